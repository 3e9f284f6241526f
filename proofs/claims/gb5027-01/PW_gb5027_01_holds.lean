import PyProof.Rows.All
import Wide.All
import OpenK.AllK
import Wide.FinOn
import PySem.Challenge.RW_gb5027_01
open PySem PySem.W PyProof.Rows
set_option Elab.async false
namespace Mine
set_option maxRecDepth 100000 in
set_option maxHeartbeats 8000000 in
open_top hd for PySem.Challenge.rw_gb5027_01
end Mine

open PySem PySem.W PyProof.Rows
set_option Elab.async false
set_option linter.unusedVariables false
namespace Mine

/-- plain data of the subset -/
inductive D where
  | none
  | bool (b : Bool)
  | int (i : Int)
  | str (s : PySem.Str)
  | tup (l : List D)
  | list (l : List D)
  | br (b : Bool) (n : Int)
  | rng (a b : Int)
  | val (v : Value)
  deriving Inhabited

/-- the class BreakResult's address -/
def brC : Addr := 343

abbrev Kp (h h' : Heap) : Prop := ∀ b o, h.get? b = some o → h'.get? b = some o

mutual
def Rep (h : Heap) (own : List Addr) : D → Value → Prop
  | .none, v => v = .none
  | .bool b, v => v = .bool b
  | .int i, v => ∃ t, v = .int i t
  | .str s, v => ∃ t, v = .str s t
  | .tup l, v => ∃ a vs, v = .ref a ∧ a ∉ own ∧ IsTup h a vs ∧ Reps h own l vs.toList
  | .list l, v => ∃ a vs, v = .ref a ∧ a ∉ own ∧ h.IsList a vs ∧ Reps h own l vs.toList
  | .br b n, v => ∃ a dx od t, v = .ref a ∧ a ∉ own ∧ dx ∉ own ∧ h.get? a = some { cls := .ref brC, dict := some dx, data := .seq #[.bool b, .int n t] } ∧ h.get? dx = some od
  | .rng a b, v => ∃ r t u w, v = .ref r ∧ r ∉ own ∧ IsRange h r a b 1 t u w
  | .val v', v => v = v'
def Reps (h : Heap) (own : List Addr) : List D → List Value → Prop
  | [], vs => vs = []
  | d :: l, vs => ∃ v r, vs = v :: r ∧ Rep h own d v ∧ Reps h own l r
end

/-- what is laid in a heap stays so, for fewer own addresses, or new ones -/
def Away (h : Heap) (own own' : List Addr) : Prop := ∀ a, a ∈ own' → a ∈ own ∨ h.get? a = none

theorem Away.out {h : Heap} {own own' : List Addr} (ha : Away h own own') {a : Addr} (hn : a ∉ own) {o : Obj} (ho : h.get? a = some o) : a ∉ own' := fun hm => by
  rcases ha a hm with q | q
  · exact hn q
  · rw [q] at ho; cases ho
mutual
theorem Rep.mono {h h' : Heap} {own own' : List Addr} (hk : ∀ b o, b ∉ own → h.get? b = some o → h'.get? b = some o) (ha : Away h own own') : ∀ {d : D} {v : Value}, Rep h own d v → Rep h' own' d v
  | .none, _, r => r
  | .bool _, _, r => r
  | .int _, _, r => r
  | .str _, _, r => r
  | .val _, _, r => r
  | .tup l, _, ⟨a, vs, e, hn, ⟨o, ho, hr⟩, hs⟩ => ⟨a, vs, e, ha.out hn ho, ⟨o, hk a o hn ho, hr⟩, Reps.mono hk ha hs⟩
  | .list l, _, ⟨a, vs, e, hn, ⟨o, ho, hr⟩, hs⟩ => ⟨a, vs, e, ha.out hn ho, ⟨o, hk a o hn ho, hr⟩, Reps.mono hk ha hs⟩
  | .br _ _, _, ⟨a, dx, od, t, e, hn, hn', ho, ho'⟩ => ⟨a, dx, od, t, e, ha.out hn ho, ha.out hn' ho', hk a _ hn ho, hk dx _ hn' ho'⟩
  | .rng _ _, _, ⟨a, t, u, w, e, hn, ho⟩ => ⟨a, t, u, w, e, ha.out hn ho, hk a _ hn ho⟩
theorem Reps.mono {h h' : Heap} {own own' : List Addr} (hk : ∀ b o, b ∉ own → h.get? b = some o → h'.get? b = some o) (ha : Away h own own') : ∀ {l : List D} {vs : List Value}, Reps h own l vs → Reps h' own' l vs
  | [], _, r => r
  | _ :: _, _, ⟨v, r, e, h1, h2⟩ => ⟨v, r, e, Rep.mono hk ha h1, Reps.mono hk ha h2⟩
end

theorem Away.same (h : Heap) (own : List Addr) : Away h own own := fun _ h => .inl h
theorem Rep.grow {h h' : Heap} {own : List Addr} {d : D} {v : Value} (r : Rep h own d v) (hk : Kp h h') : Rep h' own d v := r.mono (fun b o _ => hk b o) (.same _ _)
theorem Reps.grow {h h' : Heap} {own : List Addr} {d : List D} {v : List Value} (r : Reps h own d v) (hk : Kp h h') : Reps h' own d v := r.mono (fun b o _ => hk b o) (.same _ _)
theorem Reps.length {h : Heap} {own : List Addr} : ∀ {l : List D} {vs : List Value}, Reps h own l vs → vs.length = l.length
  | [], _, r => by rw [r]; rfl
  | _ :: _, _, ⟨_, _, e, _, h2⟩ => by rw [e, List.length_cons, List.length_cons, Reps.length h2]
theorem Reps.get {h : Heap} {own : List Addr} : ∀ {l : List D} {vs : List Value}, Reps h own l vs → ∀ {i : Nat} {d : D}, l[i]? = some d → ∃ v, vs[i]? = some v ∧ Rep h own d v
  | [], _, _, _, _, e => by simp at e
  | d :: l, _, ⟨v, r, e, h1, h2⟩, 0, d', e' => by
    subst e
    simp only [List.getElem?_cons_zero, Option.some.injEq] at e'
    subst e'
    exact ⟨v, rfl, h1⟩
  | d :: l, _, ⟨v, r, e, h1, h2⟩, i + 1, d', e' => by
    subst e
    simp only [List.getElem?_cons_succ] at e' ⊢
    exact h2.get e'
theorem Reps.append {h : Heap} {own : List Addr} : ∀ {l m : List D} {vs ws : List Value}, Reps h own l vs → Reps h own m ws → Reps h own (l ++ m) (vs ++ ws)
  | [], _, _, _, r, q => by rw [r]; exact q
  | _ :: _, _, _, _, ⟨v, r, e, h1, h2⟩, q => by rw [e]; exact ⟨v, _, rfl, h1, h2.append q⟩
theorem Reps.take {h : Heap} {own : List Addr} : ∀ {l : List D} {vs : List Value}, Reps h own l vs → ∀ n : Nat, Reps h own (l.take n) (vs.take n)
  | _, _, _, 0 => by simp only [List.take_zero]; exact rfl
  | [], _, r, n + 1 => by rw [r]; exact rfl
  | _ :: _, _, ⟨v, r, e, h1, h2⟩, n + 1 => by rw [e]; exact ⟨v, _, rfl, h1, h2.take n⟩
theorem Reps.drop {h : Heap} {own : List Addr} : ∀ {l : List D} {vs : List Value}, Reps h own l vs → ∀ n : Nat, Reps h own (l.drop n) (vs.drop n)
  | _, _, r, 0 => r
  | [], _, r, n + 1 => by rw [r]; exact rfl
  | _ :: _, _, ⟨v, r, e, h1, h2⟩, n + 1 => by rw [e]; exact h2.drop n

/-- a name's content: plain data, or a list of the frame's own -/
inductive V where
  | d (d : D)
  | own (a : Addr) (l : List D)
abbrev Sto := Str → Option V
def upd (σ : Sto) (x : Str) (v : V) : Sto := fun y => if y = x then some v else σ y

def RepV (h : Heap) (own : List Addr) : V → Value → Prop
  | .d d, v => Rep h own d v
  | .own a l, v => v = .ref a ∧ a ∈ own ∧ ∃ vs n, h.get? a = some (listOf vs n) ∧ Reps h own l vs.toList

/-- the facts of the top that no step changes -/
structure Stat (K : Frag) (mg mb : Str → Option Value) (h : Heap) : Prop where
  g : h.Ns mainGlobals mg
  b : h.Ns builtinsNs mb
  boot : ∀ x : Str, x ≠ "__name__" → mb x = bootBuiltins x
  nolimit : h.NoLimit
  kin : K.In h
theorem Stat.keeps {K : Frag} {mg mb : Str → Option Value} {h h' : Heap} (T : Stat K mg mb h) (hk : Kp h h') : Stat K mg mb h' :=
  ⟨T.g.keeps hk, T.b.keeps hk, T.boot, T.nolimit.keeps hk, T.kin.keeps hk⟩

/-- hidden addresses: none of the top's, all alive -/
def Hid (K : Frag) (h : Heap) (own : List Addr) : Prop := ∀ a ∈ own, K.lookup a = none ∧ ∃ o, h.get? a = some o
theorem Hid.keeps {K : Frag} {h h' : Heap} {own : List Addr} (H : Hid K h own) (hk : Kp h h') : Hid K h' own := fun a m => ⟨(H a m).1, (H a m).2.imp fun o e => hk a o e⟩
theorem Hid.new {K : Frag} {h : Heap} {own : List Addr} (H : Hid K h own) : h.objs.size ∉ own := fun m => by
  obtain ⟨o, e⟩ := (H _ m).2
  exact absurd (Heap.lt_size e) (Nat.lt_irrefl _)
theorem get_size (h : Heap) : h.get? h.objs.size = none := by
  cases q : h.get? h.objs.size with
  | none => rfl
  | some o => exact absurd (Heap.lt_size q) (Nat.lt_irrefl _)
def isVar (k : Option NameKind) : Prop := k = some .local ∨ k = some .cell ∨ k = some .free

/-- the frame at hand: S₀ the state at its entry; own: what no datum may name; av: what the callers hide -/
structure Good (K : Frag) (mg mb : Str → Option Value) (S₀ : Shared) (av own : List Addr) (env : Env) (σ : Sto) (s : Shared) : Prop where
  stat : Stat K mg mb S₀.heap
  keep : Kp S₀.heap s.heap
  hid : Hid K s.heap own
  av : ∀ a ∈ av, a ∈ own
  lown : env.locals ∈ own
  lnew : S₀.heap.get? env.locals = none
  ns : ∃ m, s.heap.Ns env.locals m ∧ ∀ x v, σ x = some v → env.kindOf x = some .local → ∃ u, m x = some u ∧ RepV s.heap own v u
  cells : ∀ x c, env.cells.lookup x = some c → c ∈ own ∧ c ≠ env.locals ∧ S₀.heap.get? c = none ∧ ∃ u, s.heap.IsCell c u
  cellv : ∀ x v, σ x = some v → env.kindOf x = some .cell ∨ env.kindOf x = some .free → ∃ c u, env.cells.lookup x = some c ∧ s.heap.IsCell c (some u) ∧ RepV s.heap own v u
  cinj : ∀ x y c, env.cells.lookup x = some c → env.cells.lookup y = some c → x = y
  chas : ∀ x, env.kindOf x = some .cell ∨ env.kindOf x = some .free → ∃ c, env.cells.lookup x = some c
  vars : ∀ x v, σ x = some v → isVar (env.kindOf x) ∧ (x == ("__debug__" : Str)) = false ∧ (x == ("__classdict__" : Str)) = false
  ownl : ∀ x a l, σ x = some (.own a l) → a ≠ env.locals ∧ S₀.heap.get? a = none ∧ ∀ y c, env.cells.lookup y = some c → c ≠ a
  kind : env.scope.kind = .function
  glob : env.globals = mainGlobals
  blt : env.builtins = builtinsNs
  gens : ∃ more, s.gens = S₀.gens ++ more ∧ AllBare more
  os : s.os = S₀.os

/-- a step that only makes new things -/
structure Ext (s s' : Shared) : Prop where
  keep : Kp s.heap s'.heap
  gens : ∃ more, s'.gens = s.gens ++ more ∧ AllBare more
  os : s'.os = s.os
theorem Ext.refl (s : Shared) : Ext s s := ⟨fun _ _ h => h, ⟨#[], by simp, AllBare.empty⟩, rfl⟩
theorem allBare_append {a b : Array GenState} (ha : AllBare a) (hb : AllBare b) : AllBare (a ++ b) := fun y hy => by
  rcases Array.mem_append.mp hy with h | h
  · exact ha y h
  · exact hb y h
theorem Ext.trans {s s' s'' : Shared} (x : Ext s s') (y : Ext s' s'') : Ext s s'' := by
  obtain ⟨m, e, b⟩ := x.gens
  obtain ⟨m', e', b'⟩ := y.gens
  exact ⟨fun b o h => y.keep b o (x.keep b o h), ⟨m ++ m', by rw [e', e, Array.append_assoc], allBare_append b b'⟩, y.os.trans x.os⟩
theorem Ext.toks {s : Shared} (n : Nat) : Ext s { s with toks := n } := ⟨fun _ _ h => h, ⟨#[], by simp, AllBare.empty⟩, rfl⟩
theorem Ext.heap {s : Shared} {h : Heap} (hk : Kp s.heap h) (n : Nat) : Ext s { s with heap := h, toks := n } := ⟨hk, ⟨#[], by simp, AllBare.empty⟩, rfl⟩
theorem kp_push (h : Heap) (o : Obj) : Kp h (h.push o) := fun _ _ e => Heap.get?_push_of_some _ e

theorem RepV.grow {h h' : Heap} {own : List Addr} (hk : Kp h h') : ∀ {v : V} {u : Value}, RepV h own v u → RepV h' own v u
  | .d _, _, r => Rep.grow r hk
  | .own a l, _, ⟨e, m, vs, n, ho, hr⟩ => ⟨e, m, vs, n, hk _ _ ho, Reps.grow hr hk⟩

section
variable {K : Frag} {mg mb : Str → Option Value} {S₀ : Shared} {av own : List Addr} {env : Env} {σ : Sto} {s s' : Shared}
theorem Good.ext (G : Good K mg mb S₀ av own env σ s) (x : Ext s s') : Good K mg mb S₀ av own env σ s' := by
  obtain ⟨mo, e, b⟩ := G.gens
  obtain ⟨mo', e', b'⟩ := x.gens
  obtain ⟨m, hm, hv⟩ := G.ns
  exact { stat := G.stat, keep := fun b o h => x.keep b o (G.keep b o h), hid := G.hid.keeps x.keep, av := G.av, lown := G.lown, lnew := G.lnew,
          ns := ⟨m, hm.keeps x.keep, fun y v h1 h2 => (hv y v h1 h2).imp fun u hu => ⟨hu.1, hu.2.grow x.keep⟩⟩,
          cells := fun y c h => let ⟨a, b, n, u, hu⟩ := G.cells y c h; ⟨a, b, n, u, hu.keeps x.keep⟩,
          cellv := fun y v h1 h2 => let ⟨c, u, a, b, r⟩ := G.cellv y v h1 h2; ⟨c, u, a, b.keeps x.keep, r.grow x.keep⟩,
          cinj := G.cinj, chas := G.chas, vars := G.vars, ownl := G.ownl, kind := G.kind, glob := G.glob, blt := G.blt,
          gens := ⟨mo ++ mo', by rw [e', e, Array.append_assoc], allBare_append b b'⟩, os := x.os.trans G.os }
theorem Good.stat' (G : Good K mg mb S₀ av own env σ s) : Stat K mg mb s.heap := G.stat.keeps G.keep
end

end Mine

open PySem PySem.W PyProof.Rows PySem.Calls
set_option Elab.async false
set_option linter.unusedVariables false
namespace Mine

structure Cx where
  prog : Program
  w : World
  K : Frag
  mg : Str → Option Value
  mb : Str → Option Value
  S₀ : Shared
  av : List Addr
  A : Around
  env : Env

structure Room (A : Around) (n : Nat) : Prop where
  handled : A.handled = none
  depth : A.depth + n < recursionLimit
  units : A.units + 8 * n < cLine
theorem Room.le {A : Around} {n m : Nat} (R : Room A n) (h : m ≤ n) : Room A m := ⟨R.handled, by have := R.depth; omega, by have := R.units; omega⟩
theorem Room.deeper {A : Around} {n : Nat} (R : Room A (n + 1)) (env : Env) : Room (A.deeper env) n := ⟨R.handled, by have := R.depth; show A.depth + 1 + n < _; omega, by have := R.units; show A.units + 3 + 8 * n < _; omega⟩

abbrev Cx.G (c : Cx) (own : List Addr) (σ : Sto) (s : Shared) : Prop := Good c.K c.mg c.mb c.S₀ c.av own c.env σ s
abbrev Cx.wp {α : Type} (c : Cx) (t : Sem α) (Q : α → Shared → Prop) (E : Value → Shared → Prop) (s : Shared) : Prop := wpAny (model c.prog c.w) c.A t Q E s

/-- an expression's value -/
def SE (c : Cx) (σ : Sto) (e : Expr) (d : D) : Prop :=
  ∀ own s Q E, c.G own σ s → (∀ v s', Ext s s' → Rep s'.heap own d v → Q v s') → c.wp (eval e c.env) Q E s
/-- a test's value -/
def SB (c : Cx) (σ : Sto) (e : Expr) (b : Bool) : Prop :=
  ∀ own s Q E, c.G own σ s → (∀ s', Ext s s' → Q b s') → c.wp (isTrue e c.env (eval e c.env)) Q E s

inductive FD where
  | next | brk | cont
  | ret (d : D)
def FlowRep (h : Heap) (own : List Addr) : FD → Flow → Prop
  | .next, f => f = .next
  | .brk, f => f = .brk
  | .cont, f => f = .cont
  | .ret d, f => ∃ v, f = .ret v ∧ Rep h own d v
/-- statements: what holds behind them -/
def SX (c : Cx) (σ : Sto) (ss : List Stmt) (P : FD → Sto → Prop) : Prop :=
  ∀ own s Q E, c.G own σ s → (∀ fl fd σ' own' s', P fd σ' → c.G own' σ' s' → FlowRep s'.heap own' fd fl → Q fl s') → c.wp (execs ss c.env) Q E s

section
variable {c : Cx} {σ : Sto}

theorem SE.none {k pos} : SE c σ (.Constant .none k pos) .none := fun own s Q E G h => wpAny_Constant_none (h _ _ (.refl s) rfl)
theorem SE.bool {b k pos} : SE c σ (.Constant (.bool b) k pos) (.bool b) := fun own s Q E G h => wpAny_Constant_bool (h _ _ (.refl s) rfl)
theorem SE.int {i k pos} : SE c σ (.Constant (.int i) k pos) (.int i) := fun own s Q E G h => wpAny_Constant_int (h _ _ (.toks _) ⟨_, rfl⟩)
theorem SE.str {x k pos} : SE c σ (.Constant (.str x) k pos) (.str x) := fun own s Q E G h => wpAny_Constant_str (h _ _ (.toks _) ⟨_, rfl⟩)

theorem load_var {own : List Addr} {s : Shared} {x : Str} {v : V} (G : c.G own σ s) (hx : σ x = some v) {Q : Value → Shared → Prop} {E : Value → Shared → Prop} (h : ∀ u, RepV s.heap own v u → Q u s) : c.wp (loadName c.env x) Q E s := by
  obtain ⟨hv, hd, hc⟩ := G.vars x v hx
  rcases hv with hk | hk | hk
  · obtain ⟨m, hm, hv⟩ := G.ns
    obtain ⟨u, hu, r⟩ := hv x v hx hk
    exact wpAny_loadName_local G.kind hk hm hu (h u r)
  · obtain ⟨a, u, h1, h2, r⟩ := G.cellv x v hx (.inl hk)
    exact wpAny_loadName_cell G.kind hk h1 h2 (h u r)
  · obtain ⟨a, u, h1, h2, r⟩ := G.cellv x v hx (.inr hk)
    exact wpAny_loadName_free G.kind hk h1 h2 (h u r) hc

/-- a name bound to data -/
def Look (σ : Sto) (x : Str) (v : V) : Prop := σ x = some v
theorem Look.here {x : Str} {v : V} : Look (upd σ x v) x v := by unfold Look upd; simp
theorem Look.there {x y : Str} {v v' : V} (hne : (x == y) = false) (h : Look σ x v) : Look (upd σ y v') x v := by
  unfold Look upd
  rw [if_neg (by intro e; rw [e] at hne; simp at hne)]; exact h
theorem SE.name {x : Str} {d : D} {pos} (h : Look σ x (.d d)) : SE c σ (.Name x pos) d := fun own s Q E G hq =>
  wpAny_Name (load_var G h fun u r => hq u s (.refl s) r) (G.vars x _ h).2.1

theorem load_glob {own : List Addr} {s : Shared} {x : Str} {v : Value} (G : c.G own σ s) (hk : c.env.kindOf x = some .globalImplicit) (hv : nsIn c.K mainGlobals x = some (some v)) (hd : (x == ("__debug__" : Str)) = false) {pos} {Q : Value → Shared → Prop} {E : Value → Shared → Prop} (h : Q v s) : c.wp (eval (.Name x pos) c.env) Q E s := by
  refine Name_function_global G.kind hk ?_ hd
  have T := G.stat'
  exact loadGlobal_global (mg := c.mg) (by rw [G.glob]; exact T.g) (mg_of T.kin T.g hv) h
/-- a global name: a thing of the top -/
theorem SE.glob {x : Str} {v : Value} {pos} (hk : c.env.kindOf x = some .globalImplicit) (hv : nsIn c.K mainGlobals x = some (some v)) (hd : (x == ("__debug__" : Str)) = false) : SE c σ (.Name x pos) (.val v) :=
  fun own s Q E G h => load_glob G hk hv hd (h v s (.refl s) rfl)
/-- a global name whose data is known -/
theorem SE.globD {x : Str} {v : Value} {d : D} {pos} (hk : c.env.kindOf x = some .globalImplicit) (hv : nsIn c.K mainGlobals x = some (some v)) (hd : (x == ("__debug__" : Str)) = false) (hr : ∀ h own, c.K.In h → (∀ a ∈ own, c.K.lookup a = Option.none) → Rep h own d v) : SE c σ (.Name x pos) d :=
  fun own s Q E G h => load_glob G hk hv hd (h v s (.refl s) (hr _ _ G.stat'.kin fun a m => (G.hid a m).1))
theorem mg_none {K : Frag} {h : Heap} {mg : Str → Option Value} {n : Str} (X : K.In h) (G : h.Ns mainGlobals mg) (e : nsIn K mainGlobals n = some none) : mg n = none := by
  obtain ⟨o, es, ep, ho, hd, hk, hf⟩ := G
  unfold nsIn at e
  split at e
  · rename_i c d es' n' sl q
    have := X _ _ q
    rw [ho] at this
    cases this
    cases hd
    split at e
    · cases e
    · rename_i z
      rw [← hf]
      unfold nsFind findBy
      rw [← Array.find?_toList, z]; rfl
  · cases e
/-- a built-in's name -/
theorem SE.blt {x : Str} {v : Value} {pos} (hk : c.env.kindOf x = some .globalImplicit) (hv : nsIn c.K mainGlobals x = some Option.none) (hb : bootBuiltins x = some v) (hd : (x == ("__debug__" : Str)) = false) (hn : (x == ("__name__" : Str)) = false) : SE c σ (.Name x pos) (.val v) :=
  fun own s Q E G h => by
    refine Name_function_global G.kind hk ?_ hd
    have T := G.stat'
    refine loadGlobal_builtin (mg := c.mg) (mb := c.mb) (by rw [G.glob]; exact T.g) (mg_none T.kin T.g hv) (by rw [G.blt]; exact T.b) ((T.boot x (by intro e; rw [e] at hn; simp at hn)).trans hb) (h v s (.refl s) rfl)

/-- one comparison of data -/
def CmpOK (c : Cx) (op : CmpOp) (d₁ d₂ : D) (b : Bool) : Prop :=
  ∀ own s v₁ v₂ (Q : Value → Shared → Prop) E, Stat c.K c.mg c.mb s.heap → Hid c.K s.heap own → Rep s.heap own d₁ v₁ → Rep s.heap own d₂ v₂ → (∀ s', Ext s s' → Q (.bool b) s') → c.wp (compareOp op v₁ v₂) Q E s
/-- one binary operation -/
def BinOK (c : Cx) (op : Operator) (d₁ d₂ d : D) : Prop :=
  ∀ own s v₁ v₂ (Q : Value → Shared → Prop) E, Stat c.K c.mg c.mb s.heap → Hid c.K s.heap own → Rep s.heap own d₁ v₁ → Rep s.heap own d₂ v₂ → (∀ v s', Ext s s' → Rep s'.heap own d v → Q v s') → c.wp (binaryOp op v₁ v₂) Q E s

theorem SE.cmp {l r op pos d₁ d₂ b} (h₁ : SE c σ l d₁) (h₂ : SE c σ r d₂) (hc : CmpOK c op d₁ d₂ b) (hm : behindInMarks op r = false := by with_unfolding_all rfl) : SE c σ (.Compare l [op] [r] pos) (.bool b) :=
  fun own s Q E G h => wpAny_Compare1 (h₁ _ _ _ _ G fun v s₁ x₁ r₁ => h₂ _ _ _ _ (G.ext x₁) fun u s₂ x₂ r₂ =>
    hc own s₂ v u _ _ (G.ext (x₁.trans x₂)).stat' (G.ext (x₁.trans x₂)).hid (r₁.grow x₂.keep) r₂ fun s₃ x₃ => h _ _ ((x₁.trans x₂).trans x₃) rfl) hm
theorem SB.cmp {l r op pos d₁ d₂ b} (h₁ : SE c σ l d₁) (h₂ : SE c σ r d₂) (hc : CmpOK c op d₁ d₂ b) (hm : behindInMarks op r = false := by with_unfolding_all rfl) : SB c σ (.Compare l [op] [r] pos) b :=
  fun own s Q E G h => wpAny_isTrue_Compare1 (h₁ _ _ _ _ G fun v s₁ x₁ r₁ => h₂ _ _ _ _ (G.ext x₁) fun u s₂ x₂ r₂ =>
    hc own s₂ v u _ _ (G.ext (x₁.trans x₂)).stat' (G.ext (x₁.trans x₂)).hid (r₁.grow x₂.keep) r₂ fun s₃ x₃ => wpAny_truthy_bool (h _ ((x₁.trans x₂).trans x₃))) hm
theorem SE.bin {l r op pos d₁ d₂ d} (h₁ : SE c σ l d₁) (h₂ : SE c σ r d₂) (hb : BinOK c op d₁ d₂ d) : SE c σ (.BinOp l op r pos) d :=
  fun own s Q E G h => wpAny_BinOp (h₁ _ _ _ _ G fun v s₁ x₁ r₁ => h₂ _ _ _ _ (G.ext x₁) fun u s₂ x₂ r₂ =>
    hb own s₂ v u _ _ (G.ext (x₁.trans x₂)).stat' (G.ext (x₁.trans x₂)).hid (r₁.grow x₂.keep) r₂ fun v₃ s₃ x₃ => h _ _ ((x₁.trans x₂).trans x₃))

theorem CmpOK.eqI {a b : Int} : CmpOK c .Eq (.int a) (.int b) (a == b) := by
  rintro own s v u Q E T H ⟨_, rfl⟩ ⟨_, rfl⟩ h; exact eq_int (h s (.refl s))
theorem CmpOK.neI {a b : Int} : CmpOK c .NotEq (.int a) (.int b) (a != b) := by
  rintro own s v u Q E T H ⟨_, rfl⟩ ⟨_, rfl⟩ h; exact ne_int (h s (.refl s))
theorem CmpOK.ltI {a b : Int} : CmpOK c .Lt (.int a) (.int b) (decide (a < b)) := by
  rintro own s v u Q E T H ⟨_, rfl⟩ ⟨_, rfl⟩ h; exact lt_int (h s (.refl s))
theorem CmpOK.leI {a b : Int} : CmpOK c .LtE (.int a) (.int b) (decide (a ≤ b)) := by
  rintro own s v u Q E T H ⟨_, rfl⟩ ⟨_, rfl⟩ h; exact le_int (h s (.refl s))
theorem CmpOK.gtI {a b : Int} : CmpOK c .Gt (.int a) (.int b) (decide (b < a)) := by
  rintro own s v u Q E T H ⟨_, rfl⟩ ⟨_, rfl⟩ h; exact gt_int (h s (.refl s))
theorem CmpOK.geI {a b : Int} : CmpOK c .GtE (.int a) (.int b) (decide (b ≤ a)) := by
  rintro own s v u Q E T H ⟨_, rfl⟩ ⟨_, rfl⟩ h; exact ge_int (h s (.refl s))
theorem CmpOK.eqS {a b : Str} : CmpOK c .Eq (.str a) (.str b) (a == b) := by
  rintro own s v u Q E T H ⟨_, rfl⟩ ⟨_, rfl⟩ h; exact eq_str (h s (.refl s))
theorem CmpOK.neS {a b : Str} : CmpOK c .NotEq (.str a) (.str b) (a != b) := by
  rintro own s v u Q E T H ⟨_, rfl⟩ ⟨_, rfl⟩ h; exact ne_str (h s (.refl s))
theorem BinOK.addI {a b : Int} : BinOK c .Add (.int a) (.int b) (.int (a + b)) := by
  rintro own s v u Q E T H ⟨_, rfl⟩ ⟨_, rfl⟩ h; exact add_int (h _ _ (.toks _) ⟨_, rfl⟩)
theorem BinOK.subI {a b : Int} : BinOK c .Sub (.int a) (.int b) (.int (a - b)) := by
  rintro own s v u Q E T H ⟨_, rfl⟩ ⟨_, rfl⟩ h; exact sub_int (h _ _ (.toks _) ⟨_, rfl⟩)
theorem BinOK.modI {a b : Int} (hb : b ≠ 0) : BinOK c .Mod (.int a) (.int b) (.int (a.fmod b)) := by
  rintro own s v u Q E T H ⟨_, rfl⟩ ⟨_, rfl⟩ h; exact mod_int' hb (h _ _ (.toks _) ⟨_, rfl⟩)
theorem BinOK.divI {a b : Int} (hb : b ≠ 0) (hp : Builtin.divisionGoesByPylong a b = false) : BinOK c .FloorDiv (.int a) (.int b) (.int (a.fdiv b)) := by
  rintro own s v u Q E T H ⟨_, rfl⟩ ⟨_, rfl⟩ h; exact floordiv_int hb (h _ _ (.toks _) ⟨_, rfl⟩) (.inl hp)
theorem BinOK.mulI {a b : Int} (hm : IntMulOk a b) : BinOK c .Mult (.int a) (.int b) (.int (a * b)) := by
  rintro own s v u Q E T H ⟨_, rfl⟩ ⟨_, rfl⟩ h; exact mul_int (h _ _ (.toks _) ⟨_, rfl⟩) hm
theorem BinOK.addS {a b : Str} (hsz : a.length + b.length ≤ sizeLine) : BinOK c .Add (.str a) (.str b) (.str (a ++ b)) := by
  rintro own s v u Q E T H ⟨_, rfl⟩ ⟨_, rfl⟩ h; exact add_str (fun t tk => h _ _ (.toks _) ⟨_, rfl⟩) hsz
end
end Mine

open PySem PySem.W PyProof.Rows PySem.Calls
set_option Elab.async false
set_option linter.unusedVariables false
namespace Mine

/-- a name that the frame may store -/
def varOk (env : Env) (x : Str) : Bool := (match env.kindOf x with | some .local => true | some .cell => true | _ => false) && !(x == ("__debug__" : Str)) && !(x == ("__classdict__" : Str))
theorem varOk_parts {env : Env} {x : Str} (h : varOk env x = true) : (env.kindOf x = some .local ∨ env.kindOf x = some .cell) ∧ (x == ("__debug__" : Str)) = false ∧ (x == ("__classdict__" : Str)) = false := by
  unfold varOk at h
  simp only [Bool.and_eq_true, Bool.not_eq_true'] at h
  refine ⟨?_, h.1.2, h.2⟩
  have h1 := h.1.1
  split at h1 <;> first | exact .inl (by assumption) | exact .inr (by assumption) | cases h1

theorem sameBut_get {a : Addr} {h h' : Heap} (hs : Heap.SameBut a h h') {b : Addr} (hb : b ≠ a) {o : Obj} (ho : h.get? b = some o) : h'.get? b = some o := (hs.2 b hb).trans ho

section
variable {c : Cx} {σ : Sto} {own : List Addr} {s : Shared}
theorem RepV.same {h h' : Heap} {own : List Addr} {a : Addr} (ha : a ∈ own) (hs : Heap.SameBut a h h') : ∀ {v : V} {u : Value}, (∀ b l, v = .own b l → b ≠ a) → RepV h own v u → RepV h' own v u
  | .d _, _, _, r => Rep.mono (fun b o hb ho => sameBut_get hs (fun e => hb (e ▸ ha)) ho) (.same _ _) r
  | .own b l, _, hb, ⟨e, m, vs, n, ho, hr⟩ => ⟨e, m, vs, n, sameBut_get hs (hb b l rfl) ho, Reps.mono (fun b o hb ho => sameBut_get hs (fun e => hb (e ▸ ha)) ho) (.same _ _) hr⟩

theorem cellC (G : c.G own σ s) {x y : Str} {a b : Addr} (hx : c.env.cells.lookup x = some a) (hy : c.env.cells.lookup y = some b) (hne : x ≠ y) : a ≠ b := fun e => hne (G.cinj x y a hx (e ▸ hy))

theorem Good.store (G : c.G own σ s) {x : Str} (hx : varOk c.env x = true) {v : V} {u : Value} (r : RepV s.heap own v u) (hv : ∀ a l, v = .own a l → a ≠ c.env.locals ∧ c.S₀.heap.get? a = none ∧ ∀ y b, c.env.cells.lookup y = some b → b ≠ a)
    {Q : Unit → Shared → Prop} {E : Value → Shared → Prop} (h : ∀ s', c.G own (upd σ x v) s' → Q () s') : c.wp (storeName c.env x u) Q E s := by
  obtain ⟨hk, hd, hc⟩ := varOk_parts hx
  obtain ⟨m, hm, hmv⟩ := G.ns
  rcases hk with hk | hk
  · refine wpAny_storeName_local hk hm (fun h' hn hs => h _ ?_) (by rw [G.kind]; rfl)
    have nL : ∀ b o, c.S₀.heap.get? b = some o → b ≠ c.env.locals := fun b o ho e => by rw [e, G.lnew] at ho; cases ho
    have rep : ∀ {v : V} {u : Value}, (∀ a l, v = .own a l → a ≠ c.env.locals) → RepV s.heap own v u → RepV h' own v u := fun hb r => r.same G.lown hs hb
    exact { stat := G.stat, keep := fun b o ho => sameBut_get hs (nL b o ho) (G.keep b o ho), hid := fun b m => ⟨(G.hid b m).1, by
              obtain ⟨o, ho⟩ := (G.hid b m).2
              by_cases e : b = c.env.locals
              · rw [e]; exact (let ⟨o, _, _, ho, _⟩ := hn; ⟨o, ho⟩)
              · exact ⟨o, sameBut_get hs e ho⟩⟩, av := G.av, lown := G.lown, lnew := G.lnew,
            ns := ⟨_, hn, fun y w hy hyk => by
              unfold upd at hy
              by_cases e : y = x
              · subst e; rw [if_pos rfl] at hy; cases hy; exact ⟨u, by simp, rep (fun a l e => (hv a l e).1) r⟩
              · rw [if_neg e] at hy
                obtain ⟨u', h1, h2⟩ := hmv y w hy hyk
                exact ⟨u', by simp [e, h1], rep (fun a l q => (G.ownl y a l (q ▸ hy)).1) h2⟩⟩,
            cells := fun y b hb => let ⟨h1, h2, n, u', h3⟩ := G.cells y b hb; ⟨h1, h2, n, u', h3.sameBut hs h2⟩,
            cellv := fun y w hy hyk => by
              unfold upd at hy
              by_cases e : y = x
              · subst e; rw [hk] at hyk; rcases hyk with q | q <;> cases q
              · rw [if_neg e] at hy
                obtain ⟨b, u', h1, h2, h3⟩ := G.cellv y w hy hyk
                exact ⟨b, u', h1, h2.sameBut hs (G.cells y b h1).2.1, rep (fun a l q => (G.ownl y a l (q ▸ hy)).1) h3⟩,
            cinj := G.cinj, chas := G.chas,
            vars := fun y w hy => by
              unfold upd at hy
              by_cases e : y = x
              · subst e; exact ⟨.inl hk, hd, hc⟩
              · rw [if_neg e] at hy; exact G.vars y w hy,
            ownl := fun y a l hy => by
              unfold upd at hy
              by_cases e : y = x
              · rw [if_pos e] at hy; cases hy; exact hv a l rfl
              · rw [if_neg e] at hy; exact G.ownl y a l hy,
            kind := G.kind, glob := G.glob, blt := G.blt, gens := G.gens, os := G.os }
  · obtain ⟨a, ha⟩ := G.chas x (.inl hk)
    obtain ⟨haO, haL, haN, u₀, hcell⟩ := G.cells x a ha
    refine wpAny_storeName_cell G.kind hk ha hcell (fun h' hn hs => h _ ?_)
    have nL : ∀ b o, c.S₀.heap.get? b = some o → b ≠ a := fun b o ho e => by rw [e, haN] at ho; cases ho
    have rep : ∀ {v : V} {u : Value}, (∀ b l, v = .own b l → b ≠ a) → RepV s.heap own v u → RepV h' own v u := fun hb r => r.same haO hs hb
    exact { stat := G.stat, keep := fun b o ho => sameBut_get hs (nL b o ho) (G.keep b o ho), hid := fun b m => ⟨(G.hid b m).1, by
              obtain ⟨o, ho⟩ := (G.hid b m).2
              by_cases e : b = a
              · rw [e]; exact (let ⟨o, ho, _⟩ := hn; ⟨o, ho⟩)
              · exact ⟨o, sameBut_get hs e ho⟩⟩, av := G.av, lown := G.lown, lnew := G.lnew,
            ns := ⟨m, hm.at' fun o e => sameBut_get hs (Ne.symm haL) e, fun y w hy hyk => by
              unfold upd at hy
              by_cases e : y = x
              · subst e; rw [hk] at hyk; cases hyk
              · rw [if_neg e] at hy
                obtain ⟨u', h1, h2⟩ := hmv y w hy hyk
                exact ⟨u', h1, rep (fun b l q => Ne.symm ((G.ownl y b l (q ▸ hy)).2.2 x a ha)) h2⟩⟩,
            cells := fun y b hb => by
              obtain ⟨h1, h2, n, u', h3⟩ := G.cells y b hb
              by_cases e : b = a
              · subst e; exact ⟨h1, h2, n, _, hn⟩
              · exact ⟨h1, h2, n, u', h3.sameBut hs e⟩,
            cellv := fun y w hy hyk => by
              unfold upd at hy
              by_cases e : y = x
              · subst e; rw [if_pos rfl] at hy; cases hy
                exact ⟨a, u, ha, hn, rep (fun b l q => Ne.symm ((hv b l q).2.2 _ a ha)) r⟩
              · rw [if_neg e] at hy
                obtain ⟨b, u', h1, h2, h3⟩ := G.cellv y w hy hyk
                exact ⟨b, u', h1, h2.sameBut hs (cellC G h1 ha e), rep (fun b l q => Ne.symm ((G.ownl y b l (q ▸ hy)).2.2 x a ha)) h3⟩,
            cinj := G.cinj, chas := G.chas,
            vars := fun y w hy => by
              unfold upd at hy
              by_cases e : y = x
              · subst e; exact ⟨.inr (.inl hk), hd, hc⟩
              · rw [if_neg e] at hy; exact G.vars y w hy,
            ownl := fun y b l hy => by
              unfold upd at hy
              by_cases e : y = x
              · rw [if_pos e] at hy; cases hy; exact hv b l rfl
              · rw [if_neg e] at hy; exact G.ownl y b l hy,
            kind := G.kind, glob := G.glob, blt := G.blt, gens := G.gens, os := G.os }

theorem Good.storeD (G : c.G own σ s) {x : Str} (hx : varOk c.env x = true) {d : D} {u : Value} (r : Rep s.heap own d u)
    {Q : Unit → Shared → Prop} {E : Value → Shared → Prop} (h : ∀ s', c.G own (upd σ x (.d d)) s' → Q () s') : c.wp (storeName c.env x u) Q E s :=
  Good.store (c := c) G hx (v := .d d) r (fun _ _ e => nomatch e) h
end

section
variable {c : Cx} {σ : Sto} {P : FD → Sto → Prop} {rest : List Stmt}
theorem SX.nil (h : P .next σ) : SX c σ [] P := fun own s Q E G hq => wpAny_execs_nil (hq _ _ _ own s h G rfl)
theorem SX.mono {P' : FD → Sto → Prop} {ss} (h : SX c σ ss P) (hp : ∀ f σ', P f σ' → P' f σ') : SX c σ ss P' := fun own s Q E G hq => h own s Q E G fun fl fd σ' own' s' hP => hq fl fd σ' own' s' (hp _ _ hP)
theorem SX.assign {x p e pos d} (he : SE c σ e d) (hx : varOk c.env x = true) (h : SX c (upd σ x (.d d)) rest P)
    (hs : swapsWith e (some (.Name x p)) pos.line c.env = pure false := by rfl) : SX c σ (.Assign [.Name x p] e pos :: rest) P :=
  fun own s Q E G hq => wpAny_execs_cons (wpAny_Assign_Name (he _ _ _ _ G fun v s₁ x₁ r₁ => Good.storeD (c := c) (G.ext x₁) hx r₁ fun s₂ G₂ => h own s₂ Q E G₂ hq) hs)
theorem SX.ret {e pos d} (he : SE c σ e d) (h : P (.ret d) σ) : SX c σ (.Return (some e) pos :: rest) P :=
  fun own s Q E G hq => wpAny_execs_cons (wpAny_Return_some (he _ _ _ _ G fun v s₁ x₁ r₁ => hq _ (.ret d) σ own s₁ h (G.ext x₁) ⟨v, rfl, r₁⟩))
theorem SX.ret0 {pos} (h : P (.ret .none) σ) : SX c σ (.Return Option.none pos :: rest) P :=
  fun own s Q E G hq => wpAny_execs_cons (wpAny_Return_none (hq _ (.ret .none) σ own s h G ⟨_, rfl, rfl⟩))
theorem SX.brk {pos} (h : P .brk σ) : SX c σ (.Break pos :: rest) P :=
  fun own s Q E G hq => wpAny_execs_cons (wpAny_Break (hq _ .brk σ own s h G rfl))
/-- behind a statement -/
def Then (c : Cx) (rest : List Stmt) (P : FD → Sto → Prop) : FD → Sto → Prop
  | .next, σ => SX c σ rest P
  | f, σ => P f σ
theorem SX.if_ {test body orelse pos b} (ht : SB c σ test b) (h1 : b = true → SX c σ body (Then c rest P)) (h2 : b = false → SX c σ orelse (Then c rest P)) : SX c σ (.If test body orelse pos :: rest) P :=
  fun own s Q E G hq => wpAny_execs_cons (wpAny_If (ht _ _ _ _ G fun s₁ x₁ => by
    have key : ∀ ss, SX c σ ss (Then c rest P) → wpAny (model c.prog c.w) c.A (execs ss c.env) (fun f s' => match f with | .next => wpAny (model c.prog c.w) c.A (execs rest c.env) Q E s' | f => Q f s') E s₁ := fun ss hss =>
      hss own s₁ _ E (G.ext x₁) fun fl fd σ' own' s' hP G' hf => by
        cases fd with
        | next => cases hf; exact hP own' s' Q E G' hq
        | brk => cases hf; exact hq _ .brk _ _ _ hP G' rfl
        | cont => cases hf; exact hq _ .cont _ _ _ hP G' rfl
        | ret d => obtain ⟨v, rfl, r⟩ := hf; exact hq _ (.ret d) _ _ _ hP G' ⟨v, rfl, r⟩
    cases b with
    | true => exact key _ (h1 rfl)
    | false => exact key _ (h2 rfl)))
/-- an if whose orelse is empty and whose body leaves -/
theorem SX.if1 {test body pos b} (ht : SB c σ test b) (h1 : b = true → SX c σ body (Then c rest P)) (h2 : b = false → SX c σ rest P) : SX c σ (.If test body [] pos :: rest) P :=
  SX.if_ ht h1 fun e => SX.nil (P := Then c rest P) (h2 e)
/-- a docstring -/
theorem SX.doc {x k p pos} (h : SX c σ rest P) : SX c σ (.Expr (.Constant (.str x) k p) pos :: rest) P :=
  fun own s Q E G hq => wpAny_execs_cons (wpAny_Expr (wpAny_Constant_str (h own _ Q E (G.ext (.toks _)) hq)) (by show (c.env.scope.kind == .module && _) = false; rw [G.kind]; rfl))
/-- a while loop, by what holds ahead of each turn -/
theorem SX.while_ {test body pos} (I : Nat → Sto → Prop) (n : Nat) (h0 : I n σ)
    (turn : ∀ n σ, I n σ → ∃ b, SB c σ test b ∧ (b = true → SX c σ body fun f σ' => match f with | .next => ∃ m, m < n ∧ I m σ' | .cont => ∃ m, m < n ∧ I m σ' | .brk => SX c σ' rest P | .ret d => P (.ret d) σ') ∧ (b = false → SX c σ rest P)) :
    SX c σ (.While test body [] pos :: rest) P :=
  fun own s Q E G hq => wpAny_execs_cons (wpAny_While (codeAny_whileLoop (fun n s => ∃ own σ, I n σ ∧ c.G own σ s) (fun n s => by
    rintro ⟨own, σ, hI, G⟩
    obtain ⟨b, hb, h1, h2⟩ := turn n σ hI
    refine hb own s _ _ G fun s₁ x₁ => ?_
    cases b with
    | false => exact wpAny_execs_nil (h2 rfl own s₁ Q E (G.ext x₁) hq)
    | true =>
      refine h1 rfl own s₁ _ _ (G.ext x₁) fun fl fd σ' own' s' hP G' hf => ?_
      cases fd with
      | next => cases hf; obtain ⟨m, hm, hI'⟩ := hP; exact ⟨m, hm, own', σ', hI', G'⟩
      | cont => cases hf; obtain ⟨m, hm, hI'⟩ := hP; exact ⟨m, hm, own', σ', hI', G'⟩
      | brk => cases hf; exact hP own' s' Q E G' hq
      | ret d => obtain ⟨v, rfl, r⟩ := hf; exact hq _ (.ret d) _ _ _ hP G' ⟨v, rfl, r⟩) n ⟨own, σ, h0, G⟩))
/-- x -= e, x += e of ints -/
theorem SX.augSub {x p e pos a b} (hx : Look σ x (.d (.int a))) (he : SE c σ e (.int b)) (hv : varOk c.env x = true) (h : SX c (upd σ x (.d (.int (a - b)))) rest P) : SX c σ (.AugAssign (.Name x p) .Sub e pos :: rest) P :=
  fun own s Q E G hq => wpAny_execs_cons (wpAny_AugAssign_Name (load_var G hx fun u ⟨t, r⟩ => he _ _ _ _ G fun v s₁ x₁ ⟨t', r'⟩ => by
    subst r; subst r'
    exact PyProof.Rows.isub_int (Good.storeD (c := c) (d := .int (a - b)) (G.ext (x₁.trans (.toks _))) hv ⟨_, rfl⟩ fun s₂ G₂ => h own s₂ Q E G₂ hq)))

/-! tests -/
theorem SB.not {x pos b} (h : SB c σ x b) : SB c σ (.UnaryOp .Not x pos) (!b) := fun own s Q E G hq => isTrue_not (h own s _ E G fun s' x' => hq s' x')
/-- the items of an and, an or -/
def SBs (c : Cx) (σ : Sto) (op : BoolOp) (es : List Expr) (b : Bool) : Prop :=
  ∀ own s Q E, c.G own σ s → (∀ s', Ext s s' → Q b s') → c.wp (allTrue op es c.env) Q E s
theorem SB.boolOp {op es pos b} (h : SBs c σ op es b) : SB c σ (.BoolOp op es pos) b := fun own s Q E G hq => wpAny_isTrue_BoolOp (h own s Q E G hq)
theorem SBs.and_nil : SBs c σ .And [] true := fun own s Q E G hq => wpAny_allTrue_And_nil (hq s (.refl s))
theorem SBs.or_nil : SBs c σ .Or [] false := fun own s Q E G hq => wpAny_allTrue_Or_nil (hq s (.refl s))
theorem SBs.and_cons {e es b b'} (h : SB c σ e b) (h' : b = true → SBs c σ .And es b') : SBs c σ .And (e :: es) (b && b') := fun own s Q E G hq =>
  wpAny_bind (h own s _ _ G fun s₁ x₁ => by
    cases b with
    | false => exact wpAny_pure (hq _ x₁)
    | true => exact h' rfl own s₁ _ _ (G.ext x₁) fun s₂ x₂ => hq _ (x₁.trans x₂))
theorem SBs.or_cons {e es b b'} (h : SB c σ e b) (h' : b = false → SBs c σ .Or es b') : SBs c σ .Or (e :: es) (b || b') := fun own s Q E G hq =>
  wpAny_bind (h own s _ _ G fun s₁ x₁ => by
    cases b with
    | true => exact wpAny_pure (hq _ x₁)
    | false => exact h' rfl own s₁ _ _ (G.ext x₁) fun s₂ x₂ => hq _ (x₁.trans x₂))

theorem SB.ofInt {e i} (h : SE c σ e (.int i)) (hv : ∀ whole, isTrue e c.env whole = (do let v ← whole; standAt e.pos; holding [v] (truthy v)) := by intro _; rfl) : SB c σ e (i != 0) := fun own s Q E G hq => by
  rw [hv]
  refine wpAny_bind (h own s _ _ G fun v s₁ x₁ r => wpAny_bind (wpAny_standAt (wpAny_holding ?_)))
  obtain ⟨t, rfl⟩ := r
  exact PyProof.Rows.truthy_int (hq _ x₁)
theorem SB.ofBool {e b} (h : SE c σ e (.bool b)) (hv : ∀ whole, isTrue e c.env whole = (do let v ← whole; standAt e.pos; holding [v] (truthy v)) := by intro _; rfl) : SB c σ e b := fun own s Q E G hq => by
  rw [hv]
  refine wpAny_bind (h own s _ _ G fun v s₁ x₁ r => wpAny_bind (wpAny_standAt (wpAny_holding ?_)))
  obtain rfl := r
  exact wpAny_truthy_bool (hq _ x₁)
theorem SB.ofStr {e x} (h : SE c σ e (.str x)) (hf : x.length < 2 ^ 62) (hv : ∀ whole, isTrue e c.env whole = (do let v ← whole; standAt e.pos; holding [v] (truthy v)) := by intro _; rfl) : SB c σ e ((x.length : Int) != 0) := fun own s Q E G hq => by
  rw [hv]
  refine wpAny_bind (h own s _ _ G fun v s₁ x₁ r => wpAny_bind (wpAny_standAt (wpAny_holding ?_)))
  obtain ⟨t, rfl⟩ := r
  exact P.truthy_str (by omega) (hq _ (x₁.trans (.toks _)))
theorem SE.ifExp {test body orelse pos b d} (ht : SB c σ test b) (h1 : b = true → SE c σ body d) (h2 : b = false → SE c σ orelse d) : SE c σ (.IfExp test body orelse pos) d := fun own s Q E G hq =>
  IfExp_ (ht own s _ _ G fun s₁ x₁ => by
    cases b with
    | true => exact h1 rfl own s₁ _ _ (G.ext x₁) fun v s₂ x₂ => hq v s₂ (x₁.trans x₂)
    | false => exact h2 rfl own s₁ _ _ (G.ext x₁) fun v s₂ x₂ => hq v s₂ (x₁.trans x₂))
end
end Mine

open PySem PySem.W PyProof.Rows PySem.Calls
set_option Elab.async false
set_option linter.unusedVariables false
namespace Mine

/-- what a call of a def of the text gives -/
def Fn (prog : Program) (w : World) (K : Frag) (mg mb : Str → Option Value) (f : Addr) (n : Nat) (args : List D) (kw : List (Str × D)) (d : D) : Prop :=
  ∀ A av s vs kvs (R : Result → Shared → Prop), Stat K mg mb s.heap → Room A n → Hid K s.heap av → Reps s.heap av args vs → Reps s.heap av (kw.map (·.2)) kvs →
    (∀ v s', Ext s s' → Rep s'.heap av d v → R (.ok (.ret v)) s') → codeAny (model prog w) A (.call (.ref f) ⟨vs, (kw.map (·.1)).zip kvs⟩) R s

def stoOf (bs : List (Str × D)) (σ : Sto) : Sto := bs.foldl (fun σ b => upd σ b.1 (.d b.2)) σ
def Bnd (h : Heap) (own : List Addr) : List (Str × D) → List (Str × Value) → Prop
  | [], vs => vs = []
  | (x, d) :: l, vs => ∃ v r, vs = (x, v) :: r ∧ Rep h own d v ∧ Bnd h own l r
def empty : Sto := fun _ => none
theorem stoOf_ok {h : Heap} {own : List Addr} : ∀ (bs : List (Str × D)) (binds : List (Str × Value)) (σ : Sto) (done : List (Str × Value)),
    (∀ x v, σ x = some v → ∃ u, done.reverse.lookup x = some u ∧ RepV h own v u) → Bnd h own bs binds → ∀ x v, stoOf bs σ x = some v → ∃ u, (done ++ binds).reverse.lookup x = some u ∧ RepV h own v u
  | [], _, σ, done, hσ, hb, x, v, e => by
    cases hb; rw [List.append_nil]; exact hσ x v e
  | (y, d) :: bs, _, σ, done, hσ, ⟨u, r, e', hr, hb⟩, x, v, e => by
    subst e'
    have := stoOf_ok bs r (upd σ y (.d d)) (done ++ [(y, u)]) (fun x v hx => by
      have hl := congrFun (lookup_reverse_snoc done y u) x
      rw [hl]
      unfold upd at hx
      by_cases q : x = y
      · rw [if_pos q] at hx ⊢; cases hx; exact ⟨u, rfl, hr⟩
      · rw [if_neg q] at hx ⊢; exact hσ x v hx) hb x v e
    rwa [List.append_assoc] at this
theorem stoOf_names : ∀ (bs : List (Str × D)) (σ : Sto) x v, stoOf bs σ x = some v → σ x = some v ∨ ∃ d, (x, d) ∈ bs ∧ v = .d d
  | [], σ, x, v, e => .inl e
  | (y, d) :: bs, σ, x, v, e => by
    rcases stoOf_names bs _ x v e with h | ⟨d', h, e'⟩
    · replace h : (if x = y then some (V.d d) else σ x) = some v := h
      by_cases q : x = y
      · rw [if_pos q] at h; cases h; exact .inr ⟨d, by rw [q]; exact .head _, rfl⟩
      · rw [if_neg q] at h; exact .inl h
    · exact .inr ⟨d', .tail _ h, e'⟩
theorem Bnd.mem {h : Heap} {own : List Addr} : ∀ {bs : List (Str × D)} {binds : List (Str × Value)}, Bnd h own bs binds → ∀ y ∈ binds, ∃ d, (y.1, d) ∈ bs
  | [], _, hb, y, hy => by cases hb; cases hy
  | (x, d) :: bs, _, ⟨u, r, e, _, hb⟩, y, hy => by
    subst e
    rcases List.mem_cons.mp hy with q | q
    · subst q; exact ⟨d, .head _⟩
    · obtain ⟨d', h'⟩ := Bnd.mem hb y q; exact ⟨d', .tail _ h'⟩
theorem Bnd.mono {h h' : Heap} {own own' : List Addr} (hk : ∀ b o, b ∉ own → h.get? b = some o → h'.get? b = some o) (ha : Away h own own') : ∀ {bs : List (Str × D)} {binds : List (Str × Value)}, Bnd h own bs binds → Bnd h' own' bs binds
  | [], _, hb => hb
  | (x, d) :: bs, _, ⟨u, r, e, hr, hb⟩ => ⟨u, r, e, hr.mono hk ha, Bnd.mono hk ha hb⟩

/-- the look at a def's record -/
def plainDef (fd : FuncData) (bs : List (Str × D)) : Bool :=
  fd.scope.kind == .function && !fd.scope.isCoroutine && !fd.scope.isGenerator && fd.globals == mainGlobals && fd.builtins == builtinsNs && fd.closure.isEmpty &&
  fd.scope.names.all (fun x => x.2 != .cell && x.2 != .free) && bs.all (fun b => (fd.scope.names.lookup b.1 == some .local) && !(b.1 == ("__debug__" : Str)) && !(b.1 == ("__classdict__" : Str)))

def codeIn' (K : Frag) (fd : FuncData) : Bool := codeIn K fd.code fd.qualname

theorem lookup_mem {α β : Type} [BEq α] : ∀ {l : List (α × β)} {a : α} {b : β}, l.lookup a = some b → ∃ a', (a', b) ∈ l
  | (k, v) :: r, a, b, h => by
    rw [List.lookup_cons] at h
    split at h
    · cases h; exact ⟨k, .head _⟩
    · obtain ⟨a', h'⟩ := lookup_mem h; exact ⟨a', .tail _ h'⟩

theorem Fn.of_body {prog : Program} {w : World} {K : Frag} {mg mb : Str → Option Value} {f : Addr} {n : Nat} {args : List D} {kw : List (Str × D)} {d : D} {o : Obj} {fd : FuncData} {body : List Stmt} {bs : List (Str × D)}
    (ho : K.lookup f = some o) (hdata : o.data = .func fd) (hbody : fd.body = .stmts body) (hplain : plainDef fd bs = true) (hcode : codeIn K fd.code fd.qualname = true)
    (hbind : ∀ s av vs kvs, Stat K mg mb s.heap → Hid K s.heap av → Reps s.heap av args vs → Reps s.heap av (kw.map (·.2)) kvs → ∃ binds, BindsTo s fd ⟨vs, (kw.map (·.1)).zip kvs⟩ binds ∧ Bnd s.heap av bs binds)
    (hrun : ∀ S₀ av A L, Room A n → SX ⟨prog, w, K, mg, mb, S₀, av, A, callEnv fd L f⟩ (stoOf bs empty) body fun fl _ => fl = .ret d ∨ (fl = .next ∧ d = .none)) :
    Fn prog w K mg mb f (n + 1) args kw d := by
  intro A av s vs kvs Q T R hav hvs hkvs hQ
  obtain ⟨binds, hb, hbnd⟩ := hbind s av vs kvs T hav hvs hkvs
  unfold plainDef at hplain
  simp only [Bool.and_eq_true, Bool.not_eq_true', beq_iff_eq, List.all_eq_true, List.isEmpty_iff, bne_iff_ne, ne_eq] at hplain
  obtain ⟨⟨⟨⟨⟨⟨⟨hk, hco⟩, hge⟩, hgl⟩, hbl⟩, hcl⟩, hnames⟩, hbs⟩ := hplain
  have hL := get_size s.heap
  have hKL : K.lookup s.heap.objs.size = none := by
    cases q : K.lookup s.heap.objs.size with
    | none => rfl
    | some o => have := T.kin _ _ q; rw [hL] at this; cases this
  have hcells : (callEnv fd s.heap.objs.size f).cells = [] := hcl
  refine (codeAny_call_def (fd := fd) (body := body) (binds := binds) (Nat.lt_of_le_of_lt (Nat.le_add_right _ _) R.depth) (T.kin _ _ ho) hdata T.nolimit (codeRec_of T.kin hcode) hbody hb
    (fun x hx => (hnames x hx).1) (fun x hx => by obtain ⟨d', hd'⟩ := hbnd.mem x hx; exact (hbs _ hd').1.1) (fun h₀ hns hk₀ => ?_) hco hge hk)
  have away : Away s.heap av (s.heap.objs.size :: av) := fun a ha => by
    rcases List.mem_cons.mp ha with e | h
    · right; rw [e]; exact hL
    · exact .inl h
  have nocell : ∀ x, ¬ ((callEnv fd s.heap.objs.size f).kindOf x = some .cell ∨ (callEnv fd s.heap.objs.size f).kindOf x = some .free) := fun x hx => by
    rcases hx with hx | hx
    · obtain ⟨y, hy⟩ := lookup_mem (l := fd.scope.names) hx; exact (hnames _ hy).1 rfl
    · obtain ⟨y, hy⟩ := lookup_mem (l := fd.scope.names) hx; exact (hnames _ hy).2 rfl
  have hvar : ∀ x v, stoOf bs empty x = some v → ∃ d', (x, d') ∈ bs ∧ v = .d d' := fun x v hx => by
    rcases stoOf_names bs _ x v hx with h | h
    · cases h
    · exact h
  refine hrun s av (A.deeper (callEnv fd s.heap.objs.size f)) s.heap.objs.size (R.deeper _) (s.heap.objs.size :: av) _ _ _
    { stat := T, keep := hk₀, hid := fun a ha => by
        rcases List.mem_cons.mp ha with e | h
        · rw [e]; exact ⟨hKL, let ⟨o, _, _, ho, _⟩ := hns; ⟨o, ho⟩⟩
        · exact hav.keeps hk₀ a h
      av := fun a ha => .tail _ ha, lown := .head _, lnew := hL
      ns := ⟨_, hns, fun x v hx _ => by
        have hb' := hbnd.mono (h' := h₀) (own' := s.heap.objs.size :: av) (fun b o _ => hk₀ b o) away
        obtain ⟨u, h1, h2⟩ := stoOf_ok bs binds empty [] (fun _ _ e => by cases e) hb' x v hx
        exact ⟨u, h1, h2⟩⟩
      cells := fun x a h => by rw [hcells] at h; cases h
      cellv := fun x v _ h => absurd h (nocell x)
      cinj := fun x y a h => by rw [hcells] at h; cases h
      chas := fun x h => absurd h (nocell x)
      vars := fun x v hx => by
        obtain ⟨d', hd', _⟩ := hvar x v hx
        exact ⟨.inl (hbs _ hd').1.1, (hbs _ hd').1.2, (hbs _ hd').2⟩
      ownl := fun x a l hx => by obtain ⟨d', _, e⟩ := hvar x _ hx; cases e
      kind := hk, glob := hgl, blt := hbl, gens := ⟨#[], by simp, AllBare.empty⟩, os := rfl }
    fun fl fd' σ' own' s' hP G' hf => ?_
  have fin : ∀ v, Rep s'.heap own' d v → Q (.ok (.ret v)) s' := fun v r => by
    refine hQ v s' ⟨G'.keep, G'.gens, G'.os⟩ (r.mono (fun b o _ e => e) fun a ha => .inl (G'.av a ha))
  rcases hP with e | ⟨e, e'⟩
  · subst e
    obtain ⟨v, rfl, r⟩ := hf
    exact fin v r
  · subst e; subst e'
    cases hf
    exact fin .none rfl

section
variable {c : Cx} {σ : Sto}
/-- several values, in their order -/
def SEs (c : Cx) (σ : Sto) (es : List Expr) (ds : List D) : Prop :=
  ∀ own s Q E, c.G own σ s → (∀ vs s', Ext s s' → Reps s'.heap own ds vs → Q vs s') → c.wp (spliced (es.map fun e => (false, eval e c.env))) Q E s
theorem SEs.nil : SEs c σ [] [] := fun own s Q E G h => spliced_nil (h [] s (.refl s) rfl)
theorem SEs.cons {e es d ds} (h₁ : SE c σ e d) (h₂ : SEs c σ es ds) : SEs c σ (e :: es) (d :: ds) := fun own s Q E G h =>
  spliced_cons (h₁ own s _ _ G fun v s₁ x₁ r₁ => h₂ own s₁ _ _ (G.ext x₁) fun vs s₂ x₂ r₂ => h _ _ (x₁.trans x₂) ⟨v, vs, rfl, r₁.grow x₂.keep, r₂⟩)
/-- keyword arguments -/
def SEk (c : Cx) (σ : Sto) (kws : List Keyword) (ds : List D) : Prop :=
  ∀ pos own s Q E, c.G own σ s → (∀ vs s', Ext s s' → Reps s'.heap own ds vs → Q vs s') → c.wp (evalAll ((backToKw pos (keywordEach kws c.env)).map (·.2))) Q E s
theorem SEk.nil : SEk c σ [] [] := fun pos own s Q E G h => kwAll_nil (h [] s (.refl s) rfl)
theorem SEk.cons {x e p es d ds} (h₁ : SE c σ e d) (h₂ : SEk c σ es ds) : SEk c σ (⟨some x, e, p⟩ :: es) (d :: ds) := fun pos own s Q E G h =>
  kwAll_cons (h₁ own s _ _ G fun v s₁ x₁ r₁ => h₂ pos own s₁ _ _ (G.ext x₁) fun vs s₂ x₂ r₂ => h _ _ (x₁.trans x₂) ⟨v, vs, rfl, r₁.grow x₂.keep, r₂⟩)

theorem evalArgs_gen {f : Value} {es : List Expr} {kws : List Keyword} {pos : Pos} {ds kds : List D} {xs : List Str} (ha : SEs c σ es ds) (hk : SEk c σ kws kds)
    (hst : backTo pos (starEach es c.env) = es.map (fun e => (false, eval e c.env))) (hall : (backToKw pos (keywordEach kws c.env)).all (·.1.isSome) = true) (hxs : (backToKw pos (keywordEach kws c.env)).filterMap (·.1) = xs)
    {own : List Addr} {s : Shared} (G : c.G own σ s) {Q : Args → Shared → Prop} {E : Value → Shared → Prop}
    (h : ∀ vs kvs s', Ext s s' → Reps s'.heap own ds vs → Reps s'.heap own kds kvs → Q ⟨vs, xs.zip kvs⟩ s') :
    c.wp (evalArgs f true (backTo pos (starEach es c.env)) (backToKw pos (keywordEach kws c.env))) Q E s := by
  have key : c.wp (spliced (backTo pos (starEach es c.env))) (fun vs s₁ => wpAny (model c.prog c.w) c.A (evalAll ((backToKw pos (keywordEach kws c.env)).map (·.2))) (fun ks s₂ => Q ⟨vs, ((backToKw pos (keywordEach kws c.env)).filterMap (·.1)).zip ks⟩ s₂) E s₁) E s := by
    rw [hst]
    refine ha own s _ _ G fun vs s₁ x₁ r₁ => hk pos own s₁ _ _ (G.ext x₁) fun ks s₂ x₂ r₂ => ?_
    rw [hxs]
    exact h vs ks s₂ (x₁.trans x₂) (r₁.grow x₂.keep) r₂
  rw [hst] at key ⊢
  cases es with
  | nil =>
    refine evalArgs_kw_nil hall ?_
    exact fun Γ p hΓ => key Γ p hΓ Γ p hΓ
  | cons e es => exact evalArgs_kw hall key

theorem SE.callK {x p es kws pos f ds kds d n o fd xs} (hf : SE c σ (.Name x p) (.val (.ref f))) (ha : SEs c σ es ds) (hk : SEk c σ kws kds) (ho : c.K.lookup f = some o) (hd : o.data = .func fd)
    (hF : Fn c.prog c.w c.K c.mg c.mb f n ds (xs.zip kds) d) (R : Room c.A n) (hlen : xs.length = kds.length)
    (hst : backTo pos (starEach es c.env) = es.map (fun e => (false, eval e c.env)) := by rfl) (hall : (backToKw pos (keywordEach kws c.env)).all (·.1.isSome) = true := by rfl) (hxs : (backToKw pos (keywordEach kws c.env)).filterMap (·.1) = xs := by rfl) :
    SE c σ (.Call (.Name x p) es kws pos) d := fun own s Q E G h => by
  show c.wp (do callWith pos (← eval (.Name x p) c.env) [] (backTo pos (starEach es c.env)) (backToKw pos (keywordEach kws c.env))) Q E s
  refine wpAny_bind (hf own s _ _ G fun v s₁ x₁ r₁ => ?_)
  obtain rfl := r₁
  have G₁ := G.ext x₁
  refine callWith_function_kw (o := o) (fd := fd) (evalArgs_gen ha hk hst hall hxs G₁ fun vs kvs s₂ x₂ r₂ r₃ => ?_)
  have T := (G₁.ext x₂).stat'
  refine ⟨⟨T.kin _ _ ho, hd⟩, ?_⟩
  have e1 : (xs.zip kds).map (·.1) = xs := List.map_fst_zip (Nat.le_of_eq hlen)
  have e2 : (xs.zip kds).map (·.2) = kds := List.map_snd_zip (Nat.le_of_eq hlen.symm)
  have := hF c.A own s₂ vs kvs (fun r s' => match r with | .ok (.ret v) => Q v s' | .ok _ => False | .error e => E e s') T R (G₁.ext x₂).hid r₂ (by rw [e2]; exact r₃) fun v s₃ x₃ r => h v s₃ ((x₁.trans x₂).trans x₃) r
  rw [e1] at this
  exact wpAny_call this
theorem SE.call {x p es pos f ds d n o fd} (hf : SE c σ (.Name x p) (.val (.ref f))) (ha : SEs c σ es ds) (ho : c.K.lookup f = some o) (hd : o.data = .func fd)
    (hF : Fn c.prog c.w c.K c.mg c.mb f n ds [] d) (R : Room c.A n)
    (hst : backTo pos (starEach es c.env) = es.map (fun e => (false, eval e c.env)) := by rfl) :
    SE c σ (.Call (.Name x p) es [] pos) d := SE.callK (xs := []) (kds := []) hf ha SEk.nil ho hd hF R rfl hst rfl rfl
end
end Mine

open PySem PySem.W PyProof.Rows PySem.Calls
set_option Elab.async false
set_option linter.unusedVariables false
namespace Mine

section
variable {c : Cx} {σ : Sto}

/-- a built-in's call -/
def BFn (c : Cx) (f : Value) (ds : List D) (d : D) : Prop :=
  ∀ own s vs (Q : Value → Shared → Prop) E, Stat c.K c.mg c.mb s.heap → Hid c.K s.heap own → Reps s.heap own ds vs → (∀ v s', Ext s s' → Rep s'.heap own d v → Q v s') → c.wp (PySem.call f vs) Q E s

theorem callWith_machine {M : Model} {A : Around} {E : Value → Shared → Prop} {s : Shared} {pos : Pos} {f : Value} (hf : ∀ a, f ≠ .ref a) {first : List Value} {args : List (Bool × Sem Value)} {kws : List (Option Str × Sem Value)} {Q : Value → Shared → Prop} (hplain : (args.any (·.1) || kws.any (·.1.isNone)) = false)
    (h : wpAny M A (evalArgs f true args kws) (fun a s₁ => wpAny M A (PySem.call f (first ++ a.pos) a.kw) Q E s₁) E s) :
    wpAny M A (callWith pos f first args kws) Q E s := by
  unfold callWith
  refine wpAny_bind (wpAny_holding (wpAny_mono h (fun a s₁ h₁ => wpAny_bind (wpAny_standAt ?_)) fun _ _ x => x))
  simp only [hplain]
  have hk : keeperOf f = pure .machine := by cases f <;> first | rfl | exact absurd rfl (hf _)
  rw [hk]
  refine wpAny_bind (wpAny_pure ?_)
  exact wpAny_bind (wpAny_mono h₁ (fun r s₂ hr => wpAny_bind (wpAny_holding (wpAny_point (wpAny_pure hr)))) fun _ _ x => x)

theorem SE.callB {x p es pos f ds d} (hf : SE c σ (.Name x p) (.val f)) (ha : SEs c σ es ds) (hF : BFn c f ds d) (hv : ∀ a, f ≠ .ref a)
    (hst : backTo pos (starEach es c.env) = es.map (fun e => (false, eval e c.env)) := by rfl) :
    SE c σ (.Call (.Name x p) es [] pos) d := fun own s Q E G h => by
  show c.wp (do callWith pos (← eval (.Name x p) c.env) [] (backTo pos (starEach es c.env)) (backToKw pos (keywordEach [] c.env))) Q E s
  refine wpAny_bind (hf own s _ _ G fun v s₁ x₁ r₁ => ?_)
  obtain rfl := r₁
  have G₁ := G.ext x₁
  refine callWith_machine hv (by rw [hst]; simp [backToKw, keywordEach]) (evalArgs_gen ha SEk.nil hst rfl rfl G₁ fun vs kvs s₂ x₂ r₂ r₃ => ?_)
  have G₂ := G₁.ext x₂
  exact hF own s₂ vs Q E G₂.stat' G₂.hid r₂ fun v s₃ x₃ r => h v s₃ ((x₁.trans x₂).trans x₃) r

theorem one {h : Heap} {own : List Addr} {d : D} {vs : List Value} (r : Reps h own [d] vs) : ∃ v, vs = [v] ∧ Rep h own d v := by
  obtain ⟨v, r', e, h1, h2⟩ := r
  obtain rfl := h2
  exact ⟨v, e, h1⟩
theorem two {h : Heap} {own : List Addr} {d d' : D} {vs : List Value} (r : Reps h own [d, d'] vs) : ∃ v v', vs = [v, v'] ∧ Rep h own d v ∧ Rep h own d' v' := by
  obtain ⟨v, r', e, h1, h2⟩ := r
  obtain ⟨v', rfl, h3⟩ := one h2
  exact ⟨v, v', e, h1, h3⟩

theorem BFn.lenT {l : List D} (hf : l.length < 2 ^ 62) : BFn c (.builtin "len") [.tup l] (.int l.length) := fun own s vs Q E T H r h => by
  obtain ⟨v, rfl, a, ws, rfl, hn, ht, hs⟩ := one r
  have e : ws.size = l.length := by have := hs.length; simpa using this
  exact PyProof.Rows.len_tuple ht (by rw [e]; omega) (h _ _ (.toks _) ⟨_, by rw [e]⟩)
theorem BFn.lenL {l : List D} (hf : l.length < 2 ^ 62) : BFn c (.builtin "len") [.list l] (.int l.length) := fun own s vs Q E T H r h => by
  obtain ⟨v, rfl, a, ws, rfl, hn, ht, hs⟩ := one r
  have e : ws.size = l.length := by have := hs.length; simpa using this
  exact PyProof.Rows.len_list ht (by rw [e]; omega) (h _ _ (.toks _) ⟨_, by rw [e]⟩)
theorem BFn.lenS {x : Str} (hf : x.length < 2 ^ 62) : BFn c (.builtin "len") [.str x] (.int x.length) := fun own s vs Q E T H r h => by
  obtain ⟨v, rfl, t, rfl⟩ := one r
  exact PyProof.Rows.len_str (by omega) (h _ _ (.toks _) ⟨_, rfl⟩)
theorem BFn.ord {n : Nat} : BFn c (.builtin "ord") [.str ⟨#[n]⟩] (.int n) := fun own s vs Q E T H r h => by
  obtain ⟨v, rfl, t, rfl⟩ := one r
  exact P.ord_of_char (h _ _ (.toks _) ⟨_, rfl⟩)
theorem BFn.abs {i : Int} : BFn c (.builtin "abs") [.int i] (.int (if i < 0 then -i else i)) := fun own s vs Q E T H r h => by
  obtain ⟨v, rfl, t, rfl⟩ := one r
  exact call_abs_int fun u tk => h _ _ (.toks _) ⟨_, rfl⟩
theorem BFn.boolI {i : Int} : BFn c (.type "bool") [.int i] (.bool (i != 0)) := fun own s vs Q E T H r h => by
  obtain ⟨v, rfl, t, rfl⟩ := one r
  exact call_bool_int (h _ _ (.refl _) rfl)
theorem BFn.max2 {i j : Int} (hh : c.A.handled = none) : BFn c (.builtin "max") [.int i, .int j] (.int (if j > i then j else i)) := fun own s vs Q E T H r h => by
  obtain ⟨v, v', rfl, ⟨t, rfl⟩, ⟨t', rfl⟩⟩ := two r
  refine max_two_ints hh fun h' tk hk => ?_
  by_cases q : j > i
  · rw [if_pos q]; exact h _ _ (.heap hk _) ⟨_, by rw [if_pos q]⟩
  · rw [if_neg q]; exact h _ _ (.heap hk _) ⟨_, by rw [if_neg q]⟩
theorem BFn.min2 {i j : Int} (hh : c.A.handled = none) : BFn c (.builtin "min") [.int i, .int j] (.int (if j < i then j else i)) := fun own s vs Q E T H r h => by
  obtain ⟨v, v', rfl, ⟨t, rfl⟩, ⟨t', rfl⟩⟩ := two r
  refine min_two_ints hh fun h' tk hk => ?_
  by_cases q : j < i
  · rw [if_pos q]; exact h _ _ (.heap hk _) ⟨_, by rw [if_pos q]⟩
  · rw [if_neg q]; exact h _ _ (.heap hk _) ⟨_, by rw [if_neg q]⟩
theorem BFn.range1 {n : Int} : BFn c (.type "range") [.int n] (.rng 0 n) := fun own s vs Q E T H r h => by
  obtain ⟨v, rfl, t, rfl⟩ := one r
  exact call_range_1 (h _ _ (.heap (kp_push _ _) _) ⟨_, _, _, _, rfl, H.new, IsRange.new ..⟩)
theorem BFn.range2 {a b : Int} : BFn c (.type "range") [.int a, .int b] (.rng a b) := fun own s vs Q E T H r h => by
  obtain ⟨v, v', rfl, ⟨t, rfl⟩, ⟨t', rfl⟩⟩ := two r
  exact call_range_2 (h _ _ (.heap (kp_push _ _) _) ⟨_, _, _, _, rfl, H.new, IsRange.new ..⟩)

/-! subscripts -/
theorem SE.sub {v i pos d₁ d₂ d} (h₁ : SE c σ v d₁) (h₂ : SE c σ i d₂)
    (ht : ∀ own s u k (Q : Value → Shared → Prop) E, Hid c.K s.heap own → Rep s.heap own d₁ u → Rep s.heap own d₂ k → (∀ r s', Ext s s' → Rep s'.heap own d r → Q r s') → c.wp (subscriptTail v i u k) Q E s) : SE c σ (.Subscript v i pos) d :=
  fun own s Q E G h => Subscript_ (h₁ own s _ _ G fun u s₁ x₁ r₁ => h₂ own s₁ _ _ (G.ext x₁) fun k s₂ x₂ r₂ =>
    ht own s₂ u k Q E (G.ext (x₁.trans x₂)).hid (r₁.grow x₂.keep) r₂ fun r s₃ x₃ r₃ => h r s₃ ((x₁.trans x₂).trans x₃) r₃)
theorem idx_parts {k : Int} {n j : Nat} (h : seqIndex? k n = some j) : (0 ≤ k ∧ j = k.toNat ∧ j < n) ∨ (k < 0 ∧ -(n : Int) ≤ k ∧ j = (k + n).toNat ∧ j < n) := by
  unfold seqIndex? at h
  by_cases q : k < 0
  · simp only [q, if_true] at h
    split at h
    · rename_i q2
      simp only [Bool.and_eq_true, decide_eq_true_eq] at q2
      cases h
      exact .inr ⟨q, by omega, rfl, by omega⟩
    · cases h
  · simp only [q, if_false] at h
    split at h
    · rename_i q2
      simp only [Bool.and_eq_true, decide_eq_true_eq] at q2
      cases h
      exact .inl ⟨by omega, rfl, by omega⟩
    · cases h
theorem SE.itemT {v i pos l k j d} (h₁ : SE c σ v (.tup l)) (h₂ : SE c σ i (.int k)) (hj : seqIndex? k l.length = some j) (hx : l[j]? = some d) (hf : l.length < 2 ^ 62)
    (hs : ∀ o u, subscripted i false o u = operate [o, u] (getItem o u) := by intro _ _; rfl) : SE c σ (.Subscript v i pos) d :=
  h₁.sub h₂ fun own s u k' Q E H r₁ r₂ h => by
    obtain ⟨a, vs, rfl, hn, ht, hr⟩ := r₁
    obtain ⟨t, rfl⟩ := r₂
    obtain ⟨x, hx', hr'⟩ := hr.get hx
    have e := hr.length
    have hb := idx_parts hj
    exact item_tupleT (l := vs.toList) (by simpa using ht) (by omega) (by omega) (by rw [e]; exact hj) hx' (h _ _ (.refl s) hr') (hs _ _)
theorem SE.itemL {v i pos l k j d} (h₁ : SE c σ v (.list l)) (h₂ : SE c σ i (.int k)) (hj : seqIndex? k l.length = some j) (hx : l[j]? = some d) (hf : l.length < 2 ^ 62)
    (hs : ∀ o u, subscripted i false o u = operate [o, u] (getItem o u) := by intro _ _; rfl) : SE c σ (.Subscript v i pos) d :=
  h₁.sub h₂ fun own s u k' Q E H r₁ r₂ h => by
    obtain ⟨a, vs, rfl, hn, ht, hr⟩ := r₁
    obtain ⟨t, rfl⟩ := r₂
    obtain ⟨x, hx', hr'⟩ := hr.get hx
    have e : vs.size = l.length := by have := hr.length; simpa using this
    rcases idx_parts hj with ⟨h0, ej, hl⟩ | ⟨h0, h1, ej, hl⟩
    · exact tail_any ht.typeIs slot_list_getitem.lookup (wpAny_getItem_list (x := x) ht h0 (by omega) (by rw [← ej]; simpa using hx') (h _ _ (.refl s) hr')) (hs _ _)
    · exact tail_any ht.typeIs slot_list_getitem.lookup (wpAny_getItem_list_neg (x := x) ht h0 (by rw [e]; exact h1) (by omega) (by rw [e, ← ej]; simpa using hx') (h _ _ (.refl s) hr')) (hs _ _)
theorem SE.itemS {v i pos x k j n} (h₁ : SE c σ v (.str x)) (h₂ : SE c σ i (.int k)) (hj : seqIndex? k x.length = some j) (hx : x.cps[j]? = some n) (hf : x.length < 2 ^ 62)
    (hs : ∀ o u, subscripted i false o u = operate [o, u] (getItem o u) := by intro _ _; rfl) : SE c σ (.Subscript v i pos) (.str ⟨#[n]⟩) :=
  h₁.sub h₂ fun own s u k' Q E H r₁ r₂ h => by
    obtain ⟨t, rfl⟩ := r₁
    obtain ⟨t', rfl⟩ := r₂
    have hb := idx_parts hj
    refine tail_any (typeIs_str s x t) slot_str_getitem.lookup (PyProof.Rows.getItem_str (c := n) ?_ (by rw [hj]; exact hx) (h _ _ (.toks _) ⟨_, rfl⟩)) (hs _ _)
    simp only [Bool.or_eq_false_iff, decide_eq_false_iff_not]
    omega

/-- a bound of a slice -/
def SP (c : Cx) (σ : Sto) (e : Option Expr) (i : Option Int) : Prop :=
  ∀ own s Q E, c.G own σ s → (∀ (p : Option (Int × Tok)) s', Ext s s' → p.map (·.1) = i → Q (partValue p) s') → c.wp (evalPart e c.env) Q E s
theorem SP.none : SP c σ Option.none Option.none := fun own s Q E G h => by rw [evalPart_none]; exact wpAny_pure (h Option.none s (.refl s) rfl)
theorem SP.some {e i} (he : SE c σ e (.int i)) : SP c σ (some e) (some i) := fun own s Q E G h => by
  rw [evalPart_some]
  refine he own s _ _ G fun v s₁ x₁ r => ?_
  obtain ⟨t, rfl⟩ := r
  exact h (Option.some (i, t)) s₁ x₁ rfl
theorem SE.sliceS {x y lo hi p pos l u} (hx : SE c σ (.Name x p) (.str y)) (hl : SP c σ lo l) (hu : SP c σ hi u) (hsz : (StrLaws.sliceText y l u).length ≤ sizeLine) {q} :
    SE c σ (.Subscript (.Name x p) (.Slice lo hi Option.none q) pos) (.str (StrLaws.sliceText y l u)) := fun own s Q E G h =>
  wpAny_Subscript_str_slice (hx own s _ _ G fun v s₁ x₁ r₁ => hl own s₁ _ _ (G.ext x₁) fun pl s₂ x₂ e₂ => hu own s₂ _ _ ((G.ext x₁).ext x₂) fun pu s₃ x₃ e₃ => by
    obtain ⟨t, rfl⟩ := r₁
    refine ⟨y, t, pl, pu, rfl, rfl, rfl, ?_⟩
    have X := ((x₁.trans x₂).trans x₃)
    subst e₂; subst e₃
    have hs : ∀ k, Ext s { s₃ with heap := s₃.heap.push { cls := .type "slice", data := .fields #[partValue pl, partValue pu, .none] }, toks := k } := fun k => X.trans (.heap (kp_push _ _) _)
    unfold sliceMade
    unfold slicePicked
    simp only [Option.map_none, Option.getD_none]
    split
    · rename_i q
      refine h _ _ (hs _) ⟨t, ?_⟩
      unfold StrLaws.sliceText
      rw [if_pos q]
    · rename_i q
      have e : StrLaws.sliceText y (pl.map (·.1)) (pu.map (·.1)) = ⟨((Builtin.Str.strSliceIndices (pl.map (·.1)) (pu.map (·.1)) 1 y.length).filterMap (y.cps[·]?)).toArray⟩ := by
        unfold StrLaws.sliceText
        rw [if_neg q]
      rw [e] at h hsz
      exact ⟨hsz, h _ _ (hs _) ⟨_, rfl⟩⟩)
end
end Mine

open PySem PySem.W PyProof.Rows PySem.Calls
set_option Elab.async false
set_option linter.unusedVariables false
namespace Mine

/-! ## derived rules: built-ins by their names -/
section
variable {c : Cx} {σ : Sto}
def bltOk (c : Cx) (x : Str) (v : Value) : Prop := c.env.kindOf x = some .globalImplicit ∧ nsIn c.K mainGlobals x = some none ∧ bootBuiltins x = some v ∧ (x == ("__debug__" : Str)) = false ∧ (x == ("__name__" : Str)) = false
theorem bltOk.mk' {x : Str} {v : Value} (h1 : c.env.kindOf x = some .globalImplicit) (h2 : nsIn c.K mainGlobals x = some none) (h3 : bootBuiltins x = some v) (h4 : (x == ("__debug__" : Str)) = false) (h5 : (x == ("__name__" : Str)) = false) : bltOk c x v := ⟨h1, h2, h3, h4, h5⟩
theorem SE.bltName {x : Str} {v : Value} {pos} (h : bltOk c x v) : SE c σ (.Name x pos) (.val v) := SE.blt h.1 h.2.1 h.2.2.1 h.2.2.2.1 h.2.2.2.2
abbrev plainArgs (c : Cx) (es : List Expr) : Prop := ∀ pos, backTo pos (starEach es c.env) = es.map (fun e => (false, eval e c.env))
variable {p pos : Pos} {e e' : Expr}
theorem SE.lenT {l} (hb : bltOk c "len" (.builtin "len")) (hs : plainArgs c [e]) (h : SE c σ e (.tup l)) (hf : l.length < 2 ^ 62) : SE c σ (.Call (.Name "len" p) [e] [] pos) (.int l.length) := SE.callB (SE.bltName hb) (.cons h .nil) (BFn.lenT hf) (by intro a; simp) (hs _)
theorem SE.lenL {l} (hb : bltOk c "len" (.builtin "len")) (hs : plainArgs c [e]) (h : SE c σ e (.list l)) (hf : l.length < 2 ^ 62) : SE c σ (.Call (.Name "len" p) [e] [] pos) (.int l.length) := SE.callB (SE.bltName hb) (.cons h .nil) (BFn.lenL hf) (by intro a; simp) (hs _)
theorem SE.lenS {l} (hb : bltOk c "len" (.builtin "len")) (hs : plainArgs c [e]) (h : SE c σ e (.str l)) (hf : l.length < 2 ^ 62) : SE c σ (.Call (.Name "len" p) [e] [] pos) (.int l.length) := SE.callB (SE.bltName hb) (.cons h .nil) (BFn.lenS hf) (by intro a; simp) (hs _)
theorem SE.ord {n} (hb : bltOk c "ord" (.builtin "ord")) (hs : plainArgs c [e]) (h : SE c σ e (.str ⟨#[n]⟩)) : SE c σ (.Call (.Name "ord" p) [e] [] pos) (.int n) := SE.callB (SE.bltName hb) (.cons h .nil) BFn.ord (by intro a; simp) (hs _)
theorem SE.abs {i} (hb : bltOk c "abs" (.builtin "abs")) (hs : plainArgs c [e]) (h : SE c σ e (.int i)) : SE c σ (.Call (.Name "abs" p) [e] [] pos) (.int (if i < 0 then -i else i)) := SE.callB (SE.bltName hb) (.cons h .nil) BFn.abs (by intro a; simp) (hs _)
theorem SE.boolI {i} (hb : bltOk c "bool" (.type "bool")) (hs : plainArgs c [e]) (h : SE c σ e (.int i)) : SE c σ (.Call (.Name "bool" p) [e] [] pos) (.bool (i != 0)) := SE.callB (SE.bltName hb) (.cons h .nil) BFn.boolI (by intro a; simp) (hs _)
theorem SE.max2 {i j} (hb : bltOk c "max" (.builtin "max")) (hs : plainArgs c [e, e']) (hh : c.A.handled = Option.none) (h : SE c σ e (.int i)) (h' : SE c σ e' (.int j)) : SE c σ (.Call (.Name "max" p) [e, e'] [] pos) (.int (if j > i then j else i)) := SE.callB (SE.bltName hb) (.cons h (.cons h' .nil)) (BFn.max2 hh) (by intro a; simp) (hs _)
theorem SE.min2 {i j} (hb : bltOk c "min" (.builtin "min")) (hs : plainArgs c [e, e']) (hh : c.A.handled = Option.none) (h : SE c σ e (.int i)) (h' : SE c σ e' (.int j)) : SE c σ (.Call (.Name "min" p) [e, e'] [] pos) (.int (if j < i then j else i)) := SE.callB (SE.bltName hb) (.cons h (.cons h' .nil)) (BFn.min2 hh) (by intro a; simp) (hs _)
theorem SE.range1 {i} (hb : bltOk c "range" (.type "range")) (hs : plainArgs c [e]) (h : SE c σ e (.int i)) : SE c σ (.Call (.Name "range" p) [e] [] pos) (.rng 0 i) := SE.callB (SE.bltName hb) (.cons h .nil) BFn.range1 (by intro a; simp) (hs _)
theorem SE.range2 {i j} (hb : bltOk c "range" (.type "range")) (hs : plainArgs c [e, e']) (h : SE c σ e (.int i)) (h' : SE c σ e' (.int j)) : SE c σ (.Call (.Name "range" p) [e, e'] [] pos) (.rng i j) := SE.callB (SE.bltName hb) (.cons h (.cons h' .nil)) BFn.range2 (by intro a; simp) (hs _)
end
end Mine

open PySem PySem.W PyProof.Rows PySem.Calls
set_option Elab.async false
set_option linter.unusedVariables false
namespace Mine

noncomputable abbrev KK (w : World) : Frag := Mine.hd.heap_39 w.params
@[irreducible] noncomputable def objAt (w : World) (a : Nat) : Obj := ((KK w).lookup a).getD default
@[irreducible] noncomputable def fdAt (w : World) (a : Nat) : FuncData := match (objAt w a).data with | .func fd => fd | _ => default
def stAt : Nat → List Stmt → List Stmt
  | _, [] => []
  | 0, s :: _ => match s with | .FunctionDef _ _ body .. => body | _ => []
  | n + 1, _ :: l => stAt n l
def bodyOf (n : Nat) : List Stmt := stAt n PySem.Challenge.pw_gb5027_01.main.body

set_option maxRecDepth 100000
theorem look28 (w : World) : (KK w).lookup 28 = some (objAt w 28) := by kernel_rfl
theorem data28 (w : World) : (objAt w 28).data = .func (fdAt w 28) := by kernel_rfl
theorem body28 (w : World) : (fdAt w 28).body = .stmts (bodyOf 2) := by kernel_rfl
theorem code28 (w : World) : codeIn (KK w) (fdAt w 28).code (fdAt w 28).qualname = true := by kernel_rfl
theorem plain28 (w : World) (a b : D) : plainDef (fdAt w 28) [(("ucs" : Str), a), (("table" : Str), b)] = true := by kernel_rfl
theorem bind28 (w : World) (a b : Value) : bindArgs (fdAt w 28) ⟨[a, b], []⟩ = pure [(("ucs" : Str), a), (("table" : Str), b)] := by kernel_rfl

/-! ## the lines of the walk -/
local macro_rules | `(tactic| walk_at "m look") => `(tactic| (repeat' (first | with_reducible assumption | with_reducible exact Look.here | (with_reducible refine' Look.there ?_ ?_; kernel_rfl))))
local macro_rules | `(tactic| walk_at "m blt") => `(tactic| (refine' bltOk.mk' ?_ ?_ ?_ ?_ ?_ <;> kernel_rfl))
local macro_rules | `(tactic| walk_at "m side") => `(tactic| first | with_reducible assumption | (with_reducible exact rfl) | omega | (simp only [List.length_map, List.length_cons, List.length_nil, List.length_append]; omega) | decide)
local macro_rules | `(tactic| walk_at "m b") => `(tactic| with_reducible first
  | exact BinOK.addI | exact BinOK.subI | (refine' BinOK.modI ?_; walk_at "m side") | (refine' BinOK.divI ?_ ?_ <;> walk_at "m side"))
local macro_rules | `(tactic| walk_at "m c") => `(tactic| with_reducible first
  | exact CmpOK.eqI | exact CmpOK.neI | exact CmpOK.ltI | exact CmpOK.leI | exact CmpOK.gtI | exact CmpOK.geI | exact CmpOK.eqS | exact CmpOK.neS)
local macro_rules | `(tactic| walk_at "m e") => `(tactic| with_reducible first
  | exact SE.int | exact SE.str | exact SE.bool | exact SE.none
  | (refine' SE.name ?k1; (case k1 => walk_at "m look"))
  | (refine' SE.bin ?k1 ?k2 ?k3; (case k1 => walk_at "m e"); (case k2 => walk_at "m e"); (case k3 => walk_at "m b"))
  | (refine' SE.cmp (hm := ?k4) ?k1 ?k2 ?k3; (case k1 => walk_at "m e"); (case k2 => walk_at "m e"); (case k3 => walk_at "m c"); (case k4 => with_unfolding_all rfl))
  | (refine' SE.lenT ?k1 ?k2 ?k3 ?k4; (case k1 => walk_at "m blt"); (case k2 => with_unfolding_all (intro _; rfl)); (case k3 => walk_at "m e"); (case k4 => walk_at "m side"))
  | (refine' SE.lenL ?k1 ?k2 ?k3 ?k4; (case k1 => walk_at "m blt"); (case k2 => with_unfolding_all (intro _; rfl)); (case k3 => walk_at "m e"); (case k4 => walk_at "m side"))
  | (refine' SE.lenS ?k1 ?k2 ?k3 ?k4; (case k1 => walk_at "m blt"); (case k2 => with_unfolding_all (intro _; rfl)); (case k3 => walk_at "m e"); (case k4 => walk_at "m side")))
local macro_rules | `(tactic| walk_at "m t") => `(tactic| with_reducible first
  | (refine' SB.cmp (hm := ?k4) ?k1 ?k2 ?k3; (case k1 => walk_at "m e"); (case k2 => walk_at "m e"); (case k3 => walk_at "m c"); (case k4 => with_unfolding_all rfl))
  | (refine' SB.not ?k1; (case k1 => walk_at "m t")))
/-- one statement -/
local macro_rules | `(tactic| walk_at "m s") => `(tactic| with_reducible first
  | refine' SX.doc ?_
  | (refine' SX.assign (hs := ?k3) ?k1 ?k2 ?k4; (case k1 => walk_at "m e"); (case k2 => kernel_rfl); (case k3 => with_unfolding_all rfl)))

abbrev pairs (l : List (Int × Int)) : D := .tup (l.map fun p => .tup [.int p.1, .int p.2])
def bisLoop (l : List (Int × Int)) (u : Int) : Nat → Int → Int → Int
  | 0, _, _ => 0
  | n + 1, lb, ub => if lb ≤ ub then
      if (l.getD ((lb + ub).fdiv 2).toNat (0, 0)).2 < u then bisLoop l u n ((lb + ub).fdiv 2 + 1) ub
      else if u < (l.getD ((lb + ub).fdiv 2).toNat (0, 0)).1 then bisLoop l u n lb ((lb + ub).fdiv 2 - 1) else 1
    else 0
def bis (l : List (Int × Int)) (u : Int) : Int :=
  if u < (l.getD 0 (0, 0)).1 ∨ (l.getD (l.length - 1) (0, 0)).2 < u then 0 else bisLoop l u (l.length + 1) 0 (l.length - 1)

section
variable {prog : Program} {w : World} {mg mb : Str → Option Value}
theorem seq_ok {k : Int} {n : Nat} (h0 : 0 ≤ k) (h1 : k < n) : seqIndex? k n = some k.toNat := by
  unfold seqIndex?
  have : ¬ k < 0 := by omega
  simp [this, h0, h1]
theorem seq_neg {k : Int} {n : Nat} (h0 : k < 0) (h1 : -(n : Int) ≤ k) : seqIndex? k n = some (k + n).toNat := by
  unfold seqIndex?
  have a : 0 ≤ k + n := by omega
  have b : k + n < n := by omega
  simp [h0, a, b]
theorem pair_item {c : Cx} {σ : Sto} {v i j : Expr} {q pos : Pos} {l : List (Int × Int)} {k : Int} {m : Int} (h : SE c σ v (pairs l)) (hi : SE c σ i (.int k)) (hj : SE c σ j (.int m)) (h0 : 0 ≤ k) (h1 : k < l.length) (hf : l.length < 1000000) (hm : m = 0 ∨ m = 1)
    (hs : ∀ o u, subscripted i false o u = operate [o, u] (getItem o u) := by intro _ _; rfl) (hs' : ∀ o u, subscripted j false o u = operate [o, u] (getItem o u) := by intro _ _; rfl) :
    SE c σ (.Subscript (.Subscript v i q) j pos) (.int (if m = 0 then (l.getD k.toNat (0, 0)).1 else (l.getD k.toNat (0, 0)).2)) := by
  have hk : k.toNat < l.length := by omega
  have e : l[k.toNat]? = some (l.getD k.toNat (0, 0)) := by
    rw [List.getD_eq_getElem?_getD, List.getElem?_eq_getElem hk]; rfl
  refine SE.itemT (l := [.int (l.getD k.toNat (0, 0)).1, .int (l.getD k.toNat (0, 0)).2]) (k := m) (j := m.toNat) (SE.itemT (k := k) (j := k.toNat) h hi ?_ ?_ ?_ hs) hj ?_ ?_ (by simp) hs'
  · rw [List.length_map]; exact seq_ok h0 h1
  · rw [List.getElem?_map, e]; rfl
  · rw [List.length_map]; omega
  · rcases hm with rfl | rfl <;> rfl
  · rcases hm with rfl | rfl <;> rfl

theorem bis_fn (l : List (Int × Int)) (u : Int) (hl : l ≠ []) (hf : l.length < 1000000) : Fn prog w (KK w) mg mb 28 1 [.int u, pairs l] [] (.int (bis l u)) := by
  refine Fn.of_body (n := 0) (look28 w) (data28 w) (body28 w) (plain28 w (.int u) (pairs l)) (code28 w) ?_ ?_
  · intro s av vs kvs T H r k
    obtain ⟨v, v', rfl, h1, h2⟩ := two r
    obtain rfl := k
    exact ⟨_, .of_eq (bind28 w v v'), v, _, rfl, h1, v', _, rfl, h2, rfl⟩
  · intro S₀ av A L R
    show SX _ (upd (upd empty "ucs" _) "table" _) (Stmt.Expr _ _ :: _) _
    walk_at "m s"
    walk_at "m s"
    walk_at "m s"
    dsimp only
    simp only [List.length_map]
    have hpos : 0 < l.length := List.length_pos_iff.mpr hl
    refine' SX.if1 (SB.boolOp (SBs.or_cons (SB.cmp (hm := ?m1) ?a1 (pair_item (k := 0) (m := 0) (l := l) (hs := ?s1) (hs' := ?s2) ?b1 ?b2 ?b3 (by omega) (by omega) hf (.inl rfl)) CmpOK.ltI) fun hA => SBs.or_cons (SB.cmp (hm := ?m2) ?a2 (pair_item (k := (l.length : Int) - 1) (m := 1) (l := l) (hs := ?s3) (hs' := ?s4) ?c1 ?c2 ?c3 (by omega) (by omega) hf (.inr rfl)) CmpOK.gtI) fun _ => SBs.or_nil)) ?t ?f
    case m1 => with_unfolding_all rfl
    case m2 => with_unfolding_all rfl
    case s1 => intro _ _; with_unfolding_all rfl
    case s2 => intro _ _; with_unfolding_all rfl
    case s3 => intro _ _; with_unfolding_all rfl
    case s4 => intro _ _; with_unfolding_all rfl
    case a1 => walk_at "m e"
    case a2 => walk_at "m e"
    case b1 => walk_at "m e"
    case b2 => walk_at "m e"
    case b3 => walk_at "m e"
    case c1 => walk_at "m e"
    case c2 => walk_at "m e"
    case c3 => walk_at "m e"
    case t =>
      intro h
      refine' SX.ret (d := .int 0) ?a (.inl ?b)
      case a => walk_at "m e"
      congr 2
      unfold bis
      rw [if_pos]
      simpa using h
    intro h
    have hb : bis l u = bisLoop l u (l.length + 1) 0 (l.length - 1) := by
      unfold bis
      rw [if_neg]
      simpa using h
    rw [hb]
    generalize hR : bisLoop l u (l.length + 1) 0 (l.length - 1) = res
    refine' SX.while_ (fun n σ => ∃ lb ub, Look σ "ucs" (.d (.int u)) ∧ Look σ "table" (.d (pairs l)) ∧ Look σ "lbound" (.d (.int lb)) ∧ Look σ "ubound" (.d (.int ub)) ∧ 0 ≤ lb ∧ ub < l.length ∧ ub + 2 ≤ lb + n ∧ bisLoop l u n lb ub = res) (l.length + 1) ?start ?turn
    case start =>
      refine ⟨0, l.length - 1, ?_, ?_, ?_, ?_, by omega, by omega, by omega, hR⟩ <;> walk_at "m look"
    intro n σ
    rintro ⟨lb, ub, h1, h2, h3, h4, h5, h6, h7, h8⟩
    refine' ⟨_, SB.cmp (hm := ?w1) ?w2 ?w3 CmpOK.geI, fun hc => ?w4, fun hc => ?w5⟩
    case w1 => with_unfolding_all rfl
    case w2 => walk_at "m e"
    case w3 => walk_at "m e"
    case w5 =>
      refine' SX.ret (d := .int 0) ?w6 (.inl ?w7)
      case w6 => walk_at "m e"
      rw [← h8]
      cases n with
      | zero => rfl
      | succ k => unfold bisLoop; rw [if_neg (by simpa using hc)]
    have hc' : lb ≤ ub := by simpa using hc
    have hmid := Int.fdiv_eq_ediv_of_nonneg (lb + ub) (b := 2) (by decide)
    have hn : ∃ k, n = k + 1 := ⟨n - 1, by omega⟩
    obtain ⟨k, rfl⟩ := hn
    unfold bisLoop at h8
    rw [if_pos hc'] at h8
    refine' SX.assign (d := .int ((lb + ub).fdiv 2)) (hs := ?x3) ?x1 ?x2 ?x4
    case x3 => with_unfolding_all rfl
    case x2 => kernel_rfl
    case x1 =>
      refine SE.bin (SE.bin ?y1 ?y2 BinOK.addI) ?y3 (BinOK.divI (by decide) ?y4)
      case y1 => walk_at "m e"
      case y2 => walk_at "m e"
      case y3 => walk_at "m e"
      exact PyProof.noPylong_small (by omega)
    generalize hmd : (lb + ub).fdiv 2 = md at *
    refine' SX.if_ (SB.cmp (hm := ?z1) ?z2 (pair_item (k := md) (m := 1) (l := l) (hs := ?z3) (hs' := ?z4) ?z5 ?z6 ?z7 (by omega) (by omega) hf (.inr rfl)) CmpOK.gtI) (fun hc1 => ?z8) fun hc1 => ?z9
    case z1 => with_unfolding_all rfl
    case z2 => walk_at "m e"
    case z3 => intro _ _; with_unfolding_all rfl
    case z4 => intro _ _; with_unfolding_all rfl
    case z5 => walk_at "m e"
    case z6 => walk_at "m e"
    case z7 => walk_at "m e"
    case z8 =>
      walk_at "m s"
      refine SX.nil (SX.nil ⟨k, by omega, md + 1, ub, ?_, ?_, ?_, ?_, by omega, by omega, by omega, ?_⟩)
      · walk_at "m look"
      · walk_at "m look"
      · walk_at "m look"
      · walk_at "m look"
      · rw [if_pos (by simpa using hc1)] at h8; exact h8
    rw [if_neg (by simpa using hc1)] at h8
    refine' SX.if_ (SB.cmp (hm := ?u1) ?u2 (pair_item (k := md) (m := 0) (l := l) (hs := ?u3) (hs' := ?u4) ?u5 ?u6 ?u7 (by omega) (by omega) hf (.inl rfl)) CmpOK.ltI) (fun hc2 => ?u8) fun hc2 => ?u9
    case u1 => with_unfolding_all rfl
    case u2 => walk_at "m e"
    case u3 => intro _ _; with_unfolding_all rfl
    case u4 => intro _ _; with_unfolding_all rfl
    case u5 => walk_at "m e"
    case u6 => walk_at "m e"
    case u7 => walk_at "m e"
    case u8 =>
      walk_at "m s"
      refine SX.nil (SX.nil (SX.nil ⟨k, by omega, lb, md - 1, ?_, ?_, ?_, ?_, by omega, by omega, by omega, ?_⟩))
      · walk_at "m look"
      · walk_at "m look"
      · walk_at "m look"
      · walk_at "m look"
      · rw [if_pos (by simpa using hc2)] at h8; exact h8
    rw [if_neg (by simpa using hc2)] at h8
    refine SX.ret (d := .int 1) ?_ (.inl ?_)
    · walk_at "m e"
    · rw [← h8]
end
end Mine

open PySem PySem.W PyProof.Rows PySem.Calls
set_option Elab.async false
set_option linter.unusedVariables false
set_option maxRecDepth 100000
namespace Mine
theorem look247 (w : World) : (KK w).lookup 247 = some (objAt w 247) := by kernel_rfl
theorem data247 (w : World) : (objAt w 247).data = .func (fdAt w 247) := by kernel_rfl
theorem body247 (w : World) : (fdAt w 247).body = .stmts (bodyOf 21) := by kernel_rfl
theorem code247 (w : World) : codeIn (KK w) (fdAt w 247).code (fdAt w 247).qualname = true := by kernel_rfl
theorem plain247 (w : World) (x0 : D) : plainDef (fdAt w 247) [(("ucs" : Str), x0)] = true := by kernel_rfl
theorem bind247 (w : World) (x0 : Value) : bindArgs (fdAt w 247) ⟨[x0], []⟩ = pure [(("ucs" : Str), x0)] := by kernel_rfl
theorem look254 (w : World) : (KK w).lookup 254 = some (objAt w 254) := by kernel_rfl
theorem data254 (w : World) : (objAt w 254).data = .func (fdAt w 254) := by kernel_rfl
theorem body254 (w : World) : (fdAt w 254).body = .stmts (bodyOf 22) := by kernel_rfl
theorem code254 (w : World) : codeIn (KK w) (fdAt w 254).code (fdAt w 254).qualname = true := by kernel_rfl
theorem plain254 (w : World) (x0 : D) : plainDef (fdAt w 254) [(("ucs" : Str), x0)] = true := by kernel_rfl
theorem bind254 (w : World) (x0 : Value) : bindArgs (fdAt w 254) ⟨[x0], []⟩ = pure [(("ucs" : Str), x0)] := by kernel_rfl
theorem look261 (w : World) : (KK w).lookup 261 = some (objAt w 261) := by kernel_rfl
theorem data261 (w : World) : (objAt w 261).data = .func (fdAt w 261) := by kernel_rfl
theorem body261 (w : World) : (fdAt w 261).body = .stmts (bodyOf 23) := by kernel_rfl
theorem code261 (w : World) : codeIn (KK w) (fdAt w 261).code (fdAt w 261).qualname = true := by kernel_rfl
theorem plain261 (w : World) (x0 : D) : plainDef (fdAt w 261) [(("ucs" : Str), x0)] = true := by kernel_rfl
theorem bind261 (w : World) (x0 : Value) : bindArgs (fdAt w 261) ⟨[x0], []⟩ = pure [(("ucs" : Str), x0)] := by kernel_rfl
theorem look268 (w : World) : (KK w).lookup 268 = some (objAt w 268) := by kernel_rfl
theorem data268 (w : World) : (objAt w 268).data = .func (fdAt w 268) := by kernel_rfl
theorem body268 (w : World) : (fdAt w 268).body = .stmts (bodyOf 24) := by kernel_rfl
theorem code268 (w : World) : codeIn (KK w) (fdAt w 268).code (fdAt w 268).qualname = true := by kernel_rfl
theorem plain268 (w : World) (x0 : D) : plainDef (fdAt w 268) [(("ucs" : Str), x0)] = true := by kernel_rfl
theorem bind268 (w : World) (x0 : Value) : bindArgs (fdAt w 268) ⟨[x0], []⟩ = pure [(("ucs" : Str), x0)] := by kernel_rfl
theorem look275 (w : World) : (KK w).lookup 275 = some (objAt w 275) := by kernel_rfl
theorem data275 (w : World) : (objAt w 275).data = .func (fdAt w 275) := by kernel_rfl
theorem body275 (w : World) : (fdAt w 275).body = .stmts (bodyOf 25) := by kernel_rfl
theorem code275 (w : World) : codeIn (KK w) (fdAt w 275).code (fdAt w 275).qualname = true := by kernel_rfl
theorem plain275 (w : World) (x0 : D) : plainDef (fdAt w 275) [(("ucs" : Str), x0)] = true := by kernel_rfl
theorem bind275 (w : World) (x0 : Value) : bindArgs (fdAt w 275) ⟨[x0], []⟩ = pure [(("ucs" : Str), x0)] := by kernel_rfl
theorem look353 (w : World) : (KK w).lookup 353 = some (objAt w 353) := by kernel_rfl
theorem data353 (w : World) : (objAt w 353).data = .func (fdAt w 353) := by kernel_rfl
theorem body353 (w : World) : (fdAt w 353).body = .stmts (bodyOf 27) := by kernel_rfl
theorem code353 (w : World) : codeIn (KK w) (fdAt w 353).code (fdAt w 353).qualname = true := by kernel_rfl
theorem plain353 (w : World) (x0 x1 : D) : plainDef (fdAt w 353) [(("prev_gcb" : Str), x0), (("curr_gcb" : Str), x1)] = true := by kernel_rfl
theorem bind353 (w : World) (x0 x1 : Value) : bindArgs (fdAt w 353) ⟨[x0, x1], []⟩ = pure [(("prev_gcb" : Str), x0), (("curr_gcb" : Str), x1)] := by kernel_rfl
theorem look376 (w : World) : (KK w).lookup 376 = some (objAt w 376) := by kernel_rfl
theorem data376 (w : World) : (objAt w 376).data = .func (fdAt w 376) := by kernel_rfl
theorem body376 (w : World) : (fdAt w 376).body = .stmts (bodyOf 30) := by kernel_rfl
theorem code376 (w : World) : codeIn (KK w) (fdAt w 376).code (fdAt w 376).qualname = true := by kernel_rfl
theorem plain376 (w : World) (x0 x1 : D) : plainDef (fdAt w 376) [(("text" : Str), x0), (("pos" : Str), x1)] = true := by kernel_rfl
theorem bind376 (w : World) (x0 x1 : Value) : bindArgs (fdAt w 376) ⟨[x0, x1], []⟩ = pure [(("text" : Str), x0), (("pos" : Str), x1)] := by kernel_rfl
theorem look383 (w : World) : (KK w).lookup 383 = some (objAt w 383) := by kernel_rfl
theorem data383 (w : World) : (objAt w 383).data = .func (fdAt w 383) := by kernel_rfl
theorem body383 (w : World) : (fdAt w 383).body = .stmts (bodyOf 31) := by kernel_rfl
theorem code383 (w : World) : codeIn (KK w) (fdAt w 383).code (fdAt w 383).qualname = true := by kernel_rfl
theorem plain383 (w : World) (x0 x1 : D) : plainDef (fdAt w 383) [(("unistr" : Str), x0), (("pos" : Str), x1)] = true := by kernel_rfl
theorem bind383 (w : World) (x0 x1 : Value) : bindArgs (fdAt w 383) ⟨[x0, x1], []⟩ = pure [(("unistr" : Str), x0), (("pos" : Str), x1)] := by kernel_rfl
theorem look398 (w : World) : (KK w).lookup 398 = some (objAt w 398) := by kernel_rfl
theorem data398 (w : World) : (objAt w 398).data = .func (fdAt w 398) := by kernel_rfl
theorem body398 (w : World) : (fdAt w 398).body = .stmts (bodyOf 34) := by kernel_rfl
theorem code398 (w : World) : codeIn (KK w) (fdAt w 398).code (fdAt w 398).qualname = true := by kernel_rfl
theorem plain398 (w : World) : plainDef (fdAt w 398) [] = true := by kernel_rfl
theorem bind398 (w : World) : bindArgs (fdAt w 398) ⟨[], []⟩ = pure [] := by kernel_rfl
theorem look405 (w : World) : (KK w).lookup 405 = some (objAt w 405) := by kernel_rfl
theorem data405 (w : World) : (objAt w 405).data = .func (fdAt w 405) := by kernel_rfl
theorem body405 (w : World) : (fdAt w 405).body = .stmts (bodyOf 35) := by kernel_rfl
theorem code405 (w : World) : codeIn (KK w) (fdAt w 405).code (fdAt w 405).qualname = true := by kernel_rfl
theorem plain405 (w : World) (x0 : D) : plainDef (fdAt w 405) [(("script" : Str), x0)] = true := by kernel_rfl
theorem bind405 (w : World) (x0 : Value) : bindArgs (fdAt w 405) ⟨[x0], []⟩ = pure [(("script" : Str), x0)] := by kernel_rfl
theorem look412 (w : World) : (KK w).lookup 412 = some (objAt w 412) := by kernel_rfl
theorem data412 (w : World) : (objAt w 412).data = .func (fdAt w 412) := by kernel_rfl
theorem body412 (w : World) : (fdAt w 412).body = .stmts (bodyOf 36) := by kernel_rfl
theorem code412 (w : World) : codeIn (KK w) (fdAt w 412).code (fdAt w 412).qualname = true := by kernel_rfl
theorem plain412 (w : World) (x0 x1 : D) : plainDef (fdAt w 412) [(("kinds" : Str), x0), (("j" : Str), x1)] = true := by kernel_rfl
theorem bind412 (w : World) (x0 x1 : Value) : bindArgs (fdAt w 412) ⟨[x0, x1], []⟩ = pure [(("kinds" : Str), x0), (("j" : Str), x1)] := by kernel_rfl
theorem look419 (w : World) : (KK w).lookup 419 = some (objAt w 419) := by kernel_rfl
theorem data419 (w : World) : (objAt w 419).data = .func (fdAt w 419) := by kernel_rfl
theorem body419 (w : World) : (fdAt w 419).body = .stmts (bodyOf 37) := by kernel_rfl
theorem code419 (w : World) : codeIn (KK w) (fdAt w 419).code (fdAt w 419).qualname = true := by kernel_rfl
theorem plain419 (w : World) (x0 x1 x2 : D) : plainDef (fdAt w 419) [(("kinds" : Str), x0), (("j" : Str), x1), (("begin" : Str), x2)] = true := by kernel_rfl
theorem bind419 (w : World) (x0 x1 x2 : Value) : bindArgs (fdAt w 419) ⟨[x0, x1, x2], []⟩ = pure [(("kinds" : Str), x0), (("j" : Str), x1), (("begin" : Str), x2)] := by kernel_rfl
theorem look426 (w : World) : (KK w).lookup 426 = some (objAt w 426) := by kernel_rfl
theorem data426 (w : World) : (objAt w 426).data = .func (fdAt w 426) := by kernel_rfl
theorem body426 (w : World) : (fdAt w 426).body = .stmts (bodyOf 38) := by kernel_rfl
theorem code426 (w : World) : codeIn (KK w) (fdAt w 426).code (fdAt w 426).qualname = true := by kernel_rfl
theorem plain426 (w : World) (x0 x1 : D) : plainDef (fdAt w 426) [(("kinds" : Str), x0), (("begin" : Str), x1)] = true := by kernel_rfl
theorem bind426 (w : World) (x0 x1 : Value) : bindArgs (fdAt w 426) ⟨[x0, x1], []⟩ = pure [(("kinds" : Str), x0), (("begin" : Str), x1)] := by kernel_rfl
theorem look433 (w : World) : (KK w).lookup 433 = some (objAt w 433) := by kernel_rfl
theorem data433 (w : World) : (objAt w 433).data = .func (fdAt w 433) := by kernel_rfl
theorem body433 (w : World) : (fdAt w 433).body = .stmts (bodyOf 39) := by kernel_rfl
theorem code433 (w : World) : codeIn (KK w) (fdAt w 433).code (fdAt w 433).qualname = true := by kernel_rfl
theorem plain433 (w : World) (x0 : D) : plainDef (fdAt w 433) [(("kinds" : Str), x0)] = true := by kernel_rfl
theorem bind433 (w : World) (x0 : Value) : bindArgs (fdAt w 433) ⟨[x0], []⟩ = pure [(("kinds" : Str), x0)] := by kernel_rfl

/-- a table of the text's top, read off its statement -/
def intOf : Expr → Int
  | .Constant (.int i) _ _ => i
  | _ => 0
def pairOf : Expr → Int × Int
  | .Tuple (a :: b :: _) _ _ => (intOf a, intOf b)
  | _ => (0, 0)
def tabOf' : Stmt → List (Int × Int)
  | .Assign _ (.Tuple l _ _) _ => l.map pairOf
  | _ => []
def tabAt (n : Nat) : List (Int × Int) := match PySem.Challenge.pw_gb5027_01.main.body.drop n with
  | s :: _ => tabOf' s
  | [] => []

/-- data of the top's own tuples -/
def repIn (K : Frag) : Nat → Value → Option D
  | 0, _ => none
  | n + 1, v => match v with
    | .int i _ => some (.int i)
    | .ref a => match K.lookup a with
      | some ⟨.type t, _, .seq vs _, _⟩ => if t = "tuple" then (repsIn K n vs.toList).map D.tup else none
      | _ => none
    | _ => none
where repsIn (K : Frag) : Nat → List Value → Option (List D)
  | 0, _ => none
  | _ + 1, [] => some []
  | n + 1, v :: r => (repIn K n v).bind fun d => (repsIn K n r).map (d :: ·)

theorem repIn_ok {K : Frag} {h : Heap} {own : List Addr} (X : K.In h) (hf : ∀ a ∈ own, K.lookup a = none) : ∀ n, (∀ v d, repIn K n v = some d → Rep h own d v) ∧ (∀ vs ds, repIn.repsIn K n vs = some ds → Reps h own ds vs)
  | 0 => ⟨fun _ _ e => by simp [repIn] at e, fun _ _ e => by simp [repIn.repsIn] at e⟩
  | n + 1 => by
    obtain ⟨h1, h2⟩ := repIn_ok X hf n
    constructor
    · intro v d e
      unfold repIn at e
      split at e
      · cases e; exact ⟨_, rfl⟩
      · rename_i a
        split at e
        · rename_i t dd vs k sl q
          split at e
          · rename_i ht
            obtain ⟨ds, hd, e'⟩ := Option.map_eq_some_iff.mp e
            subst e'
            subst ht
            exact ⟨a, vs, rfl, fun m => (by rw [hf a m] at q; exact nomatch q), ⟨_, X _ _ q, rfl, k, rfl⟩, h2 _ _ hd⟩
          · cases e
        · cases e
      · cases e
    · intro vs ds e
      cases vs with
      | nil => simp only [repIn.repsIn] at e; cases e; rfl
      | cons v r =>
        simp only [repIn.repsIn] at e
        obtain ⟨d, hd, e'⟩ := Option.bind_eq_some_iff.mp e
        obtain ⟨l, hl, e''⟩ := Option.map_eq_some_iff.mp e'
        subst e''
        exact ⟨v, r, rfl, h1 _ _ hd, h2 _ _ hl⟩

noncomputable def gcbVal (w : World) (nm : String) : Value := match findCls (KK w) (.ref 236) (.type "type") (Str.ofString nm) with
  | some (.val v) => v
  | _ => .none
def tokOf : Value → Tok
  | .int _ t => t
  | _ => 0
theorem gcb_reads (w : World) : readsIn (KK w) 236 (.type "type") = true := by kernel_rfl
theorem gcb_glob (w : World) : nsIn (KK w) mainGlobals "GCB" = some (some (.ref 236)) := by kernel_rfl

section
variable {c : Cx} {σ : Sto} (hK : c.K = KK c.w)
include hK
theorem SE.gcbAttr {nm : Str} {p q : Pos} (hk : c.env.kindOf "GCB" = some .globalImplicit) (k : Int) {v : Value} (hv : findCls (KK c.w) (.ref 236) (.type "type") nm = some (.val v)) (ht : ∃ t, v = .int k t) : SE c σ (.Attribute (.Name "GCB" p) nm q) (.int k) := fun own s Q E G h => by
  obtain ⟨t, rfl⟩ := ht
  refine Attribute_name (load_glob G hk (v := .ref 236) (by rw [hK]; exact gcb_glob _) (by kernel_rfl) ?_)
  exact cls_value (X := by have := G.stat'.kin; rw [hK] at this; exact this) (gcb_reads _) hv rfl (h _ _ (.toks _) ⟨_, rfl⟩)
theorem SE.gOTHER {p q : Pos} (hk : c.env.kindOf "GCB" = some .globalImplicit) : SE c σ (.Attribute (.Name "GCB" p) "OTHER" q) (.int 0) := SE.gcbAttr hK hk 0 (by show _ = some (CFound.val (gcbVal c.w "OTHER")); kernel_rfl) ⟨tokOf (gcbVal c.w "OTHER"), by kernel_rfl⟩
theorem SE.gCR {p q : Pos} (hk : c.env.kindOf "GCB" = some .globalImplicit) : SE c σ (.Attribute (.Name "GCB" p) "CR" q) (.int 1) := SE.gcbAttr hK hk 1 (by show _ = some (CFound.val (gcbVal c.w "CR")); kernel_rfl) ⟨tokOf (gcbVal c.w "CR"), by kernel_rfl⟩
theorem SE.gLF {p q : Pos} (hk : c.env.kindOf "GCB" = some .globalImplicit) : SE c σ (.Attribute (.Name "GCB" p) "LF" q) (.int 2) := SE.gcbAttr hK hk 2 (by show _ = some (CFound.val (gcbVal c.w "LF")); kernel_rfl) ⟨tokOf (gcbVal c.w "LF"), by kernel_rfl⟩
theorem SE.gCONTROL {p q : Pos} (hk : c.env.kindOf "GCB" = some .globalImplicit) : SE c σ (.Attribute (.Name "GCB" p) "CONTROL" q) (.int 3) := SE.gcbAttr hK hk 3 (by show _ = some (CFound.val (gcbVal c.w "CONTROL")); kernel_rfl) ⟨tokOf (gcbVal c.w "CONTROL"), by kernel_rfl⟩
theorem SE.gEXTEND {p q : Pos} (hk : c.env.kindOf "GCB" = some .globalImplicit) : SE c σ (.Attribute (.Name "GCB" p) "EXTEND" q) (.int 4) := SE.gcbAttr hK hk 4 (by show _ = some (CFound.val (gcbVal c.w "EXTEND")); kernel_rfl) ⟨tokOf (gcbVal c.w "EXTEND"), by kernel_rfl⟩
theorem SE.gZWJ {p q : Pos} (hk : c.env.kindOf "GCB" = some .globalImplicit) : SE c σ (.Attribute (.Name "GCB" p) "ZWJ" q) (.int 5) := SE.gcbAttr hK hk 5 (by show _ = some (CFound.val (gcbVal c.w "ZWJ")); kernel_rfl) ⟨tokOf (gcbVal c.w "ZWJ"), by kernel_rfl⟩
theorem SE.gREGIONAL_INDICATOR {p q : Pos} (hk : c.env.kindOf "GCB" = some .globalImplicit) : SE c σ (.Attribute (.Name "GCB" p) "REGIONAL_INDICATOR" q) (.int 6) := SE.gcbAttr hK hk 6 (by show _ = some (CFound.val (gcbVal c.w "REGIONAL_INDICATOR")); kernel_rfl) ⟨tokOf (gcbVal c.w "REGIONAL_INDICATOR"), by kernel_rfl⟩
theorem SE.gPREPEND {p q : Pos} (hk : c.env.kindOf "GCB" = some .globalImplicit) : SE c σ (.Attribute (.Name "GCB" p) "PREPEND" q) (.int 7) := SE.gcbAttr hK hk 7 (by show _ = some (CFound.val (gcbVal c.w "PREPEND")); kernel_rfl) ⟨tokOf (gcbVal c.w "PREPEND"), by kernel_rfl⟩
theorem SE.gSPACING_MARK {p q : Pos} (hk : c.env.kindOf "GCB" = some .globalImplicit) : SE c σ (.Attribute (.Name "GCB" p) "SPACING_MARK" q) (.int 8) := SE.gcbAttr hK hk 8 (by show _ = some (CFound.val (gcbVal c.w "SPACING_MARK")); kernel_rfl) ⟨tokOf (gcbVal c.w "SPACING_MARK"), by kernel_rfl⟩
theorem SE.gL {p q : Pos} (hk : c.env.kindOf "GCB" = some .globalImplicit) : SE c σ (.Attribute (.Name "GCB" p) "L" q) (.int 9) := SE.gcbAttr hK hk 9 (by show _ = some (CFound.val (gcbVal c.w "L")); kernel_rfl) ⟨tokOf (gcbVal c.w "L"), by kernel_rfl⟩
theorem SE.gV {p q : Pos} (hk : c.env.kindOf "GCB" = some .globalImplicit) : SE c σ (.Attribute (.Name "GCB" p) "V" q) (.int 10) := SE.gcbAttr hK hk 10 (by show _ = some (CFound.val (gcbVal c.w "V")); kernel_rfl) ⟨tokOf (gcbVal c.w "V"), by kernel_rfl⟩
theorem SE.gT {p q : Pos} (hk : c.env.kindOf "GCB" = some .globalImplicit) : SE c σ (.Attribute (.Name "GCB" p) "T" q) (.int 11) := SE.gcbAttr hK hk 11 (by show _ = some (CFound.val (gcbVal c.w "T")); kernel_rfl) ⟨tokOf (gcbVal c.w "T"), by kernel_rfl⟩
theorem SE.gLV {p q : Pos} (hk : c.env.kindOf "GCB" = some .globalImplicit) : SE c σ (.Attribute (.Name "GCB" p) "LV" q) (.int 12) := SE.gcbAttr hK hk 12 (by show _ = some (CFound.val (gcbVal c.w "LV")); kernel_rfl) ⟨tokOf (gcbVal c.w "LV"), by kernel_rfl⟩
theorem SE.gLVT {p q : Pos} (hk : c.env.kindOf "GCB" = some .globalImplicit) : SE c σ (.Attribute (.Name "GCB" p) "LVT" q) (.int 13) := SE.gcbAttr hK hk 13 (by show _ = some (CFound.val (gcbVal c.w "LVT")); kernel_rfl) ⟨tokOf (gcbVal c.w "LVT"), by kernel_rfl⟩
/-- a table by its name -/
theorem SE.tab {nm : Str} {p : Pos} {a : Addr} {l : List (Int × Int)} {n : Nat} (hk : c.env.kindOf nm = some .globalImplicit) (hg : nsIn (KK c.w) mainGlobals nm = some (some (.ref a))) (hd : (nm == ("__debug__" : Str)) = false) (hr : repIn (KK c.w) n (.ref a) = some (pairs l)) : SE c σ (.Name nm p) (pairs l) :=
  SE.globD hk (by rw [hK]; exact hg) hd fun h own X hf => (repIn_ok (by rw [hK] at X; exact X) (by rw [hK] at hf; exact hf) n).1 _ _ hr
end
end Mine

open PySem PySem.W PyProof.Rows PySem.Calls
set_option Elab.async false
set_option linter.unusedVariables false
set_option maxRecDepth 100000
namespace Mine
/-! ## the lines of the walk -/
local macro_rules | `(tactic| walk_at "m look") => `(tactic| (repeat' (first | with_reducible assumption | with_reducible exact Look.here | (with_reducible refine' Look.there ?_ ?_; kernel_rfl))))
local macro_rules | `(tactic| walk_at "m blt") => `(tactic| (refine' bltOk.mk' ?_ ?_ ?_ ?_ ?_ <;> kernel_rfl))
local macro_rules | `(tactic| walk_at "m side") => `(tactic| first | with_reducible assumption | (with_reducible exact rfl) | omega | (simp only [List.length_map, List.length_cons, List.length_nil, List.length_append]; omega) | decide)
local macro_rules | `(tactic| walk_at "m b") => `(tactic| with_reducible first
  | exact BinOK.addI | exact BinOK.subI | (refine' BinOK.modI ?_; walk_at "m side") | (refine' BinOK.divI ?_ ?_ <;> walk_at "m side"))
local macro_rules | `(tactic| walk_at "m c") => `(tactic| with_reducible first
  | exact CmpOK.eqI | exact CmpOK.neI | exact CmpOK.ltI | exact CmpOK.leI | exact CmpOK.gtI | exact CmpOK.geI | exact CmpOK.eqS | exact CmpOK.neS)
local macro_rules | `(tactic| walk_at "m e") => `(tactic| with_reducible first
  | exact SE.int | exact SE.str | exact SE.bool | exact SE.none
  | (refine' SE.name ?k1; (case k1 => walk_at "m look"))
  | (refine' SE.bin ?k1 ?k2 ?k3; (case k1 => walk_at "m e"); (case k2 => walk_at "m e"); (case k3 => walk_at "m b"))
  | (refine' SE.cmp (hm := ?k4) ?k1 ?k2 ?k3; (case k1 => walk_at "m e"); (case k2 => walk_at "m e"); (case k3 => walk_at "m c"); (case k4 => with_unfolding_all rfl))
  | (refine' SE.lenT ?k1 ?k2 ?k3 ?k4; (case k1 => walk_at "m blt"); (case k2 => with_unfolding_all (intro _; rfl)); (case k3 => walk_at "m e"); (case k4 => walk_at "m side"))
  | (refine' SE.lenL ?k1 ?k2 ?k3 ?k4; (case k1 => walk_at "m blt"); (case k2 => with_unfolding_all (intro _; rfl)); (case k3 => walk_at "m e"); (case k4 => walk_at "m side"))
  | (refine' SE.lenS ?k1 ?k2 ?k3 ?k4; (case k1 => walk_at "m blt"); (case k2 => with_unfolding_all (intro _; rfl)); (case k3 => walk_at "m e"); (case k4 => walk_at "m side"))
  | fail "m e")
local macro_rules | `(tactic| walk_at "m t") => `(tactic| with_reducible first
  | (refine' SB.cmp (hm := ?k4) ?k1 ?k2 ?k3; (case k1 => walk_at "m e"); (case k2 => walk_at "m e"); (case k3 => walk_at "m c"); (case k4 => with_unfolding_all rfl))
  | (refine' SB.not ?k1; (case k1 => walk_at "m t"))
  | fail "m t")
/-- one statement -/
local macro_rules | `(tactic| walk_at "m s") => `(tactic| with_reducible first
  | refine' SX.doc ?_
  | (refine' SX.assign (hs := ?k3) ?k1 ?k2 ?k4; (case k1 => walk_at "m e"); (case k2 => kernel_rfl); (case k3 => with_unfolding_all rfl))
  | fail "m s")

theorem tabNe3 : tabAt 3 ≠ [] := by decide +kernel
theorem tabLt3 : (tabAt 3).length < 1000000 := by decide +kernel
theorem tabNe4 : tabAt 4 ≠ [] := by decide +kernel
theorem tabLt4 : (tabAt 4).length < 1000000 := by decide +kernel
theorem tabNe5 : tabAt 5 ≠ [] := by decide +kernel
theorem tabLt5 : (tabAt 5).length < 1000000 := by decide +kernel
theorem tabNe6 : tabAt 6 ≠ [] := by decide +kernel
theorem tabLt6 : (tabAt 6).length < 1000000 := by decide +kernel
theorem tabNe7 : tabAt 7 ≠ [] := by decide +kernel
theorem tabLt7 : (tabAt 7).length < 1000000 := by decide +kernel
theorem tabNe8 : tabAt 8 ≠ [] := by decide +kernel
theorem tabLt8 : (tabAt 8).length < 1000000 := by decide +kernel
theorem tabNe9 : tabAt 9 ≠ [] := by decide +kernel
theorem tabLt9 : (tabAt 9).length < 1000000 := by decide +kernel
theorem tabNe10 : tabAt 10 ≠ [] := by decide +kernel
theorem tabLt10 : (tabAt 10).length < 1000000 := by decide +kernel
theorem tabNe11 : tabAt 11 ≠ [] := by decide +kernel
theorem tabLt11 : (tabAt 11).length < 1000000 := by decide +kernel
theorem tabNe12 : tabAt 12 ≠ [] := by decide +kernel
theorem tabLt12 : (tabAt 12).length < 1000000 := by decide +kernel
theorem tabNe13 : tabAt 13 ≠ [] := by decide +kernel
theorem tabLt13 : (tabAt 13).length < 1000000 := by decide +kernel
theorem tabNe14 : tabAt 14 ≠ [] := by decide +kernel
theorem tabLt14 : (tabAt 14).length < 1000000 := by decide +kernel
theorem tabNe15 : tabAt 15 ≠ [] := by decide +kernel
theorem tabLt15 : (tabAt 15).length < 1000000 := by decide +kernel
theorem tabNe16 : tabAt 16 ≠ [] := by decide +kernel
theorem tabLt16 : (tabAt 16).length < 1000000 := by decide +kernel
section
variable {c : Cx} {σ : Sto}
section
variable (hK : c.K = KK c.w)
include hK
set_option linter.unusedSectionVars false
theorem SE.tGRAPHEME_CONTROL {p : Pos} (hk : c.env.kindOf "GRAPHEME_CONTROL" = some .globalImplicit) : SE c σ (.Name "GRAPHEME_CONTROL" p) (pairs (tabAt 3)) := SE.tab hK (n := 60) hk (by kernel_rfl : nsIn (KK c.w) mainGlobals "GRAPHEME_CONTROL" = some (some (.ref 40))) (by kernel_rfl) (by kernel_rfl)
theorem SE.tGRAPHEME_EXTEND {p : Pos} (hk : c.env.kindOf "GRAPHEME_EXTEND" = some .globalImplicit) : SE c σ (.Name "GRAPHEME_EXTEND" p) (pairs (tabAt 4)) := SE.tab hK (n := 60) hk (by kernel_rfl : nsIn (KK c.w) mainGlobals "GRAPHEME_EXTEND" = some (some (.ref 73))) (by kernel_rfl) (by kernel_rfl)
theorem SE.tGRAPHEME_REGIONAL_INDICATOR {p : Pos} (hk : c.env.kindOf "GRAPHEME_REGIONAL_INDICATOR" = some .globalImplicit) : SE c σ (.Name "GRAPHEME_REGIONAL_INDICATOR" p) (pairs (tabAt 5)) := SE.tab hK (n := 60) hk (by kernel_rfl : nsIn (KK c.w) mainGlobals "GRAPHEME_REGIONAL_INDICATOR" = some (some (.ref 75))) (by kernel_rfl) (by kernel_rfl)
theorem SE.tGRAPHEME_PREPEND {p : Pos} (hk : c.env.kindOf "GRAPHEME_PREPEND" = some .globalImplicit) : SE c σ (.Name "GRAPHEME_PREPEND" p) (pairs (tabAt 6)) := SE.tab hK (n := 60) hk (by kernel_rfl : nsIn (KK c.w) mainGlobals "GRAPHEME_PREPEND" = some (some (.ref 81))) (by kernel_rfl) (by kernel_rfl)
theorem SE.tGRAPHEME_SPACINGMARK {p : Pos} (hk : c.env.kindOf "GRAPHEME_SPACINGMARK" = some .globalImplicit) : SE c σ (.Name "GRAPHEME_SPACINGMARK" p) (pairs (tabAt 7)) := SE.tab hK (n := 60) hk (by kernel_rfl : nsIn (KK c.w) mainGlobals "GRAPHEME_SPACINGMARK" = some (some (.ref 92))) (by kernel_rfl) (by kernel_rfl)
theorem SE.tGRAPHEME_L {p : Pos} (hk : c.env.kindOf "GRAPHEME_L" = some .globalImplicit) : SE c σ (.Name "GRAPHEME_L" p) (pairs (tabAt 8)) := SE.tab hK (n := 60) hk (by kernel_rfl : nsIn (KK c.w) mainGlobals "GRAPHEME_L" = some (some (.ref 95))) (by kernel_rfl) (by kernel_rfl)
theorem SE.tGRAPHEME_V {p : Pos} (hk : c.env.kindOf "GRAPHEME_V" = some .globalImplicit) : SE c σ (.Name "GRAPHEME_V" p) (pairs (tabAt 9)) := SE.tab hK (n := 60) hk (by kernel_rfl : nsIn (KK c.w) mainGlobals "GRAPHEME_V" = some (some (.ref 100))) (by kernel_rfl) (by kernel_rfl)
theorem SE.tGRAPHEME_T {p : Pos} (hk : c.env.kindOf "GRAPHEME_T" = some .globalImplicit) : SE c σ (.Name "GRAPHEME_T" p) (pairs (tabAt 10)) := SE.tab hK (n := 60) hk (by kernel_rfl : nsIn (KK c.w) mainGlobals "GRAPHEME_T" = some (some (.ref 103))) (by kernel_rfl) (by kernel_rfl)
theorem SE.tGRAPHEME_LV {p : Pos} (hk : c.env.kindOf "GRAPHEME_LV" = some .globalImplicit) : SE c σ (.Name "GRAPHEME_LV" p) (pairs (tabAt 11)) := SE.tab hK (n := 60) hk (by kernel_rfl : nsIn (KK c.w) mainGlobals "GRAPHEME_LV" = some (some (.ref 108))) (by kernel_rfl) (by kernel_rfl)
theorem SE.tGRAPHEME_LVT {p : Pos} (hk : c.env.kindOf "GRAPHEME_LVT" = some .globalImplicit) : SE c σ (.Name "GRAPHEME_LVT" p) (pairs (tabAt 12)) := SE.tab hK (n := 60) hk (by kernel_rfl : nsIn (KK c.w) mainGlobals "GRAPHEME_LVT" = some (some (.ref 113))) (by kernel_rfl) (by kernel_rfl)
theorem SE.tEXTENDED_PICTOGRAPHIC {p : Pos} (hk : c.env.kindOf "EXTENDED_PICTOGRAPHIC" = some .globalImplicit) : SE c σ (.Name "EXTENDED_PICTOGRAPHIC" p) (pairs (tabAt 13)) := SE.tab hK (n := 60) hk (by kernel_rfl : nsIn (KK c.w) mainGlobals "EXTENDED_PICTOGRAPHIC" = some (some (.ref 142))) (by kernel_rfl) (by kernel_rfl)
theorem SE.tINCB_LINKER {p : Pos} (hk : c.env.kindOf "INCB_LINKER" = some .globalImplicit) : SE c σ (.Name "INCB_LINKER" p) (pairs (tabAt 14)) := SE.tab hK (n := 60) hk (by kernel_rfl : nsIn (KK c.w) mainGlobals "INCB_LINKER" = some (some (.ref 147))) (by kernel_rfl) (by kernel_rfl)
theorem SE.tINCB_CONSONANT {p : Pos} (hk : c.env.kindOf "INCB_CONSONANT" = some .globalImplicit) : SE c σ (.Name "INCB_CONSONANT" p) (pairs (tabAt 15)) := SE.tab hK (n := 60) hk (by kernel_rfl : nsIn (KK c.w) mainGlobals "INCB_CONSONANT" = some (some (.ref 154))) (by kernel_rfl) (by kernel_rfl)
theorem SE.tINCB_EXTEND {p : Pos} (hk : c.env.kindOf "INCB_EXTEND" = some .globalImplicit) : SE c σ (.Name "INCB_EXTEND" p) (pairs (tabAt 16)) := SE.tab hK (n := 60) hk (by kernel_rfl : nsIn (KK c.w) mainGlobals "INCB_EXTEND" = some (some (.ref 183))) (by kernel_rfl) (by kernel_rfl)
theorem SE.bis {p pos : Pos} {e1 e2 : Expr} {u : Int} {l : List (Int × Int)} (R : Room c.A 1) (hk : c.env.kindOf "bisearch" = some .globalImplicit) (hs : plainArgs c [e1, e2]) (h1 : SE c σ e1 (.int u)) (h2 : SE c σ e2 (pairs l)) (hl : l ≠ []) (hf : l.length < 1000000) :
    SE c σ (.Call (.Name "bisearch" p) [e1, e2] [] pos) (.int (bis l u)) :=
  SE.call (SE.glob hk (by rw [hK]; kernel_rfl : nsIn c.K mainGlobals "bisearch" = some (some (.ref 28))) (by kernel_rfl)) (.cons h1 (.cons h2 .nil)) (by rw [hK]; exact look28 c.w) (data28 c.w) (by rw [hK]; exact bis_fn l u hl hf) R (hs _)
end

end
local macro_rules | `(tactic| walk_at "m room") => `(tactic| first | with_reducible assumption | exact Room.le (by assumption) (by decide))
local macro_rules | `(tactic| walk_at "m tab") => `(tactic| with_reducible first
  | (refine' SE.tGRAPHEME_CONTROL ?k0 ?k1; (case k0 => exact rfl); (case k1 => kernel_rfl))
  | (refine' SE.tGRAPHEME_EXTEND ?k0 ?k1; (case k0 => exact rfl); (case k1 => kernel_rfl))
  | (refine' SE.tGRAPHEME_REGIONAL_INDICATOR ?k0 ?k1; (case k0 => exact rfl); (case k1 => kernel_rfl))
  | (refine' SE.tGRAPHEME_PREPEND ?k0 ?k1; (case k0 => exact rfl); (case k1 => kernel_rfl))
  | (refine' SE.tGRAPHEME_SPACINGMARK ?k0 ?k1; (case k0 => exact rfl); (case k1 => kernel_rfl))
  | (refine' SE.tGRAPHEME_L ?k0 ?k1; (case k0 => exact rfl); (case k1 => kernel_rfl))
  | (refine' SE.tGRAPHEME_V ?k0 ?k1; (case k0 => exact rfl); (case k1 => kernel_rfl))
  | (refine' SE.tGRAPHEME_T ?k0 ?k1; (case k0 => exact rfl); (case k1 => kernel_rfl))
  | (refine' SE.tGRAPHEME_LV ?k0 ?k1; (case k0 => exact rfl); (case k1 => kernel_rfl))
  | (refine' SE.tGRAPHEME_LVT ?k0 ?k1; (case k0 => exact rfl); (case k1 => kernel_rfl))
  | (refine' SE.tEXTENDED_PICTOGRAPHIC ?k0 ?k1; (case k0 => exact rfl); (case k1 => kernel_rfl))
  | (refine' SE.tINCB_LINKER ?k0 ?k1; (case k0 => exact rfl); (case k1 => kernel_rfl))
  | (refine' SE.tINCB_CONSONANT ?k0 ?k1; (case k0 => exact rfl); (case k1 => kernel_rfl))
  | (refine' SE.tINCB_EXTEND ?k0 ?k1; (case k0 => exact rfl); (case k1 => kernel_rfl)))
local macro_rules | `(tactic| walk_at "m gcb") => `(tactic| with_reducible first
  | (refine' SE.gOTHER ?k0 ?k1; (case k0 => exact rfl); (case k1 => kernel_rfl))
  | (refine' SE.gCR ?k0 ?k1; (case k0 => exact rfl); (case k1 => kernel_rfl))
  | (refine' SE.gLF ?k0 ?k1; (case k0 => exact rfl); (case k1 => kernel_rfl))
  | (refine' SE.gCONTROL ?k0 ?k1; (case k0 => exact rfl); (case k1 => kernel_rfl))
  | (refine' SE.gEXTEND ?k0 ?k1; (case k0 => exact rfl); (case k1 => kernel_rfl))
  | (refine' SE.gZWJ ?k0 ?k1; (case k0 => exact rfl); (case k1 => kernel_rfl))
  | (refine' SE.gREGIONAL_INDICATOR ?k0 ?k1; (case k0 => exact rfl); (case k1 => kernel_rfl))
  | (refine' SE.gPREPEND ?k0 ?k1; (case k0 => exact rfl); (case k1 => kernel_rfl))
  | (refine' SE.gSPACING_MARK ?k0 ?k1; (case k0 => exact rfl); (case k1 => kernel_rfl))
  | (refine' SE.gL ?k0 ?k1; (case k0 => exact rfl); (case k1 => kernel_rfl))
  | (refine' SE.gV ?k0 ?k1; (case k0 => exact rfl); (case k1 => kernel_rfl))
  | (refine' SE.gT ?k0 ?k1; (case k0 => exact rfl); (case k1 => kernel_rfl))
  | (refine' SE.gLV ?k0 ?k1; (case k0 => exact rfl); (case k1 => kernel_rfl))
  | (refine' SE.gLVT ?k0 ?k1; (case k0 => exact rfl); (case k1 => kernel_rfl)))
local macro_rules | `(tactic| walk_at "m tabside") => `(tactic| with_reducible first | exact tabNe3 | exact tabLt3 | exact tabNe4 | exact tabLt4 | exact tabNe5 | exact tabLt5 | exact tabNe6 | exact tabLt6 | exact tabNe7 | exact tabLt7 | exact tabNe8 | exact tabLt8 | exact tabNe9 | exact tabLt9 | exact tabNe10 | exact tabLt10 | exact tabNe11 | exact tabLt11 | exact tabNe12 | exact tabLt12 | exact tabNe13 | exact tabLt13 | exact tabNe14 | exact tabLt14 | exact tabNe15 | exact tabLt15 | exact tabNe16 | exact tabLt16)

def gcb (u : Int) : Int := if (u == 13) = true then 1 else if (u == 10) = true then 2 else if (u == 8205) = true then 5
  else if (bis (tabAt 3) u != 0) = true then 3
  else if (bis (tabAt 4) u != 0) = true then 4
  else if (bis (tabAt 5) u != 0) = true then 6
  else if (bis (tabAt 6) u != 0) = true then 7
  else if (bis (tabAt 7) u != 0) = true then 8
  else if (bis (tabAt 8) u != 0) = true then 9
  else if (bis (tabAt 9) u != 0) = true then 10
  else if (bis (tabAt 10) u != 0) = true then 11
  else if (bis (tabAt 11) u != 0) = true then 12
  else if (bis (tabAt 12) u != 0) = true then 13
  else 0

local macro_rules | `(tactic| walk_at "m e") => `(tactic| with_reducible first
  | walk_at "m gcb"
  | (refine' SE.bis ?k0 ?k1 ?k2 ?k3 ?k4 ?k5 ?k6 ?k7; (case k0 => exact rfl); (case k1 => walk_at "m room"); (case k2 => kernel_rfl); (case k3 => with_unfolding_all (intro _; rfl)); (case k4 => walk_at "m e"); (case k5 => walk_at "m tab"); (case k6 => walk_at "m tabside"); (case k7 => walk_at "m tabside"))
  | fail "m e f")
local macro_rules | `(tactic| walk_at "m t") => `(tactic| with_reducible first | (refine' SB.ofInt (hv := ?k2) ?k1; (case k2 => with_unfolding_all (intro _; rfl)); (case k1 => walk_at "m e")) | fail "m t i")

section
variable {prog : Program} {w : World} {mg mb : Str → Option Value}
theorem gcb_fn (u : Int) : Fn prog w (KK w) mg mb 247 2 [.int u] [] (.int (gcb u)) := by
  refine Fn.of_body (n := 1) (look247 w) (data247 w) (body247 w) (plain247 w (.int u)) (code247 w) ?_ ?_
  · intro s av vs kvs T H r k
    obtain ⟨v, rfl, h1⟩ := one r
    obtain rfl := k
    exact ⟨_, .of_eq (bind247 w v), v, _, rfl, h1, rfl⟩
  · intro S₀ av A L R
    show SX _ (upd empty "ucs" _) (Stmt.Expr _ _ :: _) _
    dsimp only
    walk_at "m s"
    refine' SX.if1 ?t1 (fun h1 => ?a1) (fun h1 => ?b1)
    case t1 => walk_at "m t"
    case a1 =>
      refine' SX.ret (d := .int 1) ?r1 (.inl ?q1)
      case r1 =>
        walk_at "m e"
      rw [gcb, if_pos h1]
    refine' SX.if1 ?t2 (fun h2 => ?a2) (fun h2 => ?b2)
    case t2 => walk_at "m t"
    case a2 =>
      refine' SX.ret (d := .int 2) ?r2 (.inl ?q2)
      case r2 => walk_at "m e"
      rw [gcb, if_neg (by rw [h1]; decide), if_pos h2]
    refine' SX.if1 ?t3 (fun h3 => ?a3) (fun h3 => ?b3)
    case t3 => walk_at "m t"
    case a3 =>
      refine' SX.ret (d := .int 5) ?r3 (.inl ?q3)
      case r3 => walk_at "m e"
      rw [gcb, if_neg (by rw [h1]; decide), if_neg (by rw [h2]; decide), if_pos h3]
    refine' SX.if1 ?t4 (fun h4 => ?a4) (fun h4 => ?b4)
    case t4 => walk_at "m t"
    case a4 =>
      refine' SX.ret (d := .int 3) ?r4 (.inl ?q4)
      case r4 => walk_at "m e"
      simp only [gcb, h1, h2, h3, h4, Bool.false_eq_true, if_false, if_true]
    refine' SX.if1 ?t5 (fun h5 => ?a5) (fun h5 => ?b5)
    case t5 => walk_at "m t"
    case a5 =>
      refine' SX.ret (d := .int 4) ?r5 (.inl ?q5)
      case r5 => walk_at "m e"
      simp only [gcb, h1, h2, h3, h4, h5, Bool.false_eq_true, if_false, if_true]
    refine' SX.if1 ?t6 (fun h6 => ?a6) (fun h6 => ?b6)
    case t6 => walk_at "m t"
    case a6 =>
      refine' SX.ret (d := .int 6) ?r6 (.inl ?q6)
      case r6 => walk_at "m e"
      simp only [gcb, h1, h2, h3, h4, h5, h6, Bool.false_eq_true, if_false, if_true]
    refine' SX.if1 ?t7 (fun h7 => ?a7) (fun h7 => ?b7)
    case t7 => walk_at "m t"
    case a7 =>
      refine' SX.ret (d := .int 7) ?r7 (.inl ?q7)
      case r7 => walk_at "m e"
      simp only [gcb, h1, h2, h3, h4, h5, h6, h7, Bool.false_eq_true, if_false, if_true]
    refine' SX.if1 ?t8 (fun h8 => ?a8) (fun h8 => ?b8)
    case t8 => walk_at "m t"
    case a8 =>
      refine' SX.ret (d := .int 8) ?r8 (.inl ?q8)
      case r8 => walk_at "m e"
      simp only [gcb, h1, h2, h3, h4, h5, h6, h7, h8, Bool.false_eq_true, if_false, if_true]
    refine' SX.if1 ?t9 (fun h9 => ?a9) (fun h9 => ?b9)
    case t9 => walk_at "m t"
    case a9 =>
      refine' SX.ret (d := .int 9) ?r9 (.inl ?q9)
      case r9 => walk_at "m e"
      simp only [gcb, h1, h2, h3, h4, h5, h6, h7, h8, h9, Bool.false_eq_true, if_false, if_true]
    refine' SX.if1 ?t10 (fun h10 => ?a10) (fun h10 => ?b10)
    case t10 => walk_at "m t"
    case a10 =>
      refine' SX.ret (d := .int 10) ?r10 (.inl ?q10)
      case r10 => walk_at "m e"
      simp only [gcb, h1, h2, h3, h4, h5, h6, h7, h8, h9, h10, Bool.false_eq_true, if_false, if_true]
    refine' SX.if1 ?t11 (fun h11 => ?a11) (fun h11 => ?b11)
    case t11 => walk_at "m t"
    case a11 =>
      refine' SX.ret (d := .int 11) ?r11 (.inl ?q11)
      case r11 => walk_at "m e"
      simp only [gcb, h1, h2, h3, h4, h5, h6, h7, h8, h9, h10, h11, Bool.false_eq_true, if_false, if_true]
    refine' SX.if1 ?t12 (fun h12 => ?a12) (fun h12 => ?b12)
    case t12 => walk_at "m t"
    case a12 =>
      refine' SX.ret (d := .int 12) ?r12 (.inl ?q12)
      case r12 => walk_at "m e"
      simp only [gcb, h1, h2, h3, h4, h5, h6, h7, h8, h9, h10, h11, h12, Bool.false_eq_true, if_false, if_true]
    refine' SX.if1 ?t13 (fun h13 => ?a13) (fun h13 => ?b13)
    case t13 => walk_at "m t"
    case a13 =>
      refine' SX.ret (d := .int 13) ?r13 (.inl ?q13)
      case r13 => walk_at "m e"
      simp only [gcb, h1, h2, h3, h4, h5, h6, h7, h8, h9, h10, h11, h12, h13, Bool.false_eq_true, if_false, if_true]
    refine' SX.ret (d := .int 0) ?r14 (.inl ?q14)
    case r14 => walk_at "m e"
    simp only [gcb, h1, h2, h3, h4, h5, h6, h7, h8, h9, h10, h11, h12, h13, Bool.false_eq_true, if_false]
end
end Mine

open PySem PySem.W PyProof.Rows PySem.Calls Builtin Builtin.ObjectAttr
set_option Elab.async false
set_option linter.unusedVariables false
set_option maxRecDepth 100000
set_option maxHeartbeats 1000000
namespace Mine

theorem br_ga (w : World) : findIn (KK w) (.ref 343) "__getattribute__" = some (some (.builtin "tuple.__getattribute__")) := by kernel_rfl
theorem br_nohook (w : World) : findIn (KK w) (.ref 343) "__getattr__" = some none := by kernel_rfl
theorem br_sub (w : World) : mroIn (KK w) 343 (.type "tuple") = some true := by kernel_rfl
theorem br_find0 (w : World) (od : Obj) : findObj (KK w) 343 (some od) "should_break" = some (.bind (.ref 205) (.ref 335)) := by kernel_rfl
theorem br_find1 (w : World) (od : Obj) : findObj (KK w) 343 (some od) "ri_count" = some (.bind (.ref 205) (.ref 338)) := by kernel_rfl
section
variable {prog : Program} {w : World} {A : Around} {E : Value → Shared → Prop} {s : Shared}
theorem br_get {own : List Addr} {b : Bool} {n : Int} {v : Value} {nm : Str} {desc : Addr} {d : D} {mg mb : Str → Option Value} {Q : Value → Shared → Prop} (T : Stat (KK w) mg mb s.heap) (H : Hid (KK w) s.heap own) (R : Room A 2)
    (hr : Rep s.heap own (.br b n) v) (hf : ∀ od, findObj (KK w) 343 (some od) nm = some (.bind (.ref 205) (.ref desc)))
    (hF : Fn prog w (KK w) mg mb 205 1 [.val (.ref desc), .br b n, .val (.ref 343)] [] d) (hd : ∀ h own v, Rep h own d v → handedIn v = true)
    (h : ∀ u s', Ext s s' → Rep s'.heap own d u → Q u s') : wpAny (model prog w) A (getAttr v nm true) Q E s := by
  obtain ⟨x, dx, od, t, rfl, hx, hdx, ho, hdo⟩ := hr
  have I : InstAt s.heap x _ 343 (some od) := ⟨ho, rfl, rfl, hdo⟩
  have X := T.kin
  have L0 := I.type (M := model prog w)
  have L1 := looks_findIn (M := model prog w) X (br_ga w)
  have L2 := looks_findIn (M := model prog w) X (br_nohook w)
  have L3 := looks_find (M := model prog w) X I (hf od)
  have L4 : Looks (model prog w) s.heap (isInstance (.ref x) (.type "tuple")) true := L0.andThen (looks_mroIn X (br_sub w))
  obtain ⟨hh, g, dr, tk, os⟩ := s
  unfold getAttr getAttrBy
  repeat lk
  refine W.X.x_call ?_ (by intro e; cases e)
  show codeAny _ A (.call (.builtin "tuple.__getattribute__") ⟨[.ref x, .str nm tk], []⟩) _ _
  have a1 : plainId "tuple.__getattribute__" = true := F.slot_tuple_getattribute.plain
  have a2 := F.entry_tuple_ga
  have a3 : argsOk "tuple.__getattribute__" ⟨[.ref x, .str nm tk], []⟩ := F.args_tuple_getattribute_2 _ _
  have a4 : builtinKind "tuple.__getattribute__" = some .slot := by decide +kernel
  have a5 : splitId "tuple.__getattribute__" = some ("tuple", "__getattribute__") := by decide +kernel
  refine codeAny_call_builtin a1 a2 ?_
  refine wpAny_mono (check_slot (i := "tuple.__getattribute__") (owner := "tuple") (n := "__getattribute__") (self := .ref x) (rest := [.str nm tk]) (kw := []) (Q := fun _ s => s = ⟨hh, g, dr, tk + 1, os⟩) (E := fun _ _ => False) a4 a5 L4 a3 rfl) (fun _ s₁ e => ?_) (fun _ _ e => e.elim)
  subst e
  unfold Builtin.«object.__getattribute__»
  repeat lk
  refine W.X.x_call ?_ (by intro e; cases e)
  show codeAny _ A.in1 _ _ _
  have R1 : Room A.in1 1 := ⟨R.handled, by have := R.depth; show A.depth + 1 < _; omega, by have := R.units; show A.units + 1 + 8 * 1 < _; omega⟩
  have T' : Stat (KK w) mg mb (⟨hh, g, dr, tk + 1, os⟩ : Shared).heap := T
  refine hF A.in1 own ⟨hh, g, dr, tk + 1, os⟩ [.ref desc, .ref x, .ref 343] [] _ T' R1 H ⟨_, _, rfl, rfl, _, _, rfl, ⟨x, dx, od, t, rfl, hx, hdx, ho, hdo⟩, _, _, rfl, rfl, rfl⟩ rfl fun u s' x' r => ?_
  refine wpAny_pure (wpAny_pure (wpAny_pure ?_))
  show wpAny _ A (pure (Except.ok u)) _ _ _
  refine wpAny_pure ?_
  show wpAny _ A (handedOut u) _ _ _
  rw [handedOut_of (hd _ _ _ r)]
  exact wpAny_pure (h u s' ((Ext.toks (tk + 1) : Ext ⟨hh, g, dr, tk, os⟩ _).trans x') r)
end
end Mine

open PySem PySem.W PyProof.Rows PySem.Calls
set_option Elab.async false
set_option linter.unusedVariables false
set_option maxRecDepth 100000
namespace Mine

section
variable {c : Cx} {σ : Sto}
/-- a call of a built-in by its method form: «tuple.__getitem__(..)» -/
theorem SE.typeMethod {T : String} {nm id : Str} {bid : String} {p ap pos : Pos} {es : List Expr} {ds : List D} {d : D} (hb : bltOk c id (.type T)) (ha : SEs c σ es ds)
    (ht : typeOf (.type T) = pure (.type "type")) (hs : Manifest.isStub T = false) (e : ∀ K, findCls K (.type T) (.type "type") nm = some (.val (.builtin bid))) (hh : handedIn (.builtin bid) = true)
    (hF : BFn c (.builtin bid) ds d)
    (he : eval (.Call (.Attribute (.Name id p) nm ap) es [] pos) c.env = (do
      let ov ← eval (.Name id p) c.env
      standAt ap.atName
      let (f, first) ← holding [ov] (getMethod ov nm (do return (← importBound (.Name id p) c.env).getD true))
      callWith pos f first (backTo pos (starEach es c.env)) (backToKw pos (keywordEach [] c.env))) := by rfl)
    (hst : backTo pos (starEach es c.env) = es.map (fun e => (false, eval e c.env)) := by rfl) :
    SE c σ (.Call (.Attribute (.Name id p) nm ap) es [] pos) d := fun own s Q E G h => by
  refine methodCall_KW (he := he) (SE.bltName hb own s _ _ G fun v s₁ x₁ r₁ => ?_)
  obtain rfl := r₁
  have G₁ := G.ext x₁
  have T₁ := G₁.stat'
  obtain ⟨m, hm, _⟩ := G₁.ns
  have F₁ : Fr { s₁.heap with objs := #[] } c.env.locals s₁.heap m := ⟨hm, fun b o e => by simp [Heap.get?] at e, Nat.zero_le _⟩
  refine method_type (K := []) F₁ (fun a o e => by cases e) ht hs (e []) hh ?_
  have G₂ := G₁.ext (.toks (s₁.toks + 1))
  refine callWith_machine (by intro a; simp) (by rw [hst]; simp [backToKw, keywordEach]) (evalArgs_gen ha SEk.nil hst rfl rfl G₂ fun vs kvs s₂ x₂ r₂ r₃ => ?_)
  have G₃ := G₂.ext x₂
  exact hF own s₂ vs Q E G₃.stat' G₃.hid r₂ fun v s₃ x₃ r => h v s₃ (((x₁.trans (.toks _)).trans x₂).trans x₃) r

theorem three {h : Heap} {own : List Addr} {d d' d'' : D} {vs : List Value} (r : Reps h own [d, d', d''] vs) : ∃ v v' v'', vs = [v, v', v''] ∧ Rep h own d v ∧ Rep h own d' v' ∧ Rep h own d'' v'' := by
  obtain ⟨v, r', e, h1, h2⟩ := r
  obtain ⟨v', v'', rfl, h3, h4⟩ := two h2
  exact ⟨v, v', v'', e, h1, h3, h4⟩

theorem BFn.typeBr {b : Bool} {n : Int} : BFn c (.type "type") [.br b n] (.val (.ref 343)) := fun own s vs Q E T H r h => by
  obtain ⟨v, rfl, x, dx, od, t, rfl, hx, hdx, ho, hdo⟩ := one r
  obtain ⟨hh, g, d, tk, os⟩ := s
  refine call_type_obj ho rfl (h _ _ (.refl _) rfl)
theorem BFn.issub (hK : c.K = KK c.w) : BFn c (.builtin "issubclass") [.val (.ref 343), .val (.type "tuple")] (.bool true) := fun own s vs Q E T H r h => by
  obtain ⟨v, v', rfl, rfl, rfl⟩ := two r
  have X : (KK c.w).In s.heap := by have := T.kin; rw [hK] at this; exact this
  have L : Looks (model c.prog c.w) s.heap (Builtin.«issubclass.nested» ⟨[.ref 343, .type "tuple", rawInt 0], []⟩) (.done (.ret (.bool true))) := Looks.of_peek X (by kernel_rfl)
  refine wpAny_call (codeAny_call_builtin F.plain_issubclass F.entry_issubclass ?_)
  have ck : checkBuiltinCall "issubclass" ⟨[.ref 343, .type "tuple"], []⟩ = pure () := by kernel_rfl
  rw [ck]
  exact wpAny_pure (issubclass_outer (L.here (h _ _ (.refl _) rfl)))
end
end Mine

open PySem PySem.W PyProof.Rows PySem.Calls
set_option Elab.async false
set_option linter.unusedVariables false
set_option maxRecDepth 100000
namespace Mine
/-! ## the lines of the walk -/
local macro_rules | `(tactic| walk_at "m look") => `(tactic| (repeat' (first | with_reducible assumption | with_reducible exact Look.here | (with_reducible refine' Look.there ?_ ?_; kernel_rfl))))
local macro_rules | `(tactic| walk_at "m blt") => `(tactic| (refine' bltOk.mk' ?_ ?_ ?_ ?_ ?_ <;> kernel_rfl))
local macro_rules | `(tactic| walk_at "m side") => `(tactic| first | with_reducible assumption | (with_reducible exact rfl) | omega | (simp only [List.length_map, List.length_cons, List.length_nil, List.length_append]; omega) | decide)
local macro_rules | `(tactic| walk_at "m b") => `(tactic| with_reducible first
  | exact BinOK.addI | exact BinOK.subI | (refine' BinOK.modI ?_; walk_at "m side") | (refine' BinOK.divI ?_ ?_ <;> walk_at "m side"))
local macro_rules | `(tactic| walk_at "m c") => `(tactic| with_reducible first
  | exact CmpOK.eqI | exact CmpOK.neI | exact CmpOK.ltI | exact CmpOK.leI | exact CmpOK.gtI | exact CmpOK.geI | exact CmpOK.eqS | exact CmpOK.neS)
local macro_rules | `(tactic| walk_at "m e") => `(tactic| with_reducible first
  | exact SE.int | exact SE.str | exact SE.bool | exact SE.none
  | (refine' SE.name ?k1; (case k1 => walk_at "m look"))
  | (refine' SE.bin ?k1 ?k2 ?k3; (case k1 => walk_at "m e"); (case k2 => walk_at "m e"); (case k3 => walk_at "m b"))
  | (refine' SE.cmp (hm := ?k4) ?k1 ?k2 ?k3; (case k1 => walk_at "m e"); (case k2 => walk_at "m e"); (case k3 => walk_at "m c"); (case k4 => with_unfolding_all rfl))
  | (refine' SE.lenT ?k1 ?k2 ?k3 ?k4; (case k1 => walk_at "m blt"); (case k2 => with_unfolding_all (intro _; rfl)); (case k3 => walk_at "m e"); (case k4 => walk_at "m side"))
  | (refine' SE.lenL ?k1 ?k2 ?k3 ?k4; (case k1 => walk_at "m blt"); (case k2 => with_unfolding_all (intro _; rfl)); (case k3 => walk_at "m e"); (case k4 => walk_at "m side"))
  | (refine' SE.lenS ?k1 ?k2 ?k3 ?k4; (case k1 => walk_at "m blt"); (case k2 => with_unfolding_all (intro _; rfl)); (case k3 => walk_at "m e"); (case k4 => walk_at "m side"))
  | fail "m e")
local macro_rules | `(tactic| walk_at "m t") => `(tactic| with_reducible first
  | (refine' SB.cmp (hm := ?k4) ?k1 ?k2 ?k3; (case k1 => walk_at "m e"); (case k2 => walk_at "m e"); (case k3 => walk_at "m c"); (case k4 => with_unfolding_all rfl))
  | (refine' SB.not ?k1; (case k1 => walk_at "m t"))
  | fail "m t")
/-- one statement -/
local macro_rules | `(tactic| walk_at "m s") => `(tactic| with_reducible first
  | refine' SX.doc ?_
  | (refine' SX.assign (hs := ?k3) ?k1 ?k2 ?k4; (case k1 => walk_at "m e"); (case k2 => kernel_rfl); (case k3 => with_unfolding_all rfl))
  | fail "m s")

local macro_rules | `(tactic| walk_at "m room") => `(tactic| first | with_reducible assumption | exact Room.le (by assumption) (by decide))
local macro_rules | `(tactic| walk_at "m tab") => `(tactic| with_reducible first
  | (refine' SE.tGRAPHEME_CONTROL ?k0 ?k1; (case k0 => exact rfl); (case k1 => kernel_rfl))
  | (refine' SE.tGRAPHEME_EXTEND ?k0 ?k1; (case k0 => exact rfl); (case k1 => kernel_rfl))
  | (refine' SE.tGRAPHEME_REGIONAL_INDICATOR ?k0 ?k1; (case k0 => exact rfl); (case k1 => kernel_rfl))
  | (refine' SE.tGRAPHEME_PREPEND ?k0 ?k1; (case k0 => exact rfl); (case k1 => kernel_rfl))
  | (refine' SE.tGRAPHEME_SPACINGMARK ?k0 ?k1; (case k0 => exact rfl); (case k1 => kernel_rfl))
  | (refine' SE.tGRAPHEME_L ?k0 ?k1; (case k0 => exact rfl); (case k1 => kernel_rfl))
  | (refine' SE.tGRAPHEME_V ?k0 ?k1; (case k0 => exact rfl); (case k1 => kernel_rfl))
  | (refine' SE.tGRAPHEME_T ?k0 ?k1; (case k0 => exact rfl); (case k1 => kernel_rfl))
  | (refine' SE.tGRAPHEME_LV ?k0 ?k1; (case k0 => exact rfl); (case k1 => kernel_rfl))
  | (refine' SE.tGRAPHEME_LVT ?k0 ?k1; (case k0 => exact rfl); (case k1 => kernel_rfl))
  | (refine' SE.tEXTENDED_PICTOGRAPHIC ?k0 ?k1; (case k0 => exact rfl); (case k1 => kernel_rfl))
  | (refine' SE.tINCB_LINKER ?k0 ?k1; (case k0 => exact rfl); (case k1 => kernel_rfl))
  | (refine' SE.tINCB_CONSONANT ?k0 ?k1; (case k0 => exact rfl); (case k1 => kernel_rfl))
  | (refine' SE.tINCB_EXTEND ?k0 ?k1; (case k0 => exact rfl); (case k1 => kernel_rfl)))
local macro_rules | `(tactic| walk_at "m gcb") => `(tactic| with_reducible first
  | (refine' SE.gOTHER ?k0 ?k1; (case k0 => exact rfl); (case k1 => kernel_rfl))
  | (refine' SE.gCR ?k0 ?k1; (case k0 => exact rfl); (case k1 => kernel_rfl))
  | (refine' SE.gLF ?k0 ?k1; (case k0 => exact rfl); (case k1 => kernel_rfl))
  | (refine' SE.gCONTROL ?k0 ?k1; (case k0 => exact rfl); (case k1 => kernel_rfl))
  | (refine' SE.gEXTEND ?k0 ?k1; (case k0 => exact rfl); (case k1 => kernel_rfl))
  | (refine' SE.gZWJ ?k0 ?k1; (case k0 => exact rfl); (case k1 => kernel_rfl))
  | (refine' SE.gREGIONAL_INDICATOR ?k0 ?k1; (case k0 => exact rfl); (case k1 => kernel_rfl))
  | (refine' SE.gPREPEND ?k0 ?k1; (case k0 => exact rfl); (case k1 => kernel_rfl))
  | (refine' SE.gSPACING_MARK ?k0 ?k1; (case k0 => exact rfl); (case k1 => kernel_rfl))
  | (refine' SE.gL ?k0 ?k1; (case k0 => exact rfl); (case k1 => kernel_rfl))
  | (refine' SE.gV ?k0 ?k1; (case k0 => exact rfl); (case k1 => kernel_rfl))
  | (refine' SE.gT ?k0 ?k1; (case k0 => exact rfl); (case k1 => kernel_rfl))
  | (refine' SE.gLV ?k0 ?k1; (case k0 => exact rfl); (case k1 => kernel_rfl))
  | (refine' SE.gLVT ?k0 ?k1; (case k0 => exact rfl); (case k1 => kernel_rfl)))
local macro_rules | `(tactic| walk_at "m tabside") => `(tactic| with_reducible first | exact tabNe3 | exact tabLt3 | exact tabNe4 | exact tabLt4 | exact tabNe5 | exact tabLt5 | exact tabNe6 | exact tabLt6 | exact tabNe7 | exact tabLt7 | exact tabNe8 | exact tabLt8 | exact tabNe9 | exact tabLt9 | exact tabNe10 | exact tabLt10 | exact tabNe11 | exact tabLt11 | exact tabNe12 | exact tabLt12 | exact tabNe13 | exact tabLt13 | exact tabNe14 | exact tabLt14 | exact tabNe15 | exact tabLt15 | exact tabNe16 | exact tabLt16)

local macro_rules | `(tactic| walk_at "m e") => `(tactic| with_reducible first
  | walk_at "m gcb"
  | (refine' SE.bis ?k0 ?k1 ?k2 ?k3 ?k4 ?k5 ?k6 ?k7; (case k0 => exact rfl); (case k1 => walk_at "m room"); (case k2 => kernel_rfl); (case k3 => with_unfolding_all (intro _; rfl)); (case k4 => walk_at "m e"); (case k5 => walk_at "m tab"); (case k6 => walk_at "m tabside"); (case k7 => walk_at "m tabside"))
  | fail "m e f")
local macro_rules | `(tactic| walk_at "m t") => `(tactic| with_reducible first | (refine' SB.ofInt (hv := ?k2) ?k1; (case k2 => with_unfolding_all (intro _; rfl)); (case k1 => walk_at "m e")) | fail "m t i")

def nthDef : Nat → List Stmt → List Stmt
  | _, [] => []
  | 0, .FunctionDef _ _ body .. :: _ => body
  | n + 1, .FunctionDef .. :: l => nthDef n l
  | n, _ :: l => nthDef n l
def clsOf : Nat → List Stmt → List Stmt
  | _, [] => []
  | 0, s :: _ => match s with | .ClassDef _ _ _ body .. => body | _ => []
  | n + 1, _ :: l => clsOf n l
def clsBody (n i : Nat) : List Stmt := nthDef i (clsOf n PySem.Challenge.pw_gb5027_01.main.body)

theorem look205 (w : World) : (KK w).lookup 205 = some (objAt w 205) := by kernel_rfl
theorem data205 (w : World) : (objAt w 205).data = .func (fdAt w 205) := by kernel_rfl
theorem body205 (w : World) : (fdAt w 205).body = .stmts (clsBody 18 1) := by kernel_rfl
theorem code205 (w : World) : codeIn (KK w) (fdAt w 205).code (fdAt w 205).qualname = true := by kernel_rfl
theorem plain205 (w : World) (a b c : D) : plainDef (fdAt w 205) [(("self" : Str), a), (("obj" : Str), b), (("objtype" : Str), c)] = true := by kernel_rfl
theorem bind205 (w : World) (S : Setting) (a b c : Value) : peek (KK w) S (bindArgs (fdAt w 205) ⟨[a, b, c], []⟩) = some [(("self" : Str), a), (("obj" : Str), b), (("objtype" : Str), c)] := by kernel_rfl

theorem look293 (w : World) : (KK w).lookup 293 = some (objAt w 293) := by kernel_rfl
theorem data293 (w : World) : (objAt w 293).data = .func (fdAt w 293) := by kernel_rfl
theorem body293 (w : World) : (fdAt w 293).body = .stmts (clsBody 26 0) := by kernel_rfl
theorem code293 (w : World) : codeIn (KK w) (fdAt w 293).code (fdAt w 293).qualname = true := by kernel_rfl
theorem plain293 (w : World) (a b c : D) : plainDef (fdAt w 293) [(("_cls" : Str), a), (("should_break" : Str), b), (("ri_count" : Str), c)] = true := by kernel_rfl
theorem bind293 (w : World) (a b c : Value) : bindArgs (fdAt w 293) ⟨[a], [(("should_break" : Str), b), (("ri_count" : Str), c)]⟩ = pure [(("_cls" : Str), a), (("should_break" : Str), b), (("ri_count" : Str), c)] := by kernel_rfl

noncomputable def dOf (w : World) (x : Addr) : Obj := objAt w (((objAt w x).dict).getD 0)
theorem look335 (w : World) : (KK w).lookup 335 = some (objAt w 335) := by kernel_rfl
theorem look338 (w : World) : (KK w).lookup 338 = some (objAt w 338) := by kernel_rfl
theorem get335 (w : World) : findObj (KK w) 222 (some (dOf w 335)) "index" = some (.value (.int 0 (tokOf (match findObj (KK w) 222 (some (dOf w 335)) "index" with | some (.value v) => v | _ => .none)))) := by kernel_rfl
theorem get338 (w : World) : findObj (KK w) 222 (some (dOf w 338)) "index" = some (.value (.int 1 (tokOf (match findObj (KK w) 222 (some (dOf w 338)) "index" with | some (.value v) => v | _ => .none)))) := by kernel_rfl
theorem ga222 (w : World) : findIn (KK w) (.ref 222) "__getattribute__" = some (some (.builtin "object.__getattribute__")) := by kernel_rfl
theorem inst335 (w : World) (h : Heap) (X : (KK w).In h) : InstAt h 335 (objAt w 335) 222 (some (dOf w 335)) :=
  ⟨X _ _ (look335 w), by kernel_rfl, by kernel_rfl, by
    have e : (objAt w 335).dict = some (((objAt w 335).dict).getD 0) := by kernel_rfl
    rw [e]
    exact X _ _ (by kernel_rfl : (KK w).lookup (((objAt w 335).dict).getD 0) = some (dOf w 335))⟩
theorem inst338 (w : World) (h : Heap) (X : (KK w).In h) : InstAt h 338 (objAt w 338) 222 (some (dOf w 338)) :=
  ⟨X _ _ (look338 w), by kernel_rfl, by kernel_rfl, by
    have e : (objAt w 338).dict = some (((objAt w 338).dict).getD 0) := by kernel_rfl
    rw [e]
    exact X _ _ (by kernel_rfl : (KK w).lookup (((objAt w 338).dict).getD 0) = some (dOf w 338))⟩

section
variable {c : Cx} {σ : Sto}
theorem SE.selfIndex (hK : c.K = KK c.w) {p q : Pos} {x : Str} {desc : Addr} {k : Int} (h₁ : SE c σ (.Name x p) (.val (.ref desc))) (hd : (desc = 335 ∧ k = 0) ∨ (desc = 338 ∧ k = 1)) : SE c σ (.Attribute (.Name x p) "index" q) (.int k) := fun own s Q E G h => by
  refine Attribute_name (h₁ own s _ _ G fun v s₁ x₁ r₁ => ?_)
  obtain rfl := r₁
  have X : (KK c.w).In s₁.heap := by have := (G.ext x₁).stat'.kin; rw [hK] at this; exact this
  rcases hd with ⟨rfl, rfl⟩ | ⟨rfl, rfl⟩
  · exact get_value X (inst335 c.w _ X) (ga222 _) (get335 _) rfl (h _ _ (x₁.trans (.toks _)) ⟨_, rfl⟩)
  · exact get_value X (inst338 c.w _ X) (ga222 _) (get338 _) rfl (h _ _ (x₁.trans (.toks _)) ⟨_, rfl⟩)

theorem br_item {prog : Program} {w : World} {A : Around} {E : Value → Shared → Prop} {s : Shared} {mg mb : Str → Option Value} {own : List Addr} {b : Bool} {n : Int} {v : Value} {k : Int} {u : Tok} {d : D} {Q : Value → Shared → Prop} (T : Stat (KK w) mg mb s.heap)
    (hr : Rep s.heap own (.br b n) v) (hd : (k = 0 ∧ d = .bool b) ∨ (k = 1 ∧ d = .int n)) (h : ∀ r, Rep s.heap own d r → Q r s) : wpAny (model prog w) A (PySem.call (.builtin "tuple.__getitem__") [v, .int k u]) Q E s := by
  obtain ⟨x, dx, od, t, rfl, hx, hdx, ho, hdo⟩ := hr
  have I : InstAt s.heap x _ 343 (some od) := ⟨ho, rfl, rfl, hdo⟩
  have L0 := I.type (M := model prog w)
  have L4 : Looks (model prog w) s.heap (isInstance (.ref x) (.type "tuple")) true := L0.andThen (looks_mroIn T.kin (br_sub w))
  have a1 : plainId "tuple.__getitem__" = true := PySem.F.slot_tuple_getitem.plain
  have a3 : argsOk "tuple.__getitem__" ⟨[.ref x, .int k u], []⟩ := by unfold argsOk; kernel_rfl
  have a4 : builtinKind "tuple.__getitem__" = some .slot := by decide +kernel
  have a5 : splitId "tuple.__getitem__" = some ("tuple", "__getitem__") := by decide +kernel
  refine wpAny_call (codeAny_call_builtin a1 PySem.F.entry_tuple_getitem ?_)
  refine wpAny_mono (check_slot (i := "tuple.__getitem__") (owner := "tuple") (n := "__getitem__") (self := .ref x) (rest := [.int k u]) (kw := []) (Q := fun _ s' => s' = s) (E := fun _ _ => False) a4 a5 L4 a3 rfl) (fun _ s₁ e => ?_) (fun _ _ e => e.elim)
  subst e
  show wpAny _ _ (Builtin.Tuple.tupleItemsOf (.ref x) >>= _) _ _ _
  unfold Builtin.Tuple.tupleItemsOf
  refine wpAny_bind (wpAny_bind (wpAny_seqItems ho rfl (wpAny_pure ?_)))
  refine wpAny_bind (wpAny_typeOf (typeIs_int _ k u) ?_)
  rw [if_neg (by decide)]
  refine wpAny_bind (wpAny_specialOf (T := "int") (typeIs_int _ k u) int_index ?_)
  rw [if_neg (by simp)]
  refine wpAny_bind (wpAny_of_eq (a := k) rfl ?_)
  rcases hd with ⟨rfl, rfl⟩ | ⟨rfl, rfl⟩
  · rw [if_neg (by decide)]
    exact wpAny_pure (h _ rfl)
  · rw [if_neg (by decide)]
    exact wpAny_pure (h _ ⟨_, rfl⟩)
theorem BFn.brItem (hK : c.K = KK c.w) {b : Bool} {n : Int} {k : Int} {d : D} (hd : (k = 0 ∧ d = .bool b) ∨ (k = 1 ∧ d = .int n)) : BFn c (.builtin "tuple.__getitem__") [.br b n, .int k] d := fun own s vs Q E T H r h => by
  obtain ⟨v, v', rfl, r1, t, rfl⟩ := two r
  rw [hK] at T
  exact br_item T r1 hd fun r hr => h _ _ (.refl _) hr
theorem CmpOK.isNoneBr {b : Bool} {n : Int} : CmpOK c .Is (.br b n) .none false := by
  rintro own s v u Q E T H ⟨x, dx, od, t, rfl, hx, hdx, ho, hdo⟩ rfl h
  exact is_none (h s (.refl s))
theorem CmpOK.isNotNoneBr {b : Bool} {n : Int} : CmpOK c .IsNot (.br b n) .none true := by
  rintro own s v u Q E T H ⟨x, dx, od, t, rfl, hx, hdx, ho, hdo⟩ rfl h
  exact isNot_none (h s (.refl s))
theorem CmpOK.isNotNone : CmpOK c .IsNot .none .none false := by
  rintro own s v u Q E T H rfl rfl h
  exact isNot_none (h s (.refl s))
theorem CmpOK.isNone : CmpOK c .Is .none .none true := by
  rintro own s v u Q E T H rfl rfl h
  exact is_none (h s (.refl s))
theorem CmpOK.isNoneI {i : Int} : CmpOK c .Is (.int i) .none false := by
  rintro own s v u Q E T H ⟨t, rfl⟩ rfl h
  exact is_none (h s (.refl s))
end

section
variable {prog : Program} {w : World} {mg mb : Str → Option Value}
theorem tg_fn (b : Bool) (n : Int) (desc : Addr) (k : Int) (d : D) (hdesc : (desc = 335 ∧ k = 0) ∨ (desc = 338 ∧ k = 1)) (hd : (k = 0 ∧ d = .bool b) ∨ (k = 1 ∧ d = .int n)) :
    Fn prog w (KK w) mg mb 205 1 [.val (.ref desc), .br b n, .val (.ref 343)] [] d := by
  refine Fn.of_body (n := 0) (look205 w) (data205 w) (body205 w) (plain205 w (.val (.ref desc)) (.br b n) (.val (.ref 343))) (code205 w) ?_ ?_
  · intro s av vs kvs T H r k'
    obtain ⟨v, v', v'', rfl, h1, h2, h3⟩ := three r
    obtain rfl := k'
    exact ⟨_, kp_binds T.kin (fun S => bind205 w S v v' v''), v, _, rfl, h1, v', _, rfl, h2, v'', _, rfl, h3, rfl⟩
  · intro S₀ av A L R
    show SX _ (upd (upd (upd empty "self" _) "obj" _) "objtype" _) (Stmt.If _ _ _ _ :: _) _
    dsimp only
    refine' SX.if1 (SB.cmp (hm := ?m1) ?a1 ?a2 CmpOK.isNoneBr) (fun h => ?h1) (fun h => ?h2)
    case m1 => with_unfolding_all rfl
    case a1 => walk_at "m e"
    case a2 => walk_at "m e"
    case h1 => cases h
    refine' SX.if1 (SB.not (SB.ofBool (hv := ?m2) (SE.callB (SE.bltName ?b1) (.cons (SE.callB (SE.bltName ?b2) (.cons ?b3 .nil) BFn.typeBr ?b4 ?b5) (.cons (SE.bltName ?b6) .nil)) (BFn.issub rfl) ?b7 ?b8))) (fun h => ?h3) (fun h => ?h4)
    case m2 => with_unfolding_all (intro _; rfl)
    case b1 => walk_at "m blt"
    case b2 => walk_at "m blt"
    case b3 => walk_at "m e"
    case b4 => intro a; simp
    case b5 => with_unfolding_all rfl
    case b6 => walk_at "m blt"
    case b7 => intro a; simp
    case b8 => with_unfolding_all rfl
    case h3 => cases h
    refine' SX.ret (SE.typeMethod (T := "tuple") (bid := "tuple.__getitem__") (he := ?c1) (hst := ?c2) ?c3 (.cons ?c4 (.cons (SE.selfIndex rfl (k := k) (desc := desc) ?c5 hdesc) .nil)) ?c6 ?c7 ?c8 ?c9 (BFn.brItem rfl (b := b) (n := n) hd)) (.inl rfl)
    case c1 => with_unfolding_all rfl
    case c2 => with_unfolding_all rfl
    case c3 => walk_at "m blt"
    case c4 => walk_at "m e"
    case c5 => walk_at "m e"
    case c6 => kernel_rfl
    case c7 => kernel_rfl
    case c8 => intro K; kernel_rfl
    case c9 => kernel_rfl

theorem SE.brBreak {c : Cx} {σ : Sto} (hK : c.K = KK c.w) (R : Room c.A 2) {p q : Pos} {x : Str} {b : Bool} {n : Int} (h₁ : SE c σ (.Name x p) (.br b n)) : SE c σ (.Attribute (.Name x p) "should_break" q) (.bool b) := fun own s Q E G h => by
  refine Attribute_name (h₁ own s _ _ G fun v s₁ x₁ r₁ => ?_)
  have T := (G.ext x₁).stat'
  have H := (G.ext x₁).hid
  rw [hK] at T H
  exact br_get T H R r₁ (br_find0 c.w) (tg_fn b n 335 0 (.bool b) (.inl ⟨rfl, rfl⟩) (.inl ⟨rfl, rfl⟩)) (fun _ _ v r => by cases r; rfl) fun u s' x' r' => h u s' (x₁.trans x') r'
theorem SE.brCount {c : Cx} {σ : Sto} (hK : c.K = KK c.w) (R : Room c.A 2) {p q : Pos} {x : Str} {b : Bool} {n : Int} (h₁ : SE c σ (.Name x p) (.br b n)) : SE c σ (.Attribute (.Name x p) "ri_count" q) (.int n) := fun own s Q E G h => by
  refine Attribute_name (h₁ own s _ _ G fun v s₁ x₁ r₁ => ?_)
  have T := (G.ext x₁).stat'
  have H := (G.ext x₁).hid
  rw [hK] at T H
  exact br_get T H R r₁ (br_find1 c.w) (tg_fn b n 338 1 (.int n) (.inr ⟨rfl, rfl⟩) (.inr ⟨rfl, rfl⟩)) (fun _ _ v r => by obtain ⟨t, rfl⟩ := r; rfl) fun u s' x' r' => h u s' (x₁.trans x') r'

/-! the class's own making -/
theorem BFn.tupleNew {c : Cx} (hK : c.K = KK c.w) {b : Bool} {n : Int} : BFn c (.builtin "tuple.__new__") [.val (.ref 343), .tup [.bool b, .int n]] (.br b n) := fun own s vs Q E T H r h => by
  obtain ⟨v, v', rfl, rfl, a, ws, rfl, ha, ht, hs⟩ := two r
  rw [hK] at T H
  obtain ⟨x1, x2, e2, r1, r2⟩ := two hs
  obtain rfl := r1
  obtain ⟨t, rfl⟩ := r2
  obtain ⟨o, ho, hc, k, hd⟩ := ht
  have hsz : ws = #[.bool b, .int n t] := by cases ws; simp only at e2; rw [e2]
  subst hsz
  have X := T.kin
  have L0 : Looks (model c.prog c.w) s.heap (checkBuiltinCall "tuple.__new__" ⟨[.ref 343, .ref a], []⟩) () := Looks.of_peek X (by kernel_rfl)
  have L1 : Looks (model c.prog c.w) s.heap (isType (.ref 343)) true := Looks.of_peek X (by kernel_rfl)
  have L2 : Looks (model c.prog c.w) s.heap (isSubtype (.ref 343) (.type "tuple")) true := looks_mroIn X (br_sub c.w)
  have L3 : Looks (model c.prog c.w) s.heap (Bind.madeHere "tuple.__new__" (.ref 343)) () := Looks.of_peek X (by kernel_rfl)
  have L4 : Looks (model c.prog c.w) s.heap (typeLookup (.ref 343) "__init__") (some (.builtin "object.__init__")) := looks_findIn X (by kernel_rfl)
  have L5 : Looks (model c.prog c.w) s.heap (classHasDel 343) false := Looks.of_peek X (by kernel_rfl)
  obtain ⟨hh, g, dr, tk, os⟩ := s
  refine wpAny_call (codeAny_call_builtin (by decide +kernel) PySem.F.entry_tuple_new (L0.here ?_))
  unfold Builtin.«tuple.__new__»
  repeat (first | with_reducible refine wpAny_collect_seq (hsz := ?hsz) a (.inr rfl) ho hc hd ?_ | lk)
  case hsz => show 2 ≤ _; decide
  intro h' hk
  refine wpAny_bind (wpAny_pure (wpAny_bind (wpAny_alloc ?_)))
  have k2 : Kp hh (h'.push { cls := .type "dict", data := .dict #[] }) := fun b o e => Heap.get?_push_of_some _ (hk b o e)
  have k3 : Kp hh ((h'.push { cls := .type "dict", data := .dict #[] }).push { cls := .ref 343, dict := some h'.objs.size, data := .seq #[.bool b, .int n t] }) := fun b o e => Heap.get?_push_of_some _ (k2 b o e)
  have L5' := L5.keeps k3
  have H1 : Hid (KK c.w) h' own := Hid.keeps (h := hh) H hk
  have H2 : Hid (KK c.w) (h'.push { cls := .type "dict", data := .dict #[] }) own := Hid.keeps (h := hh) H k2
  unfold newObj newObjAsIs
  refine wpAny_bind ?_
  show wpAny _ _ (if (#[Value.bool b, Value.int n t] : Array Value).size > sizeLine then _ else _) _ _ _
  rw [if_neg (by show ¬ 2 > sizeLine; decide)]
  refine wpAny_bind (wpAny_alloc (wpAny_bind ?_))
  refine L5'.here ?_
  refine wpAny_pure (wpAny_pure (h _ _ (Ext.heap (s := ⟨hh, g, dr, tk, os⟩) k3 tk) ?_))
  refine ⟨_, h'.objs.size, { cls := .type "dict", data := .dict #[] }, t, rfl, H2.new, H1.new, Heap.get?_push_size _ rfl, ?_⟩
  exact Heap.get?_push_of_some _ (Heap.get?_push_size _ rfl)
end
end Mine

open PySem PySem.W PyProof.Rows PySem.Calls
set_option Elab.async false
set_option linter.unusedVariables false
set_option maxRecDepth 100000
namespace Mine
/-! ## the lines of the walk -/
local macro_rules | `(tactic| walk_at "m look") => `(tactic| (repeat' (first | with_reducible assumption | with_reducible exact Look.here | (with_reducible refine' Look.there ?_ ?_; kernel_rfl))))
local macro_rules | `(tactic| walk_at "m blt") => `(tactic| (refine' bltOk.mk' ?_ ?_ ?_ ?_ ?_ <;> kernel_rfl))
local macro_rules | `(tactic| walk_at "m side") => `(tactic| first | with_reducible assumption | (with_reducible exact rfl) | omega | (simp only [List.length_map, List.length_cons, List.length_nil, List.length_append]; omega) | decide)
local macro_rules | `(tactic| walk_at "m b") => `(tactic| with_reducible first
  | exact BinOK.addI | exact BinOK.subI | (refine' BinOK.modI ?_; walk_at "m side") | (refine' BinOK.divI ?_ ?_ <;> walk_at "m side"))
local macro_rules | `(tactic| walk_at "m c") => `(tactic| with_reducible first
  | exact CmpOK.eqI | exact CmpOK.neI | exact CmpOK.ltI | exact CmpOK.leI | exact CmpOK.gtI | exact CmpOK.geI | exact CmpOK.eqS | exact CmpOK.neS)
local macro_rules | `(tactic| walk_at "m e") => `(tactic| with_reducible first
  | exact SE.int | exact SE.str | exact SE.bool | exact SE.none
  | (refine' SE.name ?k1; (case k1 => walk_at "m look"))
  | (refine' SE.bin ?k1 ?k2 ?k3; (case k1 => walk_at "m e"); (case k2 => walk_at "m e"); (case k3 => walk_at "m b"))
  | (refine' SE.cmp (hm := ?k4) ?k1 ?k2 ?k3; (case k1 => walk_at "m e"); (case k2 => walk_at "m e"); (case k3 => walk_at "m c"); (case k4 => with_unfolding_all rfl))
  | (refine' SE.lenT ?k1 ?k2 ?k3 ?k4; (case k1 => walk_at "m blt"); (case k2 => with_unfolding_all (intro _; rfl)); (case k3 => walk_at "m e"); (case k4 => walk_at "m side"))
  | (refine' SE.lenL ?k1 ?k2 ?k3 ?k4; (case k1 => walk_at "m blt"); (case k2 => with_unfolding_all (intro _; rfl)); (case k3 => walk_at "m e"); (case k4 => walk_at "m side"))
  | (refine' SE.lenS ?k1 ?k2 ?k3 ?k4; (case k1 => walk_at "m blt"); (case k2 => with_unfolding_all (intro _; rfl)); (case k3 => walk_at "m e"); (case k4 => walk_at "m side"))
  | fail "m e")
local macro_rules | `(tactic| walk_at "m t") => `(tactic| with_reducible first
  | (refine' SB.cmp (hm := ?k4) ?k1 ?k2 ?k3; (case k1 => walk_at "m e"); (case k2 => walk_at "m e"); (case k3 => walk_at "m c"); (case k4 => with_unfolding_all rfl))
  | (refine' SB.not ?k1; (case k1 => walk_at "m t"))
  | fail "m t")
/-- one statement -/
local macro_rules | `(tactic| walk_at "m s") => `(tactic| with_reducible first
  | refine' SX.doc ?_
  | (refine' SX.assign (hs := ?k3) ?k1 ?k2 ?k4; (case k1 => walk_at "m e"); (case k2 => kernel_rfl); (case k3 => with_unfolding_all rfl))
  | fail "m s")

local macro_rules | `(tactic| walk_at "m room") => `(tactic| first | with_reducible assumption | exact Room.le (by assumption) (by decide))
local macro_rules | `(tactic| walk_at "m tab") => `(tactic| with_reducible first
  | (refine' SE.tGRAPHEME_CONTROL ?k0 ?k1; (case k0 => exact rfl); (case k1 => kernel_rfl))
  | (refine' SE.tGRAPHEME_EXTEND ?k0 ?k1; (case k0 => exact rfl); (case k1 => kernel_rfl))
  | (refine' SE.tGRAPHEME_REGIONAL_INDICATOR ?k0 ?k1; (case k0 => exact rfl); (case k1 => kernel_rfl))
  | (refine' SE.tGRAPHEME_PREPEND ?k0 ?k1; (case k0 => exact rfl); (case k1 => kernel_rfl))
  | (refine' SE.tGRAPHEME_SPACINGMARK ?k0 ?k1; (case k0 => exact rfl); (case k1 => kernel_rfl))
  | (refine' SE.tGRAPHEME_L ?k0 ?k1; (case k0 => exact rfl); (case k1 => kernel_rfl))
  | (refine' SE.tGRAPHEME_V ?k0 ?k1; (case k0 => exact rfl); (case k1 => kernel_rfl))
  | (refine' SE.tGRAPHEME_T ?k0 ?k1; (case k0 => exact rfl); (case k1 => kernel_rfl))
  | (refine' SE.tGRAPHEME_LV ?k0 ?k1; (case k0 => exact rfl); (case k1 => kernel_rfl))
  | (refine' SE.tGRAPHEME_LVT ?k0 ?k1; (case k0 => exact rfl); (case k1 => kernel_rfl))
  | (refine' SE.tEXTENDED_PICTOGRAPHIC ?k0 ?k1; (case k0 => exact rfl); (case k1 => kernel_rfl))
  | (refine' SE.tINCB_LINKER ?k0 ?k1; (case k0 => exact rfl); (case k1 => kernel_rfl))
  | (refine' SE.tINCB_CONSONANT ?k0 ?k1; (case k0 => exact rfl); (case k1 => kernel_rfl))
  | (refine' SE.tINCB_EXTEND ?k0 ?k1; (case k0 => exact rfl); (case k1 => kernel_rfl)))
local macro_rules | `(tactic| walk_at "m gcb") => `(tactic| with_reducible first
  | (refine' SE.gOTHER ?k0 ?k1; (case k0 => exact rfl); (case k1 => kernel_rfl))
  | (refine' SE.gCR ?k0 ?k1; (case k0 => exact rfl); (case k1 => kernel_rfl))
  | (refine' SE.gLF ?k0 ?k1; (case k0 => exact rfl); (case k1 => kernel_rfl))
  | (refine' SE.gCONTROL ?k0 ?k1; (case k0 => exact rfl); (case k1 => kernel_rfl))
  | (refine' SE.gEXTEND ?k0 ?k1; (case k0 => exact rfl); (case k1 => kernel_rfl))
  | (refine' SE.gZWJ ?k0 ?k1; (case k0 => exact rfl); (case k1 => kernel_rfl))
  | (refine' SE.gREGIONAL_INDICATOR ?k0 ?k1; (case k0 => exact rfl); (case k1 => kernel_rfl))
  | (refine' SE.gPREPEND ?k0 ?k1; (case k0 => exact rfl); (case k1 => kernel_rfl))
  | (refine' SE.gSPACING_MARK ?k0 ?k1; (case k0 => exact rfl); (case k1 => kernel_rfl))
  | (refine' SE.gL ?k0 ?k1; (case k0 => exact rfl); (case k1 => kernel_rfl))
  | (refine' SE.gV ?k0 ?k1; (case k0 => exact rfl); (case k1 => kernel_rfl))
  | (refine' SE.gT ?k0 ?k1; (case k0 => exact rfl); (case k1 => kernel_rfl))
  | (refine' SE.gLV ?k0 ?k1; (case k0 => exact rfl); (case k1 => kernel_rfl))
  | (refine' SE.gLVT ?k0 ?k1; (case k0 => exact rfl); (case k1 => kernel_rfl)))
local macro_rules | `(tactic| walk_at "m tabside") => `(tactic| with_reducible first | exact tabNe3 | exact tabLt3 | exact tabNe4 | exact tabLt4 | exact tabNe5 | exact tabLt5 | exact tabNe6 | exact tabLt6 | exact tabNe7 | exact tabLt7 | exact tabNe8 | exact tabLt8 | exact tabNe9 | exact tabLt9 | exact tabNe10 | exact tabLt10 | exact tabNe11 | exact tabLt11 | exact tabNe12 | exact tabLt12 | exact tabNe13 | exact tabLt13 | exact tabNe14 | exact tabLt14 | exact tabNe15 | exact tabLt15 | exact tabNe16 | exact tabLt16)

local macro_rules | `(tactic| walk_at "m e") => `(tactic| with_reducible first
  | walk_at "m gcb"
  | (refine' SE.bis ?k0 ?k1 ?k2 ?k3 ?k4 ?k5 ?k6 ?k7; (case k0 => exact rfl); (case k1 => walk_at "m room"); (case k2 => kernel_rfl); (case k3 => with_unfolding_all (intro _; rfl)); (case k4 => walk_at "m e"); (case k5 => walk_at "m tab"); (case k6 => walk_at "m tabside"); (case k7 => walk_at "m tabside"))
  | fail "m e f")
local macro_rules | `(tactic| walk_at "m t") => `(tactic| with_reducible first | (refine' SB.ofInt (hv := ?k2) ?k1; (case k2 => with_unfolding_all (intro _; rfl)); (case k1 => walk_at "m e")) | fail "m t i")

section
variable {c : Cx} {σ : Sto}
theorem reps_len {h : Heap} {own : List Addr} {l : List D} {vs : List Value} (r : Reps h own l vs) : vs.length = l.length := r.length
theorem SE.tuple {es : List Expr} {ds : List D} {k : Nat} {pos : Pos} (ha : SEs c σ es ds) (hsz : ds.length ≤ sizeLine) (hst : backTo pos (starEach es c.env) = es.map (fun e => (false, eval e c.env)) := by rfl) : SE c σ (.Tuple es k pos) (.tup ds) := fun own s Q E G h => by
  refine Tuple_ ?_
  rw [hst]
  refine ha own s _ _ G fun vs s₁ x₁ r₁ => ?_
  have H := (G.ext x₁).hid
  refine wpAny_newTuple (h _ _ (x₁.trans (.heap (kp_push _ _) _)) ⟨s₁.heap.objs.size, vs.toArray, rfl, H.new, ⟨_, Heap.get?_push_size _ rfl, rfl, 0, rfl⟩, ?_⟩) (by rw [r₁.length]; exact hsz)
  exact Reps.grow (by simpa using r₁) (kp_push _ _)
theorem SE.list {es : List Expr} {ds : List D} {pos : Pos} (ha : SEs c σ es ds) (hsz : ds.length ≤ sizeLine) (hst : backTo pos (starEach es c.env) = es.map (fun e => (false, eval e c.env)) := by rfl) : SE c σ (.List es pos) (.list ds) := fun own s Q E G h => by
  refine List_ ?_
  rw [hst]
  refine ha own s _ _ G fun vs s₁ x₁ r₁ => ?_
  have H := (G.ext x₁).hid
  refine wpAny_newList (h _ _ (x₁.trans (.heap (kp_push _ _) _)) ⟨s₁.heap.objs.size, vs.toArray, rfl, H.new, ⟨_, Heap.get?_push_size _ rfl, rfl, 0, rfl⟩, ?_⟩) (by rw [r₁.length]; exact hsz)
  exact Reps.grow (by simpa using r₁) (kp_push _ _)
theorem ints_of {h : Heap} {own : List Addr} : ∀ {ns : List Int} {vs : List Value}, Reps h own (ns.map D.int) vs → IntsAre vs ns
  | [], _, r => by cases r; exact .nil
  | n :: ns, _, ⟨v, r', e, ⟨t, e'⟩, h2⟩ => by subst e; subst e'; exact .cons n t (ints_of h2)
theorem strs_of {h : Heap} {own : List Addr} : ∀ {ns : List Str} {vs : List Value}, Reps h own (ns.map D.str) vs → StrsAre vs ns
  | [], _, r => by cases r; exact .nil
  | n :: ns, _, ⟨v, r', e, ⟨t, e'⟩, h2⟩ => by subst e; subst e'; exact .cons n t (strs_of h2)
theorem CmpOK.inI {x : Int} {ns : List Int} {ds : List D} (e : ds = ns.map D.int) : CmpOK c .In (.int x) (.tup ds) (ns.any (· == x)) := by
  subst e
  rintro own s v u Q E T H ⟨t, rfl⟩ ⟨a, vs, rfl, hn, ht, hr⟩ h
  exact in_tuple_ints ht (ints_of hr) (h s (.refl s))
theorem CmpOK.inS {x : Str} {ns : List Str} {ds : List D} (e : ds = ns.map D.str) : CmpOK c .In (.str x) (.tup ds) (ns.any (· == x)) := by
  subst e
  rintro own s v u Q E T H ⟨t, rfl⟩ ⟨a, vs, rfl, hn, ht, hr⟩ h
  exact in_tuple_strs ht (strs_of hr) (h s (.refl s))
theorem CmpOK.notInS {x : Str} {ns : List Str} {ds : List D} (e : ds = ns.map D.str) : CmpOK c .NotIn (.str x) (.tup ds) (!(ns.any (· == x))) := by
  subst e
  rintro own s v u Q E T H ⟨t, rfl⟩ ⟨a, vs, rfl, hn, ht, hr⟩ h
  exact notin_tuple_strs ht (strs_of hr) (h s (.refl s))
end

section
variable {prog : Program} {w : World} {mg mb : Str → Option Value}
theorem brNew_fn (b : Bool) (n : Int) : Fn prog w (KK w) mg mb 293 1 [.val (.ref 343)] [("should_break", .bool b), ("ri_count", .int n)] (.br b n) := by
  refine Fn.of_body (n := 0) (look293 w) (data293 w) (body293 w) (plain293 w (.val (.ref 343)) (.bool b) (.int n)) (code293 w) ?_ ?_
  · intro s av vs kvs T H r k'
    obtain ⟨v, rfl, h1⟩ := one r
    obtain ⟨v', v'', rfl, h2, h3⟩ := two k'
    exact ⟨_, .of_eq (bind293 w v v' v''), v, _, rfl, h1, v', _, rfl, h2, v'', _, rfl, h3, rfl⟩
  · intro S₀ av A L R
    show SX _ (upd (upd (upd empty "_cls" _) "should_break" _) "ri_count" _) (Stmt.Expr _ _ :: _) _
    dsimp only
    walk_at "m s"
    refine' SX.ret (SE.typeMethod (T := "tuple") (bid := "tuple.__new__") (he := ?c1) (hst := ?c2) ?c3 (.cons ?c4 (.cons (SE.tuple (hst := ?c10) (.cons ?c5 (.cons ?c11 .nil)) ?c12) .nil)) ?c6 ?c7 ?c8 ?c9 (BFn.tupleNew rfl (b := b) (n := n))) (.inl rfl)
    case c1 => with_unfolding_all rfl
    case c2 => with_unfolding_all rfl
    case c3 => walk_at "m blt"
    case c4 => walk_at "m e"
    case c10 => with_unfolding_all rfl
    case c5 => walk_at "m e"
    case c11 => walk_at "m e"
    case c12 => show 2 ≤ _; decide
    case c6 => kernel_rfl
    case c7 => kernel_rfl
    case c8 => intro K; kernel_rfl
    case c9 => kernel_rfl

theorem br_specialCall (w : World) : specialIn (KK w) (.ref 343) "__call__" = some (some (.builtin "type.__call__")) := by kernel_rfl
theorem br_new (w : World) : findCls (KK w) (.ref 343) (.type "type") "__new__" = some (.get (.builtin "staticmethod.__get__") (.ref 344) .none (.ref 343)) := by kernel_rfl
theorem br_reads (w : World) : readsIn (KK w) 343 (.type "type") = true := by kernel_rfl
theorem br_sm (w : World) : recIn (KK w) 344 "staticmethod" = some [.ref 293] := by kernel_rfl
theorem look343 (w : World) : (KK w).lookup 343 = some (objAt w 343) := by kernel_rfl
theorem br_obj (w : World) : objAt w 343 = ⟨(objAt w 343).cls, (objAt w 343).dict, .cls (match (objAt w 343).data with | .cls c => c | _ => default), (objAt w 343).slots⟩ := by kernel_rfl
theorem br_init (w : World) : findIn (KK w) (.ref 343) "__init__" = some (some (.builtin "object.__init__")) := by kernel_rfl

theorem br_call {A : Around} {av : List Addr} {s : Shared} {b : Bool} {n : Int} {v v' : Value} {R : Result → Shared → Prop} (T : Stat (KK w) mg mb s.heap) (Rm : Room A 2) (H : Hid (KK w) s.heap av) (h1 : Rep s.heap av (.bool b) v) (h2 : Rep s.heap av (.int n) v')
    (h : ∀ u s', Ext s s' → Rep s'.heap av (.br b n) u → R (.ok (.ret u)) s') : codeAny (model prog w) A (.call (.ref 343) ⟨[], [(("should_break" : Str), v), (("ri_count" : Str), v')]⟩) R s := by
  have X := T.kin
  have Lc := looks_specialIn (M := model prog w) X (br_specialCall w)
  have Lt : Looks (model prog w) s.heap (isInstance (.ref 343) (.type "type")) true := looks_instIn X (by kernel_rfl)
  have Lm : Looks (model prog w) s.heap (mroOf (.ref 343)) [.ref 343, .type "tuple", .type "object"] := Looks.of_peek X (by kernel_rfl)
  have Lb : Looks (model prog w) s.heap (Bind.madeBy (.ref 343)) none := Looks.of_peek X (by kernel_rfl)
  obtain ⟨hh, g, dr, tk, os⟩ := s
  refine codeAny_of_tree ?_
  show wpAny _ _ (callAny (.ref 343) _) _ _ _
  unfold callAny
  have ho := X _ _ (look343 w)
  rw [br_obj w] at ho
  refine wpAny_bind (wpAny_load ho ?_)
  show wpAny _ _ (callAny.viaDunder (.ref 343) _) _ _ _
  unfold callAny.viaDunder
  refine wpAny_bind (Lc.at ?_)
  dsimp only
  rw [tc_bind]
  refine wpAny_bind (wpAny_pure (wpAny_bind (wpAny_pure ?_)))
  refine wpAny_pure (a := Fin.again (.call (.builtin "type.__call__") ⟨.ref 343 :: [], [(("should_break" : Str), v), (("ri_count" : Str), v')]⟩)) (And.intro rfl ?_)
  refine codeAny_call_builtin_at (Code.quiet_builtin _ (by decide +kernel)) entry_typeCall ?_
  refine wpAny_mono (check_slot (Q := fun _ s' => s' = ⟨hh, g, dr, tk, os⟩) (E := fun _ _ => False) tc_kind tc_split Lt (tc_args _ _ _) rfl) (fun _ s₁ e => ?_) (fun _ _ e => e.elim)
  subst e
  unfold Builtin.«type.__call__»
  have key : ∀ {Q : Value → Shared → Prop} {E : Value → Shared → Prop} {A : Around} {s : Shared}, (KK w).In s.heap → Q (.ref 293) { s with toks := s.toks + 1 } → wpAny (model prog w) A (getAttr (.ref 343) "__new__") Q E s := by
    intro Q E A s X h
    exact cls_bind X (br_reads w) (br_new w) (wpAny_call (sm_get (s := { s with toks := s.toks + 1 }) X (br_sm w) (handed_on rfl h)))
  repeat (first | with_reducible refine key ?X1 ?_ | with_reducible refine wpAny_call ?_ | lk)
  case X1 => exact X
  have hw : (Code.builtin "type.__call__" ⟨[.ref 343], [(("should_break" : Str), v), (("ri_count" : Str), v')]⟩).weight = 1 := rfl
  have hu : (Code.builtin "type.__call__" ⟨[.ref 343], [(("should_break" : Str), v), (("ri_count" : Str), v')]⟩).cUnits = 1 := rfl
  have R1 : Room (A.under (Code.builtin "type.__call__" ⟨[.ref 343], [(("should_break" : Str), v), (("ri_count" : Str), v')]⟩)) 1 := by
    refine ⟨Rm.handled, ?_, ?_⟩
    · show A.depth + (Code.weight _) + 1 < _
      rw [hw]; have := Rm.depth; omega
    · show A.units + (Code.cUnits _) + 8 * 1 < _
      rw [hu]; have := Rm.units; omega
  refine wpAny_bind (wpAny_holding (wpAny_call ?_))
  refine brNew_fn (prog := prog) (w := w) b n _ av ⟨hh, g, dr, tk + 1, os⟩ [.ref 343] [v, v'] _ T R1 H ⟨_, _, rfl, rfl, rfl⟩ ⟨_, _, rfl, h1, _, _, rfl, h2, rfl⟩ fun u s' x' r' => ?_
  have X' := (Stat.keeps T x'.keep).kin
  have r'' := r'
  obtain ⟨x, dx, od, t, rfl, hx, hdx, hox, hdo⟩ := r'
  have I : InstAt s'.heap x _ 343 (some od) := ⟨hox, rfl, rfl, hdo⟩
  have L0 := I.type (M := model prog w)
  have L1 : Looks (model prog w) s'.heap (isInstance (.ref x) (.ref 343)) true := L0.andThen (looks_mroIn X' (by kernel_rfl))
  have L2 := looks_findIn (M := model prog w) X' (br_init w)
  have L3 : Looks (model prog w) s'.heap (isInstance (.ref x) (.type "object")) true := L0.andThen (looks_mroIn X' (by kernel_rfl))
  have L4 : Looks (model prog w) s'.heap (Bind.madeBy (.ref 343)) none := Lb.keeps x'.keep
  have x2 := (Ext.toks (tk + 1) : Ext ⟨hh, g, dr, tk, os⟩ _).trans x'
  obtain ⟨hh', g', dr', tk', os'⟩ := s'
  have oib := oi_bind (.ref x)
  repeat (first | rw [oib] | with_reducible refine wpAny_call ?_ | lk)
  show codeAny _ _ (.call (.builtin "object.__init__") ⟨[.ref x], [(("should_break" : Str), v), (("ri_count" : Str), v')]⟩) _ _
  refine codeAny_call_builtin oi_plain entry_oi ?_
  simp only [checkBuiltinCall, oi_kind, oi_split]
  repeat lk
  exact h _ _ x2 r''

/-- BreakResult(should_break=.., ri_count=..) -/
theorem SE.brMake {c : Cx} {σ : Sto} (hK : c.K = KK c.w) (R : Room c.A 2) {p pos p1 p2 : Pos} {e1 e2 : Expr} {b : Bool} {n : Int} (hk : c.env.kindOf "BreakResult" = some .globalImplicit) (h1 : SE c σ e1 (.bool b)) (h2 : SE c σ e2 (.int n)) :
    SE c σ (.Call (.Name "BreakResult" p) [] [⟨some "should_break", e1, p1⟩, ⟨some "ri_count", e2, p2⟩] pos) (.br b n) := fun own s Q E G h => by
  have hf : SE c σ (.Name "BreakResult" p) (.val (.ref 343)) := SE.glob hk (by rw [hK]; kernel_rfl) (by kernel_rfl)
  show c.wp (do callWith pos (← eval (.Name "BreakResult" p) c.env) [] (backTo pos (starEach [] c.env)) (backToKw pos (keywordEach [⟨some "should_break", e1, p1⟩, ⟨some "ri_count", e2, p2⟩] c.env))) Q E s
  refine wpAny_bind (hf own s _ _ G fun v s₁ x₁ r₁ => ?_)
  obtain rfl := r₁
  have G₁ := G.ext x₁
  refine callWith_of (P := fun h => (KK c.w).In h) rfl (fun h X => keeps_K (K := KK c.w) (by kernel_rfl) h X) (evalArgs_gen SEs.nil (.cons h1 (.cons h2 .nil)) rfl rfl rfl G₁ fun vs kvs s₂ x₂ r₂ r₃ => ?_)
  have T := (G₁.ext x₂).stat'
  have H := (G₁.ext x₂).hid
  rw [hK] at T H
  obtain rfl := r₂
  obtain ⟨v, v', rfl, q1, q2⟩ := two r₃
  refine ⟨T.kin, wpAny_call (br_call T R H q1 q2 fun u s₃ x₃ r => h u s₃ ((x₁.trans x₂).trans x₃) r)⟩
end
end Mine

open PySem PySem.W PyProof.Rows PySem.Calls
set_option Elab.async false
set_option linter.unusedVariables false
set_option maxRecDepth 100000
namespace Mine
/-! ## the lines of the walk -/
local macro_rules | `(tactic| walk_at "m look") => `(tactic| (repeat' (first | with_reducible assumption | with_reducible exact Look.here | (with_reducible refine' Look.there ?_ ?_; kernel_rfl))))
local macro_rules | `(tactic| walk_at "m blt") => `(tactic| (refine' bltOk.mk' ?_ ?_ ?_ ?_ ?_ <;> kernel_rfl))
local macro_rules | `(tactic| walk_at "m side") => `(tactic| first | with_reducible assumption | (with_reducible exact rfl) | omega | (simp only [List.length_map, List.length_cons, List.length_nil, List.length_append]; omega) | decide)
local macro_rules | `(tactic| walk_at "m b") => `(tactic| with_reducible first
  | exact BinOK.addI | exact BinOK.subI | (refine' BinOK.modI ?_; walk_at "m side") | (refine' BinOK.divI ?_ ?_ <;> walk_at "m side"))
local macro_rules | `(tactic| walk_at "m c") => `(tactic| with_reducible first
  | exact CmpOK.eqI | exact CmpOK.neI | exact CmpOK.ltI | exact CmpOK.leI | exact CmpOK.gtI | exact CmpOK.geI | exact CmpOK.eqS | exact CmpOK.neS)
local macro_rules | `(tactic| walk_at "m e") => `(tactic| with_reducible first
  | exact SE.int | exact SE.str | exact SE.bool | exact SE.none
  | (refine' SE.name ?k1; (case k1 => walk_at "m look"))
  | (refine' SE.bin ?k1 ?k2 ?k3; (case k1 => walk_at "m e"); (case k2 => walk_at "m e"); (case k3 => walk_at "m b"))
  | (refine' SE.cmp (hm := ?k4) ?k1 ?k2 ?k3; (case k1 => walk_at "m e"); (case k2 => walk_at "m e"); (case k3 => walk_at "m c"); (case k4 => with_unfolding_all rfl))
  | (refine' SE.lenT ?k1 ?k2 ?k3 ?k4; (case k1 => walk_at "m blt"); (case k2 => with_unfolding_all (intro _; rfl)); (case k3 => walk_at "m e"); (case k4 => walk_at "m side"))
  | (refine' SE.lenL ?k1 ?k2 ?k3 ?k4; (case k1 => walk_at "m blt"); (case k2 => with_unfolding_all (intro _; rfl)); (case k3 => walk_at "m e"); (case k4 => walk_at "m side"))
  | (refine' SE.lenS ?k1 ?k2 ?k3 ?k4; (case k1 => walk_at "m blt"); (case k2 => with_unfolding_all (intro _; rfl)); (case k3 => walk_at "m e"); (case k4 => walk_at "m side"))
  | fail "m e")
local macro_rules | `(tactic| walk_at "m t") => `(tactic| with_reducible first
  | (refine' SB.cmp (hm := ?k4) ?k1 ?k2 ?k3; (case k1 => walk_at "m e"); (case k2 => walk_at "m e"); (case k3 => walk_at "m c"); (case k4 => with_unfolding_all rfl))
  | (refine' SB.not ?k1; (case k1 => walk_at "m t"))
  | fail "m t")
/-- one statement -/
local macro_rules | `(tactic| walk_at "m s") => `(tactic| with_reducible first
  | refine' SX.doc ?_
  | (refine' SX.assign (hs := ?k3) ?k1 ?k2 ?k4; (case k1 => walk_at "m e"); (case k2 => kernel_rfl); (case k3 => with_unfolding_all rfl))
  | fail "m s")

local macro_rules | `(tactic| walk_at "m room") => `(tactic| first | with_reducible assumption | exact Room.le (by assumption) (by decide))
local macro_rules | `(tactic| walk_at "m tab") => `(tactic| with_reducible first
  | (refine' SE.tGRAPHEME_CONTROL ?k0 ?k1; (case k0 => exact rfl); (case k1 => kernel_rfl))
  | (refine' SE.tGRAPHEME_EXTEND ?k0 ?k1; (case k0 => exact rfl); (case k1 => kernel_rfl))
  | (refine' SE.tGRAPHEME_REGIONAL_INDICATOR ?k0 ?k1; (case k0 => exact rfl); (case k1 => kernel_rfl))
  | (refine' SE.tGRAPHEME_PREPEND ?k0 ?k1; (case k0 => exact rfl); (case k1 => kernel_rfl))
  | (refine' SE.tGRAPHEME_SPACINGMARK ?k0 ?k1; (case k0 => exact rfl); (case k1 => kernel_rfl))
  | (refine' SE.tGRAPHEME_L ?k0 ?k1; (case k0 => exact rfl); (case k1 => kernel_rfl))
  | (refine' SE.tGRAPHEME_V ?k0 ?k1; (case k0 => exact rfl); (case k1 => kernel_rfl))
  | (refine' SE.tGRAPHEME_T ?k0 ?k1; (case k0 => exact rfl); (case k1 => kernel_rfl))
  | (refine' SE.tGRAPHEME_LV ?k0 ?k1; (case k0 => exact rfl); (case k1 => kernel_rfl))
  | (refine' SE.tGRAPHEME_LVT ?k0 ?k1; (case k0 => exact rfl); (case k1 => kernel_rfl))
  | (refine' SE.tEXTENDED_PICTOGRAPHIC ?k0 ?k1; (case k0 => exact rfl); (case k1 => kernel_rfl))
  | (refine' SE.tINCB_LINKER ?k0 ?k1; (case k0 => exact rfl); (case k1 => kernel_rfl))
  | (refine' SE.tINCB_CONSONANT ?k0 ?k1; (case k0 => exact rfl); (case k1 => kernel_rfl))
  | (refine' SE.tINCB_EXTEND ?k0 ?k1; (case k0 => exact rfl); (case k1 => kernel_rfl)))
local macro_rules | `(tactic| walk_at "m gcb") => `(tactic| with_reducible first
  | (refine' SE.gOTHER ?k0 ?k1; (case k0 => exact rfl); (case k1 => kernel_rfl))
  | (refine' SE.gCR ?k0 ?k1; (case k0 => exact rfl); (case k1 => kernel_rfl))
  | (refine' SE.gLF ?k0 ?k1; (case k0 => exact rfl); (case k1 => kernel_rfl))
  | (refine' SE.gCONTROL ?k0 ?k1; (case k0 => exact rfl); (case k1 => kernel_rfl))
  | (refine' SE.gEXTEND ?k0 ?k1; (case k0 => exact rfl); (case k1 => kernel_rfl))
  | (refine' SE.gZWJ ?k0 ?k1; (case k0 => exact rfl); (case k1 => kernel_rfl))
  | (refine' SE.gREGIONAL_INDICATOR ?k0 ?k1; (case k0 => exact rfl); (case k1 => kernel_rfl))
  | (refine' SE.gPREPEND ?k0 ?k1; (case k0 => exact rfl); (case k1 => kernel_rfl))
  | (refine' SE.gSPACING_MARK ?k0 ?k1; (case k0 => exact rfl); (case k1 => kernel_rfl))
  | (refine' SE.gL ?k0 ?k1; (case k0 => exact rfl); (case k1 => kernel_rfl))
  | (refine' SE.gV ?k0 ?k1; (case k0 => exact rfl); (case k1 => kernel_rfl))
  | (refine' SE.gT ?k0 ?k1; (case k0 => exact rfl); (case k1 => kernel_rfl))
  | (refine' SE.gLV ?k0 ?k1; (case k0 => exact rfl); (case k1 => kernel_rfl))
  | (refine' SE.gLVT ?k0 ?k1; (case k0 => exact rfl); (case k1 => kernel_rfl)))
local macro_rules | `(tactic| walk_at "m tabside") => `(tactic| with_reducible first | exact tabNe3 | exact tabLt3 | exact tabNe4 | exact tabLt4 | exact tabNe5 | exact tabLt5 | exact tabNe6 | exact tabLt6 | exact tabNe7 | exact tabLt7 | exact tabNe8 | exact tabLt8 | exact tabNe9 | exact tabLt9 | exact tabNe10 | exact tabLt10 | exact tabNe11 | exact tabLt11 | exact tabNe12 | exact tabLt12 | exact tabNe13 | exact tabLt13 | exact tabNe14 | exact tabLt14 | exact tabNe15 | exact tabLt15 | exact tabNe16 | exact tabLt16)

local macro_rules | `(tactic| walk_at "m e") => `(tactic| with_reducible first
  | walk_at "m gcb"
  | (refine' SE.bis ?k0 ?k1 ?k2 ?k3 ?k4 ?k5 ?k6 ?k7; (case k0 => exact rfl); (case k1 => walk_at "m room"); (case k2 => kernel_rfl); (case k3 => with_unfolding_all (intro _; rfl)); (case k4 => walk_at "m e"); (case k5 => walk_at "m tab"); (case k6 => walk_at "m tabside"); (case k7 => walk_at "m tabside"))
  | fail "m e f")
local macro_rules | `(tactic| walk_at "m t") => `(tactic| with_reducible first | (refine' SB.ofInt (hv := ?k2) ?k1; (case k2 => with_unfolding_all (intro _; rfl)); (case k1 => walk_at "m e")) | fail "m t i")

section
variable {prog : Program} {w : World} {mg mb : Str → Option Value}

theorem pict_fn (u : Int) : Fn prog w (KK w) mg mb 254 2 [.int u] [] (.bool (Mine.bis (tabAt 13) u != 0)) := by
  refine Fn.of_body (n := 1) (look254 w) (data254 w) (body254 w) (plain254 w (.int u)) (code254 w) ?_ ?_
  · intro s av vs kvs T H r k
    obtain ⟨v, rfl, h1⟩ := one r
    obtain rfl := k
    exact ⟨_, .of_eq (bind254 w v), v, _, rfl, h1, rfl⟩
  · intro S₀ av A L R
    show SX _ (upd empty "ucs" _) (Stmt.Expr _ _ :: _) _
    dsimp only
    walk_at "m s"
    refine' SX.ret (SE.boolI ?a1 ?a2 ?a3) (.inl rfl)
    case a1 => walk_at "m blt"
    case a2 => with_unfolding_all (intro _; rfl)
    case a3 => walk_at "m e"

theorem link_fn (u : Int) : Fn prog w (KK w) mg mb 261 2 [.int u] [] (.bool (Mine.bis (tabAt 14) u != 0)) := by
  refine Fn.of_body (n := 1) (look261 w) (data261 w) (body261 w) (plain261 w (.int u)) (code261 w) ?_ ?_
  · intro s av vs kvs T H r k
    obtain ⟨v, rfl, h1⟩ := one r
    obtain rfl := k
    exact ⟨_, .of_eq (bind261 w v), v, _, rfl, h1, rfl⟩
  · intro S₀ av A L R
    show SX _ (upd empty "ucs" _) (Stmt.Expr _ _ :: _) _
    dsimp only
    walk_at "m s"
    refine' SX.ret (SE.boolI ?a1 ?a2 ?a3) (.inl rfl)
    case a1 => walk_at "m blt"
    case a2 => with_unfolding_all (intro _; rfl)
    case a3 => walk_at "m e"

theorem cons_fn (u : Int) : Fn prog w (KK w) mg mb 268 2 [.int u] [] (.bool (Mine.bis (tabAt 15) u != 0)) := by
  refine Fn.of_body (n := 1) (look268 w) (data268 w) (body268 w) (plain268 w (.int u)) (code268 w) ?_ ?_
  · intro s av vs kvs T H r k
    obtain ⟨v, rfl, h1⟩ := one r
    obtain rfl := k
    exact ⟨_, .of_eq (bind268 w v), v, _, rfl, h1, rfl⟩
  · intro S₀ av A L R
    show SX _ (upd empty "ucs" _) (Stmt.Expr _ _ :: _) _
    dsimp only
    walk_at "m s"
    refine' SX.ret (SE.boolI ?a1 ?a2 ?a3) (.inl rfl)
    case a1 => walk_at "m blt"
    case a2 => with_unfolding_all (intro _; rfl)
    case a3 => walk_at "m e"

theorem ext_fn (u : Int) : Fn prog w (KK w) mg mb 275 2 [.int u] [] (.bool (Mine.bis (tabAt 16) u != 0)) := by
  refine Fn.of_body (n := 1) (look275 w) (data275 w) (body275 w) (plain275 w (.int u)) (code275 w) ?_ ?_
  · intro s av vs kvs T H r k
    obtain ⟨v, rfl, h1⟩ := one r
    obtain rfl := k
    exact ⟨_, .of_eq (bind275 w v), v, _, rfl, h1, rfl⟩
  · intro S₀ av A L R
    show SX _ (upd empty "ucs" _) (Stmt.Expr _ _ :: _) _
    dsimp only
    walk_at "m s"
    refine' SX.ret (SE.boolI ?a1 ?a2 ?a3) (.inl rfl)
    case a1 => walk_at "m blt"
    case a2 => with_unfolding_all (intro _; rfl)
    case a3 => walk_at "m e"
end

section
variable {c : Cx} {σ : Sto} (hK : c.K = KK c.w)
include hK
theorem SE.pict {p pos : Pos} {e1 : Expr} {u : Int} (R : Room c.A 2) (hk : c.env.kindOf "_is_extended_pictographic" = some .globalImplicit) (hs : plainArgs c [e1]) (h1 : SE c σ e1 (.int u)) :
    SE c σ (.Call (.Name "_is_extended_pictographic" p) [e1] [] pos) (.bool (Mine.bis (tabAt 13) u != 0)) :=
  SE.call (SE.glob hk (by rw [hK]; kernel_rfl : nsIn c.K mainGlobals "_is_extended_pictographic" = some (some (.ref 254))) (by kernel_rfl)) (.cons h1 .nil) (by rw [hK]; exact look254 c.w) (data254 c.w) (by rw [hK]; exact pict_fn u) R (hs _)
theorem SE.link {p pos : Pos} {e1 : Expr} {u : Int} (R : Room c.A 2) (hk : c.env.kindOf "_is_incb_linker" = some .globalImplicit) (hs : plainArgs c [e1]) (h1 : SE c σ e1 (.int u)) :
    SE c σ (.Call (.Name "_is_incb_linker" p) [e1] [] pos) (.bool (Mine.bis (tabAt 14) u != 0)) :=
  SE.call (SE.glob hk (by rw [hK]; kernel_rfl : nsIn c.K mainGlobals "_is_incb_linker" = some (some (.ref 261))) (by kernel_rfl)) (.cons h1 .nil) (by rw [hK]; exact look261 c.w) (data261 c.w) (by rw [hK]; exact link_fn u) R (hs _)
theorem SE.cons {p pos : Pos} {e1 : Expr} {u : Int} (R : Room c.A 2) (hk : c.env.kindOf "_is_incb_consonant" = some .globalImplicit) (hs : plainArgs c [e1]) (h1 : SE c σ e1 (.int u)) :
    SE c σ (.Call (.Name "_is_incb_consonant" p) [e1] [] pos) (.bool (Mine.bis (tabAt 15) u != 0)) :=
  SE.call (SE.glob hk (by rw [hK]; kernel_rfl : nsIn c.K mainGlobals "_is_incb_consonant" = some (some (.ref 268))) (by kernel_rfl)) (.cons h1 .nil) (by rw [hK]; exact look268 c.w) (data268 c.w) (by rw [hK]; exact cons_fn u) R (hs _)
theorem SE.ext {p pos : Pos} {e1 : Expr} {u : Int} (R : Room c.A 2) (hk : c.env.kindOf "_is_incb_extend" = some .globalImplicit) (hs : plainArgs c [e1]) (h1 : SE c σ e1 (.int u)) :
    SE c σ (.Call (.Name "_is_incb_extend" p) [e1] [] pos) (.bool (Mine.bis (tabAt 16) u != 0)) :=
  SE.call (SE.glob hk (by rw [hK]; kernel_rfl : nsIn c.K mainGlobals "_is_incb_extend" = some (some (.ref 275))) (by kernel_rfl)) (.cons h1 .nil) (by rw [hK]; exact look275 c.w) (data275 c.w) (by rw [hK]; exact ext_fn u) R (hs _)
theorem SE.gcb {p pos : Pos} {e1 : Expr} {u : Int} (R : Room c.A 2) (hk : c.env.kindOf "_grapheme_cluster_break" = some .globalImplicit) (hs : plainArgs c [e1]) (h1 : SE c σ e1 (.int u)) :
    SE c σ (.Call (.Name "_grapheme_cluster_break" p) [e1] [] pos) (.int (Mine.gcb u)) :=
  SE.call (SE.glob hk (by rw [hK]; kernel_rfl : nsIn c.K mainGlobals "_grapheme_cluster_break" = some (some (.ref 247))) (by kernel_rfl)) (.cons h1 .nil) (by rw [hK]; exact look247 c.w) (data247 c.w) (by rw [hK]; exact gcb_fn u) R (hs _)
end

section
variable {c : Cx} {σ : Sto}
theorem CmpOK.in2 {x a b : Int} : CmpOK c .In (.int x) (.tup [.int a, .int b]) ([a, b].any (· == x)) := CmpOK.inI rfl
theorem CmpOK.in3 {x a b d : Int} : CmpOK c .In (.int x) (.tup [.int a, .int b, .int d]) ([a, b, d].any (· == x)) := CmpOK.inI rfl
theorem CmpOK.in4 {x a b d e : Int} : CmpOK c .In (.int x) (.tup [.int a, .int b, .int d, .int e]) ([a, b, d, e].any (· == x)) := CmpOK.inI rfl
theorem SE.ifInt {test body orelse pos b i j} (ht : SB c σ test b) (h1 : b = true → SE c σ body (.int i)) (h2 : b = false → SE c σ orelse (.int j)) : SE c σ (.IfExp test body orelse pos) (.int (if b = true then i else j)) := by
  refine SE.ifExp ht (fun h => ?_) (fun h => ?_)
  · rw [if_pos h]; exact h1 h
  · rw [if_neg (by rw [h]; decide)]; exact h2 h
end

local macro_rules | `(tactic| walk_at "m fn1") => `(tactic| with_reducible first
  | (refine' SE.gcb ?k0 ?k1 ?k2 ?k3 ?k4; (case k0 => exact rfl); (case k1 => walk_at "m room"); (case k2 => kernel_rfl); (case k3 => with_unfolding_all (intro _; rfl)); (case k4 => walk_at "m e"))
  | (refine' SE.pict ?k0 ?k1 ?k2 ?k3 ?k4; (case k0 => exact rfl); (case k1 => walk_at "m room"); (case k2 => kernel_rfl); (case k3 => with_unfolding_all (intro _; rfl)); (case k4 => walk_at "m e"))
  | (refine' SE.link ?k0 ?k1 ?k2 ?k3 ?k4; (case k0 => exact rfl); (case k1 => walk_at "m room"); (case k2 => kernel_rfl); (case k3 => with_unfolding_all (intro _; rfl)); (case k4 => walk_at "m e"))
  | (refine' SE.cons ?k0 ?k1 ?k2 ?k3 ?k4; (case k0 => exact rfl); (case k1 => walk_at "m room"); (case k2 => kernel_rfl); (case k3 => with_unfolding_all (intro _; rfl)); (case k4 => walk_at "m e"))
  | (refine' SE.ext ?k0 ?k1 ?k2 ?k3 ?k4; (case k0 => exact rfl); (case k1 => walk_at "m room"); (case k2 => kernel_rfl); (case k3 => with_unfolding_all (intro _; rfl)); (case k4 => walk_at "m e"))
  | fail "m fn1")
local macro_rules | `(tactic| walk_at "m es") => `(tactic| with_reducible first
  | exact SEs.nil
  | (refine' SEs.cons ?k1 ?k2; (case k1 => walk_at "m e"); (case k2 => walk_at "m es"))
  | fail "m es")
local macro_rules | `(tactic| walk_at "m e") => `(tactic| with_reducible first
  | (refine' SE.tuple (hst := ?k2) ?k1 ?k3; (case k1 => walk_at "m es"); (case k2 => with_unfolding_all rfl); (case k3 => with_unfolding_all (show (_ : Nat) ≤ _; decide)))
  | walk_at "m fn1"
  | (refine' SE.ifInt ?k1 (fun hif => ?k2) (fun hif => ?k3); (case k1 => walk_at "m t"); (case k2 => walk_at "m e"); (case k3 => walk_at "m e"))
  | (refine' SE.brMake ?k0 ?k1 ?k2 ?k3 ?k4; (case k0 => exact rfl); (case k1 => walk_at "m room"); (case k2 => kernel_rfl); (case k3 => walk_at "m e"); (case k4 => walk_at "m e"))
  | (refine' SE.brBreak ?k0 ?k1 ?k2; (case k0 => exact rfl); (case k1 => walk_at "m room"); (case k2 => walk_at "m e"))
  | (refine' SE.brCount ?k0 ?k1 ?k2; (case k0 => exact rfl); (case k1 => walk_at "m room"); (case k2 => walk_at "m e"))
  | fail "m e 17")
local macro_rules | `(tactic| walk_at "m c") => `(tactic| with_reducible first
  | exact CmpOK.in2 | exact CmpOK.in3 | exact CmpOK.in4
  | exact CmpOK.isNotNone | exact CmpOK.isNotNoneBr
  | fail "m c 17")
local macro_rules | `(tactic| walk_at "m t") => `(tactic| with_reducible first
  | (refine' SB.boolOp ?k1; (case k1 => walk_at "m ts"))
  | (refine' SB.cmp (hm := ?k4) ?k1 ?k2 ?k3; (case k1 => walk_at "m e"); (case k2 => walk_at "m e"); (case k3 => walk_at "m c"); (case k4 => with_unfolding_all rfl))
  | (refine' SB.not ?k1; (case k1 => walk_at "m t"))
  | (refine' SB.ofInt (hv := ?k2) ?k1; (case k2 => with_unfolding_all (intro _; rfl)); (case k1 => walk_at "m e"))
  | (refine' SB.ofBool (hv := ?k2) ?k1; (case k2 => with_unfolding_all (intro _; rfl)); (case k1 => walk_at "m e"))
  | fail "m t 17")
local macro_rules | `(tactic| walk_at "m ts") => `(tactic| with_reducible first
  | exact SBs.and_nil | exact SBs.or_nil
  | (refine' SBs.and_cons ?k1 (fun hand => ?k2); (case k1 => walk_at "m t"); (case k2 => walk_at "m ts"))
  | (refine' SBs.or_cons ?k1 (fun hor => ?k2); (case k1 => walk_at "m t"); (case k2 => walk_at "m ts"))
  | fail "m ts")

/-- _simple_break_check -/
def simple (p c : Int) : Option (Bool × Int) :=
  if (p == 1 && (c == 2 && true)) = true then some (false, 0)
  else if ([3, 1, 2].any (· == p)) = true then some (true, if (c == 6) = true then 1 else 0)
  else if ([3, 1, 2].any (· == c)) = true then some (true, 0)
  else if (p == 9 && ([9, 10, 12, 13].any (· == c) && true)) = true then some (false, 0)
  else if ([12, 10].any (· == p) && ([10, 11].any (· == c) && true)) = true then some (false, 0)
  else if ([13, 11].any (· == p) && (c == 11 && true)) = true then some (false, 0)
  else if (c == 4) = true then some (false, 0)
  else if (c == 8) = true then some (false, 0)
  else if (p == 7) = true then some (false, if (c == 6) = true then 1 else 0)
  else none
def brD : Option (Bool × Int) → D
  | none => .none
  | some (b, n) => .br b n

section
variable {prog : Program} {w : World} {mg mb : Str → Option Value}
theorem simple_fn (p q : Int) : Fn prog w (KK w) mg mb 353 3 [.int p, .int q] [] (brD (simple p q)) := by
  refine Fn.of_body (n := 2) (look353 w) (data353 w) (body353 w) (plain353 w (.int p) (.int q)) (code353 w) ?_ ?_
  · intro s av vs kvs T H r k
    obtain ⟨v, v', rfl, h1, h2⟩ := two r
    obtain rfl := k
    exact ⟨_, .of_eq (bind353 w v v'), v, _, rfl, h1, v', _, rfl, h2, rfl⟩
  · intro S₀ av A L R
    show SX _ (upd (upd empty "prev_gcb" _) "curr_gcb" _) (Stmt.Expr _ _ :: _) _
    dsimp only
    walk_at "m s"
    refine' SX.if1 ?t1 (fun h1 => ?a1) (fun h1 => ?b1)
    case t1 => walk_at "m t"
    case a1 =>
      refine' SX.ret (d := .br _ _) ?r1 (.inl ?q1)
      case r1 => walk_at "m e"
      simp only [simple, h1, Bool.false_eq_true, if_false, if_true, brD]
    refine' SX.if1 ?t2 (fun h2 => ?a2) (fun h2 => ?b2)
    case t2 => walk_at "m t"
    case a2 =>
      refine' SX.ret (d := .br _ _) ?r2 (.inl ?q2)
      case r2 => walk_at "m e"
      simp only [simple, h1, h2, Bool.false_eq_true, if_false, if_true, brD]
    refine' SX.if1 ?t3 (fun h3 => ?a3) (fun h3 => ?b3)
    case t3 => walk_at "m t"
    case a3 =>
      refine' SX.ret (d := .br _ _) ?r3 (.inl ?q3)
      case r3 => walk_at "m e"
      simp only [simple, h1, h2, h3, Bool.false_eq_true, if_false, if_true, brD]
    refine' SX.if1 ?t4 (fun h4 => ?a4) (fun h4 => ?b4)
    case t4 => walk_at "m t"
    case a4 =>
      refine' SX.ret (d := .br _ _) ?r4 (.inl ?q4)
      case r4 => walk_at "m e"
      simp only [simple, h1, h2, h3, h4, Bool.false_eq_true, if_false, if_true, brD]
    refine' SX.if1 ?t5 (fun h5 => ?a5) (fun h5 => ?b5)
    case t5 => walk_at "m t"
    case a5 =>
      refine' SX.ret (d := .br _ _) ?r5 (.inl ?q5)
      case r5 => walk_at "m e"
      simp only [simple, h1, h2, h3, h4, h5, Bool.false_eq_true, if_false, if_true, brD]
    refine' SX.if1 ?t6 (fun h6 => ?a6) (fun h6 => ?b6)
    case t6 => walk_at "m t"
    case a6 =>
      refine' SX.ret (d := .br _ _) ?r6 (.inl ?q6)
      case r6 => walk_at "m e"
      simp only [simple, h1, h2, h3, h4, h5, h6, Bool.false_eq_true, if_false, if_true, brD]
    refine' SX.if1 ?t7 (fun h7 => ?a7) (fun h7 => ?b7)
    case t7 => walk_at "m t"
    case a7 =>
      refine' SX.ret (d := .br _ _) ?r7 (.inl ?q7)
      case r7 => walk_at "m e"
      simp only [simple, h1, h2, h3, h4, h5, h6, h7, Bool.false_eq_true, if_false, if_true, brD]
    refine' SX.if1 ?t8 (fun h8 => ?a8) (fun h8 => ?b8)
    case t8 => walk_at "m t"
    case a8 =>
      refine' SX.ret (d := .br _ _) ?r8 (.inl ?q8)
      case r8 => walk_at "m e"
      simp only [simple, h1, h2, h3, h4, h5, h6, h7, h8, Bool.false_eq_true, if_false, if_true, brD]
    refine' SX.if1 ?t9 (fun h9 => ?a9) (fun h9 => ?b9)
    case t9 => walk_at "m t"
    case a9 =>
      refine' SX.ret (d := .br _ _) ?r9 (.inl ?q9)
      case r9 => walk_at "m e"
      simp only [simple, h1, h2, h3, h4, h5, h6, h7, h8, h9, Bool.false_eq_true, if_false, if_true, brD]
    refine' SX.ret (d := .none) ?r10 (.inl ?q10)
    case r10 => walk_at "m e"
    simp only [simple, h1, h2, h3, h4, h5, h6, h7, h8, h9, Bool.false_eq_true, if_false, brD]
end
end Mine

open PySem PySem.W PyProof.Rows PySem.Calls
set_option Elab.async false
set_option linter.unusedVariables false
set_option maxRecDepth 100000
namespace Mine
/-! ## the lines of the walk -/
local macro_rules | `(tactic| walk_at "m look") => `(tactic| (repeat' (first | with_reducible assumption | with_reducible exact Look.here | (with_reducible refine' Look.there ?_ ?_; kernel_rfl))))
local macro_rules | `(tactic| walk_at "m blt") => `(tactic| (refine' bltOk.mk' ?_ ?_ ?_ ?_ ?_ <;> kernel_rfl))
local macro_rules | `(tactic| walk_at "m side") => `(tactic| first | with_reducible assumption | (with_reducible exact rfl) | omega | (simp only [List.length_map, List.length_cons, List.length_nil, List.length_append]; omega) | decide)
local macro_rules | `(tactic| walk_at "m b") => `(tactic| with_reducible first
  | exact BinOK.addI | exact BinOK.subI | (refine' BinOK.modI ?_; walk_at "m side") | (refine' BinOK.divI ?_ ?_ <;> walk_at "m side"))
local macro_rules | `(tactic| walk_at "m c") => `(tactic| with_reducible first
  | exact CmpOK.eqI | exact CmpOK.neI | exact CmpOK.ltI | exact CmpOK.leI | exact CmpOK.gtI | exact CmpOK.geI | exact CmpOK.eqS | exact CmpOK.neS)
local macro_rules | `(tactic| walk_at "m e") => `(tactic| with_reducible first
  | exact SE.int | exact SE.str | exact SE.bool | exact SE.none
  | (refine' SE.name ?k1; (case k1 => walk_at "m look"))
  | (refine' SE.bin ?k1 ?k2 ?k3; (case k1 => walk_at "m e"); (case k2 => walk_at "m e"); (case k3 => walk_at "m b"))
  | (refine' SE.cmp (hm := ?k4) ?k1 ?k2 ?k3; (case k1 => walk_at "m e"); (case k2 => walk_at "m e"); (case k3 => walk_at "m c"); (case k4 => with_unfolding_all rfl))
  | (refine' SE.lenT ?k1 ?k2 ?k3 ?k4; (case k1 => walk_at "m blt"); (case k2 => with_unfolding_all (intro _; rfl)); (case k3 => walk_at "m e"); (case k4 => walk_at "m side"))
  | (refine' SE.lenL ?k1 ?k2 ?k3 ?k4; (case k1 => walk_at "m blt"); (case k2 => with_unfolding_all (intro _; rfl)); (case k3 => walk_at "m e"); (case k4 => walk_at "m side"))
  | (refine' SE.lenS ?k1 ?k2 ?k3 ?k4; (case k1 => walk_at "m blt"); (case k2 => with_unfolding_all (intro _; rfl)); (case k3 => walk_at "m e"); (case k4 => walk_at "m side"))
  | fail "m e")
local macro_rules | `(tactic| walk_at "m t") => `(tactic| with_reducible first
  | (refine' SB.cmp (hm := ?k4) ?k1 ?k2 ?k3; (case k1 => walk_at "m e"); (case k2 => walk_at "m e"); (case k3 => walk_at "m c"); (case k4 => with_unfolding_all rfl))
  | (refine' SB.not ?k1; (case k1 => walk_at "m t"))
  | fail "m t")
/-- one statement -/
local macro_rules | `(tactic| walk_at "m s") => `(tactic| with_reducible first
  | refine' SX.doc ?_
  | (refine' SX.assign (hs := ?k3) ?k1 ?k2 ?k4; (case k1 => walk_at "m e"); (case k2 => kernel_rfl); (case k3 => with_unfolding_all rfl))
  | fail "m s")

local macro_rules | `(tactic| walk_at "m room") => `(tactic| first | with_reducible assumption | exact Room.le (by assumption) (by decide))
local macro_rules | `(tactic| walk_at "m tab") => `(tactic| with_reducible first
  | (refine' SE.tGRAPHEME_CONTROL ?k0 ?k1; (case k0 => exact rfl); (case k1 => kernel_rfl))
  | (refine' SE.tGRAPHEME_EXTEND ?k0 ?k1; (case k0 => exact rfl); (case k1 => kernel_rfl))
  | (refine' SE.tGRAPHEME_REGIONAL_INDICATOR ?k0 ?k1; (case k0 => exact rfl); (case k1 => kernel_rfl))
  | (refine' SE.tGRAPHEME_PREPEND ?k0 ?k1; (case k0 => exact rfl); (case k1 => kernel_rfl))
  | (refine' SE.tGRAPHEME_SPACINGMARK ?k0 ?k1; (case k0 => exact rfl); (case k1 => kernel_rfl))
  | (refine' SE.tGRAPHEME_L ?k0 ?k1; (case k0 => exact rfl); (case k1 => kernel_rfl))
  | (refine' SE.tGRAPHEME_V ?k0 ?k1; (case k0 => exact rfl); (case k1 => kernel_rfl))
  | (refine' SE.tGRAPHEME_T ?k0 ?k1; (case k0 => exact rfl); (case k1 => kernel_rfl))
  | (refine' SE.tGRAPHEME_LV ?k0 ?k1; (case k0 => exact rfl); (case k1 => kernel_rfl))
  | (refine' SE.tGRAPHEME_LVT ?k0 ?k1; (case k0 => exact rfl); (case k1 => kernel_rfl))
  | (refine' SE.tEXTENDED_PICTOGRAPHIC ?k0 ?k1; (case k0 => exact rfl); (case k1 => kernel_rfl))
  | (refine' SE.tINCB_LINKER ?k0 ?k1; (case k0 => exact rfl); (case k1 => kernel_rfl))
  | (refine' SE.tINCB_CONSONANT ?k0 ?k1; (case k0 => exact rfl); (case k1 => kernel_rfl))
  | (refine' SE.tINCB_EXTEND ?k0 ?k1; (case k0 => exact rfl); (case k1 => kernel_rfl)))
local macro_rules | `(tactic| walk_at "m gcb") => `(tactic| with_reducible first
  | (refine' SE.gOTHER ?k0 ?k1; (case k0 => exact rfl); (case k1 => kernel_rfl))
  | (refine' SE.gCR ?k0 ?k1; (case k0 => exact rfl); (case k1 => kernel_rfl))
  | (refine' SE.gLF ?k0 ?k1; (case k0 => exact rfl); (case k1 => kernel_rfl))
  | (refine' SE.gCONTROL ?k0 ?k1; (case k0 => exact rfl); (case k1 => kernel_rfl))
  | (refine' SE.gEXTEND ?k0 ?k1; (case k0 => exact rfl); (case k1 => kernel_rfl))
  | (refine' SE.gZWJ ?k0 ?k1; (case k0 => exact rfl); (case k1 => kernel_rfl))
  | (refine' SE.gREGIONAL_INDICATOR ?k0 ?k1; (case k0 => exact rfl); (case k1 => kernel_rfl))
  | (refine' SE.gPREPEND ?k0 ?k1; (case k0 => exact rfl); (case k1 => kernel_rfl))
  | (refine' SE.gSPACING_MARK ?k0 ?k1; (case k0 => exact rfl); (case k1 => kernel_rfl))
  | (refine' SE.gL ?k0 ?k1; (case k0 => exact rfl); (case k1 => kernel_rfl))
  | (refine' SE.gV ?k0 ?k1; (case k0 => exact rfl); (case k1 => kernel_rfl))
  | (refine' SE.gT ?k0 ?k1; (case k0 => exact rfl); (case k1 => kernel_rfl))
  | (refine' SE.gLV ?k0 ?k1; (case k0 => exact rfl); (case k1 => kernel_rfl))
  | (refine' SE.gLVT ?k0 ?k1; (case k0 => exact rfl); (case k1 => kernel_rfl)))
local macro_rules | `(tactic| walk_at "m tabside") => `(tactic| with_reducible first | exact tabNe3 | exact tabLt3 | exact tabNe4 | exact tabLt4 | exact tabNe5 | exact tabLt5 | exact tabNe6 | exact tabLt6 | exact tabNe7 | exact tabLt7 | exact tabNe8 | exact tabLt8 | exact tabNe9 | exact tabLt9 | exact tabNe10 | exact tabLt10 | exact tabNe11 | exact tabLt11 | exact tabNe12 | exact tabLt12 | exact tabNe13 | exact tabLt13 | exact tabNe14 | exact tabLt14 | exact tabNe15 | exact tabLt15 | exact tabNe16 | exact tabLt16)

local macro_rules | `(tactic| walk_at "m e") => `(tactic| with_reducible first
  | walk_at "m gcb"
  | (refine' SE.bis ?k0 ?k1 ?k2 ?k3 ?k4 ?k5 ?k6 ?k7; (case k0 => exact rfl); (case k1 => walk_at "m room"); (case k2 => kernel_rfl); (case k3 => with_unfolding_all (intro _; rfl)); (case k4 => walk_at "m e"); (case k5 => walk_at "m tab"); (case k6 => walk_at "m tabside"); (case k7 => walk_at "m tabside"))
  | fail "m e f")
local macro_rules | `(tactic| walk_at "m t") => `(tactic| with_reducible first | (refine' SB.ofInt (hv := ?k2) ?k1; (case k2 => with_unfolding_all (intro _; rfl)); (case k1 => walk_at "m e")) | fail "m t i")

local macro_rules | `(tactic| walk_at "m fn1") => `(tactic| with_reducible first
  | (refine' SE.gcb ?k0 ?k1 ?k2 ?k3 ?k4; (case k0 => exact rfl); (case k1 => walk_at "m room"); (case k2 => kernel_rfl); (case k3 => with_unfolding_all (intro _; rfl)); (case k4 => walk_at "m e"))
  | (refine' SE.pict ?k0 ?k1 ?k2 ?k3 ?k4; (case k0 => exact rfl); (case k1 => walk_at "m room"); (case k2 => kernel_rfl); (case k3 => with_unfolding_all (intro _; rfl)); (case k4 => walk_at "m e"))
  | (refine' SE.link ?k0 ?k1 ?k2 ?k3 ?k4; (case k0 => exact rfl); (case k1 => walk_at "m room"); (case k2 => kernel_rfl); (case k3 => with_unfolding_all (intro _; rfl)); (case k4 => walk_at "m e"))
  | (refine' SE.cons ?k0 ?k1 ?k2 ?k3 ?k4; (case k0 => exact rfl); (case k1 => walk_at "m room"); (case k2 => kernel_rfl); (case k3 => with_unfolding_all (intro _; rfl)); (case k4 => walk_at "m e"))
  | (refine' SE.ext ?k0 ?k1 ?k2 ?k3 ?k4; (case k0 => exact rfl); (case k1 => walk_at "m room"); (case k2 => kernel_rfl); (case k3 => with_unfolding_all (intro _; rfl)); (case k4 => walk_at "m e"))
  | fail "m fn1")
local macro_rules | `(tactic| walk_at "m es") => `(tactic| with_reducible first
  | exact SEs.nil
  | (refine' SEs.cons ?k1 ?k2; (case k1 => walk_at "m e"); (case k2 => walk_at "m es"))
  | fail "m es")
local macro_rules | `(tactic| walk_at "m e") => `(tactic| with_reducible first
  | (refine' SE.tuple (hst := ?k2) ?k1 ?k3; (case k1 => walk_at "m es"); (case k2 => with_unfolding_all rfl); (case k3 => with_unfolding_all (show (_ : Nat) ≤ _; decide)))
  | walk_at "m fn1"
  | (refine' SE.ifInt ?k1 (fun hif => ?k2) (fun hif => ?k3); (case k1 => walk_at "m t"); (case k2 => walk_at "m e"); (case k3 => walk_at "m e"))
  | (refine' SE.brMake ?k0 ?k1 ?k2 ?k3 ?k4; (case k0 => exact rfl); (case k1 => walk_at "m room"); (case k2 => kernel_rfl); (case k3 => walk_at "m e"); (case k4 => walk_at "m e"))
  | (refine' SE.brBreak ?k0 ?k1 ?k2; (case k0 => exact rfl); (case k1 => walk_at "m room"); (case k2 => walk_at "m e"))
  | (refine' SE.brCount ?k0 ?k1 ?k2; (case k0 => exact rfl); (case k1 => walk_at "m room"); (case k2 => walk_at "m e"))
  | fail "m e 17")
local macro_rules | `(tactic| walk_at "m c") => `(tactic| with_reducible first
  | exact CmpOK.in2 | exact CmpOK.in3 | exact CmpOK.in4
  | exact CmpOK.isNotNone | exact CmpOK.isNotNoneBr
  | fail "m c 17")
local macro_rules | `(tactic| walk_at "m t") => `(tactic| with_reducible first
  | (refine' SB.boolOp ?k1; (case k1 => walk_at "m ts"))
  | (refine' SB.cmp (hm := ?k4) ?k1 ?k2 ?k3; (case k1 => walk_at "m e"); (case k2 => walk_at "m e"); (case k3 => walk_at "m c"); (case k4 => with_unfolding_all rfl))
  | (refine' SB.not ?k1; (case k1 => walk_at "m t"))
  | (refine' SB.ofInt (hv := ?k2) ?k1; (case k2 => with_unfolding_all (intro _; rfl)); (case k1 => walk_at "m e"))
  | (refine' SB.ofBool (hv := ?k2) ?k1; (case k2 => with_unfolding_all (intro _; rfl)); (case k1 => walk_at "m e"))
  | fail "m t 17")
local macro_rules | `(tactic| walk_at "m ts") => `(tactic| with_reducible first
  | exact SBs.and_nil | exact SBs.or_nil
  | (refine' SBs.and_cons ?k1 (fun hand => ?k2); (case k1 => walk_at "m t"); (case k2 => walk_at "m ts"))
  | (refine' SBs.or_cons ?k1 (fun hor => ?k2); (case k1 => walk_at "m t"); (case k2 => walk_at "m ts"))
  | fail "m ts")

/-- a text by its signs -/
abbrev Sx (l : List Nat) : Str := ⟨l.toArray⟩
theorem Sx_len (l : List Nat) : (Sx l).length = l.length := by simp [Str.length]
section
variable {c : Cx} {σ : Sto}
theorem SE.ordAt {p q pos qo : Pos} {x : Str} {i : Expr} {l : List Nat} {k : Int} (hb : bltOk c "ord" (.builtin "ord")) (hs : plainArgs c [.Subscript (.Name x p) i q]) (hx : SE c σ (.Name x p) (.str (Sx l))) (hi : SE c σ i (.int k)) (h0 : 0 ≤ k) (h1 : k < l.length) (hf : l.length < 1000000)
    (hsub : ∀ o u, subscripted i false o u = operate [o, u] (getItem o u) := by intro _ _; rfl) : SE c σ (.Call (.Name "ord" qo) [.Subscript (.Name x p) i q] [] pos) (.int (l.getD k.toNat 0 : Nat)) := by
  refine SE.ord hb hs (SE.itemS (k := k) (j := k.toNat) hx hi ?_ ?_ ?_ hsub)
  · rw [Sx_len]; exact seq_ok h0 h1
  · have hk : k.toNat < l.length := by omega
    simp [List.getD_eq_getElem?_getD, List.getElem?_eq_getElem hk]
  · rw [Sx_len]; omega
end

local macro_rules | `(tactic| walk_at "m e") => `(tactic| with_reducible first
  | (refine' SE.ordAt (hsub := ?k0) ?k1 ?k2 ?k3 ?k4 ?k5 ?k6 ?k7; (case k0 => intro _ _; with_unfolding_all rfl); (case k1 => walk_at "m blt"); (case k2 => with_unfolding_all (intro _; rfl)); (case k3 => walk_at "m e"); (case k4 => walk_at "m e"); (case k5 => walk_at "m side"); (case k6 => walk_at "m side"); (case k7 => walk_at "m side"))
  | fail "m e 18")

abbrev isExt (u : Int) : Bool := bis (tabAt 16) u != 0
abbrev isLink (u : Int) : Bool := bis (tabAt 14) u != 0
abbrev isCons (u : Int) : Bool := bis (tabAt 15) u != 0
abbrev isPict (u : Int) : Bool := bis (tabAt 13) u != 0
abbrev at_ (l : List Nat) (i : Int) : Int := (l.getD i.toNat 0 : Nat)
/-- the walk back over what goes on a sign -/
def skipExt (l : List Nat) (st : Int) : Nat → Int → Int
  | 0, i => i
  | n + 1, i => if st ≤ i ∧ isExt (at_ l i) = true then skipExt l st n (i - 1) else i
/-- a picture behind a joiner -/
def pictBack (l : List Nat) (st : Int) : Nat → Int → Bool
  | 0, _ => false
  | n + 1, i => if st ≤ i then (if gcb (at_ l i) = 4 then pictBack l st n (i - 1) else isPict (at_ l i)) else false
/-- _should_break -/
def sbk (p c : Int) (l : List Nat) (idx ri st : Int) : Bool × Int :=
  match simple p c with
  | some r => r
  | none =>
    if c = 5 then (false, 0)
    else if isCons (at_ l idx) = true ∧ st ≤ skipExt l st idx.toNat (idx - 1) ∧ isLink (at_ l (skipExt l st idx.toNat (idx - 1))) = true then (false, 0)
    else if (p = 5 ∧ isPict (at_ l idx) = true) ∧ pictBack l st idx.toNat (idx - 2) = true then (false, 0)
    else if p = 6 ∧ c = 6 then (if ri.fmod 2 = 1 then (false, ri + 1) else (true, 1))
    else (true, if c = 6 then 1 else 0)

theorem look361 (w : World) : (KK w).lookup 361 = some (objAt w 361) := by kernel_rfl
theorem data361 (w : World) : (objAt w 361).data = .func (fdAt w 361) := by kernel_rfl
theorem body361 (w : World) : (fdAt w 361).body = .stmts (bodyOf 28) := by kernel_rfl
theorem code361 (w : World) : codeIn (KK w) (fdAt w 361).code (fdAt w 361).qualname = true := by kernel_rfl
theorem plain361 (w : World) (a b c d e f : D) : plainDef (fdAt w 361) [(("prev_gcb" : Str), a), (("curr_gcb" : Str), b), (("text" : Str), c), (("curr_idx" : Str), d), (("ri_count" : Str), e), (("start" : Str), f)] = true := by kernel_rfl
theorem bind361 (w : World) (S : Setting) (a b c d e f : Value) : peek (KK w) S (bindArgs (fdAt w 361) ⟨[a, b, c, d, e], [(("start" : Str), f)]⟩) = some [(("prev_gcb" : Str), a), (("curr_gcb" : Str), b), (("text" : Str), c), (("curr_idx" : Str), d), (("ri_count" : Str), e), (("start" : Str), f)] := by kernel_rfl
noncomputable def dflt361 (w : World) : Tok := match (fdAt w 361).kwdefaults with
  | .ref d => (match nsIn (KK w) d "start" with | some (some v) => tokOf v | _ => 0)
  | _ => 0
theorem bind361d (w : World) (S : Setting) (a b c d e : Value) : peek (KK w) S (bindArgs (fdAt w 361) ⟨[a, b, c, d, e], []⟩) = some [(("prev_gcb" : Str), a), (("curr_gcb" : Str), b), (("text" : Str), c), (("curr_idx" : Str), d), (("ri_count" : Str), e), (("start" : Str), .int 0 (dflt361 w))] := by kernel_rfl
theorem five {h : Heap} {own : List Addr} {d d' d'' d3 d4 : D} {vs : List Value} (r : Reps h own [d, d', d'', d3, d4] vs) : ∃ v v' v'' v3 v4, vs = [v, v', v'', v3, v4] ∧ Rep h own d v ∧ Rep h own d' v' ∧ Rep h own d'' v'' ∧ Rep h own d3 v3 ∧ Rep h own d4 v4 := by
  obtain ⟨v, r', e, h1, h2⟩ := r
  obtain ⟨v', r'', e', h3, h4⟩ := h2
  obtain ⟨a, b, c, rfl, h5, h6, h7⟩ := three h4
  subst e'
  exact ⟨v, v', a, b, c, e, h1, h3, h5, h6, h7⟩

section
variable {c : Cx} {σ : Sto} (hK : c.K = KK c.w)
include hK
theorem SE.simple {p pos : Pos} {e1 e2 : Expr} {u v : Int} (R : Room c.A 3) (hk : c.env.kindOf "_simple_break_check" = some .globalImplicit) (hs : plainArgs c [e1, e2]) (h1 : SE c σ e1 (.int u)) (h2 : SE c σ e2 (.int v)) :
    SE c σ (.Call (.Name "_simple_break_check" p) [e1, e2] [] pos) (brD (Mine.simple u v)) :=
  SE.call (SE.glob hk (by rw [hK]; kernel_rfl : nsIn c.K mainGlobals "_simple_break_check" = some (some (.ref 353))) (by kernel_rfl)) (.cons h1 (.cons h2 .nil)) (by rw [hK]; exact look353 c.w) (data353 c.w) (by rw [hK]; exact simple_fn u v) R (hs _)
end

section
variable {prog : Program} {w : World} {mg mb : Str → Option Value}
theorem sbk_run (p q : Int) (l : List Nat) (idx ri st : Int) (h0 : 0 ≤ st) (h1 : st < idx) (h2 : idx < l.length) (hf : l.length < 1000000) {S₀ : Shared} {av : List Addr} {A : Around} {L : Addr} (R : Room A 3) :
    SX ⟨prog, w, KK w, mg, mb, S₀, av, A, callEnv (fdAt w 361) L 361⟩ (stoOf [(("prev_gcb" : Str), .int p), (("curr_gcb" : Str), .int q), (("text" : Str), .str (Sx l)), (("curr_idx" : Str), .int idx), (("ri_count" : Str), .int ri), (("start" : Str), .int st)] empty) (bodyOf 28)
      fun fl _ => fl = .ret (.br (sbk p q l idx ri st).1 (sbk p q l idx ri st).2) ∨ (fl = .next ∧ D.br (sbk p q l idx ri st).1 (sbk p q l idx ri st).2 = .none) := by
  show SX _ (upd (upd (upd (upd (upd (upd empty "prev_gcb" _) "curr_gcb" _) "text" _) "curr_idx" _) "ri_count" _) "start" _) (Stmt.Expr _ _ :: _) _
  dsimp only
  walk_at "m s"
  refine' SX.assign (hs := ?a3) (SE.simple ?a0 ?a4 ?a5 ?a6 ?a7 ?a8) ?a2 ?a1
  case a0 => exact rfl
  case a2 => kernel_rfl
  case a3 => with_unfolding_all rfl
  case a4 => exact R
  case a5 => kernel_rfl
  case a6 => with_unfolding_all (intro _; rfl)
  case a7 => walk_at "m e"
  case a8 => walk_at "m e"
  cases hsim : simple p q with
  | some r =>
    obtain ⟨b, n⟩ := r
    dsimp only [brD]
    refine' SX.if1 ?t1 (fun h => ?b1) (fun h => ?b2)
    case t1 => walk_at "m t"
    case b2 => cases h
    refine' SX.ret (d := .br b n) ?r1 (.inl ?q1)
    case r1 => walk_at "m e"
    unfold sbk
    rw [hsim]
  | none =>
    dsimp only [brD]
    refine' SX.if1 ?t2 (fun h => ?c1) (fun h => ?c2)
    case t2 => walk_at "m t"
    case c1 => cases h
    have hsb : sbk p q l idx ri st = if q = 5 then (false, 0)
      else if isCons (at_ l idx) = true ∧ st ≤ skipExt l st idx.toNat (idx - 1) ∧ isLink (at_ l (skipExt l st idx.toNat (idx - 1))) = true then (false, 0)
      else if (p = 5 ∧ isPict (at_ l idx) = true) ∧ pictBack l st idx.toNat (idx - 2) = true then (false, 0)
      else if p = 6 ∧ q = 6 then (if ri.fmod 2 = 1 then (false, ri + 1) else (true, 1))
      else (true, if q = 6 then 1 else 0) := by
      unfold sbk
      rw [hsim]
    rw [hsb]
    refine' SX.if1 ?t3 (fun h3 => ?d1) (fun h3 => ?d2)
    case t3 => walk_at "m t"
    case d1 =>
      refine' SX.ret (d := .br false 0) ?r3 (.inl ?q3)
      case r3 => walk_at "m e"
      rw [if_pos (by simpa using h3)]
    rw [if_neg (by simpa using h3)]
    walk_at "m s"
    generalize hcu : at_ l idx = cu
    have cu' : ((l.getD idx.toNat 0 : Nat) : Int) = cu := hcu
    rw [cu']
    -- what stands behind the look for a linker
    let Sh : Sto → Prop := fun σ => Look σ "prev_gcb" (.d (.int p)) ∧ Look σ "curr_gcb" (.d (.int q)) ∧ Look σ "text" (.d (.str (Sx l))) ∧ Look σ "curr_idx" (.d (.int idx)) ∧ Look σ "ri_count" (.d (.int ri)) ∧ Look σ "start" (.d (.int st)) ∧ Look σ "curr_ucs" (.d (.int cu))
    let res : Bool × Int := if (p = 5 ∧ isPict cu = true) ∧ pictBack l st idx.toNat (idx - 2) = true then (false, 0)
      else if p = 6 ∧ q = 6 then (if ri.fmod 2 = 1 then (false, ri + 1) else (true, 1))
      else (true, if q = 6 then 1 else 0)
    have rest : ∀ σ, Sh σ → SX ⟨prog, w, KK w, mg, mb, S₀, av, A, callEnv (fdAt w 361) L 361⟩ σ ((bodyOf 28).drop 6) fun fl _ => fl = .ret (.br res.1 res.2) ∨ (fl = .next ∧ D.br res.1 res.2 = .none) := by
      let res2 : Bool × Int := if p = 6 ∧ q = 6 then (if ri.fmod 2 = 1 then (false, ri + 1) else (true, 1))
        else (true, if q = 6 then 1 else 0)
      have tail : ∀ σ, Sh σ → SX ⟨prog, w, KK w, mg, mb, S₀, av, A, callEnv (fdAt w 361) L 361⟩ σ ((bodyOf 28).drop 7) fun fl _ => fl = .ret (.br res2.1 res2.2) ∨ (fl = .next ∧ D.br res2.1 res2.2 = .none) := by
        rintro σ ⟨s1, s2, s3, s4, s5, s6, s7⟩
        show SX _ _ (Stmt.If _ _ _ _ :: _) _
        refine' SX.if1 ?y1 (fun h => ?y2) (fun h => ?y3)
        case y1 => walk_at "m t"
        case y2 =>
          simp only [Bool.and_true, Bool.and_eq_true, beq_iff_eq] at h
          have hr2 : res2 = if ri.fmod 2 = 1 then (false, ri + 1) else (true, 1) := if_pos h
          rw [hr2]
          refine' SX.if1 ?y4 (fun h' => ?y5) (fun h' => ?y6)
          case y4 => walk_at "m t"
          case y5 =>
            simp only [beq_iff_eq] at h'
            refine' SX.ret (d := .br false (ri + 1)) ?y7 (.inl ?y8)
            case y7 => walk_at "m e"
            rw [if_pos h']
          simp only [beq_eq_false_iff_ne, ne_eq] at h'
          refine' SX.ret (d := .br true 1) ?y9 (.inl ?y10)
          case y9 => walk_at "m e"
          rw [if_neg h']
        have h' : ¬ (p = 6 ∧ q = 6) := by
          rintro ⟨rfl, rfl⟩
          exact absurd h (by decide)
        have hr2 : res2 = (true, if q = 6 then 1 else 0) := if_neg h'
        rw [hr2]
        walk_at "m s"
        refine' SX.ret (d := .br true (if (q == 6) = true then 1 else 0)) ?y11 (.inl ?y12)
        case y11 => walk_at "m e"
        simp only [beq_iff_eq]
      rintro σ ⟨s1, s2, s3, s4, s5, s6, s7⟩
      show SX _ _ (Stmt.If _ _ _ _ :: _) _
      refine' SX.if1 ?z1 (fun h6 => ?z2) (fun h6 => ?z3)
      case z1 => walk_at "m t"
      case z3 =>
        have h' : ¬ ((p = 5 ∧ isPict cu = true) ∧ pictBack l st idx.toNat (idx - 2) = true) := by
          rintro ⟨⟨rfl, a⟩, _⟩
          have a' : (bis (tabAt 13) cu != 0) = true := a
          rw [a'] at h6
          exact absurd h6 (by decide)
        have hr : res = res2 := if_neg h'
        rw [hr]
        exact tail _ ⟨s1, s2, s3, s4, s5, s6, s7⟩
      simp only [Bool.and_true, Bool.and_eq_true, beq_iff_eq] at h6
      generalize hpb : pictBack l st idx.toNat (idx - 2) = pb
      have hres : res = if pb = true then (false, 0) else res2 := by
        rw [← hpb]
        by_cases hp : pictBack l st idx.toNat (idx - 2) = true
        · rw [if_pos hp]; exact if_pos ⟨h6, hp⟩
        · rw [if_neg hp]; exact if_neg (fun a => hp a.2)
      rw [hres]
      walk_at "m s"
      refine' SX.while_ (fun n σ => ∃ i, Sh σ ∧ Look σ "i" (.d (.int i)) ∧ i < idx ∧ i + 1 ≤ n ∧ pictBack l st n i = pb) idx.toNat ?st1p ?tu1p
      case st1p =>
        refine ⟨idx - 2, ⟨by walk_at "m look", by walk_at "m look", by walk_at "m look", by walk_at "m look", by walk_at "m look", by walk_at "m look", by walk_at "m look"⟩, by walk_at "m look", by omega, by omega, hpb⟩
      rintro n σ ⟨i, ⟨s1, s2, s3, s4, s5, s6, s7⟩, s8, i2, i3, i4⟩
      refine' ⟨_, SB.cmp (hm := ?m1p) ?m2p ?m3p CmpOK.geI, fun hc => ?m5, fun hc => ?m6p⟩
      case m1p => with_unfolding_all rfl
      case m2p => walk_at "m e"
      case m3p => walk_at "m e"
      case m6p =>
        simp only [decide_eq_false_iff_not] at hc
        have hpb0 : pb = false := by
          rw [← i4]
          cases n with
          | zero => rfl
          | succ k => unfold pictBack; rw [if_neg hc]
        rw [hpb0, if_neg (by decide)]
        exact SX.nil (tail _ ⟨s1, s2, s3, s4, s5, s6, s7⟩)
      simp only [decide_eq_true_eq] at hc
      have hi0 : 0 ≤ i := by omega
      have hil : i < l.length := by omega
      have hn : ∃ k, n = k + 1 := ⟨n - 1, by omega⟩
      obtain ⟨k, rfl⟩ := hn
      unfold pictBack at i4
      rw [if_pos hc] at i4
      walk_at "m s"
      walk_at "m s"
      refine' SX.if_ ?w1 (fun h7 => ?w2) (fun h7 => ?w3)
      case w1 => walk_at "m t"
      case w2 =>
        simp only [beq_iff_eq] at h7
        rw [if_pos h7] at i4
        refine' SX.augSub (a := i) (b := 1) ?n1p ?n2p ?n3p ?n4p
        case n1p => walk_at "m look"
        case n2p => walk_at "m e"
        case n3p => kernel_rfl
        refine SX.nil (SX.nil ⟨k, by omega, i - 1, ⟨by walk_at "m look", by walk_at "m look", by walk_at "m look", by walk_at "m look", by walk_at "m look", by walk_at "m look", by walk_at "m look"⟩, by walk_at "m look", by omega, by omega, i4⟩)
      simp only [beq_eq_false_iff_ne, ne_eq] at h7
      rw [if_neg h7] at i4
      refine' SX.if_ ?w4 (fun h8 => ?w5) (fun h8 => ?w6)
      case w4 => walk_at "m t"
      case w5 =>
        have hpb1 : pb = true := i4.symm.trans h8
        rw [hpb1, if_pos rfl]
        refine' SX.ret (d := .br false 0) ?w7 (.inl ?w8)
        case w7 => walk_at "m e"
        rfl
      have hpb0 : pb = false := i4.symm.trans h8
      refine' SX.brk ?w9
      rw [hpb0, if_neg (by decide)]
      exact SX.nil (tail _ ⟨by walk_at "m look", by walk_at "m look", by walk_at "m look", by walk_at "m look", by walk_at "m look", by walk_at "m look", by walk_at "m look"⟩)
    refine' SX.if1 ?t4 (fun h4 => ?e1) (fun h4 => ?e2)
    case t4 => walk_at "m t"
    case e2 =>
      have h4' : isCons cu = false := h4
      rw [if_neg (fun a => by have a1 := a.1; rw [h4'] at a1; cases a1)]
      exact rest _ ⟨by walk_at "m look", by walk_at "m look", by walk_at "m look", by walk_at "m look", by walk_at "m look", by walk_at "m look", by walk_at "m look"⟩
    have h4' : isCons cu = true := h4
    generalize hsk : skipExt l st idx.toNat (idx - 1) = sk
    walk_at "m s"
    refine' SX.while_ (fun n σ => ∃ i, Sh σ ∧ Look σ "i" (.d (.int i)) ∧ st - 1 ≤ i ∧ i < idx ∧ i + 1 ≤ n ∧ skipExt l st n i = sk) idx.toNat ?st1 ?tu1
    case st1 =>
      refine ⟨idx - 1, ⟨by walk_at "m look", by walk_at "m look", by walk_at "m look", by walk_at "m look", by walk_at "m look", by walk_at "m look", by walk_at "m look"⟩, by walk_at "m look", by omega, by omega, by omega, hsk⟩
    rintro n σ ⟨i, ⟨s1, s2, s3, s4, s5, s6, s7⟩, s8, i1, i2, i3, i4⟩
    refine' ⟨_, SB.boolOp (SBs.and_cons (SB.cmp (hm := ?kw1) ?kw2 ?kw3 CmpOK.geI) (fun hi => SBs.and_cons (b := isExt (at_ l i)) (b' := true) ?kw4 (fun _ => SBs.and_nil))), fun hc => ?kw5, fun hc => ?kw6⟩
    case kw1 => with_unfolding_all rfl
    case kw2 => walk_at "m e"
    case kw3 => walk_at "m e"
    case kw4 =>
      have hi' : st ≤ i := by simpa using hi
      have hi0 : 0 ≤ i := by omega
      have hil : i < l.length := by omega
      refine' SB.ofBool (hv := ?mm1) ?mm2
      case mm1 => with_unfolding_all (intro _; rfl)
      case mm2 => walk_at "m e"
    case kw5 =>
      simp only [Bool.and_true, Bool.and_eq_true, decide_eq_true_eq] at hc
      refine' SX.augSub (a := i) (b := 1) ?n1 ?n2 ?n3 ?n4
      case n1 => walk_at "m look"
      case n2 => walk_at "m e"
      case n3 => kernel_rfl
      have hn : ∃ k, n = k + 1 := ⟨n - 1, by omega⟩
      obtain ⟨k, rfl⟩ := hn
      unfold skipExt at i4
      rw [if_pos hc] at i4
      refine SX.nil ⟨k, by omega, i - 1, ⟨by walk_at "m look", by walk_at "m look", by walk_at "m look", by walk_at "m look", by walk_at "m look", by walk_at "m look", by walk_at "m look"⟩, by walk_at "m look", by omega, by omega, by omega, i4⟩
    simp only [Bool.and_true, Bool.and_eq_false_iff, decide_eq_false_iff_not] at hc
    have hsk' : sk = i := by
      rw [← i4]
      cases n with
      | zero => rfl
      | succ k =>
        unfold skipExt
        rw [if_neg]
        rintro ⟨a, b⟩
        rcases hc with hc | hc
        · exact hc a
        · rw [b] at hc; cases hc
    subst hsk'
    refine' SX.if1 (SB.boolOp (SBs.and_cons (SB.cmp (hm := ?u1) ?u2 ?u3 CmpOK.geI) (fun hi => SBs.and_cons (b := isLink (at_ l sk)) (b' := true) ?u4 (fun _ => SBs.and_nil)))) (fun h5 => ?u5) (fun h5 => ?u6)
    case u1 => with_unfolding_all rfl
    case u2 => walk_at "m e"
    case u3 => walk_at "m e"
    case u4 =>
      have hi' : st ≤ sk := by simpa using hi
      have hi0 : 0 ≤ sk := by omega
      have hil : sk < l.length := by omega
      refine' SB.ofBool (hv := ?uu1) ?uu2
      case uu1 => with_unfolding_all (intro _; rfl)
      case uu2 => walk_at "m e"
    case u5 =>
      simp only [Bool.and_true, Bool.and_eq_true, decide_eq_true_eq] at h5
      rw [if_pos ⟨h4', h5.1, h5.2⟩]
      refine' SX.ret (d := .br false 0) ?v1 (.inl ?v2)
      case v1 => walk_at "m e"
      rfl
    simp only [Bool.and_true, Bool.and_eq_false_iff, decide_eq_false_iff_not] at h5
    rw [if_neg (by
      rintro ⟨_, a, b⟩
      rcases h5 with h5 | h5
      · exact h5 a
      · rw [b] at h5; cases h5)]
    exact SX.nil (rest _ ⟨s1, s2, s3, s4, s5, s6, s7⟩)

/-- _should_break(.., start=start) -/
theorem sbk_fn (p q : Int) (l : List Nat) (idx ri st : Int) (h0 : 0 ≤ st) (h1 : st < idx) (h2 : idx < l.length) (hf : l.length < 1000000) :
    Fn prog w (KK w) mg mb 361 4 [.int p, .int q, .str (Sx l), .int idx, .int ri] [("start", .int st)] (.br (sbk p q l idx ri st).1 (sbk p q l idx ri st).2) := by
  refine Fn.of_body (n := 3) (look361 w) (data361 w) (body361 w) (plain361 w (.int p) (.int q) (.str (Sx l)) (.int idx) (.int ri) (.int st)) (code361 w) ?_ ?_
  · intro s av vs kvs T H r k
    obtain ⟨v, v', v2, v3, v4, rfl, r1, r2, r3, r4, r5⟩ := five r
    obtain ⟨k1, k2, rfl, k3, k4⟩ := k
    obtain rfl := k4
    exact ⟨_, kp_binds T.kin (fun S => bind361 w S v v' v2 v3 v4 k1), v, _, rfl, r1, v', _, rfl, r2, v2, _, rfl, r3, v3, _, rfl, r4, v4, _, rfl, r5, k1, _, rfl, k3, rfl⟩
  · intro S₀ av A L R
    exact sbk_run p q l idx ri st h0 h1 h2 hf R
/-- _should_break(..), start by its default -/
theorem sbk_fn0 (p q : Int) (l : List Nat) (idx ri : Int) (h1 : 0 < idx) (h2 : idx < l.length) (hf : l.length < 1000000) :
    Fn prog w (KK w) mg mb 361 4 [.int p, .int q, .str (Sx l), .int idx, .int ri] [] (.br (sbk p q l idx ri 0).1 (sbk p q l idx ri 0).2) := by
  refine Fn.of_body (n := 3) (look361 w) (data361 w) (body361 w) (plain361 w (.int p) (.int q) (.str (Sx l)) (.int idx) (.int ri) (.int 0)) (code361 w) ?_ ?_
  · intro s av vs kvs T H r k
    obtain ⟨v, v', v2, v3, v4, rfl, r1, r2, r3, r4, r5⟩ := five r
    obtain rfl := k
    exact ⟨_, kp_binds T.kin (fun S => bind361d w S v v' v2 v3 v4), v, _, rfl, r1, v', _, rfl, r2, v2, _, rfl, r3, v3, _, rfl, r4, v4, _, rfl, r5, _, _, rfl, ⟨_, rfl⟩, rfl⟩
  · intro S₀ av A L R
    exact sbk_run p q l idx ri 0 (by omega) h1 h2 hf R
end
end Mine

open PySem PySem.W PyProof.Rows PySem.Calls
set_option Elab.async false
set_option linter.unusedVariables false
set_option maxRecDepth 100000
namespace Mine
/-! ## for loops over ints -/
/-- a heap cut down -/
def only (h : Heap) (p : Addr → Bool) : Heap := ⟨h.objs.mapIdx fun i o => if p i then o else { o with data := .freed }, h.life⟩
theorem only_get (h : Heap) (p : Addr → Bool) (a : Addr) : (only h p).get? a = if p a then h.get? a else none := by
  unfold only Heap.get?
  simp only [Array.getElem?_mapIdx]
  cases q : h.objs[a]? with
  | none => simp
  | some o =>
    simp only [Option.map_some]
    by_cases e : p a = true
    · rw [if_pos e, if_pos e]
    · rw [if_neg e, if_neg e]

/-- what a frame may change -/
def Mut (env : Env) (σ : Sto) (a : Addr) : Prop := a = env.locals ∨ (∃ x, env.cells.lookup x = some a) ∨ ∃ x l, σ x = some (.own a l)

section
variable {K : Frag} {mg mb : Str → Option Value} {S₀ S' : Shared} {av av' own : List Addr} {env : Env} {σ : Sto} {s s' : Shared}
theorem Good.mut_none (G : Good K mg mb S₀ av own env σ s) {a : Addr} (h : Mut env σ a) : S₀.heap.get? a = none := by
  rcases h with rfl | ⟨x, h⟩ | ⟨x, l, h⟩
  · exact G.lnew
  · exact (G.cells x a h).2.2.1
  · exact (G.ownl x a l h).2.1
theorem Good.mut_own (G : Good K mg mb S₀ av own env σ s) {a : Addr} (h : Mut env σ a) : a ∈ own := by
  rcases h with rfl | ⟨x, h⟩ | ⟨x, l, h⟩
  · exact G.lown
  · exact (G.cells x a h).1
  · rcases (G.vars x _ h).1 with k | k | k
    · obtain ⟨m, _, hm⟩ := G.ns
      obtain ⟨u, _, _, r, _⟩ := hm x _ h k
      exact r
    · obtain ⟨c, u, _, _, _, r, _⟩ := G.cellv x _ h (.inl k)
      exact r
    · obtain ⟨c, u, _, _, _, r, _⟩ := G.cellv x _ h (.inr k)
      exact r
theorem Good.base (G : Good K mg mb S₀ av own env σ s) (hst : Stat K mg mb S'.heap) (hkp : Kp S'.heap s.heap) (hm : ∀ a, Mut env σ a → S'.heap.get? a = none) (hav : ∀ a ∈ av', a ∈ own)
    (hg : S'.gens = S₀.gens) (ho : S'.os = S₀.os) : Good K mg mb S' av' own env σ s :=
  { stat := hst, keep := hkp, hid := G.hid, av := hav, lown := G.lown, lnew := hm _ (.inl rfl), ns := G.ns,
    cells := fun x c h => let ⟨a, b, _, d⟩ := G.cells x c h; ⟨a, b, hm _ (.inr (.inl ⟨x, h⟩)), d⟩, cellv := G.cellv, cinj := G.cinj, chas := G.chas, vars := G.vars,
    ownl := fun x a l h => let ⟨d, _, e⟩ := G.ownl x a l h; ⟨d, hm _ (.inr (.inr ⟨x, l, h⟩)), e⟩, kind := G.kind, glob := G.glob, blt := G.blt,
    gens := by rw [hg]; exact G.gens, os := by rw [ho]; exact G.os }
theorem RepV.but {h h' : Heap} {own : List Addr} {it : Addr} (hit : it ∈ own) (hk : ∀ b o, b ≠ it → h.get? b = some o → h'.get? b = some o) :
    ∀ {v : V} {u : Value}, (∀ a l, v = .own a l → a ≠ it) → RepV h own v u → RepV h' own v u
  | .d d, _, _, r => Rep.mono (own := own) (own' := own) (fun b o hb => hk b o fun e => hb (e ▸ hit)) (.same _ _) r
  | .own a l, _, hn, ⟨e, m, vs, n, ho, hr⟩ => ⟨e, m, vs, n, hk _ _ (hn a l rfl) ho, Reps.mono (own := own) (own' := own) (fun b o hb => hk b o fun e => hb (e ▸ hit)) (.same _ _) hr⟩
theorem Good.but (G : Good K mg mb S₀ av own env σ s) {it : Addr} (hit : it ∈ own) (hm : ¬ Mut env σ it) (hS : S₀.heap.get? it = none)
    (hk : ∀ b o, b ≠ it → s.heap.get? b = some o → s'.heap.get? b = some o) (hal : ∃ o, s'.heap.get? it = some o) (hg : s'.gens = s.gens) (ho : s'.os = s.os) : Good K mg mb S₀ av own env σ s' := by
  obtain ⟨m, hn, hv⟩ := G.ns
  have hl : env.locals ≠ it := fun e => hm (.inl e.symm)
  have hc : ∀ x c, env.cells.lookup x = some c → c ≠ it := fun x c h e => hm (.inr (.inl ⟨x, e ▸ h⟩))
  have hw : ∀ x a l, σ x = some (.own a l) → a ≠ it := fun x a l h e => hm (.inr (.inr ⟨x, l, e ▸ h⟩))
  exact { stat := G.stat, keep := fun b o h => hk b o (fun e => by rw [e, hS] at h; cases h) (G.keep b o h),
          hid := fun b m => ⟨(G.hid b m).1, by
            by_cases e : b = it
            · rw [e]; exact hal
            · obtain ⟨o, q⟩ := (G.hid b m).2; exact ⟨o, hk b o e q⟩⟩, av := G.av, lown := G.lown, lnew := G.lnew,
          ns := ⟨m, hn.at fun o q => hk _ o hl q, fun x v h1 h2 => (hv x v h1 h2).imp fun u hu => ⟨hu.1, hu.2.but hit hk fun a l e => hw x a l (e ▸ h1)⟩⟩,
          cells := fun x c h => let ⟨a, b, n, u, o, hu⟩ := G.cells x c h; ⟨a, b, n, u, o, hk _ _ (hc x c h) hu.1, hu.2⟩,
          cellv := fun x v h1 h2 => let ⟨c, u, a, ⟨o, b⟩, r⟩ := G.cellv x v h1 h2; ⟨c, u, a, ⟨o, hk _ _ (hc x c a) b.1, b.2⟩, r.but hit hk fun a l e => hw x a l (e ▸ h1)⟩,
          cinj := G.cinj, chas := G.chas, vars := G.vars, ownl := G.ownl, kind := G.kind, glob := G.glob, blt := G.blt,
          gens := by rw [hg]; exact G.gens, os := by rw [ho]; exact G.os }
theorem RepV.drop {h h' : Heap} {own : List Addr} {it : Addr} (hk : ∀ b o, b ≠ it → h.get? b = some o → h'.get? b = some o) (hit : it ∈ own) :
    ∀ {v : V} {u : Value}, (∀ a l, v = .own a l → a ≠ it) → RepV h own v u → RepV h' (own.filter (· ≠ it)) v u
  | .d d, _, _, r => Rep.mono (own := own) (own' := own.filter (· ≠ it)) (fun b o hb => hk b o fun e => hb (e ▸ hit)) (fun a m => .inl ((List.mem_filter.mp m).1)) r
  | .own a l, _, hn, ⟨e, m, vs, n, ho, hr⟩ => ⟨e, List.mem_filter.mpr ⟨m, by simpa using hn a l rfl⟩, vs, n, hk _ _ (hn a l rfl) ho, Reps.mono (own := own) (own' := own.filter (· ≠ it)) (fun b o hb => hk b o fun e => hb (e ▸ hit)) (fun a m => .inl ((List.mem_filter.mp m).1)) hr⟩
/-- an address that is hidden no more -/
theorem Good.drop (G : Good K mg mb S₀ av own env σ s) {it : Addr} (hit : it ∈ own) (hm : ¬ Mut env σ it) (hS : S₀.heap.get? it = none) (hav : it ∉ av)
    (hk : ∀ b o, b ≠ it → s.heap.get? b = some o → s'.heap.get? b = some o) (hg : s'.gens = s.gens) (ho : s'.os = s.os) : Good K mg mb S₀ av (own.filter (· ≠ it)) env σ s' := by
  obtain ⟨m, hn, hv⟩ := G.ns
  have hl : env.locals ≠ it := fun e => hm (.inl e.symm)
  have hc : ∀ x c, env.cells.lookup x = some c → c ≠ it := fun x c h e => hm (.inr (.inl ⟨x, e ▸ h⟩))
  have hw : ∀ x a l, σ x = some (.own a l) → a ≠ it := fun x a l h e => hm (.inr (.inr ⟨x, l, e ▸ h⟩))
  have hf : ∀ {a}, a ∈ own → a ≠ it → a ∈ own.filter (· ≠ it) := fun h h' => List.mem_filter.mpr ⟨h, by simpa using h'⟩
  exact { stat := G.stat, keep := fun b o h => hk b o (fun e => by rw [e, hS] at h; cases h) (G.keep b o h),
          hid := fun b m => by
            obtain ⟨h1, h2⟩ := List.mem_filter.mp m
            obtain ⟨o, q⟩ := (G.hid b h1).2
            exact ⟨(G.hid b h1).1, o, hk b o (by simpa using h2) q⟩
          av := fun a h => hf (G.av a h) fun e => hav (e ▸ h), lown := hf G.lown hl, lnew := G.lnew,
          ns := ⟨m, hn.at fun o q => hk _ o hl q, fun x v h1 h2 => (hv x v h1 h2).imp fun u hu => ⟨hu.1, hu.2.drop hk hit fun a l e => hw x a l (e ▸ h1)⟩⟩,
          cells := fun x c h => let ⟨a, b, n, u, o, hu⟩ := G.cells x c h; ⟨hf a (hc x c h), b, n, u, o, hk _ _ (hc x c h) hu.1, hu.2⟩,
          cellv := fun x v h1 h2 => let ⟨c, u, a, ⟨o, b⟩, r⟩ := G.cellv x v h1 h2; ⟨c, u, a, ⟨o, hk _ _ (hc x c a) b.1, b.2⟩, r.drop hk hit fun a l e => hw x a l (e ▸ h1)⟩,
          cinj := G.cinj, chas := G.chas, vars := G.vars, ownl := G.ownl, kind := G.kind, glob := G.glob, blt := G.blt,
          gens := by rw [hg]; exact G.gens, os := by rw [ho]; exact G.os }
theorem RepV.more {h h' : Heap} {own : List Addr} {it : Addr} (hn : h.get? it = none) (hk : Kp h h') : ∀ {v : V} {u : Value}, RepV h own v u → RepV h' (it :: own) v u
  | .d d, _, r => Rep.mono (own := own) (own' := it :: own) (fun b o _ => hk b o) (fun a m => by rcases List.mem_cons.mp m with rfl | m; exact .inr hn; exact .inl m) r
  | .own a l, _, ⟨e, m, vs, n, ho, hr⟩ => ⟨e, List.mem_cons_of_mem _ m, vs, n, hk _ _ ho, Reps.mono (own := own) (own' := it :: own) (fun b o _ => hk b o) (fun a m => by rcases List.mem_cons.mp m with rfl | m; exact .inr hn; exact .inl m) hr⟩
theorem Good.more (G : Good K mg mb S₀ av own env σ s) (x : Ext s s') {it : Addr} (hn : s.heap.get? it = none) (hal : ∃ o, s'.heap.get? it = some o) : Good K mg mb S₀ av (it :: own) env σ s' := by
  have G' := G.ext x
  obtain ⟨m, hm, hv⟩ := G.ns
  exact { stat := G'.stat, keep := G'.keep, hid := fun b m => by
            rcases List.mem_cons.mp m with rfl | m
            · refine ⟨?_, hal⟩
              cases q : K.lookup b with
              | none => rfl
              | some o => rw [G.stat'.kin b o q] at hn; cases hn
            · exact G'.hid b m
          av := fun a h => List.mem_cons_of_mem _ (G.av a h), lown := List.mem_cons_of_mem _ G.lown, lnew := G.lnew,
          ns := ⟨m, hm.keeps x.keep, fun y v h1 h2 => (hv y v h1 h2).imp fun u hu => ⟨hu.1, hu.2.more hn x.keep⟩⟩,
          cells := fun y c h => let ⟨a, r⟩ := G'.cells y c h; ⟨List.mem_cons_of_mem _ a, r⟩,
          cellv := fun y v h1 h2 => let ⟨c, u, a, b, r⟩ := G.cellv y v h1 h2; ⟨c, u, a, b.keeps x.keep, r.more hn x.keep⟩,
          cinj := G.cinj, chas := G.chas, vars := G.vars, ownl := G.ownl, kind := G.kind, glob := G.glob, blt := G.blt, gens := G'.gens, os := G'.os }
end

/-- an iterator over ints -/
structure Gives (c : Cx) (H : Heap) (own : List Addr) (it : Addr) (St : Nat → Obj → Prop) (l : List Int) : Prop where
  item : ∀ k i (s : Shared) (Q : Option Value → Shared → Prop) E, l[k]? = some i → (∀ b o, b ∉ own → b ≠ it → H.get? b = some o → s.heap.get? b = some o) → (∃ o, s.heap.get? it = some o ∧ St k o) →
    (∀ t s', (∃ o, s'.heap.get? it = some o ∧ St (k + 1) o) → (∀ b o, b ≠ it → s.heap.get? b = some o → s'.heap.get? b = some o) → s'.gens = s.gens → s'.os = s.os → Q (some (.int i t)) s') → c.wp (pyNext (.ref it)) Q E s
  last : ∀ (s : Shared) (Q : Option Value → Shared → Prop) E, (∀ b o, b ∉ own → b ≠ it → H.get? b = some o → s.heap.get? b = some o) → (∃ o, s.heap.get? it = some o ∧ St l.length o) →
    (∀ s', (∀ b o, b ≠ it → s.heap.get? b = some o → s'.heap.get? b = some o) → s'.gens = s.gens → s'.os = s.os → Q none s') → c.wp (pyNext (.ref it)) Q E s
  self : ∀ k (s : Shared) (Q : Value → Shared → Prop) E, (∃ o, s.heap.get? it = some o ∧ St k o) → Q (.ref it) s → c.wp (pyIter (.ref it)) Q E s
/-- an expression whose iterator gives ints -/
def SI (c : Cx) (σ : Sto) (e : Expr) (l : List Int) : Prop :=
  ∀ own s (Q : Value → Shared → Prop) E, c.G own σ s → (∀ it s' St, Ext s s' → s.heap.get? it = none → (∃ o, s'.heap.get? it = some o ∧ St 0 o) → Gives c s'.heap own it St l → Q (.ref it) s') →
    c.wp (eval e c.env) (fun x s₁ => c.wp (pyIter x) Q E s₁) E s

/-- the loop's state -/
structure Lp (c : Cx) (H : Heap) (p : Addr → Bool) (it : Addr) (St : Nat → Obj → Prop) (k : Nat) (own : List Addr) (σ : Sto) (s : Shared) : Prop where
  G : c.G own σ s
  mem : it ∈ own
  fix : ∀ b o, p b = true → b ≠ it → H.get? b = some o → s.heap.get? b = some o
  st : ∃ o, s.heap.get? it = some o ∧ St k o
  mut_ : ∀ a, Mut c.env σ a → p a = false

section
variable {c : Cx} {σ : Sto} {P : FD → Sto → Prop} {rest : List Stmt}
theorem SX.for_ {x px e body pos l} (hi : SI c σ e l) (hA : Room c.A 0) (hx : varOk c.env x = true) (I : Nat → Sto → Prop) (h0 : I 0 σ)
    (turn : ∀ k i σ, l[k]? = some i → I k σ → ∀ S₁ av₁, SX { c with S₀ := S₁, av := av₁ } (upd σ x (.d (.int i))) body fun f σ' => match f with
      | .next => I (k + 1) σ' | .cont => I (k + 1) σ' | .brk => SX c σ' rest P | .ret d => P (.ret d) σ')
    (after : ∀ σ, I l.length σ → SX c σ rest P)
    (hs : ∀ x, foldedSetIterable e c.env x = pure x := by intro _; rfl) :
    SX c σ (.For (.Name x px) e body [] pos :: rest) P := by
  intro own₀ s₀ Q E G₀ hq
  refine wpAny_execs_cons (wpAny_For (hi own₀ s₀ _ _ G₀ fun it s₁ St x₁ hnew hst g => ?_) hs)
  -- what stays
  let p : Addr → Bool := fun a => (decide (a ∉ own₀) && (s₁.heap.get? a).isSome) || (c.S₀.heap.get? a).isSome || a == it
  have pit : p it = true := by simp [p]
  have pS : ∀ a o, c.S₀.heap.get? a = some o → p a = true := fun a o h => by simp [p, h]
  have pO : ∀ a o, a ∉ own₀ → s₁.heap.get? a = some o → p a = true := fun a o h h' => by simp [p, h, h']
  have keep1 : Kp c.S₀.heap s₁.heap := (G₀.ext x₁).keep
  have pH : ∀ a, p a = true → ∃ o, s₁.heap.get? a = some o := fun a h => by
    simp only [p, Bool.or_eq_true, Bool.and_eq_true, beq_iff_eq, Option.isSome_iff_exists] at h
    rcases h with (⟨_, h⟩ | ⟨o, h⟩) | rfl
    · exact h
    · exact ⟨o, keep1 _ _ h⟩
    · exact hst.imp fun o h => h.1
  have hSit : c.S₀.heap.get? it = none := by
    cases q : c.S₀.heap.get? it with
    | none => rfl
    | some o => rw [G₀.keep _ _ q] at hnew; cases hnew
  have base : Lp c s₁.heap p it St 0 (it :: own₀) σ s₁ := {
    G := G₀.more x₁ hnew (hst.imp fun o h => h.1), mem := List.mem_cons_self .., fix := fun b o _ _ h => h, st := hst,
    mut_ := fun a h => by
      have h1 := G₀.mut_own h
      have h2 := G₀.mut_none h
      have h3 : a ≠ it := fun e => by
        obtain ⟨o, q⟩ := (G₀.hid a h1).2
        rw [e, hnew] at q; cases q
      simp [p, h1, h2, h3] }
  have mit : ∀ {k own σ s}, Lp c s₁.heap p it St k own σ s → ¬ Mut c.env σ it := fun L m => by have := L.mut_ it m; rw [pit] at this; cases this
  refine codeAny_forLoop (fun m s => ∃ k own σ, m = l.length - k + 1 ∧ k ≤ l.length ∧ Lp c s₁.heap p it St k own σ s ∧ I k σ) ?_ (l.length + 1) ⟨0, it :: own₀, σ, rfl, Nat.zero_le _, base, h0⟩
  rintro m s ⟨k, own, σ', rfl, hk, L, hI⟩
  have stay : ∀ b o, b ∉ own₀ → b ≠ it → s₁.heap.get? b = some o → s.heap.get? b = some o := fun b o h h' q => L.fix b o (pO b o h q) h' q
  by_cases hkl : k < l.length
  · have hik : l[k]? = some l[k] := List.getElem?_eq_getElem hkl
    refine g.item k l[k] s _ _ hik stay L.st fun t s₂ st₂ keep₂ g₂ o₂ => ?_
    have G₂ : c.G own σ' s₂ := L.G.but L.mem (mit L) hSit keep₂ (st₂.imp fun o h => h.1) g₂ o₂
    let S₁ : Shared := { c.S₀ with heap := only s₂.heap p }
    have keepS : Kp c.S₀.heap S₁.heap := fun b o h => by
      show (only s₂.heap p).get? b = some o
      rw [only_get, if_pos (pS b o h)]
      exact G₂.keep b o h
    have G₃ : Good c.K c.mg c.mb S₁ (it :: c.av) own c.env σ' s₂ := G₂.base (G₂.stat.keeps keepS) (fun b o h => by
        have h' : (only s₂.heap p).get? b = some o := h
        rw [only_get] at h'
        split at h'
        · exact h'
        · cases h') (fun a h => by
        show (only s₂.heap p).get? a = none
        rw [only_get, if_neg (by rw [L.mut_ a h]; decide)]) (fun a h => by
        rcases List.mem_cons.mp h with rfl | h
        · exact L.mem
        · exact L.G.av a h) rfl rfl
    refine wpAny_assign_Name (Good.storeD (c := { c with S₀ := S₁, av := it :: c.av }) G₃ hx (d := .int l[k]) ⟨t, rfl⟩ fun s₃ G₄ => ?_)
    refine turn k l[k] σ' hik hI S₁ (it :: c.av) own s₃ _ _ G₄ fun fl fd σ₂ own₂ s₄ hP G₅ hf => ?_
    have keepS4 : Kp S₁.heap s₄.heap := G₅.keep
    have G₆ : c.G own₂ σ₂ s₄ := G₅.base (av' := c.av) L.G.stat (fun b o h => keepS4 b o (keepS b o h)) (fun a h => by
        have h' : S₁.heap.get? a = none := G₅.mut_none h
        cases q : c.S₀.heap.get? a with
        | none => rfl
        | some o => rw [keepS a o q] at h'; cases h') (fun a h => G₅.av a (List.mem_cons_of_mem _ h)) rfl rfl
    have L₂ : Lp c s₁.heap p it St (k + 1) own₂ σ₂ s₄ := {
      G := G₆, mem := G₅.av it (List.mem_cons_self ..)
      fix := fun b o hp hb h => keepS4 b o (by
        show (only s₂.heap p).get? b = some o
        rw [only_get, if_pos hp]
        exact keep₂ b o hb (L.fix b o hp hb h))
      st := by
        obtain ⟨o, h, h'⟩ := st₂
        exact ⟨o, keepS4 it o (by
          show (only s₂.heap p).get? it = some o
          rw [only_get, if_pos pit]; exact h), h'⟩
      mut_ := fun a h => by
        have h' : (only s₂.heap p).get? a = none := G₅.mut_none h
        rw [only_get] at h'
        cases q : p a with
        | false => rfl
        | true =>
          rw [if_pos q] at h'
          obtain ⟨o, ho⟩ := pH a q
          by_cases e : a = it
          · obtain ⟨o', h1, _⟩ := st₂
            rw [e, h1] at h'; cases h'
          · rw [keep₂ a o e (L.fix a o q e ho)] at h'; cases h' }
    cases fd with
    | next => cases hf; exact ⟨l.length - (k + 1) + 1, by omega, k + 1, own₂, σ₂, rfl, hkl, L₂, hP⟩
    | cont => cases hf; exact ⟨l.length - (k + 1) + 1, by omega, k + 1, own₂, σ₂, rfl, hkl, L₂, hP⟩
    | brk => cases hf; exact hP own₂ s₄ Q E G₆ hq
    | ret d => obtain ⟨v, rfl, r⟩ := hf; exact hq _ (.ret d) _ _ _ hP G₆ ⟨v, rfl, r⟩
  · have hkl' : k = l.length := by omega
    subst hkl'
    refine g.last s _ _ stay L.st fun s₂ keep₂ g₂ o₂ => ?_
    have G₂ := L.G.drop L.mem (mit L) hSit (fun h => by
      obtain ⟨o, q⟩ := (G₀.hid it (G₀.av it h)).2
      rw [hnew] at q; cases q) keep₂ g₂ o₂
    exact wpAny_execs_nil (after σ' hI _ s₂ Q E G₂ hq)
end
end Mine

open PySem PySem.W PyProof.Rows PySem.Calls
set_option Elab.async false
set_option linter.unusedVariables false
set_option linter.unusedSimpArgs false
set_option maxRecDepth 100000
namespace Mine
/-! ## the lines of the walk -/
local macro_rules | `(tactic| walk_at "m look") => `(tactic| (repeat' (first | with_reducible assumption | with_reducible exact Look.here | (with_reducible refine' Look.there ?_ ?_; kernel_rfl))))
local macro_rules | `(tactic| walk_at "m blt") => `(tactic| (refine' bltOk.mk' ?_ ?_ ?_ ?_ ?_ <;> kernel_rfl))
local macro_rules | `(tactic| walk_at "m side") => `(tactic| first | with_reducible assumption | (with_reducible exact rfl) | omega | (simp only [List.length_map, List.length_cons, List.length_nil, List.length_append]; omega) | decide)
local macro_rules | `(tactic| walk_at "m b") => `(tactic| with_reducible first
  | exact BinOK.addI | exact BinOK.subI | (refine' BinOK.modI ?_; walk_at "m side") | (refine' BinOK.divI ?_ ?_ <;> walk_at "m side"))
local macro_rules | `(tactic| walk_at "m c") => `(tactic| with_reducible first
  | exact CmpOK.eqI | exact CmpOK.neI | exact CmpOK.ltI | exact CmpOK.leI | exact CmpOK.gtI | exact CmpOK.geI | exact CmpOK.eqS | exact CmpOK.neS)
local macro_rules | `(tactic| walk_at "m e") => `(tactic| with_reducible first
  | exact SE.int | exact SE.str | exact SE.bool | exact SE.none
  | (refine' SE.name ?k1; (case k1 => walk_at "m look"))
  | (refine' SE.bin ?k1 ?k2 ?k3; (case k1 => walk_at "m e"); (case k2 => walk_at "m e"); (case k3 => walk_at "m b"))
  | (refine' SE.cmp (hm := ?k4) ?k1 ?k2 ?k3; (case k1 => walk_at "m e"); (case k2 => walk_at "m e"); (case k3 => walk_at "m c"); (case k4 => with_unfolding_all rfl))
  | (refine' SE.lenT ?k1 ?k2 ?k3 ?k4; (case k1 => walk_at "m blt"); (case k2 => with_unfolding_all (intro _; rfl)); (case k3 => walk_at "m e"); (case k4 => walk_at "m side"))
  | (refine' SE.lenL ?k1 ?k2 ?k3 ?k4; (case k1 => walk_at "m blt"); (case k2 => with_unfolding_all (intro _; rfl)); (case k3 => walk_at "m e"); (case k4 => walk_at "m side"))
  | (refine' SE.lenS ?k1 ?k2 ?k3 ?k4; (case k1 => walk_at "m blt"); (case k2 => with_unfolding_all (intro _; rfl)); (case k3 => walk_at "m e"); (case k4 => walk_at "m side"))
  | fail "m e")
local macro_rules | `(tactic| walk_at "m t") => `(tactic| with_reducible first
  | (refine' SB.cmp (hm := ?k4) ?k1 ?k2 ?k3; (case k1 => walk_at "m e"); (case k2 => walk_at "m e"); (case k3 => walk_at "m c"); (case k4 => with_unfolding_all rfl))
  | (refine' SB.not ?k1; (case k1 => walk_at "m t"))
  | fail "m t")
/-- one statement -/
local macro_rules | `(tactic| walk_at "m s") => `(tactic| with_reducible first
  | refine' SX.doc ?_
  | (refine' SX.assign (hs := ?k3) ?k1 ?k2 ?k4; (case k1 => walk_at "m e"); (case k2 => kernel_rfl); (case k3 => with_unfolding_all rfl))
  | fail "m s")

local macro_rules | `(tactic| walk_at "m room") => `(tactic| first | with_reducible assumption | exact Room.le (by assumption) (by decide))
local macro_rules | `(tactic| walk_at "m tab") => `(tactic| with_reducible first
  | (refine' SE.tGRAPHEME_CONTROL ?k0 ?k1; (case k0 => exact rfl); (case k1 => kernel_rfl))
  | (refine' SE.tGRAPHEME_EXTEND ?k0 ?k1; (case k0 => exact rfl); (case k1 => kernel_rfl))
  | (refine' SE.tGRAPHEME_REGIONAL_INDICATOR ?k0 ?k1; (case k0 => exact rfl); (case k1 => kernel_rfl))
  | (refine' SE.tGRAPHEME_PREPEND ?k0 ?k1; (case k0 => exact rfl); (case k1 => kernel_rfl))
  | (refine' SE.tGRAPHEME_SPACINGMARK ?k0 ?k1; (case k0 => exact rfl); (case k1 => kernel_rfl))
  | (refine' SE.tGRAPHEME_L ?k0 ?k1; (case k0 => exact rfl); (case k1 => kernel_rfl))
  | (refine' SE.tGRAPHEME_V ?k0 ?k1; (case k0 => exact rfl); (case k1 => kernel_rfl))
  | (refine' SE.tGRAPHEME_T ?k0 ?k1; (case k0 => exact rfl); (case k1 => kernel_rfl))
  | (refine' SE.tGRAPHEME_LV ?k0 ?k1; (case k0 => exact rfl); (case k1 => kernel_rfl))
  | (refine' SE.tGRAPHEME_LVT ?k0 ?k1; (case k0 => exact rfl); (case k1 => kernel_rfl))
  | (refine' SE.tEXTENDED_PICTOGRAPHIC ?k0 ?k1; (case k0 => exact rfl); (case k1 => kernel_rfl))
  | (refine' SE.tINCB_LINKER ?k0 ?k1; (case k0 => exact rfl); (case k1 => kernel_rfl))
  | (refine' SE.tINCB_CONSONANT ?k0 ?k1; (case k0 => exact rfl); (case k1 => kernel_rfl))
  | (refine' SE.tINCB_EXTEND ?k0 ?k1; (case k0 => exact rfl); (case k1 => kernel_rfl)))
local macro_rules | `(tactic| walk_at "m gcb") => `(tactic| with_reducible first
  | (refine' SE.gOTHER ?k0 ?k1; (case k0 => exact rfl); (case k1 => kernel_rfl))
  | (refine' SE.gCR ?k0 ?k1; (case k0 => exact rfl); (case k1 => kernel_rfl))
  | (refine' SE.gLF ?k0 ?k1; (case k0 => exact rfl); (case k1 => kernel_rfl))
  | (refine' SE.gCONTROL ?k0 ?k1; (case k0 => exact rfl); (case k1 => kernel_rfl))
  | (refine' SE.gEXTEND ?k0 ?k1; (case k0 => exact rfl); (case k1 => kernel_rfl))
  | (refine' SE.gZWJ ?k0 ?k1; (case k0 => exact rfl); (case k1 => kernel_rfl))
  | (refine' SE.gREGIONAL_INDICATOR ?k0 ?k1; (case k0 => exact rfl); (case k1 => kernel_rfl))
  | (refine' SE.gPREPEND ?k0 ?k1; (case k0 => exact rfl); (case k1 => kernel_rfl))
  | (refine' SE.gSPACING_MARK ?k0 ?k1; (case k0 => exact rfl); (case k1 => kernel_rfl))
  | (refine' SE.gL ?k0 ?k1; (case k0 => exact rfl); (case k1 => kernel_rfl))
  | (refine' SE.gV ?k0 ?k1; (case k0 => exact rfl); (case k1 => kernel_rfl))
  | (refine' SE.gT ?k0 ?k1; (case k0 => exact rfl); (case k1 => kernel_rfl))
  | (refine' SE.gLV ?k0 ?k1; (case k0 => exact rfl); (case k1 => kernel_rfl))
  | (refine' SE.gLVT ?k0 ?k1; (case k0 => exact rfl); (case k1 => kernel_rfl)))
local macro_rules | `(tactic| walk_at "m tabside") => `(tactic| with_reducible first | exact tabNe3 | exact tabLt3 | exact tabNe4 | exact tabLt4 | exact tabNe5 | exact tabLt5 | exact tabNe6 | exact tabLt6 | exact tabNe7 | exact tabLt7 | exact tabNe8 | exact tabLt8 | exact tabNe9 | exact tabLt9 | exact tabNe10 | exact tabLt10 | exact tabNe11 | exact tabLt11 | exact tabNe12 | exact tabLt12 | exact tabNe13 | exact tabLt13 | exact tabNe14 | exact tabLt14 | exact tabNe15 | exact tabLt15 | exact tabNe16 | exact tabLt16)

local macro_rules | `(tactic| walk_at "m e") => `(tactic| with_reducible first
  | walk_at "m gcb"
  | (refine' SE.bis ?k0 ?k1 ?k2 ?k3 ?k4 ?k5 ?k6 ?k7; (case k0 => exact rfl); (case k1 => walk_at "m room"); (case k2 => kernel_rfl); (case k3 => with_unfolding_all (intro _; rfl)); (case k4 => walk_at "m e"); (case k5 => walk_at "m tab"); (case k6 => walk_at "m tabside"); (case k7 => walk_at "m tabside"))
  | fail "m e f")
local macro_rules | `(tactic| walk_at "m t") => `(tactic| with_reducible first | (refine' SB.ofInt (hv := ?k2) ?k1; (case k2 => with_unfolding_all (intro _; rfl)); (case k1 => walk_at "m e")) | fail "m t i")

local macro_rules | `(tactic| walk_at "m fn1") => `(tactic| with_reducible first
  | (refine' SE.gcb ?k0 ?k1 ?k2 ?k3 ?k4; (case k0 => exact rfl); (case k1 => walk_at "m room"); (case k2 => kernel_rfl); (case k3 => with_unfolding_all (intro _; rfl)); (case k4 => walk_at "m e"))
  | (refine' SE.pict ?k0 ?k1 ?k2 ?k3 ?k4; (case k0 => exact rfl); (case k1 => walk_at "m room"); (case k2 => kernel_rfl); (case k3 => with_unfolding_all (intro _; rfl)); (case k4 => walk_at "m e"))
  | (refine' SE.link ?k0 ?k1 ?k2 ?k3 ?k4; (case k0 => exact rfl); (case k1 => walk_at "m room"); (case k2 => kernel_rfl); (case k3 => with_unfolding_all (intro _; rfl)); (case k4 => walk_at "m e"))
  | (refine' SE.cons ?k0 ?k1 ?k2 ?k3 ?k4; (case k0 => exact rfl); (case k1 => walk_at "m room"); (case k2 => kernel_rfl); (case k3 => with_unfolding_all (intro _; rfl)); (case k4 => walk_at "m e"))
  | (refine' SE.ext ?k0 ?k1 ?k2 ?k3 ?k4; (case k0 => exact rfl); (case k1 => walk_at "m room"); (case k2 => kernel_rfl); (case k3 => with_unfolding_all (intro _; rfl)); (case k4 => walk_at "m e"))
  | fail "m fn1")
local macro_rules | `(tactic| walk_at "m es") => `(tactic| with_reducible first
  | exact SEs.nil
  | (refine' SEs.cons ?k1 ?k2; (case k1 => walk_at "m e"); (case k2 => walk_at "m es"))
  | fail "m es")
local macro_rules | `(tactic| walk_at "m e") => `(tactic| with_reducible first
  | (refine' SE.tuple (hst := ?k2) ?k1 ?k3; (case k1 => walk_at "m es"); (case k2 => with_unfolding_all rfl); (case k3 => with_unfolding_all (show (_ : Nat) ≤ _; decide)))
  | walk_at "m fn1"
  | (refine' SE.ifInt ?k1 (fun hif => ?k2) (fun hif => ?k3); (case k1 => walk_at "m t"); (case k2 => walk_at "m e"); (case k3 => walk_at "m e"))
  | (refine' SE.brMake ?k0 ?k1 ?k2 ?k3 ?k4; (case k0 => exact rfl); (case k1 => walk_at "m room"); (case k2 => kernel_rfl); (case k3 => walk_at "m e"); (case k4 => walk_at "m e"))
  | (refine' SE.brBreak ?k0 ?k1 ?k2; (case k0 => exact rfl); (case k1 => walk_at "m room"); (case k2 => walk_at "m e"))
  | (refine' SE.brCount ?k0 ?k1 ?k2; (case k0 => exact rfl); (case k1 => walk_at "m room"); (case k2 => walk_at "m e"))
  | fail "m e 17")
local macro_rules | `(tactic| walk_at "m c") => `(tactic| with_reducible first
  | exact CmpOK.in2 | exact CmpOK.in3 | exact CmpOK.in4
  | exact CmpOK.isNotNone | exact CmpOK.isNotNoneBr
  | fail "m c 17")
local macro_rules | `(tactic| walk_at "m t") => `(tactic| with_reducible first
  | (refine' SB.boolOp ?k1; (case k1 => walk_at "m ts"))
  | (refine' SB.cmp (hm := ?k4) ?k1 ?k2 ?k3; (case k1 => walk_at "m e"); (case k2 => walk_at "m e"); (case k3 => walk_at "m c"); (case k4 => with_unfolding_all rfl))
  | (refine' SB.not ?k1; (case k1 => walk_at "m t"))
  | (refine' SB.ofInt (hv := ?k2) ?k1; (case k2 => with_unfolding_all (intro _; rfl)); (case k1 => walk_at "m e"))
  | (refine' SB.ofBool (hv := ?k2) ?k1; (case k2 => with_unfolding_all (intro _; rfl)); (case k1 => walk_at "m e"))
  | fail "m t 17")
local macro_rules | `(tactic| walk_at "m ts") => `(tactic| with_reducible first
  | exact SBs.and_nil | exact SBs.or_nil
  | (refine' SBs.and_cons ?k1 (fun hand => ?k2); (case k1 => walk_at "m t"); (case k2 => walk_at "m ts"))
  | (refine' SBs.or_cons ?k1 (fun hor => ?k2); (case k1 => walk_at "m t"); (case k2 => walk_at "m ts"))
  | fail "m ts")

local macro_rules | `(tactic| walk_at "m e") => `(tactic| with_reducible first
  | (refine' SE.ordAt (hsub := ?k0) ?k1 ?k2 ?k3 ?k4 ?k5 ?k6 ?k7; (case k0 => intro _ _; with_unfolding_all rfl); (case k1 => walk_at "m blt"); (case k2 => with_unfolding_all (intro _; rfl)); (case k3 => walk_at "m e"); (case k4 => walk_at "m e"); (case k5 => walk_at "m side"); (case k6 => walk_at "m side"); (case k7 => walk_at "m side"))
  | fail "m e 18")

/-- a range's ints -/
def iot (a : Int) (n : Nat) : List Int := (List.range n).map fun i : Nat => a + (i : Int)
theorem iot_get {a : Int} {n k : Nat} {i : Int} (h : (iot a n)[k]? = some i) : k < n ∧ i = a + k := by
  unfold iot at h
  rw [List.getElem?_map] at h
  cases q : (List.range n)[k]? with
  | none => rw [q] at h; cases h
  | some j =>
    rw [q] at h
    obtain ⟨h1, h2⟩ := List.getElem?_eq_some_iff.mp q
    rw [List.length_range] at h1
    rw [List.getElem_range] at h2
    simp only [Option.map_some, Option.some.injEq] at h
    exact ⟨h1, by rw [← h, ← h2]⟩
theorem iot_len (a : Int) (n : Nat) : (iot a n).length = n := by simp [iot]
theorem iot_take (a : Int) (n : Nat) (k : Nat) (h : k ≤ n) : (iot a n).take k = iot a k := by
  unfold iot
  rw [← List.map_take, List.take_range, Nat.min_eq_left h]

section
variable {c : Cx} {σ : Sto}
theorem rangeSize1 (a b : Int) : Builtin.Range.rangeSize a b 1 = if a < b then b - a else 0 := by
  unfold Builtin.Range.rangeSize
  rw [if_pos (by decide)]
  split <;> omega
theorem small1 (a b : Int) (h1 : -1000000 ≤ a) (h2 : a ≤ 1000000) (h3 : -1000000 ≤ b) (h4 : b ≤ 1000000) : Builtin.Range.small a b 1 = true := by
  unfold Builtin.Range.small Builtin.Range.rangeFitsLong
  rw [rangeSize1]
  split
  · rw [if_pos (by decide)]
    simp only [Bool.and_eq_true, Bool.or_eq_true, decide_eq_true_eq]
    omega
  · simp
    omega
theorem SI.range {e a b} (h : SE c σ e (.rng a b)) (hA : Room c.A 0) (h1 : -1000000 ≤ a) (h2 : a ≤ 1000000) (h3 : -1000000 ≤ b) (h4 : b ≤ 1000000) : SI c σ e (iot a (b - a).toNat) := by
  intro own s Q E G hq
  refine h own s _ E G fun v s₁ x₁ r₁ => ?_
  obtain ⟨r, t, u, w, rfl, hr, ho⟩ := r₁
  have hsz : Builtin.Range.rangeSize a b 1 = ((b - a).toNat : Nat) := by rw [rangeSize1]; split <;> omega
  refine wpAny_pyIter_range ho (small1 a b h1 h2 h3 h4) ?_
  refine hq s₁.heap.objs.size _ (fun k o => o = { cls := .type "range_iterator", dict := none, data := .fields #[rawInt (a + (k : Nat)), rawInt (((b - a).toNat : Nat) - (k : Nat) : Int), rawInt 1], slots := #[] }) (x₁.trans (Ext.heap (kp_push _ _) _)) ?_ ⟨_, Heap.get?_push_size _ rfl, ?_⟩ ?_
  · cases q : s.heap.get? s₁.heap.objs.size with
    | none => rfl
    | some o => have := x₁.keep _ _ q; rw [get_size] at this; cases this
  · rw [hsz]; simp
  · refine ⟨fun k i s' Q' E' hk _ ⟨o, ho, e⟩ hq' => ?_, fun s' Q' E' _ ⟨o, ho, e⟩ hq' => ?_, fun k s' Q' E' ⟨o, ho, e⟩ hq' => by subst e; exact wpAny_pyIter_rangeiter ho hq'⟩
    · subst e
      obtain ⟨hlt, rfl⟩ := iot_get hk
      refine wpAny_pyNext_range_item ho (by omega) fun h' hit hs => ?_
      refine hq' _ _ ⟨_, hit, ?_⟩ (fun b o hb hg => sameBut_get hs hb hg) rfl rfl
      have e1 : a + (k : Int) + 1 = a + ((k + 1 : Nat) : Int) := by omega
      have e2 : (((b - a).toNat : Nat) : Int) - (k : Nat) - 1 = (((b - a).toNat : Nat) : Int) - ((k + 1 : Nat) : Int) := by omega
      rw [e1, e2]
    · subst e
      rw [iot_len] at ho
      refine wpAny_pyNext_range_end hA.handled ho (by omega) fun h' hs => ?_
      exact hq' _ (fun b o hb hg => hs b o hb hg) rfl rfl
theorem SB.chain2 {l op₁ op₂ r₁ r₂ pos d d₁ d₂ b₁ b₂} (h : SE c σ l d) (h₁ : SE c σ r₁ d₁) (hc₁ : CmpOK c op₁ d d₁ b₁) (h₂ : SE c σ r₂ d₂) (hc₂ : CmpOK c op₂ d₁ d₂ b₂)
    (hm : lastMarks [op₁, op₂] [r₁, r₂] = false := by with_unfolding_all rfl) : SB c σ (.Compare l [op₁, op₂] [r₁, r₂] pos) (b₁ && b₂) := by
  intro own s Q E G hq
  refine isTrue_chain (h _ _ _ _ G fun v s₁ x₁ r₁ => test_link (h₁ _ _ _ _ (G.ext x₁) fun u s₂ x₂ r₂ =>
    hc₁ own s₂ v u _ _ (G.ext (x₁.trans x₂)).stat' (G.ext (x₁.trans x₂)).hid (r₁.grow x₂.keep) r₂ fun s₃ x₃ => wpAny_truthy_bool ?_)) hm
  cases b₁ with
  | false => exact hq _ ((x₁.trans x₂).trans x₃)
  | true =>
    have x := (x₁.trans x₂).trans x₃
    exact test_last (h₂ _ _ _ _ (G.ext x) fun z s₄ x₄ r₄ => hc₂ own s₄ u z _ _ (G.ext (x.trans x₄)).stat' (G.ext (x.trans x₄)).hid (r₂.grow fun b o h => x₄.keep _ _ (x₃.keep b o h)) r₄ fun s₅ x₅ => wpAny_truthy_bool (hq _ ((x.trans x₄).trans x₅)))
theorem SE.lenX {p pos : Pos} {e : Expr} {l : List Nat} (hb : bltOk c "len" (.builtin "len")) (hs : plainArgs c [e]) (h : SE c σ e (.str (Sx l))) (hf : l.length < 1000000) : SE c σ (.Call (.Name "len" p) [e] [] pos) (.int l.length) := by
  have := SE.lenS (pos := pos) (p := p) hb hs h (by rw [Sx_len]; omega)
  rw [Sx_len] at this; exact this
/-- a sign of a text -/
theorem SE.chAt {p q : Pos} {x : Str} {i : Expr} {l : List Nat} {k : Int} (hx : SE c σ (.Name x p) (.str (Sx l))) (hi : SE c σ i (.int k)) (h0 : 0 ≤ k) (h1 : k < l.length) (hf : l.length < 1000000)
    (hsub : ∀ o u, subscripted i false o u = operate [o, u] (getItem o u) := by intro _ _; rfl) : SE c σ (.Subscript (.Name x p) i q) (.str ⟨#[l.getD k.toNat 0]⟩) := by
  refine SE.itemS (k := k) (j := k.toNat) hx hi ?_ ?_ ?_ hsub
  · rw [Sx_len]; exact seq_ok h0 h1
  · have hk : k.toNat < l.length := by omega
    simp [List.getD_eq_getElem?_getD, List.getElem?_eq_getElem hk]
  · rw [Sx_len]; omega
end
section
variable {c : Cx} {σ : Sto} (hK : c.K = KK c.w)
include hK
theorem SE.sbk0 {p pos : Pos} {e1 e2 e3 e4 e5 : Expr} {u v : Int} {l : List Nat} {i ri : Int} (R : Room c.A 4) (hk : c.env.kindOf "_should_break" = some .globalImplicit) (hs : plainArgs c [e1, e2, e3, e4, e5]) (h1 : SE c σ e1 (.int u)) (h2 : SE c σ e2 (.int v))
    (h3 : SE c σ e3 (.str (Sx l))) (h4 : SE c σ e4 (.int i)) (h5 : SE c σ e5 (.int ri)) (hi : 0 < i) (hl : i < l.length) (hf : l.length < 1000000) :
    SE c σ (.Call (.Name "_should_break" p) [e1, e2, e3, e4, e5] [] pos) (.br (sbk u v l i ri 0).1 (sbk u v l i ri 0).2) :=
  SE.call (SE.glob hk (by rw [hK]; kernel_rfl : nsIn c.K mainGlobals "_should_break" = some (some (.ref 361))) (by kernel_rfl)) (.cons h1 (.cons h2 (.cons h3 (.cons h4 (.cons h5 .nil))))) (by rw [hK]; exact look361 c.w) (data361 c.w) (by rw [hK]; exact sbk_fn0 u v l i ri hi hl hf) R (hs _)
noncomputable def scanTok (w : World) : Tok := match nsIn (KK w) mainGlobals "MAX_GRAPHEME_SCAN" with | some (some v) => tokOf v | _ => 0
theorem SE.scan {p : Pos} (hk : c.env.kindOf "MAX_GRAPHEME_SCAN" = some .globalImplicit) : SE c σ (.Name "MAX_GRAPHEME_SCAN" p) (.int 16) :=
  SE.globD hk (by rw [hK]; kernel_rfl : nsIn c.K mainGlobals "MAX_GRAPHEME_SCAN" = some (some (.int 16 (scanTok c.w)))) (by kernel_rfl) fun h own _ _ => ⟨_, rfl⟩
end

local macro_rules | `(tactic| walk_at "m han") => `(tactic| exact Room.handled (by assumption))
local macro_rules | `(tactic| walk_at "m e") => `(tactic| with_reducible first
  | (refine' SE.sbk0 ?k0 ?k1 ?k2 ?k3 ?k4 ?k5 ?k6 ?k7 ?k8 ?k9 ?k10 ?k11; (case k0 => exact rfl); (case k1 => walk_at "m room"); (case k2 => kernel_rfl); (case k3 => with_unfolding_all (intro _; rfl)); (case k4 => walk_at "m e"); (case k5 => walk_at "m e"); (case k6 => walk_at "m e"); (case k7 => walk_at "m e"); (case k8 => walk_at "m e"); (case k9 => walk_at "m side"); (case k10 => walk_at "m side"); (case k11 => walk_at "m side"))
  | (refine' SE.chAt (hsub := ?k0) ?k3 ?k4 ?k5 ?k6 ?k7; (case k0 => intro _ _; with_unfolding_all rfl); (case k3 => walk_at "m e"); (case k4 => walk_at "m e"); (case k5 => walk_at "m side"); (case k6 => walk_at "m side"); (case k7 => walk_at "m side"))
  | (refine' SE.scan ?k0 ?k1; (case k0 => exact rfl); (case k1 => kernel_rfl))
  | (refine' SE.lenX ?k1 ?k2 ?k3 ?k4; (case k1 => walk_at "m blt"); (case k2 => with_unfolding_all (intro _; rfl)); (case k3 => walk_at "m e"); (case k4 => walk_at "m side"))
  | (refine' SE.range2 ?k1 ?k2 ?k3 ?k4; (case k1 => walk_at "m blt"); (case k2 => with_unfolding_all (intro _; rfl)); (case k3 => walk_at "m e"); (case k4 => walk_at "m e"))
  | (refine' SE.range1 ?k1 ?k2 ?k3; (case k1 => walk_at "m blt"); (case k2 => with_unfolding_all (intro _; rfl)); (case k3 => walk_at "m e"))
  | (refine' SE.min2 ?k1 ?k2 ?k5 ?k3 ?k4; (case k1 => walk_at "m blt"); (case k2 => with_unfolding_all (intro _; rfl)); (case k5 => walk_at "m han"); (case k3 => walk_at "m e"); (case k4 => walk_at "m e"))
  | (refine' SE.max2 ?k1 ?k2 ?k5 ?k3 ?k4; (case k1 => walk_at "m blt"); (case k2 => with_unfolding_all (intro _; rfl)); (case k5 => walk_at "m han"); (case k3 => walk_at "m e"); (case k4 => walk_at "m e"))
  | (refine' SE.abs ?k1 ?k2 ?k3; (case k1 => walk_at "m blt"); (case k2 => with_unfolding_all (intro _; rfl)); (case k3 => walk_at "m e"))
  | fail "m e 20")
local macro_rules | `(tactic| walk_at "m t") => `(tactic| with_reducible first
  | (refine' SB.chain2 (hm := ?k6) ?k1 ?k2 ?k3 ?k4 ?k5; (case k1 => walk_at "m e"); (case k2 => walk_at "m e"); (case k3 => walk_at "m c"); (case k4 => walk_at "m e"); (case k5 => walk_at "m c"); (case k6 => with_unfolding_all rfl))
  | fail "m t 20")

/-- the walk back to a safe place -/
def fcsBack (l : List Nat) (pos : Int) : Nat → Int → Int
  | 0, i => i
  | n + 1, i => if 0 < i then (if 32 ≤ at_ l i ∧ at_ l i < 128 then i else if gcb (at_ l i) = 3 then i else if 16 ≤ pos - i then 0 else fcsBack l pos n (i - 1)) else i
/-- one turn: the cluster's start, the class on the left, the flags -/
def fcsTurn (l : List Nat) (st : Int × Int × Int) (i : Int) : Int × Int × Int :=
  (if (sbk st.2.1 (gcb (at_ l i)) l i st.2.2 0).1 = true then i else st.1, gcb (at_ l i), (sbk st.2.1 (gcb (at_ l i)) l i st.2.2 0).2)
def fcsInit (l : List Nat) (s : Int) : Int × Int × Int := (s, gcb (at_ l s), if (gcb (at_ l s) == 6) = true then 1 else 0)
/-- _find_cluster_start -/
def fcs (l : List Nat) (pos : Int) : Int :=
  if at_ l (pos - 1) = 10 ∧ 2 ≤ pos ∧ at_ l (pos - 2) = 13 then pos - 2
  else if at_ l (pos - 1) < 128 then pos - 1
  else ((iot (fcsBack l pos pos.toNat (pos - 1) + 1) (pos - (fcsBack l pos pos.toNat (pos - 1) + 1)).toNat).foldl (fcsTurn l) (fcsInit l (fcsBack l pos pos.toNat (pos - 1)))).1

theorem fcsBack_range (l : List Nat) (pos : Int) : ∀ (n : Nat) (i : Int), 0 ≤ i → 0 ≤ fcsBack l pos n i ∧ fcsBack l pos n i ≤ i
  | 0, i, h => ⟨h, Int.le_refl _⟩
  | n + 1, i, h => by
    unfold fcsBack
    split
    · split
      · omega
      · split
        · omega
        · split
          · omega
          · have := fcsBack_range l pos n (i - 1) (by omega)
            omega
    · omega
theorem chr_eq (n m : Nat) : ((⟨#[n]⟩ : Str) == (⟨#[m]⟩ : Str)) = (n == m) := by
  by_cases h : n = m
  · subst h; simp
  · rw [show (n == m) = false from by simpa using h]
    rw [beq_eq_false_iff_ne]
    intro e
    simp at e
    exact h e
section
variable {prog : Program} {w : World} {mg mb : Str → Option Value}
theorem fcs_run (l : List Nat) (pos : Int) (h0 : 0 < pos) (h1 : pos ≤ l.length) (hf : l.length < 1000000)
    (hno : 2 ≤ pos → at_ l (pos - 1) < 128 → 32 ≤ at_ l (pos - 1) → gcb (at_ l (pos - 2)) ≠ 7) {S₀ : Shared} {av : List Addr} {A : Around} {L : Addr} (R : Room A 4) :
    SX ⟨prog, w, KK w, mg, mb, S₀, av, A, callEnv (fdAt w 376) L 376⟩ (upd (upd empty "text" (.d (.str (Sx l)))) "pos" (.d (.int pos))) (bodyOf 30)
      fun fl _ => fl = .ret (.int (fcs l pos)) ∨ (fl = .next ∧ D.int (fcs l pos) = .none) := by
  show SX _ _ (Stmt.Expr _ _ :: _) _
  have q0 : 0 ≤ pos - 1 := by omega
  have q1 : pos - 1 < l.length := by omega
  walk_at "m s"
  walk_at "m s"
  generalize ht : ((l.getD (pos - 1).toNat 0 : Nat) : Int) = t
  have ht' : at_ l (pos - 1) = t := ht
  have hcr : ∀ (h : 2 ≤ pos), (((⟨#[l.getD (pos - 2).toNat 0]⟩ : Str) == "\r") = true ↔ at_ l (pos - 2) = 13) := fun h => by
    show _ ↔ ((l.getD (pos - 2).toNat 0 : Nat) : Int) = 13
    rw [show ("\r" : Str) = ⟨#[13]⟩ from by decide, chr_eq, beq_iff_eq]
    omega
  refine' SX.if1 (SB.boolOp (SBs.and_cons (b := t == 10) ?a1 (fun g1 => SBs.and_cons (b := decide (2 ≤ pos)) ?a2 (fun g2 => SBs.and_cons (b := (⟨#[l.getD (pos - 2).toNat 0]⟩ : Str) == "\r") ?a3 (fun _ => SBs.and_nil))))) (fun h => ?b1) (fun h => ?b2)
  case a1 => walk_at "m t"
  case a2 => walk_at "m t"
  case a3 =>
    simp only [decide_eq_true_eq] at g2
    have q2 : 0 ≤ pos - 2 := by omega
    have q3 : pos - 2 < l.length := by omega
    walk_at "m t"
  case b1 =>
    simp only [Bool.and_true, Bool.and_eq_true, beq_iff_eq, decide_eq_true_eq] at h
    refine' SX.ret (d := .int (pos - 2)) ?b3 (.inl ?b4)
    case b3 => walk_at "m e"
    unfold fcs
    rw [if_pos ⟨by rw [ht']; exact h.1, h.2.1, (hcr h.2.1).mp (by rw [beq_iff_eq]; exact h.2.2)⟩]
  have hf1 : ¬ (at_ l (pos - 1) = 10 ∧ 2 ≤ pos ∧ at_ l (pos - 2) = 13) := by
    rintro ⟨e1, e2, e3⟩
    have h3 := (hcr e2).mpr e3
    rw [h3, show (t == 10) = true from by rw [beq_iff_eq, ← ht']; exact e1, show decide (2 ≤ pos) = true from by simpa using e2] at h
    cases h
  have hfcs : fcs l pos = if t < 128 then pos - 1 else ((iot (fcsBack l pos pos.toNat (pos - 1) + 1) (pos - (fcsBack l pos pos.toNat (pos - 1) + 1)).toNat).foldl (fcsTurn l) (fcsInit l (fcsBack l pos pos.toNat (pos - 1)))).1 := by
    unfold fcs
    rw [if_neg hf1, ht']
  rw [hfcs]
  refine' SX.if1 ?c1 (fun h => ?c2) (fun h => ?c3)
  case c1 => walk_at "m t"
  case c2 =>
    simp only [decide_eq_true_eq] at h
    rw [if_pos h]
    refine' SX.if1 ?d1 (fun g => ?d2) (fun g => ?d3)
    case d1 => walk_at "m t"
    case d3 =>
      refine' SX.ret (d := .int (pos - 1)) ?d5 (.inl rfl)
      case d5 => walk_at "m e"
    simp only [Bool.and_true, Bool.and_eq_true, decide_eq_true_eq] at g
    have q2 : 0 ≤ pos - 2 := by omega
    have q3 : pos - 2 < l.length := by omega
    walk_at "m s"
    refine' SX.if1 ?d6 (fun g' => ?d7) (fun g' => ?d8)
    case d6 => walk_at "m t"
    case d7 =>
      exfalso
      simp only [Bool.and_true, Bool.and_eq_true, decide_eq_true_eq, beq_iff_eq] at g'
      exact hno g.1 (by rw [ht']; exact h) (by rw [ht']; exact g.2) g'.2
    refine' SX.nil ?d9
    refine' SX.ret (d := .int (pos - 1)) ?d10 (.inl rfl)
    case d10 => walk_at "m e"
  simp only [decide_eq_false_iff_not] at h
  rw [if_neg h]
  obtain ⟨z1, z2⟩ := fcsBack_range l pos pos.toNat (pos - 1) q0
  generalize hfb : fcsBack l pos pos.toNat (pos - 1) = fb at z1 z2 ⊢
  have z3 : fb < l.length := by omega
  walk_at "m s"
  let Sh : Sto → Prop := fun σ => Look σ "text" (.d (.str (Sx l))) ∧ Look σ "pos" (.d (.int pos))
  have rest : ∀ σ, Sh σ → Look σ "safe_start" (.d (.int fb)) → SX ⟨prog, w, KK w, mg, mb, S₀, av, A, callEnv (fdAt w 376) L 376⟩ σ ((bodyOf 30).drop 6) fun fl _ => fl = .ret (.int ((iot (fb + 1) (pos - (fb + 1)).toNat).foldl (fcsTurn l) (fcsInit l fb)).1) ∨ (fl = .next ∧ D.int ((iot (fb + 1) (pos - (fb + 1)).toNat).foldl (fcsTurn l) (fcsInit l fb)).1 = .none) := by
    rintro σ ⟨s1, s2⟩ s3
    show SX _ _ (Stmt.Assign _ _ _ :: _) _
    walk_at "m s"
    walk_at "m s"
    walk_at "m s"
    refine' SX.for_ (l := iot (fb + 1) (pos - (fb + 1)).toNat) (SI.range ?f1 ?f2 ?f3 ?f4 ?f5 ?f6) ?f7 ?f8 (fun k σ => Sh σ ∧ Look σ "cluster_start" (.d (.int ((iot (fb + 1) k).foldl (fcsTurn l) (fcsInit l fb)).1)) ∧ Look σ "left_gcb" (.d (.int ((iot (fb + 1) k).foldl (fcsTurn l) (fcsInit l fb)).2.1)) ∧ Look σ "ri_count" (.d (.int ((iot (fb + 1) k).foldl (fcsTurn l) (fcsInit l fb)).2.2))) ?f9 ?f10 ?f11 ?f12
    case f1 => walk_at "m e"
    case f2 => exact R.le (by decide)
    case f7 => exact R.le (by decide)
    case f3 => omega
    case f4 => omega
    case f5 => omega
    case f6 => omega
    case f8 => kernel_rfl
    case f12 => with_unfolding_all (intro _; rfl)
    case f9 =>
      refine ⟨⟨by walk_at "m look", by walk_at "m look"⟩, ?_, ?_, ?_⟩
      · show Look _ _ (.d (.int fb)); walk_at "m look"
      · show Look _ _ (.d (.int (gcb (at_ l fb)))); walk_at "m look"
      · show Look _ _ (.d (.int (if (gcb (at_ l fb) == 6) = true then 1 else 0))); walk_at "m look"
    case f11 =>
      rintro σ ⟨⟨s1, s2⟩, s3, s4, s5⟩
      rw [iot_len] at s3
      refine' SX.ret ?f13 (.inl rfl)
      case f13 => walk_at "m e"
    rintro k i σ hk ⟨⟨s1, s2⟩, s3, s4, s5⟩ S₁ av₁
    obtain ⟨hk1, hk2⟩ := iot_get hk
    have hi0 : 0 ≤ i := by omega
    have hi0' : 0 < i := by omega
    have hil : i < l.length := by omega
    have hfold : (iot (fb + 1) (k + 1)).foldl (fcsTurn l) (fcsInit l fb) = fcsTurn l ((iot (fb + 1) k).foldl (fcsTurn l) (fcsInit l fb)) i := by
      rw [show iot (fb + 1) (k + 1) = iot (fb + 1) k ++ [i] from by unfold iot; rw [List.range_succ, List.map_append, hk2]; rfl, List.foldl_append]; rfl
    generalize hst : (iot (fb + 1) k).foldl (fcsTurn l) (fcsInit l fb) = st at *
    obtain ⟨cs, lg, ri⟩ := st
    dsimp only at s3 s4 s5
    walk_at "m s"
    walk_at "m s"
    walk_at "m s"
    refine' SX.if1 ?l1 (fun g => ?l2) (fun g => ?l3)
    case l1 => walk_at "m t"
    case l2 =>
      walk_at "m s"
      refine' SX.nil ?l4
      show SX _ _ _ _
      walk_at "m s"
      refine SX.nil (show _ ∧ _ ∧ _ ∧ _ from ?_)
      rw [hfold]
      unfold fcsTurn
      dsimp only
      rw [if_pos g]
      exact ⟨⟨by walk_at "m look", by walk_at "m look"⟩, by walk_at "m look", by walk_at "m look", by walk_at "m look"⟩
    walk_at "m s"
    refine SX.nil (show _ ∧ _ ∧ _ ∧ _ from ?_)
    rw [hfold]
    unfold fcsTurn
    dsimp only
    rw [if_neg (by rw [g]; decide)]
    exact ⟨⟨by walk_at "m look", by walk_at "m look"⟩, by walk_at "m look", by walk_at "m look", by walk_at "m look"⟩
  refine' SX.while_ (fun n σ => ∃ i, Sh σ ∧ Look σ "safe_start" (.d (.int i)) ∧ 0 ≤ i ∧ i ≤ pos - 1 ∧ i ≤ n ∧ fcsBack l pos n i = fb) pos.toNat ?w1 ?w2
  case w1 => exact ⟨pos - 1, ⟨by walk_at "m look", by walk_at "m look"⟩, by walk_at "m look", by omega, by omega, by omega, hfb⟩
  rintro n σ ⟨i, ⟨s1, s2⟩, s3, i1, i2, i3, i4⟩
  refine' ⟨_, SB.cmp (hm := ?w3) ?w4 ?w5 CmpOK.gtI, fun hc => ?w6, fun hc => ?w7⟩
  case w3 => with_unfolding_all rfl
  case w4 => walk_at "m e"
  case w5 => walk_at "m e"
  case w7 =>
    simp only [decide_eq_false_iff_not] at hc
    have : fb = i := by
      rw [← i4]
      cases n with
      | zero => rfl
      | succ k => unfold fcsBack; rw [if_neg hc]
    subst this
    exact rest _ ⟨s1, s2⟩ s3
  simp only [decide_eq_true_eq] at hc
  have hil : i < l.length := by omega
  have hn : ∃ k, n = k + 1 := ⟨n - 1, by omega⟩
  obtain ⟨k, rfl⟩ := hn
  unfold fcsBack at i4
  rw [if_pos hc] at i4
  walk_at "m s"
  refine' SX.if1 ?x1 (fun h1 => ?x2) (fun h1 => ?x3)
  case x1 => walk_at "m t"
  case x2 =>
    simp only [Bool.and_true, Bool.and_eq_true, decide_eq_true_eq] at h1
    rw [if_pos h1] at i4
    subst i4
    exact SX.brk (rest _ ⟨by walk_at "m look", by walk_at "m look"⟩ (by walk_at "m look"))
  have h1' : ¬ (32 ≤ at_ l i ∧ at_ l i < 128) := by
    rintro ⟨a, b⟩
    rw [show decide ((32 : Int) ≤ at_ l i) = true from by simpa using a, show decide (at_ l i < 128) = true from by simpa using b] at h1
    cases h1
  rw [if_neg h1'] at i4
  refine' SX.if1 ?x4 (fun h2 => ?x5) (fun h2 => ?x6)
  case x4 => walk_at "m t"
  case x5 =>
    simp only [beq_iff_eq] at h2
    rw [if_pos h2] at i4
    subst i4
    exact SX.brk (rest _ ⟨by walk_at "m look", by walk_at "m look"⟩ (by walk_at "m look"))
  simp only [beq_eq_false_iff_ne, ne_eq] at h2
  rw [if_neg h2] at i4
  refine' SX.if1 ?x7 (fun h3 => ?x8) (fun h3 => ?x9)
  case x7 => walk_at "m t"
  case x8 =>
    simp only [decide_eq_true_eq] at h3
    rw [if_pos h3] at i4
    subst i4
    walk_at "m s"
    exact SX.brk (rest _ ⟨by walk_at "m look", by walk_at "m look"⟩ (by walk_at "m look"))
  simp only [decide_eq_false_iff_not] at h3
  rw [if_neg h3] at i4
  refine' SX.augSub (a := i) (b := 1) ?x10 ?x11 ?x12 ?x13
  case x10 => walk_at "m look"
  case x11 => walk_at "m e"
  case x12 => kernel_rfl
  refine SX.nil ⟨k, by omega, i - 1, ⟨by walk_at "m look", by walk_at "m look"⟩, by walk_at "m look", by omega, by omega, by omega, i4⟩
theorem fcs_fn (l : List Nat) (pos : Int) (h0 : 0 < pos) (h1 : pos ≤ l.length) (hf : l.length < 1000000)
    (hno : 2 ≤ pos → at_ l (pos - 1) < 128 → 32 ≤ at_ l (pos - 1) → gcb (at_ l (pos - 2)) ≠ 7) : Fn prog w (KK w) mg mb 376 5 [.str (Sx l), .int pos] [] (.int (fcs l pos)) := by
  refine Fn.of_body (n := 4) (look376 w) (data376 w) (body376 w) (plain376 w (.str (Sx l)) (.int pos)) (code376 w) ?_ ?_
  · intro s av vs kvs T H r k
    obtain ⟨v, v', rfl, r1, r2⟩ := two r
    obtain rfl := k
    exact ⟨_, .of_eq (bind376 w v v'), v, _, rfl, r1, v', _, rfl, r2, rfl⟩
  · intro S₀ av A L R
    exact fcs_run l pos h0 h1 hf hno R
end
section
variable {c : Cx} {σ : Sto} (hK : c.K = KK c.w)
include hK
theorem SE.fcs {p pos : Pos} {e1 e2 : Expr} {l : List Nat} {k : Int} (R : Room c.A 5) (hk : c.env.kindOf "_find_cluster_start" = some .globalImplicit) (hs : plainArgs c [e1, e2]) (h1 : SE c σ e1 (.str (Sx l))) (h2 : SE c σ e2 (.int k))
    (hi : 0 < k) (hl : k ≤ l.length) (hf : l.length < 1000000) (hno : 2 ≤ k → at_ l (k - 1) < 128 → 32 ≤ at_ l (k - 1) → Mine.gcb (at_ l (k - 2)) ≠ 7) :
    SE c σ (.Call (.Name "_find_cluster_start" p) [e1, e2] [] pos) (.int (Mine.fcs l k)) :=
  SE.call (SE.glob hk (by rw [hK]; kernel_rfl : nsIn c.K mainGlobals "_find_cluster_start" = some (some (.ref 376))) (by kernel_rfl)) (.cons h1 (.cons h2 .nil)) (by rw [hK]; exact look376 c.w) (data376 c.w) (by rw [hK]; exact fcs_fn l k hi hl hf hno) R (hs _)
end
/-- grapheme_boundary_before -/
def gbb (l : List Nat) (pos : Int) : Int := if pos ≤ 0 ∨ l = [] then 0 else fcs l (if (l.length : Int) < pos then l.length else pos)
theorem gbb_some {l : List Nat} {pos : Int} (h : 0 < pos) (hl : l ≠ []) : gbb l pos = fcs l (if (l.length : Int) < pos then l.length else pos) := if_neg (by rintro (a | a); omega; exact hl a)
section
variable {prog : Program} {w : World} {mg mb : Str → Option Value}
theorem gbb_fn (l : List Nat) (pos : Int) (hf : l.length < 1000000)
    (hno : ∀ k : Int, 2 ≤ k → k ≤ l.length → at_ l (k - 1) < 128 → 32 ≤ at_ l (k - 1) → gcb (at_ l (k - 2)) ≠ 7) : Fn prog w (KK w) mg mb 383 6 [.str (Sx l), .int pos] [] (.int (gbb l pos)) := by
  refine Fn.of_body (n := 5) (look383 w) (data383 w) (body383 w) (plain383 w (.str (Sx l)) (.int pos)) (code383 w) ?_ ?_
  · intro s av vs kvs T H r k
    obtain ⟨v, v', rfl, r1, r2⟩ := two r
    obtain rfl := k
    exact ⟨_, .of_eq (bind383 w v v'), v, _, rfl, r1, v', _, rfl, r2, rfl⟩
  · intro S₀ av A L R
    show SX _ (upd (upd empty "unistr" _) "pos" _) (Stmt.Expr _ _ :: _) _
    dsimp only
    walk_at "m s"
    refine' SX.if1 (SB.boolOp (SBs.or_cons (b := decide (pos ≤ 0)) ?a1 (fun g1 => SBs.or_cons (b := !(((Sx l).length : Int) != 0)) (SB.not (SB.ofStr (hv := ?a4) ?a2 ?a3)) (fun _ => SBs.or_nil)))) (fun h => ?b1) (fun h => ?b2)
    case a1 => walk_at "m t"
    case a2 => walk_at "m e"
    case a3 => rw [Sx_len]; omega
    case a4 => with_unfolding_all (intro _; rfl)
    case b1 =>
      refine' SX.ret (d := .int 0) ?b3 (.inl ?b4)
      case b3 => walk_at "m e"
      have : pos ≤ 0 ∨ l = [] := by
        simp only [Bool.or_false, Bool.or_eq_true, decide_eq_true_eq, Sx_len] at h
        rcases h with h | h
        · exact .inl h
        · right
          simpa using h
      unfold gbb
      rw [if_pos this]
    have h' : ¬ (pos ≤ 0 ∨ l = []) := by
      rintro (a | a)
      · rw [show decide (pos ≤ 0) = true from by simpa using a] at h; cases h
      · subst a
        rw [show ((Sx []).length : Int) = 0 from rfl] at h
        simp at h
    have hp : 0 < pos := by omega
    have hl : l ≠ [] := fun a => h' (.inr a)
    have hl' : 0 < l.length := List.length_pos_iff.mpr hl
    rw [gbb_some hp hl]
    refine' SX.ret (SE.fcs (k := if (l.length : Int) < pos then l.length else pos) ?c0 ?c1 ?c2 ?c3 ?c4 ?c5 ?c6 ?c7 ?c8 ?c9) (.inl ?c10)
    case c0 => exact rfl
    case c1 => exact R
    case c2 => kernel_rfl
    case c3 => with_unfolding_all (intro _; rfl)
    case c4 => walk_at "m e"
    case c5 => walk_at "m e"
    case c6 => split <;> omega
    case c7 => split <;> omega
    case c8 => exact hf
    case c9 => exact fun a => hno _ a (by split <;> omega)
    rfl
end
end Mine

open PySem PySem.W PyProof.Rows PySem.Calls
set_option Elab.async false
set_option linter.unusedVariables false
set_option maxRecDepth 100000
namespace Mine
/-! ## lists: slices, comparisons, a frame's own lists -/
def sl {α : Type} (l : List α) (lo hi : Option Int) : List α := (l.drop (lo.elim 0 (clipAt l.length))).take (hi.elim l.length (clipAt l.length) - lo.elim 0 (clipAt l.length))
theorem sl_map {α β : Type} (f : α → β) (l : List α) (lo hi : Option Int) : sl (l.map f) lo hi = (sl l lo hi).map f := by
  unfold sl; simp [List.map_take, List.map_drop]
theorem sl_len {α : Type} (l : List α) (lo hi : Option Int) : (sl l lo hi).length ≤ l.length := by
  unfold sl; simp; omega
theorem sl_upto {α : Type} (l : List α) (n : Nat) : sl l none (some (n : Int)) = l.take n := by
  unfold sl
  simp only [Option.elim, clipAt_nat, List.drop_zero, Nat.sub_zero]
  rcases Nat.le_total n l.length with h | h
  · rw [Nat.min_eq_left h]
  · rw [Nat.min_eq_right h, List.take_of_length_le (Nat.le_refl _), List.take_of_length_le h]
theorem sl_mid {α : Type} (l : List α) (a b : Nat) : sl l (some (a : Int)) (some (b : Int)) = (l.drop a).take (b - a) := by
  unfold sl
  simp only [Option.elim, clipAt_nat]
  rcases Nat.le_total a l.length with h | h
  · rw [Nat.min_eq_left h]
    rcases Nat.le_total b l.length with h' | h'
    · rw [Nat.min_eq_left h']
    · rw [Nat.min_eq_right h', List.take_of_length_le (by simp), List.take_of_length_le (by simp; omega)]
  · rw [Nat.min_eq_right h, List.drop_of_length_le (Nat.le_refl _), List.drop_of_length_le h]; simp

section
variable {c : Cx} {σ : Sto} {P : FD → Sto → Prop} {rest : List Stmt}
theorem Reps.sl {h : Heap} {own : List Addr} {l : List D} {vs : Array Value} (r : Reps h own l vs.toList) (lo hi : Option Int) : Reps h own (Mine.sl l lo hi) (slicePick vs lo hi none).toList := by
  rw [slicePick_plain]
  have e : vs.size = l.length := by have := r.length; simpa using this
  unfold Mine.sl
  rw [e]
  simpa using (r.drop _).take _
theorem isPart_of (p : Option (Int × Tok)) : IsPart (partValue p) (p.map (·.1)) := by
  cases p with
  | none => exact .none
  | some q => exact .int _ _
theorem SE.sliceL {v lo hi pos q y l u} (hx : SE c σ v (.list y)) (hl : SP c σ lo l) (hu : SP c σ hi u) (hsz : y.length ≤ sizeLine) (ht : ∀ o r, letTemporaryGo v o r = pure () := by intro _ _; rfl) :
    SE c σ (.Subscript v (.Slice lo hi Option.none q) pos) (.list (sl y l u)) := fun own s Q E G h =>
  wpAny_Subscript_list_slice (hx own s _ _ G fun v s₁ x₁ r₁ => hl own s₁ _ _ (G.ext x₁) fun pl s₂ x₂ e₂ => hu own s₂ _ _ ((G.ext x₁).ext x₂) fun pu s₃ x₃ e₃ => by
    have X := (x₁.trans x₂).trans x₃
    obtain ⟨a, vs, rfl, hn, hL, hR⟩ := r₁.grow fun b o h => x₃.keep _ _ (x₂.keep b o h)
    have e : vs.size = y.length := by have := hR.length; simpa using this
    refine ⟨a, vs, l, u, rfl, hL, by rw [e]; exact hsz, e₂ ▸ isPart_of pl, e₃ ▸ isPart_of pu, ?_⟩
    have hk : Kp s₃.heap ((s₃.heap.push { cls := .type "slice", data := .fields #[partValue pl, partValue pu, .none] }).push { cls := .type "list", data := .seq (slicePick vs l u Option.none) }) := fun b o h => kp_push _ _ _ _ (kp_push _ _ _ _ h)
    have hnew := (((G.ext X).ext (Ext.heap (kp_push s₃.heap { cls := .type "slice", data := .fields #[partValue pl, partValue pu, .none] }) s₃.toks))).hid.new
    rw [Heap.size_push] at hnew
    refine h _ _ (X.trans (.heap hk s₃.toks)) ⟨s₃.heap.objs.size + 1, _, rfl, hnew, ⟨{ cls := .type "list", data := .seq (slicePick vs l u Option.none) }, ?_, rfl, 0, rfl⟩, Reps.grow (hR.sl l u) hk⟩
    have := Heap.get?_push_size (s₃.heap.push { cls := .type "slice", data := .fields #[partValue pl, partValue pu, .none] }) (o := { cls := .type "list", data := .seq (slicePick vs l u Option.none) }) rfl
    rw [Heap.size_push] at this
    exact this) ht

theorem SI.listI {e} {l : List Int} (h : SE c σ e (.list (l.map D.int))) (hA : Room c.A 0) : SI c σ e l := by
  intro own s Q E G hq
  refine h own s _ E G fun v s₁ x₁ r₁ => ?_
  obtain ⟨a, vs, rfl, hn, hL, hR⟩ := r₁
  have e : vs.size = l.length := by have := hR.length; simpa using this
  refine wpAny_pyIter_list hL ?_
  refine hq s₁.heap.objs.size _ (fun k o => o.cls = .type "list_iterator" ∧ o.data = .fields #[.ref a, .int k 0]) (x₁.trans (Ext.heap (kp_push _ _) _)) ?_ ⟨_, Heap.get?_push_size _ rfl, rfl, rfl⟩ ?_
  · cases q : s.heap.get? s₁.heap.objs.size with
    | none => rfl
    | some o => have := x₁.keep _ _ q; rw [get_size] at this; cases this
  have hne : a ≠ s₁.heap.objs.size := fun e => by obtain ⟨o, ho, _⟩ := hL; rw [e, get_size] at ho; cases ho
  have hL' : ∀ s' : Shared, (∀ b o, b ∉ own → b ≠ s₁.heap.objs.size → (s₁.heap.push { cls := .type "list_iterator", data := .fields #[.ref a, .int 0 0] }).get? b = some o → s'.heap.get? b = some o) → s'.heap.IsList a vs := fun s' hk => by
    obtain ⟨o, ho, r⟩ := hL
    exact ⟨o, hk a o hn hne (kp_push _ _ _ _ ho), r⟩
  refine ⟨fun k i s' Q' E' hk stay ⟨o, ho, st⟩ hq' => ?_, fun s' Q' E' stay ⟨o, ho, st⟩ hq' => ?_, fun k s' Q' E' ⟨o, ho, st⟩ hq' => wpAny_pyIter_listiter (l := a) (i := k) ⟨o, ho, st⟩ hq'⟩
  · obtain ⟨x, hx, t, rfl⟩ := hR.get (i := k) (d := .int i) (by rw [List.getElem?_map, hk]; rfl)
    refine wpAny_pyNext_list_item (l := a) (i := k) ⟨o, ho, st⟩ (hL' s' stay) (x := .int i t) (by simpa using hx) fun h' hit hs => ?_
    exact hq' t _ (let ⟨o, h1, h2, h3⟩ := hit; ⟨o, h1, h2, h3⟩) (fun b o hb hg => sameBut_get hs hb hg) rfl rfl
  · refine wpAny_pyNext_list_end (l := a) (i := l.length) hA.handled ⟨o, ho, st⟩ (hL' s' stay) (by simp [← e]) fun h' hs => ?_
    exact hq' _ (fun b o hb hg => hs b o hb hg) rfl rfl
theorem SI.tupI {e} {l : List Int} {ds : List D} (h : SE c σ e (.tup ds)) (hd : ds = l.map D.int) (hA : Room c.A 0) : SI c σ e l := by
  subst hd
  intro own s Q E G hq
  refine h own s _ E G fun v s₁ x₁ r₁ => ?_
  obtain ⟨a, vs, rfl, hn, hL, hR⟩ := r₁
  have e : vs.size = l.length := by have := hR.length; simpa using this
  refine wpAny_pyIter_tuple hL ?_
  refine hq s₁.heap.objs.size _ (fun k o => o.cls = .type "tuple_iterator" ∧ o.data = .fields #[.ref a, .int k 0]) (x₁.trans (Ext.heap (kp_push _ _) _)) ?_ ⟨_, Heap.get?_push_size _ rfl, rfl, rfl⟩ ?_
  · cases q : s.heap.get? s₁.heap.objs.size with
    | none => rfl
    | some o => have := x₁.keep _ _ q; rw [get_size] at this; cases this
  have hne : a ≠ s₁.heap.objs.size := fun e => by obtain ⟨o, ho, _⟩ := hL; rw [e, get_size] at ho; cases ho
  have hL' : ∀ s' : Shared, (∀ b o, b ∉ own → b ≠ s₁.heap.objs.size → (s₁.heap.push { cls := .type "tuple_iterator", data := .fields #[.ref a, .int 0 0] }).get? b = some o → s'.heap.get? b = some o) → s'.heap.IsTuple a vs := fun s' hk => by
    obtain ⟨o, ho, r⟩ := hL
    exact ⟨o, hk a o hn hne (kp_push _ _ _ _ ho), r⟩
  refine ⟨fun k i s' Q' E' hk stay ⟨o, ho, st⟩ hq' => ?_, fun s' Q' E' stay ⟨o, ho, st⟩ hq' => ?_, fun k s' Q' E' ⟨o, ho, st⟩ hq' => wpAny_pyIter_tupleiter (t := a) (i := k) ⟨o, ho, st⟩ hq'⟩
  · obtain ⟨x, hx, t, rfl⟩ := hR.get (i := k) (d := .int i) (by rw [List.getElem?_map, hk]; rfl)
    refine wpAny_pyNext_tuple_item (t := a) (i := k) ⟨o, ho, st⟩ (hL' s' stay) (x := .int i t) (by simpa using hx) fun h' hit hs => ?_
    exact hq' t _ (let ⟨o, h1, h2, h3⟩ := hit; ⟨o, h1, h2, h3⟩) (fun b o hb hg => sameBut_get hs hb hg) rfl rfl
  · refine wpAny_pyNext_tuple_end (t := a) (i := l.length) hA.handled ⟨o, ho, st⟩ (hL' s' stay) (by simp [← e]) fun h' hs => ?_
    exact hq' _ (fun b o hb hg => hs b o hb hg) rfl rfl

/-! comparisons of lists -/
theorem range_all (vs us : List Str) (h : vs.length = us.length) (e : Nat → Bool) (he : ∀ j (h1 : j < vs.length) (h2 : j < us.length), e j = (vs[j] == us[j])) : (List.range vs.length).all e = (vs == us) := by
  rw [Bool.eq_iff_iff, List.all_eq_true, beq_iff_eq]
  constructor
  · intro q
    refine List.ext_getElem h fun j h1 h2 => ?_
    have := q j (List.mem_range.mpr h1)
    rw [he j h1 h2] at this
    exact beq_iff_eq.mp this
  · rintro rfl j hj
    have h1 := List.mem_range.mp hj
    rw [he j h1 h1]; exact beq_self_eq_true _
theorem strs_at {h : Heap} {own : List Addr} {l : List Str} {vs : Array Value} (r : Reps h own (l.map D.str) vs.toList) {j : Nat} (h1 : j < vs.size) : ∃ (h2 : j < l.length) (t : Tok), vs[j] = .str l[j] t := by
  have e : vs.size = l.length := by have := r.length; simpa using this
  have h2 : j < l.length := by omega
  obtain ⟨x, hx, t, rfl⟩ := r.get (i := j) (d := .str l[j]) (by rw [List.getElem?_map, List.getElem?_eq_getElem h2]; rfl)
  refine ⟨h2, t, ?_⟩
  have : vs[j]? = some (.str l[j] t) := by simpa using hx
  rw [Array.getElem?_eq_getElem h1] at this
  exact Option.some.inj this
theorem CmpOK.eqL {l m : List Str} {d₁ d₂ : List D} (e₁ : d₁ = l.map D.str) (e₂ : d₂ = m.map D.str) (hA : Room c.A 0) : CmpOK c .Eq (.list d₁) (.list d₂) (l == m) := by
  subst e₁; subst e₂
  rintro own s v u Q E T H ⟨a, vs, rfl, hn, hl, hr⟩ ⟨b, us, rfl, hn', hl', hr'⟩ h
  have ev : vs.size = l.length := by have := hr.length; simpa using this
  have eu : us.size = m.length := by have := hr'.length; simpa using this
  have hu : c.A.units < cLine := by have := hA.units; omega
  by_cases hsz : vs.size = us.size
  · refine SeqAt.eq_listAt (e := fun j => l[j]? == m[j]?) hl hl' hsz hu (fun j h1 h2 => ?_) ?_
    · obtain ⟨q1, t1, e1⟩ := strs_at hr h1
      obtain ⟨q2, t2, e2⟩ := strs_at hr' h2
      rw [e1, e2, List.getElem?_eq_getElem q1, List.getElem?_eq_getElem q2]
      exact SeqAt.EqAt.str_str _ _ _ _
    · rw [ev, range_all l m (by omega) _ (fun j h1 h2 => by rw [List.getElem?_eq_getElem h1, List.getElem?_eq_getElem h2]; rfl)]
      exact h s (.refl s)
  · refine SeqAt.eq_list_lengthsAt hl hl' (by simpa using hsz) hu ?_
    rw [show (l == m) = false from by
      rw [beq_eq_false_iff_ne]; rintro rfl; omega] at h
    exact h s (.refl s)
theorem CmpOK.neL {l m : List Str} {d₁ d₂ : List D} (e₁ : d₁ = l.map D.str) (e₂ : d₂ = m.map D.str) (hA : Room c.A 0) : CmpOK c .NotEq (.list d₁) (.list d₂) (l != m) := by
  subst e₁; subst e₂
  rintro own s v u Q E T H ⟨a, vs, rfl, hn, hl, hr⟩ ⟨b, us, rfl, hn', hl', hr'⟩ h
  have ev : vs.size = l.length := by have := hr.length; simpa using this
  have eu : us.size = m.length := by have := hr'.length; simpa using this
  have hu : c.A.units < cLine := by have := hA.units; omega
  by_cases hsz : vs.size = us.size
  · refine SeqAt.RcNeAt.lists (e := fun j => l[j]? == m[j]?) hl hl' hsz hu (fun j h1 h2 => ?_) _ _ _ _ ?_
    · obtain ⟨q1, t1, e1⟩ := strs_at hr h1
      obtain ⟨q2, t2, e2⟩ := strs_at hr' h2
      rw [e1, e2, List.getElem?_eq_getElem q1, List.getElem?_eq_getElem q2]
      exact SeqAt.EqAt.str_str _ _ _ _
    · rw [ev, range_all l m (by omega) _ (fun j h1 h2 => by rw [List.getElem?_eq_getElem h1, List.getElem?_eq_getElem h2]; rfl)]
      exact h s (.refl s)
  · refine SeqAt.RcNeAt.lists_lengths hl hl' (by simpa using hsz) hu _ _ _ _ ?_
    rw [show (l != m) = true from by
      rw [bne_iff_ne]; rintro rfl; omega] at h
    exact h s (.refl s)
theorem list_ne_nil {own : List Addr} {s : Shared} {l : List D} {a : Addr} {vs : Array Value} {u : Value} {Q : Value → Shared → Prop} {E : Value → Shared → Prop} (hA : Room c.A 0) (hl : s.heap.IsList a vs) (hr : vs.size = l.length) (r : Rep s.heap own (.list []) u)
    (h : Q (.bool (decide (l ≠ []))) s) : c.wp (compareOp .NotEq (.ref a) u) Q E s := by
  obtain ⟨b, us, rfl, hn', hl', hr'⟩ := r
  have eu : us.size = 0 := by have := Reps.length hr'; simpa using this
  have hu : c.A.units < cLine := by have := hA.units; omega
  by_cases hz : l = []
  · subst hz
    have ev : vs.size = 0 := hr
    refine SeqAt.RcNeAt.lists (e := fun j => true) hl hl' (by omega) hu (fun j h1 h2 => by omega) _ _ _ _ ?_
    rw [ev]; exact h
  · have : l.length ≠ 0 := by simpa using hz
    refine SeqAt.RcNeAt.lists_lengths hl hl' (by rw [bne_iff_ne]; omega) hu _ _ _ _ ?_
    rw [show decide (l ≠ []) = true from by simpa using hz] at h
    exact h
theorem CmpOK.neNil {l : List D} (hA : Room c.A 0) : CmpOK c .NotEq (.list l) (.list []) (decide (l ≠ [])) := by
  rintro own s v u Q E T H ⟨a, vs, rfl, hn, hl, hr⟩ r h
  exact list_ne_nil hA hl (by have := hr.length; simpa using this) r (h s (.refl s))
end
end Mine

open PySem PySem.W PyProof.Rows PySem.Calls
set_option Elab.async false
set_option linter.unusedVariables false
set_option maxRecDepth 100000
namespace Mine
/-! ## a frame's own lists -/
/-- a store without own lists -/
def noOwn (σ : Sto) : Sto := fun y => match σ y with
  | some (.d d) => some (.d d)
  | _ => none
theorem Look.noOwn {σ : Sto} {y : Str} {d : D} (h : Look σ y (.d d)) : Look (noOwn σ) y (.d d) := by
  unfold Look at h; unfold Look Mine.noOwn; rw [h]

section
variable {K : Frag} {mg mb : Str → Option Value} {S₀ : Shared} {av own : List Addr} {env : Env} {σ : Sto} {s : Shared}
theorem Good.weaken (G : Good K mg mb S₀ av own env σ s) {σ' : Sto} (h : ∀ y v, σ' y = some v → σ y = some v) : Good K mg mb S₀ av own env σ' s := by
  obtain ⟨m, hn, hv⟩ := G.ns
  exact { stat := G.stat, keep := G.keep, hid := G.hid, av := G.av, lown := G.lown, lnew := G.lnew,
          ns := ⟨m, hn, fun x v h1 h2 => hv x v (h _ _ h1) h2⟩, cells := G.cells, cellv := fun x v h1 h2 => G.cellv x v (h _ _ h1) h2, cinj := G.cinj, chas := G.chas,
          vars := fun x v h1 => G.vars x v (h _ _ h1), ownl := fun x a l h1 => G.ownl x a l (h _ _ h1), kind := G.kind, glob := G.glob, blt := G.blt, gens := G.gens, os := G.os }
/-- what a name holds, seen anew -/
theorem Good.reval (G : Good K mg mb S₀ av own env σ s) {x : Str} {v₀ v : V} (h0 : σ x = some v₀) (hr : ∀ u, RepV s.heap own v₀ u → RepV s.heap own v u)
    (ho : ∀ a l, v = .own a l → a ≠ env.locals ∧ S₀.heap.get? a = none ∧ ∀ y c, env.cells.lookup y = some c → c ≠ a) : Good K mg mb S₀ av own env (upd σ x v) s := by
  obtain ⟨m, hn, hv⟩ := G.ns
  exact { stat := G.stat, keep := G.keep, hid := G.hid, av := G.av, lown := G.lown, lnew := G.lnew,
          ns := ⟨m, hn, fun y w h1 h2 => by
            unfold upd at h1
            by_cases e : y = x
            · subst e; rw [if_pos rfl] at h1; cases h1
              obtain ⟨u, h3, h4⟩ := hv y v₀ h0 h2
              exact ⟨u, h3, hr u h4⟩
            · rw [if_neg e] at h1; exact hv y w h1 h2⟩
          cells := G.cells
          cellv := fun y w h1 h2 => by
            unfold upd at h1
            by_cases e : y = x
            · subst e; rw [if_pos rfl] at h1; cases h1
              obtain ⟨c, u, h3, h4, h5⟩ := G.cellv y v₀ h0 h2
              exact ⟨c, u, h3, h4, hr u h5⟩
            · rw [if_neg e] at h1; exact G.cellv y w h1 h2
          cinj := G.cinj, chas := G.chas
          vars := fun y w h1 => by
            unfold upd at h1
            by_cases e : y = x
            · subst e; exact G.vars y v₀ h0
            · rw [if_neg e] at h1; exact G.vars y w h1
          ownl := fun y a l h1 => by
            unfold upd at h1
            by_cases e : y = x
            · subst e; rw [if_pos rfl] at h1; cases h1; exact ho a l rfl
            · rw [if_neg e] at h1; exact G.ownl y a l h1
          kind := G.kind, glob := G.glob, blt := G.blt, gens := G.gens, os := G.os }
theorem Good.ownRep (G : Good K mg mb S₀ av own env σ s) {x : Str} {v : V} (h : σ x = some v) : ∃ u, RepV s.heap own v u := by
  rcases (G.vars x _ h).1 with k | k | k
  · obtain ⟨m, _, hm⟩ := G.ns
    obtain ⟨u, _, r⟩ := hm x _ h k
    exact ⟨u, r⟩
  · obtain ⟨c, u, _, _, r⟩ := G.cellv x _ h (.inl k)
    exact ⟨u, r⟩
  · obtain ⟨c, u, _, _, r⟩ := G.cellv x _ h (.inr k)
    exact ⟨u, r⟩
/-- the own list as a bare reference, other own lists forgotten -/
theorem Good.bare (G : Good K mg mb S₀ av own env σ s) {x : Str} {a : Addr} {l : List D} (h : σ x = some (.own a l)) :
    Good K mg mb S₀ av own env (upd (noOwn σ) x (.d (.val (.ref a)))) s ∧ ¬ Mut env (upd (noOwn σ) x (.d (.val (.ref a)))) a ∧ S₀.heap.get? a = none ∧ a ∈ own := by
  have hno := G.ownl x a l h
  have h1 : Good K mg mb S₀ av own env (upd σ x (.d (.val (.ref a)))) s := G.reval h (fun u r => r.1) (fun _ _ e => nomatch e)
  refine ⟨h1.weaken fun y v hy => ?_, ?_, hno.2.1, G.mut_own (.inr (.inr ⟨x, l, h⟩))⟩
  · unfold upd at hy ⊢
    by_cases e : y = x
    · rw [if_pos e] at hy ⊢; exact hy
    · rw [if_neg e] at hy ⊢
      unfold noOwn at hy
      split at hy
      · rename_i d q; rw [q]; exact hy
      · cases hy
  · rintro (e | ⟨y, e⟩ | ⟨y, l', e⟩)
    · exact hno.1 e
    · exact hno.2.2 y a e rfl
    · unfold upd at e
      split at e
      · cases e
      · unfold noOwn at e
        split at e
        · cases e
        · cases e
end

section
variable {c : Cx} {σ : Sto} {P : FD → Sto → Prop} {rest : List Stmt}
theorem SE.neg {e pos i} (h : SE c σ e (.int i)) : SE c σ (.UnaryOp .USub e pos) (.int (-i)) := fun own s Q E G hq => by
  refine UnaryOp_ (h own s _ _ G fun v s₁ x₁ r => ?_)
  obtain ⟨t, rfl⟩ := r
  exact PyProof.Rows.neg_int (hq _ _ (x₁.trans (.toks _)) ⟨_, rfl⟩)
theorem SE.ownName {x : Str} {a : Addr} {l : List D} {pos} (h : Look σ x (.own a l)) : SE c σ (.Name x pos) (.val (.ref a)) := fun own s Q E G hq =>
  wpAny_Name (load_var G h fun u r => hq u s (.refl s) r.1) (G.vars x _ h).2.1
theorem Good.ownList {own : List Addr} {s : Shared} {x : Str} {a : Addr} {l : List D} (G : c.G own σ s) (h : Look σ x (.own a l)) : ∃ vs n, s.heap.get? a = some (listOf vs n) ∧ Reps s.heap own l vs.toList := by
  obtain ⟨u, e, m, r⟩ := G.ownRep h
  exact r
/-- an item of an own list -/
theorem SE.ownItem {x p i pos a l k j d} (hx : Look σ x (.own a l)) (h₂ : SE c σ i (.int k)) (hj : seqIndex? k l.length = some j) (hd : l[j]? = some d) (hf : l.length < 2 ^ 62)
    (hs : ∀ o u, subscripted i false o u = operate [o, u] (getItem o u) := by intro _ _; rfl) : SE c σ (.Subscript (.Name x p) i pos) d := fun own s Q E G h => by
  refine Subscript_ (SE.ownName hx own s _ _ G fun u s₁ x₁ r₁ => h₂ own s₁ _ _ (G.ext x₁) fun v s₂ x₂ r₂ => ?_)
  obtain rfl := r₁
  obtain ⟨t, rfl⟩ := r₂
  have G₂ : c.G own σ s₂ := G.ext (x₁.trans x₂)
  obtain ⟨vs, n, ho, hr⟩ := G₂.ownList hx
  have hL : s₂.heap.IsList a vs := ⟨_, ho, rfl, n, rfl⟩
  obtain ⟨y, hy, hr'⟩ := hr.get hd
  have e : vs.size = l.length := by have := hr.length; simpa using this
  have X := x₁.trans x₂
  rcases idx_parts hj with ⟨h0, ej, hl⟩ | ⟨h0, h1, ej, hl⟩
  · exact tail_any hL.typeIs slot_list_getitem.lookup (wpAny_getItem_list (x := y) hL h0 (by omega) (by rw [← ej]; simpa using hy) (h _ _ X hr')) (hs _ _)
  · exact tail_any hL.typeIs slot_list_getitem.lookup (wpAny_getItem_list_neg (x := y) hL h0 (by rw [e]; exact h1) (by omega) (by rw [e, ← ej]; simpa using hy) (h _ _ X hr')) (hs _ _)
/-- the last item -/
theorem SE.ownLast {x p q pos a l d p'} (hx : Look σ x (.own a (l ++ [d]))) (hf : l.length < 1000000) : SE c σ (.Subscript (.Name x p) (.UnaryOp .USub (.Constant (.int 1) 0 q) p') pos) d := by
  refine SE.ownItem (k := -1) (j := l.length) hx (SE.neg SE.int) ?_ (by simp) (by simp; omega)
  rw [seq_neg (by decide) (by simp; omega)]
  simp
  omega
/-- whether an own list has items -/
theorem SB.ownNe {x p q pos a l} (hx : Look σ x (.own a l)) (hA : Room c.A 0) : SB c σ (.Compare (.Name x p) [.NotEq] [.List [] q] pos) (decide (l ≠ [])) := fun own s Q E G h => by
  refine wpAny_isTrue_Compare1 (SE.ownName hx own s _ _ G fun v s₁ x₁ r₁ => SE.list SEs.nil (by decide) rfl own s₁ _ _ (G.ext x₁) fun u s₂ x₂ r₂ => ?_) (by with_unfolding_all rfl)
  obtain rfl := r₁
  have G₂ : c.G own σ s₂ := G.ext (x₁.trans x₂)
  obtain ⟨vs, n, ho, hr⟩ := G₂.ownList hx
  exact list_ne_nil hA ⟨_, ho, rfl, n, rfl⟩ (by have := hr.length; simpa using this) r₂ (wpAny_truthy_bool (h _ (x₁.trans x₂)))
/-- a new list of the frame's own -/
theorem SX.newOwn {x p es ds lp pos} (ha : SEs c σ es ds) (hsz : ds.length ≤ sizeLine) (hx : varOk c.env x = true) (h : ∀ a, a ∉ c.av → SX c (upd σ x (.own a ds)) rest P)
    (hst : backTo lp (starEach es c.env) = es.map (fun e => (false, eval e c.env)) := by rfl) (hs : swapsWith (.List es lp) (some (.Name x p)) pos.line c.env = pure false := by rfl) :
    SX c σ (.Assign [.Name x p] (.List es lp) pos :: rest) P := fun own s Q E G hq => by
  refine wpAny_execs_cons (wpAny_Assign_Name (List_ ?_) hs)
  rw [hst]
  refine ha own s _ _ G fun vs s₁ x₁ r₁ => wpAny_newList ?_ (by rw [r₁.length]; exact hsz)
  have G₁ : c.G own σ s₁ := G.ext x₁
  have hn : s₁.heap.get? s₁.heap.objs.size = none := get_size _
  have G₂ := G₁.more (Ext.heap (kp_push s₁.heap { cls := .type "list", data := .seq vs.toArray }) s₁.toks) hn ⟨_, Heap.get?_push_size _ rfl⟩
  have hno : s₁.heap.objs.size ∉ own := G₁.hid.new
  refine Good.store (c := c) G₂ hx (v := .own s₁.heap.objs.size ds) ⟨rfl, List.mem_cons_self .., vs.toArray, 0, Heap.get?_push_size _ rfl, ?_⟩ ?_ fun s₃ G₃ => h _ (fun q => hno (G₁.av _ q)) _ s₃ Q E G₃ hq
  · refine Reps.mono (own := own) (h := s₁.heap) (fun b o _ hb => kp_push _ _ _ _ hb) (fun b m => ?_) (by simpa using r₁)
    rcases List.mem_cons.mp m with rfl | m
    · exact .inr hn
    · exact .inl m
  · rintro a l ⟨⟩
    refine ⟨fun e => hno (e ▸ G₁.lown), ?_, fun y b hb e => hno (e ▸ (G₁.cells y b hb).1)⟩
    cases q : c.S₀.heap.get? s₁.heap.objs.size with
    | none => rfl
    | some o => have := G₁.keep _ _ q; rw [hn] at this; cases this
/-- append -/
theorem SX.append {x p ap cp pos a l e d} (hx : Look σ x (.own a l)) (he : SE c σ e d) (hsz : l.length ≤ 1000000) (h : SX c (upd (noOwn σ) x (.own a (l ++ [d]))) rest P)
    (hbase : attributeBase (.Name x p) "append" c.env (eval (.Name x p) c.env) = eval (.Name x p) c.env)
    (hfew : ((backTo cp (starEach [e] c.env)).all (fun x => !x.1) && (backToKw cp (keywordEach [] c.env)).all (fun x => x.1.isSome)
      && decide (([e] : List Expr).length + ([] : List Keyword).length + (if ([] : List Keyword).isEmpty then 0 else 1) < 30)) = true)
    (hline : (ap.endLine == cp.line) = true)
    (htrees : backTo cp (starEach [e] c.env) = [(false, eval e c.env)])
    (hi : interactive c.env = false) (hs : swapsWith (.Call (.Attribute (.Name x p) "append" ap) [e] [] cp) none pos.line c.env = pure false) :
    SX c σ (.Expr (.Call (.Attribute (.Name x p) "append" ap) [e] [] cp) pos :: rest) P := fun own s Q E G hq => by
  refine wpAny_execs_cons (wpAny_Expr (wpAny_Call_append hbase hfew hline htrees (SE.ownName hx own s _ _ G fun v s₁ x₁ r₁ => ?_)) hi hs)
  obtain rfl := r₁
  have G₁ : c.G own σ s₁ := G.ext x₁
  obtain ⟨vs₁, n₁, ho₁, hr₁⟩ := G₁.ownList hx
  refine ⟨a, vs₁, rfl, ⟨_, n₁, ho₁, rfl, rfl, rfl⟩, he own s₁ _ _ G₁ fun u s₂ x₂ r₂ => ?_⟩
  have G₂ : c.G own σ s₂ := G₁.ext x₂
  obtain ⟨vs, n, ho, hr⟩ := G₂.ownList hx
  have e' : vs.size = l.length := by have := hr.length; simpa using this
  refine append_at (n := n) (its := vs) ho (fun h' hsb ho' => ?_) (by rw [e']; exact Nat.le_trans hsz (by decide))
  obtain ⟨G₃, hm, hS, hma⟩ := G₂.bare hx
  have hk : ∀ b o, b ≠ a → s₂.heap.get? b = some o → h'.get? b = some o := fun b o hb hg => sameBut_get hsb hb hg
  have G₄ : c.G own (upd (noOwn σ) x (.d (.val (.ref a)))) { s₂ with heap := h' } := G₃.but hma hm hS hk ⟨_, ho'⟩ rfl rfl
  have hno := G₂.ownl x a l hx
  have G₅ := G₄.reval (v := .own a (l ++ [d])) Look.here (fun u (r : u = .ref a) => ⟨r, hma, vs.push _, n + 1, ho', by
      rw [Array.toList_push]
      exact (Reps.append (Reps.mono (own := own) (own' := own) (fun b o hb => hk b o fun e => hb (e ▸ hma)) (.same _ _) hr)
        ⟨_, [], rfl, Rep.mono (own := own) (own' := own) (fun b o hb => hk b o fun e => hb (e ▸ hma)) (.same _ _) r₂, rfl⟩)⟩)
    (by rintro a' l' ⟨⟩; exact hno)
  have hup : upd (upd (noOwn σ) x (.d (.val (.ref a)))) x (.own a (l ++ [d])) = upd (noOwn σ) x (.own a (l ++ [d])) := by
    funext y; unfold upd; by_cases q : y = x <;> simp [q]
  rw [hup] at G₅
  exact h own _ Q E G₅ hq
/-- an own list is given away: plain data from now on -/
theorem SX.freeze {x a l ss} (hx : Look σ x (.own a l)) (hav : a ∉ c.av) (h : SX c (upd (noOwn σ) x (.d (.list l))) ss P) : SX c σ ss P := fun own s Q E G hq => by
  obtain ⟨G₃, hm, hS, hma⟩ := G.bare hx
  obtain ⟨vs, n, ho, hr⟩ := G.ownList hx
  have G₄ := G₃.drop hma hm hS hav (s' := s) (fun b o _ h => h) rfl rfl
  have hna : a ∉ own.filter (· ≠ a) := fun q => by simp at q
  have G₅ := G₄.reval (v := .d (.list l)) Look.here (fun u (r : u = .ref a) => ⟨a, vs, r, hna, ⟨_, ho, rfl, n, rfl⟩, Reps.mono (own := own) (fun b o _ h => h) (fun b m => .inl (List.mem_filter.mp m).1) hr⟩) (fun _ _ e => nomatch e)
  have hup : upd (upd (noOwn σ) x (.d (.val (.ref a)))) x (.d (.list l)) = upd (noOwn σ) x (.d (.list l)) := by
    funext y; unfold upd; by_cases q : y = x <;> simp [q]
  rw [hup] at G₅
  exact h _ s Q E G₅ hq
/-- a store keeps what is not hidden -/
theorem Good.storeK {own : List Addr} {s : Shared} (G : c.G own σ s) {x : Str} (hx : varOk c.env x = true) {d : D} {u : Value} (r : Rep s.heap own d u)
    {Q : Unit → Shared → Prop} {E : Value → Shared → Prop} (h : ∀ s', c.G own (upd σ x (.d d)) s' → (∀ b o, b ∉ own → s.heap.get? b = some o → s'.heap.get? b = some o) → Q () s') : c.wp (storeName c.env x u) Q E s := by
  let p : Addr → Bool := fun a => decide (a ∉ own) || (c.S₀.heap.get? a).isSome
  let S₁ : Shared := { c.S₀ with heap := only s.heap p }
  have keepS : Kp c.S₀.heap S₁.heap := fun b o h => by
    show (only s.heap p).get? b = some o
    rw [only_get, if_pos (by simp [p, h])]
    exact G.keep b o h
  have G₃ : Good c.K c.mg c.mb S₁ c.av own c.env σ s := G.base (G.stat.keeps keepS) (fun b o h => by
      have h' : (only s.heap p).get? b = some o := h
      rw [only_get] at h'
      split at h'
      · exact h'
      · cases h') (fun a h => by
      show (only s.heap p).get? a = none
      rw [only_get, if_neg (by simp [p, G.mut_own h, G.mut_none h])]) G.av rfl rfl
  refine Good.storeD (c := { c with S₀ := S₁ }) G₃ hx r fun s' G₄ => h s' ?_ ?_
  · exact G₄.base G.stat (fun b o h => G₄.keep b o (keepS b o h)) (fun a h => by
      have h' : S₁.heap.get? a = none := G₄.mut_none h
      cases q : c.S₀.heap.get? a with
      | none => rfl
      | some o => rw [keepS a o q] at h'; cases h') G₄.av rfl rfl
  · intro b o hb hg
    refine G₄.keep b o ?_
    show (only s.heap p).get? b = some o
    rw [only_get, if_pos (by simp [p, hb])]
    exact hg
/-- a, b = e -/
theorem SX.assign2 {x y px py k tp pos e d d'} (he : SE c σ e (.tup [d, d'])) (hA : Room c.A 0) (hx : varOk c.env x = true) (hy : varOk c.env y = true) (h : SX c (upd (upd σ x (.d d)) y (.d d')) rest P)
    (hs : swapsWithSole [.Tuple [.Name x px, .Name y py] k tp] e pos.line c.env = pure false := by rfl) (hw : swappedStores [.Tuple [.Name x px, .Name y py] k tp] e c.env = pure none := by rfl) :
    SX c σ (.Assign [.Tuple [.Name x px, .Name y py] k tp] e pos :: rest) P := fun own s Q E G hq => by
  refine wpAny_execs_cons (Assign_Tuple (he own s _ _ G fun v s₁ x₁ r₁ => ?_) hs hw)
  obtain ⟨a, vs, rfl, hn, ht, hr⟩ := r₁
  obtain ⟨v, v', e, r1, r2⟩ := two hr
  have e' : vs.size = 2 := by rw [← Array.length_toList, e]; rfl
  refine assign_Tuple_tuple hA.handled ht (by rw [e']; rfl) rfl fun h' hk => ?_
  rw [e]
  have x₂ : Ext s₁ { s₁ with heap := h' } := Ext.heap (fun b o ho => hk b o (Nat.ne_of_lt (Heap.lt_size ho)) ho) _
  refine assignInOrder_cons (wpAny_assign_Name (Good.storeK (c := c) ((G.ext x₁).ext x₂) hx (r1.grow x₂.keep) fun s₃ G₃ hk₃ => ?_))
  refine assignInOrder_cons (wpAny_assign_Name (Good.storeD (c := c) G₃ hy ((r2.grow x₂.keep).mono hk₃ (.same _ _)) fun s₄ G₄ => ?_))
  exact assignInOrder_nil (h own s₄ Q E G₄ hq)
end
end Mine
namespace Mine
section
variable {c : Cx} {σ : Sto}
theorem SB.ownNeS {x p q pos a} {ks : List Str} (hx : Look σ x (.own a (ks.map D.str))) (hA : Room c.A 0) : SB c σ (.Compare (.Name x p) [.NotEq] [.List [] q] pos) (decide (ks ≠ [])) := by
  have := SB.ownNe (p := p) (q := q) (pos := pos) hx hA
  have e : decide (ks.map D.str ≠ []) = decide (ks ≠ []) := by cases ks <;> rfl
  rw [e] at this; exact this
theorem SE.ownLastS {x p q pos a p'} {ks : List Str} (hx : Look σ x (.own a (ks.map D.str))) (h : ks ≠ []) (hf : ks.length < 1000000) : SE c σ (.Subscript (.Name x p) (.UnaryOp .USub (.Constant (.int 1) 0 q) p') pos) (.str (ks.getLastD "")) := by
  have e : ks = ks.dropLast ++ [ks.getLastD ""] := by
    rw [List.getLastD_eq_getLast?, List.getLast?_eq_some_getLast h]
    exact (List.dropLast_concat_getLast h).symm
  refine SE.ownLast (l := ks.dropLast.map D.str) (a := a) ?_ (by simp; omega)
  rw [← List.map_singleton (f := D.str), ← List.map_append, ← e]; exact hx
theorem SE.ownLastI {x p q pos a p'} {ks : List Int} (hx : Look σ x (.own a (ks.map D.int))) (h : ks ≠ []) (hf : ks.length < 1000000) : SE c σ (.Subscript (.Name x p) (.UnaryOp .USub (.Constant (.int 1) 0 q) p') pos) (.int (ks.getLastD 0)) := by
  have e : ks = ks.dropLast ++ [ks.getLastD 0] := by
    rw [List.getLastD_eq_getLast?, List.getLast?_eq_some_getLast h]
    exact (List.dropLast_concat_getLast h).symm
  refine SE.ownLast (l := ks.dropLast.map D.int) (a := a) ?_ (by simp; omega)
  rw [← List.map_singleton (f := D.int), ← List.map_append, ← e]; exact hx
end
end Mine

open PySem PySem.W PyProof.Rows PySem.Calls
set_option Elab.async false
set_option linter.unusedVariables false
set_option linter.unusedSimpArgs false
set_option maxRecDepth 100000
namespace Mine
/-! ## the lines of the walk -/
local macro_rules | `(tactic| walk_at "m look") => `(tactic| (repeat' (first | with_reducible assumption | with_reducible exact Look.here | (with_reducible refine' Look.there ?_ ?_; kernel_rfl))))
local macro_rules | `(tactic| walk_at "m blt") => `(tactic| (refine' bltOk.mk' ?_ ?_ ?_ ?_ ?_ <;> kernel_rfl))
local macro_rules | `(tactic| walk_at "m side") => `(tactic| first | with_reducible assumption | (with_reducible exact rfl) | omega | (simp only [List.length_map, List.length_cons, List.length_nil, List.length_append]; omega) | decide)
local macro_rules | `(tactic| walk_at "m b") => `(tactic| with_reducible first
  | exact BinOK.addI | exact BinOK.subI | (refine' BinOK.modI ?_; walk_at "m side") | (refine' BinOK.divI ?_ ?_ <;> walk_at "m side"))
local macro_rules | `(tactic| walk_at "m c") => `(tactic| with_reducible first
  | exact CmpOK.eqI | exact CmpOK.neI | exact CmpOK.ltI | exact CmpOK.leI | exact CmpOK.gtI | exact CmpOK.geI | exact CmpOK.eqS | exact CmpOK.neS)
local macro_rules | `(tactic| walk_at "m e") => `(tactic| with_reducible first
  | exact SE.int | exact SE.str | exact SE.bool | exact SE.none
  | (refine' SE.name ?k1; (case k1 => walk_at "m look"))
  | (refine' SE.bin ?k1 ?k2 ?k3; (case k1 => walk_at "m e"); (case k2 => walk_at "m e"); (case k3 => walk_at "m b"))
  | (refine' SE.cmp (hm := ?k4) ?k1 ?k2 ?k3; (case k1 => walk_at "m e"); (case k2 => walk_at "m e"); (case k3 => walk_at "m c"); (case k4 => with_unfolding_all rfl))
  | (refine' SE.lenT ?k1 ?k2 ?k3 ?k4; (case k1 => walk_at "m blt"); (case k2 => with_unfolding_all (intro _; rfl)); (case k3 => walk_at "m e"); (case k4 => walk_at "m side"))
  | (refine' SE.lenL ?k1 ?k2 ?k3 ?k4; (case k1 => walk_at "m blt"); (case k2 => with_unfolding_all (intro _; rfl)); (case k3 => walk_at "m e"); (case k4 => walk_at "m side"))
  | (refine' SE.lenS ?k1 ?k2 ?k3 ?k4; (case k1 => walk_at "m blt"); (case k2 => with_unfolding_all (intro _; rfl)); (case k3 => walk_at "m e"); (case k4 => walk_at "m side"))
  | fail "m e")
local macro_rules | `(tactic| walk_at "m t") => `(tactic| with_reducible first
  | (refine' SB.cmp (hm := ?k4) ?k1 ?k2 ?k3; (case k1 => walk_at "m e"); (case k2 => walk_at "m e"); (case k3 => walk_at "m c"); (case k4 => with_unfolding_all rfl))
  | (refine' SB.not ?k1; (case k1 => walk_at "m t"))
  | fail "m t")
/-- one statement -/
local macro_rules | `(tactic| walk_at "m s") => `(tactic| with_reducible first
  | refine' SX.doc ?_
  | (refine' SX.assign (hs := ?k3) ?k1 ?k2 ?k4; (case k1 => walk_at "m e"); (case k2 => kernel_rfl); (case k3 => with_unfolding_all rfl))
  | fail "m s")

local macro_rules | `(tactic| walk_at "m room") => `(tactic| first | with_reducible assumption | exact Room.le (by assumption) (by decide))
local macro_rules | `(tactic| walk_at "m tab") => `(tactic| with_reducible first
  | (refine' SE.tGRAPHEME_CONTROL ?k0 ?k1; (case k0 => exact rfl); (case k1 => kernel_rfl))
  | (refine' SE.tGRAPHEME_EXTEND ?k0 ?k1; (case k0 => exact rfl); (case k1 => kernel_rfl))
  | (refine' SE.tGRAPHEME_REGIONAL_INDICATOR ?k0 ?k1; (case k0 => exact rfl); (case k1 => kernel_rfl))
  | (refine' SE.tGRAPHEME_PREPEND ?k0 ?k1; (case k0 => exact rfl); (case k1 => kernel_rfl))
  | (refine' SE.tGRAPHEME_SPACINGMARK ?k0 ?k1; (case k0 => exact rfl); (case k1 => kernel_rfl))
  | (refine' SE.tGRAPHEME_L ?k0 ?k1; (case k0 => exact rfl); (case k1 => kernel_rfl))
  | (refine' SE.tGRAPHEME_V ?k0 ?k1; (case k0 => exact rfl); (case k1 => kernel_rfl))
  | (refine' SE.tGRAPHEME_T ?k0 ?k1; (case k0 => exact rfl); (case k1 => kernel_rfl))
  | (refine' SE.tGRAPHEME_LV ?k0 ?k1; (case k0 => exact rfl); (case k1 => kernel_rfl))
  | (refine' SE.tGRAPHEME_LVT ?k0 ?k1; (case k0 => exact rfl); (case k1 => kernel_rfl))
  | (refine' SE.tEXTENDED_PICTOGRAPHIC ?k0 ?k1; (case k0 => exact rfl); (case k1 => kernel_rfl))
  | (refine' SE.tINCB_LINKER ?k0 ?k1; (case k0 => exact rfl); (case k1 => kernel_rfl))
  | (refine' SE.tINCB_CONSONANT ?k0 ?k1; (case k0 => exact rfl); (case k1 => kernel_rfl))
  | (refine' SE.tINCB_EXTEND ?k0 ?k1; (case k0 => exact rfl); (case k1 => kernel_rfl)))
local macro_rules | `(tactic| walk_at "m gcb") => `(tactic| with_reducible first
  | (refine' SE.gOTHER ?k0 ?k1; (case k0 => exact rfl); (case k1 => kernel_rfl))
  | (refine' SE.gCR ?k0 ?k1; (case k0 => exact rfl); (case k1 => kernel_rfl))
  | (refine' SE.gLF ?k0 ?k1; (case k0 => exact rfl); (case k1 => kernel_rfl))
  | (refine' SE.gCONTROL ?k0 ?k1; (case k0 => exact rfl); (case k1 => kernel_rfl))
  | (refine' SE.gEXTEND ?k0 ?k1; (case k0 => exact rfl); (case k1 => kernel_rfl))
  | (refine' SE.gZWJ ?k0 ?k1; (case k0 => exact rfl); (case k1 => kernel_rfl))
  | (refine' SE.gREGIONAL_INDICATOR ?k0 ?k1; (case k0 => exact rfl); (case k1 => kernel_rfl))
  | (refine' SE.gPREPEND ?k0 ?k1; (case k0 => exact rfl); (case k1 => kernel_rfl))
  | (refine' SE.gSPACING_MARK ?k0 ?k1; (case k0 => exact rfl); (case k1 => kernel_rfl))
  | (refine' SE.gL ?k0 ?k1; (case k0 => exact rfl); (case k1 => kernel_rfl))
  | (refine' SE.gV ?k0 ?k1; (case k0 => exact rfl); (case k1 => kernel_rfl))
  | (refine' SE.gT ?k0 ?k1; (case k0 => exact rfl); (case k1 => kernel_rfl))
  | (refine' SE.gLV ?k0 ?k1; (case k0 => exact rfl); (case k1 => kernel_rfl))
  | (refine' SE.gLVT ?k0 ?k1; (case k0 => exact rfl); (case k1 => kernel_rfl)))
local macro_rules | `(tactic| walk_at "m tabside") => `(tactic| with_reducible first | exact tabNe3 | exact tabLt3 | exact tabNe4 | exact tabLt4 | exact tabNe5 | exact tabLt5 | exact tabNe6 | exact tabLt6 | exact tabNe7 | exact tabLt7 | exact tabNe8 | exact tabLt8 | exact tabNe9 | exact tabLt9 | exact tabNe10 | exact tabLt10 | exact tabNe11 | exact tabLt11 | exact tabNe12 | exact tabLt12 | exact tabNe13 | exact tabLt13 | exact tabNe14 | exact tabLt14 | exact tabNe15 | exact tabLt15 | exact tabNe16 | exact tabLt16)

local macro_rules | `(tactic| walk_at "m e") => `(tactic| with_reducible first
  | walk_at "m gcb"
  | (refine' SE.bis ?k0 ?k1 ?k2 ?k3 ?k4 ?k5 ?k6 ?k7; (case k0 => exact rfl); (case k1 => walk_at "m room"); (case k2 => kernel_rfl); (case k3 => with_unfolding_all (intro _; rfl)); (case k4 => walk_at "m e"); (case k5 => walk_at "m tab"); (case k6 => walk_at "m tabside"); (case k7 => walk_at "m tabside"))
  | fail "m e f")
local macro_rules | `(tactic| walk_at "m t") => `(tactic| with_reducible first | (refine' SB.ofInt (hv := ?k2) ?k1; (case k2 => with_unfolding_all (intro _; rfl)); (case k1 => walk_at "m e")) | fail "m t i")

local macro_rules | `(tactic| walk_at "m fn1") => `(tactic| with_reducible first
  | (refine' SE.gcb ?k0 ?k1 ?k2 ?k3 ?k4; (case k0 => exact rfl); (case k1 => walk_at "m room"); (case k2 => kernel_rfl); (case k3 => with_unfolding_all (intro _; rfl)); (case k4 => walk_at "m e"))
  | (refine' SE.pict ?k0 ?k1 ?k2 ?k3 ?k4; (case k0 => exact rfl); (case k1 => walk_at "m room"); (case k2 => kernel_rfl); (case k3 => with_unfolding_all (intro _; rfl)); (case k4 => walk_at "m e"))
  | (refine' SE.link ?k0 ?k1 ?k2 ?k3 ?k4; (case k0 => exact rfl); (case k1 => walk_at "m room"); (case k2 => kernel_rfl); (case k3 => with_unfolding_all (intro _; rfl)); (case k4 => walk_at "m e"))
  | (refine' SE.cons ?k0 ?k1 ?k2 ?k3 ?k4; (case k0 => exact rfl); (case k1 => walk_at "m room"); (case k2 => kernel_rfl); (case k3 => with_unfolding_all (intro _; rfl)); (case k4 => walk_at "m e"))
  | (refine' SE.ext ?k0 ?k1 ?k2 ?k3 ?k4; (case k0 => exact rfl); (case k1 => walk_at "m room"); (case k2 => kernel_rfl); (case k3 => with_unfolding_all (intro _; rfl)); (case k4 => walk_at "m e"))
  | fail "m fn1")
local macro_rules | `(tactic| walk_at "m es") => `(tactic| with_reducible first
  | exact SEs.nil
  | (refine' SEs.cons ?k1 ?k2; (case k1 => walk_at "m e"); (case k2 => walk_at "m es"))
  | fail "m es")
local macro_rules | `(tactic| walk_at "m e") => `(tactic| with_reducible first
  | (refine' SE.tuple (hst := ?k2) ?k1 ?k3; (case k1 => walk_at "m es"); (case k2 => with_unfolding_all rfl); (case k3 => with_unfolding_all (show (_ : Nat) ≤ _; decide)))
  | walk_at "m fn1"
  | (refine' SE.ifInt ?k1 (fun hif => ?k2) (fun hif => ?k3); (case k1 => walk_at "m t"); (case k2 => walk_at "m e"); (case k3 => walk_at "m e"))
  | (refine' SE.brMake ?k0 ?k1 ?k2 ?k3 ?k4; (case k0 => exact rfl); (case k1 => walk_at "m room"); (case k2 => kernel_rfl); (case k3 => walk_at "m e"); (case k4 => walk_at "m e"))
  | (refine' SE.brBreak ?k0 ?k1 ?k2; (case k0 => exact rfl); (case k1 => walk_at "m room"); (case k2 => walk_at "m e"))
  | (refine' SE.brCount ?k0 ?k1 ?k2; (case k0 => exact rfl); (case k1 => walk_at "m room"); (case k2 => walk_at "m e"))
  | fail "m e 17")
local macro_rules | `(tactic| walk_at "m c") => `(tactic| with_reducible first
  | exact CmpOK.in2 | exact CmpOK.in3 | exact CmpOK.in4
  | exact CmpOK.isNotNone | exact CmpOK.isNotNoneBr
  | fail "m c 17")
local macro_rules | `(tactic| walk_at "m t") => `(tactic| with_reducible first
  | (refine' SB.boolOp ?k1; (case k1 => walk_at "m ts"))
  | (refine' SB.cmp (hm := ?k4) ?k1 ?k2 ?k3; (case k1 => walk_at "m e"); (case k2 => walk_at "m e"); (case k3 => walk_at "m c"); (case k4 => with_unfolding_all rfl))
  | (refine' SB.not ?k1; (case k1 => walk_at "m t"))
  | (refine' SB.ofInt (hv := ?k2) ?k1; (case k2 => with_unfolding_all (intro _; rfl)); (case k1 => walk_at "m e"))
  | (refine' SB.ofBool (hv := ?k2) ?k1; (case k2 => with_unfolding_all (intro _; rfl)); (case k1 => walk_at "m e"))
  | fail "m t 17")
local macro_rules | `(tactic| walk_at "m ts") => `(tactic| with_reducible first
  | exact SBs.and_nil | exact SBs.or_nil
  | (refine' SBs.and_cons ?k1 (fun hand => ?k2); (case k1 => walk_at "m t"); (case k2 => walk_at "m ts"))
  | (refine' SBs.or_cons ?k1 (fun hor => ?k2); (case k1 => walk_at "m t"); (case k2 => walk_at "m ts"))
  | fail "m ts")

local macro_rules | `(tactic| walk_at "m e") => `(tactic| with_reducible first
  | (refine' SE.ordAt (hsub := ?k0) ?k1 ?k2 ?k3 ?k4 ?k5 ?k6 ?k7; (case k0 => intro _ _; with_unfolding_all rfl); (case k1 => walk_at "m blt"); (case k2 => with_unfolding_all (intro _; rfl)); (case k3 => walk_at "m e"); (case k4 => walk_at "m e"); (case k5 => walk_at "m side"); (case k6 => walk_at "m side"); (case k7 => walk_at "m side"))
  | fail "m e 18")

local macro_rules | `(tactic| walk_at "m han") => `(tactic| exact Room.handled (by assumption))
local macro_rules | `(tactic| walk_at "m e") => `(tactic| with_reducible first
  | (refine' SE.sbk0 ?k0 ?k1 ?k2 ?k3 ?k4 ?k5 ?k6 ?k7 ?k8 ?k9 ?k10 ?k11; (case k0 => exact rfl); (case k1 => walk_at "m room"); (case k2 => kernel_rfl); (case k3 => with_unfolding_all (intro _; rfl)); (case k4 => walk_at "m e"); (case k5 => walk_at "m e"); (case k6 => walk_at "m e"); (case k7 => walk_at "m e"); (case k8 => walk_at "m e"); (case k9 => walk_at "m side"); (case k10 => walk_at "m side"); (case k11 => walk_at "m side"))
  | (refine' SE.chAt (hsub := ?k0) ?k3 ?k4 ?k5 ?k6 ?k7; (case k0 => intro _ _; with_unfolding_all rfl); (case k3 => walk_at "m e"); (case k4 => walk_at "m e"); (case k5 => walk_at "m side"); (case k6 => walk_at "m side"); (case k7 => walk_at "m side"))
  | (refine' SE.scan ?k0 ?k1; (case k0 => exact rfl); (case k1 => kernel_rfl))
  | (refine' SE.lenX ?k1 ?k2 ?k3 ?k4; (case k1 => walk_at "m blt"); (case k2 => with_unfolding_all (intro _; rfl)); (case k3 => walk_at "m e"); (case k4 => walk_at "m side"))
  | (refine' SE.range2 ?k1 ?k2 ?k3 ?k4; (case k1 => walk_at "m blt"); (case k2 => with_unfolding_all (intro _; rfl)); (case k3 => walk_at "m e"); (case k4 => walk_at "m e"))
  | (refine' SE.range1 ?k1 ?k2 ?k3; (case k1 => walk_at "m blt"); (case k2 => with_unfolding_all (intro _; rfl)); (case k3 => walk_at "m e"))
  | (refine' SE.min2 ?k1 ?k2 ?k5 ?k3 ?k4; (case k1 => walk_at "m blt"); (case k2 => with_unfolding_all (intro _; rfl)); (case k5 => walk_at "m han"); (case k3 => walk_at "m e"); (case k4 => walk_at "m e"))
  | (refine' SE.max2 ?k1 ?k2 ?k5 ?k3 ?k4; (case k1 => walk_at "m blt"); (case k2 => with_unfolding_all (intro _; rfl)); (case k5 => walk_at "m han"); (case k3 => walk_at "m e"); (case k4 => walk_at "m e"))
  | (refine' SE.abs ?k1 ?k2 ?k3; (case k1 => walk_at "m blt"); (case k2 => with_unfolding_all (intro _; rfl)); (case k3 => walk_at "m e"))
  | fail "m e 20")
local macro_rules | `(tactic| walk_at "m t") => `(tactic| with_reducible first
  | (refine' SB.chain2 (hm := ?k6) ?k1 ?k2 ?k3 ?k4 ?k5; (case k1 => walk_at "m e"); (case k2 => walk_at "m e"); (case k3 => walk_at "m c"); (case k4 => walk_at "m e"); (case k5 => walk_at "m c"); (case k6 => with_unfolding_all rfl))
  | fail "m t 20")

/-- the signs and their kinds -/
def signs : List (Nat × Str) := [(97, "other"), (769, "mark"), (8205, "joiner"), (10084, "picture"), (2381, "linker"), (2325, "letter"), (127462, "flag"), (1536, "ahead"), (4352, "L"), (4449, "V"), (44032, "LV"), (44033, "LVT"), (4520, "T"), (2307, "beside"), (13, "CR"), (10, "LF"), (8203, "control"), (8204, "still"), (20013, "other"), (169, "picture")]
def signsD : List D := [.tup [.str "a", .str "other"], .tup [.str "\u0301", .str "mark"], .tup [.str "\u200d", .str "joiner"], .tup [.str "\u2764", .str "picture"], .tup [.str "\u094d", .str "linker"], .tup [.str "\u0915", .str "letter"], .tup [.str "🇦", .str "flag"], .tup [.str "\u0600", .str "ahead"], .tup [.str "\u1100", .str "L"], .tup [.str "\u1161", .str "V"], .tup [.str "\uac00", .str "LV"], .tup [.str "\uac01", .str "LVT"], .tup [.str "\u11a8", .str "T"], .tup [.str "\u0903", .str "beside"], .tup [.str "\r", .str "CR"], .tup [.str "\n", .str "LF"], .tup [.str "\u200b", .str "control"], .tup [.str "\u200c", .str "still"], .tup [.str "\u4e2d", .str "other"], .tup [.str "\u00a9", .str "picture"]]
def signD (x : Nat × Str) : D := .tup [.str ⟨#[x.1]⟩, .str x.2]
theorem SE.sgTup {c : Cx} {σ : Sto} {a b : Str} {k k1 k2 : Nat} {p1 p2 p3 : Pos} : SE c σ (.Tuple [.Constant (.str a) k1 p1, .Constant (.str b) k2 p2] k p3) (.tup [.str a, .str b]) :=
  SE.tuple (.cons SE.str (.cons SE.str .nil)) (show (2 : Nat) ≤ sizeLine by decide) (by with_unfolding_all rfl)
theorem signs_eq : signs.map signD = signsD := by kernel_rfl
section
variable {prog : Program} {w : World} {mg mb : Str → Option Value}
theorem signs_fn : Fn prog w (KK w) mg mb 398 1 [] [] (.list (signs.map signD)) := by
  refine Fn.of_body (n := 0) (look398 w) (data398 w) (body398 w) (plain398 w) (code398 w) ?_ ?_
  · intro s av vs kvs T H r k
    obtain rfl := r
    obtain rfl := k
    exact ⟨_, .of_eq (bind398 w), rfl⟩
  · intro S₀ av A L R
    show SX _ empty (Stmt.Expr _ _ :: _) _
    walk_at "m s"
    rw [signs_eq]
    with_reducible refine' SX.ret (d := .list signsD) ?h0 ?h9
    case h9 => exact .inl rfl
    case h0 =>
      with_reducible refine' SE.list (hst := ?h2) ?h1 ?h3
      case h1 => unfold signsD; repeat (first | with_reducible exact SEs.nil | with_reducible refine' SEs.cons SE.sgTup ?_)
      case h2 => kernel_rfl
      case h3 => exact (show (20 : Nat) ≤ sizeLine by decide)
end
section
variable {c : Cx} {σ : Sto} (hK : c.K = KK c.w)
include hK
theorem SE.lsigns {p pos : Pos} (R : Room c.A 1) (hk : c.env.kindOf "_law_signs" = some .globalImplicit) (hs : plainArgs c []) :
    SE c σ (.Call (.Name "_law_signs" p) [] [] pos) (.list (signs.map signD)) :=
  SE.call (SE.glob hk (by rw [hK]; kernel_rfl : nsIn c.K mainGlobals "_law_signs" = some (some (.ref 398))) (by kernel_rfl)) .nil (by rw [hK]; exact look398 c.w) (data398 c.w) (by rw [hK]; exact signs_fn) R (hs _)
end

local macro_rules | `(tactic| walk_at "m look") => `(tactic| (repeat' (first | with_reducible assumption | with_reducible exact Look.here | (with_reducible refine' Look.there ?_ ?_; kernel_rfl) | (with_reducible refine' Look.noOwn ?_))))
local macro_rules | `(tactic| walk_at "m e") => `(tactic| with_reducible first
  | (refine' SE.lsigns ?k0 ?k1 ?k2 ?k3; (case k0 => exact rfl); (case k1 => walk_at "m room"); (case k2 => kernel_rfl); (case k3 => with_unfolding_all (intro _; rfl)))
  | (refine' SE.neg ?k1; (case k1 => walk_at "m e"))
  | fail "m e 23")

/-- the place in the table -/
def kix (cell : Int) : Nat := ((if cell < 0 then -cell else cell).fmod 20).toNat
theorem kix_lt (cell : Int) : kix cell < 20 := by
  unfold kix
  have := Int.fmod_lt_of_pos (if cell < 0 then -cell else cell) (b := 20) (by decide)
  omega
theorem kix_int (cell : Int) : ((if cell < 0 then -cell else cell).fmod 20) = (kix cell : Int) := by
  unfold kix
  have := Int.fmod_nonneg_of_pos (if cell < 0 then -cell else cell) (b := 20) (by decide)
  omega
def sgn (cell : Int) : Nat × Str := signs.getD (kix cell) (0, "")
/-- one sign more -/
def textTurn (st : List Nat × List Str) (cell : Int) : List Nat × List Str :=
  (st.1 ++ [if (((⟨#[(sgn cell).1]⟩ : Str) == "a") && (decide (st.2 ≠ []) && ((st.2.getLastD "" == "ahead") && true))) = true then 20013 else (sgn cell).1], st.2 ++ [(sgn cell).2])
def textOf (l : List Int) : List Nat × List Str := (l.take 16).foldl textTurn ([], [])
theorem textTurn_len (st : List Nat × List Str) (cell : Int) : (textTurn st cell).1.length = st.1.length + 1 ∧ (textTurn st cell).2.length = st.2.length + 1 := by simp [textTurn]
theorem fold_len (l : List Int) : ∀ st : List Nat × List Str, (l.foldl textTurn st).1.length = st.1.length + l.length ∧ (l.foldl textTurn st).2.length = st.2.length + l.length := by
  induction l with
  | nil => intro st; simp
  | cons a l ih => intro st; have := ih (textTurn st a); have h := textTurn_len st a; simp only [List.foldl_cons, List.length_cons]; omega
theorem Sx_snoc (l : List Nat) (n : Nat) : Sx l ++ (⟨#[n]⟩ : Str) = Sx (l ++ [n]) := by
  show (⟨l.toArray ++ #[n]⟩ : Str) = ⟨(l ++ [n]).toArray⟩
  simp
section
variable {prog : Program} {w : World} {mg mb : Str → Option Value}
theorem text_fn (l : List Int) (hl : l.length < 1000000) : Fn prog w (KK w) mg mb 405 2 [.list (l.map D.int)] [] (.tup [.str (Sx (textOf l).1), .list ((textOf l).2.map D.str)]) := by
  refine Fn.of_body (n := 1) (look405 w) (data405 w) (body405 w) (plain405 w (.list (l.map D.int))) (code405 w) ?_ ?_
  · intro s av vs kvs T H r k
    obtain ⟨v, rfl, r1⟩ := one r
    obtain rfl := k
    exact ⟨_, .of_eq (bind405 w v), v, _, rfl, r1, rfl⟩
  · intro S₀ av A L R
    show SX _ (upd empty "script" _) (Stmt.Expr _ _ :: _) _
    dsimp only
    walk_at "m s"
    walk_at "m s"
    refine' SX.newOwn (hst := ?h1) (hs := ?h2) SEs.nil ?h3 ?h4 (fun a ha => ?h5)
    case h1 => with_unfolding_all rfl
    case h2 => with_unfolding_all rfl
    case h3 => decide
    case h4 => kernel_rfl
    refine' SX.for_ (l := l.take 16) (SI.listI ?i1 ?i2) ?i3 ?i4 (fun k σ => Look σ "script" (.d (.list (l.map D.int))) ∧ Look σ "text" (.d (.str (Sx (((l.take 16).take k).foldl textTurn ([], [])).1))) ∧ Look σ "kinds" (.own a ((((l.take 16).take k).foldl textTurn ([], [])).2.map D.str))) ?i5 ?i6 ?i7 ?i8
    case i1 =>
      rw [← sl_upto, ← sl_map]
      refine' SE.sliceL (ht := ?j1) ?j2 SP.none (SP.some ?j3) ?j4
      case j1 => with_unfolding_all (intro _ _; rfl)
      case j2 => walk_at "m e"
      case j3 => exact SE.int
      case j4 => exact Nat.le_trans (by simp; omega) (show 1000000 ≤ sizeLine by decide)
    case i2 => exact R.le (by decide)
    case i3 => exact R.le (by decide)
    case i4 => kernel_rfl
    case i8 => with_unfolding_all (intro _; rfl)
    case i5 =>
      refine ⟨by walk_at "m look", ?_, ?_⟩
      · show Look _ _ (.d (.str (Sx [])))
        rw [← (by decide : ("" : Str) = Sx [])]; walk_at "m look"
      · show Look _ _ (.own a []); walk_at "m look"
    case i7 =>
      rintro σ ⟨s1, s2, s3⟩
      rw [List.take_of_length_le (Nat.le_refl _)] at s2 s3
      refine SX.freeze s3 ha ?_
      refine' SX.ret (d := .tup [.str (Sx ((l.take 16).foldl textTurn ([], [])).1), .list (((l.take 16).foldl textTurn ([], [])).2.map D.str)]) (SE.tuple (hst := ?n2) ?n1 ?n3) (.inl rfl)
      case n1 => exact .cons (SE.name (by walk_at "m look")) (.cons (SE.name (by walk_at "m look")) .nil)
      case n2 => with_unfolding_all rfl
      case n3 => exact (show (2 : Nat) ≤ sizeLine by decide)
    rintro k cell σ hk ⟨s1, s2, s3⟩ S₁ av₁
    have hkl : k < 16 := by
      have := (List.getElem?_eq_some_iff.mp hk).1
      rw [List.length_take] at this; omega
    have hfold : ((l.take 16).take (k + 1)).foldl textTurn ([], []) = textTurn (((l.take 16).take k).foldl textTurn ([], [])) cell := by
      rw [show (l.take 16).take (k + 1) = (l.take 16).take k ++ [cell] from by rw [List.take_add_one, hk]; rfl, List.foldl_append]; rfl
    have hlen := fold_len ((l.take 16).take k) ([], [])
    have hlk : ((l.take 16).take k).length ≤ 16 := by simp; omega
    generalize hst : ((l.take 16).take k).foldl textTurn ([], []) = st at *
    obtain ⟨tx, ks⟩ := st
    dsimp only at s2 s3 hlen
    have hx1 : tx.length ≤ 16 := by have := hlen.1; simp only [List.length_nil] at this; omega
    have hx2 : ks.length ≤ 16 := by have := hlen.2; simp only [List.length_nil] at this; omega
    have hsg : (signs.map signD)[kix cell]? = some (signD (sgn cell)) := by
      have h20 : kix cell < signs.length := kix_lt cell
      rw [List.getElem?_map, List.getElem?_eq_getElem h20]
      unfold sgn
      rw [List.getD_eq_getElem?_getD, List.getElem?_eq_getElem h20]; rfl
    generalize hsc : sgn cell = sc at hsg
    obtain ⟨n, kd⟩ := sc
    refine' SX.assign2 (hs := ?o1) (hw := ?o2) (d := .str ⟨#[n]⟩) (d' := .str kd) (SE.itemL (l := signs.map signD) (k := kix cell) (j := kix cell) ?o3 ?o4 ?o5 hsg ?o6 ?o7) ?o8 ?o9 ?o10 ?o11
    case o1 => with_unfolding_all rfl
    case o2 => with_unfolding_all rfl
    case o3 => walk_at "m e"
    case o4 => rw [← kix_int]; walk_at "m e"
    case o5 => exact seq_ok (by omega) (by have := kix_lt cell; show (_ : Int) < ((20 : Nat) : Int); omega)
    case o6 => decide
    case o7 => with_unfolding_all (intro _ _; rfl)
    case o8 => exact R.le (by decide)
    case o9 => kernel_rfl
    case o10 => kernel_rfl
    refine' SX.if1 (SB.boolOp (SBs.and_cons (b := (⟨#[n]⟩ : Str) == "a") ?p1 (fun g1 => SBs.and_cons (b := decide (ks ≠ [])) ?p2 (fun g2 => SBs.and_cons (b := ks.getLastD "" == "ahead") ?p3 (fun _ => SBs.and_nil))))) (fun h => ?p4) (fun h => ?p5)
    case p1 => walk_at "m t"
    case p2 => exact SB.ownNeS (a := a) (by walk_at "m look") (R.le (by decide))
    case p3 =>
      refine' SB.cmp (hm := ?q1) (SE.ownLastS (a := a) (ks := ks) ?q2 ?q3 ?q4) SE.str CmpOK.eqS
      case q1 => with_unfolding_all rfl
      case q2 => walk_at "m look"
      case q3 => simpa using g2
      case q4 => omega
    case p4 =>
      walk_at "m s"
      refine' SX.nil ?r1
      show SX _ _ _ _
      refine' SX.assign (d := .str (Sx (tx ++ [20013]))) (hs := ?r2) ?r3 ?r4 ?r5
      case r2 => with_unfolding_all rfl
      case r4 => kernel_rfl
      case r3 =>
        rw [← Sx_snoc]
        refine' SE.bin ?r6 ?r7 (BinOK.addS ?r8)
        case r6 => walk_at "m e"
        case r7 =>
          rw [(by decide : (⟨#[20013]⟩ : Str) = "中")]
          walk_at "m e"
        case r8 => rw [Sx_len]; exact Nat.le_trans (by show _ + 1 ≤ 17; omega) (show 17 ≤ sizeLine by decide)
      refine' SX.append (d := .str kd) (l := ks.map D.str) (a := a) ?t1 ?t2 ?t3 ?t4 ?t5 ?t6 ?t7 ?t8 ?t9 ?t10
      case t1 => walk_at "m look"
      case t2 => walk_at "m e"
      case t3 => simp; omega
      case t5 => with_unfolding_all rfl
      case t6 => with_unfolding_all rfl
      case t7 => with_unfolding_all rfl
      case t8 => with_unfolding_all rfl
      case t9 => with_unfolding_all rfl
      case t10 => with_unfolding_all rfl
      refine SX.nil (show _ ∧ _ ∧ _ from ?_)
      rw [hfold]
      unfold textTurn
      rw [hsc]
      dsimp only
      rw [if_pos h, List.map_append, List.map_singleton]
      exact ⟨by walk_at "m look", by walk_at "m look", by walk_at "m look"⟩
    refine' SX.assign (d := .str (Sx (tx ++ [n]))) (hs := ?u2) ?u3 ?u4 ?u5
    case u2 => with_unfolding_all rfl
    case u4 => kernel_rfl
    case u3 =>
      rw [← Sx_snoc]
      refine' SE.bin ?u6 ?u7 (BinOK.addS ?u8)
      case u6 => walk_at "m e"
      case u7 => walk_at "m e"
      case u8 => rw [Sx_len]; exact Nat.le_trans (by show _ + 1 ≤ 17; omega) (show 17 ≤ sizeLine by decide)
    refine' SX.append (d := .str kd) (l := ks.map D.str) (a := a) ?v1 ?v2 ?v3 ?v4 ?v5 ?v6 ?v7 ?v8 ?v9 ?v10
    case v1 => walk_at "m look"
    case v2 => walk_at "m e"
    case v3 => simp; omega
    case v5 => with_unfolding_all rfl
    case v6 => with_unfolding_all rfl
    case v7 => with_unfolding_all rfl
    case v8 => with_unfolding_all rfl
    case v9 => with_unfolding_all rfl
    case v10 => with_unfolding_all rfl
    refine SX.nil (show _ ∧ _ ∧ _ from ?_)
    rw [hfold]
    unfold textTurn
    rw [hsc]
    dsimp only
    rw [if_neg (by rw [h]; decide), List.map_append, List.map_singleton]
    exact ⟨by walk_at "m look", by walk_at "m look", by walk_at "m look"⟩
end
end Mine

open PySem PySem.W PyProof.Rows PySem.Calls
set_option Elab.async false
set_option linter.unusedVariables false
set_option linter.unusedSimpArgs false
set_option maxRecDepth 100000
namespace Mine
def runU (p : Int → Bool) : Nat → Int → Int
  | 0, j => j
  | n + 1, j => if p j = true then runU p n (j + 1) else j
def runD (p : Int → Bool) : Nat → Int → Int
  | 0, j => j
  | n + 1, j => if p j = true then runD p n (j - 1) else j
theorem runU_range (p : Int → Bool) (N : Int) (hp : ∀ j, p j = true → j + 1 < N) : ∀ (n : Nat) (j : Int), j < N → j ≤ runU p n j ∧ runU p n j < N
  | 0, j, h => ⟨Int.le_refl _, h⟩
  | n + 1, j, h => by
    unfold runU
    split
    · rename_i q
      have := runU_range p N hp n (j + 1) (hp j q)
      omega
    · exact ⟨Int.le_refl _, h⟩
theorem runD_range (p : Int → Bool) (b : Int) (hp : ∀ j, p j = true → b ≤ j) : ∀ (n : Nat) (j : Int), b - 1 ≤ j → b - 1 ≤ runD p n j ∧ runD p n j ≤ j
  | 0, j, h => ⟨h, Int.le_refl _⟩
  | n + 1, j, h => by
    unfold runD
    split
    · rename_i q
      have := runD_range p b hp n (j - 1) (by have := hp j q; omega)
      omega
    · exact ⟨h, Int.le_refl _⟩

section
variable {c : Cx} {σ : Sto} {P : FD → Sto → Prop} {rest : List Stmt}
/-- while test: x = x + 1 -/
theorem SX.runU {test e px pos pos2} {x : Str} (p : Int → Bool) (J : Sto → Prop) (N j₀ : Int) (hJ : ∀ σ v, J σ → J (upd σ x v)) (h0 : J σ) (hx : Look σ x (.d (.int j₀))) (hN : j₀ < N) (hp : ∀ j, p j = true → j + 1 < N)
    (ht : ∀ σ j, J σ → Look σ x (.d (.int j)) → j₀ ≤ j → j < N → SB c σ test (p j)) (he : ∀ σ j, J σ → Look σ x (.d (.int j)) → SE c σ e (.int (j + 1))) (hv : varOk c.env x = true)
    (hs : swapsWith e (some (.Name x px)) pos2.line c.env = pure false) (after : ∀ σ, J σ → Look σ x (.d (.int (Mine.runU p (N - j₀).toNat j₀))) → SX c σ rest P) :
    SX c σ (.While test [.Assign [.Name x px] e pos2] [] pos :: rest) P := by
  refine SX.while_ (fun n σ => ∃ j, J σ ∧ Look σ x (.d (.int j)) ∧ j₀ ≤ j ∧ j < N ∧ n = (N - j).toNat ∧ Mine.runU p n j = Mine.runU p (N - j₀).toNat j₀) (N - j₀).toNat ⟨j₀, h0, hx, Int.le_refl _, hN, rfl, rfl⟩ ?_
  rintro n σ ⟨j, h1, h2, h3, h4, h5, h6⟩
  have hk : ∃ k, n = k + 1 := ⟨n - 1, by omega⟩
  obtain ⟨k, rfl⟩ := hk
  refine ⟨p j, ht σ j h1 h2 h3 h4, fun q => ?_, fun q => ?_⟩
  · refine SX.assign (he σ j h1 h2) hv (SX.nil ⟨k, by omega, j + 1, hJ _ _ h1, Look.here, by omega, hp j q, by omega, ?_⟩) hs
    rw [← h6]
    show _ = if p j = true then Mine.runU p k (j + 1) else j
    rw [if_pos q]
  · refine after σ h1 ?_
    rw [← h6]
    have e : Mine.runU p (k + 1) j = j := by
      show (if p j = true then Mine.runU p k (j + 1) else j) = j
      rw [if_neg (by rw [q]; decide)]
    rw [e]; exact h2
/-- while test: x = x - 1 -/
theorem SX.runD {test e px pos pos2} {x : Str} (p : Int → Bool) (J : Sto → Prop) (b j₀ : Int) (hJ : ∀ σ v, J σ → J (upd σ x v)) (h0 : J σ) (hx : Look σ x (.d (.int j₀))) (hb : b - 1 ≤ j₀) (hp : ∀ j, p j = true → b ≤ j)
    (ht : ∀ σ j, J σ → Look σ x (.d (.int j)) → b - 1 ≤ j → j ≤ j₀ → SB c σ test (p j)) (he : ∀ σ j, J σ → Look σ x (.d (.int j)) → SE c σ e (.int (j - 1))) (hv : varOk c.env x = true)
    (hs : swapsWith e (some (.Name x px)) pos2.line c.env = pure false) (after : ∀ σ, J σ → Look σ x (.d (.int (Mine.runD p (j₀ - b + 2).toNat j₀))) → SX c σ rest P) :
    SX c σ (.While test [.Assign [.Name x px] e pos2] [] pos :: rest) P := by
  refine SX.while_ (fun n σ => ∃ j, J σ ∧ Look σ x (.d (.int j)) ∧ b - 1 ≤ j ∧ j ≤ j₀ ∧ n = (j - b + 2).toNat ∧ Mine.runD p n j = Mine.runD p (j₀ - b + 2).toNat j₀) (j₀ - b + 2).toNat ⟨j₀, h0, hx, hb, Int.le_refl _, rfl, rfl⟩ ?_
  rintro n σ ⟨j, h1, h2, h3, h4, h5, h6⟩
  have hk : ∃ k, n = k + 1 := ⟨n - 1, by omega⟩
  obtain ⟨k, rfl⟩ := hk
  refine ⟨p j, ht σ j h1 h2 h3 h4, fun q => ?_, fun q => ?_⟩
  · refine SX.assign (he σ j h1 h2) hv (SX.nil ⟨k, by omega, j - 1, hJ _ _ h1, Look.here, by have := hp j q; omega, by omega, by omega, ?_⟩) hs
    rw [← h6]
    show _ = if p j = true then Mine.runD p k (j - 1) else j
    rw [if_pos q]
  · refine after σ h1 ?_
    rw [← h6]
    have e : Mine.runD p (k + 1) j = j := by
      show (if p j = true then Mine.runD p k (j - 1) else j) = j
      rw [if_neg (by rw [q]; decide)]
    rw [e]; exact h2

/-- a kind at a place -/
def kd (ks : List Str) (j : Int) : Str := ks.getD j.toNat ""
theorem SE.kAt {v i pos} {ks : List Str} {k : Int} (hx : SE c σ v (.list (ks.map D.str))) (hi : SE c σ i (.int k)) (h0 : 0 ≤ k) (h1 : k < ks.length) (hf : ks.length < 1000000)
    (hsub : ∀ o u, subscripted i false o u = operate [o, u] (getItem o u) := by intro _ _; rfl) : SE c σ (.Subscript v i pos) (.str (kd ks k)) := by
  refine SE.itemL (k := k) (j := k.toNat) hx hi ?_ ?_ (by simp; omega) hsub
  · rw [List.length_map]; exact seq_ok h0 h1
  · have hk : k.toNat < ks.length := by omega
    unfold kd
    rw [List.getElem?_map, List.getElem?_eq_getElem hk, List.getD_eq_getElem?_getD, List.getElem?_eq_getElem hk]; rfl
theorem SE.lenK {p pos : Pos} {e : Expr} {ks : List Str} (hb : bltOk c "len" (.builtin "len")) (hs : plainArgs c [e]) (h : SE c σ e (.list (ks.map D.str))) (hf : ks.length < 1000000) : SE c σ (.Call (.Name "len" p) [e] [] pos) (.int ks.length) := by
  have := SE.lenL (pos := pos) (p := p) hb hs h (by simp; omega)
  rw [List.length_map] at this; exact this
theorem SE.lenI {p pos : Pos} {e : Expr} {ks : List Int} (hb : bltOk c "len" (.builtin "len")) (hs : plainArgs c [e]) (h : SE c σ e (.list (ks.map D.int))) (hf : ks.length < 1000000) : SE c σ (.Call (.Name "len" p) [e] [] pos) (.int ks.length) := by
  have := SE.lenL (pos := pos) (p := p) hb hs h (by simp; omega)
  rw [List.length_map] at this; exact this
theorem CmpOK.inS2 {x a b : Str} : CmpOK c .In (.str x) (.tup [.str a, .str b]) ([a, b].any (· == x)) := CmpOK.inS rfl
theorem CmpOK.inS3 {x a b d : Str} : CmpOK c .In (.str x) (.tup [.str a, .str b, .str d]) ([a, b, d].any (· == x)) := CmpOK.inS rfl
theorem CmpOK.inS4 {x a b d e : Str} : CmpOK c .In (.str x) (.tup [.str a, .str b, .str d, .str e]) ([a, b, d, e].any (· == x)) := CmpOK.inS rfl
theorem CmpOK.inS5 {x a b d e f : Str} : CmpOK c .In (.str x) (.tup [.str a, .str b, .str d, .str e, .str f]) ([a, b, d, e, f].any (· == x)) := CmpOK.inS rfl
theorem CmpOK.notInS3 {x a b d : Str} : CmpOK c .NotIn (.str x) (.tup [.str a, .str b, .str d]) (!([a, b, d].any (· == x))) := CmpOK.notInS rfl
/-- a and b, as a value -/
theorem SE.and2 {e₁ e₂ pos b₁ b₂} (h₁ : SE c σ e₁ (.bool b₁)) (h₂ : b₁ = true → SE c σ e₂ (.bool b₂)) : SE c σ (.BoolOp .And [e₁, e₂] pos) (.bool (b₁ && b₂)) := fun own s Q E G h => by
  refine BoolOp_and (h₁ own s _ _ G fun v s₁ x₁ r₁ => ?_)
  obtain rfl := r₁
  refine wpAny_truthy_bool ?_
  cases b₁ with
  | false => exact h _ s₁ x₁ rfl
  | true => exact h₂ rfl own s₁ _ _ (G.ext x₁) fun v s₂ x₂ r₂ => h v s₂ (x₁.trans x₂) r₂
/-- a kind or two of them, compared -/
theorem SB.kSlice {x p lo hi q pos pos2 q2 q3} {ks : List Str} {a b : Int} {y : Str} {k : Nat} (hx : Look σ x (.d (.list (ks.map D.str)))) (hl : SE c σ lo (.int a)) (hu : SE c σ hi (.int b)) (hf : ks.length < 1000000) (hA : Room c.A 0) :
    SB c σ (.Compare (.Subscript (.Name x p) (.Slice (some lo) (some hi) Option.none q) pos) [.Eq] [.List [.Constant (.str y) k q2] q3] pos2) (sl ks (some a) (some b) == [y]) :=
  SB.cmp (SE.sliceL (SE.name hx) (.some hl) (.some hu) (Nat.le_trans (by simp; omega) (show 1000000 ≤ sizeLine by decide)) (by with_unfolding_all (intro _ _; rfl)))
    (SE.list (.cons SE.str .nil) (show (1 : Nat) ≤ sizeLine by decide) (by with_unfolding_all rfl)) (CmpOK.eqL (sl_map _ _ _ _) rfl hA) (by with_unfolding_all rfl)
end
end Mine

open PySem PySem.W PyProof.Rows PySem.Calls
set_option Elab.async false
set_option linter.unusedVariables false
set_option linter.unusedSimpArgs false
set_option maxRecDepth 100000
namespace Mine
/-! ## the lines of the walk: the law's own functions -/
local macro_rules | `(tactic| walk_at "k look") => `(tactic| (repeat' (first | with_reducible assumption | with_reducible exact Look.here | (with_reducible refine' Look.there ?_ ?_; kernel_rfl) | (with_reducible refine' Look.noOwn ?_))))
local macro_rules | `(tactic| walk_at "k blt") => `(tactic| (refine' bltOk.mk' ?_ ?_ ?_ ?_ ?_ <;> kernel_rfl))
local macro_rules | `(tactic| walk_at "k room") => `(tactic| first | with_reducible assumption | exact Room.le (by assumption) (by decide))
local macro_rules | `(tactic| walk_at "k side") => `(tactic| first | with_reducible assumption | omega | (simp only [decide_eq_true_eq] at *; omega) | (simp only [List.length_map]; omega))
local macro_rules | `(tactic| walk_at "k c") => `(tactic| with_reducible first
  | exact CmpOK.eqS | exact CmpOK.eqI | exact CmpOK.ltI | exact CmpOK.geI | exact CmpOK.inS2 | exact CmpOK.inS3 | exact CmpOK.inS4 | exact CmpOK.inS5 | exact CmpOK.notInS3)
local macro_rules | `(tactic| walk_at "k es") => `(tactic| with_reducible first
  | exact SEs.nil
  | (refine' SEs.cons ?k1 ?k2; (case k1 => walk_at "k e"); (case k2 => walk_at "k es")))
local macro_rules | `(tactic| walk_at "k e") => `(tactic| with_reducible first
  | exact SE.int | exact SE.str | exact SE.bool
  | (refine' SE.name ?k1; (case k1 => walk_at "k look"))
  | (refine' SE.kAt (hsub := ?k0) ?k1 ?k2 ?k3 ?k4 ?k5; (case k0 => with_unfolding_all (intro _ _; rfl)); (case k1 => walk_at "k e"); (case k2 => walk_at "k e"); (case k3 => walk_at "k side"); (case k4 => walk_at "k side"); (case k5 => walk_at "k side"))
  | (refine' SE.bin ?k1 ?k2 ?k3; (case k1 => walk_at "k e"); (case k2 => walk_at "k e"); (case k3 => first | exact BinOK.addI | exact BinOK.subI))
  | (refine' SE.lenK ?k1 ?k2 ?k3 ?k4; (case k1 => walk_at "k blt"); (case k2 => with_unfolding_all (intro _; rfl)); (case k3 => walk_at "k e"); (case k4 => walk_at "k side"))
  | (refine' SE.cmp (hm := ?k4) ?k1 ?k2 ?k3; (case k1 => walk_at "k e"); (case k2 => walk_at "k e"); (case k3 => walk_at "k c"); (case k4 => with_unfolding_all rfl))
  | (refine' SE.tuple (hst := ?k2) ?k1 ?k3; (case k1 => walk_at "k es"); (case k2 => with_unfolding_all rfl); (case k3 => with_unfolding_all (show (_ : Nat) ≤ _; decide)))
  | (refine' SE.and2 ?k1 (fun hand2 => ?k2); (case k1 => walk_at "k e"); (case k2 => walk_at "k e"))
  | fail "k e")
local macro_rules | `(tactic| walk_at "k t") => `(tactic| with_reducible first
  | (refine' SB.kSlice ?k1 ?k2 ?k3 ?k4 ?k5; (case k1 => walk_at "k look"); (case k2 => walk_at "k e"); (case k3 => walk_at "k e"); (case k4 => walk_at "k side"); (case k5 => walk_at "k room"))
  | (refine' SB.cmp (hm := ?k4) ?k1 ?k2 ?k3; (case k1 => walk_at "k e"); (case k2 => walk_at "k e"); (case k3 => walk_at "k c"); (case k4 => with_unfolding_all rfl))
  | (refine' SB.boolOp ?k1; (case k1 => walk_at "k ts"))
  | (refine' SB.ofBool (hv := ?k2) ?k1; (case k2 => with_unfolding_all (intro _; rfl)); (case k1 => walk_at "k e"))
  | fail "k t")
local macro_rules | `(tactic| walk_at "k ts") => `(tactic| with_reducible first
  | exact SBs.and_nil | exact SBs.or_nil
  | (refine' SBs.and_cons ?k1 (fun hand => ?k2); (case k1 => walk_at "k t"); (case k2 => walk_at "k ts"))
  | (refine' SBs.or_cons ?k1 (fun hor => ?k2); (case k1 => walk_at "k t"); (case k2 => walk_at "k ts"))
  | fail "k ts")
local macro_rules | `(tactic| walk_at "k s") => `(tactic| with_reducible first
  | refine' SX.doc ?_
  | (refine' SX.assign (hs := ?k3) ?k1 ?k2 ?k4; (case k1 => walk_at "k e"); (case k2 => kernel_rfl); (case k3 => with_unfolding_all rfl))
  | fail "k s")

def kp1 (ks : List Str) (j : Int) : Bool := (kd ks j == "L") && (decide (j + 1 < ks.length) && (([("L" : Str), "V", "LV", "LVT"].any (· == kd ks (j + 1))) && true))
def kp2 (ks : List Str) (j : Int) : Bool := ([("V" : Str), "LV"].any (· == kd ks j)) && (decide (j + 1 < ks.length) && ((kd ks (j + 1) == "V") && true))
def kp3 (ks : List Str) (j : Int) : Bool := ([("V" : Str), "LV", "LVT", "T"].any (· == kd ks j)) && (decide (j + 1 < ks.length) && ((kd ks (j + 1) == "T") && true))
theorem and_lt {b b' : Bool} {i n : Int} (h : (b && (decide (i < n) && b')) = true) : i < n := by
  simp only [Bool.and_eq_true, decide_eq_true_eq] at h; exact h.2.1
/-- _law_korean -/
def kor (ks : List Str) (j : Int) : Int :=
  let j1 := runU (kp1 ks) (ks.length - j).toNat j
  let j2 := runU (kp2 ks) (ks.length - j1).toNat j1
  runU (kp3 ks) (ks.length - j2).toNat j2 + 1
theorem kor_range (ks : List Str) (j : Int) (h : j < ks.length) : j + 1 ≤ kor ks j ∧ kor ks j ≤ ks.length := by
  have r1 := runU_range (kp1 ks) ks.length (fun j h => and_lt h) (ks.length - j).toNat j h
  have r2 := runU_range (kp2 ks) ks.length (fun j h => and_lt h) (ks.length - runU (kp1 ks) (ks.length - j).toNat j).toNat _ r1.2
  have r3 := runU_range (kp3 ks) ks.length (fun j h => and_lt h) (ks.length - runU (kp2 ks) (ks.length - runU (kp1 ks) (ks.length - j).toNat j).toNat (runU (kp1 ks) (ks.length - j).toNat j)).toNat _ r2.2
  unfold kor
  dsimp only
  omega
section
variable {prog : Program} {w : World} {mg mb : Str → Option Value}
theorem kor_fn (ks : List Str) (j : Int) (h0 : 0 ≤ j) (h1 : j < ks.length) (hf : ks.length < 1000000) : Fn prog w (KK w) mg mb 412 1 [.list (ks.map D.str), .int j] [] (.int (kor ks j)) := by
  refine Fn.of_body (n := 0) (look412 w) (data412 w) (body412 w) (plain412 w (.list (ks.map D.str)) (.int j)) (code412 w) ?_ ?_
  · intro s av vs kvs T H r k
    obtain ⟨v, v', rfl, r1, r2⟩ := two r
    obtain rfl := k
    exact ⟨_, .of_eq (bind412 w v v'), v, _, rfl, r1, v', _, rfl, r2, rfl⟩
  · intro S₀ av A L R
    show SX _ (upd (upd empty "kinds" _) "j" _) (Stmt.Expr _ _ :: _) _
    dsimp only
    walk_at "k s"
    let J : Sto → Prop := fun σ => Look σ "kinds" (.d (.list (ks.map D.str)))
    have hJ : ∀ σ v, J σ → J (upd σ "j" v) := fun σ v h => Look.there (by kernel_rfl) h
    have hlt1 : ∀ j, kp1 ks j = true → j + 1 < ks.length := fun j h => and_lt h
    have hlt2 : ∀ j, kp2 ks j = true → j + 1 < ks.length := fun j h => and_lt h
    have hlt3 : ∀ j, kp3 ks j = true → j + 1 < ks.length := fun j h => and_lt h
    refine' SX.runU (kp1 ks) J ks.length j hJ ?a1 ?a2 h1 hlt1 ?a3 ?a4 ?a5 ?a6 (fun σ s1 s2 => ?a7)
    case a1 =>
      show Look _ "kinds" (.d (.list (ks.map D.str)))
      walk_at "k look"
    case a2 => walk_at "k look"
    case a5 => kernel_rfl
    case a6 => with_unfolding_all rfl
    case a4 => intro σ j s1 s2; walk_at "k e"
    case a3 =>
      intro σ j s1 s2 q1 q2
      have q3 : 0 ≤ j := by omega
      show SB _ _ _ ((kd ks j == "L") && (decide (j + 1 < ks.length) && (([("L" : Str), "V", "LV", "LVT"].any (· == kd ks (j + 1))) && true)))
      walk_at "k t"
    have r1 := runU_range (kp1 ks) ks.length hlt1 (ks.length - j).toNat j h1
    generalize hj1 : runU (kp1 ks) (ks.length - j).toNat j = j1 at r1 s2
    refine' SX.runU (kp2 ks) J ks.length j1 hJ s1 s2 r1.2 hlt2 ?b3 ?b4 ?b5 ?b6 (fun σ s1 s2 => ?b7)
    case b5 => kernel_rfl
    case b6 => with_unfolding_all rfl
    case b4 => intro σ j s1 s2; walk_at "k e"
    case b3 =>
      intro σ j s1 s2 q1 q2
      have q3 : 0 ≤ j := by omega
      show SB _ _ _ (([("V" : Str), "LV"].any (· == kd ks j)) && (decide (j + 1 < ks.length) && ((kd ks (j + 1) == "V") && true)))
      walk_at "k t"
    have r2 := runU_range (kp2 ks) ks.length hlt2 (ks.length - j1).toNat j1 r1.2
    generalize hj2 : runU (kp2 ks) (ks.length - j1).toNat j1 = j2 at r2 s2
    refine' SX.runU (kp3 ks) J ks.length j2 hJ s1 s2 r2.2 hlt3 ?c3 ?c4 ?c5 ?c6 (fun σ s1 s2 => ?c7)
    case c5 => kernel_rfl
    case c6 => with_unfolding_all rfl
    case c4 => intro σ j s1 s2; walk_at "k e"
    case c3 =>
      intro σ j s1 s2 q1 q2
      have q3 : 0 ≤ j := by omega
      show SB _ _ _ (([("V" : Str), "LV", "LVT", "T"].any (· == kd ks j)) && (decide (j + 1 < ks.length) && ((kd ks (j + 1) == "T") && true)))
      walk_at "k t"
    refine' SX.ret (d := .int (runU (kp3 ks) (ks.length - j2).toNat j2 + 1)) ?d1 ?d2
    case d1 => walk_at "k e"
    left
    unfold kor
    rw [hj1]
    dsimp only
    rw [hj2]
end
def jp1 (ks : List Str) (b k : Int) : Bool := decide (b ≤ k) && (([("mark" : Str), "linker", "still"].any (· == kd ks k)) && true)
def jp2 (ks : List Str) (b k : Int) : Bool := decide (b ≤ k) && (([("mark" : Str), "joiner"].any (· == kd ks k)) && true)
theorem and_le {b' : Bool} {i n : Int} (h : (decide (i ≤ n) && b') = true) : i ≤ n := by
  simp only [Bool.and_eq_true, decide_eq_true_eq] at h; exact h.1
/-- _law_joined -/
def joined (ks : List Str) (j b : Int) : Bool :=
  if ([("mark" : Str), "linker", "joiner", "beside", "still"].any (· == kd ks j)) = true then true
  else if ((kd ks j == "picture") && ((kd ks (j - 1) == "joiner") && true)) = true then
    (let k := runD (jp1 ks b) (j - 1 - 1 - b + 2).toNat (j - 1 - 1); decide (b ≤ k) && (kd ks k == "picture"))
  else if (kd ks j == "letter") = true then (let k := runD (jp2 ks b) (j - 1 - b + 2).toNat (j - 1); decide (b ≤ k) && (kd ks k == "linker"))
  else false
section
variable {prog : Program} {w : World} {mg mb : Str → Option Value}
theorem joined_fn (ks : List Str) (j b : Int) (h0 : 0 ≤ b) (hb : b < j) (h1 : j < ks.length) (hf : ks.length < 1000000) : Fn prog w (KK w) mg mb 419 1 [.list (ks.map D.str), .int j, .int b] [] (.bool (joined ks j b)) := by
  refine Fn.of_body (n := 0) (look419 w) (data419 w) (body419 w) (plain419 w (.list (ks.map D.str)) (.int j) (.int b)) (code419 w) ?_ ?_
  · intro s av vs kvs T H r k
    obtain ⟨v, v', v'', rfl, r1, r2, r3⟩ := three r
    obtain rfl := k
    exact ⟨_, .of_eq (bind419 w v v' v''), v, _, rfl, r1, v', _, rfl, r2, v'', _, rfl, r3, rfl⟩
  · intro S₀ av A L R
    show SX _ (upd (upd (upd empty "kinds" _) "j" _) "begin" _) (Stmt.Expr _ _ :: _) _
    dsimp only
    walk_at "k s"
    have q0 : 0 ≤ j := by omega
    refine' SX.if1 ?t1 (fun h => ?a1) (fun h => ?b1)
    case t1 => walk_at "k t"
    case a1 =>
      refine' SX.ret (d := .bool true) ?a2 (.inl ?a3)
      case a2 => walk_at "k e"
      unfold joined; rw [if_pos h]
    have hj1 : joined ks j b = if ((kd ks j == "picture") && ((kd ks (j - 1) == "joiner") && true)) = true then
      (let k := runD (jp1 ks b) (j - 1 - 1 - b + 2).toNat (j - 1 - 1); decide (b ≤ k) && (kd ks k == "picture"))
      else if (kd ks j == "letter") = true then (let k := runD (jp2 ks b) (j - 1 - b + 2).toNat (j - 1); decide (b ≤ k) && (kd ks k == "linker"))
      else false := by unfold joined; rw [if_neg (by rw [h]; decide)]
    rw [hj1]
    walk_at "k s"
    let J : Sto → Prop := fun σ => Look σ "kinds" (.d (.list (ks.map D.str))) ∧ Look σ "begin" (.d (.int b))
    have hJ : ∀ σ v, J σ → J (upd σ "k" v) := fun σ v h => ⟨Look.there (by kernel_rfl) h.1, Look.there (by kernel_rfl) h.2⟩
    refine' SX.if1 ?t2 (fun h2 => ?c1) (fun h2 => ?d1)
    case t2 => walk_at "k t"
    case c1 =>
      rw [if_pos h2]
      walk_at "k s"
      refine' SX.runD (jp1 ks b) J b (j - 1 - 1) hJ ?c2 ?c3 (by omega) (fun j h => and_le h) ?c4 ?c5 ?c6 ?c7 (fun σ s1 s2 => ?c8)
      case c2 => exact ⟨by walk_at "k look", by walk_at "k look"⟩
      case c3 => walk_at "k look"
      case c6 => kernel_rfl
      case c7 => with_unfolding_all rfl
      case c5 => rintro σ j ⟨s1, s1'⟩ s2; walk_at "k e"
      case c4 =>
        rintro σ k ⟨s1, s1'⟩ s2 q1 q2
        show SB _ _ _ (decide (b ≤ k) && (([("mark" : Str), "linker", "still"].any (· == kd ks k)) && true))
        walk_at "k t"
      have r1 := runD_range (jp1 ks b) b (fun j h => and_le h) (j - 1 - 1 - b + 2).toNat (j - 1 - 1) (by omega)
      dsimp only
      generalize runD (jp1 ks b) (j - 1 - 1 - b + 2).toNat (j - 1 - 1) = k at r1 s2 ⊢
      obtain ⟨s1, s1'⟩ := s1
      refine' SX.ret ?c9 (.inl rfl)
      case c9 => walk_at "k e"
    rw [if_neg (by rw [h2]; decide)]
    refine' SX.if1 ?t3 (fun h3 => ?e1) (fun h3 => ?f1)
    case t3 => walk_at "k t"
    case e1 =>
      rw [if_pos h3]
      refine' SX.runD (jp2 ks b) J b (j - 1) hJ ?e2 ?e3 (by omega) (fun j h => and_le h) ?e4 ?e5 ?e6 ?e7 (fun σ s1 s2 => ?e8)
      case e2 => exact ⟨by walk_at "k look", by walk_at "k look"⟩
      case e3 => walk_at "k look"
      case e6 => kernel_rfl
      case e7 => with_unfolding_all rfl
      case e5 => rintro σ j ⟨s1, s1'⟩ s2; walk_at "k e"
      case e4 =>
        rintro σ k ⟨s1, s1'⟩ s2 q1 q2
        show SB _ _ _ (decide (b ≤ k) && (([("mark" : Str), "joiner"].any (· == kd ks k)) && true))
        walk_at "k t"
      have r1 := runD_range (jp2 ks b) b (fun j h => and_le h) (j - 1 - b + 2).toNat (j - 1) (by omega)
      dsimp only
      generalize runD (jp2 ks b) (j - 1 - b + 2).toNat (j - 1) = k at r1 s2 ⊢
      obtain ⟨s1, s1'⟩ := s1
      refine' SX.ret ?e9 (.inl rfl)
      case e9 => walk_at "k e"
    rw [if_neg (by rw [h3]; decide)]
    refine' SX.ret ?g1 (.inl rfl)
    case g1 => walk_at "k e"
end
end Mine

open PySem PySem.W PyProof.Rows PySem.Calls
set_option Elab.async false
set_option linter.unusedVariables false
set_option linter.unusedSimpArgs false
set_option maxRecDepth 100000
namespace Mine
/-! ## the lines of the walk: the law's own functions -/
local macro_rules | `(tactic| walk_at "k look") => `(tactic| (repeat' (first | with_reducible assumption | with_reducible exact Look.here | (with_reducible refine' Look.there ?_ ?_; kernel_rfl) | (with_reducible refine' Look.noOwn ?_))))
local macro_rules | `(tactic| walk_at "k blt") => `(tactic| (refine' bltOk.mk' ?_ ?_ ?_ ?_ ?_ <;> kernel_rfl))
local macro_rules | `(tactic| walk_at "k room") => `(tactic| first | with_reducible assumption | exact Room.le (by assumption) (by decide))
local macro_rules | `(tactic| walk_at "k side") => `(tactic| first | with_reducible assumption | omega | (simp only [decide_eq_true_eq] at *; omega) | (simp only [List.length_map]; omega))
local macro_rules | `(tactic| walk_at "k c") => `(tactic| with_reducible first
  | exact CmpOK.eqS | exact CmpOK.eqI | exact CmpOK.ltI | exact CmpOK.geI | exact CmpOK.inS2 | exact CmpOK.inS3 | exact CmpOK.inS4 | exact CmpOK.inS5 | exact CmpOK.notInS3)
local macro_rules | `(tactic| walk_at "k es") => `(tactic| with_reducible first
  | exact SEs.nil
  | (refine' SEs.cons ?k1 ?k2; (case k1 => walk_at "k e"); (case k2 => walk_at "k es")))
local macro_rules | `(tactic| walk_at "k e") => `(tactic| with_reducible first
  | exact SE.int | exact SE.str | exact SE.bool
  | (refine' SE.name ?k1; (case k1 => walk_at "k look"))
  | (refine' SE.kAt (hsub := ?k0) ?k1 ?k2 ?k3 ?k4 ?k5; (case k0 => with_unfolding_all (intro _ _; rfl)); (case k1 => walk_at "k e"); (case k2 => walk_at "k e"); (case k3 => walk_at "k side"); (case k4 => walk_at "k side"); (case k5 => walk_at "k side"))
  | (refine' SE.bin ?k1 ?k2 ?k3; (case k1 => walk_at "k e"); (case k2 => walk_at "k e"); (case k3 => first | exact BinOK.addI | exact BinOK.subI))
  | (refine' SE.lenK ?k1 ?k2 ?k3 ?k4; (case k1 => walk_at "k blt"); (case k2 => with_unfolding_all (intro _; rfl)); (case k3 => walk_at "k e"); (case k4 => walk_at "k side"))
  | (refine' SE.cmp (hm := ?k4) ?k1 ?k2 ?k3; (case k1 => walk_at "k e"); (case k2 => walk_at "k e"); (case k3 => walk_at "k c"); (case k4 => with_unfolding_all rfl))
  | (refine' SE.tuple (hst := ?k2) ?k1 ?k3; (case k1 => walk_at "k es"); (case k2 => with_unfolding_all rfl); (case k3 => with_unfolding_all (show (_ : Nat) ≤ _; decide)))
  | (refine' SE.and2 ?k1 (fun hand2 => ?k2); (case k1 => walk_at "k e"); (case k2 => walk_at "k e"))
  | fail "k e")
local macro_rules | `(tactic| walk_at "k t") => `(tactic| with_reducible first
  | (refine' SB.kSlice ?k1 ?k2 ?k3 ?k4 ?k5; (case k1 => walk_at "k look"); (case k2 => walk_at "k e"); (case k3 => walk_at "k e"); (case k4 => walk_at "k side"); (case k5 => walk_at "k room"))
  | (refine' SB.cmp (hm := ?k4) ?k1 ?k2 ?k3; (case k1 => walk_at "k e"); (case k2 => walk_at "k e"); (case k3 => walk_at "k c"); (case k4 => with_unfolding_all rfl))
  | (refine' SB.boolOp ?k1; (case k1 => walk_at "k ts"))
  | (refine' SB.ofBool (hv := ?k2) ?k1; (case k2 => with_unfolding_all (intro _; rfl)); (case k1 => walk_at "k e"))
  | fail "k t")
local macro_rules | `(tactic| walk_at "k ts") => `(tactic| with_reducible first
  | exact SBs.and_nil | exact SBs.or_nil
  | (refine' SBs.and_cons ?k1 (fun hand => ?k2); (case k1 => walk_at "k t"); (case k2 => walk_at "k ts"))
  | (refine' SBs.or_cons ?k1 (fun hor => ?k2); (case k1 => walk_at "k t"); (case k2 => walk_at "k ts"))
  | fail "k ts")
local macro_rules | `(tactic| walk_at "k s") => `(tactic| with_reducible first
  | refine' SX.doc ?_
  | (refine' SX.assign (hs := ?k3) ?k1 ?k2 ?k4; (case k1 => walk_at "k e"); (case k2 => kernel_rfl); (case k3 => with_unfolding_all rfl))
  | fail "k s")

section
variable {c : Cx} {σ : Sto} (hK : c.K = KK c.w)
include hK
theorem SE.kor {p pos : Pos} {e1 e2 : Expr} {ks : List Str} {j : Int} (R : Room c.A 1) (hk : c.env.kindOf "_law_korean" = some .globalImplicit) (hs : plainArgs c [e1, e2]) (h1 : SE c σ e1 (.list (ks.map D.str))) (h2 : SE c σ e2 (.int j)) (h0 : 0 ≤ j) (hl : j < ks.length) (hf : ks.length < 1000000) :
    SE c σ (.Call (.Name "_law_korean" p) [e1, e2] [] pos) (.int (Mine.kor ks j)) :=
  SE.call (SE.glob hk (by rw [hK]; kernel_rfl : nsIn c.K mainGlobals "_law_korean" = some (some (.ref 412))) (by kernel_rfl)) (.cons h1 (.cons h2 .nil)) (by rw [hK]; exact look412 c.w) (data412 c.w) (by rw [hK]; exact kor_fn ks j h0 hl hf) R (hs _)
theorem SE.joined {p pos : Pos} {e1 e2 e3 : Expr} {ks : List Str} {j b : Int} (R : Room c.A 1) (hk : c.env.kindOf "_law_joined" = some .globalImplicit) (hs : plainArgs c [e1, e2, e3]) (h1 : SE c σ e1 (.list (ks.map D.str))) (h2 : SE c σ e2 (.int j)) (h3 : SE c σ e3 (.int b)) (h0 : 0 ≤ b) (hb : b < j) (hl : j < ks.length) (hf : ks.length < 1000000) :
    SE c σ (.Call (.Name "_law_joined" p) [e1, e2, e3] [] pos) (.bool (Mine.joined ks j b)) :=
  SE.call (SE.glob hk (by rw [hK]; kernel_rfl : nsIn c.K mainGlobals "_law_joined" = some (some (.ref 419))) (by kernel_rfl)) (.cons h1 (.cons h2 (.cons h3 .nil))) (by rw [hK]; exact look419 c.w) (data419 c.w) (by rw [hK]; exact joined_fn ks j b h0 hb hl hf) R (hs _)
end

local macro_rules | `(tactic| walk_at "k e") => `(tactic| with_reducible first
  | (refine' SE.kor ?k0 ?k1 ?k2 ?k3 ?k4 ?k5 ?k6 ?k7 ?k8; (case k0 => exact rfl); (case k1 => walk_at "k room"); (case k2 => kernel_rfl); (case k3 => with_unfolding_all (intro _; rfl)); (case k4 => walk_at "k e"); (case k5 => walk_at "k e"); (case k6 => walk_at "k side"); (case k7 => walk_at "k side"); (case k8 => walk_at "k side"))
  | (refine' SE.joined ?k0 ?k1 ?k2 ?k3 ?k4 ?k5 ?k6 ?k7 ?k8 ?k9 ?k10; (case k0 => exact rfl); (case k1 => walk_at "k room"); (case k2 => kernel_rfl); (case k3 => with_unfolding_all (intro _; rfl)); (case k4 => walk_at "k e"); (case k5 => walk_at "k e"); (case k6 => walk_at "k e"); (case k7 => walk_at "k side"); (case k8 => walk_at "k side"); (case k9 => walk_at "k side"); (case k10 => walk_at "k side"))
  | fail "k e 26")
def ep1 (ks : List Str) (j : Int) : Bool := (kd ks j == "ahead") && (decide (j + 1 < ks.length) && (!([("CR" : Str), "LF", "control"].any (· == kd ks (j + 1))) && true))
def ep2 (ks : List Str) (b j : Int) : Bool := decide (j < ks.length) && (joined ks j b && true)
/-- the start of the sign, once what is put ahead is passed -/
def emid (ks : List Str) (j : Int) : Int :=
  if ((kd ks j == "flag") && ((sl ks (some (j + 1)) (some (j + 2)) == [("flag" : Str)]) && true)) = true then j + 2
  else if ([("L" : Str), "V", "LV", "LVT", "T"].any (· == kd ks j)) = true then kor ks j else j + 1
/-- _law_end -/
def lend (ks : List Str) (b : Int) : Int :=
  if (kd ks b == "CR") = true then b + (if (sl ks (some (b + 1)) (some (b + 2)) == [("LF" : Str)]) = true then 2 else 1)
  else if ([("LF" : Str), "control"].any (· == kd ks b)) = true then b + 1
  else
    let m := emid ks (runU (ep1 ks) (ks.length - b).toNat b)
    runU (ep2 ks b) (ks.length + 3 - m).toNat m
theorem emid_range (ks : List Str) (j : Int) (h : j < ks.length) : j + 1 ≤ emid ks j ∧ emid ks j < ks.length + 3 := by
  unfold emid
  have := kor_range ks j h
  split
  · omega
  · split <;> omega
theorem ep2_lt (ks : List Str) (b j : Int) (h : ep2 ks b j = true) : j + 1 < ks.length + 3 := by
  unfold ep2 at h
  simp only [Bool.and_eq_true, decide_eq_true_eq] at h
  omega
theorem lend_gt (ks : List Str) (b : Int) (h : b < ks.length) : b + 1 ≤ lend ks b := by
  unfold lend
  split
  · split <;> omega
  · split
    · omega
    · have r1 := runU_range (ep1 ks) ks.length (fun j h => and_lt h) (ks.length - b).toNat b h
      have r2 := emid_range ks _ r1.2
      have r3 := runU_range (ep2 ks b) (ks.length + 3) (ep2_lt ks b) (ks.length + 3 - emid ks (runU (ep1 ks) (ks.length - b).toNat b)).toNat _ r2.2
      dsimp only
      omega
section
variable {prog : Program} {w : World} {mg mb : Str → Option Value}
theorem lend_fn (ks : List Str) (b : Int) (h0 : 0 ≤ b) (h1 : b < ks.length) (hf : ks.length < 1000000) : Fn prog w (KK w) mg mb 426 2 [.list (ks.map D.str), .int b] [] (.int (lend ks b)) := by
  refine Fn.of_body (n := 1) (look426 w) (data426 w) (body426 w) (plain426 w (.list (ks.map D.str)) (.int b)) (code426 w) ?_ ?_
  · intro s av vs kvs T H r k
    obtain ⟨v, v', rfl, r1, r2⟩ := two r
    obtain rfl := k
    exact ⟨_, .of_eq (bind426 w v v'), v, _, rfl, r1, v', _, rfl, r2, rfl⟩
  · intro S₀ av A L R
    show SX _ (upd (upd empty "kinds" _) "begin" _) (Stmt.Expr _ _ :: _) _
    dsimp only
    walk_at "k s"
    have R0 : Room A 0 := R.le (by decide)
    let J : Sto → Prop := fun σ => Look σ "kinds" (.d (.list (ks.map D.str))) ∧ Look σ "begin" (.d (.int b))
    have hJ : ∀ σ v, J σ → J (upd σ "j" v) := fun σ v h => ⟨Look.there (by kernel_rfl) h.1, Look.there (by kernel_rfl) h.2⟩
    refine' SX.if1 ?t1 (fun h => ?a1) (fun h => ?b1)
    case t1 => walk_at "k t"
    case a1 =>
      refine' SX.ret (d := .int (b + (if (sl ks (some (b + 1)) (some (b + 2)) == [("LF" : Str)]) = true then 2 else 1))) (SE.bin ?a2 (SE.ifInt ?a3 (fun _ => ?a4) (fun _ => ?a5)) BinOK.addI) (.inl ?a6)
      case a2 => walk_at "k e"
      case a3 => walk_at "k t"
      case a4 => walk_at "k e"
      case a5 => walk_at "k e"
      unfold lend; rw [if_pos h]
    refine' SX.if1 ?t2 (fun h2 => ?c1) (fun h2 => ?d1)
    case t2 => walk_at "k t"
    case c1 =>
      refine' SX.ret (d := .int (b + 1)) ?c2 (.inl ?c3)
      case c2 => walk_at "k e"
      unfold lend; rw [if_neg (by rw [h]; decide), if_pos h2]
    have hlend : lend ks b = runU (ep2 ks b) (ks.length + 3 - emid ks (runU (ep1 ks) (ks.length - b).toNat b)).toNat (emid ks (runU (ep1 ks) (ks.length - b).toNat b)) := by
      unfold lend; rw [if_neg (by rw [h]; decide), if_neg (by rw [h2]; decide)]
    rw [hlend]
    walk_at "k s"
    have hlt1 : ∀ j, ep1 ks j = true → j + 1 < ks.length := fun j h => and_lt h
    refine' SX.runU (ep1 ks) J ks.length b hJ ?e1 ?e2 h1 hlt1 ?e3 ?e4 ?e5 ?e6 (fun σ s1 s2 => ?e7)
    case e1 =>
      show Look _ "kinds" (.d (.list (ks.map D.str))) ∧ Look _ "begin" (.d (.int b))
      exact ⟨by walk_at "k look", by walk_at "k look"⟩
    case e2 => walk_at "k look"
    case e5 => kernel_rfl
    case e6 => with_unfolding_all rfl
    case e4 => rintro σ j ⟨s1, s1'⟩ s2; walk_at "k e"
    case e3 =>
      rintro σ j ⟨s1, s1'⟩ s2 q1 q2
      have q3 : 0 ≤ j := by omega
      show SB _ _ _ ((kd ks j == "ahead") && (decide (j + 1 < ks.length) && (!([("CR" : Str), "LF", "control"].any (· == kd ks (j + 1))) && true)))
      walk_at "k t"
    have r1 := runU_range (ep1 ks) ks.length hlt1 (ks.length - b).toNat b h1
    generalize runU (ep1 ks) (ks.length - b).toNat b = j at r1 s2 ⊢
    obtain ⟨s1, s1'⟩ := s1
    have q3 : 0 ≤ j := by omega
    have r2 := emid_range ks j r1.2
    have last : ∀ σ, J σ → Look σ "j" (.d (.int (emid ks j))) → SX ⟨prog, w, KK w, mg, mb, S₀, av, A, callEnv (fdAt w 426) L 426⟩ σ ((bodyOf 38).drop 6) fun fl _ => fl = .ret (.int (runU (ep2 ks b) (ks.length + 3 - emid ks j).toNat (emid ks j))) ∨ (fl = .next ∧ D.int (runU (ep2 ks b) (ks.length + 3 - emid ks j).toNat (emid ks j)) = .none) := by
      intro σ s1 s2
      show SX _ _ (Stmt.While _ _ _ _ :: _) _
      generalize emid ks j = m at r2 s2 ⊢
      refine' SX.runU (ep2 ks b) J (ks.length + 3) m hJ s1 s2 r2.2 (ep2_lt ks b) ?f3 ?f4 ?f5 ?f6 (fun σ s1 s2 => ?f7)
      case f5 => kernel_rfl
      case f6 => with_unfolding_all rfl
      case f4 => rintro σ j ⟨s1, s1'⟩ s2; walk_at "k e"
      case f3 =>
        rintro σ k ⟨s1, s1'⟩ s2 q1 q2
        have q3 : 0 ≤ k := by omega
        have q4 : b < k := by omega
        show SB _ _ _ (decide (k < ks.length) && (joined ks k b && true))
        walk_at "k t"
      obtain ⟨s1, s1'⟩ := s1
      refine' SX.ret ?f8 (.inl rfl)
      case f8 => walk_at "k e"
    refine' SX.if_ ?t3 (fun h3 => ?g1) (fun h3 => ?g2)
    case t3 => walk_at "k t"
    case g1 =>
      have em : emid ks j = j + 2 := by unfold emid; rw [if_pos h3]
      walk_at "k s"
      refine SX.nil (last _ ⟨by walk_at "k look", by walk_at "k look"⟩ (by rw [em]; walk_at "k look"))
    refine' SX.if_ ?t4 (fun h4 => ?g3) (fun h4 => ?g4)
    case t4 => walk_at "k t"
    case g3 =>
      have em : emid ks j = kor ks j := by unfold emid; rw [if_neg (by rw [h3]; decide), if_pos h4]
      walk_at "k s"
      refine SX.nil (SX.nil (last _ ⟨by walk_at "k look", by walk_at "k look"⟩ (by rw [em]; walk_at "k look")))
    have em : emid ks j = j + 1 := by unfold emid; rw [if_neg (by rw [h3]; decide), if_neg (by rw [h4]; decide)]
    walk_at "k s"
    refine SX.nil (SX.nil (last _ ⟨by walk_at "k look", by walk_at "k look"⟩ (by rw [em]; walk_at "k look")))
end
section
variable {c : Cx} {σ : Sto} (hK : c.K = KK c.w)
include hK
theorem SE.lend {p pos : Pos} {e1 e2 : Expr} {ks : List Str} {j : Int} (R : Room c.A 2) (hk : c.env.kindOf "_law_end" = some .globalImplicit) (hs : plainArgs c [e1, e2]) (h1 : SE c σ e1 (.list (ks.map D.str))) (h2 : SE c σ e2 (.int j)) (h0 : 0 ≤ j) (hl : j < ks.length) (hf : ks.length < 1000000) :
    SE c σ (.Call (.Name "_law_end" p) [e1, e2] [] pos) (.int (Mine.lend ks j)) :=
  SE.call (SE.glob hk (by rw [hK]; kernel_rfl : nsIn c.K mainGlobals "_law_end" = some (some (.ref 426))) (by kernel_rfl)) (.cons h1 (.cons h2 .nil)) (by rw [hK]; exact look426 c.w) (data426 c.w) (by rw [hK]; exact lend_fn ks j h0 hl hf) R (hs _)
end
/-- _law_ends, from a list on -/
def lendsGo (ks : List Str) : Nat → List Int → List Int
  | 0, l => l
  | n + 1, l => if l.getLastD 0 < ks.length then lendsGo ks n (l ++ [lend ks (l.getLastD 0)]) else l
def lends (ks : List Str) : List Int := lendsGo ks (ks.length + 1) [0]
section
variable {prog : Program} {w : World} {mg mb : Str → Option Value}
theorem lends_fn (ks : List Str) (hf : ks.length < 900000) : Fn prog w (KK w) mg mb 433 3 [.list (ks.map D.str)] [] (.list ((lends ks).map D.int)) := by
  refine Fn.of_body (n := 2) (look433 w) (data433 w) (body433 w) (plain433 w (.list (ks.map D.str))) (code433 w) ?_ ?_
  · intro s av vs kvs T H r k
    obtain ⟨v, rfl, r1⟩ := one r
    obtain rfl := k
    exact ⟨_, .of_eq (bind433 w v), v, _, rfl, r1, rfl⟩
  · intro S₀ av A L R
    have hf' : ks.length < 1000000 := by omega
    have R0 : Room A 0 := R.le (by decide)
    show SX _ (upd empty "kinds" _) (Stmt.Assign _ _ _ :: _) _
    dsimp only
    refine' SX.newOwn (hst := ?h1) (hs := ?h2) (.cons SE.int SEs.nil) ?h3 ?h4 (fun a ha => ?h5)
    case h1 => with_unfolding_all rfl
    case h2 => with_unfolding_all rfl
    case h3 => exact (show (1 : Nat) ≤ sizeLine by decide)
    case h4 => kernel_rfl
    refine' SX.while_ (fun n σ => ∃ l : List Int, Look σ "kinds" (.d (.list (ks.map D.str))) ∧ Look σ "ends" (.own a (l.map D.int)) ∧ l ≠ [] ∧ 0 ≤ l.getLastD 0 ∧ l.length ≤ l.getLastD 0 + 1 ∧ (l.length : Int) + n = ks.length + 2 ∧ lendsGo ks n l = lends ks) (ks.length + 1) ?i1 ?i2
    case i1 => exact ⟨[0], by walk_at "k look", by show Look _ _ (.own a [.int 0]); walk_at "k look", by decide, by decide, by decide, by simp; omega, rfl⟩
    rintro n σ ⟨l, s1, s2, hl, l0, l1, l2, l3⟩
    refine' ⟨decide (l.getLastD 0 < ks.length), SB.cmp (hm := ?m1) (SE.ownLastI (a := a) s2 hl ?m2) ?m3 CmpOK.ltI, fun h => ?j1, fun h => ?j2⟩
    case m1 => with_unfolding_all rfl
    case m2 => omega
    case m3 => walk_at "k e"
    case j2 =>
      simp only [decide_eq_false_iff_not] at h
      have e : lends ks = l := by
        rw [← l3]
        cases n with
        | zero => rfl
        | succ k => show (if _ then _ else _) = _; rw [if_neg h]
      refine SX.freeze s2 ha ?_
      rw [e]
      refine' SX.ret ?j3 (.inl rfl)
      case j3 => walk_at "k e"
    simp only [decide_eq_true_eq] at h
    have hn : ∃ k, n = k + 1 := ⟨n - 1, by omega⟩
    obtain ⟨k, rfl⟩ := hn
    have hgt := lend_gt ks _ h
    refine' SX.append (d := .int (lend ks (l.getLastD 0))) (l := l.map D.int) (a := a) s2 ?t2 ?t3 ?t4 ?t5 ?t6 ?t7 ?t8 ?t9 ?t10
    case t2 =>
      refine' SE.lend ?k0 ?k1 ?k2 ?k3 ?k4 (SE.ownLastI (a := a) s2 hl ?k5) l0 h hf'
      case k0 => exact rfl
      case k1 => exact R
      case k2 => kernel_rfl
      case k3 => with_unfolding_all (intro _; rfl)
      case k4 => walk_at "k e"
      case k5 => omega
    case t3 => rw [List.length_map]; omega
    case t5 => with_unfolding_all rfl
    case t6 => with_unfolding_all rfl
    case t7 => with_unfolding_all rfl
    case t8 => with_unfolding_all rfl
    case t9 => with_unfolding_all rfl
    case t10 => with_unfolding_all rfl
    have hlast : (l ++ [lend ks (l.getLastD 0)]).getLastD 0 = lend ks (l.getLastD 0) := by simp [List.getLastD_eq_getLast?]
    refine SX.nil ⟨k, by omega, l ++ [lend ks (l.getLastD 0)], by walk_at "k look", ?_, by simp, ?_, ?_, ?_, ?_⟩
    · rw [List.map_append, List.map_singleton]; walk_at "k look"
    · rw [hlast]; omega
    · rw [hlast]; simp only [List.length_append, List.length_singleton]; omega
    · simp only [List.length_append, List.length_singleton]; omega
    · rw [← l3]
      show _ = if _ then _ else _
      rw [if_pos h]
end
end Mine

open PySem PySem.W PyProof.Rows PySem.Calls
set_option Elab.async false
set_option linter.unusedVariables false
set_option maxRecDepth 100000
namespace Mine
/-! ## list comprehensions over ints -/
section
variable {K : Frag} {mg mb : Str → Option Value} {S₀ S' : Shared} {av av' own : List Addr} {env : Env} {σ : Sto} {s s' : Shared}
theorem Good.base' (G : Good K mg mb S₀ av own env σ s) (hst : Stat K mg mb S'.heap) (hkp : Kp S'.heap s.heap) (hm : ∀ a, Mut env σ a → S'.heap.get? a = none) (hav : ∀ a ∈ av', a ∈ own)
    (hg : ∃ more, s.gens = S'.gens ++ more ∧ AllBare more) (ho : s.os = S'.os) : Good K mg mb S' av' own env σ s :=
  { stat := hst, keep := hkp, hid := G.hid, av := hav, lown := G.lown, lnew := hm _ (.inl rfl), ns := G.ns,
    cells := fun x c h => let ⟨a, b, _, d⟩ := G.cells x c h; ⟨a, b, hm _ (.inr (.inl ⟨x, h⟩)), d⟩, cellv := G.cellv, cinj := G.cinj, chas := G.chas, vars := G.vars,
    ownl := fun x a l h => let ⟨d, _, e⟩ := G.ownl x a l h; ⟨d, hm _ (.inr (.inr ⟨x, l, h⟩)), e⟩, kind := G.kind, glob := G.glob, blt := G.blt, gens := hg, os := ho }
end
/-- what a step leaves: new bare generators, the same system -/
def Ge (s s' : Shared) : Prop := (∃ more, s'.gens = s.gens ++ more ∧ AllBare more) ∧ s'.os = s.os
theorem Ge.refl (s : Shared) : Ge s s := ⟨(Ext.refl s).gens, rfl⟩
theorem Ge.trans {s s' s'' : Shared} (x : Ge s s') (y : Ge s' s'') : Ge s s'' := by
  obtain ⟨⟨m, e, b⟩, o⟩ := x
  obtain ⟨⟨m', e', b'⟩, o'⟩ := y
  exact ⟨⟨m ++ m', by rw [e', e, Array.append_assoc], allBare_append b b'⟩, o'.trans o⟩
theorem Ext.ge {s s' : Shared} (x : Ext s s') : Ge s s' := ⟨x.gens, x.os⟩
theorem Ge.same {s s' : Shared} (g : s'.gens = s.gens) (o : s'.os = s.os) : Ge s s' := ⟨⟨#[], by simp [g], AllBare.empty⟩, o⟩

section
variable {c : Cx} {σ : Sto}
theorem Good.storeL {own : List Addr} {s : Shared} (G : c.G own σ s) {x : Str} (hk : c.env.kindOf x = some .local) (hd : (x == ("__debug__" : Str)) = false) (hc : (x == ("__classdict__" : Str)) = false) {v : V} {u : Value} (r : RepV s.heap own v u) (hv : ∀ a l, v = .own a l → a ≠ c.env.locals ∧ c.S₀.heap.get? a = none ∧ ∀ y b, c.env.cells.lookup y = some b → b ≠ a)
    {Q : Unit → Shared → Prop} {E : Value → Shared → Prop} (h : ∀ s', c.G own (upd σ x v) s' → Heap.SameBut c.env.locals s.heap s'.heap → s'.gens = s.gens → s'.os = s.os → Q () s') : c.wp (storeName c.env x u) Q E s := by
  obtain ⟨m, hm, hmv⟩ := G.ns
  refine wpAny_storeName_local hk hm (fun h' hn hs => h _ ?_ hs rfl rfl) (by rw [G.kind]; rfl)
  have nL : ∀ b o, c.S₀.heap.get? b = some o → b ≠ c.env.locals := fun b o ho e => by rw [e, G.lnew] at ho; cases ho
  have rep : ∀ {v : V} {u : Value}, (∀ a l, v = .own a l → a ≠ c.env.locals) → RepV s.heap own v u → RepV h' own v u := fun hb r => r.same G.lown hs hb
  exact { stat := G.stat, keep := fun b o ho => sameBut_get hs (nL b o ho) (G.keep b o ho), hid := fun b m => ⟨(G.hid b m).1, by
            obtain ⟨o, ho⟩ := (G.hid b m).2
            by_cases e : b = c.env.locals
            · rw [e]; exact (let ⟨o, _, _, ho, _⟩ := hn; ⟨o, ho⟩)
            · exact ⟨o, sameBut_get hs e ho⟩⟩, av := G.av, lown := G.lown, lnew := G.lnew,
          ns := ⟨_, hn, fun y w hy hyk => by
            unfold upd at hy
            by_cases e : y = x
            · subst e; rw [if_pos rfl] at hy; cases hy; exact ⟨u, by simp, rep (fun a l e => (hv a l e).1) r⟩
            · rw [if_neg e] at hy
              obtain ⟨u', h1, h2⟩ := hmv y w hy hyk
              exact ⟨u', by simp [e, h1], rep (fun a l q => (G.ownl y a l (q ▸ hy)).1) h2⟩⟩,
          cells := fun y b hb => let ⟨h1, h2, n, u', h3⟩ := G.cells y b hb; ⟨h1, h2, n, u', h3.sameBut hs h2⟩,
          cellv := fun y w hy hyk => by
            unfold upd at hy
            by_cases e : y = x
            · subst e; rw [hk] at hyk; rcases hyk with q | q <;> cases q
            · rw [if_neg e] at hy
              obtain ⟨b, u', h1, h2, h3⟩ := G.cellv y w hy hyk
              exact ⟨b, u', h1, h2.sameBut hs (G.cells y b h1).2.1, rep (fun a l q => (G.ownl y a l (q ▸ hy)).1) h3⟩,
          cinj := G.cinj, chas := G.chas,
          vars := fun y w hy => by
            unfold upd at hy
            by_cases e : y = x
            · subst e; exact ⟨.inl hk, hd, hc⟩
            · rw [if_neg e] at hy; exact G.vars y w hy,
          ownl := fun y a l hy => by
            unfold upd at hy
            by_cases e : y = x
            · rw [if_pos e] at hy; cases hy; exact hv a l rfl
            · rw [if_neg e] at hy; exact G.ownl y a l hy,
          kind := G.kind, glob := G.glob, blt := G.blt, gens := G.gens, os := G.os }
/-- the names of a comprehension's scope -/
structure Inn (c : Cx) (scope : Scope) (cl : List (Str × Addr)) (x : Str) : Prop where
  clos : closureFor scope c.env = pure cl
  cell : ∀ y ∈ scope.names, y.2 ≠ .cell
  kind : scope.kind = .function
  names : ∀ y ∈ scope.names, y.2 = .local → scope.names.lookup y.1 = some .local
  var : scope.names.lookup x = some .local
  sub : ∀ y a, cl.lookup y = some a → c.env.cells.lookup y = some a
  kc : ∀ y C, (compEnvC scope cl C c.env).kindOf y = some .cell ∨ (compEnvC scope cl C c.env).kindOf y = some .free → (c.env.kindOf y = some .cell ∨ c.env.kindOf y = some .free) ∧ ∃ a, cl.lookup y = some a
/-- a name from outside -/
def Fr (e : Env) (y : Str) : Prop := e.kindOf y = some .cell ∨ e.kindOf y = some .free
/-- the store inside -/
def inner (e : Env) (σ : Sto) : Sto := fun y => if e.kindOf y = some .cell ∨ e.kindOf y = some .free then noOwn σ y else none
theorem Look.inner {e : Env} {σ : Sto} {y : Str} {d : D} (h : Look σ y (.d d)) (hk : e.kindOf y = some .cell ∨ e.kindOf y = some .free) : Look (inner e σ) y (.d d) := by
  unfold Look Mine.inner
  rw [if_pos hk]; exact Look.noOwn h
theorem inner_some {e : Env} {σ : Sto} {y : Str} {v : V} (h : inner e σ y = some v) : (e.kindOf y = some .cell ∨ e.kindOf y = some .free) ∧ σ y = some v ∧ ∃ d, v = .d d := by
  unfold inner at h
  split at h
  · rename_i hk
    unfold noOwn at h
    split at h
    · rename_i d q
      cases h
      exact ⟨hk, q, d, rfl⟩
    · cases h
  · cases h
/-- the frame inside -/
theorem Good.inn {own : List Addr} {s : Shared} (G : c.G own σ s) {scope : Scope} {cl : List (Str × Addr)} {x : Str} (I : Inn c scope cl x) {C : Addr} (hC : C ∈ own) (hS : c.S₀.heap.get? C = none)
    {m : Str → Option Value} (hn : s.heap.Ns C m) (hne : ∀ y a, c.env.cells.lookup y = some a → a ≠ C) :
    Good c.K c.mg c.mb c.S₀ c.av own (compEnvC scope cl C c.env) (inner (compEnvC scope cl C c.env) σ) s where
  stat := G.stat
  keep := G.keep
  hid := G.hid
  av := G.av
  lown := hC
  lnew := hS
  ns := ⟨m, hn, fun y v h1 h2 => by
    obtain ⟨k, _⟩ := inner_some h1
    rw [h2] at k; rcases k with k | k <;> cases k⟩
  cells := fun y a h => let ⟨h1, h2, h3, h4⟩ := G.cells y a (I.sub y a h); ⟨h1, hne y a (I.sub y a h), h3, h4⟩
  cellv := fun y v h1 h2 => by
    obtain ⟨k, q, _⟩ := inner_some h1
    obtain ⟨k', a, hl⟩ := I.kc y C k
    obtain ⟨a', u, e, r⟩ := G.cellv y v q k'
    have := I.sub y a hl
    rw [e] at this; cases this
    exact ⟨_, u, hl, r⟩
  cinj := fun y z a h h' => G.cinj y z a (I.sub y a h) (I.sub z a h')
  chas := fun y k => (I.kc y C k).2
  vars := fun y v h => by
    obtain ⟨k, q, _⟩ := inner_some h
    exact ⟨.inr k, (G.vars y v q).2⟩
  ownl := fun y a l h => by obtain ⟨_, _, d, e⟩ := inner_some h; cases e
  kind := I.kind
  glob := G.glob
  blt := G.blt
  gens := G.gens
  os := G.os

/-- tests of a comprehension -/
def STs (c : Cx) (σ : Sto) : List Expr → Bool → Prop
  | [], b => b = true
  | [e], b => SB c σ e b
  | _, _ => False
theorem STs.run {own : List Addr} {s : Shared} {ifs : List Expr} {b : Bool} {Q : Bool → Shared → Prop} {E : Value → Shared → Prop} (h : STs c σ ifs b) (G : c.G own σ s) (hq : ∀ s', Ext s s' → Q b s') :
    c.wp (forIn ifs true fun e r => if r = true then do let ok ← isTrue e c.env (eval e c.env); pure (ForInStep.yield ok) else pure (ForInStep.yield r)) Q E s := by
  match ifs, h with
  | [], h =>
    obtain rfl : b = true := h
    exact wpAny_tests_nil (hq s (.refl s))
  | [e], h => exact wpAny_tests_one (h own s _ _ G hq)

/-- the loop's state -/
structure Cl (c : Cx) (s₀ : Shared) (own : List Addr) (cenv : Env) (σ₀ : Sto) (it Dl : Addr) (St : Nat → Obj → Prop) (k : Nat) (ds : List D) (s : Shared) : Prop where
  keep : ∀ b o, b ≠ it → b ≠ Dl → b ≠ cenv.locals → s₀.heap.get? b = some o → s.heap.get? b = some o
  ge : Ge s₀ s
  st : ∃ o, s.heap.get? it = some o ∧ St k o
  acc : ∃ vs n, s.heap.get? Dl = some (listOf vs n) ∧ Reps s.heap own ds vs.toList
  good : ∃ σ, Good c.K c.mg c.mb c.S₀ c.av own cenv σ s ∧ (∀ y d, Fr cenv y → Look σ₀ y (.d d) → Look σ y (.d d)) ∧ ∀ y a l, σ y ≠ some (.own a l)

theorem mut_no {env : Env} {σ : Sto} {a : Addr} (h1 : a ≠ env.locals) (h2 : ∀ x b, env.cells.lookup x = some b → b ≠ a) (h3 : ∀ y a l, σ y ≠ some (.own a l)) : ¬ Mut env σ a := by
  rintro (e | ⟨x, e⟩ | ⟨x, l, e⟩)
  · exact h1 e
  · exact h2 x a e rfl
  · exact h3 x a l e

/-- the turns of a comprehension -/
theorem comp_turns {elt iter : Expr} {x : Str} {px pos : Pos} {ifs : List Expr} {scope : Scope} {l : List Int} {f : Int → D} {p : Int → Bool} {cenv : Env} {it Dl : Addr} {St : Nat → Obj → Prop} {own : List Addr} {σ₀ : Sto} {s₀ : Shared}
    {H : Heap} {own₀ : List Addr} (g : Gives c H own₀ it St l) (hH : ∀ s : Shared, (∀ b o, b ≠ it → b ≠ Dl → b ≠ cenv.locals → s₀.heap.get? b = some o → s.heap.get? b = some o) → ∀ b o, b ∉ own₀ → b ≠ it → H.get? b = some o → s.heap.get? b = some o)
    (hx : cenv.kindOf x = some .local) (hxd : (x == ("__debug__" : Str)) = false) (hxc : (x == ("__classdict__" : Str)) = false)
    (hit : it ∈ own) (hDl : Dl ∈ own) (hid : it ≠ Dl) (hic : it ≠ cenv.locals) (hdc : Dl ≠ cenv.locals) (hci : ∀ y b, cenv.cells.lookup y = some b → b ≠ it) (hcd : ∀ y b, cenv.cells.lookup y = some b → b ≠ Dl)
    (hSi : c.S₀.heap.get? it = none) (hSd : c.S₀.heap.get? Dl = none) (hlen : l.length ≤ 1000000)
    (ht : ∀ i σ, i ∈ l → Look σ x (.d (.int i)) → (∀ y d, Fr cenv y → Look σ₀ y (.d d) → Look σ y (.d d)) → STs { c with env := cenv } σ ifs (p i))
    (he : ∀ i σ, i ∈ l → p i = true → Look σ x (.d (.int i)) → (∀ y d, Fr cenv y → Look σ₀ y (.d d) → Look σ y (.d d)) → SE { c with env := cenv } σ elt (f i))
    {R : Result → Shared → Prop} (hR : ∀ s : Shared, (∀ b o, b ≠ it → b ≠ Dl → b ≠ cenv.locals → s₀.heap.get? b = some o → s.heap.get? b = some o) → Ge s₀ s → (∃ m, s.heap.Ns cenv.locals m) → (∃ vs n, s.heap.get? Dl = some (listOf vs n) ∧ Reps s.heap own ((l.filter p).map f) vs.toList) → R (.ok .next) s)
    {s : Shared} (h0 : Cl c s₀ own cenv σ₀ it Dl St 0 [] s) :
    codeAny (model c.prog c.w) c.A (.compLoop (.ListComp elt [⟨.Name x px, iter, ifs, 0⟩] scope pos) 0 (.ref it) (.ref Dl) cenv) R s := by
  refine codeAny_compLoop_tests (fun n s => ∃ k, n = l.length - k + 1 ∧ k ≤ l.length ∧ Cl c s₀ own cenv σ₀ it Dl St k (((l.take k).filter p).map f) s) ?_ (l.length + 1) ⟨0, rfl, Nat.zero_le _, h0⟩
  rintro n s ⟨k, rfl, hk, L⟩
  obtain ⟨σ, G, hl, hno⟩ := L.good
  have hmi : ¬ Mut cenv σ it := mut_no hic hci hno
  by_cases hkl : k < l.length
  · have hik : l[k]? = some l[k] := List.getElem?_eq_getElem hkl
    have hmem : l[k] ∈ l := List.getElem_mem hkl
    have htk : l.take (k + 1) = l.take k ++ [l[k]] := by rw [List.take_add_one, hik]; rfl
    have hkk : l.length - (k + 1) + 1 < l.length - k + 1 := by omega
    generalize hiv : l[k] = i at hik hmem htk
    refine g.item k i s _ _ hik (hH s L.keep) L.st fun t s₂ st₂ keep₂ g₂ o₂ => ?_
    have G₂ : Good c.K c.mg c.mb c.S₀ c.av own cenv σ s₂ := G.but hit hmi hSi keep₂ (st₂.imp fun o h => h.1) g₂ o₂
    refine wpAny_assign_Name (Good.storeL (c := { c with env := cenv }) G₂ hx hxd hxc (v := .d (.int i)) ⟨t, rfl⟩ (fun _ _ e => nomatch e) fun s₃ G₃ sb₃ g₃ o₃ => ?_)
    have hl₃ : ∀ y d, Fr cenv y → Look σ₀ y (.d d) → Look (upd σ x (.d (.int i))) y (.d d) := fun y d hy h => by
      have : y ≠ x := fun e => by rw [Fr, e, hx] at hy; rcases hy with hy | hy <;> cases hy
      unfold Look upd; rw [if_neg this]; exact hl y d hy h
    have hno₃ : ∀ y a l, upd σ x (.d (.int i)) y ≠ some (.own a l) := fun y a l => by
      unfold upd
      split
      · intro e; cases e
      · exact hno y a l
    have k3 : ∀ b o, b ≠ it → b ≠ cenv.locals → s.heap.get? b = some o → s₃.heap.get? b = some o := fun b o h h' q => sameBut_get sb₃ h' (keep₂ b o h q)
    have keep3 : ∀ b o, b ≠ it → b ≠ Dl → b ≠ cenv.locals → s₀.heap.get? b = some o → s₃.heap.get? b = some o := fun b o h1 h2 h3 q => k3 b o h1 h3 (L.keep b o h1 h2 h3 q)
    have ge3 : Ge s₀ s₃ := L.ge.trans ((Ge.same g₂ o₂).trans (Ge.same g₃ o₃))
    have st3 : ∃ o, s₃.heap.get? it = some o ∧ St (k + 1) o := by obtain ⟨o, h, h'⟩ := st₂; exact ⟨o, sameBut_get sb₃ hic h, h'⟩
    have acc3 : ∃ vs n, s₃.heap.get? Dl = some (listOf vs n) ∧ Reps s₃.heap own (((l.take k).filter p).map f) vs.toList := by
      obtain ⟨vs, n, h, h'⟩ := L.acc
      exact ⟨vs, n, k3 Dl _ (Ne.symm hid) hdc h, h'.mono (fun b o hb q => k3 b o (fun e => hb (e ▸ hit)) (fun e => hb (e ▸ G.lown)) q) (.same _ _)⟩
    refine STs.run (c := { c with env := cenv }) (ht i _ hmem Look.here hl₃) G₃ fun s₄ x₄ => ?_
    have G₄ := G₃.ext x₄
    cases hp : p i with
    | false =>
      refine ⟨_, hkk, k + 1, rfl, hkl, fun b o h1 h2 h3 q => x₄.keep b o (keep3 b o h1 h2 h3 q), ge3.trans x₄.ge, st3.imp fun o h => ⟨x₄.keep _ _ h.1, h.2⟩, ?_, _, G₄, hl₃, hno₃⟩
      obtain ⟨vs, n, h, h'⟩ := acc3
      refine ⟨vs, n, x₄.keep _ _ h, ?_⟩
      rw [htk, List.filter_append, List.filter_cons, hp]
      simpa using h'.grow x₄.keep
    | true =>
      refine he i _ hmem hp Look.here hl₃ own s₄ _ _ G₄ fun v s₅ x₅ r₅ => ?_
      have xx := x₄.trans x₅
      obtain ⟨vs, n, h, h'⟩ := acc3
      have e' : vs.size ≤ l.length := by
        have q1 := h'.length
        have q2 : ((l.take k).filter p).length ≤ (l.take k).length := List.length_filter_le _ _
        rw [Array.length_toList, List.length_map] at q1
        rw [List.length_take] at q2
        omega
      refine append_at (n := n) (its := vs) (xx.keep _ _ h) (fun h₆ sb₆ ho₆ => ?_) (Nat.le_trans e' (Nat.le_trans hlen (by decide)))
      have G₅ : Good c.K c.mg c.mb c.S₀ c.av own cenv (upd σ x (.d (.int i))) s₅ := G₄.ext x₅
      have hmd : ¬ Mut cenv (upd σ x (.d (.int i))) Dl := mut_no hdc hcd hno₃
      have k6 : ∀ b o, b ≠ Dl → s₅.heap.get? b = some o → h₆.get? b = some o := fun b o hb q => sameBut_get sb₆ hb q
      refine ⟨_, hkk, k + 1, rfl, hkl, fun b o h1 h2 h3 q => k6 b o h2 (xx.keep b o (keep3 b o h1 h2 h3 q)), ge3.trans (xx.ge.trans (Ge.same rfl rfl)), st3.imp fun o h => ⟨k6 _ _ hid (xx.keep _ _ h.1), h.2⟩, ?_, _,
        G₅.but hDl hmd hSd k6 ⟨_, ho₆⟩ rfl rfl, hl₃, hno₃⟩
      refine ⟨vs.push v, n + 1, ho₆, ?_⟩
      rw [htk, List.filter_append, List.filter_cons, hp, List.map_append, Array.toList_push]
      have mv : ∀ {ds : List D} {us : List Value}, Reps s₅.heap own ds us → Reps h₆ own ds us := fun q => q.mono (fun b o hb q => k6 b o (fun e => hb (e ▸ hDl)) q) (.same _ _)
      exact (mv (h'.grow xx.keep)).append ⟨v, [], rfl, r₅.mono (fun b o hb q => k6 b o (fun e => hb (e ▸ hDl)) q) (.same _ _), rfl⟩
  · have hkl' : k = l.length := by omega
    subst hkl'
    refine g.last s _ _ (hH s L.keep) L.st fun s₂ keep₂ g₂ o₂ => ?_
    refine hR s₂ (fun b o h1 h2 h3 q => keep₂ b o h1 (L.keep b o h1 h2 h3 q)) (L.ge.trans (Ge.same g₂ o₂)) ?_ ?_
    · obtain ⟨m, hn, _⟩ := G.ns
      exact ⟨m, hn.at fun o q => keep₂ _ o (Ne.symm hic) q⟩
    · obtain ⟨vs, n, h, h'⟩ := L.acc
      rw [List.take_of_length_le (Nat.le_refl _)] at h'
      exact ⟨vs, n, keep₂ _ _ (Ne.symm hid) h, h'.mono (fun b o hb q => keep₂ b o (fun e => hb (e ▸ hit)) q) (.same _ _)⟩
theorem Ext.trans_but {s s' : Shared} (x : Ext s s') {h' : Heap} {C : Addr} (hk : ∀ b o, b ≠ C → s'.heap.get? b = some o → h'.get? b = some o) (hC : s.heap.get? C = none) : Ext s { s' with heap := h' } :=
  ⟨fun b o q => hk b o (fun e => by rw [e, hC] at q; cases q) (x.keep b o q), x.gens, x.os⟩
/-- a comprehension, up to what is done with its list -/
theorem comp_block {elt iter : Expr} {x : Str} {px pos : Pos} {ifs : List Expr} {scope : Scope} {cl : List (Str × Addr)} {l : List Int} {f : Int → D} {p : Int → Bool} {own₀ : List Addr} {s s₁ : Shared} {it : Addr} {St : Nat → Obj → Prop}
    (I : Inn c scope cl x) (hxd : (x == ("__debug__" : Str)) = false) (hxc : (x == ("__classdict__" : Str)) = false) (hlen : l.length ≤ 1000000) (G₀ : c.G own₀ σ s) (x₁ : Ext s s₁) (hnew : s.heap.get? it = none) (hst : ∃ o, s₁.heap.get? it = some o ∧ St 0 o) (g : Gives c s₁.heap own₀ it St l)
    (ht : ∀ C i σ', i ∈ l → Look σ' x (.d (.int i)) → (∀ y d, Fr (compEnvC scope cl C c.env) y → Look σ y (.d d) → Look σ' y (.d d)) → STs { c with env := compEnvC scope cl C c.env } σ' ifs (p i))
    (he : ∀ C i σ', i ∈ l → p i = true → Look σ' x (.d (.int i)) → (∀ y d, Fr (compEnvC scope cl C c.env) y → Look σ y (.d d) → Look σ' y (.d d)) → SE { c with env := compEnvC scope cl C c.env } σ' elt (f i))
    {RR : Value → Addr → Result → Shared → Prop} {E : Value → Shared → Prop}
    (hRR : ∀ Dl C s', Ext s s' → Dl ∉ own₀ → C ∉ own₀ → Dl ≠ C → s.heap.get? C = none → (∃ m, s'.heap.Ns C m) → (∃ vs n, s'.heap.get? Dl = some (listOf vs n) ∧ Reps s'.heap (C :: own₀) ((l.filter p).map f) vs.toList) → RR (.ref Dl) C (.ok .next) s') :
    c.wp (newList []) (fun acc s₃ => c.wp (newFunctionEnv scope c.env.globals cl [] c.env.qual none .none (some c.env)) (fun cenv s₄ =>
      codeAny (model c.prog c.w) c.A (.compStart (.ListComp elt [⟨.Name x px, iter, ifs, 0⟩] scope pos) 0 (.ref it) acc { cenv with scope := relabel scope c.env }) (RR acc cenv.locals) s₄) E s₃) E s₁ := by
  refine wpAny_newObj_type (wpAny_newFunctionEnv I.cell (by intro y hy; simp at hy) (fun h₃ hns₃ hsb₃ => ?_) I.kind)
  dsimp only at hns₃ hsb₃ ⊢
  generalize hDl : s₁.heap.objs.size = Dl
  generalize hH2 : s₁.heap.push { cls := .type "list", dict := none, data := .seq ([] : List Value).toArray } = H2 at hns₃ hsb₃ ⊢
  have hC : H2.objs.size = Dl + 1 := by rw [← hH2, Heap.size_push, hDl]
  generalize hCC : H2.objs.size = C at hns₃ hsb₃ hC ⊢
  have lt1 : ∀ b o, s₁.heap.get? b = some o → b < Dl := fun b o h => hDl ▸ Heap.lt_size h
  have n1D : s₁.heap.get? Dl = none := hDl ▸ get_size _
  have n1C : s₁.heap.get? C = none := by
    cases q : s₁.heap.get? C with
    | none => rfl
    | some o => have h1 := lt1 _ _ q; rw [hC] at h1; exact absurd h1 (Nat.not_lt.mpr (Nat.le_succ _))
  have back : ∀ {a}, s₁.heap.get? a = none → s.heap.get? a = none := fun {a} h => by
    cases q : s.heap.get? a with
    | none => rfl
    | some o => rw [x₁.keep _ _ q] at h; cases h
  have k12 : Kp s₁.heap H2 := hH2 ▸ kp_push _ _
  have k23 : Kp H2 h₃ := fun b o h => by
    have hlt : b ≠ C := fun e => by have h1 := Heap.lt_size h; rw [e, ← hCC] at h1; exact Nat.lt_irrefl _ h1
    exact sameBut_get hsb₃ hlt (Heap.get?_push_of_some _ h)
  have oD : H2.get? Dl = some (listOf #[] 0) := by rw [← hH2, ← hDl]; exact Heap.get?_push_size _ rfl
  have n2C : H2.get? C = none := hCC ▸ get_size _
  have hit1 : it ≠ Dl := fun e => by obtain ⟨o, h, _⟩ := hst; have h1 := lt1 _ _ h; rw [e] at h1; exact Nat.lt_irrefl _ h1
  have hit2 : it ≠ C := fun e => by obtain ⟨o, h, _⟩ := hst; have h1 := lt1 _ _ h; rw [e, hC] at h1; exact absurd h1 (Nat.not_lt.mpr (Nat.le_succ _))
  have hDC : Dl ≠ C := fun e => by rw [hC] at e; exact absurd e (Nat.ne_of_lt (Nat.lt_succ_self _))
  have alive : ∀ {a}, a ∈ own₀ → ∃ o, s.heap.get? a = some o := fun {a} h => (G₀.hid a h).2
  have nD : Dl ∉ own₀ := fun h => by obtain ⟨o, q⟩ := alive h; rw [back n1D] at q; cases q
  have nC : C ∉ own₀ := fun h => by obtain ⟨o, q⟩ := alive h; rw [back n1C] at q; cases q
  have nI : it ∉ own₀ := fun h => by obtain ⟨o, q⟩ := alive h; rw [hnew] at q; cases q
  have S0 : ∀ {a}, s.heap.get? a = none → c.S₀.heap.get? a = none := fun {a} h => by
    cases q : c.S₀.heap.get? a with
    | none => rfl
    | some o => rw [G₀.keep _ _ q] at h; cases h
  -- the frame inside
  have G1 := G₀.more x₁ hnew (hst.imp fun o h => h.1)
  have G2 := G1.more (s' := { s₁ with heap := H2 }) (Ext.heap k12 s₁.toks) n1D ⟨_, oD⟩
  generalize htk : s₁.toks + ([] : List (Str × Value)).length = tk
  have G3 := G2.more (s' := { s₁ with heap := h₃, toks := tk }) (it := C) (Ext.heap (s := { s₁ with heap := H2 }) k23 tk) n2C (let ⟨o, _, _, ho, _⟩ := hns₃; ⟨o, ho⟩)
  have cellOwn : ∀ y a, c.env.cells.lookup y = some a → a ∈ own₀ := fun y a h => (G₀.cells y a h).1
  have Gi := Good.inn (c := c) G3 I (C := C) (List.mem_cons_self ..) (S0 (back n1C)) hns₃ (fun y a h e => nC (e ▸ cellOwn y a h))
  have turns : ∀ s₃ : Shared, s₃ = { s₁ with heap := h₃, toks := tk } → codeAny (model c.prog c.w) c.A (.compLoop (.ListComp elt [⟨.Name x px, iter, ifs, 0⟩] scope pos) 0 (.ref it) (.ref Dl) (compEnvC scope cl C c.env)) (RR (.ref Dl) C) s₃ := by
    rintro s₃ rfl
    refine comp_turns (own := C :: Dl :: it :: own₀) (cenv := compEnvC scope cl C c.env) (σ₀ := inner (compEnvC scope cl C c.env) σ) (s₀ := s₁) (f := f) (p := p) g (fun s' hk b o hb hbi h => hk b o hbi (fun e => by rw [e, n1D] at h; cases h) (fun e => by rw [show b = C from e, n1C] at h; cases h) h)
      (lookup_relabel_local I.var) hxd hxc (by simp) (by simp) hit1 hit2 hDC (fun y b h e => nI (e ▸ cellOwn y b (I.sub y b h))) (fun y b h e => nD (e ▸ cellOwn y b (I.sub y b h))) (S0 hnew) (S0 (back n1D)) hlen
      (fun i σ' hi hl hf => ht C i σ' hi hl fun y d hy h => hf y d hy (Look.inner h hy)) (fun i σ' hi hp hl hf => he C i σ' hi hp hl fun y d hy h => hf y d hy (Look.inner h hy)) (fun s' hk ge hn ha => ?_)
      ⟨fun b o h1 h2 h3 q => k23 b o (k12 b o q), Ge.same rfl rfl, ?_, ⟨#[], 0, k23 _ _ oD, rfl⟩, _, Gi, fun y d _ h => h, fun y a l e => by obtain ⟨_, _, d, e'⟩ := inner_some e; cases e'⟩
    · have hkp : Kp s.heap s'.heap := fun b o q => hk b o (fun e => by rw [e, hnew] at q; cases q) (fun e => by rw [e, back n1D] at q; cases q) (fun e => by rw [show b = C from e, back n1C] at q; cases q) (x₁.keep b o q)
      have ge' := x₁.ge.trans ge
      obtain ⟨vs, n, h, h'⟩ := ha
      exact hRR Dl C s' ⟨hkp, ge'.1, ge'.2⟩ nD nC hDC (back n1C) hn ⟨vs, n, h, h'.mono (fun b o _ q => q) (fun a m => .inl (by
        rcases List.mem_cons.mp m with rfl | m
        · exact List.mem_cons_self ..
        · exact List.mem_cons_of_mem _ (List.mem_cons_of_mem _ (List.mem_cons_of_mem _ m))))⟩
    · obtain ⟨o, h, h'⟩ := hst
      exact ⟨o, k23 _ _ (k12 _ _ h), h'⟩
  exact codeAny_compStart_list (turns _ (by rw [← htk])) (g.self 0 _ _ _ (let ⟨o, h, h'⟩ := hst; ⟨o, k23 _ _ (k12 _ _ h), h'⟩) (turns _ (by rw [← htk])))

/-- a list comprehension over ints -/
theorem SE.listComp {elt iter : Expr} {x : Str} {px pos : Pos} {ifs : List Expr} {scope : Scope} {cl : List (Str × Addr)} {l : List Int} (f : Int → D) (p : Int → Bool)
    (I : Inn c scope cl x) (hxd : (x == ("__debug__" : Str)) = false) (hxc : (x == ("__classdict__" : Str)) = false) (hlen : l.length ≤ 1000000) (hi : SI c σ iter l)
    (ht : ∀ C i σ', i ∈ l → Look σ' x (.d (.int i)) → (∀ y d, Fr (compEnvC scope cl C c.env) y → Look σ y (.d d) → Look σ' y (.d d)) → STs { c with env := compEnvC scope cl C c.env } σ' ifs (p i))
    (he : ∀ C i σ', i ∈ l → p i = true → Look σ' x (.d (.int i)) → (∀ y d, Fr (compEnvC scope cl C c.env) y → Look σ y (.d d) → Look σ' y (.d d)) → SE { c with env := compEnvC scope cl C c.env } σ' elt (f i))
    (hs : ∀ x, foldedSetIterable iter c.env x = pure x := by intro _; rfl) :
    SE c σ (.ListComp elt [⟨.Name x px, iter, ifs, 0⟩] scope pos) (.list ((l.filter p).map f)) := fun own s Q E G h => by
  rw [eval_ListComp]
  refine wpAny_comprehension_free (use := Option.none) rfl hs I.clos I.kind I.names (hi own s _ _ G fun it s₁ St x₁ hnew hst g => ?_)
  refine comp_block (f := f) (p := p) (RR := fun acc C => compPost (model c.prog c.w) c.A E Option.none Q acc C) I hxd hxc hlen G x₁ hnew hst g ht he fun Dl C s' x' nD nC hDC hCn hn ha => ?_
  obtain ⟨m, hn⟩ := hn
  obtain ⟨vs, n, ho, hr⟩ := ha
  refine ⟨m, hn, fun h' hsb => ?_⟩
  have hk : ∀ b o, b ≠ C → s'.heap.get? b = some o → h'.get? b = some o := fun b o hb q => sameBut_get hsb hb q
  refine h _ _ (x'.trans_but hk hCn) ⟨Dl, vs, rfl, nD, ⟨_, hk _ _ hDC ho, rfl, n, rfl⟩, hr.mono (fun b o hb q => hk b o (fun e => hb (e ▸ List.mem_cons_self ..)) q) (fun a m => .inl (List.mem_cons_of_mem _ m))⟩
/-- x = [..], the list stored ahead of the comprehension's end -/
theorem SX.assignComp {P : FD → Sto → Prop} {rest : List Stmt} {elt iter : Expr} {x z : Str} {px pz pos spos : Pos} {ifs : List Expr} {scope : Scope} {cl : List (Str × Addr)} {l : List Int} (f : Int → D) (p : Int → Bool)
    (hsw : swapsWith (.ListComp elt [⟨.Name x px, iter, ifs, 0⟩] scope pos) (some (.Name z pz)) spos.line c.env = pure true)
    (I : Inn c scope cl x) (hxd : (x == ("__debug__" : Str)) = false) (hxc : (x == ("__classdict__" : Str)) = false) (hlen : l.length ≤ 1000000) (hi : SI c σ iter l)
    (ht : ∀ C i σ', i ∈ l → Look σ' x (.d (.int i)) → (∀ y d, Fr (compEnvC scope cl C c.env) y → Look σ y (.d d) → Look σ' y (.d d)) → STs { c with env := compEnvC scope cl C c.env } σ' ifs (p i))
    (he : ∀ C i σ', i ∈ l → p i = true → Look σ' x (.d (.int i)) → (∀ y d, Fr (compEnvC scope cl C c.env) y → Look σ y (.d d) → Look σ' y (.d d)) → SE { c with env := compEnvC scope cl C c.env } σ' elt (f i))
    (hz : c.env.kindOf z = some .local) (hzd : (z == ("__debug__" : Str)) = false) (hzc : (z == ("__classdict__" : Str)) = false)
    (h : SX c (upd σ z (.d (.list ((l.filter p).map f)))) rest P)
    (hs : ∀ x, foldedSetIterable iter c.env x = pure x := by intro _; rfl) :
    SX c σ (.Assign [.Name z pz] (.ListComp elt [⟨.Name x px, iter, ifs, 0⟩] scope pos) spos :: rest) P := fun own s Q E G hq => by
  refine wpAny_execs_cons ?_
  rw [exec_Assign_Name_used _ _ _ _ hsw]
  refine wpAny_bind (wpAny_standAt (wpAny_bind ?_))
  show wpAny _ c.A (do let _ ← comprehension (.ListComp elt [⟨.Name x px, iter, ifs, 0⟩] scope pos) scope c.env _ (newList []) false (eval iter c.env) (Option.some (PySem.assign (Expr.Name z pz) c.env))) _ _ s
  refine wpAny_bind (wpAny_mono (wpAny_comprehension_free (use := some (PySem.assign (Expr.Name z pz) c.env)) (Q := fun _ s' => c.wp (execs rest c.env) Q E s') rfl hs I.clos I.kind I.names
    (hi own s _ _ G fun it s₁ St x₁ hnew hst g => ?_)) (fun _ s' hq => wpAny_pure (wpAny_pure hq)) fun _ _ e => e)
  refine comp_block (f := f) (p := p) (RR := fun acc C => compPost (model c.prog c.w) c.A E (Option.some (PySem.assign (Expr.Name z pz) c.env)) (fun _ s' => c.wp (execs rest c.env) Q E s') acc C) I hxd hxc hlen G x₁ hnew hst g ht he fun Dl C s' x' nD nC hDC hCn hn ha => ?_
  obtain ⟨m, hn⟩ := hn
  obtain ⟨vs, n, ho, hr⟩ := ha
  have G₁ : c.G (C :: own) σ s' := G.more x' hCn (let ⟨o, _, _, ho, _⟩ := hn; ⟨o, ho⟩)
  have hCL : C ≠ c.env.locals := fun e => nC (e ▸ G.lown)
  show wpAny _ c.A (PySem.assign (Expr.Name z pz) c.env (.ref Dl)) _ _ _
  refine wpAny_assign_Name (Good.storeL (c := c) G₁ hz hzd hzc (v := .d (.list ((l.filter p).map f))) ⟨Dl, vs, rfl, by simp [hDC, nD], ⟨_, ho, rfl, n, rfl⟩, hr⟩ (fun _ _ e => nomatch e) fun s₂ G₂ hsb _ _ => ?_)
  refine ⟨m, hn.sameBut hsb hCL, fun h' hsb' => ?_⟩
  have hm : ¬ Mut c.env (upd σ z (.d (.list ((l.filter p).map f)))) C := by
    rintro (e | ⟨y, e⟩ | ⟨y, l', e⟩)
    · exact hCL e
    · exact nC (G.cells y C e).1
    · unfold upd at e
      split at e
      · cases e
      · exact nC (G.mut_own (.inr (.inr ⟨y, l', e⟩)))
  have hS : c.S₀.heap.get? C = none := by
    cases q : c.S₀.heap.get? C with
    | none => rfl
    | some o => rw [G.keep _ _ q] at hCn; cases hCn
  have G₃ := G₂.drop (s' := { s₂ with heap := h' }) (it := C) (List.mem_cons_self ..) hm hS (fun q => nC (G.av C q)) (fun b o hb q => sameBut_get hsb' hb q) rfl rfl
  exact h _ _ Q E G₃ hq
end
end Mine

open PySem PySem.W PyProof.Rows PySem.Calls
set_option Elab.async false
set_option linter.unusedVariables false
set_option maxRecDepth 100000
namespace Mine
/-! ## generators: segments between yields; Sl is the list that takes what comes -/
/-- how a generator of ours speaks: W is what holds of the frame while it rests -/
def YP (Sl : Addr) {ι : Type} (W : ι → Shared → Prop) (Val : Nat → ι → Value → Shared → Prop) : Protocol := fun m s₀ v s cont =>
  ∃ i, Val m i v s ∧ W i s ∧ (∃ o, s₀.heap.get? Sl = some o ∧ s.heap.get? Sl = some o) ∧ ∀ s'' o, W i s'' → s''.heap.get? Sl = some o → cont (.send .none) s''
/-- how it ends -/
def RP (Sl : Addr) {ι : Type} (W : ι → Shared → Prop) : GenEnd := fun n s₀ r s => r = .ok (.ret .none) ∧ n = 0 ∧ (∃ i, W i s) ∧ ∃ o, s₀.heap.get? Sl = some o ∧ s.heap.get? Sl = some o

section
variable {Sl : Addr} {M : Model} {A : Around} {R : GenEnd} {Y : Protocol}
/-- a computation that may yield; o: the list's content since it woke -/
def SY (Sl : Addr) (M : Model) (A : Around) (R : GenEnd) (Y : Protocol) (c : Code) (fs : List Frame) {α : Type} (m : Sem α) (n : Nat) (o : Obj) (s : Shared) (Q : α → Nat → Obj → Shared → Prop) : Prop :=
  ∀ (K : α → Sem Fin) (H : Value → Sem Fin) (gd : Bool → Bool) (lv : List Value → List Value) (s₀ : Shared), gd false = false → s₀.heap.get? Sl = some o →
    (∀ a n' o' s₀' s', s₀'.heap.get? Sl = some o' → Q a n' o' s' → Seg M A R Y n' s₀' c (K a) fs s') → Seg M A R Y n s₀ c (m.wrap K H gd lv) fs s
variable {c : Code} {fs : List Frame} {α β : Type} {n : Nat} {o : Obj} {s : Shared}
theorem SY.of_wp {m : Sem α} {Q : α → Nat → Obj → Shared → Prop} (h : wpAny M (A.over c fs) m (fun a s' => Q a n o s') (fun _ _ => False) s) : SY Sl M A R Y c fs m n o s Q := fun K H gd lv s₀ _ h0 hk =>
  seg_wrap (wpAny_mono h (fun a s' q => hk a n o s₀ s' h0 q) (fun _ _ f => f.elim))
theorem SY.bind {m : Sem α} {f : α → Sem β} {Q : β → Nat → Obj → Shared → Prop} (h : SY Sl M A R Y c fs m n o s fun a n' o' s' => SY Sl M A R Y c fs (f a) n' o' s' Q) : SY Sl M A R Y c fs (m >>= f) n o s Q := fun K H gd lv s₀ hg h0 hk => by
  rw [Sem.bind_eq_wrap', Sem.wrap_wrap]
  exact h _ _ _ _ s₀ hg h0 fun a n' o' s₀' s' h0' q => q K H _ _ s₀' hg h0' hk
theorem SY.pure {a : α} {Q : α → Nat → Obj → Shared → Prop} (h : Q a n o s) : SY Sl M A R Y c fs (Pure.pure a) n o s Q := fun K H gd lv s₀ _ h0 hk => hk a n o s₀ s h0 h
theorem SY.mono {m : Sem α} {Q Q' : α → Nat → Obj → Shared → Prop} (h : SY Sl M A R Y c fs m n o s Q) (hq : ∀ a n' o' s', Q a n' o' s' → Q' a n' o' s') : SY Sl M A R Y c fs m n o s Q' := fun K H gd lv s₀ hg h0 hk => h K H gd lv s₀ hg h0 fun a n' o' s₀' s' h0' q => hk a n' o' s₀' s' h0' (hq _ _ _ _ q)
theorem SY.at {p : Pos} {Q : Unit → Nat → Obj → Shared → Prop} (h : Q () n o s) : SY Sl M A R Y c fs (standAt p) n o s Q := SY.of_wp (wpAny_standAt h)
theorem SY.onRaise {m : Sem α} {g : Value → Sem Unit} {Q : α → Nat → Obj → Shared → Prop} (h : SY Sl M A R Y c fs m n o s Q) : SY Sl M A R Y c fs (m.onRaise g) n o s Q := fun K H gd lv s₀ hg h0 hk => by
  rw [Sem.onRaise_eq_wrap, Sem.wrap_wrap]
  exact h _ _ _ _ s₀ hg h0 fun a n' o' s₀' s' h0' q => hk a n' o' s₀' s' h0' q
/-- another code's run -/
theorem SY.run {c' : Code} {Q : Flow → Nat → Obj → Shared → Prop} (h : ∀ (k : Result → Sem Fin) (l : List Value) (p : Pos) (s₀ : Shared), s₀.heap.get? Sl = some o → (∀ f n' o' s₀' s', s₀'.heap.get? Sl = some o' → Q f n' o' s' → Seg M A R Y n' s₀' c (k (.ok f)) fs s') →
    Seg M A R Y n s₀ c' (M.den c') (.ret k none false l c p [] :: fs) s) : SY Sl M A R Y c fs (PySem.run c') n o s Q := fun K H gd lv s₀ hg h0 hk => by
  show Seg M A R Y n s₀ c (.call c' none (gd false) (lv []) fun r => (match r with | .ok f => (.pure f : Sem Flow) | .error e => .raise e).wrap K H gd lv) fs s
  rw [hg]
  exact seg_call fun p => h _ _ p s₀ h0 fun f n' o' s₀' s' h0' q => hk f n' o' s₀' s' h0' q
theorem SY.runOwn {c' : Code} {env : Env} {Q : Flow → Nat → Obj → Shared → Prop} (h : SY Sl M A R Y c fs (PySem.run c') n o s Q) : SY Sl M A R Y c fs (PySem.runOwn c' env) n o s Q := SY.onRaise h
/-- a whole tree -/
theorem Seg.of_SY {t : Sem Fin} {s₀ : Shared} {Q : Fin → Nat → Obj → Shared → Prop} (h0 : s₀.heap.get? Sl = some o) (h : SY Sl M A R Y c fs t n o s Q) (hq : ∀ a n' o' s₀' s', s₀'.heap.get? Sl = some o' → Q a n' o' s' → Seg M A R Y n' s₀' c (.pure a) fs s') : Seg M A R Y n s₀ c t fs s := by
  have e : t.wrap .pure .raise id id = t := by rw [← Sem.bind_eq_wrap, Sem.bind_pure]
  have := h .pure .raise id id s₀ rfl h0 hq
  rw [e] at this; exact this
end

section
variable {Sl : Addr} {M : Model} {A : Around} {ι : Type} {W : ι → Shared → Prop} {Val : Nat → ι → Value → Shared → Prop} {R : GenEnd} {c : Code} {fs : List Frame} {n : Nat} {o : Obj} {s : Shared} {env : Env}
theorem SY.yield {v : Value} {i : ι} {Q : Value → Nat → Obj → Shared → Prop} (hfs : splitAtGen fs = none) (hfg : fs.any Frame.guarded = false) (hv : Val n i v s) (hW : W i s) (ho : s.heap.get? Sl = some o) (hq : ∀ s'' o'', W i s'' → s''.heap.get? Sl = some o'' → Q .none n o'' s'') :
    SY Sl M A R (YP Sl W Val) c fs (yieldValue v) (n + 1) o s Q := fun K H gd lv s₀ hg h0 hk => by
  show Seg M A R (YP Sl W Val) (n + 1) s₀ c (.yield v (gd false) (lv []) _) fs s
  exact seg_yield hfs hg hfg ⟨i, hv, hW, ⟨o, h0, ho⟩, fun s'' o'' w h => hk .none n o'' s'' s'' h (hq s'' o'' w h)⟩
/-- yield e, as a statement -/
theorem SY.stmtYield {e : Expr} {yp pos : Pos} {Q : Flow → Nat → Obj → Shared → Prop} (hfs : splitAtGen fs = none) (hfg : fs.any Frame.guarded = false) (hco : env.scope.isCoroutine = false) (hi : interactive env = false)
    (h : wpAny M (A.over c fs) (eval e env) (fun v s' => ∃ i, Val n i v s' ∧ W i s' ∧ s'.heap.get? Sl = some o ∧ ∀ s'' o'', W i s'' → s''.heap.get? Sl = some o'' → Q .next n o'' s'') (fun _ _ => False) s) :
    SY Sl M A R (YP Sl W Val) c fs (exec (.Expr (.Yield (some e) yp) pos) env) (n + 1) o s Q := by
  rw [exec_Expr env _ pos hi rfl]
  refine SY.bind (SY.at (SY.bind ?_))
  show SY Sl M A R (YP Sl W Val) c fs (eval e env >>= fun v => (standAt yp >>= fun _ => yieldOut env v)) (n + 1) o s _
  refine SY.bind (SY.of_wp (wpAny_mono h (fun v s' q => ?_) fun _ _ f => f))
  obtain ⟨i, hv, hW, ho, hq⟩ := q
  refine SY.bind (SY.at ?_)
  have hy : yieldOut env v = yieldValue v := by simp only [yieldOut, hco, Bool.false_eq_true, if_false]
  rw [hy]
  exact SY.yield hfs hfg hv hW ho fun s'' o'' w h => SY.pure (hq s'' o'' w h)
theorem SY.execs_nil {Q : Flow → Nat → Obj → Shared → Prop} {Y : Protocol} (h : Q .next n o s) : SY Sl M A R Y c fs (execs [] env) n o s Q := SY.pure h
theorem SY.execs_cons {st : Stmt} {rest : List Stmt} {Q : Flow → Nat → Obj → Shared → Prop} {Y : Protocol} (h : SY Sl M A R Y c fs (exec st env) n o s fun f n' o' s' => match f with | .next => SY Sl M A R Y c fs (execs rest env) n' o' s' Q | f => Q f n' o' s') :
    SY Sl M A R Y c fs (execs (st :: rest) env) n o s Q := by
  rw [PySem.execs_cons]
  refine SY.bind (h.mono fun f n' o' s' q => ?_)
  cases f with
  | next => exact q
  | brk => exact SY.pure q
  | cont => exact SY.pure q
  | ret v => exact SY.pure q
theorem SY.if_ {test : Expr} {body orelse : List Stmt} {pos : Pos} {Q : Flow → Nat → Obj → Shared → Prop} {Y : Protocol} (h : wpAny M (A.over c fs) (isTrue test env (eval test env)) (fun b s' => if b = true then SY Sl M A R Y c fs (execs body env) n o s' Q else SY Sl M A R Y c fs (execs orelse env) n o s' Q) (fun _ _ => False) s) :
    SY Sl M A R Y c fs (exec (.If test body orelse pos) env) n o s Q := by
  rw [exec_If]
  refine SY.bind (SY.at (SY.bind (SY.of_wp (wpAny_mono h (fun b s' q => ?_) fun _ _ f => f))))
  cases b with
  | true => exact q
  | false => exact q
theorem execs_append (env : Env) : ∀ (pre post : List Stmt), execs (pre ++ post) env = (do match ← execs pre env with | .next => execs post env | f => Pure.pure f)
  | [], post => rfl
  | st :: pre, post => by
    rw [List.cons_append, PySem.execs_cons, PySem.execs_cons, execs_append env pre post, bind_assoc]
    congr 1
    funext f
    cases f <;> simp
end
end Mine

open PySem PySem.W PyProof.Rows PySem.Calls
set_option Elab.async false
set_option linter.unusedVariables false
set_option maxRecDepth 100000
namespace Mine
theorem room_func {A : Around} {n : Nat} (R : Room A (n + 1)) (body : List Stmt) (env : Env) : Room (A.over (.func body env) []) n := by
  refine ⟨R.handled, ?_, ?_⟩
  · have := R.depth
    show A.depth + 0 + 1 + n < _
    omega
  · have := R.units
    show A.units + 0 + 3 + 8 * n < _
    omega
theorem room_loop {A : Around} {n : Nat} (R : Room A (n + 1)) (body body' orelse : List Stmt) (env env' : Env) (t it) (k : Result → Sem Fin) (l : List Value) (p : Pos) :
    Room (A.over (.forLoop t it body' orelse env') [.ret k none false l (.func body env) p []]) n := by
  refine ⟨R.handled, ?_, ?_⟩
  · have := R.depth
    show A.depth + (1 + 0) + 0 + n < _
    omega
  · have := R.units
    show A.units + (3 + 0) + 0 + 8 * n < _
    omega
theorem room_while {A : Around} {n : Nat} (R : Room A (n + 1)) (body body' orelse : List Stmt) (env env' : Env) (t) (k : Result → Sem Fin) (l : List Value) (p : Pos) :
    Room (A.over (.whileLoop t body' orelse env') [.ret k none false l (.func body env) p []]) n := by
  refine ⟨R.handled, ?_, ?_⟩
  · have := R.depth
    show A.depth + (1 + 0) + 0 + n < _
    omega
  · have := R.units
    show A.units + (3 + 0) + 0 + 8 * n < _
    omega

section
variable {Sl : Addr} {R : GenEnd} {Y : Protocol} {A : Around}
/-- a loop that has no more to do: the empty else -/
theorem seg_block_nil {M : Model} {c : Code} {fs : List Frame} {n : Nat} {o : Obj} {s₀ s : Shared} {k : Result → Sem Fin} {l : List Value} {p : Pos} {c₀ : Code} {env : Env} (h0 : s₀.heap.get? Sl = some o) (hM : M.den (.block [] env) = denote table (.block [] env))
    (h : ∀ s₀, s₀.heap.get? Sl = some o → Seg M A R Y n s₀ c (k (.ok .next)) fs s) : Seg M A R Y n s₀ c₀ (.pure (.again (.block [] env))) (.ret k none false l c p [] :: fs) s := by
  refine seg_again (by rfl) ?_
  rw [hM]
  refine Seg.of_SY (Sl := Sl) (Q := fun a n' o' s' => a = .done .next ∧ n' = n ∧ o' = o ∧ s' = s) h0 (SY.bind (SY.onRaise (SY.execs_nil (SY.pure ⟨rfl, rfl, rfl, rfl⟩)))) ?_
  rintro a n' o' s₀' s' h0' ⟨rfl, rfl, rfl, rfl⟩
  exact seg_leaf (.ok .next) (h s₀' h0')
end
section
variable {c : Cx} {σ : Sto}
open Classical in
/-- a store changes the frame's own objects only -/
theorem Good.storeM {own : List Addr} {s : Shared} (G : c.G own σ s) {x : Str} (hx : varOk c.env x = true) {d : D} {u : Value} (r : Rep s.heap own d u)
    {Q : Unit → Shared → Prop} {E : Value → Shared → Prop} (h : ∀ s', c.G own (upd σ x (.d d)) s' → (∀ b o, ¬ Mut c.env σ b → s.heap.get? b = some o → s'.heap.get? b = some o) → Ge s s' → Q () s') : c.wp (storeName c.env x u) Q E s := by
  let p : Addr → Bool := fun a => decide (¬ Mut c.env σ a)
  let S₁ : Shared := { s with heap := only s.heap p }
  have keepS : Kp c.S₀.heap S₁.heap := fun b o h => by
    show (only s.heap p).get? b = some o
    rw [only_get, if_pos (by simp only [p, decide_eq_true_eq]; intro m; rw [G.mut_none m] at h; cases h)]
    exact G.keep b o h
  have G₃ : Good c.K c.mg c.mb S₁ c.av own c.env σ s := G.base' (G.stat.keeps keepS) (fun b o h => by
      have h' : (only s.heap p).get? b = some o := h
      rw [only_get] at h'
      split at h'
      · exact h'
      · cases h') (fun a h => by
      show (only s.heap p).get? a = none
      rw [only_get, if_neg (by simp [p, h])]) G.av ⟨#[], by simp [S₁], AllBare.empty⟩ rfl
  refine Good.storeD (c := { c with S₀ := S₁ }) G₃ hx r fun s' G₄ => ?_
  have ge : Ge s s' := ⟨G₄.gens, G₄.os⟩
  obtain ⟨m, e, b⟩ := G.gens
  obtain ⟨m', e', b'⟩ := ge.1
  refine h s' (G₄.base' G.stat (fun b o h => G₄.keep b o (keepS b o h)) (fun a h => ?_) G₄.av ⟨m ++ m', by rw [e', e, Array.append_assoc], allBare_append b b'⟩ (ge.2.trans G.os)) (fun b o hb hg => G₄.keep b o ?_) ge
  · have h' : S₁.heap.get? a = none := G₄.mut_none h
    cases q : c.S₀.heap.get? a with
    | none => rfl
    | some o => rw [keepS a o q] at h'; cases h'
  · show (only s.heap p).get? b = some o
    rw [only_get, if_pos (by simp [p, hb])]
    exact hg
end
/-- an expression whose iterator gives ints, in any surroundings -/
def SIA (c : Cx) (σ : Sto) (e : Expr) (l : List Int) : Prop :=
  ∀ own s (Q : Value → Shared → Prop) E, c.G own σ s → (∀ it s' St, Ext s s' → s.heap.get? it = none → (∃ o, s'.heap.get? it = some o ∧ St 0 o) → (∀ A', Room A' 0 → Gives { c with A := A' } s'.heap own it St l) → Q (.ref it) s') →
    c.wp (eval e c.env) (fun x s₁ => c.wp (pyIter x) Q E s₁) E s
theorem SIA.range {c : Cx} {σ : Sto} {e a b} (h : SE c σ e (.rng a b)) (h1 : -1000000 ≤ a) (h2 : a ≤ 1000000) (h3 : -1000000 ≤ b) (h4 : b ≤ 1000000) : SIA c σ e (iot a (b - a).toNat) := by
  intro own s Q E G hq
  refine h own s _ E G fun v s₁ x₁ r₁ => ?_
  obtain ⟨r, t, u, w, rfl, hr, ho⟩ := r₁
  have hsz : Builtin.Range.rangeSize a b 1 = ((b - a).toNat : Nat) := by rw [rangeSize1]; split <;> omega
  refine wpAny_pyIter_range ho (small1 a b h1 h2 h3 h4) ?_
  refine hq s₁.heap.objs.size _ (fun k o => o = { cls := .type "range_iterator", dict := none, data := .fields #[rawInt (a + (k : Nat)), rawInt (((b - a).toNat : Nat) - (k : Nat) : Int), rawInt 1], slots := #[] }) (x₁.trans (Ext.heap (kp_push _ _) _)) ?_ ⟨_, Heap.get?_push_size _ rfl, ?_⟩ ?_
  · cases q : s.heap.get? s₁.heap.objs.size with
    | none => rfl
    | some o => have := x₁.keep _ _ q; rw [get_size] at this; cases this
  · rw [hsz]; simp
  · intro A' RA
    refine ⟨fun k i s' Q' E' hk _ ⟨o, ho, e⟩ hq' => ?_, fun s' Q' E' _ ⟨o, ho, e⟩ hq' => ?_, fun k s' Q' E' ⟨o, ho, e⟩ hq' => by subst e; exact wpAny_pyIter_rangeiter ho hq'⟩
    · subst e
      obtain ⟨hlt, rfl⟩ := iot_get hk
      refine wpAny_pyNext_range_item ho (by omega) fun h' hit hs => ?_
      refine hq' _ _ ⟨_, hit, ?_⟩ (fun b o hb hg => sameBut_get hs hb hg) rfl rfl
      have e1 : a + (k : Int) + 1 = a + ((k + 1 : Nat) : Int) := by omega
      have e2 : (((b - a).toNat : Nat) : Int) - (k : Nat) - 1 = (((b - a).toNat : Nat) : Int) - ((k + 1 : Nat) : Int) := by omega
      rw [e1, e2]
    · subst e
      rw [iot_len] at ho
      refine wpAny_pyNext_range_end RA.handled ho (by omega) fun h' hs => ?_
      exact hq' _ (fun b o hb hg => hs b o hb hg) rfl rfl
section
variable {Sl : Addr} {c : Cx} {σ : Sto} {R : GenEnd} {Y : Protocol} {fbody : List Stmt} {n : Nat} {o : Obj} {own₀ : List Addr} {s : Shared}
/-- a for loop over ints whose body may yield; the frame runs as a code of its own -/
theorem SY.for_ {A : Around} {x px e body pos l} {Q : Flow → Nat → Obj → Shared → Prop} (r : Nat) (RA : Room A (r + 1)) (hcA : c.A = A.over (.func fbody c.env) []) (hi : SIA c σ e l) (G₀ : c.G own₀ σ s) (hSl : Sl ∈ own₀) (hSm : ¬ Mut c.env σ Sl) (hS0 : c.S₀.heap.get? Sl = none) (hSo : s.heap.get? Sl = some o) (hx : varOk c.env x = true) (I : Nat → Sto → Nat → Prop) (h0 : I 0 σ n)
    (turn : ∀ k i σ n, l[k]? = some i → I k σ n → ∀ (S₁ : Shared) av₁ c' fs' own s, splitAtGen fs' = none → fs'.any Frame.guarded = false → Room (A.over c' fs') r → S₁.gens = c.S₀.gens → S₁.os = c.S₀.os →
      (∀ b, b ∈ own₀ → c.S₀.heap.get? b = none → S₁.heap.get? b = none) → (∀ a ∈ c.av, a ∈ av₁) → Good c.K c.mg c.mb S₁ av₁ own c.env (upd σ x (.d (.int i))) s → Sl ∈ av₁ → ¬ Mut c.env (upd σ x (.d (.int i))) Sl → S₁.heap.get? Sl = none → Kp c.S₀.heap S₁.heap → ∀ o, s.heap.get? Sl = some o →
      SY Sl (model c.prog c.w) A R Y c' fs' (execs body c.env) n o s fun f n' o' s' => f = .next ∧ ∃ own' σ', Good c.K c.mg c.mb S₁ av₁ own' c.env σ' s' ∧ ¬ Mut c.env σ' Sl ∧ s'.heap.get? Sl = some o' ∧ I (k + 1) σ' n')
    (hcav : Sl ∈ c.av) (after : ∀ own' σ' n' o' s', c.G own' σ' s' → ¬ Mut c.env σ' Sl → s'.heap.get? Sl = some o' → I l.length σ' n' → Q .next n' o' s')
    (hs : ∀ x, foldedSetIterable e c.env x = Pure.pure x := by intro _; rfl) :
    SY Sl (model c.prog c.w) A R Y (.func fbody c.env) [] (exec (.For (.Name x px) e body [] pos) c.env) n o s Q := by
  rw [exec_For]
  refine SY.bind (SY.at (SY.bind (SY.of_wp ?_)))
  rw [← hcA]
  refine wpAny_mono (hi own₀ s (fun it s₂ => ∀ (hit : Value) , hit = it → SY Sl (model c.prog c.w) A R Y (.func fbody c.env) [] (PySem.runOwn (.forLoop (.Name x px) hit body [] c.env) c.env) n o s₂ Q) (fun _ _ => False) G₀ fun it s₁ St x₁ hnew hst g => ?_) (fun xv s₁ h₁ => ?_) fun _ _ f => f
  rotate_left
  · refine SY.bind ?_
    rw [hs]
    refine SY.pure (SY.bind (SY.at (SY.bind (SY.of_wp ?_))))
    rw [← hcA]
    exact wpAny_holding (wpAny_mono h₁ (fun it s₂ h₂ => h₂ it rfl) fun _ _ f => f)
  rintro _ rfl
  -- what stays
  let p : Addr → Bool := fun a => (decide (a ∉ own₀) && (s₁.heap.get? a).isSome) || (c.S₀.heap.get? a).isSome || a == it
  have pit : p it = true := by simp [p]
  have pS : ∀ a o, c.S₀.heap.get? a = some o → p a = true := fun a o h => by simp [p, h]
  have pO : ∀ a o, a ∉ own₀ → s₁.heap.get? a = some o → p a = true := fun a o h h' => by simp [p, h, h']
  have keep1 : Kp c.S₀.heap s₁.heap := (G₀.ext x₁).keep
  have pH : ∀ a, p a = true → ∃ o, s₁.heap.get? a = some o := fun a h => by
    simp only [p, Bool.or_eq_true, Bool.and_eq_true, beq_iff_eq, Option.isSome_iff_exists] at h
    rcases h with (⟨_, h⟩ | ⟨o, h⟩) | rfl
    · exact h
    · exact ⟨o, keep1 _ _ h⟩
    · exact hst.imp fun o h => h.1
  have nI : it ∉ own₀ := fun h => by obtain ⟨o, q⟩ := (G₀.hid it h).2; rw [hnew] at q; cases q
  have hSit : c.S₀.heap.get? it = none := by
    cases q : c.S₀.heap.get? it with
    | none => rfl
    | some o => rw [G₀.keep _ _ q] at hnew; cases hnew
  have base : Lp c s₁.heap p it St 0 (it :: own₀) σ s₁ := {
    G := G₀.more x₁ hnew (hst.imp fun o h => h.1), mem := List.mem_cons_self .., fix := fun b o _ _ h => h, st := hst,
    mut_ := fun a h => by
      have h1 := G₀.mut_own h
      have h2 := G₀.mut_none h
      have h3 : a ≠ it := fun e => nI (e ▸ h1)
      simp [p, h1, h2, h3] }
  have mit : ∀ {k own σ s}, Lp c s₁.heap p it St k own σ s → ¬ Mut c.env σ it := fun L m => by have := L.mut_ it m; rw [pit] at this; cases this
  have hIS : it ≠ Sl := fun e => nI (e ▸ hSl)
  refine SY.runOwn (SY.run fun kk ll pp s₀ hs0 hkk => ?_)
  -- the turns
  have loop : ∀ m k own σ n o s s₀, m = l.length - k → k ≤ l.length → Lp c s₁.heap p it St k own σ s → ¬ Mut c.env σ Sl → s.heap.get? Sl = some o → s₀.heap.get? Sl = some o → I k σ n →
      Seg (model c.prog c.w) A R Y n s₀ (.forLoop (.Name x px) (.ref it) body [] c.env) (denote table (.forLoop (.Name x px) (.ref it) body [] c.env)) [.ret kk none false ll (.func fbody c.env) pp []] s := by
    intro m
    induction m with
    | zero =>
      intro k own σ' n o s s₀ hm hk L hMu hso hs0 hI
      have hkl : k = l.length := by omega
      subst hkl
      refine Seg.of_SY (Sl := Sl) (Q := fun a n' o' s' => a = .again (.block [] c.env) ∧ s'.heap.get? Sl = some o' ∧ ∃ own' , c.G own' σ' s' ∧ I l.length σ' n') hs0 (SY.onRaise (g := fun x => do noteFrame x c.env; theTreesLotGoes x) (m := forTurn (.Name x px) (.ref it) body [] c.env) ?_) ?_
      · unfold forTurn
        refine SY.bind (SY.at (SY.bind (SY.onRaise (SY.of_wp ?_))))
        have RL := room_loop RA fbody body [] c.env c.env (.Name x px) (.ref it) kk ll pp
        refine (g _ (RL.le (Nat.zero_le _))).last s _ _ (fun b o hb hi' q => L.fix b o (pO b o hb q) hi' q) L.st fun s₂ keep₂ g₂ o₂ => ?_
        exact SY.pure ⟨rfl, keep₂ _ _ (Ne.symm hIS) hso, _, L.G.drop L.mem (mit L) hSit (fun h => nI (G₀.av it h)) keep₂ g₂ o₂, hI⟩
      · rintro a n' o' s₀' s' h0' ⟨rfl, ho', own', G', hI'⟩
        exact seg_block_nil h0' rfl fun s₀ h0 => hkk .next n' o' s₀ s' h0 (after own' σ' n' o' s' G' hMu ho' hI')
    | succ m ih =>
      intro k own σ' n o s s₀ hm hk L hMu hso hs0 hI
      have hkl : k < l.length := by omega
      have hik : l[k]? = some l[k] := List.getElem?_eq_getElem hkl
      generalize l[k] = i at hik
      refine Seg.of_SY (Sl := Sl) (Q := fun a n' o' s' => a = .again (.forLoop (.Name x px) (.ref it) body [] c.env) ∧ ∃ own' σ'', Lp c s₁.heap p it St (k + 1) own' σ'' s' ∧ ¬ Mut c.env σ'' Sl ∧ s'.heap.get? Sl = some o' ∧ I (k + 1) σ'' n') hs0 (SY.onRaise (g := fun x => do noteFrame x c.env; theTreesLotGoes x) (m := forTurn (.Name x px) (.ref it) body [] c.env) ?_) ?_
      · unfold forTurn
        refine SY.bind (SY.at (SY.bind (SY.onRaise (SY.of_wp ?_))))
        have RL := room_loop RA fbody body [] c.env c.env (.Name x px) (.ref it) kk ll pp
        refine (g _ (RL.le (Nat.zero_le _))).item k i s _ _ hik (fun b o hb hi' q => L.fix b o (pO b o hb q) hi' q) L.st fun t s₂ st₂ keep₂ g₂ o₂ => ?_
        have G₂ : c.G own σ' s₂ := L.G.but L.mem (mit L) hSit keep₂ (st₂.imp fun o h => h.1) g₂ o₂
        let S₁ : Shared := { c.S₀ with heap := only s₂.heap p }
        have keepS : Kp c.S₀.heap S₁.heap := fun b o h => by
          show (only s₂.heap p).get? b = some o
          rw [only_get, if_pos (pS b o h)]
          exact G₂.keep b o h
        have G₃ : Good c.K c.mg c.mb S₁ (it :: c.av) own c.env σ' s₂ := G₂.base (G₂.stat.keeps keepS) (fun b o h => by
            have h' : (only s₂.heap p).get? b = some o := h
            rw [only_get] at h'
            split at h'
            · exact h'
            · cases h') (fun a h => by
            show (only s₂.heap p).get? a = none
            rw [only_get, if_neg (by rw [L.mut_ a h]; decide)]) (fun a h => by
            rcases List.mem_cons.mp h with rfl | h
            · exact L.mem
            · exact L.G.av a h) rfl rfl
        have hMu' : ¬ Mut c.env (upd σ' x (.d (.int i))) Sl := by
          rintro (e | e | ⟨y, l', e⟩)
          · exact hMu (.inl e)
          · exact hMu (.inr (.inl e))
          · unfold upd at e
            split at e
            · cases e
            · exact hMu (.inr (.inr ⟨y, l', e⟩))
        have hS1 : S₁.heap.get? Sl = none := by
          show (only s₂.heap p).get? Sl = none
          rw [only_get, if_neg]
          simp [p, hSl, hS0, Ne.symm hIS]
        refine SY.bind (SY.pure (SY.bind (SY.of_wp (wpAny_assign_Name (Good.storeM (c := { c with S₀ := S₁, av := it :: c.av, A := _ }) G₃ hx (d := .int i) ⟨t, rfl⟩ fun s₃ G₄ keepM _ => ?_)))))
        refine SY.bind ((turn k i σ' n hik hI S₁ (it :: c.av) _ _ own s₃ (by rfl) (by rfl) RL rfl rfl (fun b hb hS => ?_) (fun a h => List.mem_cons_of_mem _ h) G₄ (List.mem_cons_of_mem _ hcav) hMu' hS1 keepS o (keepM _ _ hMu (keep₂ _ _ (Ne.symm hIS) hso))).mono fun f n' o' s₄ hf => ?_)
        · show (only s₂.heap p).get? b = none
          rw [only_get, if_neg]
          have : b ≠ it := fun e => nI (e ▸ hb)
          simp [p, hb, hS, this]
        obtain ⟨rfl, own₂, σ₂, G₅, hMu2, ho2, hI'⟩ := hf
        have keepS4 : Kp S₁.heap s₄.heap := G₅.keep
        have G₆ : c.G own₂ σ₂ s₄ := G₅.base (av' := c.av) L.G.stat (fun b o h => keepS4 b o (keepS b o h)) (fun a h => by
            have h' : S₁.heap.get? a = none := G₅.mut_none h
            cases q : c.S₀.heap.get? a with
            | none => rfl
            | some o => rw [keepS a o q] at h'; cases h') (fun a h => G₅.av a (List.mem_cons_of_mem _ h)) rfl rfl
        refine SY.pure ⟨rfl, own₂, σ₂, {
          G := G₆, mem := G₅.av it (List.mem_cons_self ..)
          fix := fun b o hp hb h => keepS4 b o (by
            show (only s₂.heap p).get? b = some o
            rw [only_get, if_pos hp]
            exact keep₂ b o hb (L.fix b o hp hb h))
          st := by
            obtain ⟨o, h, h'⟩ := st₂
            exact ⟨o, keepS4 it o (by
              show (only s₂.heap p).get? it = some o
              rw [only_get, if_pos pit]; exact h), h'⟩
          mut_ := fun a h => by
            have h' : (only s₂.heap p).get? a = none := G₅.mut_none h
            rw [only_get] at h'
            cases q : p a with
            | false => rfl
            | true =>
              rw [if_pos q] at h'
              obtain ⟨o, ho⟩ := pH a q
              by_cases e : a = it
              · obtain ⟨o', h1, _⟩ := st₂
                rw [e, h1] at h'; cases h'
              · rw [keep₂ a o e (L.fix a o q e ho)] at h'; cases h' }, hMu2, ho2, hI'⟩
      · rintro a n' o' s₀' s' h0' ⟨rfl, own', σ'', L', hMu', ho', hI'⟩
        refine seg_again (by rfl) ?_
        exact ih (k + 1) own' σ'' n' o' s' s₀' (by omega) hkl L' hMu' ho' h0' hI'
  exact loop l.length 0 _ _ _ _ _ s₀ (by omega) (Nat.zero_le _) base hSm (x₁.keep _ _ hSo) hs0 h0
end
end Mine

open PySem PySem.W PyProof.Rows PySem.Calls
set_option Elab.async false
set_option linter.unusedVariables false
set_option maxRecDepth 100000
namespace Mine
/-! ## calls of generator functions -/
def plainGen (fd : FuncData) (bs : List (Str × D)) : Bool :=
  fd.scope.kind == .function && !fd.scope.isCoroutine && fd.scope.isGenerator && fd.globals == mainGlobals && fd.builtins == builtinsNs && fd.closure.isEmpty &&
  fd.scope.names.all (fun x => x.2 != .cell && x.2 != .free) && bs.all (fun b => (fd.scope.names.lookup b.1 == some .local) && !(b.1 == ("__debug__" : Str)) && !(b.1 == ("__classdict__" : Str)))
/-- a call that makes a generator -/
def GFn (prog : Program) (w : World) (K : Frag) (mg mb : Str → Option Value) (f : Addr) (args : List D) (fd : FuncData) (body : List Stmt) (bs : List (Str × D)) : Prop :=
  ∀ A av s vs (R : Result → Shared → Prop), Stat K mg mb s.heap → Room A 1 → Hid K s.heap av → Reps s.heap av args vs →
    (∀ a L s', Kp s.heap s'.heap → s.heap.get? a = none → s.heap.get? L = none → s'.heap.IsGen a s.gens.size → s'.gens = s.gens.push (.fresh (.func body (callEnv fd L f))) → s'.os = s.os → a ≠ L →
      Good K mg mb s av (L :: av) (callEnv fd L f) (stoOf bs empty) s' → R (.ok (.ret (.ref a))) s') → codeAny (model prog w) A (.call (.ref f) ⟨vs, []⟩) R s
theorem GFn.of_body {prog : Program} {w : World} {K : Frag} {mg mb : Str → Option Value} {f : Addr} {args : List D} {o : Obj} {fd : FuncData} {body : List Stmt} {bs : List (Str × D)}
    (ho : K.lookup f = some o) (hdata : o.data = .func fd) (hbody : fd.body = .stmts body) (hplain : plainGen fd bs = true) (hcode : codeIn K fd.code fd.qualname = true)
    (hbind : ∀ s av vs, Stat K mg mb s.heap → Hid K s.heap av → Reps s.heap av args vs → ∃ binds, BindsTo s fd ⟨vs, []⟩ binds ∧ Bnd s.heap av bs binds) : GFn prog w K mg mb f args fd body bs := by
  intro A av s vs Q T R hav hvs hQ
  obtain ⟨binds, hb, hbnd⟩ := hbind s av vs T hav hvs
  unfold plainGen at hplain
  simp only [Bool.and_eq_true, Bool.not_eq_true', beq_iff_eq, List.all_eq_true, List.isEmpty_iff, bne_iff_ne, ne_eq] at hplain
  obtain ⟨⟨⟨⟨⟨⟨⟨hk, hco⟩, hge⟩, hgl⟩, hbl⟩, hcl⟩, hnames⟩, hbs⟩ := hplain
  have hL := get_size s.heap
  have hKL : K.lookup s.heap.objs.size = none := by
    cases q : K.lookup s.heap.objs.size with
    | none => rfl
    | some o => have := T.kin _ _ q; rw [hL] at this; cases this
  have hcells : (callEnv fd s.heap.objs.size f).cells = [] := hcl
  refine codeAny_call_generator (fd := fd) (body := body) (Nat.lt_of_le_of_lt (Nat.le_add_right _ _) R.depth) (T.kin _ _ ho) hdata hco hge hbody (codeRec_of T.kin hcode) (hb _ _ _ _ ?_)
  refine wpAny_newFunctionEnv (fun x hx => (hnames x hx).1) (fun x hx => by obtain ⟨d', hd'⟩ := hbnd.mem x hx; exact (hbs _ hd').1.1) (fun h₀ hns hsb => ?_) hk
  have hk₀ : Kp s.heap h₀ := fun b o e => hsb.extBut b o (Nat.ne_of_lt (Heap.lt_size e)) (Heap.get?_push_of_some _ e)
  have hlim : h₀.NoLimit := T.nolimit.keeps hk₀
  refine ⟨hlim, ?_⟩
  have away : Away s.heap av (s.heap.objs.size :: av) := fun a ha => by
    rcases List.mem_cons.mp ha with e | h
    · right; rw [e]; exact hL
    · exact .inl h
  have nocell : ∀ x, ¬ ((callEnv fd s.heap.objs.size f).kindOf x = some .cell ∨ (callEnv fd s.heap.objs.size f).kindOf x = some .free) := fun x hx => by
    rcases hx with hx | hx
    · obtain ⟨y, hy⟩ := lookup_mem (l := fd.scope.names) hx; exact (hnames _ hy).1 rfl
    · obtain ⟨y, hy⟩ := lookup_mem (l := fd.scope.names) hx; exact (hnames _ hy).2 rfl
  have hvar : ∀ x v, stoOf bs empty x = some v → ∃ d', (x, d') ∈ bs ∧ v = .d d' := fun x v hx => by
    rcases stoOf_names bs _ x v hx with h | h
    · cases h
    · exact h
  -- the heap with the generator
  have k2 : Kp h₀ (h₀.push { cls := .type "generator", data := .fields #[.int s.gens.size 0, .str fd.name (s.toks + binds.length), .str fd.qualname (s.toks + binds.length + 1)] }) := kp_push _ _
  have hk' : Kp s.heap (h₀.push { cls := .type "generator", data := .fields #[.int s.gens.size 0, .str fd.name (s.toks + binds.length), .str fd.qualname (s.toks + binds.length + 1)] }) := fun b o e => k2 b o (hk₀ b o e)
  have oL : ∃ o, h₀.get? s.heap.objs.size = some o := let ⟨o, _, _, ho, _⟩ := hns; ⟨o, ho⟩
  have naL : h₀.objs.size ≠ s.heap.objs.size := fun e => by obtain ⟨o, q⟩ := oL; have := Heap.lt_size q; rw [e] at this; exact Nat.lt_irrefl _ this
  have na : s.heap.get? h₀.objs.size = none := by
    cases q : s.heap.get? h₀.objs.size with
    | none => rfl
    | some o => exact absurd (Heap.lt_size (hk₀ _ _ q)) (Nat.lt_irrefl _)
  refine hQ h₀.objs.size s.heap.objs.size _ hk' na hL ⟨_, _, _, Heap.get?_push_size _ rfl, rfl, rfl, rfl⟩ rfl rfl naL ?_
  exact { stat := T, keep := hk', hid := fun a ha => by
            rcases List.mem_cons.mp ha with e | h
            · rw [e]; exact ⟨hKL, oL.imp fun o q => k2 _ _ q⟩
            · exact hav.keeps hk' a h
          av := fun a ha => .tail _ ha, lown := .head _, lnew := hL
          ns := ⟨_, hns.keeps k2, fun x v hx _ => by
            have hb' := hbnd.mono (h' := _) (own' := s.heap.objs.size :: av) (fun b o _ => hk' b o) away
            obtain ⟨u, h1, h2⟩ := stoOf_ok bs binds empty [] (fun _ _ e => by cases e) hb' x v hx
            exact ⟨u, h1, h2⟩⟩
          cells := fun x a h => by rw [hcells] at h; cases h
          cellv := fun x v _ h => absurd h (nocell x)
          cinj := fun x y a h => by rw [hcells] at h; cases h
          chas := fun x h => absurd h (nocell x)
          vars := fun x v hx => by
            obtain ⟨d', hd', _⟩ := hvar x v hx
            exact ⟨.inl (hbs _ hd').1.1, (hbs _ hd').1.2, (hbs _ hd').2⟩
          ownl := fun x a l hx => by obtain ⟨d', _, e⟩ := hvar x _ hx; cases e
          kind := hk, glob := hgl, blt := hbl, gens := ⟨#[.fresh (.func body (callEnv fd s.heap.objs.size f))], Array.push_eq_append, AllBare.empty.push rfl⟩, os := rfl }
end Mine

open PySem PySem.W PyProof.Rows PySem.Calls
set_option Elab.async false
set_option linter.unusedVariables false
set_option maxRecDepth 100000
namespace Mine
/-! ## the frame of a generator at rest -/
abbrev IG := Shared × List Addr × List Addr × Sto
def WG (K : Frag) (mg mb : Str → Option Value) (env : Env) (S₀ : Shared) (Sl : Addr) : IG → Shared → Prop := fun i s =>
  Good K mg mb i.1 i.2.1 i.2.2.1 env i.2.2.2 s ∧ Sl ∈ i.2.1 ∧ ¬ Mut env i.2.2.2 Sl ∧ i.1.heap.get? Sl = none ∧ Kp S₀.heap i.1.heap ∧ i.1.gens = S₀.gens ∧ i.1.os = S₀.os
def VG (vals : List Str) : Nat → IG → Value → Shared → Prop := fun m i v s => ∃ x t, vals[vals.length - 1 - m]? = some x ∧ v = .str x t
section
variable {Sl : Addr} {c : Cx} {σ : Sto} {R : GenEnd} {Y : Protocol} {A : Around} {c' : Code} {fs : List Frame} {n : Nat} {o : Obj} {own : List Addr} {s : Shared}
/-- the base with the list's content -/
def bsl (S s : Shared) (Sl : Addr) : Shared := { S with heap := only s.heap fun b => (S.heap.get? b).isSome || b == Sl }
theorem Good.inSl {c : Cx} {σ : Sto} {own : List Addr} {s : Shared} (G : c.G own σ s) (hm : ¬ Mut c.env σ Sl) : Good c.K c.mg c.mb (bsl c.S₀ s Sl) c.av own c.env σ s := by
  refine G.base (G.stat.keeps fun b o h => ?_) (fun b o h => ?_) (fun a h => ?_) G.av rfl rfl
  · show (only s.heap _).get? b = some o
    rw [only_get, if_pos (by simp [h])]; exact G.keep b o h
  · have h' : (only s.heap fun b => (c.S₀.heap.get? b).isSome || b == Sl).get? b = some o := h
    rw [only_get] at h'
    split at h'
    · exact h'
    · cases h'
  · show (only s.heap _).get? a = none
    have : a ≠ Sl := fun e => hm (e ▸ h)
    rw [only_get, if_neg (by simp [G.mut_none h, this])]
theorem Good.outSl {c : Cx} {σ σ' : Sto} {own own' : List Addr} {s s' : Shared} (G₀ : c.G own σ s) (G : Good c.K c.mg c.mb (bsl c.S₀ s Sl) c.av own' c.env σ' s') {o : Obj} (ho : s.heap.get? Sl = some o) :
    c.G own' σ' s' ∧ s'.heap.get? Sl = some o ∧ ¬ Mut c.env σ' Sl := by
  have kS : Kp c.S₀.heap (bsl c.S₀ s Sl).heap := fun b o h => by
    show (only s.heap _).get? b = some o
    rw [only_get, if_pos (by simp [h])]; exact G₀.keep b o h
  have hSl : (bsl c.S₀ s Sl).heap.get? Sl = some o := by
    show (only s.heap _).get? Sl = some o
    rw [only_get, if_pos (by simp)]; exact ho
  refine ⟨G.base G₀.stat (fun b o h => G.keep b o (kS b o h)) (fun a h => ?_) G.av rfl rfl, G.keep _ _ hSl, fun h => ?_⟩
  · have h' := G.mut_none h
    cases q : c.S₀.heap.get? a with
    | none => rfl
    | some o => rw [kS a o q] at h'; cases h'
  · rw [G.mut_none h] at hSl; cases hSl
/-- statements that do not yield, ahead of others -/
theorem SY.pre {pre post : List Stmt} {P : FD → Sto → Prop} {Q : Flow → Nat → Obj → Shared → Prop} (h : ∀ S₁, SX { c with S₀ := S₁, A := A.over c' fs } σ pre P) (G : c.G own σ s) (hm : ¬ Mut c.env σ Sl) (hso : s.heap.get? Sl = some o)
    (hP : ∀ fd σ' own' s' fl, P fd σ' → c.G own' σ' s' → s'.heap.get? Sl = some o → ¬ Mut c.env σ' Sl → FlowRep s'.heap own' fd fl → match fd with | .next => SY Sl (model c.prog c.w) A R Y c' fs (execs post c.env) n o s' Q | _ => Q fl n o s') :
    SY Sl (model c.prog c.w) A R Y c' fs (execs (pre ++ post) c.env) n o s Q := by
  rw [execs_append]
  refine SY.bind (SY.of_wp (h (bsl c.S₀ s Sl) own s _ _ (G.inSl hm) fun fl fd σ' own' s' hp G' hf => ?_))
  obtain ⟨G₂, ho₂, hm₂⟩ := G.outSl G' hso
  have z := hP fd σ' own' s' fl hp G₂ ho₂ hm₂ hf
  cases fd with
  | next => cases hf; exact z
  | brk => cases hf; exact SY.pure z
  | cont => cases hf; exact SY.pure z
  | ret d => obtain ⟨v, rfl, _⟩ := hf; exact SY.pure z
/-- yield e -/
theorem SY.yieldE {e : Expr} {yp pos : Pos} {x : Str} {vals : List Str} {S₀ : Shared} {Q : Flow → Nat → Obj → Shared → Prop} (hfs : splitAtGen fs = none) (hfg : fs.any Frame.guarded = false) (hco : c.env.scope.isCoroutine = false) (hi : interactive c.env = false)
    (he : SE { c with A := A.over c' fs } σ e (.str x)) (hv : vals[vals.length - 1 - n]? = some x) (G : c.G own σ s) (hav : Sl ∈ c.av) (hm : ¬ Mut c.env σ Sl) (hS : c.S₀.heap.get? Sl = none) (hk : Kp S₀.heap c.S₀.heap) (hg : c.S₀.gens = S₀.gens) (hos : c.S₀.os = S₀.os)
    (hso : s.heap.get? Sl = some o) (hq : ∀ s'' o'', c.G own σ s'' → s''.heap.get? Sl = some o'' → Q .next n o'' s'') :
    SY Sl (model c.prog c.w) A R (YP Sl (WG c.K c.mg c.mb c.env S₀ Sl) (VG vals)) c' fs (exec (.Expr (.Yield (some e) yp) pos) c.env) (n + 1) o s Q := by
  refine SY.stmtYield hfs hfg hco hi (he own s _ _ G fun v s₁ x₁ r₁ => ?_)
  obtain ⟨t, rfl⟩ := r₁
  exact ⟨(c.S₀, c.av, own, σ), ⟨x, t, hv, rfl⟩, ⟨G.ext x₁, hav, hm, hS, hk, hg, hos⟩, x₁.keep _ _ hso, fun s'' o'' w h => hq s'' o'' w.1 h⟩
end
end Mine

open PySem PySem.W PyProof.Rows PySem.Calls
set_option Elab.async false
set_option linter.unusedVariables false
set_option linter.unusedSimpArgs false
set_option maxRecDepth 100000
namespace Mine
/-! ## the lines of the walk: the generators' bodies -/
local macro_rules | `(tactic| walk_at "g look") => `(tactic| (repeat' (first | with_reducible assumption | with_reducible exact Look.here | (with_reducible refine' Look.there ?_ ?_; kernel_rfl) | (with_reducible refine' Look.noOwn ?_))))
local macro_rules | `(tactic| walk_at "g blt") => `(tactic| (refine' bltOk.mk' ?_ ?_ ?_ ?_ ?_ <;> kernel_rfl))
local macro_rules | `(tactic| walk_at "g room") => `(tactic| first | with_reducible assumption | exact Room.le (by assumption) (by decide))
local macro_rules | `(tactic| walk_at "g han") => `(tactic| exact Room.handled (by assumption))
local macro_rules | `(tactic| walk_at "g side") => `(tactic| first | with_reducible assumption | omega)
local macro_rules | `(tactic| walk_at "g c") => `(tactic| with_reducible first
  | exact CmpOK.eqI | exact CmpOK.geI | exact CmpOK.ltI | exact CmpOK.gtI | exact CmpOK.isNone | exact CmpOK.isNoneI)
local macro_rules | `(tactic| walk_at "g e") => `(tactic| with_reducible first
  | exact SE.int | exact SE.str | exact SE.bool | exact SE.none
  | (refine' SE.name ?k1; (case k1 => walk_at "g look"))
  | (refine' SE.ordAt (hsub := ?k0) ?k1 ?k2 ?k3 ?k4 ?k5 ?k6 ?k7; (case k0 => intro _ _; with_unfolding_all rfl); (case k1 => walk_at "g blt"); (case k2 => with_unfolding_all (intro _; rfl)); (case k3 => walk_at "g e"); (case k4 => walk_at "g e"); (case k5 => walk_at "g side"); (case k6 => walk_at "g side"); (case k7 => walk_at "g side"))
  | (refine' SE.gcb ?k0 ?k1 ?k2 ?k3 ?k4; (case k0 => exact rfl); (case k1 => walk_at "g room"); (case k2 => kernel_rfl); (case k3 => with_unfolding_all (intro _; rfl)); (case k4 => walk_at "g e"))
  | (refine' SE.gREGIONAL_INDICATOR ?k0 ?k1; (case k0 => exact rfl); (case k1 => kernel_rfl))
  | (refine' SE.bin ?k1 ?k2 ?k3; (case k1 => walk_at "g e"); (case k2 => walk_at "g e"); (case k3 => first | exact BinOK.addI | exact BinOK.subI))
  | (refine' SE.lenX ?k1 ?k2 ?k3 ?k4; (case k1 => walk_at "g blt"); (case k2 => with_unfolding_all (intro _; rfl)); (case k3 => walk_at "g e"); (case k4 => walk_at "g side"))
  | (refine' SE.range2 ?k1 ?k2 ?k3 ?k4; (case k1 => walk_at "g blt"); (case k2 => with_unfolding_all (intro _; rfl)); (case k3 => walk_at "g e"); (case k4 => walk_at "g e"))
  | (refine' SE.min2 ?k1 ?k2 ?k5 ?k3 ?k4; (case k1 => walk_at "g blt"); (case k2 => with_unfolding_all (intro _; rfl)); (case k5 => walk_at "g han"); (case k3 => walk_at "g e"); (case k4 => walk_at "g e"))
  | (refine' SE.max2 ?k1 ?k2 ?k5 ?k3 ?k4; (case k1 => walk_at "g blt"); (case k2 => with_unfolding_all (intro _; rfl)); (case k5 => walk_at "g han"); (case k3 => walk_at "g e"); (case k4 => walk_at "g e"))
  | (refine' SE.brBreak ?k0 ?k1 ?k2; (case k0 => exact rfl); (case k1 => walk_at "g room"); (case k2 => walk_at "g e"))
  | (refine' SE.brCount ?k0 ?k1 ?k2; (case k0 => exact rfl); (case k1 => walk_at "g room"); (case k2 => walk_at "g e"))
  | fail "g e")
local macro_rules | `(tactic| walk_at "g t") => `(tactic| with_reducible first
  | (refine' SB.cmp (hm := ?k4) ?k1 ?k2 ?k3; (case k1 => walk_at "g e"); (case k2 => walk_at "g e"); (case k3 => walk_at "g c"); (case k4 => with_unfolding_all rfl))
  | (refine' SB.boolOp ?k1; (case k1 => walk_at "g ts"))
  | (refine' SB.ofBool (hv := ?k2) ?k1; (case k2 => with_unfolding_all (intro _; rfl)); (case k1 => walk_at "g e"))
  | fail "g t")
local macro_rules | `(tactic| walk_at "g ts") => `(tactic| with_reducible first
  | exact SBs.and_nil | exact SBs.or_nil
  | (refine' SBs.and_cons ?k1 (fun hand => ?k2); (case k1 => walk_at "g t"); (case k2 => walk_at "g ts"))
  | (refine' SBs.or_cons ?k1 (fun hor => ?k2); (case k1 => walk_at "g t"); (case k2 => walk_at "g ts"))
  | fail "g ts")
local macro_rules | `(tactic| walk_at "g s") => `(tactic| with_reducible first
  | refine' SX.doc ?_
  | (refine' SX.assign (hs := ?k3) ?k1 ?k2 ?k4; (case k1 => walk_at "g e"); (case k2 => kernel_rfl); (case k3 => with_unfolding_all rfl))
  | fail "g s")

/-- the clusters from a place on: their ends -/
def igGo (l : List Nat) (st e : Int) : List Int → Int → Int → Int → List (Int × Int)
  | [], cs, _, _ => [(cs, e)]
  | i :: r, cs, pv, ri => if (sbk pv (gcb (at_ l i)) l i ri st).1 = true then (cs, i) :: igGo l st e r i (gcb (at_ l i)) (sbk pv (gcb (at_ l i)) l i ri st).2
    else igGo l st e r cs (gcb (at_ l i)) (sbk pv (gcb (at_ l i)) l i ri st).2
def igS (st : Int) : Int := if 0 > st then 0 else st
def igE (l : List Nat) : Option Int → Int
  | none => l.length
  | some e => e
def igM (l : List Nat) (eo : Option Int) : Int := if (l.length : Int) < igE l eo then l.length else igE l eo
/-- iter_graphemes -/
def igParts (l : List Nat) (st : Int) (eo : Option Int) : List (Int × Int) :=
  if l = [] then [] else if igE l eo ≤ igS st ∨ (l.length : Int) ≤ igS st then []
  else igGo l (igS st) (igM l eo) (iot (igS st + 1) (igM l eo - (igS st + 1)).toNat) (igS st) (gcb (at_ l (igS st))) (if (gcb (at_ l (igS st)) == 6) = true then 1 else 0)
def eoD : Option Int → D
  | none => .none
  | some e => .int e
theorem look369 (w : World) : (KK w).lookup 369 = some (objAt w 369) := by kernel_rfl
theorem data369 (w : World) : (objAt w 369).data = .func (fdAt w 369) := by kernel_rfl
theorem body369 (w : World) : (fdAt w 369).body = .stmts (bodyOf 29) := by kernel_rfl
theorem code369 (w : World) : codeIn (KK w) (fdAt w 369).code (fdAt w 369).qualname = true := by kernel_rfl
theorem plain369 (w : World) (a b c : D) : plainGen (fdAt w 369) [(("unistr" : Str), a), (("start" : Str), b), (("end" : Str), c)] = true := by kernel_rfl
theorem bind369 (w : World) (S : Setting) (a b c : Value) : peek (KK w) S (bindArgs (fdAt w 369) ⟨[a, b, c], []⟩) = some [(("unistr" : Str), a), (("start" : Str), b), (("end" : Str), c)] := by kernel_rfl
section
variable {prog : Program} {w : World} {mg mb : Str → Option Value}
theorem ig_pre (l : List Nat) (st : Int) (eo : Option Int) (hf : l.length < 1000000) {S₀ : Shared} {av : List Addr} {A : Around} {L : Addr} (R : Room A 4) :
    SX ⟨prog, w, KK w, mg, mb, S₀, av, A, callEnv (fdAt w 369) L 369⟩ (upd (upd (upd empty "unistr" (.d (.str (Sx l)))) "start" (.d (.int st))) "end" (.d (eoD eo))) ((bodyOf 29).take 11)
      fun fd σ => (fd = .ret .none ∧ igParts l st eo = []) ∨ (fd = .next ∧ Look σ "unistr" (.d (.str (Sx l))) ∧ Look σ "start" (.d (.int (igS st))) ∧ Look σ "end" (.d (.int (igM l eo))) ∧ Look σ "cluster_start" (.d (.int (igS st))) ∧
        Look σ "prev_gcb" (.d (.int (gcb (at_ l (igS st))))) ∧ Look σ "ri_count" (.d (.int (if (gcb (at_ l (igS st)) == 6) = true then 1 else 0))) ∧ l ≠ [] ∧ igS st < igE l eo ∧ igS st < l.length) := by
  show SX _ _ [_, _, _, _, _, _, _, _, _, _, _] _
  walk_at "g s"
  refine' SX.if1 (SB.not (SB.ofStr (hv := ?a4) ?a2 ?a3)) (fun h => ?b1) (fun h => ?b2)
  case a2 => walk_at "g e"
  case a3 => rw [Sx_len]; omega
  case a4 => with_unfolding_all (intro _; rfl)
  case b1 =>
    refine SX.ret0 (.inl ⟨rfl, ?_⟩)
    have : l = [] := by
      rw [Sx_len] at h
      simpa using h
    unfold igParts; rw [if_pos this]
  have hl : l ≠ [] := by
    rintro rfl
    exact absurd h (by decide)
  walk_at "g s"
  walk_at "g s"
  have hS : (if (0 : Int) > st then (0 : Int) else st) = igS st := rfl
  rw [hS]
  have hS0 : 0 ≤ igS st := by unfold igS; split <;> omega
  -- the end
  have rest : ∀ σ, Look σ "unistr" (.d (.str (Sx l))) → Look σ "length" (.d (.int l.length)) → Look σ "start" (.d (.int (igS st))) → Look σ "end" (.d (.int (igE l eo))) →
      SX ⟨prog, w, KK w, mg, mb, S₀, av, A, callEnv (fdAt w 369) L 369⟩ σ (((bodyOf 29).take 11).drop 5) fun fd σ => (fd = .ret .none ∧ igParts l st eo = []) ∨ (fd = .next ∧ Look σ "unistr" (.d (.str (Sx l))) ∧ Look σ "start" (.d (.int (igS st))) ∧ Look σ "end" (.d (.int (igM l eo))) ∧ Look σ "cluster_start" (.d (.int (igS st))) ∧
        Look σ "prev_gcb" (.d (.int (gcb (at_ l (igS st))))) ∧ Look σ "ri_count" (.d (.int (if (gcb (at_ l (igS st)) == 6) = true then 1 else 0))) ∧ l ≠ [] ∧ igS st < igE l eo ∧ igS st < l.length) := by
    intro σ s1 s2 s3 s4
    show SX _ _ [_, _, _, _, _, _] _
    refine' SX.if1 ?c1 (fun h => ?c2) (fun h => ?c3)
    case c1 => walk_at "g t"
    case c2 =>
      refine SX.ret0 (.inl ⟨rfl, ?_⟩)
      simp only [Bool.or_false, Bool.or_eq_true, decide_eq_true_eq] at h
      unfold igParts; rw [if_neg hl, if_pos h]
    simp only [Bool.or_false, Bool.or_eq_false_iff, decide_eq_false_iff_not] at h
    have h1 : igS st < igE l eo := by omega
    have h2 : igS st < l.length := by omega
    walk_at "g s"
    have hM : (if (l.length : Int) < igE l eo then (l.length : Int) else igE l eo) = igM l eo := rfl
    rw [hM]
    walk_at "g s"
    walk_at "g s"
    walk_at "g s"
    refine' SX.if1 ?c4 (fun h => ?c5) (fun h => ?c6)
    case c4 => walk_at "g t"
    case c5 =>
      walk_at "g s"
      refine SX.nil (SX.nil (.inr ⟨rfl, by walk_at "g look", by walk_at "g look", by walk_at "g look", by walk_at "g look", by walk_at "g look", ?_, hl, h1, h2⟩))
      rw [if_pos h]; walk_at "g look"
    refine SX.nil (.inr ⟨rfl, by walk_at "g look", by walk_at "g look", by walk_at "g look", by walk_at "g look", by walk_at "g look", ?_, hl, h1, h2⟩)
    rw [if_neg (by rw [h]; decide)]; walk_at "g look"
  cases eo with
  | none =>
    dsimp only [eoD]
    refine' SX.if1 ?d1 (fun h => ?d2) (fun h => ?d3)
    case d1 => walk_at "g t"
    case d3 => cases h
    walk_at "g s"
    exact SX.nil (rest _ (by walk_at "g look") (by walk_at "g look") (by walk_at "g look") (by show Look _ _ (.d (.int (l.length : Int))); walk_at "g look"))
  | some e =>
    dsimp only [eoD]
    refine' SX.if1 ?d4 (fun h => ?d5) (fun h => ?d6)
    case d4 => walk_at "g t"
    case d5 => cases h
    exact rest _ (by walk_at "g look") (by walk_at "g look") (by walk_at "g look") (by show Look _ _ (.d (.int e)); walk_at "g look")
end
end Mine

open PySem PySem.W PyProof.Rows PySem.Calls
set_option Elab.async false
set_option linter.unusedVariables false
set_option linter.unusedSimpArgs false
set_option maxRecDepth 100000
namespace Mine
/-! ## the lines of the walk: the generators' bodies -/
local macro_rules | `(tactic| walk_at "g look") => `(tactic| (repeat' (first | with_reducible assumption | with_reducible exact Look.here | (with_reducible refine' Look.there ?_ ?_; kernel_rfl) | (with_reducible refine' Look.noOwn ?_))))
local macro_rules | `(tactic| walk_at "g blt") => `(tactic| (refine' bltOk.mk' ?_ ?_ ?_ ?_ ?_ <;> kernel_rfl))
local macro_rules | `(tactic| walk_at "g room") => `(tactic| first | with_reducible assumption | exact Room.le (by assumption) (by decide))
local macro_rules | `(tactic| walk_at "g han") => `(tactic| exact Room.handled (by assumption))
local macro_rules | `(tactic| walk_at "g side") => `(tactic| first | with_reducible assumption | omega)
local macro_rules | `(tactic| walk_at "g c") => `(tactic| with_reducible first
  | exact CmpOK.eqI | exact CmpOK.geI | exact CmpOK.ltI | exact CmpOK.gtI | exact CmpOK.isNone | exact CmpOK.isNoneI)
local macro_rules | `(tactic| walk_at "g e") => `(tactic| with_reducible first
  | exact SE.int | exact SE.str | exact SE.bool | exact SE.none
  | (refine' SE.name ?k1; (case k1 => walk_at "g look"))
  | (refine' SE.ordAt (hsub := ?k0) ?k1 ?k2 ?k3 ?k4 ?k5 ?k6 ?k7; (case k0 => intro _ _; with_unfolding_all rfl); (case k1 => walk_at "g blt"); (case k2 => with_unfolding_all (intro _; rfl)); (case k3 => walk_at "g e"); (case k4 => walk_at "g e"); (case k5 => walk_at "g side"); (case k6 => walk_at "g side"); (case k7 => walk_at "g side"))
  | (refine' SE.gcb ?k0 ?k1 ?k2 ?k3 ?k4; (case k0 => exact rfl); (case k1 => walk_at "g room"); (case k2 => kernel_rfl); (case k3 => with_unfolding_all (intro _; rfl)); (case k4 => walk_at "g e"))
  | (refine' SE.gREGIONAL_INDICATOR ?k0 ?k1; (case k0 => exact rfl); (case k1 => kernel_rfl))
  | (refine' SE.bin ?k1 ?k2 ?k3; (case k1 => walk_at "g e"); (case k2 => walk_at "g e"); (case k3 => first | exact BinOK.addI | exact BinOK.subI))
  | (refine' SE.lenX ?k1 ?k2 ?k3 ?k4; (case k1 => walk_at "g blt"); (case k2 => with_unfolding_all (intro _; rfl)); (case k3 => walk_at "g e"); (case k4 => walk_at "g side"))
  | (refine' SE.range2 ?k1 ?k2 ?k3 ?k4; (case k1 => walk_at "g blt"); (case k2 => with_unfolding_all (intro _; rfl)); (case k3 => walk_at "g e"); (case k4 => walk_at "g e"))
  | (refine' SE.min2 ?k1 ?k2 ?k5 ?k3 ?k4; (case k1 => walk_at "g blt"); (case k2 => with_unfolding_all (intro _; rfl)); (case k5 => walk_at "g han"); (case k3 => walk_at "g e"); (case k4 => walk_at "g e"))
  | (refine' SE.max2 ?k1 ?k2 ?k5 ?k3 ?k4; (case k1 => walk_at "g blt"); (case k2 => with_unfolding_all (intro _; rfl)); (case k5 => walk_at "g han"); (case k3 => walk_at "g e"); (case k4 => walk_at "g e"))
  | (refine' SE.brBreak ?k0 ?k1 ?k2; (case k0 => exact rfl); (case k1 => walk_at "g room"); (case k2 => walk_at "g e"))
  | (refine' SE.brCount ?k0 ?k1 ?k2; (case k0 => exact rfl); (case k1 => walk_at "g room"); (case k2 => walk_at "g e"))
  | fail "g e")
local macro_rules | `(tactic| walk_at "g t") => `(tactic| with_reducible first
  | (refine' SB.cmp (hm := ?k4) ?k1 ?k2 ?k3; (case k1 => walk_at "g e"); (case k2 => walk_at "g e"); (case k3 => walk_at "g c"); (case k4 => with_unfolding_all rfl))
  | (refine' SB.boolOp ?k1; (case k1 => walk_at "g ts"))
  | (refine' SB.ofBool (hv := ?k2) ?k1; (case k2 => with_unfolding_all (intro _; rfl)); (case k1 => walk_at "g e"))
  | fail "g t")
local macro_rules | `(tactic| walk_at "g ts") => `(tactic| with_reducible first
  | exact SBs.and_nil | exact SBs.or_nil
  | (refine' SBs.and_cons ?k1 (fun hand => ?k2); (case k1 => walk_at "g t"); (case k2 => walk_at "g ts"))
  | (refine' SBs.or_cons ?k1 (fun hor => ?k2); (case k1 => walk_at "g t"); (case k2 => walk_at "g ts"))
  | fail "g ts")
local macro_rules | `(tactic| walk_at "g s") => `(tactic| with_reducible first
  | refine' SX.doc ?_
  | (refine' SX.assign (hs := ?k3) ?k1 ?k2 ?k4; (case k1 => walk_at "g e"); (case k2 => kernel_rfl); (case k3 => with_unfolding_all rfl))
  | fail "g s")

abbrev slx (l : List Nat) (p : Int × Int) : Str := StrLaws.sliceText (Sx l) (some p.1) (some p.2)
section
variable {c : Cx} {σ : Sto} (hK : c.K = KK c.w)
include hK
theorem SE.sbkS {p pos : Pos} {e1 e2 e3 e4 e5 e6 : Expr} {q : Pos} {u v : Int} {l : List Nat} {i ri st : Int} (R : Room c.A 4) (hk : c.env.kindOf "_should_break" = some .globalImplicit) (h1 : SE c σ e1 (.int u)) (h2 : SE c σ e2 (.int v))
    (h3 : SE c σ e3 (.str (Sx l))) (h4 : SE c σ e4 (.int i)) (h5 : SE c σ e5 (.int ri)) (h6 : SE c σ e6 (.int st)) (h0 : 0 ≤ st) (hi : st < i) (hl : i < l.length) (hf : l.length < 1000000)
    (hst : backTo pos (starEach [e1, e2, e3, e4, e5] c.env) = [e1, e2, e3, e4, e5].map (fun e => (false, eval e c.env))) (hall : (backToKw pos (keywordEach [⟨some "start", e6, q⟩] c.env)).all (·.1.isSome) = true) (hxs : (backToKw pos (keywordEach [⟨some "start", e6, q⟩] c.env)).filterMap (·.1) = [("start" : Str)]) :
    SE c σ (.Call (.Name "_should_break" p) [e1, e2, e3, e4, e5] [⟨some "start", e6, q⟩] pos) (.br (sbk u v l i ri st).1 (sbk u v l i ri st).2) :=
  SE.callK (xs := ["start"]) (kds := [.int st]) (SE.glob hk (by rw [hK]; kernel_rfl : nsIn c.K mainGlobals "_should_break" = some (some (.ref 361))) (by kernel_rfl)) (.cons h1 (.cons h2 (.cons h3 (.cons h4 (.cons h5 .nil))))) (.cons h6 .nil) (by rw [hK]; exact look361 c.w) (data361 c.w) (by rw [hK]; exact sbk_fn u v l i ri st h0 hi hl hf) R rfl hst hall hxs
end
theorem SY.exs {Sl : Addr} {c : Cx} {σ : Sto} {R : GenEnd} {Y : Protocol} {A : Around} {c' : Code} {fs : List Frame} {n : Nat} {o : Obj} {own : List Addr} {s : Shared} {pre : List Stmt} {P : FD → Sto → Prop} {Q : Flow → Nat → Obj → Shared → Prop}
    (h : ∀ S₁, SX { c with S₀ := S₁, A := A.over c' fs } σ pre P) (G : c.G own σ s) (hm : ¬ Mut c.env σ Sl) (hso : s.heap.get? Sl = some o)
    (hP : ∀ fd σ' own' s' fl, P fd σ' → c.G own' σ' s' → s'.heap.get? Sl = some o → ¬ Mut c.env σ' Sl → FlowRep s'.heap own' fd fl → Q fl n o s') : SY Sl (model c.prog c.w) A R Y c' fs (execs pre c.env) n o s Q := by
  have := SY.pre (post := []) (Q := Q) (R := R) (Y := Y) h G hm hso (fun fd σ' own' s' fl hp G' ho' hm' hf => by
    have z := hP fd σ' own' s' fl hp G' ho' hm' hf
    cases fd with
    | next => cases hf; exact SY.execs_nil z
    | brk => exact z
    | cont => exact z
    | ret d => exact z)
  rw [List.append_nil] at this; exact this
theorem slx_len (l : List Nat) (p : Int × Int) (h : l.length < 1000000) : (slx l p).length ≤ sizeLine := by
  have h1 : (slx l p).length ≤ (Sx l).length := PySem.Txt.slice_le (Sx l) _ _
  rw [Sx_len] at h1
  exact Nat.le_trans h1 (Nat.le_trans (Nat.le_of_lt h) (by decide))
theorem drop_head {α : Type} {l : List α} {k : Nat} {i : α} (h : l[k]? = some i) : l.drop k = i :: l.drop (k + 1) := by
  obtain ⟨h1, h2⟩ := List.getElem?_eq_some_iff.mp h
  rw [List.drop_eq_getElem_cons h1, h2]
section
variable {prog : Program} {w : World} {mg mb : Str → Option Value}
/-- what holds ahead of a turn, with n clusters still to come -/
def igI (l : List Nat) (st e : Int) (idx : List Int) (vals : List Str) (k : Nat) (σ : Sto) (n : Nat) : Prop :=
  ∃ cs pv ri, Look σ "unistr" (.d (.str (Sx l))) ∧ Look σ "start" (.d (.int st)) ∧ Look σ "end" (.d (.int e)) ∧ Look σ "cluster_start" (.d (.int cs)) ∧ Look σ "prev_gcb" (.d (.int pv)) ∧ Look σ "ri_count" (.d (.int ri)) ∧
    n ≤ vals.length ∧ (igGo l st e (idx.drop k) cs pv ri).map (slx l) = vals.drop (vals.length - n)
theorem drop_cons {α : Type} {vals rest : List α} {x : α} {n : Nat} (h : n ≤ vals.length) (e : x :: rest = vals.drop (vals.length - n)) : ∃ m, n = m + 1 ∧ vals[vals.length - 1 - m]? = some x ∧ rest = vals.drop (vals.length - m) := by
  cases n with
  | zero => rw [Nat.sub_zero, List.drop_length] at e; cases e
  | succ m =>
    refine ⟨m, rfl, ?_, ?_⟩
    · have := congrArg List.head? e
      rw [List.head?_drop] at this
      rw [show vals.length - 1 - m = vals.length - (m + 1) from by omega]
      exact this.symm
    · have := congrArg List.tail e
      rw [List.tail_drop] at this
      rw [show vals.length - m = vals.length - (m + 1) + 1 from by omega]
      exact this
theorem ig_run (l : List Nat) (st : Int) (eo : Option Int) (hf : l.length < 1000000) {S₀ : Shared} {av own : List Addr} {A : Around} {L Sl : Addr} {s : Shared} {o : Obj} (RA : Room A 6)
    (G : Good (KK w) mg mb S₀ av own (callEnv (fdAt w 369) L 369) (upd (upd (upd empty "unistr" (.d (.str (Sx l)))) "start" (.d (.int st))) "end" (.d (eoD eo))) s)
    (hav : Sl ∈ av) (hm : ¬ Mut (callEnv (fdAt w 369) L 369) (upd (upd (upd empty "unistr" (.d (.str (Sx l)))) "start" (.d (.int st))) "end" (.d (eoD eo))) Sl) (hS : S₀.heap.get? Sl = none) (hso : s.heap.get? Sl = some o) {R : GenEnd} :
    SY Sl (model prog w) A R (YP Sl (WG (KK w) mg mb (callEnv (fdAt w 369) L 369) S₀ Sl) (VG ((igParts l st eo).map (slx l)))) (.func (bodyOf 29) (callEnv (fdAt w 369) L 369)) [] (execs (bodyOf 29) (callEnv (fdAt w 369) L 369)) ((igParts l st eo).map (slx l)).length o s
      (fun f n' o' s' => (f = .next ∨ f = .ret .none) ∧ n' = 0 ∧ s'.heap.get? Sl = some o' ∧ ∃ own' σ', Good (KK w) mg mb S₀ av own' (callEnv (fdAt w 369) L 369) σ' s' ∧ ¬ Mut (callEnv (fdAt w 369) L 369) σ' Sl) := by
  have R5 : Room (A.over (.func (bodyOf 29) (callEnv (fdAt w 369) L 369)) []) 5 := room_func RA _ _
  let c : Cx := ⟨prog, w, KK w, mg, mb, S₀, av, A.over (.func (bodyOf 29) (callEnv (fdAt w 369) L 369)) [], callEnv (fdAt w 369) L 369⟩
  have e : execs (bodyOf 29) (callEnv (fdAt w 369) L 369) = execs ((bodyOf 29).take 11 ++ (bodyOf 29).drop 11) (callEnv (fdAt w 369) L 369) := by rw [List.take_append_drop]
  rw [e]
  refine SY.pre (c := c) (fun S₁ => ig_pre l st eo hf (R5.le (by decide))) G hm hso ?_
  rintro fd σ own₁ s₁ fl hp G₁ ho₁ hm₁ hfr
  rcases hp with ⟨rfl, hnil⟩ | ⟨rfl, s1, s2, s3, s4, s5, s6, hl, h1, h2⟩
  · obtain ⟨v, rfl, r⟩ := hfr
    obtain rfl := r
    refine ⟨.inr rfl, ?_, ho₁, own₁, σ, G₁, hm₁⟩
    rw [hnil]; rfl
  have hS0 : 0 ≤ igS st := by unfold igS; split <;> omega
  have hM : igM l eo ≤ l.length := by unfold igM; split <;> omega
  have hM0 : igS st < igM l eo := by unfold igM; split <;> omega
  have hparts : igParts l st eo = igGo l (igS st) (igM l eo) (iot (igS st + 1) (igM l eo - (igS st + 1)).toNat) (igS st) (gcb (at_ l (igS st))) (if (gcb (at_ l (igS st)) == 6) = true then 1 else 0) := by
    unfold igParts
    rw [if_neg hl, if_neg (by omega)]
  generalize hvals : (igParts l st eo).map (slx l) = vals
  generalize hidx : iot (igS st + 1) (igM l eo - (igS st + 1)).toNat = idx at hparts
  generalize igS st = st' at *
  generalize igM l eo = e' at *
  show SY Sl (model prog w) A R _ _ [] (execs [_, _] _) _ _ _ _
  refine SY.execs_cons ?_
  refine SY.for_ (Sl := Sl) (c := c) (fbody := bodyOf 29) (A := A) (l := idx) 5 RA rfl ?i1 G₁ (G₁.av Sl hav) hm₁ hS ho₁ ?i2 (igI l st' e' idx vals) ?i3 ?i4 hav ?i5 ?i6
  case i1 =>
    rw [← hidx]
    refine SIA.range ?j1 (by omega) (by omega) (by omega) (by omega)
    walk_at "g e"
  case i2 => kernel_rfl
  case i6 => with_unfolding_all (intro _; rfl)
  case i3 =>
    refine ⟨_, _, _, s1, s2, s3, s4, s5, s6, Nat.le_refl _, ?_⟩
    rw [Nat.sub_self, List.drop_zero, List.drop_zero, ← hvals, hparts]
  case i5 =>
    rintro own₂ σ₂ n₂ o₂ s₂ G₂ hm₂ ho₂ ⟨cs, pv, ri, t1, t2, t3, t4, t5, t6, hn, hv⟩
    rw [List.drop_length] at hv
    obtain ⟨m, rfl, hx, hrest⟩ := drop_cons hn hv
    show SY Sl (model prog w) A R _ _ [] (execs [_] _) _ _ _ _
    refine SY.execs_cons ?_
    refine SY.yieldE (c := c) rfl rfl ?y1 ?y2 (SE.sliceS (SE.name t1) (.some (SE.name t4)) (.some (SE.name t3)) (slx_len l (cs, e') hf)) hx G₂ hav hm₂ hS (fun b o h => h) rfl rfl ho₂ (fun s₃ o₃ G₃ ho₃ => ?y3)
    case y1 => kernel_rfl
    case y2 => with_unfolding_all rfl
    have hm0 : m = 0 := by
      have := congrArg List.length hrest
      simp only [List.map_nil, List.length_nil, List.length_drop] at this
      omega
    exact SY.execs_nil ⟨.inl rfl, hm0, ho₃, own₂, σ₂, G₃, hm₂⟩
  case i4 =>
    rintro k i σ₂ n₂ hk ⟨cs, pv, ri, t1, t2, t3, t4, t5, t6, hn, hv⟩ S₁ av₁ c' fs' own₂ s₂ hfs hfg RL hg hos hpass havs G₂ hSl₁ hm₂ hS₁ hKp o₂ ho₂
    rw [← hidx] at hk
    obtain ⟨hk1, hk2⟩ := iot_get hk
    rw [hidx] at hk
    have hi0 : 0 ≤ i := by omega
    have hist : st' < i := by omega
    have hil : i < l.length := by omega
    let cc : Cx := ⟨prog, w, KK w, mg, mb, S₁, av₁, A, callEnv (fdAt w 369) L 369⟩
    rw [drop_head hk] at hv
    generalize hgc : gcb (at_ l i) = g at hv
    generalize hr : sbk pv g l i ri st' = r at hv
    have hv' : (if r.1 = true then (cs, i) :: igGo l st' e' (idx.drop (k + 1)) i g r.2 else igGo l st' e' (idx.drop (k + 1)) cs g r.2).map (slx l) = vals.drop (vals.length - n₂) := by
      rw [← hv, ← hr, ← hgc]; rfl
    show SY Sl _ A R _ c' fs' (execs ([_, _, _] ++ [_, _]) _) _ _ _ _
    refine SY.pre (c := cc) (σ := upd σ₂ "idx" (.d (.int i))) (P := fun fd σ => fd = .next ∧ Look σ "unistr" (.d (.str (Sx l))) ∧ Look σ "start" (.d (.int st')) ∧ Look σ "end" (.d (.int e')) ∧ Look σ "cluster_start" (.d (.int cs)) ∧ Look σ "curr_gcb" (.d (.int g)) ∧ Look σ "ri_count" (.d (.int r.2)) ∧ Look σ "result" (.d (.br r.1 r.2)) ∧ Look σ "idx" (.d (.int i))) (fun S₂ => ?u1) G₂ hm₂ ho₂ ?u2
    case u1 =>
      have RL4 : Room (A.over c' fs') 4 := RL.le (by decide)
      walk_at "g s"
      have hg' : Mine.gcb ((l.getD i.toNat 0 : Nat) : Int) = g := hgc
      rw [hg']
      refine' SX.assign (d := .br r.1 r.2) (hs := ?v1) ?v2 ?v3 ?v4
      case v1 => with_unfolding_all rfl
      case v3 => kernel_rfl
      case v2 =>
        rw [← hr]
        refine' SE.sbkS ?w0 ?w1 ?w2 ?w3 ?w4 ?w5 ?w6 ?w7 ?w8 ?w9 ?w10 ?w11 ?w12 ?w13 ?w14 ?w15
        case w0 => exact rfl
        case w1 => exact RL4
        case w2 => kernel_rfl
        case w3 => walk_at "g e"
        case w4 => walk_at "g e"
        case w5 => walk_at "g e"
        case w6 => walk_at "g e"
        case w7 => walk_at "g e"
        case w8 => walk_at "g e"
        case w9 => exact hS0
        case w10 => exact hist
        case w11 => exact hil
        case w12 => exact hf
        case w13 => with_unfolding_all rfl
        case w14 => with_unfolding_all rfl
        case w15 => with_unfolding_all rfl
      walk_at "g s"
      exact SX.nil ⟨rfl, by walk_at "g look", by walk_at "g look", by walk_at "g look", by walk_at "g look", by walk_at "g look", by walk_at "g look", by walk_at "g look", by walk_at "g look"⟩
    rintro fd σ₃ own₃ s₃ fl ⟨rfl, q1, q2, q3, q4, q5, q6, q7, q8⟩ G₃ ho₃ hm₃ hfr
    show SY Sl _ A R _ c' fs' (execs [_, _] _) _ _ _ _
    -- the last statement
    have last : ∀ (own₄ : List Addr) (σ₄ : Sto) (n₄ : Nat) (o₄ : Obj) (s₄ : Shared) (cs' : Int), Good (KK w) mg mb S₁ av₁ own₄ (callEnv (fdAt w 369) L 369) σ₄ s₄ → s₄.heap.get? Sl = some o₄ → ¬ Mut (callEnv (fdAt w 369) L 369) σ₄ Sl →
        Look σ₄ "unistr" (.d (.str (Sx l))) → Look σ₄ "start" (.d (.int st')) → Look σ₄ "end" (.d (.int e')) → Look σ₄ "cluster_start" (.d (.int cs')) → Look σ₄ "curr_gcb" (.d (.int g)) → Look σ₄ "ri_count" (.d (.int r.2)) →
        n₄ ≤ vals.length → (igGo l st' e' (idx.drop (k + 1)) cs' g r.2).map (slx l) = vals.drop (vals.length - n₄) →
        SY Sl (model prog w) A R (YP Sl (WG (KK w) mg mb (callEnv (fdAt w 369) L 369) S₀ Sl) (VG vals)) c' fs' (execs [Stmt.Assign [.Name "prev_gcb" ⟨266, 8, 266, 16⟩] (.Name "curr_gcb" ⟨266, 19, 266, 27⟩) ⟨266, 8, 266, 27⟩] (callEnv (fdAt w 369) L 369)) n₄ o₄ s₄
          fun f n' o' s' => f = .next ∧ ∃ own' σ', Good (KK w) mg mb S₁ av₁ own' (callEnv (fdAt w 369) L 369) σ' s' ∧ ¬ Mut (callEnv (fdAt w 369) L 369) σ' Sl ∧ s'.heap.get? Sl = some o' ∧ igI l st' e' idx vals (k + 1) σ' n' := by
      intro own₄ σ₄ n₄ o₄ s₄ cs' G₄ ho₄ hm₄ z1 z2 z3 z4 z5 z6 hn₄ hv₄
      refine SY.exs (c := cc) (σ := σ₄) (P := fun fd σ => fd = .next ∧ Look σ "unistr" (.d (.str (Sx l))) ∧ Look σ "start" (.d (.int st')) ∧ Look σ "end" (.d (.int e')) ∧ Look σ "cluster_start" (.d (.int cs')) ∧ Look σ "prev_gcb" (.d (.int g)) ∧ Look σ "ri_count" (.d (.int r.2))) (fun S₂ => ?x1) G₄ hm₄ ho₄ ?x2
      case x1 =>
        walk_at "g s"
        exact SX.nil ⟨rfl, by walk_at "g look", by walk_at "g look", by walk_at "g look", by walk_at "g look", by walk_at "g look", by walk_at "g look"⟩
      rintro fd σ₅ own₅ s₅ fl ⟨rfl, y1, y2, y3, y4, y5, y6⟩ G₅ ho₅ hm₅ hfr
      cases hfr
      exact ⟨rfl, own₅, σ₅, G₅, hm₅, ho₅, cs', g, r.2, y1, y2, y3, y4, y5, y6, hn₄, hv₄⟩
    have R4 : Room (A.over c' fs') 4 := RL.le (by decide)
    refine SY.execs_cons (SY.if_ (A := A) ((?_ : SB { cc with A := A.over c' fs' } σ₃ _ r.1) own₃ s₃ _ _ G₃ fun s₄ x₄ => ?_))
    · walk_at "g t"
    have G₄ : Good (KK w) mg mb S₁ av₁ own₃ (callEnv (fdAt w 369) L 369) σ₃ s₄ := G₃.ext x₄
    have ho₄ : s₄.heap.get? Sl = some o₂ := x₄.keep _ _ ho₃
    by_cases hr1 : r.1 = true
    · rw [if_pos hr1]
      rw [if_pos hr1, List.map_cons] at hv'
      obtain ⟨m, rfl, hx, hrest⟩ := drop_cons hn hv'
      refine SY.execs_cons ?_
      refine SY.yieldE (c := cc) hfs hfg ?yy1 ?yy2 (SE.sliceS (SE.name q1) (.some (SE.name q4)) (.some (SE.name q8)) (slx_len l (cs, i) hf)) hx G₄ hSl₁ hm₃ hS₁ hKp hg hos ho₄ (fun s₅ o₅ G₅ ho₅ => ?yy3)
      case yy1 => kernel_rfl
      case yy2 => with_unfolding_all rfl
      refine SY.exs (c := cc) (σ := σ₃) (P := fun fd σ => fd = .next ∧ Look σ "unistr" (.d (.str (Sx l))) ∧ Look σ "start" (.d (.int st')) ∧ Look σ "end" (.d (.int e')) ∧ Look σ "cluster_start" (.d (.int i)) ∧ Look σ "curr_gcb" (.d (.int g)) ∧ Look σ "ri_count" (.d (.int r.2))) (fun S₂ => ?x3) G₅ hm₃ ho₅ ?x4
      case x3 =>
        walk_at "g s"
        exact SX.nil ⟨rfl, by walk_at "g look", by walk_at "g look", by walk_at "g look", by walk_at "g look", by walk_at "g look", by walk_at "g look"⟩
      rintro fd σ₆ own₆ s₆ fl ⟨rfl, y1, y2, y3, y4, y5, y6⟩ G₆ ho₆ hm₆ hfr
      cases hfr
      exact last own₆ σ₆ m o₅ s₆ i G₆ ho₆ hm₆ y1 y2 y3 y4 y5 y6 (by omega) hrest
    · rw [if_neg hr1]
      rw [if_neg hr1] at hv'
      refine SY.execs_nil ?_
      exact last own₃ σ₃ n₂ o₂ s₄ cs G₄ ho₄ hm₃ q1 q2 q3 q4 q5 q6 hn hv'
end
end Mine

open PySem PySem.W PyProof.Rows PySem.Calls
set_option Elab.async false
set_option linter.unusedVariables false
set_option maxRecDepth 100000
namespace Mine
/-! ## list(a generator of ours) -/
section
variable {K : Frag} {mg mb : Str → Option Value} {env : Env} {S₀ : Shared} {Sl I : Addr} {g : Nat} {vals : List Str} {prog : Program} {w : World} {A : Around}
/-- the generator with m values to come, at rest -/
structure GI (prog : Program) (w : World) (A : Around) (K : Frag) (mg mb : Str → Option Value) (env : Env) (S₀ : Shared) (Sl I : Addr) (g : Nat) (vals : List Str) (m : Nat) (s : Shared) : Prop where
  run : ∃ gs i, s.gens[g]? = some gs ∧ WG K mg mb env S₀ Sl i (s.setGen g .running) ∧
    ∀ s'' o, WG K mg mb env S₀ Sl i s'' → s''.heap.get? Sl = some o → gs.Goes (model prog w) A (RP Sl (WG K mg mb env S₀ Sl)) (YP Sl (WG K mg mb env S₀ Sl) (VG vals)) m (.send .none) s''
/-- what is fixed -/
structure GF (S₀ : Shared) (Sl I : Addr) (g : Nat) : Prop where
  gen : S₀.heap.IsGen I g
  lim : S₀.heap.NoLimit
  ne : I ≠ Sl
  gens : ∃ pre : Array GenState, S₀.gens = pre.push .running ∧ g = pre.size
theorem gens_at {i : IG} {s : Shared} (X₀ : GF S₀ Sl I g) (hW : WG K mg mb env S₀ Sl i s) : ∃ h : g < s.gens.size, s.gens[g] = .running := by
  obtain ⟨pre, e, rfl⟩ := X₀.gens
  obtain ⟨more, em, _⟩ := hW.1.gens
  have e' : s.gens = pre.push .running ++ more := by rw [em, hW.2.2.2.2.2.1, e]
  have hlt : pre.size < s.gens.size := by rw [e']; simp; omega
  refine ⟨hlt, ?_⟩
  have : s.gens[pre.size]? = some .running := by
    rw [e', Array.getElem?_append_left (by simp)]
    simp
  rw [Array.getElem?_eq_getElem hlt] at this
  exact Option.some.inj this
theorem set_back {s : Shared} {x y : GenState} (h : g < s.gens.size) (e : s.gens[g] = y) : (s.setGen g x).setGen g y = s := by
  obtain ⟨hp, gn, d, t, os⟩ := s
  subst e
  have q : gn.setIfInBounds g gn[g] = gn := by
    apply Array.ext
    · simp
    · intro j h1 h2
      rw [Array.getElem_setIfInBounds]
      split
      · rename_i e; subst e; rfl
      · rfl
  simp [Shared.setGen, q]
theorem next_item (X₀ : GF S₀ Sl I g) (hh : A.handled = none) (hroom : A.depth < recursionLimit) {m : Nat} {s : Shared} {o : Obj} (X : GI prog w A.in1 K mg mb env S₀ Sl I g vals (m + 1) s) (ho : s.heap.get? Sl = some o)
    {Q : Option Value → Shared → Prop} {E : Value → Shared → Prop} (h : ∀ x t s', vals[vals.length - 1 - m]? = some x → s'.heap.get? Sl = some o → GI prog w A.in1 K mg mb env S₀ Sl I g vals m s' → Q (some (.str x t)) s') :
    wpAny (model prog w) A (pyNext (.ref I)) Q E s := by
  obtain ⟨gs, i, hgs, hW, hgo⟩ := X.run
  have hk : Kp S₀.heap s.heap := fun b o q => hW.1.keep b o (hW.2.2.2.2.1 b o q)
  refine wpAny_pyNext_gen (n := m + 1) (Y := YP Sl (WG K mg mb env S₀ Sl) (VG vals)) (P := fun n s₀ s => n = 0 ∧ (∃ i, WG K mg mb env S₀ Sl i s) ∧ ∃ o, s₀.heap.get? Sl = some o ∧ s.heap.get? Sl = some o) hh (X₀.lim.keeps hk) hroom (X₀.gen.keeps hk) hgs (hgo _ o hW ho) ?_ ?_
  · rintro v s₁ gs' ⟨i', ⟨x, t, hx, rfl⟩, hW', ⟨o', h1, h2⟩, hc⟩
    have : o' = o := by
      have h1' : s.heap.get? Sl = some o' := h1
      rw [ho] at h1'; exact (Option.some.inj h1').symm
    subst this
    refine h x t _ hx h2 ⟨gs', i', ?_, ?_, fun s'' o'' w' h' => hc s'' o'' w' h'⟩
    · obtain ⟨hlt, _⟩ := gens_at X₀ hW'
      simp [Shared.setGen, hlt]
    · obtain ⟨hlt, er⟩ := gens_at X₀ hW'
      rw [set_back hlt er]; exact hW'
  · rintro s₁ ⟨h0, _⟩
    cases h0
theorem next_end (X₀ : GF S₀ Sl I g) (hh : A.handled = none) (hroom : A.depth < recursionLimit) {s : Shared} {o : Obj} (X : GI prog w A.in1 K mg mb env S₀ Sl I g vals 0 s) (ho : s.heap.get? Sl = some o)
    {Q : Option Value → Shared → Prop} {E : Value → Shared → Prop} (h : ∀ i s' h', s'.heap.get? Sl = some o → WG K mg mb env S₀ Sl i s' → Kp s'.heap h' → Q none { s'.setGen g .finished with heap := h' }) :
    wpAny (model prog w) A (pyNext (.ref I)) Q E s := by
  obtain ⟨gs, i, hgs, hW, hgo⟩ := X.run
  have hk : Kp S₀.heap s.heap := fun b o q => hW.1.keep b o (hW.2.2.2.2.1 b o q)
  refine wpAny_pyNext_gen (n := 0) (Y := YP Sl (WG K mg mb env S₀ Sl) (VG vals)) (P := fun n s₀ s => n = 0 ∧ (∃ i, WG K mg mb env S₀ Sl i s) ∧ ∃ o, s₀.heap.get? Sl = some o ∧ s.heap.get? Sl = some o) hh (X₀.lim.keeps hk) hroom (X₀.gen.keeps hk) hgs (hgo _ o hW ho) ?_ ?_
  · rintro v s₁ gs' ⟨i', _, hW', ⟨o', _, h2⟩, hc⟩
    exact (hc s₁ o' hW' h2).elim
  · rintro s₁ ⟨_, ⟨i', hW'⟩, o', h1, h2⟩ h' hk'
    have h1' : s.heap.get? Sl = some o' := h1
    rw [ho] at h1'
    cases h1'
    exact h i' s₁ h' h2 hW' hk'
theorem GI.put {m : Nat} {s : Shared} {h' : Heap} (X : GI prog w A K mg mb env S₀ Sl I g vals m s) (hk : ∀ b o, b ≠ Sl → s.heap.get? b = some o → h'.get? b = some o) (hal : ∃ o, h'.get? Sl = some o) :
    GI prog w A K mg mb env S₀ Sl I g vals m { s with heap := h' } := by
  obtain ⟨gs, i, hgs, hW, hgo⟩ := X.run
  exact ⟨gs, i, hgs, ⟨Good.but (s' := ({ s with heap := h' } : Shared).setGen g .running) hW.1 (hW.1.av Sl hW.2.1) hW.2.2.1 hW.2.2.2.1 hk hal rfl rfl, hW.2⟩, hgo⟩
theorem strs_snoc {vs : List Value} {ys : List Str} (h : StrsAre vs ys) (x : Str) (t : Tok) : StrsAre (vs ++ [.str x t]) (ys ++ [x]) := h.append' (.cons x t .nil)
/-- the loop that takes what the generator gives -/
theorem extend_loop (X₀ : GF S₀ Sl I g) (hh : A.handled = none) (hroom : A.depth < recursionLimit) (hn : vals.length ≤ 1000000) (res : Value) {R : Result → Shared → Prop} :
    ∀ (m : Nat) (s : Shared) (acc : Array Value) (c : Nat), m ≤ vals.length → GI prog w A.in1.in1 K mg mb env S₀ Sl I g vals m s → s.heap.get? Sl = some (listOf acc c) → StrsAre acc.toList (vals.take (vals.length - m)) →
    (∀ i s' h' acc' c', WG K mg mb env S₀ Sl i s' → Kp s'.heap h' → s'.heap.get? Sl = some (listOf acc' c') → StrsAre acc'.toList vals → R (.ok (.ret res)) { s'.setGen g .finished with heap := h' }) →
    codeAny (model prog w) A (.builtin "list.extend.loop" ⟨[.ref Sl, .ref I, res], []⟩) R s := by
  intro m
  induction m with
  | zero =>
    intro s acc c hm X ho hacc hR
    refine codeAny_builtin F.entry_extend_loop ?_
    rw [Around.under_plainId F.plain_extend_loop _]
    show wpAny _ A.in1 (pyNext (.ref I) >>= _) _ _ s
    refine wpAny_bind (next_end (A := A.in1) X₀ hh hroom X ho fun i s' h' ho' hW' hk' => ?_)
    refine wpAny_pure (hR i s' h' acc c hW' hk' ho' ?_)
    rwa [Nat.sub_zero, List.take_of_length_le (Nat.le_refl _)] at hacc
  | succ m ih =>
    intro s acc c hm X ho hacc hR
    refine codeAny_builtin F.entry_extend_loop ?_
    rw [Around.under_plainId F.plain_extend_loop _]
    show wpAny _ A.in1 (pyNext (.ref I) >>= _) _ _ s
    refine wpAny_bind (next_item (A := A.in1) X₀ hh hroom X ho fun x t s' hx ho' X' => ?_)
    show wpAny _ A.in1 (updateSeq Sl (·.push (.str x t)) >>= _) _ _ _
    refine wpAny_bind ?_
    have hsz : acc.size ≤ vals.length := by
      have := hacc.len_eq
      rw [Array.length_toList, List.length_take] at this
      omega
    have hup : (s'.heap.update Sl (Obj.mapSeq (·.push (.str x t)))).get? Sl = some (listOf (acc.push (.str x t)) (c + 1)) := by
      rw [Heap.get?_update_self _ ho' (by rw [mapSeq_push]; rfl), mapSeq_push]
    refine wpAny_updateSeq ho' rfl (wpAny_pure ⟨plainId_quiet F.plain_extend_loop _, ih _ (acc.push (.str x t)) (c + 1) (by omega) (X'.put (fun b o hb q => (Heap.get?_update_other _ _ (Ne.symm hb)).trans q) ⟨_, hup⟩) hup ?_ hR⟩)
    rw [Array.toList_push, show vals.length - m = vals.length - (m + 1) + 1 from by omega, List.take_add_one]
    rw [show vals.length - 1 - m = vals.length - (m + 1) from by omega] at hx
    rw [hx]
    exact strs_snoc hacc x t
end
end Mine

open PySem PySem.W PyProof.Rows PySem.Calls
set_option Elab.async false
set_option linter.unusedVariables false
set_option maxRecDepth 100000
namespace Mine
section
variable {K : Frag} {mg mb : Str → Option Value} {env : Env} {S₀ : Shared} {Sl I : Addr} {g : Nat} {vals : List Str} {prog : Program} {w : World} {A : Around}
theorem list_init (X₀ : GF S₀ Sl I g) (hh : A.handled = none) (hroom : A.depth < recursionLimit) (hn : vals.length ≤ 1000000) {R : Result → Shared → Prop} {s : Shared} (hG : s.heap.IsGen I g)
    (hS : s.heap.get? Sl = some (listOf #[] 0))
    (hX : ∀ h', (∀ b o, b ≠ Sl → s.heap.get? b = some o → h'.get? b = some o) → (∃ o, h'.get? Sl = some o) → GI prog w A.in1.in1 K mg mb env S₀ Sl I g vals vals.length { s with heap := h' })
    (hR : ∀ i s' h' acc' c', WG K mg mb env S₀ Sl i s' → Kp s'.heap h' → s'.heap.get? Sl = some (listOf acc' c') → StrsAre acc'.toList vals → R (.ok (.ret .none)) { s'.setGen g .finished with heap := h' }) :
    wpAny (model prog w) A.in1 (Builtin.«list.__init__» ⟨[.ref Sl, .ref I], []⟩)
      (fun fin s' => match fin with | .done f => R (.ok f) s' | .again c' => c'.quiet = true ∧ codeAny (model prog w) A c' R s') (fun e s' => R (.error e) s') s := by
  show wpAny _ A.in1 (do let old ← Builtin.List.listItems (.ref Sl); Builtin.List.listUpdate (.ref Sl) (fun _ => #[]); letGo old.toList.reverse; Builtin.List.listExtendWith (.ref Sl) (.ref I) .none) _ _ s
  refine wpAny_bind ?_
  unfold Builtin.List.listItems
  refine wpAny_bind (wpAny_seqItems hS rfl (wpAny_pure ?_))
  show wpAny _ A.in1 (updateSeq Sl (fun _ => #[]) >>= fun _ => letGo (#[] : Array Value).toList.reverse >>= fun _ => Builtin.List.listExtendWith (.ref Sl) (.ref I) .none) _ _ s
  refine wpAny_bind (wpAny_updateSeq hS rfl ?_)
  have hS₁ := Heap.get?_update_self (Obj.mapSeq (fun _ => (#[] : Array Value))) hS rfl
  have oth₁ : ∀ b o, b ≠ Sl → s.heap.get? b = some o → (s.heap.update Sl (Obj.mapSeq (fun _ => (#[] : Array Value)))).get? b = some o := fun b o hb e => (Heap.get?_update_other _ _ (Ne.symm hb)).trans e
  refine wpAny_bind (wpAny_letGo ?_)
  have hSI : Sl ≠ I := Ne.symm X₀.ne
  have hG₁ : (s.heap.update Sl (Obj.mapSeq (fun _ => (#[] : Array Value)))).IsGen I g := by
    obtain ⟨o, nm, qn, ho, r⟩ := hG
    exact ⟨o, nm, qn, oth₁ _ _ X₀.ne ho, r⟩
  unfold Builtin.List.listExtendWith
  refine wpAny_bind (wpAny_typeOf (Heap.IsGen.typeIs (s := { s with heap := s.heap.update Sl (Obj.mapSeq (fun _ => (#[] : Array Value))) }) hG₁) ?_)
  have h1 : Builtin.List.listSameRef (.ref Sl) (.ref I) = false := by simp [Builtin.List.listSameRef, hSI]
  have h2 : (Value.type "generator" == Value.type "list") = false := by decide
  have h3 : (Value.type "generator" == Value.type "tuple") = false := by decide
  simp only [h1, h2, h3, Bool.or_false, Bool.false_eq_true, if_false]
  refine wpAny_bind (wpAny_pyIter_gen hG₁ ?_)
  refine wpAny_bind (wpAny_holding ?_)
  unfold Builtin.List.listLengthHint
  refine wpAny_bind (wpAny_specialOf (Heap.IsGen.typeIs (s := { s with heap := s.heap.update Sl (Obj.mapSeq (fun _ => (#[] : Array Value))) }) hG₁) F.gen_no_len ?_)
  show wpAny _ A.in1 (specialOf (Value.ref I) (Str.ofString "__length_hint__") >>= _) _ _ _
  refine wpAny_bind (wpAny_specialOf (Heap.IsGen.typeIs (s := { s with heap := s.heap.update Sl (Obj.mapSeq (fun _ => (#[] : Array Value))) }) hG₁) F.gen_no_hint ?_)
  refine wpAny_pure ?_
  show wpAny _ A.in1 (rule "list.extend.makes-room" >>= fun _ => Builtin.List.listTouch (.ref Sl) >>= fun _ =>
    again (.builtin "list.extend.loop" ⟨[.ref Sl, .ref I, .none], []⟩)) _ _ _
  refine wpAny_bind (wpAny_rule ?_)
  refine wpAny_bind ?_
  show wpAny _ A.in1 (updateSeq Sl (·.push .none) >>= fun _ => updateSeq Sl (·.pop)) _ _ _
  refine wpAny_bind (wpAny_updateSeq hS₁ rfl ?_)
  have hS₂ := Heap.get?_update_self (Obj.mapSeq (·.push Value.none)) hS₁ rfl
  refine wpAny_updateSeq (hz := by seq_fits) hS₂ rfl ?_
  have hS₃ := Heap.get?_update_self (Obj.mapSeq (·.pop)) hS₂ rfl
  have oth : ∀ b o, b ≠ Sl → s.heap.get? b = some o → (((s.heap.update Sl (Obj.mapSeq (fun _ => (#[] : Array Value)))).update Sl (Obj.mapSeq (·.push Value.none))).update Sl (Obj.mapSeq (·.pop))).get? b = some o :=
    fun b o hb e => (Heap.get?_update_other _ _ (Ne.symm hb)).trans ((Heap.get?_update_other _ _ (Ne.symm hb)).trans (oth₁ b o hb e))
  refine wpAny_pure ⟨plainId_quiet F.plain_extend_loop _, extend_loop X₀ hh hroom hn .none vals.length _ #[] _ (Nat.le_refl _) (hX _ oth ⟨_, hS₃⟩) hS₃ ?_ hR⟩
  rw [Nat.sub_self]; exact .nil
theorem call_list (hh : A.handled = none) (hroom : A.depth < recursionLimit) (hn : vals.length ≤ 1000000) {s : Shared} (hSl : s.heap.objs.size = Sl) (X₀ : GF S₀ Sl I g) (hG : s.heap.IsGen I g)
    (hX : ∀ h', (∀ b o, s.heap.get? b = some o → h'.get? b = some o) → (∃ o, h'.get? Sl = some o) → GI prog w A.in1.in1.in1 K mg mb env S₀ Sl I g vals vals.length { s with heap := h' })
    {Q : Value → Shared → Prop} {E : Value → Shared → Prop}
    (hQ : ∀ i s' h' acc' c', WG K mg mb env S₀ Sl i s' → Kp s'.heap h' → s'.heap.get? Sl = some (listOf acc' c') → StrsAre acc'.toList vals → Q (.ref Sl) { s'.setGen g .finished with heap := h' }) :
    wpAny (model prog w) A (call (.type "list") [.ref I]) Q E s := by
  subst hSl
  refine callType_codes (Q₁ := fun obj s₁ => obj = .ref s.heap.objs.size ∧ s₁ = { s with heap := s.heap.push { cls := .type "list", data := .seq #[] } }) F.called_list (F.typeCall_list_1 _) F.entry_list_init
    (code_list_new _ ⟨rfl, rfl⟩) fun obj s₁ h₁ => ?_
  obtain ⟨rfl, rfl⟩ := h₁
  have hS : (s.heap.push { cls := .type "list", data := .seq #[] }).get? s.heap.objs.size = some (listOf #[] 0) := Heap.get?_push_size _ rfl
  refine ⟨⟨_, hS, rfl⟩, F.args_list_init_2 _ _, list_init (A := A.in1) X₀ hh hroom hn (hG.push _) hS (fun h' hk hal => hX h' (fun b o q => hk b o (Nat.ne_of_lt (Heap.lt_size q)) (Heap.get?_push_of_some _ q)) hal) fun i s' h' acc' c' hW hk ho hacc => ?_⟩
  exact ⟨rfl, hQ i s' h' acc' c' hW hk ho hacc⟩
end
end Mine

open PySem PySem.W PyProof.Rows PySem.Calls
set_option Elab.async false
set_option linter.unusedVariables false
set_option maxRecDepth 100000
namespace Mine
/-! ## list(f(..)) with f a generator function -/
section
variable {K : Frag} {mg mb : Str → Option Value} {S₀ S' : Shared} {av av' own : List Addr} {env : Env} {σ : Sto} {s s' : Shared}
/-- another base, other generators -/
theorem Good.regen (G : Good K mg mb S₀ av own env σ s) (hh : s'.heap = s.heap) (hst : Stat K mg mb S'.heap) (hkp : Kp S'.heap s.heap) (hm : ∀ a, Mut env σ a → S'.heap.get? a = none) (hav : ∀ a ∈ av', a ∈ own)
    (hg : ∃ more, s'.gens = S'.gens ++ more ∧ AllBare more) (ho : s'.os = S'.os) : Good K mg mb S' av' own env σ s' := by
  obtain ⟨hp, gn, d, t, os⟩ := s'
  dsimp only at hh hg ho
  subst hh
  exact { stat := hst, keep := hkp, hid := G.hid, av := hav, lown := G.lown, lnew := hm _ (.inl rfl), ns := G.ns,
          cells := fun x c h => let ⟨a, b, _, d⟩ := G.cells x c h; ⟨a, b, hm _ (.inr (.inl ⟨x, h⟩)), d⟩, cellv := G.cellv, cinj := G.cinj, chas := G.chas, vars := G.vars,
          ownl := fun x a l h => let ⟨d, _, e⟩ := G.ownl x a l h; ⟨d, hm _ (.inr (.inr ⟨x, l, h⟩)), e⟩, kind := G.kind, glob := G.glob, blt := G.blt, gens := hg, os := ho }
end
theorem reps_strs {h : Heap} {own : List Addr} {vs : List Value} {ys : List Str} (x : StrsAre vs ys) : Reps h own (ys.map D.str) vs := by
  induction x with
  | nil => rfl
  | cons n t _ ih => exact ⟨_, _, rfl, ⟨t, rfl⟩, ih⟩
/-- the run of a generator's body -/
def GRun (prog : Program) (w : World) (K : Frag) (mg mb : Str → Option Value) (f : Addr) (fd : FuncData) (body : List Stmt) (bs : List (Str × D)) (vals : List Str) : Prop :=
  ∀ (S₀ : Shared) (av own : List Addr) (A : Around) (L Sl : Addr) (s : Shared) (o : Obj) (R : GenEnd), Room A 6 → Good K mg mb S₀ av own (callEnv fd L f) (stoOf bs empty) s → Sl ∈ av → ¬ Mut (callEnv fd L f) (stoOf bs empty) Sl → S₀.heap.get? Sl = none → s.heap.get? Sl = some o →
    SY Sl (model prog w) A R (YP Sl (WG K mg mb (callEnv fd L f) S₀ Sl) (VG vals)) (.func body (callEnv fd L f)) [] (execs body (callEnv fd L f)) vals.length o s
      (fun fl n' o' s' => (fl = .next ∨ fl = .ret .none) ∧ n' = 0 ∧ s'.heap.get? Sl = some o' ∧ ∃ own' σ', Good K mg mb S₀ av own' (callEnv fd L f) σ' s' ∧ ¬ Mut (callEnv fd L f) σ' Sl)
theorem seg_gen {prog : Program} {w : World} {A : Around} {K : Frag} {mg mb : Str → Option Value} {f : Addr} {fd : FuncData} {body : List Stmt} {bs : List (Str × D)} {vals : List Str} (H : GRun prog w K mg mb f fd body bs vals)
    {S₀ : Shared} {av own : List Addr} {L Sl : Addr} {s : Shared} {o : Obj} (RA : Room A 6) (G : Good K mg mb S₀ av own (callEnv fd L f) (stoOf bs empty) s) (hav : Sl ∈ av) (hm : ¬ Mut (callEnv fd L f) (stoOf bs empty) Sl) (hS : S₀.heap.get? Sl = none) (ho : s.heap.get? Sl = some o) :
    Seg (model prog w) A (RP Sl (WG K mg mb (callEnv fd L f) S₀ Sl)) (YP Sl (WG K mg mb (callEnv fd L f) S₀ Sl) (VG vals)) vals.length s (.func body (callEnv fd L f)) ((model prog w).den (.func body (callEnv fd L f))) [] s := by
  show Seg _ A _ _ _ s _ (.point [] fun _ => ((execs body (callEnv fd L f)).onRaise (leaving (callEnv fd L f))) >>= _) [] s
  refine seg_point (Seg.of_SY (Sl := Sl) (Q := fun a n' o' s' => a = .done (.ret .none) ∧ n' = 0 ∧ s'.heap.get? Sl = some o' ∧ ∃ own' σ', Good K mg mb S₀ av own' (callEnv fd L f) σ' s' ∧ ¬ Mut (callEnv fd L f) σ' Sl) ho
    (SY.bind (SY.onRaise ((H S₀ av own A L Sl s o _ RA G hav hm hS ho).mono fun fl n' o' s' q => ?_))) ?_)
  · obtain ⟨hf, hn, ho', hG⟩ := q
    rcases hf with rfl | rfl
    · exact SY.pure ⟨rfl, hn, ho', hG⟩
    · exact SY.pure ⟨rfl, hn, ho', hG⟩
  · rintro a n' o' s₀' s' h0' ⟨rfl, rfl, ho', own', σ', G', hm'⟩
    exact seg_end (.ok (.ret .none)) ⟨rfl, rfl, ⟨(S₀, av, own', σ'), G', hav, hm', hS, fun b o h => h, rfl, rfl⟩, o', h0', ho'⟩
theorem set_push {α : Type} (a : Array α) (x y : α) : (a.push x).setIfInBounds a.size y = a.push y := by
  apply Array.ext
  · simp
  · intro j h1 h2
    rw [Array.getElem_setIfInBounds (by simpa using h1)]
    by_cases e : a.size = j
    · subst e; simp
    · rw [if_neg e]
      have : j < a.size := by simp at h2; omega
      rw [Array.getElem_push_lt this, Array.getElem_push_lt this]
theorem set_mid {α : Type} (a more : Array α) (x y : α) : (a.push x ++ more).setIfInBounds a.size y = a ++ (#[y] ++ more) := by
  apply Array.ext
  · simp
  · intro j h1 h2
    rw [Array.getElem_setIfInBounds (by simpa using h1)]
    by_cases e : a.size = j
    · subst e; simp
    · rw [if_neg e]
      by_cases hj : j < a.size
      · rw [Array.getElem_append_left (by simp; omega), Array.getElem_push_lt hj, Array.getElem_append_left hj]
      · rw [Array.getElem_append_right (by simp; omega), Array.getElem_append_right (by omega), Array.getElem_append_right (by simp; omega)]
        congr 1
        simp
        omega
theorem in3_room {A : Around} {n : Nat} (R : Room A (n + 4)) : Room A.in1.in1.in1 n := by
  refine ⟨R.handled, ?_, ?_⟩
  · have := R.depth
    show A.depth + n < _
    omega
  · have := R.units
    show A.units + 1 + 1 + 1 + 8 * n < _
    omega
/-- list(f(..)) -/
theorem se_listGen {c : Cx} {σ : Sto} {p q pos pos' es ds f fd body bs o} {vals : List Str} (hl : bltOk c "list" (.type "list")) (hf : SE c σ (.Name x p) (.val (.ref f))) (ha : SEs c σ es ds) (ho : c.K.lookup f = some o) (hd : o.data = .func fd)
    (hG : GFn c.prog c.w c.K c.mg c.mb f ds fd body bs) (H : GRun c.prog c.w c.K c.mg c.mb f fd body bs vals) (R : Room c.A 12) (hn : vals.length ≤ 1000000)
    (hst : backTo pos (starEach es c.env) = es.map (fun e => (false, eval e c.env))) (hst' : backTo pos' (starEach [.Call (.Name x p) es [] pos] c.env) = [(false, eval (.Call (.Name x p) es [] pos) c.env)]) :
    SE c σ (.Call (.Name "list" q) [.Call (.Name x p) es [] pos] [] pos') (.list (vals.map D.str)) := fun own s Q E G h => by
  show c.wp (do callWith pos' (← eval (.Name "list" q) c.env) [] (backTo pos' (starEach [.Call (.Name x p) es [] pos] c.env)) (backToKw pos' (keywordEach [] c.env))) Q E s
  refine wpAny_bind (SE.bltName hl own s _ _ G fun v s₁ x₁ r₁ => ?_)
  obtain rfl := r₁
  have G₁ := G.ext x₁
  rw [hst']
  refine callWith_machine (by intro a; simp) (by simp [backToKw, keywordEach]) (Calls.evalArgs_plain (Calls.spliced_cons ?_))
  show c.wp (do callWith pos (← eval (.Name x p) c.env) [] (backTo pos (starEach es c.env)) (backToKw pos (keywordEach [] c.env))) _ E s₁
  refine wpAny_bind (hf own s₁ _ _ G₁ fun v s₂ x₂ r₂ => ?_)
  obtain rfl := r₂
  have G₂ := G₁.ext x₂
  refine callWith_function_kw (o := o) (fd := fd) (evalArgs_gen ha SEk.nil hst rfl rfl G₂ fun vs kvs s₃ x₃ r₃ r₃' => ?_)
  have G₃ := G₂.ext x₃
  have T := G₃.stat'
  refine ⟨⟨T.kin _ _ ho, hd⟩, ?_⟩
  obtain rfl : kvs = [] := r₃'
  refine wpAny_call (hG c.A own s₃ vs _ T (R.le (by decide)) G₃.hid r₃ fun a L s₄ hk₄ ha₄ hL₄ hgen hgens hos haL Gg => ?_)
  refine Calls.spliced_nil ?_
  -- the list's place
  generalize hSl : s₄.heap.objs.size = Sl
  have nSl : s₄.heap.get? Sl = none := hSl ▸ get_size _
  have back : ∀ {b}, s₄.heap.get? b = none → s₃.heap.get? b = none := fun {b} h => by
    cases q : s₃.heap.get? b with
    | none => rfl
    | some o => rw [hk₄ _ _ q] at h; cases h
  let S₀ : Shared := { s₃ with heap := only s₄.heap fun b => b != L, gens := s₃.gens.push .running }
  have getS : ∀ b, b ≠ L → S₀.heap.get? b = s₄.heap.get? b := fun b hb => by
    show (only s₄.heap _).get? b = _
    rw [only_get, if_pos (by simpa using hb)]
  have getL : S₀.heap.get? L = none := by
    show (only s₄.heap _).get? L = _
    rw [only_get, if_neg (by simp)]
  have kS : Kp s₃.heap S₀.heap := fun b o q => by rw [getS b (fun e => by rw [e, hL₄] at q; cases q)]; exact hk₄ b o q
  have kS' : Kp S₀.heap s₄.heap := fun b o q => by
    by_cases e : b = L
    · rw [e, getL] at q; cases q
    · rw [← getS b e]; exact q
  have hSlL : Sl ≠ L := fun e => by
    obtain ⟨o, q⟩ := (Gg.hid L (List.mem_cons_self ..)).2
    rw [← e, nSl] at q; cases q
  have nS : S₀.heap.get? Sl = none := by rw [getS Sl hSlL]; exact nSl
  have haSl : a ≠ Sl := fun e => by obtain ⟨o, _, _, q, _⟩ := hgen; rw [e, nSl] at q; cases q
  have X₀ : GF S₀ Sl a s₃.gens.size := by
    refine ⟨?_, T.nolimit.keeps kS, haSl, s₃.gens, rfl, rfl⟩
    obtain ⟨o, nm, qn, q, r⟩ := hgen
    exact ⟨o, nm, qn, by rw [getS a haL]; exact q, r⟩
  have hmS : ∀ b, Mut (callEnv fd L f) (stoOf bs empty) b → b = L := fun b m => by
    have h1 := Gg.mut_own m
    have h2 := Gg.mut_none m
    rcases List.mem_cons.mp h1 with e | h1
    · exact e
    · obtain ⟨o, q⟩ := (G₃.hid b h1).2
      rw [h2] at q; cases q
  have hmSl : ¬ Mut (callEnv fd L f) (stoOf bs empty) Sl := fun m => hSlL (hmS _ m)
  refine call_list (K := c.K) (mg := c.mg) (mb := c.mb) (env := callEnv fd L f) (vals := vals) R.handled (Nat.lt_of_le_of_lt (Nat.le_add_right _ _) R.depth) hn hSl X₀ hgen (fun h' hk' hal => ?_) fun i s' h' acc' c' hW hk' ho' hacc => ?_
  · have hgs : s₄.gens[s₃.gens.size]? = some (.fresh (.func body (callEnv fd L f))) := by rw [hgens]; simp
    have Gm : Good c.K c.mg c.mb s₃ own (Sl :: L :: own) (callEnv fd L f) (stoOf bs empty) { s₄ with heap := h' } := Gg.more (Ext.heap hk' s₄.toks) nSl hal
    refine ⟨.fresh (.func body (callEnv fd L f)), (S₀, [Sl], Sl :: L :: own, stoOf bs empty), hgs, ⟨?_, List.mem_singleton.mpr rfl, hmSl, nS, fun b o q => q, rfl, rfl⟩, fun s'' o'' w' h'' => ⟨rfl, ?_⟩⟩
    · refine Gm.regen rfl (T.keeps kS) (fun b o q => hk' b o (kS' b o q)) (fun b m => by rw [hmS b m]; exact getL) (fun b m => by rw [List.mem_singleton.mp m]; exact List.mem_cons_self ..) ⟨#[], ?_, AllBare.empty⟩ hos
      show s₄.gens.setIfInBounds _ _ = s₃.gens.push .running ++ #[]
      rw [hgens, set_push, Array.append_empty]
    · exact seg_gen H ((in3_room (n := 8) R).le (by decide)) w'.1 w'.2.1 hmSl nS h''
  · have k1 : Kp s.heap s₃.heap := fun b o q => x₃.keep _ _ (x₂.keep _ _ (x₁.keep b o q))
    have k2 : Kp s₃.heap h' := fun b o q => hk' _ _ (hW.1.keep _ _ (hW.2.2.2.2.1 _ _ (kS _ _ q)))
    obtain ⟨more, em, bm⟩ := hW.1.gens
    have eg : s'.gens = s₃.gens.push .running ++ more := by rw [em, hW.2.2.2.2.2.1]
    have x₄ : Ext s₃ { s'.setGen s₃.gens.size .finished with heap := h' } := by
      refine ⟨k2, ⟨#[.finished] ++ more, ?_, allBare_append (AllBare.empty.push rfl) bm⟩, ?_⟩
      · show s'.gens.setIfInBounds s₃.gens.size .finished = _
        rw [eg, set_mid]
      · show s'.os = s₃.os
        rw [hW.1.os, hW.2.2.2.2.2.2]
    have nown : Sl ∉ own := fun m => by
      obtain ⟨o, q⟩ := (G₃.hid Sl m).2
      rw [hk₄ _ _ q] at nSl; cases nSl
    exact h _ _ (((x₁.trans x₂).trans x₃).trans x₄) ⟨Sl, acc', rfl, nown, ⟨_, hk' _ _ ho', rfl, c', rfl⟩, reps_strs hacc⟩
end Mine

open PySem PySem.W PyProof.Rows PySem.Calls
set_option Elab.async false
set_option linter.unusedVariables false
set_option maxRecDepth 100000
namespace Mine
/-! ## list(iter_graphemes(..)) -/
noncomputable def dflt369 (w : World) : Tok := match (fdAt w 369).defaults with
  | .ref T => (match (KK w).lookup T with
    | some o => (match o.data with | .seq items _ => (match items[0]? with | some v => tokOf v | none => 0) | _ => 0)
    | none => 0)
  | _ => 0
theorem bind369d (w : World) (S : Setting) (a : Value) : peek (KK w) S (bindArgs (fdAt w 369) ⟨[a], []⟩) = some [(("unistr" : Str), a), (("start" : Str), .int 0 (dflt369 w)), (("end" : Str), .none)] := by kernel_rfl
section
variable {prog : Program} {w : World} {mg mb : Str → Option Value}
theorem ig_gfn (l : List Nat) (st : Int) (eo : Option Int) : GFn prog w (KK w) mg mb 369 [.str (Sx l), .int st, eoD eo] (fdAt w 369) (bodyOf 29) [(("unistr" : Str), .str (Sx l)), (("start" : Str), .int st), (("end" : Str), eoD eo)] := by
  refine GFn.of_body (look369 w) (data369 w) (body369 w) (plain369 w _ _ _) (code369 w) ?_
  intro s av vs T H r
  obtain ⟨v, v', v'', rfl, r1, r2, r3⟩ := three r
  exact ⟨_, kp_binds T.kin (fun S => bind369 w S v v' v''), v, _, rfl, r1, v', _, rfl, r2, v'', _, rfl, r3, rfl⟩
theorem ig_gfn1 (l : List Nat) : GFn prog w (KK w) mg mb 369 [.str (Sx l)] (fdAt w 369) (bodyOf 29) [(("unistr" : Str), .str (Sx l)), (("start" : Str), .int 0), (("end" : Str), eoD none)] := by
  refine GFn.of_body (look369 w) (data369 w) (body369 w) (plain369 w _ _ _) (code369 w) ?_
  intro s av vs T H r
  obtain ⟨v, rfl, r1⟩ := one r
  exact ⟨_, kp_binds T.kin (fun S => bind369d w S v), v, _, rfl, r1, _, _, rfl, ⟨_, rfl⟩, _, _, rfl, rfl, rfl⟩
theorem ig_grun (l : List Nat) (st : Int) (eo : Option Int) (hf : l.length < 1000000) : GRun prog w (KK w) mg mb 369 (fdAt w 369) (bodyOf 29) [(("unistr" : Str), .str (Sx l)), (("start" : Str), .int st), (("end" : Str), eoD eo)] ((igParts l st eo).map (slx l)) :=
  fun S₀ av own A L Sl s o R RA G hav hm hS ho => ig_run l st eo hf RA G hav hm hS ho
end
section
variable {c : Cx} {σ : Sto} (hK : c.K = KK c.w)
theorem igo_len (l : List Nat) (st e : Int) : ∀ (r : List Int) (cs pv ri : Int), (igGo l st e r cs pv ri).length ≤ r.length + 1
  | [], _, _, _ => by simp [igGo]
  | i :: r, cs, pv, ri => by
    unfold igGo
    split
    · have := igo_len l st e r i (gcb (at_ l i)) (sbk pv (gcb (at_ l i)) l i ri st).2
      simp only [List.length_cons]; omega
    · have := igo_len l st e r cs (gcb (at_ l i)) (sbk pv (gcb (at_ l i)) l i ri st).2
      simp only [List.length_cons]; omega
theorem ig_len (l : List Nat) (st : Int) (eo : Option Int) (hf : l.length < 900000) : ((igParts l st eo).map (slx l)).length ≤ 1000000 := by
  rw [List.length_map]
  unfold igParts
  split
  · simp
  · split
    · simp
    · refine Nat.le_trans (igo_len ..) ?_
      rw [iot_len]
      have h1 : igM l eo ≤ l.length := by unfold igM; split <;> omega
      have h2 : 0 ≤ igS st := by unfold igS; split <;> omega
      omega
include hK
theorem se_listIG1 {p q pos pos' e} {l : List Nat} (R : Room c.A 12) (hl : bltOk c "list" (.type "list")) (hk : c.env.kindOf "iter_graphemes" = some .globalImplicit) (h1 : SE c σ e (.str (Sx l))) (hf : l.length < 900000)
    (hst : backTo pos (starEach [e] c.env) = [e].map (fun e => (false, eval e c.env))) (hst' : backTo pos' (starEach [.Call (.Name "iter_graphemes" p) [e] [] pos] c.env) = [(false, eval (.Call (.Name "iter_graphemes" p) [e] [] pos) c.env)]) :
    SE c σ (.Call (.Name "list" q) [.Call (.Name "iter_graphemes" p) [e] [] pos] [] pos') (.list (((igParts l 0 none).map (slx l)).map D.str)) :=
  se_listGen hl (SE.glob hk (by rw [hK]; kernel_rfl : nsIn c.K mainGlobals "iter_graphemes" = some (some (.ref 369))) (by kernel_rfl)) (.cons h1 .nil) (by rw [hK]; exact look369 c.w) (data369 c.w) (by rw [hK]; exact ig_gfn1 l) (by rw [hK]; exact ig_grun l 0 none (by omega)) R (ig_len l 0 none hf) hst hst'
theorem se_listIG3 {p q pos pos' e e2 e3} {l : List Nat} {a b : Int} (R : Room c.A 12) (hl : bltOk c "list" (.type "list")) (hk : c.env.kindOf "iter_graphemes" = some .globalImplicit) (h1 : SE c σ e (.str (Sx l))) (h2 : SE c σ e2 (.int a)) (h3 : SE c σ e3 (.int b)) (hf : l.length < 900000)
    (hst : backTo pos (starEach [e, e2, e3] c.env) = [e, e2, e3].map (fun e => (false, eval e c.env))) (hst' : backTo pos' (starEach [.Call (.Name "iter_graphemes" p) [e, e2, e3] [] pos] c.env) = [(false, eval (.Call (.Name "iter_graphemes" p) [e, e2, e3] [] pos) c.env)]) :
    SE c σ (.Call (.Name "list" q) [.Call (.Name "iter_graphemes" p) [e, e2, e3] [] pos] [] pos') (.list (((igParts l a (some b)).map (slx l)).map D.str)) :=
  se_listGen hl (SE.glob hk (by rw [hK]; kernel_rfl : nsIn c.K mainGlobals "iter_graphemes" = some (some (.ref 369))) (by kernel_rfl)) (.cons h1 (.cons h2 (.cons h3 .nil))) (by rw [hK]; exact look369 c.w) (data369 c.w) (by rw [hK]; exact ig_gfn l a (some b)) (by rw [hK]; exact ig_grun l a (some b) (by omega)) R (ig_len l a (some b) hf) hst hst'
end
end Mine

open PySem PySem.W PyProof.Rows PySem.Calls
set_option Elab.async false
set_option linter.unusedVariables false
set_option maxRecDepth 100000
namespace Mine
section
variable {Sl : Addr} {prog : Program} {w : World} {R : GenEnd} {Y : Protocol} {A : Around} {fbody : List Stmt} {fenv env : Env} {n : Nat} {o : Obj} {s : Shared}
/-- a while loop whose body may yield and does not leave -/
theorem SY.while_ {test : Expr} {body : List Stmt} {pos : Pos} {Q : Flow → Nat → Obj → Shared → Prop} (r : Nat) (RA : Room A (r + 1)) (I : Nat → Nat → Obj → Shared → Prop) (m : Nat) (h0 : I m n o s)
    (turn : ∀ m n o s c' fs', I m n o s → splitAtGen fs' = none → fs'.any Frame.guarded = false → Room (A.over c' fs') r → wpAny (model prog w) (A.over c' fs') (isTrue test env (eval test env)) (fun b s' =>
      if b = true then SY Sl (model prog w) A R Y c' fs' (execs body env) n o s' (fun f n' o' s'' => f = .next ∧ ∃ m', m' < m ∧ I m' n' o' s'') else Q .next n o s') (fun _ _ => False) s) :
    SY Sl (model prog w) A R Y (.func fbody fenv) [] (exec (.While test body [] pos) env) n o s Q := by
  rw [exec_While]
  refine SY.bind (SY.at (SY.runOwn (SY.run fun kk ll pp s₀ hs0 hkk => ?_)))
  have loop : ∀ m n o s s₀, I m n o s → s₀.heap.get? Sl = some o → Seg (model prog w) A R Y n s₀ (.whileLoop test body [] env) (denote table (.whileLoop test body [] env)) [.ret kk none false ll (.func fbody fenv) pp []] s := by
    intro m
    induction m using Nat.strongRecOn with
    | _ m ih =>
      intro n o s s₀ hI hs0
      refine Seg.of_SY (Sl := Sl) (Q := fun a n' o' s' => (a = .again (.whileLoop test body [] env) ∧ ∃ m', m' < m ∧ I m' n' o' s') ∨ (a = .done .next ∧ Q .next n' o' s')) hs0 (SY.onRaise (g := fun x => do noteFrame x env; theTreesLotGoes x) (m := whileTurn test body [] env) ?_) ?_
      · unfold whileTurn
        refine SY.bind (SY.of_wp (wpAny_mono (turn m n o s _ _ hI rfl rfl (room_while RA fbody body [] fenv env test kk ll pp)) (fun b s' q => ?_) fun _ _ f => f))
        cases b with
        | true =>
          rw [if_pos rfl] at q
          show SY Sl _ A R Y _ _ (if true = true then _ else _) n o s' _
          rw [if_pos rfl]
          refine SY.bind (q.mono fun f n' o' s'' q' => ?_)
          obtain ⟨rfl, m', hm', hI'⟩ := q'
          exact SY.pure (.inl ⟨rfl, m', hm', hI'⟩)
        | false =>
          rw [if_neg (by decide)] at q
          show SY Sl _ A R Y _ _ (if false = true then _ else _) n o s' _
          rw [if_neg (by decide)]
          exact SY.bind (SY.execs_nil (SY.pure (.inr ⟨rfl, q⟩)))
      · rintro a n' o' s₀' s' h0' (⟨rfl, m', hm', hI'⟩ | ⟨rfl, hq⟩)
        · exact seg_again (by rfl) (ih m' hm' n' o' s' s₀' hI' h0')
        · exact seg_leaf (.ok .next) (hkk .next n' o' s₀' s' h0' hq)
  exact loop m n o s s₀ h0 hs0
end
end Mine

open PySem PySem.W PyProof.Rows PySem.Calls
set_option Elab.async false
set_option linter.unusedVariables false
set_option linter.unusedSimpArgs false
set_option maxRecDepth 100000
namespace Mine
/-! ## the lines of the walk: the generators' bodies -/
local macro_rules | `(tactic| walk_at "g look") => `(tactic| (repeat' (first | with_reducible assumption | with_reducible exact Look.here | (with_reducible refine' Look.there ?_ ?_; kernel_rfl) | (with_reducible refine' Look.noOwn ?_))))
local macro_rules | `(tactic| walk_at "g blt") => `(tactic| (refine' bltOk.mk' ?_ ?_ ?_ ?_ ?_ <;> kernel_rfl))
local macro_rules | `(tactic| walk_at "g room") => `(tactic| first | with_reducible assumption | exact Room.le (by assumption) (by decide))
local macro_rules | `(tactic| walk_at "g han") => `(tactic| exact Room.handled (by assumption))
local macro_rules | `(tactic| walk_at "g side") => `(tactic| first | with_reducible assumption | omega)
local macro_rules | `(tactic| walk_at "g c") => `(tactic| with_reducible first
  | exact CmpOK.eqI | exact CmpOK.geI | exact CmpOK.ltI | exact CmpOK.gtI | exact CmpOK.isNone | exact CmpOK.isNoneI)
local macro_rules | `(tactic| walk_at "g e") => `(tactic| with_reducible first
  | exact SE.int | exact SE.str | exact SE.bool | exact SE.none
  | (refine' SE.name ?k1; (case k1 => walk_at "g look"))
  | (refine' SE.ordAt (hsub := ?k0) ?k1 ?k2 ?k3 ?k4 ?k5 ?k6 ?k7; (case k0 => intro _ _; with_unfolding_all rfl); (case k1 => walk_at "g blt"); (case k2 => with_unfolding_all (intro _; rfl)); (case k3 => walk_at "g e"); (case k4 => walk_at "g e"); (case k5 => walk_at "g side"); (case k6 => walk_at "g side"); (case k7 => walk_at "g side"))
  | (refine' SE.gcb ?k0 ?k1 ?k2 ?k3 ?k4; (case k0 => exact rfl); (case k1 => walk_at "g room"); (case k2 => kernel_rfl); (case k3 => with_unfolding_all (intro _; rfl)); (case k4 => walk_at "g e"))
  | (refine' SE.gREGIONAL_INDICATOR ?k0 ?k1; (case k0 => exact rfl); (case k1 => kernel_rfl))
  | (refine' SE.bin ?k1 ?k2 ?k3; (case k1 => walk_at "g e"); (case k2 => walk_at "g e"); (case k3 => first | exact BinOK.addI | exact BinOK.subI))
  | (refine' SE.lenX ?k1 ?k2 ?k3 ?k4; (case k1 => walk_at "g blt"); (case k2 => with_unfolding_all (intro _; rfl)); (case k3 => walk_at "g e"); (case k4 => walk_at "g side"))
  | (refine' SE.range2 ?k1 ?k2 ?k3 ?k4; (case k1 => walk_at "g blt"); (case k2 => with_unfolding_all (intro _; rfl)); (case k3 => walk_at "g e"); (case k4 => walk_at "g e"))
  | (refine' SE.min2 ?k1 ?k2 ?k5 ?k3 ?k4; (case k1 => walk_at "g blt"); (case k2 => with_unfolding_all (intro _; rfl)); (case k5 => walk_at "g han"); (case k3 => walk_at "g e"); (case k4 => walk_at "g e"))
  | (refine' SE.max2 ?k1 ?k2 ?k5 ?k3 ?k4; (case k1 => walk_at "g blt"); (case k2 => with_unfolding_all (intro _; rfl)); (case k5 => walk_at "g han"); (case k3 => walk_at "g e"); (case k4 => walk_at "g e"))
  | (refine' SE.brBreak ?k0 ?k1 ?k2; (case k0 => exact rfl); (case k1 => walk_at "g room"); (case k2 => walk_at "g e"))
  | (refine' SE.brCount ?k0 ?k1 ?k2; (case k0 => exact rfl); (case k1 => walk_at "g room"); (case k2 => walk_at "g e"))
  | fail "g e")
local macro_rules | `(tactic| walk_at "g t") => `(tactic| with_reducible first
  | (refine' SB.cmp (hm := ?k4) ?k1 ?k2 ?k3; (case k1 => walk_at "g e"); (case k2 => walk_at "g e"); (case k3 => walk_at "g c"); (case k4 => with_unfolding_all rfl))
  | (refine' SB.boolOp ?k1; (case k1 => walk_at "g ts"))
  | (refine' SB.ofBool (hv := ?k2) ?k1; (case k2 => with_unfolding_all (intro _; rfl)); (case k1 => walk_at "g e"))
  | fail "g t")
local macro_rules | `(tactic| walk_at "g ts") => `(tactic| with_reducible first
  | exact SBs.and_nil | exact SBs.or_nil
  | (refine' SBs.and_cons ?k1 (fun hand => ?k2); (case k1 => walk_at "g t"); (case k2 => walk_at "g ts"))
  | (refine' SBs.or_cons ?k1 (fun hor => ?k2); (case k1 => walk_at "g t"); (case k2 => walk_at "g ts"))
  | fail "g ts")
local macro_rules | `(tactic| walk_at "g s") => `(tactic| with_reducible first
  | refine' SX.doc ?_
  | (refine' SX.assign (hs := ?k3) ?k1 ?k2 ?k4; (case k1 => walk_at "g e"); (case k2 => kernel_rfl); (case k3 => with_unfolding_all rfl))
  | fail "g s")

local macro_rules | `(tactic| walk_at "g e") => `(tactic| with_reducible first
  | (refine' SE.fcs ?k0 ?k1 ?k2 ?k3 ?k4 ?k5 ?k6 ?k7 ?k8 ?k9; (case k0 => exact rfl); (case k1 => walk_at "g room"); (case k2 => kernel_rfl); (case k3 => with_unfolding_all (intro _; rfl)); (case k4 => walk_at "g e"); (case k5 => walk_at "g e"); (case k6 => walk_at "g side"); (case k7 => walk_at "g side"); (case k8 => walk_at "g side"); (case k9 => walk_at "g side"))
  | fail "g e 39")
theorem fcsTurn_range (l : List Nat) (pos : Int) : ∀ (r : List Int) (st : Int × Int × Int), (∀ i ∈ r, 0 ≤ i ∧ i < pos) → 0 ≤ st.1 ∧ st.1 < pos → 0 ≤ (r.foldl (fcsTurn l) st).1 ∧ (r.foldl (fcsTurn l) st).1 < pos
  | [], st, _, h => h
  | i :: r, st, hr, h => by
    refine fcsTurn_range l pos r _ (fun j hj => hr j (List.mem_cons_of_mem _ hj)) ?_
    unfold fcsTurn
    dsimp only
    split
    · exact hr i (List.mem_cons_self ..)
    · exact h
theorem iot_mem {a : Int} {n : Nat} {i : Int} (h : i ∈ iot a n) : a ≤ i ∧ i < a + n := by
  unfold iot at h
  obtain ⟨j, hj, rfl⟩ := List.mem_map.mp h
  rw [List.mem_range] at hj
  omega
theorem fcs_range (l : List Nat) (pos : Int) (h : 0 < pos) : 0 ≤ fcs l pos ∧ fcs l pos < pos := by
  unfold fcs
  split
  · omega
  · split
    · omega
    · obtain ⟨z1, z2⟩ := fcsBack_range l pos pos.toNat (pos - 1) (by omega)
      refine fcsTurn_range l pos _ _ (fun i hi => ?_) ⟨z1, ?_⟩
      · have := iot_mem hi
        omega
      · show fcsBack l pos pos.toNat (pos - 1) < pos
        omega
/-- the clusters from the end on -/
def rvGo (l : List Nat) : Nat → Int → List (Int × Int)
  | 0, _ => []
  | n + 1, p => if 0 < p then (fcs l p, p) :: rvGo l n (fcs l p) else []
theorem rvGo_succ (l : List Nat) (n : Nat) (p : Int) : rvGo l (n + 1) p = if 0 < p then (fcs l p, p) :: rvGo l n (fcs l p) else [] := rfl
def rvParts (l : List Nat) : List (Int × Int) := rvGo l l.length l.length
theorem look391 (w : World) : (KK w).lookup 391 = some (objAt w 391) := by kernel_rfl
theorem data391 (w : World) : (objAt w 391).data = .func (fdAt w 391) := by kernel_rfl
theorem body391 (w : World) : (fdAt w 391).body = .stmts (bodyOf 32) := by kernel_rfl
theorem code391 (w : World) : codeIn (KK w) (fdAt w 391).code (fdAt w 391).qualname = true := by kernel_rfl
theorem plain391 (w : World) (a b c : D) : plainGen (fdAt w 391) [(("unistr" : Str), a), (("start" : Str), b), (("end" : Str), c)] = true := by kernel_rfl
noncomputable def dflt391 (w : World) : Tok := match (fdAt w 391).defaults with
  | .ref T => (match (KK w).lookup T with
    | some o => (match o.data with | .seq items _ => (match items[0]? with | some v => tokOf v | none => 0) | _ => 0)
    | none => 0)
  | _ => 0
theorem bind391d (w : World) (S : Setting) (a : Value) : peek (KK w) S (bindArgs (fdAt w 391) ⟨[a], []⟩) = some [(("unistr" : Str), a), (("start" : Str), .int 0 (dflt391 w)), (("end" : Str), .none)] := by kernel_rfl
section
variable {prog : Program} {w : World} {mg mb : Str → Option Value}
theorem rv_gfn1 (l : List Nat) : GFn prog w (KK w) mg mb 391 [.str (Sx l)] (fdAt w 391) (bodyOf 32) [(("unistr" : Str), .str (Sx l)), (("start" : Str), .int 0), (("end" : Str), .none)] := by
  refine GFn.of_body (look391 w) (data391 w) (body391 w) (plain391 w _ _ _) (code391 w) ?_
  intro s av vs T H r
  obtain ⟨v, rfl, r1⟩ := one r
  exact ⟨_, kp_binds T.kin (fun S => bind391d w S v), v, _, rfl, r1, _, _, rfl, ⟨_, rfl⟩, _, _, rfl, rfl, rfl⟩
theorem rv_pre (l : List Nat) (hf : l.length < 1000000) {S₀ : Shared} {av : List Addr} {A : Around} {L : Addr} (R : Room A 5) :
    SX ⟨prog, w, KK w, mg, mb, S₀, av, A, callEnv (fdAt w 391) L 391⟩ (upd (upd (upd empty "unistr" (.d (.str (Sx l)))) "start" (.d (.int 0))) "end" (.d .none)) ((bodyOf 32).take 7)
      fun fd σ => (fd = .ret .none ∧ l = []) ∨ (fd = .next ∧ Look σ "unistr" (.d (.str (Sx l))) ∧ Look σ "start" (.d (.int 0)) ∧ Look σ "pos" (.d (.int l.length)) ∧ l ≠ []) := by
  show SX _ _ [_, _, _, _, _, _, _] _
  walk_at "g s"
  refine' SX.if1 (SB.not (SB.ofStr (hv := ?a4) ?a2 ?a3)) (fun h => ?b1) (fun h => ?b2)
  case a2 => walk_at "g e"
  case a3 => rw [Sx_len]; omega
  case a4 => with_unfolding_all (intro _; rfl)
  case b1 =>
    refine SX.ret0 (.inl ⟨rfl, ?_⟩)
    rw [Sx_len] at h
    simpa using h
  have hl : l ≠ [] := by
    rintro rfl
    exact absurd h (by decide)
  have hl' : 0 < l.length := List.length_pos_iff.mpr hl
  walk_at "g s"
  refine' SX.assign (d := .int l.length) (hs := ?v1) (SE.ifExp (b := true) ?v2 (fun _ => ?v3) (fun h => ?v4)) ?v5 ?v6
  case v1 => with_unfolding_all rfl
  case v2 => walk_at "g t"
  case v3 => walk_at "g e"
  case v4 => cases h
  case v5 => kernel_rfl
  walk_at "g s"
  rw [show (if (0 : Int) > 0 then (0 : Int) else 0) = 0 from rfl]
  refine' SX.if1 ?c1 (fun h => ?c2) (fun h => ?c3)
  case c1 => walk_at "g t"
  case c2 =>
    exfalso
    simp at h
    exact hl h
  walk_at "g s"
  exact SX.nil (.inr ⟨rfl, by walk_at "g look", by walk_at "g look", by walk_at "g look", hl⟩)
/-- what holds ahead of a turn, with n clusters still to come -/
def rvI (l : List Nat) (vals : List Str) (m : Nat) (σ : Sto) (n : Nat) : Prop :=
  ∃ p : Int, Look σ "unistr" (.d (.str (Sx l))) ∧ Look σ "start" (.d (.int 0)) ∧ Look σ "pos" (.d (.int p)) ∧ 0 ≤ p ∧ p ≤ l.length ∧ p ≤ m ∧
    n ≤ vals.length ∧ (rvGo l m p).map (slx l) = vals.drop (vals.length - n)
theorem rv_run (l : List Nat) (hf : l.length < 1000000) (hno : ∀ k : Int, 2 ≤ k → k ≤ l.length → at_ l (k - 1) < 128 → 32 ≤ at_ l (k - 1) → gcb (at_ l (k - 2)) ≠ 7)
    {S₀ : Shared} {av own : List Addr} {A : Around} {L Sl : Addr} {s : Shared} {o : Obj} (RA : Room A 6)
    (G : Good (KK w) mg mb S₀ av own (callEnv (fdAt w 391) L 391) (upd (upd (upd empty "unistr" (.d (.str (Sx l)))) "start" (.d (.int 0))) "end" (.d .none)) s)
    (hav : Sl ∈ av) (hm : ¬ Mut (callEnv (fdAt w 391) L 391) (upd (upd (upd empty "unistr" (.d (.str (Sx l)))) "start" (.d (.int 0))) "end" (.d .none)) Sl) (hS : S₀.heap.get? Sl = none) (hso : s.heap.get? Sl = some o) {R : GenEnd} :
    SY Sl (model prog w) A R (YP Sl (WG (KK w) mg mb (callEnv (fdAt w 391) L 391) S₀ Sl) (VG ((rvParts l).map (slx l)))) (.func (bodyOf 32) (callEnv (fdAt w 391) L 391)) [] (execs (bodyOf 32) (callEnv (fdAt w 391) L 391)) ((rvParts l).map (slx l)).length o s
      (fun f n' o' s' => (f = .next ∨ f = .ret .none) ∧ n' = 0 ∧ s'.heap.get? Sl = some o' ∧ ∃ own' σ', Good (KK w) mg mb S₀ av own' (callEnv (fdAt w 391) L 391) σ' s' ∧ ¬ Mut (callEnv (fdAt w 391) L 391) σ' Sl) := by
  have R5 : Room (A.over (.func (bodyOf 32) (callEnv (fdAt w 391) L 391)) []) 5 := room_func RA _ _
  let c : Cx := ⟨prog, w, KK w, mg, mb, S₀, av, A.over (.func (bodyOf 32) (callEnv (fdAt w 391) L 391)) [], callEnv (fdAt w 391) L 391⟩
  have e : execs (bodyOf 32) (callEnv (fdAt w 391) L 391) = execs ((bodyOf 32).take 7 ++ (bodyOf 32).drop 7) (callEnv (fdAt w 391) L 391) := by rw [List.take_append_drop]
  rw [e]
  refine SY.pre (c := c) (fun S₁ => rv_pre l hf (R5.le (by decide))) G hm hso ?_
  rintro fd σ own₁ s₁ fl hp G₁ ho₁ hm₁ hfr
  rcases hp with ⟨rfl, hnil⟩ | ⟨rfl, s1, s2, s3, hl⟩
  · obtain ⟨v, rfl, r⟩ := hfr
    obtain rfl := r
    refine ⟨.inr rfl, ?_, ho₁, own₁, σ, G₁, hm₁⟩
    subst hnil; rfl
  generalize hvals : (rvParts l).map (slx l) = vals
  show SY Sl (model prog w) A R _ _ [] (execs [_] _) _ _ _ _
  refine SY.execs_cons ?_
  refine SY.while_ (Sl := Sl) (A := A) 5 RA (fun m n o s => ∃ own σ, Good (KK w) mg mb S₀ av own (callEnv (fdAt w 391) L 391) σ s ∧ ¬ Mut (callEnv (fdAt w 391) L 391) σ Sl ∧ s.heap.get? Sl = some o ∧ rvI l vals m σ n) l.length ?i1 ?i2
  case i1 =>
    refine ⟨own₁, σ, G₁, hm₁, ho₁, l.length, s1, s2, s3, by omega, by omega, by omega, Nat.le_refl _, ?_⟩
    rw [Nat.sub_self, List.drop_zero, ← hvals]; rfl
  rintro m n₂ o₂ s₂ c' fs' ⟨own₂, σ₂, G₂, hm₂, ho₂, p, t1, t2, t3, p0, p1, p2, hn, hv⟩ hfs hfg RL
  have RL5 : Room (A.over c' fs') 5 := RL
  refine (?_ : SB { c with A := A.over c' fs' } σ₂ _ (decide (p > 0))) own₂ s₂ _ _ G₂ fun s₃ x₃ => ?_
  · refine' SB.cmp (hm := ?k4) ?k1 ?k2 ?k3
    case k4 => with_unfolding_all rfl
    case k1 => walk_at "g e"
    case k2 => walk_at "g e"
    case k3 => exact CmpOK.gtI
  have G₃ : c.G own₂ σ₂ s₃ := G₂.ext x₃
  have ho₃ : s₃.heap.get? Sl = some o₂ := x₃.keep _ _ ho₂
  by_cases hp : p > 0
  · rw [if_pos (by simpa using hp)]
    obtain ⟨m', rfl⟩ : ∃ m', m = m' + 1 := ⟨m - 1, by omega⟩
    have hv' : (slx l (fcs l p, p)) :: (rvGo l m' (fcs l p)).map (slx l) = vals.drop (vals.length - n₂) := by
      rw [← hv]
      rw [rvGo_succ, if_pos hp]; rfl
    obtain ⟨k, rfl, hx, hrest⟩ := drop_cons hn hv'
    obtain ⟨f0, f1⟩ := fcs_range l p hp
    have hno' : 2 ≤ p → at_ l (p - 1) < 128 → 32 ≤ at_ l (p - 1) → Mine.gcb (at_ l (p - 2)) ≠ 7 := fun h => hno p h p1
    show SY Sl _ A R _ c' fs' (execs ([_, _] ++ [_, _]) _) _ _ _ _
    refine SY.pre (c := c) (σ := σ₂) (P := fun fd σ => fd = .next ∧ Look σ "unistr" (.d (.str (Sx l))) ∧ Look σ "start" (.d (.int 0)) ∧ Look σ "pos" (.d (.int p)) ∧ Look σ "cluster_start" (.d (.int (fcs l p)))) (fun S₂ => ?u1) G₃ hm₂ ho₃ ?u2
    case u1 =>
      have hp' : 0 < p := hp
      walk_at "g s"
      refine' SX.if1 ?v1 (fun h => ?v2) (fun h => ?v3)
      case v1 => walk_at "g t"
      case v2 =>
        exfalso
        simp only [decide_eq_true_eq] at h
        omega
      exact SX.nil ⟨rfl, by walk_at "g look", by walk_at "g look", by walk_at "g look", by walk_at "g look"⟩
    rintro fd σ₃ own₃ s₄ fl ⟨rfl, q1, q2, q3, q4⟩ G₄ ho₄ hm₄ hfr
    show SY Sl _ A R _ c' fs' (execs [_, _] _) _ _ _ _
    refine SY.execs_cons ?_
    refine SY.yieldE (c := c) hfs hfg ?yy1 ?yy2 (SE.sliceS (SE.name q1) (.some (SE.name q4)) (.some (SE.name q3)) (slx_len l (fcs l p, p) hf)) hx G₄ hav hm₄ hS (fun b o h => h) rfl rfl ho₄ (fun s₅ o₅ G₅ ho₅ => ?yy3)
    case yy1 => kernel_rfl
    case yy2 => with_unfolding_all rfl
    refine SY.exs (c := c) (σ := σ₃) (P := fun fd σ => fd = .next ∧ Look σ "unistr" (.d (.str (Sx l))) ∧ Look σ "start" (.d (.int 0)) ∧ Look σ "pos" (.d (.int (fcs l p)))) (fun S₂ => ?x3) G₅ hm₄ ho₅ ?x4
    case x3 =>
      walk_at "g s"
      exact SX.nil ⟨rfl, by walk_at "g look", by walk_at "g look", by walk_at "g look"⟩
    rintro fd σ₆ own₆ s₆ fl ⟨rfl, y1, y2, y3⟩ G₆ ho₆ hm₆ hfr
    cases hfr
    exact ⟨rfl, m', by omega, own₆, σ₆, G₆, hm₆, ho₆, fcs l p, y1, y2, y3, f0, by omega, by omega, by omega, hrest⟩
  · rw [if_neg (by simpa using hp)]
    refine SY.execs_nil ⟨.inl rfl, ?_, ho₃, own₂, σ₂, G₃, hm₂⟩
    have : rvGo l m p = [] := by
      cases m with
      | zero => rfl
      | succ m => rw [rvGo_succ, if_neg hp]
    rw [this] at hv
    have := congrArg List.length hv
    simp only [List.map_nil, List.length_nil, List.length_drop] at this
    omega
theorem rv_grun (l : List Nat) (hf : l.length < 1000000) (hno : ∀ k : Int, 2 ≤ k → k ≤ l.length → at_ l (k - 1) < 128 → 32 ≤ at_ l (k - 1) → gcb (at_ l (k - 2)) ≠ 7) :
    GRun prog w (KK w) mg mb 391 (fdAt w 391) (bodyOf 32) [(("unistr" : Str), .str (Sx l)), (("start" : Str), .int 0), (("end" : Str), .none)] ((rvParts l).map (slx l)) :=
  fun S₀ av own A L Sl s o R RA G hav hm hS ho => rv_run l hf hno RA G hav hm hS ho
end
theorem rvGo_len (l : List Nat) : ∀ (n : Nat) (p : Int), (rvGo l n p).length ≤ n
  | 0, _ => Nat.le_refl _
  | n + 1, p => by
    unfold rvGo
    split
    · have := rvGo_len l n (fcs l p)
      simp only [List.length_cons]; omega
    · simp
section
variable {c : Cx} {σ : Sto} (hK : c.K = KK c.w)
include hK
theorem se_listRv {p q pos pos' e} {l : List Nat} (R : Room c.A 12) (hl : bltOk c "list" (.type "list")) (hk : c.env.kindOf "iter_graphemes_reverse" = some .globalImplicit) (h1 : SE c σ e (.str (Sx l))) (hf : l.length < 900000)
    (hno : ∀ k : Int, 2 ≤ k → k ≤ l.length → at_ l (k - 1) < 128 → 32 ≤ at_ l (k - 1) → gcb (at_ l (k - 2)) ≠ 7)
    (hst : backTo pos (starEach [e] c.env) = [e].map (fun e => (false, eval e c.env))) (hst' : backTo pos' (starEach [.Call (.Name "iter_graphemes_reverse" p) [e] [] pos] c.env) = [(false, eval (.Call (.Name "iter_graphemes_reverse" p) [e] [] pos) c.env)]) :
    SE c σ (.Call (.Name "list" q) [.Call (.Name "iter_graphemes_reverse" p) [e] [] pos] [] pos') (.list (((rvParts l).map (slx l)).map D.str)) :=
  se_listGen hl (SE.glob hk (by rw [hK]; kernel_rfl : nsIn c.K mainGlobals "iter_graphemes_reverse" = some (some (.ref 391))) (by kernel_rfl)) (.cons h1 .nil) (by rw [hK]; exact look391 c.w) (data391 c.w) (by rw [hK]; exact rv_gfn1 l) (by rw [hK]; exact rv_grun l (by omega) hno) R (by
    rw [List.length_map]
    exact Nat.le_trans (rvGo_len ..) (by omega)) hst hst'
end
end Mine

open PySem PySem.W PyProof.Rows PySem.Calls
set_option Elab.async false
set_option linter.unusedVariables false
set_option linter.unusedSimpArgs false
set_option maxRecDepth 100000
namespace Mine
/-! ## what the law's own body needs besides -/
section
variable {c : Cx} {σ : Sto}
theorem preSum_ints {xs : Array (Int × Tok)} {ns : List Int} (h : IntsAre (intItems xs).toList ns) : preSum (numAt xs) xs.size = ns.sum := by
  have e1 : ns = xs.toList.map (·.1) := by
    rw [← nums_intItems]
    exact (show numsOf (intItems xs).toList = ns from h.numsOf).symm
  rw [preSum_eq, List.take_of_length_le (by simp), e1]
theorem BFn.sumI {ns : List Int} (hh : c.A.handled = none) : BFn c (.builtin "sum") [.list (ns.map D.int)] (.int ns.sum) := fun own s vs Q E T H r h => by
  obtain ⟨v, rfl, a, ws, rfl, hn, hl, hr⟩ := one r
  have hi := ints_of hr
  obtain ⟨xs, hx⟩ := hi.allInts.items
  have hx' : ws = intItems xs := by simpa using hx
  subst hx'
  refine sum_intListG hh hl fun h' tk t' hk => ?_
  rw [preSum_ints hi]
  exact h _ _ (.heap hk _) ⟨_, rfl⟩
theorem SE.sumI {p pos : Pos} {e : Expr} {ns : List Int} (hb : bltOk c "sum" (.builtin "sum")) (hs : plainArgs c [e]) (hh : c.A.handled = Option.none) (h : SE c σ e (.list (ns.map D.int))) : SE c σ (.Call (.Name "sum" p) [e] [] pos) (.int ns.sum) :=
  SE.callB (SE.bltName hb) (.cons h .nil) (BFn.sumI hh) (by intro a; simp) (hs _)
theorem Reps.reverse {h : Heap} {own : List Addr} : ∀ {l : List D} {vs : List Value}, Reps h own l vs → Reps h own l.reverse vs.reverse
  | [], _, r => by rw [r]; rfl
  | d :: l, _, ⟨v, r, e, h1, h2⟩ => by
    subst e
    rw [List.reverse_cons, List.reverse_cons]
    exact h2.reverse.append ⟨v, [], rfl, h1, rfl⟩
/-- e[::-1] -/
theorem SE.revSlice {v : Expr} {q q1 q2 pos : Pos} {l : List D} (hx : SE c σ v (.list l)) (hsz : l.length ≤ sizeLine)
    (hs : ∀ o u, subscripted (.Slice Option.none Option.none (some (.UnaryOp .USub (.Constant (.int 1) 0 q1) q2)) q) false o u = operate [o, u] (getItem o u) := by intro _ _; rfl) :
    SE c σ (.Subscript v (.Slice Option.none Option.none (some (.UnaryOp .USub (.Constant (.int 1) 0 q1) q2)) q) pos) (.list l.reverse) := fun own s Q E G h => by
  refine Subscript_ (hx own s _ _ G fun v s₁ x₁ r₁ => wpAny_Slice ?_)
  rw [evalPart_none, evalPart_some]
  refine wpAny_pure (wpAny_pure (SE.neg SE.int own s₁ _ _ (G.ext x₁) fun k s₂ x₂ r₂ => ?_))
  obtain ⟨t, rfl⟩ := r₂
  obtain ⟨a, vs, rfl, hn, hL, hR⟩ := r₁.grow x₂.keep
  have e : vs.size = l.length := by have := hR.length; simpa using this
  refine tail_any (hL.push _).typeIs list_getitem_lookup (wpAny_getItem_list_slice (hL.push _) (Heap.IsSliceOf.new ..) .none .none (.int _ _) (by simp) ?_ (by rw [e]; exact hsz)) (hs _ _)
  rw [krv_pick]
  have X := x₁.trans x₂
  have hk : Kp s₂.heap ((s₂.heap.push { cls := .type "slice", data := .fields #[.none, .none, .int (-1) t] }).push { cls := .type "list", data := .seq vs.toList.reverse.toArray }) := fun b o h => kp_push _ _ _ _ (kp_push _ _ _ _ h)
  have hnew := (((G.ext X).ext (Ext.heap (kp_push s₂.heap { cls := .type "slice", data := .fields #[.none, .none, .int (-1) t] }) s₂.toks))).hid.new
  refine h _ _ (X.trans (.heap hk s₂.toks)) ⟨_, _, rfl, hnew, ⟨_, Heap.get?_push_size _ rfl, rfl, 0, rfl⟩, ?_⟩
  exact Reps.grow (by simpa using hR.reverse) hk
/-- "".join(e) -/
theorem SE.joinL {sep : Str} {k : Nat} {q ap cp : Pos} {e : Expr} {ys : List Str} (he : SE c σ e (.list (ys.map D.str))) (hsep : sep.length ≤ 16) (hw : (ys.map (·.length)).sum + ys.length ≤ 1048576)
    (hbase : attributeBase (.Constant (.str sep) k q) "join" c.env (eval (.Constant (.str sep) k q) c.env) = eval (.Constant (.str sep) k q) c.env)
    (hline : (ap.endLine == cp.line) = true) (htrees : backTo cp (starEach [e] c.env) = [(false, eval e c.env)]) :
    SE c σ (.Call (.Attribute (.Constant (.str sep) k q) "join" ap) [e] [] cp) (.str (Txt.join sep ys)) := fun own s Q E G h => by
  refine wpAny_Call_method1_late hbase hline htrees (wpAny_Constant_str ⟨"str", "str.join", F.plainAttrs_str, F.slot_str_join, F.type_str_join, typeIs_str _ _ _, (fun _ e => nomatch e), ?_⟩)
  have x₀ := Ext.toks (s := s) (s.toks + 1)
  refine callWith_machine (by intro a; simp) rfl (Calls.evalArgs_plain (Calls.spliced_cons (he own _ _ _ (G.ext x₀) fun v s₁ x₁ r₁ => Calls.spliced_nil ?_)))
  obtain ⟨a, vs, rfl, hn, hL, hR⟩ := r₁
  exact join_listW hL (strs_of hR) hsep hw fun t' k' => h _ _ ((x₀.trans x₁).trans (.toks _)) ⟨_, rfl⟩
end
/-! the names of a comprehension, by a look -/
theorem lookup_of_all {f : Str → Option Addr} : ∀ {cl : List (Str × Addr)}, (∀ p ∈ cl, f p.1 = some p.2) → ∀ {y : Str} {a : Addr}, cl.lookup y = some a → f y = some a
  | [], _, y, a, h => by cases h
  | (k, b) :: cl, hp, y, a, h => by
    rw [List.lookup_cons] at h
    cases q : y == k with
    | true =>
      rw [q] at h
      cases h
      rw [beq_iff_eq.mp q]
      exact hp (k, _) (List.mem_cons_self ..)
    | false =>
      rw [q] at h
      exact lookup_of_all (fun p m => hp p (List.mem_cons_of_mem _ m)) h
theorem lookup_name {α : Type} : ∀ {l : List (Str × α)} {y : Str} {v : α}, l.lookup y = some v → (y, v) ∈ l
  | (k, b) :: l, y, v, h => by
    rw [List.lookup_cons] at h
    cases q : y == k with
    | true => rw [q] at h; cases h; rw [beq_iff_eq.mp q]; exact List.mem_cons_self ..
    | false => rw [q] at h; exact List.mem_cons_of_mem _ (lookup_name h)
/-- the looks -/
def innOk (c : Cx) (scope : Scope) (cl : List (Str × Addr)) (x : Str) : Bool :=
  scope.names.all (fun y => y.2 != .cell) && scope.kind == .function && scope.names.all (fun y => y.2 != .local || scope.names.lookup y.1 == some .local) && scope.names.lookup x == some .local &&
  (relabel scope c.env).names.all (fun y => !(y.2 == .cell || y.2 == .free) || ((c.env.kindOf y.1 == some .cell || c.env.kindOf y.1 == some .free) && (cl.map (·.1)).any (· == y.1)))
theorem lookup_has {α : Type} : ∀ {l : List (Str × α)} {y : Str}, (l.map (·.1)).any (· == y) = true → ∃ a, l.lookup y = some a
  | (k, b) :: l, y, h => by
    rw [List.lookup_cons]
    cases q : y == k with
    | true => exact ⟨b, rfl⟩
    | false =>
      rw [List.map_cons, List.any_cons] at h
      have : (k == y) = false := by
        rw [beq_eq_false_iff_ne] at q ⊢
        exact fun e => q e.symm
      rw [this] at h
      exact lookup_has h
theorem Inn.of {c : Cx} {scope : Scope} {cl : List (Str × Addr)} {x : Str} (hc : closureFor scope c.env = Pure.pure cl) (hs : ∀ p ∈ cl, c.env.cells.lookup p.1 = some p.2) (h : innOk c scope cl x = true) : Inn c scope cl x := by
  unfold innOk at h
  simp only [Bool.and_eq_true, List.all_eq_true, bne_iff_ne, ne_eq, beq_iff_eq, Bool.or_eq_true, Bool.not_eq_true', Bool.or_eq_false_iff, beq_eq_false_iff_ne] at h
  obtain ⟨⟨⟨⟨h1, h2⟩, h3⟩, h4⟩, h5⟩ := h
  refine { clos := hc, cell := h1, kind := h2, names := fun y hy e => ?_, var := h4, sub := fun y a h => lookup_of_all (f := fun y => c.env.cells.lookup y) hs h, kc := fun y C hk => ?_ }
  · rcases h3 y hy with q | q
    · exact absurd e q
    · exact q
  · have key : ∀ k, (compEnvC scope cl C c.env).kindOf y = some k → k = .cell ∨ k = .free → (c.env.kindOf y = some .cell ∨ c.env.kindOf y = some .free) ∧ ∃ a, cl.lookup y = some a := by
      intro k hk hkk
      have hm : (y, k) ∈ (relabel scope c.env).names := lookup_name hk
      rcases h5 _ hm with ⟨q1, q2⟩ | ⟨q1, q2⟩
      · rcases hkk with rfl | rfl
        · exact absurd rfl q1
        · exact absurd rfl q2
      · exact ⟨q1, lookup_has q2⟩
    rcases hk with hk | hk
    · exact key _ hk (.inl rfl)
    · exact key _ hk (.inr rfl)
end Mine

open PySem PySem.W PyProof.Rows PySem.Calls
set_option Elab.async false
set_option linter.unusedVariables false
set_option linter.unusedSimpArgs false
set_option maxRecDepth 100000
namespace Mine
/-! ## the law's own body -/
def parAt : Nat → List Stmt → Arguments
  | _, [] => default
  | 0, s :: _ => match s with | .FunctionDef _ ps .. => ps | _ => default
  | n + 1, _ :: l => parAt n l
def scAt : Nat → List Stmt → Scope
  | _, [] => default
  | 0, s :: _ => match s with | .FunctionDef (scope := sc) .. => sc | _ => default
  | n + 1, _ :: l => scAt n l
def lawFd (pm cd doc dV kV : Value) : FuncData := { docDef "law" (parAt 40 PySem.Challenge.pw_gb5027_01.main.body) (bodyOf 40) (scAt 40 PySem.Challenge.pw_gb5027_01.main.body) pm cd doc with defaults := dV, kwdefaults := kV }

abbrev ek (es : List Int) (k : Int) : Int := es.getD k.toNat 0
def due (l : List Nat) (es : List Int) : List Str := (iot 0 (es.length - 1)).map fun k => slx l (ek es k, ek es (k + 1))
def dueF (l : List Nat) (f : Int) (es : List Int) : List Str := (iot 0 (es.length - 1)).map fun k => slx l (f + ek es k, f + ek es (k + 1))
def fstOf (ns : List Int) (n : Nat) : Int := ((ns.map fun c => (if c < 0 then -c else c).fmod 7).sum).fmod ((n : Int) + 1)
def lstOf (ns : List Int) (n : Nat) : Int := fstOf ns n + ((ns.length : Int) * 5).fmod ((n : Int) + 2 - fstOf ns n)
def nearOf (es : List Int) (p : Int) : Int := (es.filter fun e => decide (e < p)).getLastD 0

section
variable {c : Cx} {σ : Sto}
theorem SE.eAt {v i pos} {es : List Int} {k : Int} (hx : SE c σ v (.list (es.map D.int))) (hi : SE c σ i (.int k)) (h0 : 0 ≤ k) (h1 : k < es.length) (hf : es.length < 1000000)
    (hsub : ∀ o u, subscripted i false o u = operate [o, u] (getItem o u) := by intro _ _; rfl) : SE c σ (.Subscript v i pos) (.int (ek es k)) := by
  have hk : k.toNat < es.length := by omega
  refine SE.itemL (k := k) (j := k.toNat) hx hi ?_ ?_ ?_ hsub
  · rw [List.length_map]; exact seq_ok h0 h1
  · rw [List.getElem?_map, List.getElem?_eq_getElem hk, ek, List.getD_eq_getElem?_getD, List.getElem?_eq_getElem hk]; rfl
  · rw [List.length_map]; omega
theorem slx_fits (l : List Nat) (p : Int × Int) (h : l.length < 1000000) : (StrLaws.sliceText (Sx l) (some p.1) (some p.2)).length ≤ sizeLine := slx_len l p h
theorem SE.cut {x : Str} {p p1 p2 p3 p4 p5 q1 q2 q3 q4 q5 : Pos} {l : List Nat} {es : List Int} {i : Int} (hx : Look σ x (.d (.str (Sx l)))) (he : Look σ "ends" (.d (.list (es.map D.int)))) (hk : Look σ "k" (.d (.int i)))
    (h0 : 0 ≤ i) (h1 : i + 1 < es.length) (hf : l.length < 1000000) (hf' : es.length < 1000000) :
    SE c σ (.Subscript (.Name x p) (.Slice (some (.Subscript (.Name "ends" p1) (.Name "k" p2) q1)) (some (.Subscript (.Name "ends" p3) (.BinOp (.Name "k" p4) .Add (.Constant (.int 1) 0 p5) q2) q3)) Option.none q4) q5) (.str (slx l (ek es i, ek es (i + 1)))) :=
  SE.sliceS (SE.name hx) (.some (SE.eAt (SE.name he) (SE.name hk) h0 (by omega) hf')) (.some (SE.eAt (SE.name he) (SE.bin (SE.name hk) SE.int BinOK.addI) (by omega) h1 hf')) (slx_len l (_, _) hf)
theorem SE.cutF {x : Str} {p p1 p2 p3 p4 p5 p6 p7 q1 q2 q3 q4 q5 q6 q7 : Pos} {l : List Nat} {es : List Int} {i f : Int} (hx : Look σ x (.d (.str (Sx l)))) (he : Look σ "ends" (.d (.list (es.map D.int)))) (hk : Look σ "k" (.d (.int i))) (hF : Look σ "first" (.d (.int f)))
    (h0 : 0 ≤ i) (h1 : i + 1 < es.length) (hf : l.length < 1000000) (hf' : es.length < 1000000) :
    SE c σ (.Subscript (.Name x p) (.Slice (some (.BinOp (.Name "first" p6) .Add (.Subscript (.Name "ends" p1) (.Name "k" p2) q1) q6)) (some (.BinOp (.Name "first" p7) .Add (.Subscript (.Name "ends" p3) (.BinOp (.Name "k" p4) .Add (.Constant (.int 1) 0 p5) q2) q3) q7)) Option.none q4) q5) (.str (slx l (f + ek es i, f + ek es (i + 1)))) :=
  SE.sliceS (SE.name hx) (.some (SE.bin (SE.name hF) (SE.eAt (SE.name he) (SE.name hk) h0 (by omega) hf') BinOK.addI)) (.some (SE.bin (SE.name hF) (SE.eAt (SE.name he) (SE.bin (SE.name hk) SE.int BinOK.addI) (by omega) h1 hf') BinOK.addI)) (slx_len l (_, _) hf)
end
section
variable {c : Cx} {σ : Sto} (hK : c.K = KK c.w)
include hK
theorem SE.lawText {p pos : Pos} {e : Expr} {ns : List Int} (R : Room c.A 2) (hk : c.env.kindOf "_law_text" = some .globalImplicit) (hs : plainArgs c [e]) (h : SE c σ e (.list (ns.map D.int))) (hf : ns.length < 1000000) :
    SE c σ (.Call (.Name "_law_text" p) [e] [] pos) (.tup [.str (Sx (textOf ns).1), .list ((textOf ns).2.map D.str)]) :=
  SE.call (SE.glob hk (by rw [hK]; kernel_rfl : nsIn c.K mainGlobals "_law_text" = some (some (.ref 405))) (by kernel_rfl)) (.cons h .nil) (by rw [hK]; exact look405 c.w) (data405 c.w) (by rw [hK]; exact text_fn ns hf) R (hs _)
theorem SE.lawEnds {p pos : Pos} {e : Expr} {ks : List Str} (R : Room c.A 3) (hk : c.env.kindOf "_law_ends" = some .globalImplicit) (hs : plainArgs c [e]) (h : SE c σ e (.list (ks.map D.str))) (hf : ks.length < 900000) :
    SE c σ (.Call (.Name "_law_ends" p) [e] [] pos) (.list ((lends ks).map D.int)) :=
  SE.call (SE.glob hk (by rw [hK]; kernel_rfl : nsIn c.K mainGlobals "_law_ends" = some (some (.ref 433))) (by kernel_rfl)) (.cons h .nil) (by rw [hK]; exact look433 c.w) (data433 c.w) (by rw [hK]; exact lends_fn ks hf) R (hs _)
theorem SE.gbb {p pos : Pos} {e1 e2 : Expr} {l : List Nat} {k : Int} (R : Room c.A 6) (hk : c.env.kindOf "grapheme_boundary_before" = some .globalImplicit) (hs : plainArgs c [e1, e2]) (h1 : SE c σ e1 (.str (Sx l))) (h2 : SE c σ e2 (.int k)) (hf : l.length < 1000000)
    (hno : ∀ k : Int, 2 ≤ k → k ≤ l.length → at_ l (k - 1) < 128 → 32 ≤ at_ l (k - 1) → Mine.gcb (at_ l (k - 2)) ≠ 7) :
    SE c σ (.Call (.Name "grapheme_boundary_before" p) [e1, e2] [] pos) (.int (Mine.gbb l k)) :=
  SE.call (SE.glob hk (by rw [hK]; kernel_rfl : nsIn c.K mainGlobals "grapheme_boundary_before" = some (some (.ref 383))) (by kernel_rfl)) (.cons h1 (.cons h2 .nil)) (by rw [hK]; exact look383 c.w) (data383 c.w) (by rw [hK]; exact gbb_fn l k hf hno) R (hs _)
end
theorem lendsGo_len (ks : List Str) : ∀ (n : Nat) (l : List Int), l.length ≤ (lendsGo ks n l).length ∧ (lendsGo ks n l).length ≤ l.length + n
  | 0, l => ⟨Nat.le_refl _, Nat.le_refl _⟩
  | n + 1, l => by
    unfold lendsGo
    split
    · have := lendsGo_len ks n (l ++ [lend ks (l.getLastD 0)])
      simp only [List.length_append, List.length_cons, List.length_nil] at this
      omega
    · omega
theorem lends_len (ks : List Str) : 1 ≤ (lends ks).length ∧ (lends ks).length ≤ ks.length + 2 := by
  have := lendsGo_len ks (ks.length + 1) [0]
  unfold lends
  simp only [List.length_cons, List.length_nil] at this
  omega
end Mine

open PySem PySem.W PyProof.Rows PySem.Calls
set_option Elab.async false
set_option linter.unusedVariables false
set_option linter.unusedSimpArgs false
set_option maxRecDepth 100000
namespace Mine
local macro_rules | `(tactic| walk_at "l look") => `(tactic| (repeat' (first | with_reducible assumption | with_reducible exact Look.here | (with_reducible refine' Look.there ?_ ?_; kernel_rfl))))
local macro_rules | `(tactic| walk_at "l blt") => `(tactic| (refine' bltOk.mk' ?_ ?_ ?_ ?_ ?_ <;> kernel_rfl))
local macro_rules | `(tactic| walk_at "l room") => `(tactic| first | with_reducible assumption | exact Room.le (by assumption) (by decide))
local macro_rules | `(tactic| walk_at "l han") => `(tactic| exact Room.handled (by assumption))
local macro_rules | `(tactic| walk_at "l side") => `(tactic| first | with_reducible assumption | omega)
local macro_rules | `(tactic| walk_at "l args") => `(tactic| with_unfolding_all (intro _; rfl))
local macro_rules | `(tactic| walk_at "l e") => `(tactic| with_reducible first
  | exact SE.int | exact SE.str | exact SE.bool
  | (refine' SE.name ?k1; (case k1 => walk_at "l look"))
  | (refine' SE.bin ?k1 ?k2 ?k3; (case k1 => walk_at "l e"); (case k2 => walk_at "l e"); (case k3 => first | exact BinOK.addI | exact BinOK.subI))
  | (refine' SE.lenX ?k1 ?k2 ?k3 ?k4; (case k1 => walk_at "l blt"); (case k2 => walk_at "l args"); (case k3 => walk_at "l e"); (case k4 => walk_at "l side"))
  | (refine' SE.lenI ?k1 ?k2 ?k3 ?k4; (case k1 => walk_at "l blt"); (case k2 => walk_at "l args"); (case k3 => walk_at "l e"); (case k4 => walk_at "l side"))
  | (refine' SE.range1 ?k1 ?k2 ?k3; (case k1 => walk_at "l blt"); (case k2 => walk_at "l args"); (case k3 => walk_at "l e"))
  | (refine' SE.min2 ?k1 ?k2 ?k5 ?k3 ?k4; (case k1 => walk_at "l blt"); (case k2 => walk_at "l args"); (case k5 => walk_at "l han"); (case k3 => walk_at "l e"); (case k4 => walk_at "l e"))
  | (refine' SE.abs ?k1 ?k2 ?k3; (case k1 => walk_at "l blt"); (case k2 => walk_at "l args"); (case k3 => walk_at "l e"))
  | fail "l e")
theorem fil_true {α : Type} (l : List α) : l.filter (fun _ => true) = l := List.filter_eq_self.mpr fun _ _ => rfl
theorem iot_of (n : Nat) (h : 1 ≤ n) : iot 0 ((n : Int) - 1 - 0).toNat = iot 0 (n - 1) := by rw [show ((n : Int) - 1 - 0).toNat = n - 1 from by omega]
section
variable {c : Cx} {σ : Sto}
theorem SE.lastI {v q1 q2 pos} {es : List Int} (hx : SE c σ v (.list (es.map D.int))) (hne : es ≠ []) (hf : es.length < 1000000)
    (hsub : ∀ o u, subscripted (.UnaryOp .USub (.Constant (.int 1) 0 q1) q2) false o u = operate [o, u] (getItem o u) := by intro _ _; rfl) : SE c σ (.Subscript v (.UnaryOp .USub (.Constant (.int 1) 0 q1) q2) pos) (.int (es.getLastD 0)) := by
  have hl : 0 < es.length := List.length_pos_iff.mpr hne
  refine SE.itemL (k := -1) (j := es.length - 1) hx (SE.neg SE.int) ?_ ?_ ?_ hsub
  · rw [List.length_map, seq_neg (by omega) (by omega)]; congr 1; omega
  · rw [List.getElem?_map, List.getLastD_eq_getLast?, List.getLast?_eq_getElem?, List.getElem?_eq_getElem (by omega)]; rfl
  · rw [List.length_map]; omega
end
/-- what the plain law says -/
structure LawOK (ns : List Int) (l : List Nat) (ks : List Str) : Prop where
  len : l.length = ks.length
  short : l.length ≤ 16
  text : textOf ns = (l, ks)
  hno : ∀ k : Int, 2 ≤ k → k ≤ (l.take 6).length → at_ (l.take 6) (k - 1) < 128 → 32 ≤ at_ (l.take 6) (k - 1) → gcb (at_ (l.take 6) (k - 2)) ≠ 7
  e1 : (igParts l 0 none).map (slx l) = due l (lends ks)
  e2 : (igParts l (fstOf ns l.length) (some (lstOf ns l.length))).map (slx l) = dueF l (fstOf ns l.length) (lends (sl ks (some (fstOf ns l.length)) (some (lstOf ns l.length))))
  e3 : (rvParts (l.take 6)).map (slx (l.take 6)) = (due (l.take 6) (lends (ks.take 6))).reverse
  e4 : ∀ p : Int, gbb (l.take 6) p = nearOf (lends (ks.take 6)) (if ((l.take 6).length : Int) < p then ((l.take 6).length : Int) else p)
  e5 : Txt.join "" (due l (lends ks)) = Sx l
theorem slice_take (l : List Nat) (n : Nat) : StrLaws.sliceText (Sx l) Option.none (some (n : Int)) = Sx (l.take n) := by
  rcases Nat.le_total n l.length with h | h
  · rw [StrLaws.sliceText_to ⟨by omega, by simp; omega⟩]
    simp
  · have e : StrLaws.sliceText (Sx l) Option.none (some (n : Int)) = StrLaws.sliceText (Sx l) Option.none (some (l.length : Int)) := by
      unfold StrLaws.sliceText
      have : ∀ m : Int, (l.length : Int) ≤ m → Builtin.Str.strSliceIndices Option.none (some m) 1 (Sx l).length = Builtin.Str.strSliceIndices Option.none (some (l.length : Int)) 1 (Sx l).length := fun m hm => by
        have h1 : ¬ m < 0 := by omega
        have h2 : ¬ (l.length : Int) < 0 := by omega
        rw [Sx_len]
        simp only [Builtin.Str.strSliceIndices, h1, h2]
        have e1 : min m (l.length : Int) = (l.length : Int) := by omega
        have e2 : min (l.length : Int) (l.length : Int) = (l.length : Int) := by omega
        simp [e1]
      rw [this _ (by omega)]
    rw [e, StrLaws.sliceText_to ⟨by omega, by simp⟩, List.take_of_length_le h]
    simp
section
variable {prog : Program} {w : World} {mg mb : Str → Option Value} {pm cd doc dV kV : Value} {S₀ : Shared} {av : List Addr} {A : Around} {L a : Addr}
noncomputable abbrev lawC (prog : Program) (w : World) (mg mb : Str → Option Value) (pm cd doc dV kV : Value) (S₀ : Shared) (av : List Addr) (A : Around) (L a : Addr) : Cx := ⟨prog, w, KK w, mg, mb, S₀, av, A, callEnvC (lawFd pm cd doc dV kV) L a⟩
abbrev lawP : FD → Sto → Prop := fun fd _ => fd = .ret (.bool true)
/-- a comprehension's cells -/
def clOf (e : Env) (l : List Str) : List (Str × Addr) := l.map fun y => (y, (e.cells.lookup y).getD 0)
/-- the signs and the first comparison -/
theorem law_1 (ns : List Int) (l : List Nat) (ks : List Str) (H : LawOK ns l ks) (hns : ns.length ≤ 63) (R : Room A 12)
    (next : ∀ σ, Look σ "script" (.d (.list (ns.map D.int))) → Look σ "text" (.d (.str (Sx l))) → Look σ "kinds" (.d (.list (ks.map D.str))) → Look σ "due" (.d (.list ((due l (lends ks)).map D.str))) →
      SX (lawC prog w mg mb pm cd doc dV kV S₀ av A L a) σ ((bodyOf 40).drop 4) lawP) :
    SX (lawC prog w mg mb pm cd doc dV kV S₀ av A L a) (upd empty "script" (.d (.list (ns.map D.int)))) (bodyOf 40) lawP := by
  have hl := H.short
  have hks : ks.length ≤ 16 := by rw [← H.len]; exact hl
  have hel := lends_len ks
  show SX _ _ (Stmt.Assign _ _ _ :: _) _
  refine' SX.assign2 (hs := ?a1) (hw := ?a2) (d := .str (Sx l)) (d' := .list (ks.map D.str)) ?a3 ?a4 ?a5 ?a6 ?a7
  case a1 => with_unfolding_all rfl
  case a2 => with_unfolding_all rfl
  case a3 =>
    have e1 : l = (textOf ns).1 := by rw [H.text]
    have e2 : ks = (textOf ns).2 := by rw [H.text]
    rw [e1, e2]
    refine SE.lawText rfl (R.le (by decide)) (by kernel_rfl) (by walk_at "l args") (by walk_at "l e") (by omega)
  case a4 => exact R.le (by decide)
  case a5 => kernel_rfl
  case a6 => kernel_rfl
  show SX _ _ (Stmt.Assign _ _ _ :: _) _
  refine' SX.assign (hs := ?b1) (SE.lawEnds rfl (R.le (by decide)) (by kernel_rfl) (by walk_at "l args") ?b2 (ks := ks) (by omega)) ?b3 ?b4
  case b1 => with_unfolding_all rfl
  case b2 => walk_at "l e"
  case b3 => kernel_rfl
  show SX _ _ (Stmt.Assign _ _ _ :: _) _
  refine' SX.assignComp (cl := clOf (callEnvC (lawFd pm cd doc dV kV) L a) ["text", "ends"]) (l := iot 0 ((lends ks).length - 1)) (fun k => .str (slx l (ek (lends ks) k, ek (lends ks) (k + 1)))) (fun _ => true) (hs := ?c1) ?c2 (Inn.of ?c3 ?c4 ?c5) ?c6 ?c7 ?c8 ?c9 ?c10 ?c11 ?c12 ?c13 ?c14 ?c15
  case c1 => with_unfolding_all (intro _; rfl)
  case c2 => with_unfolding_all rfl
  case c3 => with_unfolding_all rfl
  case c4 => 
    intro p hp
    simp only [clOf, List.map_cons, List.map_nil, List.mem_cons, List.not_mem_nil, or_false] at hp
    rcases hp with rfl | rfl <;> with_unfolding_all rfl
  case c5 => kernel_rfl
  case c6 => kernel_rfl
  case c7 => kernel_rfl
  case c8 => rw [iot_len]; omega
  case c9 =>
    rw [← iot_of _ hel.1]
    exact SI.range (by walk_at "l e") (R.le (by decide)) (by omega) (by omega) (by omega) (by omega)
  case c10 => intro C i σ' _ _ _; rfl
  case c11 =>
    intro C i σ' hi _ hk hfr
    have hi' := iot_mem hi
    exact SE.cut (hfr _ _ (by exact .inl (by kernel_rfl)) (by walk_at "l look")) (hfr _ _ (by exact .inl (by kernel_rfl)) (by walk_at "l look")) hk (by omega) (by omega) (by omega) (by omega)
  case c12 => kernel_rfl
  case c13 => kernel_rfl
  case c14 => kernel_rfl
  rw [fil_true, show (iot 0 ((lends ks).length - 1)).map (fun k => D.str (slx l (ek (lends ks) k, ek (lends ks) (k + 1)))) = (due l (lends ks)).map D.str from by unfold due; rw [List.map_map]; rfl]
  show SX _ _ (Stmt.If _ _ _ _ :: _) _
  refine' SX.if1 (b := ((igParts l 0 Option.none).map (slx l)) != due l (lends ks)) (SB.cmp (hm := ?d1) (se_listIG1 rfl R ?d2 ?d3 ?d4 ?d5 ?d6 ?d7) ?d8 (CmpOK.neL rfl rfl (R.le (by decide)))) (fun h => ?d9) (fun h => ?d10)
  case d1 => with_unfolding_all rfl
  case d2 => walk_at "l blt"
  case d3 => kernel_rfl
  case d4 => walk_at "l e"
  case d5 => omega
  case d6 => with_unfolding_all rfl
  case d7 => with_unfolding_all rfl
  case d8 => walk_at "l e"
  case d9 => rw [H.e1] at h; simp at h
  exact next _ (by walk_at "l look") (by walk_at "l look") (by walk_at "l look") (by walk_at "l look")
end
end Mine

open PySem PySem.W PyProof.Rows PySem.Calls
set_option Elab.async false
set_option linter.unusedVariables false
set_option linter.unusedSimpArgs false
set_option maxRecDepth 100000
namespace Mine
local macro_rules | `(tactic| walk_at "l look") => `(tactic| (repeat' (first | with_reducible assumption | with_reducible exact Look.here | (with_reducible refine' Look.there ?_ ?_; kernel_rfl))))
local macro_rules | `(tactic| walk_at "l blt") => `(tactic| (refine' bltOk.mk' ?_ ?_ ?_ ?_ ?_ <;> kernel_rfl))
local macro_rules | `(tactic| walk_at "l room") => `(tactic| first | with_reducible assumption | exact Room.le (by assumption) (by decide))
local macro_rules | `(tactic| walk_at "l han") => `(tactic| exact Room.handled (by assumption))
local macro_rules | `(tactic| walk_at "l side") => `(tactic| first | with_reducible assumption | omega)
local macro_rules | `(tactic| walk_at "l args") => `(tactic| with_unfolding_all (intro _; rfl))
local macro_rules | `(tactic| walk_at "l e") => `(tactic| with_reducible first
  | exact SE.int | exact SE.str | exact SE.bool
  | (refine' SE.name ?k1; (case k1 => walk_at "l look"))
  | (refine' SE.bin ?k1 ?k2 ?k3; (case k1 => walk_at "l e"); (case k2 => walk_at "l e"); (case k3 => first | exact BinOK.addI | exact BinOK.subI))
  | (refine' SE.lenX ?k1 ?k2 ?k3 ?k4; (case k1 => walk_at "l blt"); (case k2 => walk_at "l args"); (case k3 => walk_at "l e"); (case k4 => walk_at "l side"))
  | (refine' SE.lenI ?k1 ?k2 ?k3 ?k4; (case k1 => walk_at "l blt"); (case k2 => walk_at "l args"); (case k3 => walk_at "l e"); (case k4 => walk_at "l side"))
  | (refine' SE.range1 ?k1 ?k2 ?k3; (case k1 => walk_at "l blt"); (case k2 => walk_at "l args"); (case k3 => walk_at "l e"))
  | (refine' SE.min2 ?k1 ?k2 ?k5 ?k3 ?k4; (case k1 => walk_at "l blt"); (case k2 => walk_at "l args"); (case k5 => walk_at "l han"); (case k3 => walk_at "l e"); (case k4 => walk_at "l e"))
  | (refine' SE.abs ?k1 ?k2 ?k3; (case k1 => walk_at "l blt"); (case k2 => walk_at "l args"); (case k3 => walk_at "l e"))
  | fail "l e")
theorem fmod_range (a b : Int) (h : 0 < b) : 0 ≤ a.fmod b ∧ a.fmod b < b := by
  rw [Int.fmod_eq_emod_of_nonneg _ (by omega)]
  exact ⟨Int.emod_nonneg _ (by omega), Int.emod_lt_of_pos _ h⟩
theorem fst_range (ns : List Int) (n : Nat) : 0 ≤ fstOf ns n ∧ fstOf ns n ≤ n := by
  have := fmod_range ((ns.map fun c => (if c < 0 then -c else c).fmod 7).sum) ((n : Int) + 1) (by omega)
  unfold fstOf
  omega
theorem lst_range (ns : List Int) (n : Nat) : fstOf ns n ≤ lstOf ns n ∧ lstOf ns n ≤ n + 1 := by
  have h := fst_range ns n
  have := fmod_range ((ns.length : Int) * 5) ((n : Int) + 2 - fstOf ns n) (by omega)
  unfold lstOf
  omega
section
variable {prog : Program} {w : World} {mg mb : Str → Option Value} {pm cd doc dV kV : Value} {S₀ : Shared} {av : List Addr} {A : Around} {L a : Addr}
/-- the stretch -/
theorem law_2 (ns : List Int) (l : List Nat) (ks : List Str) (H : LawOK ns l ks) (hns : ns.length ≤ 63) (R : Room A 12) (σ : Sto)
    (z1 : Look σ "script" (.d (.list (ns.map D.int)))) (z2 : Look σ "text" (.d (.str (Sx l)))) (z3 : Look σ "kinds" (.d (.list (ks.map D.str)))) (z4 : Look σ "due" (.d (.list ((due l (lends ks)).map D.str))))
    (next : ∀ σ, Look σ "text" (.d (.str (Sx l))) → Look σ "kinds" (.d (.list (ks.map D.str))) → Look σ "due" (.d (.list ((due l (lends ks)).map D.str))) →
      SX (lawC prog w mg mb pm cd doc dV kV S₀ av A L a) σ ((bodyOf 40).drop 9) lawP) :
    SX (lawC prog w mg mb pm cd doc dV kV S₀ av A L a) σ ((bodyOf 40).drop 4) lawP := by
  have hl := H.short
  have hks : ks.length ≤ 16 := by rw [← H.len]; exact hl
  have hF := fst_range ns l.length
  have hT := lst_range ns l.length
  show SX _ _ (Stmt.Assign _ _ _ :: _) _
  refine' SX.assign (d := .int (fstOf ns l.length)) (hs := ?a1) (SE.bin (SE.sumI (ns := ns.map fun c => (if c < 0 then -c else c).fmod 7) ?a2 ?a3 ?a4 ?a5) (SE.bin ?a6 SE.int BinOK.addI) (BinOK.modI (by omega))) ?a7 ?a8
  case a1 => with_unfolding_all rfl
  case a2 => walk_at "l blt"
  case a3 => walk_at "l args"
  case a4 => walk_at "l han"
  case a6 => walk_at "l e"
  case a7 => kernel_rfl
  case a5 =>
    have e : (ns.map fun c => (if c < 0 then -c else c).fmod 7).map D.int = (ns.filter (fun _ => true)).map (fun c => D.int ((if c < 0 then -c else c).fmod 7)) := by
      rw [fil_true, List.map_map]; rfl
    rw [e]
    refine' SE.listComp (cl := []) (l := ns) (fun c => .int ((if c < 0 then -c else c).fmod 7)) (fun _ => true) (hs := ?c1) (Inn.of ?c3 ?c4 ?c5) ?c6 ?c7 ?c8 ?c9 ?c10 ?c11
    case c1 => with_unfolding_all (intro _; rfl)
    case c3 => with_unfolding_all rfl
    case c4 => intro p hp; cases hp
    case c5 => kernel_rfl
    case c6 => kernel_rfl
    case c7 => kernel_rfl
    case c8 => omega
    case c9 => exact SI.listI (by walk_at "l e") (R.le (by decide))
    case c10 => intro C i σ' _ _ _; rfl
    case c11 =>
      intro C i σ' hi _ hk hfr
      exact SE.bin (by walk_at "l e") SE.int (BinOK.modI (by decide))
  have hf0 : fstOf ns l.length = fstOf ns l.length := rfl
  show SX _ _ (Stmt.Assign _ _ _ :: _) _
  refine' SX.assign (d := .int (lstOf ns l.length)) (hs := ?b1) ?b2 ?b6 ?b7
  case b1 => with_unfolding_all rfl
  case b6 => kernel_rfl
  case b2 =>
    unfold lstOf
    refine' SE.bin ?d1 (SE.bin (SE.bin ?d2 SE.int (BinOK.mulI ?d3)) (SE.bin (SE.bin ?d4 SE.int BinOK.addI) ?d5 BinOK.subI) (BinOK.modI ?d6)) BinOK.addI
    case d1 => walk_at "l e"
    case d2 => walk_at "l e"
    case d3 => exact IntMulOk.of_right (by decide)
    case d4 => walk_at "l e"
    case d5 => walk_at "l e"
    case d6 => omega
  generalize hf : fstOf ns l.length = f at hF hT
  generalize ht : lstOf ns l.length = t at hT
  have e2 := H.e2
  rw [hf, ht] at e2
  show SX _ _ (Stmt.Assign _ _ _ :: _) _
  generalize hpt : sl ks (some f) (some t) = pt at e2
  have hpl : pt.length ≤ 16 := by rw [← hpt]; exact Nat.le_trans (sl_len ..) hks
  have hel := lends_len pt
  refine' SX.assign (d := .list (pt.map D.str)) (hs := ?f1) ?f2 ?f3 ?f4
  case f1 => with_unfolding_all rfl
  case f3 => kernel_rfl
  case f2 =>
    rw [← hpt, ← sl_map]
    refine' SE.sliceL (ht := ?g1) ?g2 (SP.some ?g3) (SP.some ?g4) ?g5
    case g1 => with_unfolding_all (intro _ _; rfl)
    case g2 => walk_at "l e"
    case g3 => walk_at "l e"
    case g4 => walk_at "l e"
    case g5 => exact Nat.le_trans (by simp; omega) (show 1000000 ≤ sizeLine by decide)
  show SX _ _ (Stmt.Assign _ _ _ :: _) _
  refine' SX.assign (hs := ?h1) (SE.lawEnds rfl (R.le (by decide)) (by kernel_rfl) (by walk_at "l args") ?h2 (ks := pt) (by omega)) ?h3 ?h4
  case h1 => with_unfolding_all rfl
  case h2 => walk_at "l e"
  case h3 => kernel_rfl
  show SX _ _ (Stmt.If _ _ _ _ :: _) _
  refine' SX.if1 (b := ((igParts l f (some t)).map (slx l)) != dueF l f (lends pt)) (SB.cmp (d₂ := .list ((dueF l f (lends pt)).map D.str)) (hm := ?i1) (se_listIG3 rfl R ?i2 ?i3 ?i4 ?i5 ?i6 ?i7 ?i8 ?i9) ?i10 (CmpOK.neL rfl rfl (R.le (by decide)))) (fun h => ?i11) (fun h => ?i12)
  case i1 => with_unfolding_all rfl
  case i2 => walk_at "l blt"
  case i3 => kernel_rfl
  case i4 => walk_at "l e"
  case i5 => walk_at "l e"
  case i6 => walk_at "l e"
  case i7 => omega
  case i8 => with_unfolding_all rfl
  case i9 => with_unfolding_all rfl
  case i11 => rw [e2] at h; simp at h
  case i10 =>
    have e : (dueF l f (lends pt)).map D.str = ((iot 0 ((lends pt).length - 1)).filter (fun _ => true)).map (fun k => D.str (slx l (f + ek (lends pt) k, f + ek (lends pt) (k + 1)))) := by
      rw [fil_true]; unfold dueF; rw [List.map_map]; rfl
    rw [e]
    refine' SE.listComp (cl := clOf (callEnvC (lawFd pm cd doc dV kV) L a) ["text", "first", "ends"]) (l := iot 0 ((lends pt).length - 1)) (fun k => .str (slx l (f + ek (lends pt) k, f + ek (lends pt) (k + 1)))) (fun _ => true) (hs := ?j1) (Inn.of ?j3 ?j4 ?j5) ?j6 ?j7 ?j8 ?j9 ?j10 ?j11
    case j1 => with_unfolding_all (intro _; rfl)
    case j3 => with_unfolding_all rfl
    case j4 => 
      intro p hp
      simp only [clOf, List.map_cons, List.map_nil, List.mem_cons, List.not_mem_nil, or_false] at hp
      rcases hp with rfl | rfl | rfl <;> with_unfolding_all rfl
    case j5 => kernel_rfl
    case j6 => kernel_rfl
    case j7 => kernel_rfl
    case j8 => rw [iot_len]; omega
    case j9 =>
      rw [← iot_of _ hel.1]
      exact SI.range (by walk_at "l e") (R.le (by decide)) (by omega) (by omega) (by omega) (by omega)
    case j10 => intro C i σ' _ _ _; rfl
    case j11 =>
      intro C i σ' hi _ hk hfr
      have hi' := iot_mem hi
      exact SE.cutF (hfr _ _ (by exact .inl (by kernel_rfl)) (by walk_at "l look")) (hfr _ _ (by exact .inl (by kernel_rfl)) (by walk_at "l look")) hk (hfr _ _ (by exact .inl (by kernel_rfl)) (by walk_at "l look")) (by omega) (by omega) (by omega) (by omega)
  exact next _ (by walk_at "l look") (by walk_at "l look") (by walk_at "l look")
/-- the first six, from the end on -/
theorem law_3 (ns : List Int) (l : List Nat) (ks : List Str) (H : LawOK ns l ks) (R : Room A 12) (σ : Sto)
    (z2 : Look σ "text" (.d (.str (Sx l)))) (z3 : Look σ "kinds" (.d (.list (ks.map D.str)))) (z4 : Look σ "due" (.d (.list ((due l (lends ks)).map D.str))))
    (next : ∀ σ, Look σ "text" (.d (.str (Sx l))) → Look σ "due" (.d (.list ((due l (lends ks)).map D.str))) → Look σ "head" (.d (.str (Sx (l.take 6)))) → Look σ "ends" (.d (.list ((lends (ks.take 6)).map D.int))) →
      SX (lawC prog w mg mb pm cd doc dV kV S₀ av A L a) σ ((bodyOf 40).drop 13) lawP) :
    SX (lawC prog w mg mb pm cd doc dV kV S₀ av A L a) σ ((bodyOf 40).drop 9) lawP := by
  have hl := H.short
  have hks : ks.length ≤ 16 := by rw [← H.len]; exact hl
  have hno := H.hno
  have e3 := H.e3
  have hsl := slice_take l 6
  have hsz : (StrLaws.sliceText (Sx l) Option.none (some ((6 : Nat) : Int))).length ≤ sizeLine := by
    rw [hsl, Sx_len]
    exact Nat.le_trans (by simp; omega) (show 1000000 ≤ sizeLine by decide)
  have hkt := sl_upto ks 6
  have hl6 : (l.take 6).length ≤ 16 := by simp; omega
  have hk6 : (ks.take 6).length ≤ 16 := by simp; omega
  generalize hhd : l.take 6 = hd at *
  generalize hkk : ks.take 6 = kh at *
  have hel := lends_len kh
  show SX _ _ (Stmt.Assign _ _ _ :: _) _
  refine' SX.assign (d := .str (Sx hd)) (hs := ?a1) ?a2 ?a3 ?a4
  case a1 => with_unfolding_all rfl
  case a3 => kernel_rfl
  case a2 =>
    rw [← hsl]
    exact SE.sliceS (by walk_at "l e") SP.none (SP.some SE.int) hsz
  show SX _ _ (Stmt.Assign _ _ _ :: _) _
  refine' SX.assign (hs := ?b1) (SE.lawEnds rfl (R.le (by decide)) (by kernel_rfl) (by walk_at "l args") ?b2 (ks := kh) (by omega)) ?b3 ?b4
  case b1 => with_unfolding_all rfl
  case b3 => kernel_rfl
  case b2 =>
    rw [← hkt, ← sl_map]
    refine' SE.sliceL (ht := ?c1) ?c2 SP.none (SP.some ?c3) ?c4
    case c1 => with_unfolding_all (intro _ _; rfl)
    case c2 => walk_at "l e"
    case c3 => exact SE.int
    case c4 => exact Nat.le_trans (by simp; omega) (show 1000000 ≤ sizeLine by decide)
  show SX _ _ (Stmt.Assign _ _ _ :: _) _
  refine' SX.assign (d := .list ((due hd (lends kh)).reverse.map D.str)) (hs := ?d1) ?d2 ?d3 ?d4
  case d1 => with_unfolding_all rfl
  case d3 => kernel_rfl
  case d2 =>
    rw [List.map_reverse]
    refine' SE.revSlice (hs := ?e1) ?e2 ?e3
    case e1 => with_unfolding_all (intro _ _; rfl)
    case e3 =>
      refine Nat.le_trans ?_ (show 1000000 ≤ sizeLine by decide)
      unfold due
      rw [List.length_map, List.length_map, iot_len]
      omega
    have e : (due hd (lends kh)).map D.str = ((iot 0 ((lends kh).length - 1)).filter (fun _ => true)).map (fun k => D.str (slx hd (ek (lends kh) k, ek (lends kh) (k + 1)))) := by
      rw [fil_true]; unfold due; rw [List.map_map]; rfl
    rw [e]
    refine' SE.listComp (cl := clOf (callEnvC (lawFd pm cd doc dV kV) L a) ["head", "ends"]) (l := iot 0 ((lends kh).length - 1)) (fun k => .str (slx hd (ek (lends kh) k, ek (lends kh) (k + 1)))) (fun _ => true) (hs := ?j1) (Inn.of ?j3 ?j4 ?j5) ?j6 ?j7 ?j8 ?j9 ?j10 ?j11
    case j1 => with_unfolding_all (intro _; rfl)
    case j3 => with_unfolding_all rfl
    case j4 => 
      intro p hp
      simp only [clOf, List.map_cons, List.map_nil, List.mem_cons, List.not_mem_nil, or_false] at hp
      rcases hp with rfl | rfl <;> with_unfolding_all rfl
    case j5 => kernel_rfl
    case j6 => kernel_rfl
    case j7 => kernel_rfl
    case j8 => rw [iot_len]; omega
    case j9 =>
      rw [← iot_of _ hel.1]
      exact SI.range (by walk_at "l e") (R.le (by decide)) (by omega) (by omega) (by omega) (by omega)
    case j10 => intro C i σ' _ _ _; rfl
    case j11 =>
      intro C i σ' hi _ hk hfr
      have hi' := iot_mem hi
      exact SE.cut (hfr _ _ (by exact .inl (by kernel_rfl)) (by walk_at "l look")) (hfr _ _ (by exact .inl (by kernel_rfl)) (by walk_at "l look")) hk (by omega) (by omega) (by omega) (by omega)
  show SX _ _ (Stmt.If _ _ _ _ :: _) _
  refine' SX.if1 (b := ((rvParts hd).map (slx hd)) != (due hd (lends kh)).reverse) (SB.cmp (hm := ?i1) (se_listRv rfl R ?i2 ?i3 ?i4 ?i5 ?i6 ?i8 ?i9) ?i10 (CmpOK.neL rfl rfl (R.le (by decide)))) (fun h => ?i11) (fun h => ?i12)
  case i1 => with_unfolding_all rfl
  case i2 => walk_at "l blt"
  case i3 => kernel_rfl
  case i4 => walk_at "l e"
  case i5 => omega
  case i6 => exact hno
  case i8 => with_unfolding_all rfl
  case i9 => with_unfolding_all rfl
  case i10 => walk_at "l e"
  case i11 => rw [e3] at h; simp at h
  exact next _ (by walk_at "l look") (by walk_at "l look") (by walk_at "l look") (by walk_at "l look")
/-- the places -/
theorem law_4 (ns : List Int) (l : List Nat) (ks : List Str) (H : LawOK ns l ks) (R : Room A 12) (σ : Sto)
    (z2 : Look σ "text" (.d (.str (Sx l)))) (z4 : Look σ "due" (.d (.list ((due l (lends ks)).map D.str)))) (z5 : Look σ "head" (.d (.str (Sx (l.take 6))))) (z6 : Look σ "ends" (.d (.list ((lends (ks.take 6)).map D.int)))) :
    SX (lawC prog w mg mb pm cd doc dV kV S₀ av A L a) σ ((bodyOf 40).drop 13) lawP := by
  have hl := H.short
  have hks : ks.length ≤ 16 := by rw [← H.len]; exact hl
  have hno := H.hno
  have e4 := H.e4
  have e5 := H.e5
  have hed := lends_len ks
  have hl6 : (l.take 6).length ≤ 16 := by simp; omega
  have hk6 : (ks.take 6).length ≤ 16 := by simp; omega
  generalize hhd : l.take 6 = hd at *
  generalize hkk : ks.take 6 = kh at *
  have hel := lends_len kh
  show SX _ _ (Stmt.For _ _ _ _ _ :: _) _
  refine' SX.for_ (l := [(hd.length : Int).fdiv 2, hd.length, hd.length + 3]) (SI.tupI (ds := [.int ((hd.length : Int).fdiv 2), .int hd.length, .int (hd.length + 3)]) (SE.tuple (hst := ?a1) (.cons (SE.bin ?a2 SE.int (BinOK.divI (by decide) ?a3)) (.cons ?a4 (.cons ?a5 .nil))) ?a6) rfl (R.le (by decide))) (R.le (by decide)) ?a7
    (fun _ σ => Look σ "text" (.d (.str (Sx l))) ∧ Look σ "due" (.d (.list ((due l (lends ks)).map D.str))) ∧ Look σ "head" (.d (.str (Sx hd))) ∧ Look σ "ends" (.d (.list ((lends kh).map D.int)))) ⟨z2, z4, z5, z6⟩ ?a8 ?a9 (hs := ?a10)
  case a1 => with_unfolding_all rfl
  case a2 => walk_at "l e"
  case a3 => exact PyProof.noPylong_small (by omega)
  case a4 => walk_at "l e"
  case a5 => walk_at "l e"
  case a6 => exact (show (3 : Nat) ≤ sizeLine by decide)
  case a7 => kernel_rfl
  case a10 => with_unfolding_all (intro _; rfl)
  case a9 =>
    rintro σ ⟨s1, s2, s3, s4⟩
    show SX _ _ (Stmt.Return _ _ :: _) _
    have hb : (decide (Txt.join "" (due l (lends ks)) = Sx l)) = true := by simpa using e5
    refine' SX.ret (d := .bool ((Txt.join "" (due l (lends ks)) == Sx l) && (Mine.gbb [] 1 == 0))) (SE.and2 ?b1 (fun _ => ?b2)) ?b3
    case b1 =>
      refine' SE.cmp (hm := ?c1) (SE.joinL (ys := due l (lends ks)) ?c2 ?c3 ?c4 ?c5 ?c6 ?c7) ?c8 CmpOK.eqS
      case c1 => with_unfolding_all rfl
      case c2 => walk_at "l e"
      case c3 => decide
      case c4 =>
        have h1 : (due l (lends ks)).length ≤ 20 := by
          unfold due; rw [List.length_map, iot_len]; omega
        have h2 : ∀ y ∈ due l (lends ks), y.length ≤ 16 := by
          intro y hy
          unfold due at hy
          obtain ⟨k, _, rfl⟩ := List.mem_map.mp hy
          exact Nat.le_trans (PySem.Txt.slice_le (Sx l) _ _) (by rw [Sx_len]; exact hl)
        have h3 : ∀ (ys : List Str), (∀ y ∈ ys, y.length ≤ 16) → (ys.map (·.length)).sum ≤ 16 * ys.length := by
          intro ys
          induction ys with
          | nil => intro _; simp
          | cons y ys ih =>
            intro h
            have := ih (fun y hy => h y (List.mem_cons_of_mem _ hy))
            have := h y (List.mem_cons_self ..)
            simp only [List.map_cons, List.sum_cons, List.length_cons]
            omega
        have := h3 _ h2
        omega
      case c5 => with_unfolding_all rfl
      case c6 => rfl
      case c7 => with_unfolding_all rfl
      case c8 => walk_at "l e"
    case b2 =>
      have e0 : ("" : Str) = Sx [] := by decide
      refine' SE.cmp (hm := ?d1) (SE.gbb (l := []) (k := 1) rfl (R.le (by decide)) (by kernel_rfl) (by walk_at "l args") ?d2 SE.int (by decide) (fun k h1 h2 => ?d3)) SE.int CmpOK.eqI
      case d1 => with_unfolding_all rfl
      case d2 => rw [← e0]; exact SE.str
      case d3 => simp at h2; omega
    show FD.ret (.bool _) = _
    have h1 : (Txt.join "" (due l (lends ks)) == Sx l) = true := by simpa using e5
    have h2 : (Mine.gbb [] 1 == 0) = true := by decide
    rw [h1, h2]; rfl
  rintro k p σ hk ⟨s1, s2, s3, s4⟩ S₁ av₁
  show SX _ _ (Stmt.Assign _ _ _ :: _) _
  generalize hm : (if (hd.length : Int) < p then (hd.length : Int) else p) = m
  refine' SX.assignComp (cl := clOf (callEnvC (lawFd pm cd doc dV kV) L a) ["place", "head"]) (l := lends kh) (fun k => .int k) (fun k => decide (k < m)) (hs := ?c1) ?c2 (Inn.of ?c3 ?c4 ?c5) ?c6 ?c7 ?c8 ?c9 ?c10 ?c11 ?c12 ?c13 ?c14 ?c15
  case c1 => with_unfolding_all (intro _; rfl)
  case c2 => with_unfolding_all rfl
  case c3 => with_unfolding_all rfl
  case c4 => 
    intro p hp
    simp only [clOf, List.map_cons, List.map_nil, List.mem_cons, List.not_mem_nil, or_false] at hp
    rcases hp with rfl | rfl <;> with_unfolding_all rfl
  case c5 => kernel_rfl
  case c6 => kernel_rfl
  case c7 => kernel_rfl
  case c8 => omega
  case c9 => exact SI.listI (by walk_at "l e") (R.le (by decide))
  case c10 =>
    intro C i σ' _ hk hfr
    show SB _ _ _ _
    rw [← hm]
    refine' SB.cmp (hm := ?m1) ?m2 ?m3 CmpOK.ltI
    case m1 => with_unfolding_all rfl
    case m2 => walk_at "l e"
    case m3 =>
      have q1 : Look σ' "place" (.d (.int p)) := hfr _ _ (by exact .inl (by kernel_rfl)) (by walk_at "l look")
      have q2 : Look σ' "head" (.d (.str (Sx hd))) := hfr _ _ (by exact .inl (by kernel_rfl)) (by walk_at "l look")
      walk_at "l e"
  case c11 =>
    intro C i σ' hi _ hk hfr
    walk_at "l e"
  case c12 => kernel_rfl
  case c13 => kernel_rfl
  case c14 => kernel_rfl
  generalize hn : (lends kh).filter (fun k => decide (k < m)) = nr
  have hnl : nr.length < 1000000 := by
    rw [← hn]
    exact Nat.lt_of_le_of_lt (List.length_filter_le ..) (by omega)
  show SX _ _ (Stmt.If _ _ _ _ :: _) _
  refine' SX.if1 (b := Mine.gbb hd p != (if decide (nr.map D.int ≠ []) = true then nr.getLastD 0 else 0)) (SB.cmp (hm := ?d1) (SE.gbb (l := hd) (k := p) rfl (R.le (by decide)) (by kernel_rfl) (by walk_at "l args") ?d2 ?d3 (by omega) hno) (SE.ifInt (b := decide (nr.map D.int ≠ [])) ?d4 (fun hb => ?d5) (fun _ => SE.int)) CmpOK.neI) (fun h => ?d6) (fun h => ?d7)
  case d1 => with_unfolding_all rfl
  case d2 => walk_at "l e"
  case d3 => walk_at "l e"
  case d4 =>
    refine' SB.cmp (hm := ?n1) ?n2 (SE.list (hst := ?n3) SEs.nil ?n4) (CmpOK.neNil (R.le (by decide)))
    case n1 => with_unfolding_all rfl
    case n2 => walk_at "l e"
    case n3 => with_unfolding_all rfl
    case n4 => exact Nat.zero_le _
  case d5 =>
    refine' SE.lastI (hsub := ?o1) ?o2 ?o3 hnl
    case o1 => with_unfolding_all (intro _ _; rfl)
    case o2 => walk_at "l e"
    case o3 =>
      rintro rfl
      simp at hb
  case d6 =>
    exfalso
    have e := e4 p
    rw [hm] at e
    unfold nearOf at e
    rw [hn] at e
    rw [e] at h
    cases nr with
    | nil => simp at h
    | cons x r => simp at h
  exact SX.nil ⟨by walk_at "l look", by walk_at "l look", by walk_at "l look", by walk_at "l look"⟩
theorem law_run (ns : List Int) (l : List Nat) (ks : List Str) (H : LawOK ns l ks) (hns : ns.length ≤ 63) (R : Room A 12) :
    SX (lawC prog w mg mb pm cd doc dV kV S₀ av A L a) (upd empty "script" (.d (.list (ns.map D.int)))) (bodyOf 40) lawP :=
  law_1 ns l ks H hns R fun σ z1 z2 z3 z4 => law_2 ns l ks H hns R σ z1 z2 z3 z4 fun σ z2 z3 z4 => law_3 ns l ks H R σ z2 z3 z4 fun σ z2 z4 z5 z6 => law_4 ns l ks H R σ z2 z4 z5 z6
end
end Mine

open PySem PySem.W PyProof.Rows PySem.Calls
set_option Elab.async false
set_option linter.unusedVariables false
set_option linter.unusedSimpArgs false
set_option maxRecDepth 100000
namespace Mine
/-! ## the plain law: kinds -/
inductive Q where
  | other | mark | joiner | picture | linker | letter | flag | ahead | L | V | LV | LVT | T | beside | CR | LF | control | still
def Q.str : Q → Str
  | .other => "other" | .mark => "mark" | .joiner => "joiner" | .picture => "picture" | .linker => "linker" | .letter => "letter" | .flag => "flag" | .ahead => "ahead"
  | .L => "L" | .V => "V" | .LV => "LV" | .LVT => "LVT" | .T => "T" | .beside => "beside" | .CR => "CR" | .LF => "LF" | .control => "control" | .still => "still"
def Q.g : Q → Int
  | .other => 0 | .mark => 4 | .joiner => 5 | .picture => 0 | .linker => 4 | .letter => 0 | .flag => 6 | .ahead => 7
  | .L => 9 | .V => 10 | .LV => 12 | .LVT => 13 | .T => 11 | .beside => 8 | .CR => 1 | .LF => 2 | .control => 3 | .still => 4
def Q.isLetter : Q → Bool | .letter => true | _ => false
def Q.isLinker : Q → Bool | .linker => true | _ => false
def Q.isOn : Q → Bool | .mark => true | .joiner => true | _ => false
def Q.isPicture : Q → Bool | .picture => true | _ => false
def Q.isLow : Q → Bool | .other => true | .CR => true | .LF => true | _ => false
def Q.fl : Q → Int | .flag => 1 | _ => 0
def allQ : List Q := [.other, .mark, .joiner, .picture, .linker, .letter, .flag, .ahead, .L, .V, .LV, .LVT, .T, .beside, .CR, .LF, .control, .still]
/-- a sign is of a kind -/
def matB (u : Int) (q : Q) : Bool :=
  gcb u == q.g && isCons u == q.isLetter && isLink u == q.isLinker && isExt u == q.isOn && isPict u == q.isPicture && ((u == 10) == (match q with | .LF => true | _ => false)) && ((u == 13) == (match q with | .CR => true | _ => false)) &&
  (!decide (u < 128) || (if 32 ≤ u then (match q with | .other => true | _ => false) else (match q with | .CR => true | .LF => true | _ => false)))
theorem signs_mat : signs.all (fun p => allQ.any (fun q => q.str == p.2 && matB p.1 q)) = true := by decide +kernel
theorem a_mat : matB 20013 .other = true := by decide +kernel

theorem str_eq (q r : Q) : (q.str == r.str) = true ↔ q = r := by
  cases q <;> cases r <;> first | exact ⟨fun _ => rfl, fun _ => by decide⟩ | exact ⟨fun h => absurd h (by decide), fun h => nomatch h⟩
theorem any_eq (qs : List Q) (q : Q) : ((qs.map Q.str).any (· == q.str)) = true ↔ q ∈ qs := by
  induction qs with
  | nil => exact ⟨fun h => (nomatch h), fun h => (nomatch h)⟩
  | cons r qs ih =>
    rw [List.map_cons, List.any_cons, Bool.or_eq_true, ih, str_eq, List.mem_cons]
    exact ⟨fun h => h.imp Eq.symm id, fun h => h.imp Eq.symm id⟩
/-- line ends and controls -/
def ctl : Q → Bool | .CR => true | .LF => true | .control => true | _ => false
/-- Korean pairs -/
def kpr : Q → Q → Bool
  | .L, .L => true | .L, .V => true | .L, .LV => true | .L, .LVT => true
  | .V, .V => true | .V, .T => true | .LV, .V => true | .LV, .T => true | .LVT, .T => true | .T, .T => true
  | _, _ => false
def ona : Q → Bool | .mark => true | .linker => true | .joiner => true | .beside => true | .still => true | _ => false
def Q.isAhead : Q → Bool | .ahead => true | _ => false
def Q.isJoiner : Q → Bool | .joiner => true | _ => false
def Q.isFlag : Q → Bool | .flag => true | _ => false
def crlf : Q → Q → Bool | .CR, .LF => true | _, _ => false
/-- no break between two signs; C, P: what stands farther ahead; O: an odd flag -/
def nb (a c : Q) (C P O : Bool) : Bool :=
  crlf a c || (!ctl a && !ctl c && (kpr a c || (ona c || (a.isAhead || ((c.isLetter && C) || ((a.isJoiner && c.isPicture && P) || (a.isFlag && c.isFlag && O)))))))
/-- the flags behind a sign -/
def nri (a c : Q) (C P O : Bool) (ri : Int) : Int := bif nb a c C P O then (bif c.isFlag then (bif a.isFlag then ri + 1 else 1) else 0) else c.fl
def sbF (a c : Q) (C P O : Bool) (ri : Int) : Bool × Int :=
  match simple a.g c.g with
  | some r => r
  | none =>
    if c.g = 5 then (false, 0)
    else if (c.isLetter && C) = true then (false, 0)
    else if (a.isJoiner && c.isPicture && P) = true then (false, 0)
    else if a.g = 6 ∧ c.g = 6 then (if O = true then (false, ri + 1) else (true, 1))
    else (true, if c.g = 6 then 1 else 0)
theorem sbF_1 (a c : Q) (C P O : Bool) (ri : Int) : (sbF a c C P O ri).1 = !nb a c C P O := by
  cases a <;> cases c <;> first | rfl | (cases C <;> rfl) | (cases P <;> rfl) | (cases O <;> rfl)
theorem sbF_2 (a c : Q) (C P O : Bool) (ri : Int) : (sbF a c C P O ri).2 = nri a c C P O ri := by
  cases a <;> cases c <;> first | rfl | (cases C <;> rfl) | (cases P <;> rfl) | (cases O <;> rfl)
theorem g5 (a : Q) : (a.g = 5) ↔ a.isJoiner = true := by cases a <;> first | exact ⟨fun _ => rfl, fun _ => rfl⟩ | exact ⟨fun h => absurd h (by decide), fun h => (nomatch h)⟩
theorem sbk_F (a c : Q) {l : List Nat} {idx ri st : Int} {C P : Bool} (hc : isCons (at_ l idx) = c.isLetter) (hp : isPict (at_ l idx) = c.isPicture)
    (hC : c.isLetter = true → ((st ≤ skipExt l st idx.toNat (idx - 1) ∧ isLink (at_ l (skipExt l st idx.toNat (idx - 1))) = true) ↔ C = true)) (hP : a.isJoiner = true → c.isPicture = true → pictBack l st idx.toNat (idx - 2) = P) :
    sbk a.g c.g l idx ri st = sbF a c C P (ri.fmod 2 == 1) ri := by
  unfold sbk sbF
  rw [hc, hp]
  cases simple a.g c.g with
  | some r => rfl
  | none =>
    dsimp only
    by_cases h5 : c.g = 5
    · rw [if_pos h5, if_pos h5]
    rw [if_neg h5, if_neg h5]
    have e1 : (c.isLetter = true ∧ st ≤ skipExt l st idx.toNat (idx - 1) ∧ isLink (at_ l (skipExt l st idx.toNat (idx - 1))) = true) ↔ (c.isLetter && C) = true := by
      rw [Bool.and_eq_true]
      exact ⟨fun h => ⟨h.1, (hC h.1).mp h.2⟩, fun h => ⟨h.1, (hC h.1).mpr h.2⟩⟩
    by_cases h1 : (c.isLetter && C) = true
    · rw [if_pos (e1.mpr h1), if_pos h1]
    rw [if_neg (fun h => h1 (e1.mp h)), if_neg h1]
    have e2 : ((a.g = 5 ∧ c.isPicture = true) ∧ pictBack l st idx.toNat (idx - 2) = true) ↔ (a.isJoiner && c.isPicture && P) = true := by
      rw [Bool.and_eq_true, Bool.and_eq_true, g5]
      exact ⟨fun h => ⟨h.1, (hP h.1.1 h.1.2) ▸ h.2⟩, fun h => ⟨h.1, (hP h.1.1 h.1.2).trans h.2⟩⟩
    by_cases h2 : (a.isJoiner && c.isPicture && P) = true
    · rw [if_pos (e2.mpr h2), if_pos h2]
    rw [if_neg (fun h => h2 (e2.mp h)), if_neg h2]
    by_cases h3 : a.g = 6 ∧ c.g = 6
    · rw [if_pos h3, if_pos h3]
      by_cases h4 : ri.fmod 2 = 1
      · rw [if_pos h4, if_pos (by simpa using h4)]
      · rw [if_neg h4, if_neg (by simpa using h4)]
    · rw [if_neg h3, if_neg h3]
end Mine

open PySem PySem.W PyProof.Rows PySem.Calls
set_option Elab.async false
set_option linter.unusedVariables false
set_option linter.unusedSimpArgs false
set_option maxRecDepth 100000
namespace Mine
/-! ## the plain law: what nb says -/
section
variable {a c : Q} {C P O : Bool}
theorem nb_ctl (h : ctl c = true) : nb a c C P O = crlf a c := by cases c <;> first | exact absurd h (by decide) | (cases a <;> rfl)
theorem nb_ctl' (h : ctl a = true) : nb a c C P O = crlf a c := by cases a <;> first | exact absurd h (by decide) | (cases c <;> rfl)
theorem nb_ona (h : ona c = true) : nb a c C P O = !ctl a := by cases c <;> first | exact absurd h (by decide) | (cases a <;> rfl)
theorem nb_ahead (h : a.isAhead = true) (h' : ctl c = false) : nb a c C P O = true := by cases a <;> first | exact absurd h (by decide) | (cases c <;> first | rfl | exact absurd h' (by decide))
theorem nb_kpr (h : kpr a c = true) : nb a c C P O = true := by cases a <;> cases c <;> first | rfl | exact absurd h (by decide)
theorem nb_flag (h : a.isFlag = true) (h' : c.isFlag = true) : nb a c C P O = O := by cases a <;> first | exact absurd h (by decide) | (cases c <;> first | exact absurd h' (by decide) | (cases O <;> rfl))
theorem nb_tail (h1 : ctl a = false) (h2 : a.isAhead = true → ctl c = true) (h3 : kpr a c = false) (h4 : (a.isFlag && c.isFlag && O) = false) :
    nb a c C P O = (ona c || (c.isPicture && a.isJoiner && P) || (c.isLetter && C)) := by
  unfold nb
  rw [h1, h3, h4]
  have h5 : crlf a c = false := by cases a <;> first | rfl | exact absurd h1 (by decide)
  rw [h5]
  cases c <;> cases a <;> first | rfl | exact absurd (h2 rfl) (by decide) | (cases C <;> rfl) | (cases P <;> rfl)
theorem nri_brk {ri : Int} (h : nb a c C P O = false) : nri a c C P O ri = c.fl := by unfold nri; rw [h]; rfl
theorem nri_ahead {ri : Int} (h : a.isAhead = true) (h' : c.isFlag = true) : nri a c C P O ri = 1 := by cases a <;> first | exact absurd h (by decide) | (cases c <;> first | exact absurd h' (by decide) | rfl)
theorem nri_flag {ri : Int} (h : a.isFlag = true) (h' : c.isFlag = true) (h'' : O = true) : nri a c C P O ri = ri + 1 := by
  subst h''
  cases a <;> first | exact absurd h (by decide) | (cases c <;> first | exact absurd h' (by decide) | rfl)
end
/-! looks ahead -/
def C9 (y : Int → Q) (lo i : Int) : Prop := ∃ k, lo ≤ k ∧ k < i ∧ (y k).isLinker = true ∧ ∀ j, k < j → j < i → (y j).isOn = true
def P11 (y : Int → Q) (lo i : Int) : Prop := ∃ k, lo ≤ k ∧ k < i - 1 ∧ (y k).isPicture = true ∧ ∀ j, k < j → j < i - 1 → (y j).g = 4
open Classical in
noncomputable def c9 (y : Int → Q) (lo i : Int) : Bool := decide (C9 y lo i)
open Classical in
noncomputable def p11 (y : Int → Q) (lo i : Int) : Bool := decide (P11 y lo i)
theorem c9_iff {y lo i} : c9 y lo i = true ↔ C9 y lo i := by unfold c9; exact @decide_eq_true_iff _ (Classical.propDecidable _)
theorem p11_iff {y lo i} : p11 y lo i = true ↔ P11 y lo i := by unfold p11; exact @decide_eq_true_iff _ (Classical.propDecidable _)
/-- the machine's marks: B the breaks, ri the flags -/
structure Mach (y : Int → Q) (m : Int) (B : Int → Bool) (ri : Int → Int) : Prop where
  r0 : 0 < m → ri 0 = (y 0).fl
  br : ∀ i, 0 < i → i < m → B i = !nb (y (i - 1)) (y i) (c9 y 0 i) (p11 y 0 i) ((ri (i - 1)).fmod 2 == 1)
  rs : ∀ i, 0 < i → i < m → ri i = nri (y (i - 1)) (y i) (c9 y 0 i) (p11 y 0 i) ((ri (i - 1)).fmod 2 == 1) (ri (i - 1))
/-- a beginning -/
def Bd (B : Int → Bool) (b : Int) : Prop := b = 0 ∨ (0 < b ∧ B b = true)
section
variable {y : Int → Q} {m : Int} {B : Int → Bool} {ri : Int → Int} (M : Mach y m B ri)
include M
theorem Mach.fl {b : Int} (hb : Bd B b) (h : b < m) : ri b = (y b).fl := by
  rcases hb with rfl | ⟨h0, hB⟩
  · exact M.r0 h
  · rw [M.rs b h0 h]
    refine nri_brk ?_
    have := M.br b h0 h
    rw [hB] at this
    simpa using this
theorem Mach.before {b : Int} (hb : Bd B b) (h : b < m) (ho : ona (y b) = true) : b = 0 ∨ (0 < b ∧ ctl (y (b - 1)) = true) := by
  rcases hb with rfl | ⟨h0, hB⟩
  · exact .inl rfl
  · right
    have := M.br b h0 h
    rw [hB, nb_ona ho] at this
    exact ⟨h0, by simpa using this⟩
theorem Mach.c9 {b i : Int} (hb : Bd B b) (h0 : 0 ≤ b) (hi : b < i) (hm : i < m) : c9 y 0 i = c9 y b i := by
  rw [Bool.eq_iff_iff, c9_iff, c9_iff]
  constructor
  · rintro ⟨k, h1, h2, h3, h4⟩
    by_cases hk : b ≤ k
    · exact ⟨k, hk, h2, h3, h4⟩
    exfalso
    have ho := h4 b (by omega) hi
    have hb1 : ona (y b) = true := by revert ho; cases y b <;> decide
    rcases M.before hb (by omega) hb1 with rfl | ⟨q, hc⟩
    · omega
    by_cases hk' : k < b - 1
    · have := h4 (b - 1) hk' (by omega)
      revert this hc; cases y (b - 1) <;> decide
    · have : k = b - 1 := by omega
      subst this
      revert h3 hc; cases y (b - 1) <;> decide
  · rintro ⟨k, h1, h2, h3, h4⟩
    exact ⟨k, by omega, h2, h3, h4⟩
theorem Mach.p11 {b i : Int} (hb : Bd B b) (h0 : 0 ≤ b) (hi : b < i) (hm : i < m) (hj : (y (i - 1)).isJoiner = true) : p11 y 0 i = p11 y b i := by
  rw [Bool.eq_iff_iff, p11_iff, p11_iff]
  constructor
  · rintro ⟨k, h1, h2, h3, h4⟩
    by_cases hk : b ≤ k
    · exact ⟨k, hk, h2, h3, h4⟩
    exfalso
    have hb1 : ona (y b) = true := by
      by_cases e : b = i - 1
      · rw [e]; revert hj; cases y (i - 1) <;> decide
      · have ho := h4 b (by omega) (by omega)
        revert ho; cases y b <;> decide
    rcases M.before hb (by omega) hb1 with rfl | ⟨q, hc⟩
    · omega
    by_cases hk' : k < b - 1
    · have := h4 (b - 1) hk' (by omega)
      revert this hc; cases y (b - 1) <;> decide
    · have : k = b - 1 := by omega
      subst this
      revert h3 hc; cases y (b - 1) <;> decide
  · rintro ⟨k, h1, h2, h3, h4⟩
    exact ⟨k, by omega, h2, h3, h4⟩
end
/-! runs -/
theorem runU_spec (p : Int → Bool) (N : Int) (hp : ∀ j, p j = true → j + 1 < N) : ∀ (n : Nat) (j : Int), N - j ≤ n → j ≤ runU p n j ∧ (∀ i, j ≤ i → i < runU p n j → p i = true) ∧ p (runU p n j) = false
  | 0, j, h => ⟨Int.le_refl _, fun i h1 h2 => by simp only [runU] at h2; omega, by
      simp only [runU]
      cases q : p j with
      | false => rfl
      | true => have := hp j q; omega⟩
  | n + 1, j, h => by
    unfold runU
    split
    · rename_i q
      obtain ⟨h1, h2, h3⟩ := runU_spec p N hp n (j + 1) (by omega)
      refine ⟨by omega, fun i i1 i2 => ?_, h3⟩
      by_cases e : i = j
      · rw [e]; exact q
      · exact h2 i (by omega) i2
    · rename_i q
      exact ⟨Int.le_refl _, fun i h1 h2 => by omega, by simpa using q⟩
theorem runD_spec (p : Int → Bool) (b : Int) (hp : ∀ j, p j = true → b ≤ j) : ∀ (n : Nat) (j : Int), j - b + 1 ≤ n → runD p n j ≤ j ∧ (∀ i, runD p n j < i → i ≤ j → p i = true) ∧ p (runD p n j) = false
  | 0, j, h => ⟨Int.le_refl _, fun i h1 h2 => by simp only [runD] at h1; omega, by
      simp only [runD]
      cases q : p j with
      | false => rfl
      | true => have := hp j q; omega⟩
  | n + 1, j, h => by
    unfold runD
    split
    · rename_i q
      obtain ⟨h1, h2, h3⟩ := runD_spec p b hp n (j - 1) (by omega)
      refine ⟨by omega, fun i i1 i2 => ?_, h3⟩
      by_cases e : i = j
      · rw [e]; exact q
      · exact h2 i i1 (by omega)
    · rename_i q
      exact ⟨Int.le_refl _, fun i h1 h2 => by omega, by simpa using q⟩
/-! the words of the law -/
theorem is_ahead (q : Q) : (q.str == "ahead") = q.isAhead := by cases q <;> decide
theorem is_flag (q : Q) : (q.str == "flag") = q.isFlag := by cases q <;> decide
theorem is_picture (q : Q) : (q.str == "picture") = q.isPicture := by cases q <;> decide
theorem is_joiner (q : Q) : (q.str == "joiner") = q.isJoiner := by cases q <;> decide
theorem is_letter (q : Q) : (q.str == "letter") = q.isLetter := by cases q <;> decide
theorem is_linker (q : Q) : (q.str == "linker") = q.isLinker := by cases q <;> decide
theorem is_ctl (q : Q) : ([("CR" : Str), "LF", "control"].any (· == q.str)) = ctl q := by cases q <;> decide
theorem is_ona (q : Q) : ([("mark" : Str), "linker", "joiner", "beside", "still"].any (· == q.str)) = ona q := by cases q <;> decide
theorem is_4 (q : Q) : ([("mark" : Str), "linker", "still"].any (· == q.str)) = (q.g == 4) := by cases q <;> decide
theorem is_on (q : Q) : ([("mark" : Str), "joiner"].any (· == q.str)) = q.isOn := by cases q <;> decide
def isKor : Q → Bool | .L => true | .V => true | .LV => true | .LVT => true | .T => true | _ => false
theorem is_kor (q : Q) : ([("L" : Str), "V", "LV", "LVT", "T"].any (· == q.str)) = isKor q := by cases q <;> decide
/-- the kinds by their places -/
def Kds (ks : List Str) (y : Int → Q) : Prop := ∀ i : Int, 0 ≤ i → i < ks.length → kd ks i = (y i).str
noncomputable def jn (y : Int → Q) (j b : Int) : Bool := ona (y j) || ((y j).isPicture && (y (j - 1)).isJoiner && p11 y b j) || ((y j).isLetter && c9 y b j)
theorem joined_jn {ks : List Str} {y : Int → Q} (H : Kds ks y) {j b : Int} (h0 : 0 ≤ b) (hb : b < j) (hj : j < ks.length) : joined ks j b = jn y j b := by
  have e1 := H j (by omega) hj
  have e2 := H (j - 1) (by omega) (by omega)
  unfold joined jn
  rw [e1, e2, is_ona, is_picture, is_joiner, is_letter]
  by_cases h1 : ona (y j) = true
  · rw [if_pos h1, h1]; rfl
  rw [if_neg h1]
  rw [Bool.not_eq_true] at h1
  rw [h1, Bool.false_or, Bool.and_true]
  by_cases h2 : ((y j).isPicture && (y (j - 1)).isJoiner) = true
  · rw [if_pos h2, h2, Bool.true_and]
    have h3 : (y j).isLetter = false := by
      rw [Bool.and_eq_true] at h2
      revert h2; cases y j <;> simp [Q.isPicture, Q.isLetter]
    rw [h3, Bool.false_and, Bool.or_false]
    dsimp only
    obtain ⟨r1, r2, r3⟩ := runD_spec (jp1 ks b) b (fun j h => and_le h) (j - 1 - 1 - b + 2).toNat (j - 1 - 1) (by omega)
    have r4 := runD_range (jp1 ks b) b (fun j h => and_le h) (j - 1 - 1 - b + 2).toNat (j - 1 - 1) (by omega)
    generalize runD (jp1 ks b) (j - 1 - 1 - b + 2).toNat (j - 1 - 1) = k at *
    have key : ∀ i, b ≤ i → i < j → (jp1 ks b i = ((y i).g == 4)) := fun i i1 i2 => by
      unfold jp1
      rw [H i (by omega) (by omega), is_4]
      simp [i1]
    rw [Bool.eq_iff_iff, p11_iff]
    constructor
    · intro hk
      simp only [Bool.and_eq_true, decide_eq_true_eq] at hk
      rw [H k (by omega) (by omega), is_picture] at hk
      refine ⟨k, hk.1, by omega, hk.2, fun i i1 i2 => ?_⟩
      have := r2 i i1 (by omega)
      rw [key i (by omega) (by omega)] at this
      simpa using this
    · rintro ⟨k', a1, a2, a3, a4⟩
      have hkk : k = k' := by
        by_cases q1 : k < k'
        · have := r2 k' q1 (by omega)
          rw [key k' a1 (by omega)] at this
          exfalso
          revert this a3; cases y k' <;> decide
        by_cases q2 : k' < k
        · have := a4 k q2 (by omega)
          rw [key k (by omega) (by omega), this] at r3
          cases r3
        · omega
      subst hkk
      simp only [Bool.and_eq_true, decide_eq_true_eq]
      rw [H k (by omega) (by omega), is_picture]
      exact ⟨a1, a3⟩
  rw [if_neg h2]
  rw [Bool.not_eq_true] at h2
  rw [h2, Bool.false_and, Bool.false_or]
  by_cases h3 : (y j).isLetter = true
  · rw [if_pos h3, h3, Bool.true_and]
    dsimp only
    obtain ⟨r1, r2, r3⟩ := runD_spec (jp2 ks b) b (fun j h => and_le h) (j - 1 - b + 2).toNat (j - 1) (by omega)
    have r4 := runD_range (jp2 ks b) b (fun j h => and_le h) (j - 1 - b + 2).toNat (j - 1) (by omega)
    generalize runD (jp2 ks b) (j - 1 - b + 2).toNat (j - 1) = k at *
    have key : ∀ i, b ≤ i → i < j → (jp2 ks b i = (y i).isOn) := fun i i1 i2 => by
      unfold jp2
      rw [H i (by omega) (by omega), is_on]
      simp [i1]
    rw [Bool.eq_iff_iff, c9_iff]
    constructor
    · intro hk
      simp only [Bool.and_eq_true, decide_eq_true_eq] at hk
      rw [H k (by omega) (by omega), is_linker] at hk
      refine ⟨k, hk.1, by omega, hk.2, fun i i1 i2 => ?_⟩
      have := r2 i i1 (by omega)
      rw [key i (by omega) (by omega)] at this
      exact this
    · rintro ⟨k', a1, a2, a3, a4⟩
      have hkk : k = k' := by
        by_cases q1 : k < k'
        · have := r2 k' q1 (by omega)
          rw [key k' a1 (by omega)] at this
          exfalso
          revert this a3; cases y k' <;> decide
        by_cases q2 : k' < k
        · have := a4 k q2 (by omega)
          rw [key k (by omega) (by omega), this] at r3
          cases r3
        · omega
      subst hkk
      simp only [Bool.and_eq_true, decide_eq_true_eq]
      rw [H k (by omega) (by omega), is_linker]
      exact ⟨a1, a3⟩
  · rw [if_neg h3]
    rw [Bool.not_eq_true] at h3
    rw [h3]; rfl
end Mine

open PySem PySem.W PyProof.Rows PySem.Calls
set_option Elab.async false
set_option linter.unusedVariables false
set_option linter.unusedSimpArgs false
set_option maxRecDepth 100000
namespace Mine
/-! ## the plain law: the law's end is the machine's next break -/
theorem is_L (q : Q) : (q.str == "L") = (match q with | .L => true | _ => false) := by cases q <;> decide
theorem is_V (q : Q) : (q.str == "V") = (match q with | .V => true | _ => false) := by cases q <;> decide
theorem is_T (q : Q) : (q.str == "T") = (match q with | .T => true | _ => false) := by cases q <;> decide
theorem is_CR (q : Q) : (q.str == "CR") = (match q with | .CR => true | _ => false) := by cases q <;> decide
theorem is_LF (q : Q) : (q.str == "LF") = (match q with | .LF => true | _ => false) := by cases q <;> decide
theorem is_k1 (q : Q) : ([("L" : Str), "V", "LV", "LVT"].any (· == q.str)) = kpr .L q := by cases q <;> decide
theorem is_k2 (q : Q) : ([("V" : Str), "LV"].any (· == q.str)) = (kpr q .V && !(match q with | .L => true | _ => false)) := by cases q <;> decide
theorem is_k3 (q : Q) : ([("V" : Str), "LV", "LVT", "T"].any (· == q.str)) = kpr q .T := by cases q <;> decide
theorem is_end (q : Q) : ([("LF" : Str), "control"].any (· == q.str)) = (match q with | .LF => true | .control => true | _ => false) := by cases q <;> decide
section
variable {ks : List Str} {y : Int → Q} (H : Kds ks y)
include H
theorem kp1_q {j : Int} (h0 : 0 ≤ j) (h1 : j + 1 < ks.length) : kp1 ks j = ((match y j with | .L => true | _ => false) && kpr .L (y (j + 1))) := by
  unfold kp1
  rw [H j h0 (by omega), H (j + 1) (by omega) h1, is_L, is_k1]
  simp [h1]
theorem kp2_q {j : Int} (h0 : 0 ≤ j) (h1 : j + 1 < ks.length) : kp2 ks j = ((kpr (y j) .V && !(match y j with | .L => true | _ => false)) && (match y (j + 1) with | .V => true | _ => false)) := by
  unfold kp2
  rw [H j h0 (by omega), H (j + 1) (by omega) h1, is_V, is_k2]
  simp [h1]
theorem kp3_q {j : Int} (h0 : 0 ≤ j) (h1 : j + 1 < ks.length) : kp3 ks j = (kpr (y j) .T && (match y (j + 1) with | .T => true | _ => false)) := by
  unfold kp3
  rw [H j h0 (by omega), H (j + 1) (by omega) h1, is_T, is_k3]
  simp [h1]
theorem kor_spec {j : Int} (h0 : 0 ≤ j) (h1 : j < ks.length) (hk : isKor (y j) = true) :
    j < kor ks j ∧ kor ks j ≤ ks.length ∧ (∀ i, j < i → i < kor ks j → kpr (y (i - 1)) (y i) = true) ∧ isKor (y (kor ks j - 1)) = true ∧ (kor ks j < ks.length → kpr (y (kor ks j - 1)) (y (kor ks j)) = false) := by
  have hr := kor_range ks j h1
  unfold kor at hr ⊢
  dsimp only at hr ⊢
  obtain ⟨a1, a2, a3⟩ := runU_spec (kp1 ks) ks.length (fun j h => and_lt h) (ks.length - j).toNat j (by omega)
  have a4 := (runU_range (kp1 ks) ks.length (fun j h => and_lt h) (ks.length - j).toNat j h1).2
  generalize runU (kp1 ks) (ks.length - j).toNat j = j1 at *
  obtain ⟨b1, b2, b3⟩ := runU_spec (kp2 ks) ks.length (fun j h => and_lt h) (ks.length - j1).toNat j1 (by omega)
  have b4 := (runU_range (kp2 ks) ks.length (fun j h => and_lt h) (ks.length - j1).toNat j1 a4).2
  generalize runU (kp2 ks) (ks.length - j1).toNat j1 = j2 at *
  obtain ⟨c1, c2, c3⟩ := runU_spec (kp3 ks) ks.length (fun j h => and_lt h) (ks.length - j2).toNat j2 (by omega)
  have c4 := (runU_range (kp3 ks) ks.length (fun j h => and_lt h) (ks.length - j2).toNat j2 b4).2
  generalize runU (kp3 ks) (ks.length - j2).toNat j2 = j3 at *
  rw [show j3 + 1 - 1 = j3 from by omega]
  have step : ∀ i, j ≤ i → i < j3 → kpr (y i) (y (i + 1)) = true ∧ i + 1 < ks.length := by
    intro i i1 i2
    have hi : i + 1 < ks.length := by omega
    refine ⟨?_, hi⟩
    by_cases q1 : i < j1
    · have := a2 i i1 q1
      rw [kp1_q H (by omega) hi] at this
      revert this; cases y i <;> simp
    by_cases q2 : i < j2
    · have := b2 i (by omega) q2
      rw [kp2_q H (by omega) hi] at this
      revert this; cases y i <;> cases y (i + 1) <;> decide
    · have := c2 i (by omega) i2
      rw [kp3_q H (by omega) hi] at this
      revert this; cases y i <;> cases y (i + 1) <;> decide
  refine ⟨by omega, by omega, fun i i1 i2 => ?_, ?_, fun hlt => ?_⟩
  · have := (step (i - 1) (by omega) (by omega)).1
    rwa [show i - 1 + 1 = i from by omega] at this
  · by_cases e : j3 = j
    · rw [e]; exact hk
    · have := (step (j3 - 1) (by omega) (by omega)).1
      rw [show j3 - 1 + 1 = j3 from by omega] at this
      revert this; cases y (j3 - 1) <;> cases y j3 <;> decide
  · rw [Bool.eq_false_iff]
    intro hp
    rw [kp3_q H (by omega) hlt] at c3
    by_cases q3 : j2 < j3
    · have := c2 (j3 - 1) (by omega) (by omega)
      rw [kp3_q H (by omega) (by omega), show j3 - 1 + 1 = j3 from by omega] at this
      revert this hp c3; cases y j3 <;> cases y (j3 + 1) <;> simp [kpr]
    have e3 : j3 = j2 := by omega
    subst e3
    rw [kp2_q H (by omega) hlt] at b3
    by_cases q2 : j1 < j3
    · have := b2 (j3 - 1) (by omega) (by omega)
      rw [kp2_q H (by omega) (by omega), show j3 - 1 + 1 = j3 from by omega] at this
      revert this hp c3 b3; cases y j3 <;> cases y (j3 + 1) <;> simp [kpr]
    have e2 : j3 = j1 := by omega
    subst e2
    rw [kp1_q H (by omega) hlt] at a3
    revert hp c3 b3 a3; cases y j3 <;> cases y (j3 + 1) <;> simp [kpr]
omit H in
theorem sl_one {j : Int} (h0 : 0 ≤ j) : sl ks (some (j + 1)) (some (j + 2)) = if j + 1 < ks.length then [kd ks (j + 1)] else [] := by
  obtain ⟨n, rfl⟩ := Int.eq_ofNat_of_zero_le h0
  rw [show (n : Int) + 1 = ((n + 1 : Nat) : Int) from by omega, show (n : Int) + 2 = ((n + 2 : Nat) : Int) from by omega, sl_mid]
  split
  · rename_i h
    have h' : n + 1 < ks.length := by omega
    rw [List.drop_eq_getElem_cons h', show n + 2 - (n + 1) = 1 from by omega]
    simp only [List.take_succ_cons, List.take_zero]
    unfold kd
    rw [List.getD_eq_getElem?_getD, show ((n + 1 : Nat) : Int).toNat = n + 1 from by omega, List.getElem?_eq_getElem h']; rfl
  · rename_i h
    rw [List.drop_of_length_le (by omega)]; simp
end
section
variable {ks : List Str} {y : Int → Q} (H : Kds ks y) {B : Int → Bool} {ri : Int → Int} (M : Mach y ks.length B ri)
include H M
/-- behind the core of a sign -/
def Tail (y : Int → Q) (m : Int) (B : Int → Bool) (ri : Int → Int) (b j : Int) : Prop :=
  b < j ∧ j ≤ m ∧ (∀ i, b < i → i < j → B i = false) ∧ (j < m → ctl (y (j - 1)) = false ∧ ((y (j - 1)).isAhead = true → ctl (y j) = true) ∧ kpr (y (j - 1)) (y j) = false ∧ ((y (j - 1)).isFlag && (y j).isFlag && ((ri (j - 1)).fmod 2 == 1)) = false)
omit H in
theorem tail_nb {b j : Int} (hb : Bd B b) (h0 : 0 ≤ b) (T : Tail y ks.length B ri b j) (hj : j < ks.length) : B j = !jn y j b := by
  obtain ⟨t1, t2, t3, t4⟩ := T
  obtain ⟨u1, u2, u3, u4⟩ := t4 hj
  rw [M.br j (by omega) hj, nb_tail u1 u2 u3 u4]
  unfold jn
  rw [M.c9 hb h0 t1 hj]
  by_cases hq : (y (j - 1)).isJoiner = true
  · rw [M.p11 hb h0 t1 hj hq]
  · rw [Bool.not_eq_true] at hq
    rw [hq]; simp
omit H in
theorem tail_step {b j : Int} (hb : Bd B b) (h0 : 0 ≤ b) (T : Tail y ks.length B ri b j) (hj : j < ks.length) (hn : jn y j b = true) : Tail y ks.length B ri b (j + 1) := by
  have hB := tail_nb M hb h0 T hj
  rw [hn] at hB
  obtain ⟨t1, t2, t3, t4⟩ := T
  refine ⟨by omega, by omega, fun i i1 i2 => ?_, fun hl => ?_⟩
  · by_cases e : i = j
    · rw [e]; exact hB
    · exact t3 i i1 (by omega)
  · rw [show j + 1 - 1 = j from by omega]
    have hk : ona (y j) = true ∨ (y j).isPicture = true ∨ (y j).isLetter = true := by
      unfold jn at hn
      simp only [Bool.or_eq_true, Bool.and_eq_true] at hn
      rcases hn with (hn | hn) | hn
      · exact .inl hn
      · exact .inr (.inl hn.1.1)
      · exact .inr (.inr hn.1)
    revert hk
    generalize y (j + 1) = c
    cases y j <;> simp [ona, ctl, Q.isAhead, Q.isFlag, Q.isPicture, Q.isLetter, kpr]
theorem tail_end {b j : Int} (hb : Bd B b) (h0 : 0 ≤ b) (T : Tail y ks.length B ri b j) (n : Nat) (hn : (ks.length : Int) + 3 - j ≤ n) :
    b < runU (ep2 ks b) n j ∧ runU (ep2 ks b) n j ≤ ks.length ∧ (∀ i, b < i → i < runU (ep2 ks b) n j → B i = false) ∧ (runU (ep2 ks b) n j < ks.length → B (runU (ep2 ks b) n j) = true) := by
  obtain ⟨r1, r2, r3⟩ := runU_spec (ep2 ks b) (ks.length + 3) (ep2_lt ks b) n j hn
  generalize runU (ep2 ks b) n j = r at *
  have key : ∀ k : Nat, ∀ i, i = j + k → i ≤ r → Tail y ks.length B ri b i := by
    intro k
    induction k with
    | zero => intro i e _; rw [e]; simpa using T
    | succ k ih =>
      intro i e hi
      have T' := ih (i - 1) (by omega) (by omega)
      have he := r2 (i - 1) (by omega) (by omega)
      have hl : i - 1 < ks.length := by
        unfold ep2 at he
        simp only [Bool.and_eq_true, decide_eq_true_eq] at he
        exact he.1
      have hj : joined ks (i - 1) b = true := by
        unfold ep2 at he
        simp only [Bool.and_eq_true, decide_eq_true_eq] at he
        exact he.2.1
      rw [joined_jn H h0 T'.1 hl] at hj
      have := tail_step M hb h0 T' hl hj
      rwa [show i - 1 + 1 = i from by omega] at this
  have T' := key (r - j).toNat r (by omega) (Int.le_refl _)
  refine ⟨T'.1, T'.2.1, T'.2.2.1, fun hl => ?_⟩
  rw [tail_nb M hb h0 T' hl]
  have : joined ks r b = false := by
    unfold ep2 at r3
    simpa [hl] using r3
  rw [joined_jn H h0 T'.1 hl] at this
  rw [this]; rfl
theorem lend_spec {b : Int} (hb : Bd B b) (h0 : 0 ≤ b) (hl : b < ks.length) :
    b < lend ks b ∧ lend ks b ≤ ks.length ∧ (∀ i, b < i → i < lend ks b → B i = false) ∧ (lend ks b < ks.length → B (lend ks b) = true) := by
  have ctlB : ∀ j : Int, 0 < j → j < ks.length → ctl (y (j - 1)) = true → B j = !crlf (y (j - 1)) (y j) := fun j h1 h2 hc => by
    rw [M.br j h1 h2, nb_ctl' hc]
  unfold lend
  rw [H b h0 hl, is_CR, is_end, sl_one h0]
  by_cases hCR : (match y b with | .CR => true | _ => false) = true
  · rw [if_pos hCR]
    have hy : y b = .CR := by revert hCR; cases y b <;> simp
    by_cases h1 : b + 1 < ks.length
    · rw [if_pos h1, H (b + 1) (by omega) h1]
      have hb1 := ctlB (b + 1) (by omega) h1 (by rw [show b + 1 - 1 = b from by omega, hy]; rfl)
      rw [show b + 1 - 1 = b from by omega, hy] at hb1
      by_cases hLF : y (b + 1) = .LF
      · rw [hLF] at hb1 ⊢
        rw [if_pos (by decide)]
        refine ⟨by omega, by omega, fun i i1 i2 => ?_, fun h2 => ?_⟩
        · rw [show i = b + 1 from by omega]; exact hb1
        · have := ctlB (b + 2) (by omega) h2 (by rw [show b + 2 - 1 = b + 1 from by omega, hLF]; rfl)
          rw [this, show b + 2 - 1 = b + 1 from by omega, hLF]
          cases y (b + 2) <;> rfl
      · rw [if_neg (by
          intro e
          have e' := beq_iff_eq.mp e
          rw [List.cons.injEq] at e'
          have : (y (b + 1)).str == Q.LF.str := beq_iff_eq.mpr e'.1
          exact hLF ((str_eq _ _).mp this))]
        refine ⟨by omega, by omega, fun i i1 i2 => by omega, fun h2 => ?_⟩
        rw [hb1]
        revert hLF; cases y (b + 1) <;> simp [crlf]
    · rw [if_neg h1, if_neg (by decide)]
      exact ⟨by omega, by omega, fun i i1 i2 => by omega, fun h2 => absurd h2 h1⟩
  rw [if_neg hCR]
  by_cases hE : (match y b with | .LF => true | .control => true | _ => false) = true
  · rw [if_pos hE]
    refine ⟨by omega, by omega, fun i i1 i2 => by omega, fun h2 => ?_⟩
    have := ctlB (b + 1) (by omega) h2 (by rw [show b + 1 - 1 = b from by omega]; revert hE; cases y b <;> simp [ctl])
    rw [this, show b + 1 - 1 = b from by omega]
    revert hE; cases y b <;> simp [crlf]
  rw [if_neg hE]
  have hcb : ctl (y b) = false := by revert hCR hE; cases y b <;> simp [ctl]
  dsimp only
  obtain ⟨a1, a2, a3⟩ := runU_spec (ep1 ks) ks.length (fun j h => and_lt h) (ks.length - b).toNat b (by omega)
  have a4 := (runU_range (ep1 ks) ks.length (fun j h => and_lt h) (ks.length - b).toNat b hl).2
  generalize runU (ep1 ks) (ks.length - b).toNat b = j1 at *
  have ep1q : ∀ i : Int, 0 ≤ i → i + 1 < ks.length → ep1 ks i = ((y i).isAhead && !ctl (y (i + 1))) := fun i i0 i1 => by
    unfold ep1
    rw [H i i0 (by omega), H (i + 1) (by omega) i1, is_ahead, is_ctl]
    simp [i1]
  have hah : ∀ i : Int, b < i → i ≤ j1 → (y (i - 1)).isAhead = true ∧ ctl (y i) = false := fun i i1 i2 => by
    have := a2 (i - 1) (by omega) (by omega)
    rw [ep1q (i - 1) (by omega) (by omega), show i - 1 + 1 = i from by omega] at this
    simpa using this
  have hc1 : ctl (y j1) = false := by
    by_cases e : j1 = b
    · rw [e]; exact hcb
    · exact (hah j1 (by omega) (Int.le_refl _)).2
  have hB1 : ∀ i : Int, b < i → i ≤ j1 → B i = false := fun i i1 i2 => by
    obtain ⟨q1, q2⟩ := hah i i1 i2
    rw [M.br i (by omega) (by omega), nb_ahead q1 q2]; rfl
  have hfl : (y j1).isFlag = true → ri j1 = 1 := fun hf => by
    by_cases e : j1 = b
    · rw [e, M.fl hb hl, ← e]
      revert hf; cases y j1 <;> simp [Q.isFlag, Q.fl]
    · have := (hah j1 (by omega) (Int.le_refl _)).1
      rw [M.rs j1 (by omega) a4, nri_ahead this hf]
  have hT : Tail y ks.length B ri b (emid ks j1) := by
    unfold emid
    rw [H j1 (by omega) a4, is_flag, is_kor, sl_one (by omega)]
    by_cases hFF : ((y j1).isFlag && (((if j1 + 1 < (ks.length : Int) then [kd ks (j1 + 1)] else []) == [("flag" : Str)]) && true)) = true
    · rw [if_pos hFF]
      simp only [Bool.and_eq_true, Bool.and_true] at hFF
      obtain ⟨hF, hF'⟩ := hFF
      by_cases h1 : j1 + 1 < ks.length
      · rw [if_pos h1, H (j1 + 1) (by omega) h1] at hF'
        have hG : (y (j1 + 1)).isFlag = true := by
          rw [← is_flag]
          have e' := beq_iff_eq.mp hF'
          rw [List.cons.injEq] at e'
          exact beq_iff_eq.mpr e'.1
        have hr1 := hfl hF
        have hO : ((ri (j1 + 1 - 1)).fmod 2 == 1) = true := by rw [show j1 + 1 - 1 = j1 from by omega, hr1]; decide
        have hB2 : B (j1 + 1) = false := by
          rw [M.br (j1 + 1) (by omega) h1, nb_flag (by rw [show j1 + 1 - 1 = j1 from by omega]; exact hF) hG, hO]; rfl
        have hr2 : ri (j1 + 1) = 2 := by
          rw [M.rs (j1 + 1) (by omega) h1, nri_flag (by rw [show j1 + 1 - 1 = j1 from by omega]; exact hF) hG hO, show j1 + 1 - 1 = j1 from by omega, hr1]; rfl
        refine ⟨by omega, by omega, fun i i1 i2 => ?_, fun hl2 => ?_⟩
        · by_cases e : i = j1 + 1
          · rw [e]; exact hB2
          · exact hB1 i i1 (by omega)
        · rw [show j1 + 2 - 1 = j1 + 1 from by omega, hr2]
          revert hG; generalize y (j1 + 2) = c; cases y (j1 + 1) <;> simp [Q.isFlag, ctl, Q.isAhead, kpr]
      · rw [if_neg h1] at hF'
        exact absurd hF' (by decide)
    rw [if_neg hFF]
    by_cases hK : isKor (y j1) = true
    · rw [if_pos hK]
      obtain ⟨k1, k2, k3, k4, k5⟩ := kor_spec H (by omega) a4 hK
      generalize kor ks j1 = r at *
      refine ⟨by omega, k2, fun i i1 i2 => ?_, fun hl2 => ?_⟩
      · by_cases e : i ≤ j1
        · exact hB1 i i1 e
        · rw [M.br i (by omega) (by omega), nb_kpr (k3 i (by omega) i2)]; rfl
      · have := k5 hl2
        rw [this]
        revert k4; cases y (r - 1) <;> simp [isKor, ctl, Q.isAhead, Q.isFlag]
    · rw [if_neg hK]
      refine ⟨by omega, by omega, fun i i1 i2 => hB1 i i1 (by omega), fun hl2 => ?_⟩
      rw [show j1 + 1 - 1 = j1 from by omega]
      rw [ep1q j1 (by omega) hl2] at a3
      rw [if_pos hl2, H (j1 + 1) (by omega) hl2] at hFF
      have hFF' : ((y j1).isFlag && (y (j1 + 1)).isFlag) = false := by
        rw [Bool.eq_false_iff]
        intro e
        apply hFF
        rw [Bool.and_eq_true] at e ⊢
        refine ⟨e.1, ?_⟩
        rw [Bool.and_true, beq_iff_eq]
        have := e.2
        rw [← is_flag, beq_iff_eq] at this
        rw [this]
      rw [hFF']
      refine ⟨hc1, fun h => ?_, ?_, by simp⟩
      · rw [h] at a3
        simpa using a3
      · rw [Bool.not_eq_true] at hK
        revert hK; cases y j1 <;> simp [isKor, kpr]
  exact tail_end H M hb h0 hT _ (by omega)
end
end Mine

open PySem PySem.W PyProof.Rows PySem.Calls
set_option Elab.async false
set_option linter.unusedVariables false
set_option linter.unusedSimpArgs false
set_option maxRecDepth 100000
namespace Mine
/-! ## the plain law: ends as a chain of breaks -/
def Chain (B : Int → Bool) (m : Int) : Int → List Int → Prop
  | b, [] => b = m
  | b, j :: es => b < j ∧ j ≤ m ∧ (∀ i, b < i → i < j → B i = false) ∧ (j < m → B j = true) ∧ Chain B m j es
def pairsOf : Int → List Int → List (Int × Int)
  | _, [] => []
  | b, j :: es => (b, j) :: pairsOf j es
theorem range_pairs {β : Type} (F : Int → Int → β) : ∀ (es : List Int) (b : Int), (List.range es.length).map (fun i : Nat => F ((b :: es).getD i 0) ((b :: es).getD (i + 1) 0)) = (pairsOf b es).map fun p => F p.1 p.2
  | [], _ => rfl
  | j :: es, b => by
    rw [List.length_cons, List.range_succ_eq_map, List.map_cons, List.map_map]
    show _ :: _ = _ :: _
    congr 1
    rw [← range_pairs F es j]
    apply List.map_congr_left
    intro i _
    simp [List.getD_cons_succ]
theorem due_pairs (l : List Nat) (b : Int) (es : List Int) : due l (b :: es) = (pairsOf b es).map (slx l) := by
  unfold due iot
  rw [List.map_map, show (b :: es).length - 1 = es.length from rfl, ← range_pairs (fun u v => slx l (u, v)) es b]
  apply List.map_congr_left
  intro i _
  show slx l (ek (b :: es) (0 + (i : Int)), ek (b :: es) (0 + (i : Int) + 1)) = _
  rw [show (0 : Int) + (i : Int) = (i : Int) from by omega]
  rfl
theorem dueF_pairs (l : List Nat) (f b : Int) (es : List Int) : dueF l f (b :: es) = (pairsOf b es).map (fun p => slx l (f + p.1, f + p.2)) := by
  unfold dueF iot
  rw [List.map_map, show (b :: es).length - 1 = es.length from rfl, ← range_pairs (fun u v => slx l (f + u, f + v)) es b]
  apply List.map_congr_left
  intro i _
  show slx l (f + ek (b :: es) (0 + (i : Int)), f + ek (b :: es) (0 + (i : Int) + 1)) = _
  rw [show (0 : Int) + (i : Int) = (i : Int) from by omega]
  rfl
theorem lendsGo_chain {ks : List Str} {y : Int → Q} (H : Kds ks y) {B : Int → Bool} {ri : Int → Int} (M : Mach y ks.length B ri) :
    ∀ (n : Nat) (b : Int) (pre : List Int), 0 ≤ b → b ≤ ks.length → (b = ks.length ∨ Bd B b) → (ks.length : Int) - b + 1 ≤ n → ∃ es, lendsGo ks n (pre ++ [b]) = pre ++ b :: es ∧ Chain B ks.length b es
  | 0, b, pre, h0, h1, hb, hn => by omega
  | n + 1, b, pre, h0, h1, hb, hn => by
    unfold lendsGo
    have hlast : (pre ++ [b]).getLastD 0 = b := by simp
    rw [hlast]
    by_cases hl : b < ks.length
    · rw [if_pos hl]
      have hb' : Bd B b := by
        rcases hb with e | hb
        · omega
        · exact hb
      obtain ⟨k1, k2, k3, k4⟩ := lend_spec H M hb' h0 hl
      generalize lend ks b = j at *
      obtain ⟨es, e1, e2⟩ := lendsGo_chain H M n j (pre ++ [b]) (by omega) k2 (by
        by_cases e : j = ks.length
        · exact .inl e
        · exact .inr (.inr ⟨by omega, k4 (by omega)⟩)) (by omega)
      refine ⟨j :: es, ?_, k1, k2, k3, k4, e2⟩
      rw [e1]; simp
    · rw [if_neg hl]
      exact ⟨[], rfl, by show b = _; omega⟩
theorem lends_chain {ks : List Str} {y : Int → Q} (H : Kds ks y) {B : Int → Bool} {ri : Int → Int} (M : Mach y ks.length B ri) : ∃ es, lends ks = 0 :: es ∧ Chain B ks.length 0 es := by
  obtain ⟨es, e1, e2⟩ := lendsGo_chain H M (ks.length + 1) 0 [] (by omega) (by omega) (.inr (.inl rfl)) (by omega)
  exact ⟨es, e1, e2⟩
/-! the machine of a text -/
def rr (l : List Nat) (st : Int) : Nat → Int
  | 0 => if (gcb (at_ l st) == 6) = true then 1 else 0
  | k + 1 => (sbk (gcb (at_ l (st + (k : Int)))) (gcb (at_ l (st + (k : Int) + 1))) l (st + (k : Int) + 1) (rr l st k) st).2
def riM (l : List Nat) (st i : Int) : Int := rr l st i.toNat
def bM (l : List Nat) (st i : Int) : Bool := (sbk (gcb (at_ l (st + i - 1))) (gcb (at_ l (st + i))) l (st + i) (riM l st (i - 1)) st).1
theorem riM_pos (l : List Nat) (st i : Int) (h : 0 < i) : riM l st i = (sbk (gcb (at_ l (st + i - 1))) (gcb (at_ l (st + i))) l (st + i) (riM l st (i - 1)) st).2 := by
  obtain ⟨k, rfl⟩ : ∃ k : Nat, i = (k : Int) + 1 := ⟨(i - 1).toNat, by omega⟩
  unfold riM
  rw [show ((k : Int) + 1).toNat = k + 1 from by omega, show ((k : Int) + 1 - 1).toNat = k from by omega, show st + ((k : Int) + 1) = st + (k : Int) + 1 from by omega, show st + (k : Int) + 1 - 1 = st + (k : Int) from by omega]
  rfl
structure Mat (u : Int) (q : Q) : Prop where
  g : gcb u = q.g
  cons : isCons u = q.isLetter
  link : isLink u = q.isLinker
  ext : isExt u = q.isOn
  pict : isPict u = q.isPicture
  lf : u = 10 ↔ q = .LF
  cr : u = 13 ↔ q = .CR
  low : u < 128 → 32 ≤ u → q = .other
  low' : u < 128 → ¬ 32 ≤ u → q = .CR ∨ q = .LF
theorem mat_of {u : Int} {q : Q} (h : matB u q = true) : Mat u q := by
  unfold matB at h
  simp only [Bool.and_eq_true, beq_iff_eq] at h
  obtain ⟨⟨⟨⟨⟨⟨⟨h1, h2⟩, h3⟩, h4⟩, h5⟩, h6⟩, h7⟩, h8⟩ := h
  refine ⟨h1, h2, h3, h4, h5, ?_, ?_, fun a b => ?_, fun a b => ?_⟩
  · revert h6; cases q <;> simp
  · revert h7; cases q <;> simp
  · rw [show decide (u < 128) = true from by simpa using a, if_pos b] at h8
    revert h8; cases q <;> simp
  · rw [show decide (u < 128) = true from by simpa using a, if_neg b] at h8
    revert h8; cases q <;> simp
section
variable {l : List Nat} {st m : Int} {y : Int → Q}
theorem skip_spec (l : List Nat) (st : Int) : ∀ (n : Nat) (k : Int), k - st < n → st - 1 ≤ k → st - 1 ≤ skipExt l st n k ∧ skipExt l st n k ≤ k ∧ (∀ j, skipExt l st n k < j → j ≤ k → isExt (at_ l j) = true) ∧ (st ≤ skipExt l st n k → isExt (at_ l (skipExt l st n k)) = false)
  | 0, k, h, h' => ⟨h', Int.le_refl _, fun j j1 j2 => by simp only [skipExt] at j1; omega, fun q => by simp only [skipExt] at q; omega⟩
  | n + 1, k, h, h' => by
    unfold skipExt
    split
    · rename_i q
      obtain ⟨h1, h2, h3, h4⟩ := skip_spec l st n (k - 1) (by omega) (by omega)
      refine ⟨h1, by omega, fun j j1 j2 => ?_, h4⟩
      by_cases e : j = k
      · rw [e]; exact q.2
      · exact h3 j j1 (by omega)
    · rename_i q
      refine ⟨h', Int.le_refl _, fun j j1 j2 => by omega, fun hk => ?_⟩
      rw [Bool.eq_false_iff]
      exact fun e => q ⟨hk, e⟩
theorem pict_spec (l : List Nat) (st : Int) : ∀ (n : Nat) (k : Int), k - st < n → (pictBack l st n k = true ↔ ∃ r, st ≤ r ∧ r ≤ k ∧ isPict (at_ l r) = true ∧ gcb (at_ l r) ≠ 4 ∧ ∀ j, r < j → j ≤ k → gcb (at_ l j) = 4)
  | 0, k, h => by
    simp only [pictBack]
    exact ⟨fun h => (nomatch h), fun ⟨r, h1, h2, _⟩ => by omega⟩
  | n + 1, k, h => by
    unfold pictBack
    by_cases hk : st ≤ k
    · rw [if_pos hk]
      by_cases h4 : gcb (at_ l k) = 4
      · rw [if_pos h4, pict_spec l st n (k - 1) (by omega)]
        constructor
        · rintro ⟨r, h1, h2, h3, h5, h6⟩
          refine ⟨r, h1, by omega, h3, h5, fun j j1 j2 => ?_⟩
          by_cases e : j = k
          · rw [e]; exact h4
          · exact h6 j j1 (by omega)
        · rintro ⟨r, h1, h2, h3, h5, h6⟩
          have : r ≠ k := fun e => h5 (e ▸ h4)
          exact ⟨r, h1, by omega, h3, h5, fun j j1 j2 => h6 j j1 (by omega)⟩
      · rw [if_neg h4]
        constructor
        · intro hp
          exact ⟨k, hk, Int.le_refl _, hp, h4, fun j j1 j2 => by omega⟩
        · rintro ⟨r, h1, h2, h3, h5, h6⟩
          by_cases e : r = k
          · rw [← e]; exact h3
          · exact absurd (h6 k (by omega) (Int.le_refl _)) h4
    · rw [if_neg hk]
      exact ⟨fun h => (nomatch h), fun ⟨r, h1, h2, _⟩ => by omega⟩
theorem g4 (q : Q) : q.g = 4 → q.isPicture = false := by cases q <;> decide
variable (hst : 0 ≤ st) (hM : ∀ i, 0 ≤ i → i < m → Mat (at_ l (st + i)) (y i))
include hst hM
theorem cons_c9 {i : Int} (h0 : 0 < i) (h1 : i < m) : (st ≤ skipExt l st (st + i).toNat (st + i - 1) ∧ isLink (at_ l (skipExt l st (st + i).toNat (st + i - 1))) = true) ↔ c9 y 0 i = true := by
  obtain ⟨s1, s2, s3, s4⟩ := skip_spec l st (st + i).toNat (st + i - 1) (by omega) (by omega)
  generalize skipExt l st (st + i).toNat (st + i - 1) = k at *
  have at_y : ∀ j, st ≤ j → j < st + i → Mat (at_ l j) (y (j - st)) := fun j j1 j2 => by
    have := hM (j - st) (by omega) (by omega)
    rwa [show st + (j - st) = j from by omega] at this
  rw [c9_iff]
  constructor
  · rintro ⟨q1, q2⟩
    refine ⟨k - st, by omega, by omega, ?_, fun j j1 j2 => ?_⟩
    · rw [← (at_y k q1 (by omega)).link]; exact q2
    · have := s3 (st + j) (by omega) (by omega)
      rw [(at_y (st + j) (by omega) (by omega)).ext, show st + j - st = j from by omega] at this
      exact this
  · rintro ⟨k', a1, a2, a3, a4⟩
    have hkk : k = st + k' := by
      by_cases q1 : k < st + k'
      · have := s3 (st + k') q1 (by omega)
        rw [(at_y (st + k') (by omega) (by omega)).ext, show st + k' - st = k' from by omega] at this
        exfalso
        revert this a3; cases y k' <;> decide
      by_cases q2 : st + k' < k
      · have h5 := a4 (k - st) (by omega) (by omega)
        have h6 := s4 (by omega)
        rw [(at_y k (by omega) (by omega)).ext, h5] at h6
        cases h6
      · omega
    subst hkk
    refine ⟨by omega, ?_⟩
    rw [(at_y (st + k') (by omega) (by omega)).link, show st + k' - st = k' from by omega]
    exact a3
theorem pict_p11 {i : Int} (h0 : 0 < i) (h1 : i < m) : pictBack l st (st + i).toNat (st + i - 2) = p11 y 0 i := by
  have at_y : ∀ j, st ≤ j → j < st + i → Mat (at_ l j) (y (j - st)) := fun j j1 j2 => by
    have := hM (j - st) (by omega) (by omega)
    rwa [show st + (j - st) = j from by omega] at this
  rw [Bool.eq_iff_iff, p11_iff, pict_spec l st (st + i).toNat (st + i - 2) (by omega)]
  constructor
  · rintro ⟨r, a1, a2, a3, a4, a5⟩
    refine ⟨r - st, by omega, by omega, ?_, fun j j1 j2 => ?_⟩
    · rw [← (at_y r a1 (by omega)).pict]; exact a3
    · have := a5 (st + j) (by omega) (by omega)
      rw [(at_y (st + j) (by omega) (by omega)).g, show st + j - st = j from by omega] at this
      exact this
  · rintro ⟨k, a1, a2, a3, a4⟩
    have hk := at_y (st + k) (by omega) (by omega)
    rw [show st + k - st = k from by omega] at hk
    refine ⟨st + k, by omega, by omega, by rw [hk.pict]; exact a3, fun e => ?_, fun j j1 j2 => ?_⟩
    · rw [hk.g] at e
      have := g4 _ e
      rw [this] at a3; cases a3
    · have := a4 (j - st) (by omega) (by omega)
      rw [(at_y j (by omega) (by omega)).g]
      exact this
theorem mach_of : Mach y m (bM l st) (riM l st) := by
  have key : ∀ i, 0 < i → i < m → sbk (gcb (at_ l (st + i - 1))) (gcb (at_ l (st + i))) l (st + i) (riM l st (i - 1)) st = sbF (y (i - 1)) (y i) (c9 y 0 i) (p11 y 0 i) ((riM l st (i - 1)).fmod 2 == 1) (riM l st (i - 1)) := fun i h0 h1 => by
    have m1 := hM (i - 1) (by omega) (by omega)
    have m2 := hM i (by omega) h1
    rw [show st + (i - 1) = st + i - 1 from by omega] at m1
    rw [m1.g, m2.g]
    exact sbk_F (y (i - 1)) (y i) m2.cons m2.pict (fun _ => cons_c9 hst hM h0 h1) (fun _ _ => pict_p11 hst hM h0 h1)
  refine ⟨fun h => ?_, fun i h0 h1 => ?_, fun i h0 h1 => ?_⟩
  · have m0 := hM 0 (by omega) h
    rw [show st + 0 = st from by omega] at m0
    show (if (gcb (at_ l st) == 6) = true then (1 : Int) else 0) = _
    rw [m0.g]
    cases y 0 <;> rfl
  · unfold bM
    rw [key i h0 h1, sbF_1]
  · rw [riM_pos l st i h0, key i h0 h1, sbF_2]
end
/-! iter_graphemes -/
theorem iot_cons (a : Int) (n : Nat) : iot a (n + 1) = a :: iot (a + 1) n := by
  unfold iot
  rw [List.range_succ_eq_map, List.map_cons, List.map_map]
  congr 1
  · simp
  · apply List.map_congr_left
    intro i _
    simp only [Function.comp, Nat.succ_eq_add_one]
    omega
abbrev shp (st : Int) (p : Int × Int) : Int × Int := (st + p.1, st + p.2)
theorem igGo_chain (l : List Nat) (st m : Int) : ∀ (n : Nat) (i b j : Int) (es : List Int), m - i = n → Chain (bM l st) m b (j :: es) → b < i → i ≤ j → 0 ≤ b →
    igGo l st (st + m) (iot (st + i) n) (st + b) (gcb (at_ l (st + i - 1))) (riM l st (i - 1)) = (pairsOf b (j :: es)).map (shp st)
  | 0, i, b, j, es, hn, hc, hi, hj, h0 => by
    obtain ⟨c1, c2, c3, c4, c5⟩ := hc
    have hjm : j = m := by omega
    subst hjm
    have : es = [] := by
      cases es with
      | nil => rfl
      | cons k es => obtain ⟨d1, d2, _⟩ := c5; omega
    subst this
    rfl
  | n + 1, i, b, j, es, hn, hc, hi, hj, h0 => by
    obtain ⟨c1, c2, c3, c4, c5⟩ := hc
    rw [iot_cons]
    have hb : (sbk (gcb (at_ l (st + i - 1))) (gcb (at_ l (st + i))) l (st + i) (riM l st (i - 1)) st).1 = bM l st i := rfl
    have hr : (sbk (gcb (at_ l (st + i - 1))) (gcb (at_ l (st + i))) l (st + i) (riM l st (i - 1)) st).2 = riM l st i := (riM_pos l st i (by omega)).symm
    show (if (sbk (gcb (at_ l (st + i - 1))) (gcb (at_ l (st + i))) l (st + i) (riM l st (i - 1)) st).1 = true then (st + b, st + i) :: igGo l st (st + m) (iot (st + i + 1) n) (st + i) (gcb (at_ l (st + i))) (sbk (gcb (at_ l (st + i - 1))) (gcb (at_ l (st + i))) l (st + i) (riM l st (i - 1)) st).2
      else igGo l st (st + m) (iot (st + i + 1) n) (st + b) (gcb (at_ l (st + i))) (sbk (gcb (at_ l (st + i - 1))) (gcb (at_ l (st + i))) l (st + i) (riM l st (i - 1)) st).2) = _
    rw [hb, hr]
    have e1 : st + i + 1 = st + (i + 1) := by omega
    have e2 : st + i = st + (i + 1) - 1 := by omega
    have e3 : i = i + 1 - 1 := by omega
    by_cases hij : i = j
    · subst hij
      rw [if_pos (c4 (by omega))]
      cases es with
      | nil =>
        have : i = m := c5
        omega
      | cons k es =>
        have ih := igGo_chain l st m n (i + 1) i k es (by omega) c5 (by omega) (by obtain ⟨d1, _⟩ := c5; omega) (by omega)
        rw [← e2, ← e3, ← e1] at ih
        rw [ih]; rfl
    · rw [if_neg (by rw [c3 i hi (by omega)]; decide)]
      have ih := igGo_chain l st m n (i + 1) b j es (by omega) ⟨c1, c2, c3, c4, c5⟩ (by omega) (by omega) h0
      rw [← e2, ← e3, ← e1] at ih
      rw [ih]
theorem ig_go {l : List Nat} {st m : Int} {y : Int → Q} {part : List Str} (hst : 0 ≤ st) (hm : 0 < m) (hp : (part.length : Int) = m) (H : Kds part y) (hM : ∀ i, 0 ≤ i → i < m → Mat (at_ l (st + i)) (y i)) :
    (igGo l st (st + m) (iot (st + 1) (m - 1).toNat) st (gcb (at_ l st)) (if (gcb (at_ l st) == 6) = true then 1 else 0)).map (slx l) = dueF l st (lends part) := by
  have M := mach_of hst hM
  rw [← hp] at M
  obtain ⟨es, e1, e2⟩ := lends_chain H M
  rw [e1, dueF_pairs]
  cases es with
  | nil =>
    have : (0 : Int) = part.length := e2
    omega
  | cons j es =>
    rw [hp] at e2
    have := igGo_chain l st m (m - 1).toNat 1 0 j es (by omega) e2 (by omega) (by obtain ⟨d1, _⟩ := e2; omega) (by omega)
    rw [show st + (1 : Int) - 1 = st from by omega, show st + (0 : Int) = st from by omega] at this
    rw [show (if (gcb (at_ l st) == 6) = true then (1 : Int) else 0) = riM l st (1 - 1) from rfl, this, List.map_map]
    rfl
end Mine

open PySem PySem.W PyProof.Rows PySem.Calls
set_option Elab.async false
set_option linter.unusedVariables false
set_option linter.unusedSimpArgs false
set_option maxRecDepth 100000
namespace Mine
/-! ## the plain law: the text -/
structure Txt0 (l : List Nat) (ks : List Str) (z : Int → Q) : Prop where
  len : l.length = ks.length
  kds : Kds ks z
  mat : ∀ i : Int, 0 ≤ i → i < l.length → Mat (at_ l i) (z i)
  noa : ∀ i : Int, 0 < i → i < l.length → 32 ≤ at_ l i → at_ l i < 128 → (z (i - 1)).isAhead = false
/-- what each turn keeps -/
structure TInv (st : List Nat × List Str) : Prop where
  len : st.1.length = st.2.length
  mat : ∀ i, i < st.1.length → ∃ q : Q, q.str = st.2.getD i "" ∧ matB (st.1.getD i 0 : Nat) q = true
  noa : ∀ i, i + 1 < st.1.length → 32 ≤ st.1.getD (i + 1) 0 → st.1.getD (i + 1) 0 < 128 → st.2.getD i "" ≠ "ahead"
theorem signs_low : signs.all (fun p => !(decide (32 ≤ p.1) && decide (p.1 < 128)) || p.1 == 97) = true := by decide +kernel
theorem sgn_mem (cell : Int) : sgn cell ∈ signs := by
  unfold sgn
  have h : kix cell < signs.length := kix_lt cell
  rw [List.getD_eq_getElem?_getD, List.getElem?_eq_getElem h]
  exact List.getElem_mem h
theorem sgn_mat (cell : Int) : ∃ q : Q, q.str = (sgn cell).2 ∧ matB ((sgn cell).1 : Nat) q = true := by
  have h := List.all_eq_true.mp signs_mat _ (sgn_mem cell)
  obtain ⟨q, _, h⟩ := List.any_eq_true.mp h
  rw [Bool.and_eq_true, beq_iff_eq] at h
  exact ⟨q, h⟩
theorem sgn_low (cell : Int) (h : 32 ≤ (sgn cell).1) (h' : (sgn cell).1 < 128) : (sgn cell).1 = 97 := by
  have := List.all_eq_true.mp signs_low _ (sgn_mem cell)
  simpa [h, h'] using this
theorem other_str : (sgn 0).2 = "other" := by decide +kernel
theorem sgn_97 (cell : Int) (h : (sgn cell).1 = 97) : (sgn cell).2 = "other" := by
  have key : signs.all (fun p => !(p.1 == 97) || p.2 == "other") = true := by decide +kernel
  have := List.all_eq_true.mp key _ (sgn_mem cell)
  rw [h] at this
  simpa using this
theorem getD_snoc {α : Type} (l : List α) (x d : α) (i : Nat) : (l ++ [x]).getD i d = if i = l.length then x else l.getD i d := by
  rw [List.getD_eq_getElem?_getD, List.getD_eq_getElem?_getD]
  by_cases h : i = l.length
  · rw [if_pos h, h]; simp
  · rw [if_neg h]
    by_cases h' : i < l.length
    · rw [List.getElem?_append_left h']
    · rw [List.getElem?_append_right (by omega), List.getElem?_eq_none (by simp; omega), List.getElem?_eq_none (by omega)]
theorem TInv.turn {st : List Nat × List Str} (T : TInv st) (cell : Int) : TInv (textTurn st cell) := by
  obtain ⟨l, ks⟩ := st
  unfold textTurn
  dsimp only
  generalize hu : (if (((⟨#[(sgn cell).1]⟩ : Str) == "a") && (decide (ks ≠ []) && ((ks.getLastD "" == "ahead") && true))) = true then 20013 else (sgn cell).1) = u
  have hlen := T.len
  dsimp only at hlen
  have hmat : ∃ q : Q, q.str = (sgn cell).2 ∧ matB (u : Nat) q = true := by
    rw [← hu]
    split
    · rename_i hc
      simp only [Bool.and_eq_true] at hc
      have h97 : (sgn cell).1 = 97 := by
        have := hc.1
        rw [show ("a" : Str) = ⟨#[97]⟩ from by decide, chr_eq] at this
        simpa using this
      exact ⟨.other, (sgn_97 cell h97).symm, a_mat⟩
    · exact sgn_mat cell
  refine ⟨by simp [hlen], fun i hi => ?_, fun i hi h1 h2 => ?_⟩
  · dsimp only at hi ⊢
    rw [getD_snoc, getD_snoc, ← hlen]
    by_cases e : i = l.length
    · rw [if_pos e, if_pos e]; exact hmat
    · rw [if_neg e, if_neg e]
      exact T.mat i (by simp at hi; dsimp only; omega)
  · dsimp only at hi h1 h2 ⊢
    rw [getD_snoc] at h1 h2
    rw [getD_snoc, ← hlen]
    have hi' : i < l.length := by simp at hi; omega
    rw [if_neg (show ¬ i = l.length by omega)]
    by_cases e : i + 1 = l.length
    · rw [if_pos e] at h1 h2
      intro ha
      have hlast : ks.getLastD "" = "ahead" := by
        rw [List.getLastD_eq_getLast?, List.getLast?_eq_getElem?, ← hlen, show l.length - 1 = i from by omega, ← List.getD_eq_getElem?_getD]
        exact ha
      have hne : ks ≠ [] := by
        rintro rfl
        simp at hlen
        rw [hlen] at hi'; simp at hi'
      by_cases h97 : (sgn cell).1 = 97
      · rw [if_pos] at hu
        · rw [← hu] at h2; omega
        · rw [h97, hlast]
          simp [hne]
          decide
      · rw [if_neg] at hu
        · rw [← hu] at h1 h2
          exact h97 (sgn_low cell h1 h2)
        · intro hc
          simp only [Bool.and_eq_true] at hc
          apply h97
          have := hc.1
          rw [show ("a" : Str) = ⟨#[97]⟩ from by decide, chr_eq] at this
          simpa using this
    · rw [if_neg e] at h1 h2
      exact T.noa i (by dsimp only; simp at hi; omega) h1 h2
theorem TInv.fold (ns : List Int) : ∀ st, TInv st → TInv (ns.foldl textTurn st) := by
  induction ns with
  | nil => intro st h; exact h
  | cons n ns ih => intro st h; exact ih _ (h.turn n)
theorem tinv_text (ns : List Int) : TInv (textOf ns) := TInv.fold _ _ ⟨rfl, fun i h => absurd h (by simp), fun i h => absurd h (by simp)⟩
theorem text_txt (ns : List Int) : ∃ z, Txt0 (textOf ns).1 (textOf ns).2 z := by
  have T := tinv_text ns
  generalize textOf ns = st at T
  obtain ⟨l, ks⟩ := st
  obtain ⟨hlen, hmat, hnoa⟩ := T
  dsimp only at *
  have hz : ∀ i : Int, ∃ q : Q, 0 ≤ i → i < l.length → (q.str = kd ks i ∧ matB (at_ l i) q = true) := fun i => by
    by_cases h : 0 ≤ i ∧ i < l.length
    · obtain ⟨q, h1⟩ := hmat i.toNat (by omega)
      exact ⟨q, fun _ _ => h1⟩
    · exact ⟨.other, fun a b => absurd ⟨a, b⟩ h⟩
  refine ⟨fun i => Classical.choose (hz i), hlen, fun i h0 h1 => ?_, fun i h0 h1 => ?_, fun i h0 h1 h2 h3 => ?_⟩
  · exact (Classical.choose_spec (hz i) h0 (by omega)).1.symm
  · exact mat_of (Classical.choose_spec (hz i) h0 h1).2
  · have hs := (Classical.choose_spec (hz (i - 1)) (by omega) (by omega)).1
    have := hnoa (i - 1).toNat (by omega) (by
      rw [show (i - 1).toNat + 1 = i.toNat from by omega]
      have h2' : (32 : Int) ≤ ((l.getD i.toNat 0 : Nat) : Int) := h2
      omega) (by
      rw [show (i - 1).toNat + 1 = i.toNat from by omega]
      have h3' : ((l.getD i.toNat 0 : Nat) : Int) < 128 := h3
      omega)
    show (Classical.choose (hz (i - 1))).isAhead = false
    rw [← is_ahead, hs, beq_eq_false_iff_ne]
    exact this
/-! iter_graphemes over the whole, over a stretch -/
theorem dueF_zero (l : List Nat) (es : List Int) : dueF l 0 es = due l es := by
  unfold dueF due
  apply List.map_congr_left
  intro k _
  simp
theorem lends_nil : lends [] = [0] := by decide
section
variable {l : List Nat} {ks : List Str} {z : Int → Q} (T : Txt0 l ks z)
include T
theorem e1_of : (igParts l 0 none).map (slx l) = due l (lends ks) := by
  have hlen := T.len
  unfold igParts
  by_cases h : l = []
  · subst h
    have : ks = [] := List.length_eq_zero_iff.mp hlen.symm
    subst this
    rw [if_pos rfl, lends_nil]; rfl
  have hl : 0 < l.length := List.length_pos_iff.mpr h
  rw [if_neg h, if_neg (by
    show ¬ ((l.length : Int) ≤ igS 0 ∨ (l.length : Int) ≤ igS 0)
    unfold igS; simp; exact h)]
  have hS : igS 0 = 0 := rfl
  have hM : igM l none = 0 + (l.length : Int) := by unfold igM igE; simp
  rw [hS, hM, ← dueF_zero]
  have := ig_go (l := l) (st := 0) (m := l.length) (y := z) (part := ks) (by omega) (by omega) (by omega) T.kds (fun i h0 h1 => by rw [Int.zero_add]; exact T.mat i h0 h1)
  rw [show (0 : Int) + (l.length : Int) - (0 + 1) = (l.length : Int) - 1 from by omega]
  exact this
theorem e2_of (f t : Int) (h0 : 0 ≤ f) (h1 : f ≤ t) : (igParts l f (some t)).map (slx l) = dueF l f (lends (sl ks (some f) (some t))) := by
  have hlen := T.len
  have hsl : sl ks (some f) (some t) = (ks.drop f.toNat).take (t.toNat - f.toNat) := by
    have := sl_mid ks f.toNat t.toNat
    rwa [show ((f.toNat : Nat) : Int) = f from by omega, show ((t.toNat : Nat) : Int) = t from by omega] at this
  have hS : igS f = f := by unfold igS; rw [if_neg (by omega)]
  have hpl : (sl ks (some f) (some t)).length = min (t.toNat - f.toNat) (ks.length - f.toNat) := by rw [hsl]; simp
  unfold igParts
  by_cases h : l = []
  · subst h
    have : ks = [] := List.length_eq_zero_iff.mp hlen.symm
    subst this
    rw [if_pos rfl, hsl]
    simp only [List.drop_nil, List.take_nil]
    rw [lends_nil]; rfl
  rw [if_neg h, hS]
  by_cases hc : igE l (some t) ≤ f ∨ (l.length : Int) ≤ f
  · rw [if_pos hc]
    have : sl ks (some f) (some t) = [] := by
      apply List.length_eq_zero_iff.mp
      rw [hpl]
      have hc' : t ≤ f ∨ (l.length : Int) ≤ f := hc
      omega
    rw [this, lends_nil]; rfl
  rw [if_neg hc]
  have hc' : ¬ (t ≤ f ∨ (l.length : Int) ≤ f) := hc
  generalize hM : igM l (some t) = e
  have he : e = if (l.length : Int) < t then (l.length : Int) else t := by rw [← hM]; rfl
  have hm : ((sl ks (some f) (some t)).length : Int) = e - f := by
    rw [hpl, he]
    split <;> omega
  have := ig_go (l := l) (st := f) (m := e - f) (y := fun i => z (f + i)) (part := sl ks (some f) (some t)) h0 (by rw [he]; split <;> omega) hm (fun i i0 i1 => by
      rw [hm] at i1
      have hi : f + i < ks.length := by
        rw [he] at i1; split at i1 <;> omega
      have hk := T.kds (f + i) (by omega) hi
      rw [← hk]
      unfold kd
      rw [hsl, List.getD_eq_getElem?_getD, List.getD_eq_getElem?_getD, List.getElem?_take_of_lt (by rw [he] at i1; split at i1 <;> omega), List.getElem?_drop, show f.toNat + i.toNat = (f + i).toNat from by omega]) (fun i i0 i1 => by
      apply T.mat (f + i) (by omega)
      rw [he] at i1; split at i1 <;> omega)
  rw [show f + (e - f) = e from by omega, show e - f - 1 = e - (f + 1) from by omega] at this
  exact this
end
end Mine

open PySem PySem.W PyProof.Rows PySem.Calls
set_option Elab.async false
set_option linter.unusedVariables false
set_option linter.unusedSimpArgs false
set_option maxRecDepth 100000
namespace Mine
/-! ## the plain law: from the end on -/
theorem bM0 (l : List Nat) (i : Int) : bM l 0 i = (sbk (gcb (at_ l (i - 1))) (gcb (at_ l i)) l i (riM l 0 (i - 1)) 0).1 := by
  unfold bM; rw [show (0 : Int) + i = i from by omega]
theorem riM0_pos (l : List Nat) (i : Int) (h : 0 < i) : riM l 0 i = (sbk (gcb (at_ l (i - 1))) (gcb (at_ l i)) l i (riM l 0 (i - 1)) 0).2 := by
  rw [riM_pos l 0 i h, show (0 : Int) + i = i from by omega]
theorem iot_snoc (a : Int) (n : Nat) : iot a (n + 1) = iot a n ++ [a + (n : Int)] := by
  unfold iot
  rw [List.range_succ, List.map_append]; rfl
theorem fold_spec (l : List Nat) (fb : Int) (h0 : 0 ≤ fb) (hr : riM l 0 fb = if (gcb (at_ l fb) == 6) = true then 1 else 0) : ∀ k : Nat,
    ((iot (fb + 1) k).foldl (fcsTurn l) (fcsInit l fb)).2.1 = gcb (at_ l (fb + k)) ∧ ((iot (fb + 1) k).foldl (fcsTurn l) (fcsInit l fb)).2.2 = riM l 0 (fb + k) ∧
    fb ≤ ((iot (fb + 1) k).foldl (fcsTurn l) (fcsInit l fb)).1 ∧ ((iot (fb + 1) k).foldl (fcsTurn l) (fcsInit l fb)).1 ≤ fb + k ∧
    (((iot (fb + 1) k).foldl (fcsTurn l) (fcsInit l fb)).1 = fb ∨ bM l 0 ((iot (fb + 1) k).foldl (fcsTurn l) (fcsInit l fb)).1 = true) ∧
    (∀ i, ((iot (fb + 1) k).foldl (fcsTurn l) (fcsInit l fb)).1 < i → i ≤ fb + k → bM l 0 i = false)
  | 0 => by
    refine ⟨?_, ?_, Int.le_refl _, ?_, .inl rfl, fun i i1 i2 => ?_⟩
    · show gcb (at_ l fb) = _; rw [show fb + ((0 : Nat) : Int) = fb from by omega]
    · show (if (gcb (at_ l fb) == 6) = true then (1 : Int) else 0) = _; rw [show fb + ((0 : Nat) : Int) = fb from by omega]; exact hr.symm
    · show fb ≤ _; omega
    · have : fb < i := i1
      omega
  | k + 1 => by
    obtain ⟨g1, g2, g3, g4, g5, g6⟩ := fold_spec l fb h0 hr k
    rw [iot_snoc, List.foldl_append]
    generalize (iot (fb + 1) k).foldl (fcsTurn l) (fcsInit l fb) = s at *
    have e : fb + ((k + 1 : Nat) : Int) = fb + 1 + (k : Int) := by omega
    rw [e]
    show (fcsTurn l s (fb + 1 + (k : Int))).2.1 = _ ∧ _
    generalize hi : fb + 1 + (k : Int) = i
    have e' : i - 1 = fb + (k : Int) := by omega
    have hb := bM0 l i
    have hq := riM0_pos l i (by omega)
    rw [e', ← g1, ← g2] at hb hq
    unfold fcsTurn
    dsimp only
    rw [List.foldl_cons, List.foldl_nil] at *
    refine ⟨rfl, hq.symm, ?_, ?_, ?_, ?_⟩
    · dsimp only; split <;> omega
    · dsimp only; split <;> omega
    · dsimp only
      split
      · rename_i q
        right; rw [hb]; exact q
      · exact g5
    · dsimp only
      intro j j1 j2
      split at j1
      · omega
      · rename_i q
        by_cases ej : j = i
        · rw [ej, hb]; simpa using q
        · exact g6 j j1 (by omega)
theorem back_spec (l : List Nat) (p : Int) (hp : p ≤ 16) : ∀ (n : Nat) (i : Int), 0 ≤ i → i ≤ n → fcsBack l p n i = 0 ∨ (0 < fcsBack l p n i ∧ ((32 ≤ at_ l (fcsBack l p n i) ∧ at_ l (fcsBack l p n i) < 128) ∨ gcb (at_ l (fcsBack l p n i)) = 3))
  | 0, i, h0, h1 => by simp only [fcsBack]; left; omega
  | n + 1, i, h0, h1 => by
    unfold fcsBack
    split
    · rename_i hi
      split
      · rename_i q; exact .inr ⟨hi, .inl q⟩
      · split
        · rename_i q; exact .inr ⟨hi, .inr q⟩
        · split
          · exact .inl rfl
          · exact back_spec l p hp n (i - 1) (by omega) (by omega)
    · left; omega
theorem g3 (q : Q) : q.g = 3 → q = .control := by cases q <;> simp [Q.g]
theorem nb_other {a : Q} {C P O : Bool} (h : a.isAhead = false) : nb a .other C P O = false := by cases a <;> first | rfl | exact absurd h (by decide)
section
variable {l : List Nat} {ks : List Str} {z : Int → Q} (T : Txt0 l ks z)
include T
theorem Txt0.mach : Mach z l.length (bM l 0) (riM l 0) := mach_of (st := 0) (by omega) (fun i h0 h1 => by rw [Int.zero_add]; exact T.mat i h0 h1)
/-- the cluster's start ahead of a place -/
theorem fcs_spec (hs : l.length ≤ 16) {p : Int} (h0 : 0 < p) (h1 : p ≤ l.length) : 0 ≤ fcs l p ∧ fcs l p < p ∧ Bd (bM l 0) (fcs l p) ∧ ∀ i, fcs l p < i → i < p → bM l 0 i = false := by
  have M := T.mach
  have lowB : ∀ i : Int, 0 < i → i < l.length → (32 ≤ at_ l i ∧ at_ l i < 128) → bM l 0 i = true := fun i i0 i1 hq => by
    have hy := (T.mat i (by omega) i1).low hq.2 hq.1
    rw [M.br i i0 i1, hy, nb_other (T.noa i i0 i1 hq.1 hq.2)]; rfl
  have bd : ∀ i : Int, 0 ≤ i → (0 < i → bM l 0 i = true) → Bd (bM l 0) i := fun i i0 h => by
    by_cases e : i = 0
    · exact .inl e
    · exact .inr ⟨by omega, h (by omega)⟩
  unfold fcs
  by_cases hA : at_ l (p - 1) = 10 ∧ 2 ≤ p ∧ at_ l (p - 2) = 13
  · rw [if_pos hA]
    obtain ⟨a1, a2, a3⟩ := hA
    have m1 := (T.mat (p - 1) (by omega) (by omega)).lf.mp a1
    have m2 := (T.mat (p - 2) (by omega) (by omega)).cr.mp a3
    refine ⟨by omega, by omega, bd (p - 2) (by omega) fun hp => ?_, fun i i1 i2 => ?_⟩
    · rw [M.br (p - 2) hp (by omega), m2, nb_ctl rfl]
      cases z (p - 2 - 1) <;> rfl
    · rw [show i = p - 1 from by omega, M.br (p - 1) (by omega) (by omega), m1, show p - 1 - 1 = p - 2 from by omega, m2]; rfl
  rw [if_neg hA]
  by_cases hL : at_ l (p - 1) < 128
  · rw [if_pos hL]
    refine ⟨by omega, by omega, bd (p - 1) (by omega) fun hp => ?_, fun i i1 i2 => by omega⟩
    by_cases h32 : 32 ≤ at_ l (p - 1)
    · exact lowB (p - 1) hp (by omega) ⟨h32, hL⟩
    · have mp := T.mat (p - 1) (by omega) (by omega)
      rw [M.br (p - 1) hp (by omega)]
      rcases mp.low' hL h32 with e | e
      · rw [e, nb_ctl rfl]
        cases z (p - 1 - 1) <;> rfl
      · rw [e, nb_ctl rfl]
        have hne : z (p - 1 - 1) ≠ .CR := fun e2 => by
          have m2 := (T.mat (p - 1 - 1) (by omega) (by omega)).cr.mpr e2
          exact hA ⟨mp.lf.mpr e, by omega, by rw [show p - 2 = p - 1 - 1 from by omega]; exact m2⟩
        revert hne; cases z (p - 1 - 1) <;> simp [crlf]
  rw [if_neg hL]
  obtain ⟨z1, z2⟩ := fcsBack_range l p p.toNat (p - 1) (by omega)
  have hb := back_spec l p (by omega) p.toNat (p - 1) (by omega) (by omega)
  generalize fcsBack l p p.toNat (p - 1) = fb at *
  have hB : Bd (bM l 0) fb := by
    rcases hb with e | ⟨hp, hq | hq⟩
    · exact .inl e
    · exact .inr ⟨hp, lowB fb hp (by omega) hq⟩
    · refine .inr ⟨hp, ?_⟩
      have mf := T.mat fb (by omega) (by omega)
      rw [mf.g] at hq
      rw [M.br fb hp (by omega), g3 _ hq, nb_ctl rfl]
      cases z (fb - 1) <;> rfl
  have hr : riM l 0 fb = if (gcb (at_ l fb) == 6) = true then 1 else 0 := by
    rw [M.fl hB (by omega), (T.mat fb (by omega) (by omega)).g]
    cases z fb <;> rfl
  obtain ⟨g1, g2, g3, g4, g5, g6⟩ := fold_spec l fb z1 hr (p - (fb + 1)).toNat
  generalize (iot (fb + 1) (p - (fb + 1)).toNat).foldl (fcsTurn l) (fcsInit l fb) = s at *
  refine ⟨by omega, by omega, ?_, fun i i1 i2 => g6 i i1 (by omega)⟩
  rcases g5 with e | e
  · rw [e]; exact hB
  · exact bd s.1 (by omega) fun _ => e
/-- it is the beginning of the piece -/
theorem fcs_chain (hs : l.length ≤ 16) {b j p : Int} (h0 : 0 ≤ b) (hb : Bd (bM l 0) b) (hn : ∀ i, b < i → i < j → bM l 0 i = false) (h1 : b < p) (h2 : p ≤ j) (h3 : p ≤ l.length) : fcs l p = b := by
  obtain ⟨f1, f2, f3, f4⟩ := fcs_spec T hs (p := p) (by omega) h3
  by_cases q : fcs l p < b
  · have := f4 b q h1
    rcases hb with e | ⟨hp, e⟩
    · omega
    · rw [e] at this; cases this
  by_cases q' : b < fcs l p
  · rcases f3 with e | ⟨hp, e⟩
    · omega
    · have := hn _ q' (by omega)
      rw [e] at this; cases this
  · omega
/-- the pieces from the end on -/
theorem rvGo_chain (hs : l.length ≤ 16) : ∀ (es : List Int) (b : Int) (n : Nat), 0 ≤ b → Bd (bM l 0) b → Chain (bM l 0) l.length b es → (l.length : Int) ≤ n → ∃ k : Nat, b ≤ k ∧ rvGo l n l.length = (pairsOf b es).reverse ++ rvGo l k b
  | [], b, n, h0, hb, hc, hn => by
    have hc' : b = (l.length : Int) := hc
    subst hc'
    exact ⟨n, hn, rfl⟩
  | j :: es, b, n, h0, hb, hc, hn => by
    obtain ⟨c1, c2, c3, c4, c5⟩ := hc
    have hbj : Bd (bM l 0) j ∨ j = l.length := by
      by_cases e : j = l.length
      · exact .inr e
      · exact .inl (.inr ⟨by omega, c4 (by omega)⟩)
    have key : ∃ k : Nat, j ≤ k ∧ rvGo l n l.length = (pairsOf j es).reverse ++ rvGo l k j := by
      rcases hbj with hbj | e
      · exact rvGo_chain hs es j n (by omega) hbj c5 hn
      · subst e
        have : es = [] := by
          cases es with
          | nil => rfl
          | cons k es => obtain ⟨d1, d2, _⟩ := c5; omega
        subst this
        exact ⟨n, hn, rfl⟩
    obtain ⟨k, k1, k2⟩ := key
    obtain ⟨k', rfl⟩ : ∃ k', k = k' + 1 := ⟨k - 1, by omega⟩
    refine ⟨k', by omega, ?_⟩
    rw [k2, rvGo_succ, if_pos (by omega), fcs_chain T hs h0 hb c3 c1 (Int.le_refl _) c2]
    show _ = (pairsOf b (j :: es)).reverse ++ _
    rw [show pairsOf b (j :: es) = (b, j) :: pairsOf j es from rfl, List.reverse_cons, List.append_assoc]; rfl
omit T in
theorem rvGo_zero (l : List Nat) : ∀ n, rvGo l n 0 = []
  | 0 => rfl
  | n + 1 => by rw [rvGo_succ, if_neg (by decide)]
omit T in
theorem e3_of' (T : Txt0 l ks z) (hs : l.length ≤ 16) : (rvParts l).map (slx l) = (due l (lends ks)).reverse := by
  have M := T.mach
  rw [T.len] at M
  obtain ⟨es, e1, e2⟩ := lends_chain T.kds M
  rw [← T.len] at e2
  obtain ⟨k, k1, k2⟩ := rvGo_chain T hs es 0 l.length (by omega) (.inl rfl) e2 (by omega)
  unfold rvParts
  rw [e1, due_pairs, k2, rvGo_zero l, List.append_nil, List.map_reverse]
theorem filter_chain (hs : l.length ≤ 16) : ∀ (es : List Int) (b p d : Int), 0 ≤ b → Bd (bM l 0) b → Chain (bM l 0) l.length b es → b < p → p ≤ l.length → (((b :: es).filter fun e => decide (e < p)).getLastD d) = fcs l p
  | [], b, p, d, h0, hb, hc, h1, h2 => by
    have : b = (l.length : Int) := hc
    omega
  | j :: es, b, p, d, h0, hb, hc, h1, h2 => by
    obtain ⟨c1, c2, c3, c4, c5⟩ := hc
    rw [List.filter_cons, if_pos (by simpa using h1)]
    by_cases hj : j < p
    · have ih := filter_chain hs es j p b (by omega) (.inr ⟨by omega, c4 (by omega)⟩) c5 hj h2
      rw [List.getLastD_cons]
      exact ih
    · have hnil : ∀ (es : List Int) (j : Int), p ≤ j → Chain (bM l 0) l.length j es → (j :: es).filter (fun e => decide (e < p)) = [] := by
        intro es
        induction es with
        | nil => intro j hj _; rw [List.filter_cons, if_neg (by simpa using hj)]; rfl
        | cons k es ih =>
          intro j hj hc
          rw [List.filter_cons, if_neg (by simpa using hj)]
          exact ih k (by obtain ⟨d1, _⟩ := hc; omega) hc.2.2.2.2
      rw [hnil es j (by omega) c5, fcs_chain T hs h0 hb c3 h1 (by omega) h2]; rfl
theorem e4_of (hs : l.length ≤ 16) (p : Int) : gbb l p = nearOf (lends ks) (if (l.length : Int) < p then (l.length : Int) else p) := by
  have M := T.mach
  rw [T.len] at M
  obtain ⟨es, e1, e2⟩ := lends_chain T.kds M
  rw [← T.len] at e2
  unfold gbb nearOf
  rw [e1]
  have hpos : ∀ (es : List Int) (b : Int), 0 ≤ b → Chain (bM l 0) l.length b es → ∀ q : Int, q ≤ 0 → (b :: es).filter (fun e => decide (e < q)) = [] := by
    intro es
    induction es with
    | nil => intro b hb _ q hq; rw [List.filter_cons, if_neg (by simp; omega)]; rfl
    | cons k es ih =>
      intro b hb hc q hq
      rw [List.filter_cons, if_neg (by simp; omega)]
      exact ih k (by obtain ⟨d1, _⟩ := hc; omega) hc.2.2.2.2 q hq
  by_cases hc : p ≤ 0 ∨ l = []
  · rw [if_pos hc, hpos es 0 (by omega) e2 _ ?_]
    · rfl
    · rcases hc with h | h
      · split <;> omega
      · subst h; simp only [List.length_nil]; split <;> omega
  · rw [if_neg hc]
    have hl : l ≠ [] := fun e => hc (.inr e)
    have hl' : 0 < l.length := List.length_pos_iff.mpr hl
    have hp : ¬ p ≤ 0 := fun e => hc (.inl e)
    exact (filter_chain T hs es 0 _ 0 (by omega) (.inl rfl) e2 (by split <;> omega) (by split <;> omega)).symm
end
/-! joining -/
theorem Sx_app (a b : List Nat) : Sx a ++ Sx b = Sx (a ++ b) := by
  show (⟨a.toArray ++ b.toArray⟩ : Str) = ⟨(a ++ b).toArray⟩
  simp
theorem join_cons0 (x : Str) : ∀ r : List Str, Str.join "" (x :: r) = x ++ Str.join "" r
  | [] => by
    show x = x ++ Str.empty
    show x = (⟨x.cps ++ #[]⟩ : Str)
    simp
  | y :: r => by
    show x ++ "" ++ Str.join "" (y :: r) = _
    have : x ++ ("" : Str) = x := by
      show (⟨x.cps ++ #[]⟩ : Str) = x
      simp
    rw [this]
theorem slx_nat (l : List Nat) {b j : Int} (h0 : 0 ≤ b) (h1 : b ≤ j) (h2 : j ≤ l.length) : slx l (b, j) = Sx ((l.drop b.toNat).take (j - b).toNat) := by
  show StrLaws.sliceText (Sx l) (some b) (some j) = _
  rw [StrLaws.sliceText_plain ⟨h0, h1, by simpa using h2⟩]
theorem join_chain (l : List Nat) (B : Int → Bool) : ∀ (es : List Int) (b : Int), 0 ≤ b → Chain B l.length b es → Str.join "" ((pairsOf b es).map (slx l)) = Sx (l.drop b.toNat)
  | [], b, h0, hc => by
    have : b = (l.length : Int) := hc
    rw [this, show ((l.length : Int)).toNat = l.length from by omega, List.drop_length]; rfl
  | j :: es, b, h0, hc => by
    obtain ⟨c1, c2, c3, c4, c5⟩ := hc
    rw [show pairsOf b (j :: es) = (b, j) :: pairsOf j es from rfl, List.map_cons, join_cons0, join_chain l B es j (by omega) c5, slx_nat l h0 (by omega) c2, Sx_app]
    congr 2
    have e : j.toNat = b.toNat + (j - b).toNat := by omega
    rw [e, ← List.drop_drop, List.take_append_drop]
theorem e5_of {l : List Nat} {ks : List Str} {z : Int → Q} (T : Txt0 l ks z) : Txt.join "" (due l (lends ks)) = Sx l := by
  have M := T.mach
  rw [T.len] at M
  obtain ⟨es, e1, e2⟩ := lends_chain T.kds M
  rw [← T.len] at e2
  rw [e1, due_pairs]
  have := join_chain l (bM l 0) es 0 (by omega) e2
  unfold Txt.join
  rw [StrLaws.glued_eq_join, this]; rfl
/-- the first signs -/
theorem Txt0.take {l : List Nat} {ks : List Str} {z : Int → Q} (T : Txt0 l ks z) (n : Nat) : Txt0 (l.take n) (ks.take n) z := by
  have hat : ∀ i : Int, 0 ≤ i → i < (l.take n).length → at_ (l.take n) i = at_ l i := fun i h0 h1 => by
    have h1' : i.toNat < n := by rw [List.length_take] at h1; omega
    show (((l.take n).getD i.toNat 0 : Nat) : Int) = ((l.getD i.toNat 0 : Nat) : Int)
    rw [List.getD_eq_getElem?_getD, List.getD_eq_getElem?_getD, List.getElem?_take_of_lt h1']
  have hl : ∀ i : Int, i < (l.take n).length → i < l.length := fun i h => by rw [List.length_take] at h; omega
  refine ⟨by simp [T.len], fun i h0 h1 => ?_, fun i h0 h1 => ?_, fun i h0 h1 h2 h3 => ?_⟩
  · have h1' : i.toNat < n ∧ i < ks.length := by rw [List.length_take] at h1; omega
    rw [← T.kds i h0 h1'.2]
    unfold kd
    rw [List.getD_eq_getElem?_getD, List.getD_eq_getElem?_getD, List.getElem?_take_of_lt h1'.1]
  · rw [hat i h0 h1]; exact T.mat i h0 (hl i h1)
  · rw [hat i (by omega) h1] at h2 h3
    exact T.noa i h0 (hl i h1) h2 h3
theorem Txt0.hno {l : List Nat} {ks : List Str} {z : Int → Q} (T : Txt0 l ks z) : ∀ k : Int, 2 ≤ k → k ≤ l.length → at_ l (k - 1) < 128 → 32 ≤ at_ l (k - 1) → gcb (at_ l (k - 2)) ≠ 7 := fun k h0 h1 h2 h3 e => by
  have := T.noa (k - 1) (by omega) (by omega) h3 h2
  rw [(T.mat (k - 2) (by omega) (by omega)).g, show k - 2 = k - 1 - 1 from by omega] at e
  revert this e; cases z (k - 1 - 1) <;> simp [Q.g, Q.isAhead]
theorem law_ok (ns : List Int) (h : ns.length ≤ 63) : ∃ l ks, LawOK ns l ks := by
  obtain ⟨z, T⟩ := text_txt ns
  have hf := fold_len (ns.take 16) ([], [])
  have hs : (textOf ns).1.length ≤ 16 := by
    unfold textOf
    rw [hf.1, List.length_take]; simp; omega
  refine ⟨(textOf ns).1, (textOf ns).2, ?_⟩
  generalize hx : textOf ns = x at *
  obtain ⟨l, ks⟩ := x
  dsimp only at *
  have h6 : (l.take 6).length ≤ 16 := by simp; omega
  have hF := fst_range ns l.length
  have hT := lst_range ns l.length
  exact { len := T.len, short := hs, text := hx, hno := (T.take 6).hno, e1 := e1_of T, e2 := e2_of T _ _ hF.1 hT.1, e3 := e3_of' (T.take 6) h6, e4 := e4_of (T.take 6) h6, e5 := e5_of T }
end Mine

open PySem PySem.W PyProof.Rows PySem.Calls
set_option Elab.async false
set_option linter.unusedVariables false
set_option linter.unusedSimpArgs false
set_option maxRecDepth 100000
namespace Mine
theorem reps_ints {h : Heap} {own : List Addr} {vs : List Value} {ns : List Int} (x : IntsAre vs ns) : Reps h own (ns.map D.int) vs := by
  induction x with
  | nil => rfl
  | cons n t _ ih => exact ⟨_, _, rfl, ⟨t, rfl⟩, ih⟩
theorem law_cells (pm cd doc : Value) (L a : Addr) : (callEnvC (lawFd pm cd doc .none .none) L a).cells = [(("place" : Str), L + 1 + 1 + 1 + 1 + 1), (("head" : Str), L + 1 + 1 + 1 + 1), (("first" : Str), L + 1 + 1 + 1), (("ends" : Str), L + 1 + 1), (("text" : Str), L + 1)] := by kernel_rfl
theorem law_has (pm cd doc : Value) (L a : Addr) : (callEnvC (lawFd pm cd doc .none .none) L a).scope.names.all (fun y => !(y.2 == .cell || y.2 == .free) || ([("place" : Str), "head", "first", "ends", "text"].any (· == y.1))) = true := by kernel_rfl
section
variable {prog : Program} {w : World} {mg mb : Str → Option Value} {A : Around} {s : Shared} {R : Result → Shared → Prop}
theorem law_call {fa la : Addr} {o : Obj} {pm cd doc : Value} {vs : List Value} {ns : List Int} (T : Stat (KK w) mg mb s.heap) (RA : Room A 13) (ho : s.heap.get? fa = some o) (hd : o.data = .func (lawFd pm cd doc .none .none))
    (hcd : s.heap.CodeRec cd "law") (hl : s.heap.IsList la vs.toArray) (hi : IntsAre vs ns) (hns : ns.length ≤ 63) (hR : ∀ s', Ext s s' → R (.ok (.ret (.bool true))) s') :
    codeAny (model prog w) A (.call (.ref fa) ⟨[.ref la], []⟩) R s := by
  obtain ⟨l, ks, H⟩ := law_ok ns hns
  refine codeAny_call_cells (fd := lawFd pm cd doc .none .none) (body := bodyOf 40) (binds := [(("script" : Str), .ref la)]) (Nat.lt_of_le_of_lt (Nat.le_add_right _ _) RA.depth) ho hd T.nolimit hcd rfl (by kernel_rfl) rfl ?_ ?_ (by kernel_rfl) (by kernel_rfl) (by kernel_rfl)
  · intro x hx
    rw [List.mem_singleton.mp hx]
    exact .inl (by kernel_rfl)
  · intro s₁ x
    have hS := get_size s.heap
    have hKL : ∀ b, s.heap.objs.size ≤ b → (KK w).lookup b = none := fun b hb => by
      cases q : (KK w).lookup b with
      | none => rfl
      | some o => exact absurd (Heap.lt_size (T.kin _ _ q)) (Nat.not_lt.mpr hb)
    have hN : ∀ b, s.heap.objs.size ≤ b → s.heap.get? b = none := fun b hb => by
      cases q : s.heap.get? b with
      | none => rfl
      | some o => exact absurd (Heap.lt_size q) (Nat.not_lt.mpr hb)
    have hc := law_cells pm cd doc s.heap.objs.size fa
    have hk₁ : Kp s.heap s₁.heap := x.toInCall.keep
    have hL : (callEnvC (lawFd pm cd doc .none .none) s.heap.objs.size fa).locals = s.heap.objs.size := rfl
    have hcell : ∀ y c, (callEnvC (lawFd pm cd doc .none .none) s.heap.objs.size fa).cells.lookup y = some c → s.heap.objs.size < c ∧ c ∈ (callEnvC (lawFd pm cd doc .none .none) s.heap.objs.size fa).cells.map (·.2) := fun y c h =>
      ⟨x.above y c (lookup_name h), List.mem_map.mpr ⟨_, lookup_name h, rfl⟩⟩
    have halive : ∀ c ∈ (callEnvC (lawFd pm cd doc .none .none) s.heap.objs.size fa).cells.map (·.2), s.heap.objs.size < c ∧ ∃ o, s₁.heap.get? c = some o := by
      intro c hcm
      obtain ⟨⟨y, c'⟩, hm, rfl⟩ := List.mem_map.mp hcm
      refine ⟨x.above y c' hm, ?_⟩
      have key : ∀ y c, (callEnvC (lawFd pm cd doc .none .none) s.heap.objs.size fa).cells.lookup y = some c → ∃ o, s₁.heap.get? c = some o := fun y c h => by
        obtain ⟨o, ho, _⟩ := x.cell y c h
        exact ⟨o, ho⟩
      have hm' := hm
      rw [hc] at hm'
      simp only [List.mem_cons, List.not_mem_nil, or_false, Prod.mk.injEq] at hm'
      rcases hm' with ⟨rfl, rfl⟩ | ⟨rfl, rfl⟩ | ⟨rfl, rfl⟩ | ⟨rfl, rfl⟩ | ⟨rfl, rfl⟩
      · exact key "place" _ (by kernel_rfl)
      · exact key "head" _ (by kernel_rfl)
      · exact key "first" _ (by kernel_rfl)
      · exact key "ends" _ (by kernel_rfl)
      · exact key "text" _ (by kernel_rfl)
    have hlaO : la < s.heap.objs.size := by obtain ⟨o, q, _⟩ := hl; exact Heap.lt_size q
    have hσ : ∀ y v, upd empty "script" (.d (.list (ns.map D.int))) y = some v → y = "script" ∧ v = .d (.list (ns.map D.int)) := fun y v h => by
      unfold upd at h
      split at h
      · rename_i e
        cases h; exact ⟨e, rfl⟩
      · cases h
    refine law_run (prog := prog) (w := w) (mg := mg) (mb := mb) (pm := pm) (cd := cd) (doc := doc) (dV := .none) (kV := .none) (S₀ := s) (av := []) (A := A.deeper _) (L := s.heap.objs.size) (a := fa) ns l ks H hns (RA.deeper _)
      (s.heap.objs.size :: (callEnvC (lawFd pm cd doc .none .none) s.heap.objs.size fa).cells.map (·.2)) s₁ _ _ ?_ ?_
    · exact { stat := T, keep := hk₁
              hid := fun b hb => by
                rcases List.mem_cons.mp hb with rfl | hb
                · exact ⟨hKL _ (Nat.le_refl _), let ⟨o, _, _, q, _⟩ := x.toInCall.ns; ⟨o, q⟩⟩
                · have := halive b hb
                  exact ⟨hKL _ (Nat.le_of_lt this.1), this.2⟩
              av := fun b hb => by cases hb
              lown := List.mem_cons_self ..
              lnew := hS
              ns := ⟨_, x.toInCall.ns, fun y v h _ => by
                obtain ⟨rfl, rfl⟩ := hσ y v h
                refine ⟨.ref la, by kernel_rfl, la, vs.toArray, rfl, ?_, ?_, reps_ints hi⟩
                · intro hm
                  rcases List.mem_cons.mp hm with e | hm
                  · rw [e] at hlaO; exact Nat.lt_irrefl _ hlaO
                  · exact absurd (halive la hm).1 (Nat.lt_asymm hlaO)
                · obtain ⟨o, q, r⟩ := hl
                  exact ⟨o, hk₁ _ _ q, r⟩⟩
              cells := fun y c h => ⟨List.mem_cons_of_mem _ (hcell y c h).2, Nat.ne_of_gt (hcell y c h).1, hN c (Nat.le_of_lt (hcell y c h).1), _, x.cell y c h⟩
              cellv := fun y v h hk => by
                obtain ⟨rfl, rfl⟩ := hσ y v h
                have e : (callEnvC (lawFd pm cd doc .none .none) s.heap.objs.size fa).kindOf "script" = some .local := by kernel_rfl
                rw [e] at hk
                rcases hk with q | q <;> cases q
              cinj := fun y z c h h' => name_of_addr x.apart (lookup_name h) (lookup_name h')
              chas := fun y hk => by
                have hall := law_has pm cd doc s.heap.objs.size fa
                rw [List.all_eq_true] at hall
                have : [("place" : Str), "head", "first", "ends", "text"].any (· == y) = true := by
                  rcases hk with hk | hk <;>
                  · have := hall _ (lookup_name hk)
                    simpa using this
                refine lookup_has ?_
                rw [hc]
                exact this
              vars := fun y v h => by
                obtain ⟨rfl, rfl⟩ := hσ y v h
                exact ⟨.inl (by kernel_rfl), by kernel_rfl, by kernel_rfl⟩
              ownl := fun y b l' h => by
                obtain ⟨_, e⟩ := hσ y _ h
                cases e
              kind := by kernel_rfl
              glob := rfl
              blt := rfl
              gens := by
                obtain ⟨h', tk, e⟩ := x.toInCall.same
                exact ⟨#[], by rw [e]; simp, AllBare.empty⟩
              os := by
                obtain ⟨h', tk, e⟩ := x.toInCall.same
                rw [e] }
    · rintro fl fd σ' own' s' hP G' hf
      obtain rfl : fd = .ret (.bool true) := hP
      obtain ⟨v, rfl, r⟩ := hf
      obtain rfl := r
      exact hR s' ⟨G'.keep, G'.gens, G'.os⟩
end
set_option maxHeartbeats 8000000 in
theorem holds : PySem.Challenge.rw_gb5027_01.Holds := hd (by
  intro w s₀ s₁ mg mb G Y fa o pm cd doc dV kV ho hd hcd hD hmg hg args vals as hpre hlay hrd hwl hlo
  have KX := kIn_of Y
  have he := Dflts.none hD rfl; subst he
  have he := Dflts.noKw hD; subst he
  refine Ground.open G ?_
  intro T B D TE TW
  clear hmg hD B D TE TW G Y
  wrow_args hpre hlay hrd hwl hlo
  refine enter_call ?_
  have hd' : o.data = .func (lawFd pm cd doc .none .none) := hd
  have hcd' : s₁.heap.CodeRec cd "law" := hcd
  clear hd hcd
  refine law_call (mg := mg) (mb := mb) (pm := pm) (cd := cd) (doc := doc) ⟨T.g, T.b, T.builtins, T.nolimit, KX⟩ ?_ ho hd' hcd' (by assumption) (by assumption) ?_ fun s' x => ?_
  · exact ⟨rfl, by decide, by decide⟩
  · omega
  refine ⟨.inl ⟨.bool true, .bool true, [], rfl, raisesW_false (by wrow_none_raised), .bool true, ?_, fun _ => ⟨List.nodup_nil, fun a h => nomatch h⟩⟩, .of_keep x.keep, x.os, ?_⟩
  · exact postW_of (by wrow_shape) (by wtm_val) (by w_fin)
  · obtain ⟨more, e, b⟩ := x.gens
    rw [e, hg]
    simpa using b)
end Mine

set_option maxRecDepth 100000 in
set_option maxHeartbeats 8000000 in
theorem PySem.Challenge.cw_gb5027_01_holds : PySem.Challenge.rw_gb5027_01.Holds := by
  exact Mine.holds
