import PyProof.Rows.All
import Wide.All
import Open.Line
import Wide.FinOn
import PySem.Challenge.RW_sl0011_01
open PySem PySem.W PyProof.Rows
set_option Elab.async false
set_option linter.unusedVariables false
section
set_option maxRecDepth 100000
set_option maxHeartbeats 4000000
namespace Mine

inductive AV where
  | none
  | bool (b : Bool)
  | int (i : Int)
  | flt (x : UInt64)
  | str (s : Str)
  | list (l : List AV)
  | tup (l : List AV)
  | dict (l : List (Str × AV))

noncomputable def Av (X : List Addr) (v : Value) : Prop := ∀ a, v = .ref a → a ∉ X

inductive Sc : Value → AV → Prop
  | none : Sc .none .none
  | bool (b) : Sc (.bool b) (.bool b)
  | int (i t) : Sc (.int i t) (.int i)
  | flt (x t) : Sc (.float x t) (.flt x)
  | str (s t) : Sc (.str s t) (.str s)

inductive Rk : List (Str × Value) → List (Str × AV) → Prop
  | nil : Rk [] []
  | cons {k v V l L} : Sc v V → Rk l L → Rk ((k, v) :: l) ((k, V) :: L)

section
variable (prog : Program) (w : World)
mutual
inductive R (X : List Addr) (h : Heap) : Value → AV → Prop
  | sc {v V} : Sc v V → R X h v V
  | list {a n vs Vs} : h.get? a = some { cls := .type "list", data := .seq (List.toArray vs) n } → Rs X h vs Vs → R X h (.ref a) (.list Vs)
  | tup {a n vs Vs} : h.get? a = some { cls := .type "tuple", data := .seq (List.toArray vs) n } → Rs X h vs Vs → R X h (.ref a) (.tup Vs)
  | dict {a kvs L} : h.DictOf (strKind prog w) a kvs → Rk kvs L → R X h (.ref a) (.dict L)
inductive Rs (X : List Addr) (h : Heap) : List Value → List AV → Prop
  | nil : Rs X h [] []
  | cons {v V vs Vs} : Av X v → R X h v V → Rs X h vs Vs → Rs X h (v :: vs) (V :: Vs)
end
end

variable {prog : Program} {w : World}

noncomputable def Kp (h h' : Heap) : Prop := ∀ b o, h.get? b = some o → h'.get? b = some o
noncomputable def KpX (X : List Addr) (h h' : Heap) : Prop := ∀ b o, b ∉ X → h.get? b = some o → h'.get? b = some o
theorem Kp.refl (h : Heap) : Kp h h := fun _ _ e => e
theorem Kp.trans {h h' h'' : Heap} (a : Kp h h') (b : Kp h' h'') : Kp h h'' := fun _ _ e => b _ _ (a _ _ e)
theorem Kp.toX {X : List Addr} {h h' : Heap} (k : Kp h h') : KpX X h h' := fun b o _ e => k b o e

theorem dictOf_at {K : Type} [DecidableEq K] {knd : KeyKind prog w K} {h h' : Heap} {a : Addr} {kvs : List (K × Value)} (d : h.DictOf knd a kvs) (e : ∀ o, h.get? a = some o → h'.get? a = some o) : h'.DictOf knd a kvs := by
  obtain ⟨o, es, ep, h1, h2⟩ := d
  exact ⟨o, es, ep, e _ h1, h2⟩

mutual
theorem R.kpX {X : List Addr} {h h' : Heap} {v : Value} {V : AV} (k : KpX X h h') (hv : Av X v) (r : R prog w X h v V) : R prog w X h' v V := by
  cases r with
  | sc s => exact .sc s
  | list e rs => exact .list (k _ _ (hv _ rfl) e) (Rs.kpX k rs)
  | tup e rs => exact .tup (k _ _ (hv _ rfl) e) (Rs.kpX k rs)
  | dict d rk => exact .dict (dictOf_at d fun o e => k _ o (hv _ rfl) e) rk
theorem Rs.kpX {X : List Addr} {h h' : Heap} {vs : List Value} {Vs : List AV} (k : KpX X h h') (r : Rs prog w X h vs Vs) : Rs prog w X h' vs Vs := by
  cases r with
  | nil => exact .nil
  | cons a r rs => exact .cons a (R.kpX k a r) (Rs.kpX k rs)
end
theorem R.kp {X : List Addr} {h h' : Heap} {v : Value} {V : AV} (k : Kp h h') (r : R prog w X h v V) : R prog w X h' v V := by
  cases r with
  | sc s => exact .sc s
  | list e rs => exact .list (k _ _ e) (Rs.kpX k.toX rs)
  | tup e rs => exact .tup (k _ _ e) (Rs.kpX k.toX rs)
  | dict d rk => exact .dict (dictOf_at d fun o e => k _ o e) rk
theorem Rs.kp {X : List Addr} {h h' : Heap} {vs : List Value} {Vs : List AV} (k : Kp h h') (r : Rs prog w X h vs Vs) : Rs prog w X h' vs Vs := Rs.kpX k.toX r

theorem Av.sc {X : List Addr} {v : Value} {V : AV} (s : Sc v V) : Av X v := by
  intro a e; subst e; cases s

/- change of X: every new member names no object of the footprint -/
mutual
theorem R.swapX {X Y : List Addr} {h : Heap} {v : Value} {V : AV} (k : ∀ a ∈ Y, a ∈ X ∨ h.get? a = none) (r : R prog w X h v V) : R prog w Y h v V := by
  cases r with
  | sc s => exact .sc s
  | list e rs => exact .list e (Rs.swapX k rs)
  | tup e rs => exact .tup e (Rs.swapX k rs)
  | dict d rk => exact .dict d rk
theorem Rs.swapX {X Y : List Addr} {h : Heap} {vs : List Value} {Vs : List AV} (k : ∀ a ∈ Y, a ∈ X ∨ h.get? a = none) (r : Rs prog w X h vs Vs) : Rs prog w Y h vs Vs := by
  cases r with
  | nil => exact .nil
  | cons a r rs =>
    refine .cons (fun b hb hm => ?_) (R.swapX k r) (Rs.swapX k rs)
    subst hb
    rcases k _ hm with h1 | h1
    · exact a _ rfl h1
    · cases r with
      | sc s => cases s
      | list e _ => rw [h1] at e; cases e
      | tup e _ => rw [h1] at e; cases e
      | dict d _ => obtain ⟨o, _, _, e, _⟩ := d; rw [h1] at e; cases e
end
theorem Av.swapX {X Y : List Addr} {h : Heap} {v : Value} {V : AV} (k : ∀ a ∈ Y, a ∈ X ∨ h.get? a = none) (r : R prog w X h v V) (a : Av X v) : Av Y v := by
  intro b hb hm
  subst hb
  rcases k _ hm with h1 | h1
  · exact a _ rfl h1
  · cases r with
    | sc s => cases s
    | list e _ => rw [h1] at e; cases e
    | tup e _ => rw [h1] at e; cases e
    | dict d _ => obtain ⟨o, _, _, e, _⟩ := d; rw [h1] at e; cases e

/- later states: all objects kept, no world's act, generators only added, bare -/
structure Ext (s s' : Shared) : Prop where
  kp : Kp s.heap s'.heap
  os : s'.os = s.os
  gens : ∃ more, AllBare more ∧ s'.gens = s.gens ++ more
theorem Ext.refl (s : Shared) : Ext s s := ⟨.refl _, rfl, #[], .empty, by simp⟩
theorem Ext.trans {s s' s'' : Shared} (a : Ext s s') (b : Ext s' s'') : Ext s s'' := by
  refine ⟨a.kp.trans b.kp, b.os.trans a.os, ?_⟩
  obtain ⟨m, hm, e⟩ := a.gens
  obtain ⟨m', hm', e'⟩ := b.gens
  refine ⟨m ++ m', fun y hy => ?_, by rw [e', e, Array.append_assoc]⟩
  rcases Array.mem_append.mp hy with h | h
  · exact hm y h
  · exact hm' y h
theorem Ext.toks {s s' : Shared} (a : Ext s s') (t : Nat) : Ext s { s' with toks := t } := ⟨a.kp, a.os, a.gens⟩
theorem Ext.tok (s : Shared) (t : Nat) : Ext s { s with toks := t } := (Ext.refl s).toks t
theorem Ext.heap {s : Shared} {h' : Heap} (k : Kp s.heap h') (t : Nat) : Ext s { s with heap := h', toks := t } := ⟨k, rfl, #[], .empty, by simp⟩
theorem Ext.push (s : Shared) (o : Obj) : Ext s { s with heap := s.heap.push o } := ⟨fun _ _ e => Heap.get?_push_of_some _ e, rfl, #[], .empty, by simp⟩

/- the room that a call needs -/
structure AOk (n : Nat) (A : Around) : Prop where
  handled : A.handled = none
  depth : A.depth + n < recursionLimit
  units : A.units + 20 * n + 400 < cLine
theorem AOk.mono {n m : Nat} {A : Around} (a : AOk n A) (h : m ≤ n) : AOk m A := ⟨a.handled, by have := a.depth; omega, by have := a.units; omega⟩
theorem AOk.room {n : Nat} {A : Around} (a : AOk n A) : A.depth < recursionLimit := by have := a.depth; omega

/- the text's defs -/
noncomputable def defs (p : Program) : List DefRec := p.main.body.filterMap fun st => match st with
  | .FunctionDef name args body _ _ _ scope _ _ pos => some ⟨name, args, body, scope, pos⟩
  | _ => none
/- what the text's top left, read in any later state -/
structure Gl (prog : Program) (mg mb : Str → Option Value) (h : Heap) : Prop where
  g : h.Ns mainGlobals mg
  b : h.Ns builtinsNs mb
  lim : h.NoLimit
  fn : ∀ d ∈ defs prog, ∃ a o pm code doc, mg d.name = some (.ref a) ∧ h.get? a = some o ∧ o.data = .func (Calls.docDef d.name d.params d.body d.scope pm code doc) ∧ h.CodeRec code d.name

structure EnvOk (env : Env) : Prop where
  kind : env.scope.kind = .function
  globals : env.globals = mainGlobals
  builtins : env.builtins = builtinsNs

inductive VarIs (h : Heap) (env : Env) (x : Str) (v : Value) : Prop
  | loc (m) : env.kindOf x = some .local → h.Ns env.locals m → m x = some v → VarIs h env x v
  | cell (c) : env.kindOf x = some .cell → env.cells.lookup x = some c → h.IsCell c (some v) → VarIs h env x v
theorem ns_at {h h' : Heap} {a : Addr} {m : Str → Option Value} (n : h.Ns a m) (e : ∀ o, h.get? a = some o → h'.get? a = some o) : h'.Ns a m := by
  obtain ⟨o, es, ep, h1, r⟩ := n; exact ⟨o, es, ep, e _ h1, r⟩
theorem VarIs.kp {h h' : Heap} {env : Env} {x : Str} {v : Value} (k : Kp h h') (q : VarIs h env x v) : VarIs h' env x v := by
  cases q with
  | loc m a n e => exact .loc m a (ns_at n fun o e => k _ o e) e
  | cell c a b i => obtain ⟨o, h1, h2⟩ := i; exact .cell c a b ⟨o, k _ _ h1, h2⟩

structure Sl where
  val : AV
  own : Option (Option Addr) := none

noncomputable abbrev PEnv := List (Str × Sl)

/- the frame reads as ρ says -/
structure Rd (prog : Program) (w : World) (mg mb : Str → Option Value) (X : List Addr) (env : Env) (ρ : PEnv) (s : Shared) : Prop where
  gl : Gl prog mg mb s.heap
  live : ∀ a ∈ X, ∃ o, s.heap.get? a = some o
  vals : ∀ x sl, ρ.lookup x = some sl → ∃ v, VarIs s.heap env x v ∧ R prog w X s.heap v sl.val ∧ (sl.own = none → Av X v)

theorem Gl.kp {mg mb : Str → Option Value} {h h' : Heap} (g : Gl prog mg mb h) (k : Kp h h') : Gl prog mg mb h' :=
  ⟨ns_at g.g fun o e => k _ o e, ns_at g.b fun o e => k _ o e, g.lim.keeps k, fun d hd => let ⟨a, o, pm, code, doc, h1, h2, h3, h4⟩ := g.fn d hd; ⟨a, o, pm, code, doc, h1, k _ _ h2, h3, h4.keeps k⟩⟩
noncomputable abbrev Live (X : List Addr) (h : Heap) : Prop := ∀ a ∈ X, ∃ o, h.get? a = some o
theorem Live.kp {X : List Addr} {h h' : Heap} (l : Live X h) (k : Kp h h') : Live X h' := fun a ha => let ⟨o, e⟩ := l a ha; ⟨o, k _ _ e⟩

variable {mg mb : Str → Option Value}
theorem Rd.ext {X : List Addr} {env : Env} {ρ : PEnv} {s s' : Shared} (r : Rd prog w mg mb X env ρ s) (x : Ext s s') : Rd prog w mg mb X env ρ s' :=
  ⟨r.gl.kp x.kp, Live.kp r.live x.kp, fun y sl e => by
    obtain ⟨v, h1, h2, h3⟩ := r.vals y sl e
    exact ⟨v, h1.kp x.kp, h2.kp x.kp, h3⟩⟩

/- the judgement -/
noncomputable def Ev (prog : Program) (w : World) (mg mb : Str → Option Value) (n : Nat) (env : Env) (ρ : PEnv) (e : PySem.Expr) (V : AV) : Prop :=
  ∀ (A : Around) (X : List Addr) (s : Shared) (Q : Value → Shared → Prop) (E : Value → Shared → Prop), AOk n A → EnvOk env → Rd prog w mg mb X env ρ s →
    (∀ v s', Ext s s' → R prog w X s'.heap v V → Av X v → Q v s') → wpAny (model prog w) A (eval e env) Q E s

/- the value may be an own list of the frame's -/
noncomputable def EvO (prog : Program) (w : World) (mg mb : Str → Option Value) (n : Nat) (env : Env) (ρ : PEnv) (e : PySem.Expr) (V : AV) : Prop :=
  ∀ (A : Around) (X : List Addr) (s : Shared) (Q : Value → Shared → Prop) (E : Value → Shared → Prop), AOk n A → EnvOk env → Rd prog w mg mb X env ρ s →
    (∀ v s', Ext s s' → R prog w X s'.heap v V → Q v s') → wpAny (model prog w) A (eval e env) Q E s
variable {n : Nat} {env : Env} {ρ : PEnv}
theorem Ev.toO {e : PySem.Expr} {V : AV} (h : Ev prog w mg mb n env ρ e V) : EvO prog w mg mb n env ρ e V :=
  fun A X s Q E a eo r q => h A X s Q E a eo r fun v s' x r' _ => q v s' x r'

theorem get?_size (h : Heap) : h.get? h.objs.size = none := by
  cases q : h.get? h.objs.size with
  | none => rfl
  | some o => exact absurd (Heap.lt_size q) (Nat.lt_irrefl _)
theorem Av.new {X : List Addr} {a : Addr} {h : Heap} (l : Live X h) (e : h.get? a = none) : Av X (.ref a) := by
  intro b hb hm
  cases hb
  obtain ⟨o, q⟩ := l _ hm
  rw [e] at q; cases q
theorem Av.plain {X : List Addr} {v : Value} (h : ∀ a, v ≠ .ref a) : Av X v := fun a e => absurd e (h a)

end Mine
end
section
set_option maxRecDepth 100000
set_option maxHeartbeats 4000000
namespace Mine
variable {prog : Program} {w : World} {mg mb : Str → Option Value} {n : Nat} {env : Env} {ρ : PEnv} {X : List Addr} {h : Heap} {v : Value}

theorem R.int_inv {i : Int} (r : R prog w X h v (.int i)) : ∃ t, v = .int i t := by cases r with | sc s => cases s; exact ⟨_, rfl⟩
theorem R.bool_inv {b : Bool} (r : R prog w X h v (.bool b)) : v = .bool b := by cases r with | sc s => cases s; rfl
theorem R.str_inv {x : Str} (r : R prog w X h v (.str x)) : ∃ t, v = .str x t := by cases r with | sc s => cases s; exact ⟨_, rfl⟩
theorem R.flt_inv {x : UInt64} (r : R prog w X h v (.flt x)) : ∃ t, v = .float x t := by cases r with | sc s => cases s; exact ⟨_, rfl⟩
theorem R.none_inv (r : R prog w X h v .none) : v = .none := by cases r with | sc s => cases s; rfl
theorem R.list_inv {Vs : List AV} (r : R prog w X h v (.list Vs)) : ∃ a k vs, v = .ref a ∧ h.get? a = some { cls := .type "list", data := .seq (List.toArray vs) k } ∧ Rs prog w X h vs Vs := by
  cases r with
  | sc s => cases s
  | list e rs => exact ⟨_, _, _, rfl, e, rs⟩
theorem R.tup_inv {Vs : List AV} (r : R prog w X h v (.tup Vs)) : ∃ a k vs, v = .ref a ∧ h.get? a = some { cls := .type "tuple", data := .seq (List.toArray vs) k } ∧ Rs prog w X h vs Vs := by
  cases r with
  | sc s => cases s
  | tup e rs => exact ⟨_, _, _, rfl, e, rs⟩
theorem R.dict_inv {L : List (Str × AV)} (r : R prog w X h v (.dict L)) : ∃ a kvs, v = .ref a ∧ h.DictOf (strKind prog w) a kvs ∧ Rk kvs L := by
  cases r with
  | sc s => cases s
  | dict d k => exact ⟨_, _, rfl, d, k⟩
theorem isList_of {a : Addr} {k : Nat} {vs : List Value} (e : h.get? a = some { cls := .type "list", data := .seq (List.toArray vs) k }) : h.IsList a vs.toArray := ⟨_, e, rfl, _, rfl⟩
theorem isTuple_of {a : Addr} {k : Nat} {vs : List Value} (e : h.get? a = some { cls := .type "tuple", data := .seq (List.toArray vs) k }) : h.IsTuple a vs.toArray := ⟨_, e, rfl, _, rfl⟩
theorem Rs.length {vs : List Value} {Vs : List AV} (r : Rs prog w X h vs Vs) : vs.length = Vs.length := by
  match r with
  | .nil => rfl
  | .cons _ _ rs => rw [List.length_cons, List.length_cons, Rs.length rs]
theorem Rs.get {vs : List Value} {Vs : List AV} (r : Rs prog w X h vs Vs) {i : Nat} {V : AV} (e : Vs[i]? = some V) : ∃ v, vs[i]? = some v ∧ R prog w X h v V ∧ Av X v := by
  match r, i with
  | .nil, _ => simp at e
  | .cons a r rs, 0 => simp at e; subst e; exact ⟨_, rfl, r, a⟩
  | .cons a r rs, i + 1 => exact Rs.get rs (i := i) (by simpa using e)
theorem Rs.append {vs us : List Value} {Vs Us : List AV} (r : Rs prog w X h vs Vs) (q : Rs prog w X h us Us) : Rs prog w X h (vs ++ us) (Vs ++ Us) := by
  match r with
  | .nil => exact q
  | .cons a r rs => exact .cons a r (Rs.append rs q)
theorem Rs.take {vs : List Value} {Vs : List AV} (r : Rs prog w X h vs Vs) (i : Nat) : Rs prog w X h (vs.take i) (Vs.take i) := by
  match r, i with
  | .nil, _ => simp; exact .nil
  | .cons .., 0 => exact .nil
  | .cons a r rs, i + 1 => exact .cons a r (Rs.take rs i)
theorem Rs.drop {vs : List Value} {Vs : List AV} (r : Rs prog w X h vs Vs) (i : Nat) : Rs prog w X h (vs.drop i) (Vs.drop i) := by
  match r, i with
  | .nil, _ => simp; exact .nil
  | .cons a r rs, 0 => exact .cons a r rs
  | .cons a r rs, i + 1 => exact Rs.drop rs i
theorem Rs.one {V : AV} (a : Av X v) (r : R prog w X h v V) : Rs prog w X h [v] [V] := .cons a r .nil

noncomputable abbrev Post (prog : Program) (w : World) (X : List Addr) (s : Shared) (Q : Value → Shared → Prop) (V : AV) : Prop := ∀ v s', Ext s s' → R prog w X s'.heap v V → Av X v → Q v s'
theorem Post.sc {s : Shared} {Q : Value → Shared → Prop} {V : AV} (p : Post prog w X s Q V) (hs : Sc v V) (t : Nat) : Q v { s with toks := t } := p _ _ (Ext.tok s t) (.sc hs) (.sc hs)
theorem Post.sc0 {s : Shared} {Q : Value → Shared → Prop} {V : AV} (p : Post prog w X s Q V) (hs : Sc v V) : Q v s := p _ _ (Ext.refl s) (.sc hs) (.sc hs)
theorem Post.after {s s' : Shared} {Q : Value → Shared → Prop} {V : AV} (p : Post prog w X s Q V) (x : Ext s s') : Post prog w X s' Q V := fun v s'' y r a => p v s'' (x.trans y) r a

/- names -/
theorem Ev.var {x : Str} {pos : Pos} {V : AV} (hx : ρ.lookup x = some ⟨V, none⟩) (hd : (x == ("__debug__" : Str)) = false := by rfl) : Ev prog w mg mb n env ρ (.Name x pos) V := by
  intro A X s Q E _ eo r q
  obtain ⟨v, hv, hr, ha⟩ := r.vals x _ hx
  cases hv with
  | loc m hk hn e => exact wpAny_Name (wpAny_loadName_local eo.kind hk hn e (q v s (.refl s) hr (ha rfl))) hd
  | cell c hk hc hi => exact wpAny_Name (wpAny_loadName_cell eo.kind hk hc hi (q v s (.refl s) hr (ha rfl))) hd
theorem EvO.var {x : Str} {pos : Pos} {V : AV} {o : Option (Option Addr)} (hx : ρ.lookup x = some ⟨V, o⟩) (hd : (x == ("__debug__" : Str)) = false := by rfl) : EvO prog w mg mb n env ρ (.Name x pos) V := by
  intro A X s Q E _ eo r q
  obtain ⟨v, hv, hr, ha⟩ := r.vals x _ hx
  cases hv with
  | loc m hk hn e => exact wpAny_Name (wpAny_loadName_local eo.kind hk hn e (q v s (.refl s) hr)) hd
  | cell c hk hc hi => exact wpAny_Name (wpAny_loadName_cell eo.kind hk hc hi (q v s (.refl s) hr)) hd
theorem Ev.glob {x : Str} {pos : Pos} {v : Value} {V : AV} (hk : env.kindOf x = some .globalImplicit) (hm : mg x = some v) (hs : Sc v V) (hd : (x == ("__debug__" : Str)) = false := by rfl) : Ev prog w mg mb n env ρ (.Name x pos) V := by
  intro A X s Q E _ eo r q
  exact Calls.Name_function_global eo.kind hk (Calls.loadGlobal_global (mg := mg) (by rw [eo.globals]; exact r.gl.g) hm (Post.sc0 q hs)) hd

/- constants -/
theorem Ev.cint {i : Int} {k : Nat} {pos : Pos} : Ev prog w mg mb n env ρ (.Constant (.int i) k pos) (.int i) := fun A X s Q E _ _ _ q => wpAny_Constant_int (Post.sc q (.int _ _) _)
theorem Ev.cstr {x : Str} {k : Nat} {pos : Pos} : Ev prog w mg mb n env ρ (.Constant (.str x) k pos) (.str x) := fun A X s Q E _ _ _ q => Calls.Constant_str (Post.sc q (.str _ _) _)
theorem Ev.cflt {x : UInt64} {k : Nat} {pos : Pos} : Ev prog w mg mb n env ρ (.Constant (.float x) k pos) (.flt x) := fun A X s Q E _ _ _ q => fun _ _ _ => Post.sc q (.flt _ _) _
theorem Ev.cbool {x : Bool} {k : Nat} {pos : Pos} : Ev prog w mg mb n env ρ (.Constant (.bool x) k pos) (.bool x) := fun A X s Q E _ _ _ q => fun _ _ _ => Post.sc0 q (.bool _)
theorem Ev.cnone {k : Nat} {pos : Pos} : Ev prog w mg mb n env ρ (.Constant .none k pos) .none := fun A X s Q E _ _ _ q => fun _ _ _ => Post.sc0 q .none

/- operators -/
noncomputable def OpB (prog : Program) (w : World) (op : Operator) (V₁ V₂ V : AV) : Prop :=
  ∀ (n : Nat) (A : Around) (X : List Addr) (s : Shared) (Q E : Value → Shared → Prop) (v₁ v₂ : Value), AOk n A → Live X s.heap → R prog w X s.heap v₁ V₁ → R prog w X s.heap v₂ V₂ →
    Post prog w X s Q V → wpAny (model prog w) A (binaryOp op v₁ v₂) Q E s
theorem Ev.bin {l r : PySem.Expr} {op : Operator} {pos : Pos} {V₁ V₂ V : AV} (hl : EvO prog w mg mb n env ρ l V₁) (hr : EvO prog w mg mb n env ρ r V₂) (ho : OpB prog w op V₁ V₂ V) : Ev prog w mg mb n env ρ (.BinOp l op r pos) V := by
  intro A X s Q E a eo rd q
  refine wpAny_BinOp (hl A X s _ E a eo rd fun v₁ s₁ x₁ r₁ => hr A X s₁ _ E a eo (rd.ext x₁) fun v₂ s₂ x₂ r₂ => ?_)
  exact ho n A X s₂ Q E v₁ v₂ a ((rd.ext x₁).ext x₂).live (r₁.kp x₂.kp) r₂ (Post.after q (x₁.trans x₂))
section
variable {i j : Int} {x y : Str} {f g : UInt64}
theorem OpB.addI : OpB prog w .Add (.int i) (.int j) (.int (i + j)) := by
  intro n A X s Q E v₁ v₂ _ _ r₁ r₂ q; obtain ⟨t, rfl⟩ := r₁.int_inv; obtain ⟨u, rfl⟩ := r₂.int_inv
  exact PyProof.Rows.add_int (Post.sc q (.int _ _) _)
theorem OpB.subI : OpB prog w .Sub (.int i) (.int j) (.int (i - j)) := by
  intro n A X s Q E v₁ v₂ _ _ r₁ r₂ q; obtain ⟨t, rfl⟩ := r₁.int_inv; obtain ⟨u, rfl⟩ := r₂.int_inv
  exact PyProof.Rows.sub_int (Post.sc q (.int _ _) _)
theorem OpB.modI (hj : j ≠ 0) : OpB prog w .Mod (.int i) (.int j) (.int (i.fmod j)) := by
  intro n A X s Q E v₁ v₂ _ _ r₁ r₂ q; obtain ⟨t, rfl⟩ := r₁.int_inv; obtain ⟨u, rfl⟩ := r₂.int_inv
  exact PyProof.Rows.mod_int hj (Post.sc q (.int _ _) _)
theorem OpB.addS (hz : x.length + y.length ≤ 1048576) : OpB prog w .Add (.str x) (.str y) (.str (x ++ y)) := by
  intro n A X s Q E v₁ v₂ _ _ r₁ r₂ q; obtain ⟨t, rfl⟩ := r₁.str_inv; obtain ⟨u, rfl⟩ := r₂.str_inv
  exact PyProof.Rows.add_str (fun t' k => Post.sc q (.str _ _) _) (by rw [sizeLine_eq]; omega)
theorem OpB.addF : OpB prog w .Add (.flt f) (.flt g) (.flt (Float64.add f g)) := by
  intro n A X s Q E v₁ v₂ _ _ r₁ r₂ q; obtain ⟨t, rfl⟩ := r₁.flt_inv; obtain ⟨u, rfl⟩ := r₂.flt_inv
  exact PyProof.Rows.add_float (Post.sc q (.flt _ _) _)
theorem OpB.subF : OpB prog w .Sub (.flt f) (.flt g) (.flt (Float64.sub f g)) := by
  intro n A X s Q E v₁ v₂ _ _ r₁ r₂ q; obtain ⟨t, rfl⟩ := r₁.flt_inv; obtain ⟨u, rfl⟩ := r₂.flt_inv
  exact PyProof.Rows.sub_float (Post.sc q (.flt _ _) _)
theorem OpB.mulF : OpB prog w .Mult (.flt f) (.flt g) (.flt (Float64.mul f g)) := by
  intro n A X s Q E v₁ v₂ _ _ r₁ r₂ q; obtain ⟨t, rfl⟩ := r₁.flt_inv; obtain ⟨u, rfl⟩ := r₂.flt_inv
  exact PyProof.Rows.mul_float (Post.sc q (.flt _ _) _)
theorem OpB.divF (hg : ¬ Float64.isZero g = true) : OpB prog w .Div (.flt f) (.flt g) (.flt (Float64.div f g)) := by
  intro n A X s Q E v₁ v₂ a _ r₁ r₂ q; obtain ⟨t, rfl⟩ := r₁.flt_inv; obtain ⟨u, rfl⟩ := r₂.flt_inv
  exact truediv_float_or a.handled (fun h => absurd h hg) fun _ => (Post.sc q (.flt _ _) _)
theorem OpB.addFI (hj : j.natAbs < 2 ^ 1023) : OpB prog w .Add (.flt f) (.int j) (.flt (Float64.add f (Float64.ofInt j))) := by
  intro n A X s Q E v₁ v₂ _ _ r₁ r₂ q; obtain ⟨t, rfl⟩ := r₁.flt_inv; obtain ⟨u, rfl⟩ := r₂.int_inv
  exact add_fi_fits hj (Post.sc q (.flt _ _) _)
theorem OpB.subFI (hj : j.natAbs < 2 ^ 1023) : OpB prog w .Sub (.flt f) (.int j) (.flt (Float64.sub f (Float64.ofInt j))) := by
  intro n A X s Q E v₁ v₂ _ _ r₁ r₂ q; obtain ⟨t, rfl⟩ := r₁.flt_inv; obtain ⟨u, rfl⟩ := r₂.int_inv
  exact sub_fi_fits hj (Post.sc q (.flt _ _) _)
theorem OpB.mulIF (hi : i.natAbs < 2 ^ 1023) : OpB prog w .Mult (.int i) (.flt f) (.flt (Float64.mul (Float64.ofInt i) f)) := by
  intro n A X s Q E v₁ v₂ _ _ r₁ r₂ q; obtain ⟨t, rfl⟩ := r₁.int_inv; obtain ⟨u, rfl⟩ := r₂.flt_inv
  exact mul_if_fits hi (Post.sc q (.flt _ _) _)
end
end Mine
end
section
set_option maxRecDepth 100000
set_option maxHeartbeats 4000000
namespace Mine
variable {prog : Program} {w : World} {mg mb : Str → Option Value} {n : Nat} {env : Env} {ρ : PEnv} {X : List Addr} {h : Heap} {v : Value}
section
variable {i j : Int} {x y : Str} {f g : UInt64}
theorem bits_small {a : Int} (h : a.natAbs < 2 ^ 62) : Builtin.Int.intBits a ≤ 64 := X.bits_le' h
  where X.bits_le' {a : Int} (h : a.natAbs < 2 ^ 62) : Builtin.Int.intBits a ≤ 64 := intBits_le_64 (by omega) (by omega)
theorem OpB.mulI (hi : i.natAbs < 2 ^ 62) : OpB prog w .Mult (.int i) (.int j) (.int (i * j)) := by
  intro n A X s Q E v₁ v₂ _ _ r₁ r₂ q; obtain ⟨t, rfl⟩ := r₁.int_inv; obtain ⟨u, rfl⟩ := r₂.int_inv
  exact PyProof.Rows.mul_int (Post.sc q (.int _ _) _) (IntMulOk.of_left (bits_small hi))
theorem OpB.fdivI (hj : j ≠ 0) (hi : i.natAbs < 2 ^ 30) (hj2 : j.natAbs < 2 ^ 30) : OpB prog w .FloorDiv (.int i) (.int j) (.int (i.fdiv j)) := by
  intro n A X s Q E v₁ v₂ _ _ r₁ r₂ q; obtain ⟨t, rfl⟩ := r₁.int_inv; obtain ⟨u, rfl⟩ := r₂.int_inv
  exact PyProof.Rows.floordiv_int hj (Post.sc q (.int _ _) _) (.inl (PyProof.noPylong_small (by omega)))
theorem OpB.divI (hj : j ≠ 0) (hf : ¬ Float64.isInf (Float64.ofFrac (decide (i < 0) != decide (j < 0)) i.natAbs j.natAbs) = true) :
    OpB prog w .Div (.int i) (.int j) (.flt (Float64.ofFrac (decide (i < 0) != decide (j < 0)) i.natAbs j.natAbs)) := by
  intro n A X s Q E v₁ v₂ a _ r₁ r₂ q; obtain ⟨t, rfl⟩ := r₁.int_inv; obtain ⟨u, rfl⟩ := r₂.int_inv
  exact Flt.div_ii a.handled (fun e => absurd e hj) (fun _ e => absurd e hf) fun _ _ => Post.sc q (.flt _ _) _
theorem OpB.modF (hg : ¬ Float64.isZero g = true) : OpB prog w .Mod (.flt f) (.flt g) (.flt (Float64.divmod f g).2) := by
  intro n A X s Q E v₁ v₂ a _ r₁ r₂ q; obtain ⟨t, rfl⟩ := r₁.flt_inv; obtain ⟨u, rfl⟩ := r₂.flt_inv
  exact Flt.mod_ff a.handled (fun e => absurd e hg) fun _ => Post.sc q (.flt _ _) _
theorem OpB.mulSI (hx : x.length ≤ 4096) (hi : i ≤ 1024) (hl : -4096 ≤ i) : OpB prog w .Mult (.str x) (.int i) (.str (Txt.mul x i)) := by
  intro n A X s Q E v₁ v₂ a _ r₁ r₂ q; obtain ⟨t, rfl⟩ := r₁.str_inv; obtain ⟨u, rfl⟩ := r₂.int_inv
  exact SB.mul (mulOk_of 4096 1024 hx (by omega) (by omega) (by decide) (by decide)) fun t' k => Post.sc q (.str _ _) _
theorem OpB.addL {Us Vs : List AV} (hz : Us.length + Vs.length ≤ 1048576) : OpB prog w .Add (.list Us) (.list Vs) (.list (Us ++ Vs)) := by
  intro n A X s Q E v₁ v₂ a lv r₁ r₂ q
  obtain ⟨l, k, us, rfl, e₁, rs₁⟩ := r₁.list_inv
  obtain ⟨b, k', vs, rfl, e₂, rs₂⟩ := r₂.list_inv
  refine P.add_list e₁ e₂ ?_ (by rw [List.size_toArray, List.size_toArray, rs₁.length, rs₂.length, sizeLine_eq]; omega)
  refine q _ _ (Ext.push _ _) ?_ (Av.new lv (get?_size _))
  have ep := (Ext.push s { cls := .type "list", data := .seq (us.toArray ++ vs.toArray) }).kp
  refine .list (n := 0) (vs := us ++ vs) ?_ ((rs₁.kp ep).append (rs₂.kp ep))
  have : us.toArray ++ vs.toArray = (us ++ vs).toArray := by simp
  rw [← this]
  exact Heap.get?_push_size _ rfl
end

noncomputable def OpU (prog : Program) (w : World) (op : PySem.UnaryOp) (V₁ V : AV) : Prop :=
  ∀ (n : Nat) (A : Around) (X : List Addr) (s : Shared) (Q E : Value → Shared → Prop) (v₁ : Value), AOk n A → Live X s.heap → R prog w X s.heap v₁ V₁ →
    Post prog w X s Q V → wpAny (model prog w) A (unaryOp op v₁) Q E s
theorem Ev.un {e : PySem.Expr} {op : PySem.UnaryOp} {pos : Pos} {V₁ V : AV} (hl : EvO prog w mg mb n env ρ e V₁) (ho : OpU prog w op V₁ V) : Ev prog w mg mb n env ρ (.UnaryOp op e pos) V := by
  intro A X s Q E a eo rd q
  show wpAny _ _ (do let v ← eval e env; standAt pos; holding [v] (unaryOp op v)) _ _ _
  refine wpAny_bind (hl A X s _ E a eo rd fun v₁ s₁ x₁ r₁ => wpAny_bind (wpAny_standAt (wpAny_holding ?_)))
  exact ho n A X s₁ Q E v₁ a (rd.ext x₁).live r₁ (Post.after q x₁)
theorem OpU.neg {i : Int} : OpU prog w .USub (.int i) (.int (-i)) := by
  intro n A X s Q E v₁ _ _ r₁ q; obtain ⟨t, rfl⟩ := r₁.int_inv
  exact P.neg_int (Post.sc q (.int _ _) _)

/- comparisons -/
noncomputable def OpC (prog : Program) (w : World) (op : CmpOp) (V₁ V₂ : AV) (b : Bool) : Prop :=
  ∀ (n : Nat) (A : Around) (X : List Addr) (s : Shared) (Q E : Value → Shared → Prop) (v₁ v₂ : Value), AOk n A → R prog w X s.heap v₁ V₁ → R prog w X s.heap v₂ V₂ →
    (∀ s', Ext s s' → Q (.bool b) s') → wpAny (model prog w) A (compareOp op v₁ v₂) Q E s
theorem Ev.cmp {l r : PySem.Expr} {op : CmpOp} {pos : Pos} {V₁ V₂ : AV} {b : Bool} (hl : EvO prog w mg mb n env ρ l V₁) (hr : EvO prog w mg mb n env ρ r V₂) (ho : OpC prog w op V₁ V₂ b) (hm : behindInMarks op r = false := by rfl) :
    Ev prog w mg mb n env ρ (.Compare l [op] [r] pos) (.bool b) := by
  intro A X s Q E a eo rd q
  refine wpAny_Compare1 (hl A X s _ E a eo rd fun v₁ s₁ x₁ r₁ => hr A X s₁ _ E a eo (rd.ext x₁) fun v₂ s₂ x₂ r₂ => ?_) hm
  exact ho n A X s₂ Q E v₁ v₂ a (r₁.kp x₂.kp) r₂ fun s' x' => Post.sc0 (Post.after q ((x₁.trans x₂).trans x')) (.bool _)
section
variable {i j : Int} {x y : Str} {f g : UInt64} {b c : Bool}
theorem OpC.ltI : OpC prog w .Lt (.int i) (.int j) (decide (i < j)) := by
  intro n A X s Q E v₁ v₂ _ r₁ r₂ q; obtain ⟨t, rfl⟩ := r₁.int_inv; obtain ⟨u, rfl⟩ := r₂.int_inv
  exact PyProof.Rows.lt_int (q _ (.refl _))
theorem OpC.gtI : OpC prog w .Gt (.int i) (.int j) (decide (j < i)) := by
  intro n A X s Q E v₁ v₂ _ r₁ r₂ q; obtain ⟨t, rfl⟩ := r₁.int_inv; obtain ⟨u, rfl⟩ := r₂.int_inv
  exact PyProof.Rows.gt_int (q _ (.refl _))
theorem OpC.leI : OpC prog w .LtE (.int i) (.int j) (decide (i ≤ j)) := by
  intro n A X s Q E v₁ v₂ _ r₁ r₂ q; obtain ⟨t, rfl⟩ := r₁.int_inv; obtain ⟨u, rfl⟩ := r₂.int_inv
  exact PyProof.Rows.le_int (q _ (.refl _))
theorem OpC.geI : OpC prog w .GtE (.int i) (.int j) (decide (j ≤ i)) := by
  intro n A X s Q E v₁ v₂ _ r₁ r₂ q; obtain ⟨t, rfl⟩ := r₁.int_inv; obtain ⟨u, rfl⟩ := r₂.int_inv
  exact PyProof.Rows.ge_int (q _ (.refl _))
theorem OpC.eqI : OpC prog w .Eq (.int i) (.int j) (i == j) := by
  intro n A X s Q E v₁ v₂ _ r₁ r₂ q; obtain ⟨t, rfl⟩ := r₁.int_inv; obtain ⟨u, rfl⟩ := r₂.int_inv
  exact PyProof.Rows.eq_int (q _ (.refl _))
theorem OpC.neI : OpC prog w .NotEq (.int i) (.int j) (i != j) := by
  intro n A X s Q E v₁ v₂ _ r₁ r₂ q; obtain ⟨t, rfl⟩ := r₁.int_inv; obtain ⟨u, rfl⟩ := r₂.int_inv
  exact PyProof.Rows.ne_int (q _ (.refl _))
theorem OpC.eqS : OpC prog w .Eq (.str x) (.str y) (x == y) := by
  intro n A X s Q E v₁ v₂ _ r₁ r₂ q; obtain ⟨t, rfl⟩ := r₁.str_inv; obtain ⟨u, rfl⟩ := r₂.str_inv
  exact PyProof.Rows.eq_str (q _ (.refl _))
theorem OpC.inS : OpC prog w .In (.str y) (.str x) (Txt.contains x y) := by
  intro n A X s Q E v₁ v₂ _ r₁ r₂ q; obtain ⟨t, rfl⟩ := r₁.str_inv; obtain ⟨u, rfl⟩ := r₂.str_inv
  exact SB.contains (q _ (.refl _))
theorem OpC.notInS : OpC prog w .NotIn (.str y) (.str x) (!Txt.contains x y) := by
  intro n A X s Q E v₁ v₂ _ r₁ r₂ q; obtain ⟨t, rfl⟩ := r₁.str_inv; obtain ⟨u, rfl⟩ := r₂.str_inv
  exact SB.notContains (q _ (.refl _))
theorem OpC.eqF : OpC prog w .Eq (.flt f) (.flt g) (Float64.cmp f g == some Ordering.eq) := by
  intro n A X s Q E v₁ v₂ _ r₁ r₂ q; obtain ⟨t, rfl⟩ := r₁.flt_inv; obtain ⟨u, rfl⟩ := r₂.flt_inv
  exact AutoFloatOps.eq_0 (q _ (.refl _))
theorem OpC.ltF : OpC prog w .Lt (.flt f) (.flt g) (Float64.cmp f g == some Ordering.lt) := by
  intro n A X s Q E v₁ v₂ _ r₁ r₂ q; obtain ⟨t, rfl⟩ := r₁.flt_inv; obtain ⟨u, rfl⟩ := r₂.flt_inv
  exact AutoFloatOps.lt_0 (q _ (.refl _))
theorem OpC.gtF : OpC prog w .Gt (.flt f) (.flt g) (Float64.cmp f g == some Ordering.gt) := by
  intro n A X s Q E v₁ v₂ _ r₁ r₂ q; obtain ⟨t, rfl⟩ := r₁.flt_inv; obtain ⟨u, rfl⟩ := r₂.flt_inv
  exact AutoFloatOps.gt_0 (q _ (.refl _))
theorem OpC.leF : OpC prog w .LtE (.flt f) (.flt g) (Float64.cmp f g == some Ordering.lt || Float64.cmp f g == some Ordering.eq) := by
  intro n A X s Q E v₁ v₂ _ r₁ r₂ q; obtain ⟨t, rfl⟩ := r₁.flt_inv; obtain ⟨u, rfl⟩ := r₂.flt_inv
  exact AutoFloatOps.le_0 (q _ (.refl _))
theorem OpC.isNotB : OpC prog w .IsNot (.bool b) (.bool c) (b != c) := by
  intro n A X s Q E v₁ v₂ _ r₁ r₂ q; obtain rfl := r₁.bool_inv; obtain rfl := r₂.bool_inv
  exact isnot_bool (q _ (.refl _))
theorem OpC.isNoneN : OpC prog w .Is .none .none true := by
  intro n A X s Q E v₁ v₂ _ r₁ r₂ q; obtain rfl := r₁.none_inv; obtain rfl := r₂.none_inv
  exact is_none_none (q _ (.refl _))
theorem OpC.isNoneI : OpC prog w .Is (.int i) .none false := by
  intro n A X s Q E v₁ v₂ _ r₁ r₂ q; obtain ⟨t, rfl⟩ := r₁.int_inv; obtain rfl := r₂.none_inv
  exact is_int_none (q _ (.refl _))
end

/- tests -/
noncomputable def Tr (prog : Program) (w : World) (mg mb : Str → Option Value) (n : Nat) (env : Env) (ρ : PEnv) (e : PySem.Expr) (b : Bool) : Prop :=
  ∀ (A : Around) (X : List Addr) (s : Shared) (Q : Bool → Shared → Prop) (E : Value → Shared → Prop), AOk n A → EnvOk env → Rd prog w mg mb X env ρ s →
    (∀ s', Ext s s' → Q b s') → wpAny (model prog w) A (isTrue e env (eval e env)) Q E s
theorem Tr.cmp {l r : PySem.Expr} {op : CmpOp} {pos : Pos} {V₁ V₂ : AV} {b : Bool} (hl : EvO prog w mg mb n env ρ l V₁) (hr : EvO prog w mg mb n env ρ r V₂) (ho : OpC prog w op V₁ V₂ b) (hm : behindInMarks op r = false := by rfl) :
    Tr prog w mg mb n env ρ (.Compare l [op] [r] pos) b := by
  intro A X s Q E a eo rd q
  refine wpAny_isTrue_Compare1 (hl A X s _ E a eo rd fun v₁ s₁ x₁ r₁ => hr A X s₁ _ E a eo (rd.ext x₁) fun v₂ s₂ x₂ r₂ => ?_) hm
  exact ho n A X s₂ _ E v₁ v₂ a (r₁.kp x₂.kp) r₂ fun s' x' => wpAny_truthy_bool (q _ ((x₁.trans x₂).trans x'))
noncomputable def Truth (prog : Program) (w : World) (V : AV) (b : Bool) : Prop :=
  ∀ (n : Nat) (A : Around) (X : List Addr) (s : Shared) (Q : Bool → Shared → Prop) (E : Value → Shared → Prop) (v : Value), AOk n A → R prog w X s.heap v V → (∀ s', Ext s s' → Q b s') → wpAny (model prog w) A (truthy v) Q E s
theorem Truth.bool {b : Bool} : Truth prog w (.bool b) b := by
  intro n A X s Q E v _ r q; obtain rfl := r.bool_inv
  exact wpAny_truthy_bool (q _ (.refl _))
theorem Truth.str {x : Str} (hx : x.length ≤ 1048576) : Truth prog w (.str x) (x.length != 0) := by
  intro n A X s Q E v _ r q; obtain ⟨t, rfl⟩ := r.str_inv
  refine P.truthy_str (by omega) ?_
  have e : ((x.length : Int) != 0) = (x.length != 0) := by
    cases h : x.length with
    | zero => rfl
    | succ k => simp only [bne]; rfl
  rw [e]
  exact q _ (Ext.tok _ _)
theorem Tr.val {e : PySem.Expr} {V : AV} {b : Bool} (he : EvO prog w mg mb n env ρ e V) (ht : Truth prog w V b) (hp : isTrue e env (eval e env) = (do let v ← eval e env; standAt e.pos; holding [v] (truthy v)) := by rfl) : Tr prog w mg mb n env ρ e b := by
  intro A X s Q E a eo rd q
  rw [hp]
  exact wpAny_bind (he A X s _ E a eo rd fun v₁ s₁ x₁ r₁ => wpAny_bind (wpAny_standAt (wpAny_holding (ht n A X s₁ _ E v₁ a r₁ fun s' x' => q _ (x₁.trans x')))))
theorem Tr.orN {pos : Pos} : Tr prog w mg mb n env ρ (.BoolOp .Or [] pos) false := fun A X s Q E _ _ _ q => isTrue_or_nil (q _ (.refl _))
theorem Tr.orC {x : PySem.Expr} {rest : List PySem.Expr} {pos : Pos} {b c : Bool} (h : Tr prog w mg mb n env ρ x b) (hc : b = false → Tr prog w mg mb n env ρ (.BoolOp .Or rest pos) c) : Tr prog w mg mb n env ρ (.BoolOp .Or (x :: rest) pos) (b || c) := by
  intro A X s Q E a eo rd q
  refine isTrue_or (h A X s _ E a eo rd fun s₁ x₁ => ?_)
  cases b with
  | true => exact q _ x₁
  | false => exact hc rfl A X s₁ Q E a eo (rd.ext x₁) fun s' x' => q _ (x₁.trans x')
theorem Tr.chain2 {l r₁ r₂ : PySem.Expr} {o₁ o₂ : CmpOp} {pos : Pos} {V V₁ V₂ : AV} {b c : Bool} (hl : EvO prog w mg mb n env ρ l V) (h₁ : EvO prog w mg mb n env ρ r₁ V₁) (p₁ : OpC prog w o₁ V V₁ b)
    (h₂ : EvO prog w mg mb n env ρ r₂ V₂) (p₂ : OpC prog w o₂ V₁ V₂ c) (hm : lastMarks [o₁, o₂] [r₁, r₂] = false := by rfl) : Tr prog w mg mb n env ρ (.Compare l [o₁, o₂] [r₁, r₂] pos) (b && c) := by
  intro A X s Q E a eo rd q
  refine isTrue_chain (hl A X s _ E a eo rd fun v₀ s₀ x₀ r₀ => test_link (h₁ A X s₀ _ E a eo (rd.ext x₀) fun v₁ s₁ x₁ q₁ => ?_)) hm
  refine p₁ n A X s₁ _ E v₀ v₁ a (r₀.kp x₁.kp) q₁ fun s₂ x₂ => wpAny_truthy_bool ?_
  cases b with
  | false => exact q _ ((x₀.trans x₁).trans x₂)
  | true =>
    refine test_last (h₂ A X s₂ _ E a eo (((rd.ext x₀).ext x₁).ext x₂) fun v₂ s₃ x₃ q₂ => ?_)
    exact p₂ n A X s₃ _ E v₁ v₂ a ((q₁.kp x₂.kp).kp x₃.kp) q₂ fun s₄ x₄ => wpAny_truthy_bool (q _ ((((x₀.trans x₁).trans x₂).trans x₃).trans x₄))
theorem Ev.chain2 {l r₁ r₂ : PySem.Expr} {o₁ o₂ : CmpOp} {pos : Pos} {V V₁ V₂ : AV} {b c : Bool} (hl : EvO prog w mg mb n env ρ l V) (h₁ : EvO prog w mg mb n env ρ r₁ V₁) (p₁ : OpC prog w o₁ V V₁ b)
    (h₂ : EvO prog w mg mb n env ρ r₂ V₂) (p₂ : OpC prog w o₂ V₁ V₂ c) (hm : lastMarks [o₁, o₂] [r₁, r₂] = false := by rfl) : Ev prog w mg mb n env ρ (.Compare l [o₁, o₂] [r₁, r₂] pos) (.bool (b && c)) := by
  intro A X s Q E a eo rd q
  refine Compare_chain (hl A X s _ E a eo rd fun v₀ s₀ x₀ r₀ => chain_link (h₁ A X s₀ _ E a eo (rd.ext x₀) fun v₁ s₁ x₁ q₁ => ?_)) hm
  refine p₁ n A X s₁ _ E v₀ v₁ a (r₀.kp x₁.kp) q₁ fun s₂ x₂ => wpAny_truthy_bool ?_
  cases b with
  | false => exact Post.sc0 (Post.after q ((x₀.trans x₁).trans x₂)) (.bool _)
  | true =>
    refine chain_last (h₂ A X s₂ _ E a eo (((rd.ext x₀).ext x₁).ext x₂) fun v₂ s₃ x₃ q₂ => ?_)
    exact p₂ n A X s₃ _ E v₁ v₂ a ((q₁.kp x₂.kp).kp x₃.kp) q₂ fun s₄ x₄ => Post.sc0 (Post.after q ((((x₀.trans x₁).trans x₂).trans x₃).trans x₄)) (.bool _)
theorem Ev.ifExp {t b o : PySem.Expr} {pos : Pos} {c : Bool} {V : AV} (ht : Tr prog w mg mb n env ρ t c) (hb : c = true → Ev prog w mg mb n env ρ b V) (ho : c = false → Ev prog w mg mb n env ρ o V) : Ev prog w mg mb n env ρ (.IfExp t b o pos) V := by
  intro A X s Q E a eo rd q
  show wpAny _ _ (do if ← isTrue t env (eval t env) then eval b env else eval o env) _ _ _
  refine wpAny_bind (ht A X s _ E a eo rd fun s₁ x₁ => ?_)
  cases c with
  | true => exact hb rfl A X s₁ Q E a eo (rd.ext x₁) (Post.after q x₁)
  | false => exact ho rfl A X s₁ Q E a eo (rd.ext x₁) (Post.after q x₁)
end Mine
end
section
set_option maxRecDepth 100000
set_option maxHeartbeats 4000000
namespace Mine
variable {prog : Program} {w : World} {mg mb : Str → Option Value} {n : Nat} {env : Env} {ρ : PEnv} {X : List Addr} {h : Heap} {v : Value}

inductive RsO (prog : Program) (w : World) (X : List Addr) (h : Heap) : List Value → List AV → Prop
  | nil : RsO prog w X h [] []
  | cons {v V vs Vs} : R prog w X h v V → RsO prog w X h vs Vs → RsO prog w X h (v :: vs) (V :: Vs)
theorem Rs.toO {vs : List Value} {Vs : List AV} (r : Rs prog w X h vs Vs) : RsO prog w X h vs Vs := by
  match r with
  | .nil => exact .nil
  | .cons _ r rs => exact .cons r (Rs.toO rs)
theorem RsO.kp {h' : Heap} {vs : List Value} {Vs : List AV} (k : Kp h h') (r : RsO prog w X h vs Vs) : RsO prog w X h' vs Vs := by
  induction r with
  | nil => exact .nil
  | cons r _ ih => exact .cons (r.kp k) ih

/- several arguments -/
noncomputable def EvsO (prog : Program) (w : World) (mg mb : Str → Option Value) (n : Nat) (env : Env) (ρ : PEnv) (es : List PySem.Expr) (Vs : List AV) : Prop :=
  ∀ (A : Around) (X : List Addr) (s : Shared) (Q : List Value → Shared → Prop) (E : Value → Shared → Prop) (pos : Pos), AOk n A → EnvOk env → Rd prog w mg mb X env ρ s →
    (∀ vs s', Ext s s' → RsO prog w X s'.heap vs Vs → Q vs s') → wpAny (model prog w) A (spliced (backTo pos (starEach es env))) Q E s
noncomputable def Evs (prog : Program) (w : World) (mg mb : Str → Option Value) (n : Nat) (env : Env) (ρ : PEnv) (es : List PySem.Expr) (Vs : List AV) : Prop :=
  ∀ (A : Around) (X : List Addr) (s : Shared) (Q : List Value → Shared → Prop) (E : Value → Shared → Prop) (pos : Pos), AOk n A → EnvOk env → Rd prog w mg mb X env ρ s →
    (∀ vs s', Ext s s' → Rs prog w X s'.heap vs Vs → Q vs s') → wpAny (model prog w) A (spliced (backTo pos (starEach es env))) Q E s
theorem EvsO.nil : EvsO prog w mg mb n env ρ [] [] := fun A X s Q E pos _ _ _ q => Calls.spliced_nil (q _ _ (.refl _) .nil)
theorem Evs.nil : Evs prog w mg mb n env ρ [] [] := fun A X s Q E pos _ _ _ q => Calls.spliced_nil (q _ _ (.refl _) .nil)
theorem backTo_cons {pos : Pos} {e : PySem.Expr} {es : List PySem.Expr} (hs : starEach (e :: es) env = (false, eval e env) :: starEach es env) : backTo pos (starEach (e :: es) env) = (false, eval e env) :: backTo pos (starEach es env) := by
  rw [hs]; rfl
theorem EvsO.cons {e : PySem.Expr} {es : List PySem.Expr} {V : AV} {Vs : List AV} (he : EvO prog w mg mb n env ρ e V) (hs : EvsO prog w mg mb n env ρ es Vs) (hn : starEach (e :: es) env = (false, eval e env) :: starEach es env := by rfl) : EvsO prog w mg mb n env ρ (e :: es) (V :: Vs) := by
  intro A X s Q E pos a eo rd q
  rw [backTo_cons hn]
  refine Calls.spliced_cons (he A X s _ E a eo rd fun v s₁ x₁ r₁ => hs A X s₁ _ E pos a eo (rd.ext x₁) fun vs s₂ x₂ r₂ => ?_)
  exact q _ _ (x₁.trans x₂) (.cons (r₁.kp x₂.kp) r₂)
theorem Evs.cons {e : PySem.Expr} {es : List PySem.Expr} {V : AV} {Vs : List AV} (he : Ev prog w mg mb n env ρ e V) (hs : Evs prog w mg mb n env ρ es Vs) (hn : starEach (e :: es) env = (false, eval e env) :: starEach es env := by rfl) : Evs prog w mg mb n env ρ (e :: es) (V :: Vs) := by
  intro A X s Q E pos a eo rd q
  rw [backTo_cons hn]
  refine Calls.spliced_cons (he A X s _ E a eo rd fun v s₁ x₁ r₁ a₁ => hs A X s₁ _ E pos a eo (rd.ext x₁) fun vs s₂ x₂ r₂ => ?_)
  exact q _ _ (x₁.trans x₂) (.cons a₁ (r₁.kp x₂.kp) r₂)

/- displays -/
theorem newList_R {A : Around} {s : Shared} {Q E : Value → Shared → Prop} {vs : List Value} {Vs : List AV} (lv : Live X s.heap) (rs : Rs prog w X s.heap vs Vs) (hz : Vs.length ≤ 1048576) (q : Post prog w X s Q (.list Vs)) : wpAny (model prog w) A (newList vs) Q E s := by
  refine wpAny_newObj_type ?_ (by show vs.toArray.size ≤ sizeLine; rw [List.size_toArray, rs.length, sizeLine_eq]; omega)
  exact q _ _ (Ext.push _ _) (.list (n := 0) (Heap.get?_push_size _ rfl) (rs.kp (Ext.push _ _).kp)) (Av.new lv (get?_size _))
theorem newTuple_R {A : Around} {s : Shared} {Q E : Value → Shared → Prop} {vs : List Value} {Vs : List AV} (lv : Live X s.heap) (rs : Rs prog w X s.heap vs Vs) (hz : Vs.length ≤ 1048576) (q : Post prog w X s Q (.tup Vs)) : wpAny (model prog w) A (newTuple vs) Q E s := by
  refine wpAny_newObj_type ?_ (by show vs.toArray.size ≤ sizeLine; rw [List.size_toArray, rs.length, sizeLine_eq]; omega)
  exact q _ _ (Ext.push _ _) (.tup (n := 0) (Heap.get?_push_size _ rfl) (rs.kp (Ext.push _ _).kp)) (Av.new lv (get?_size _))
theorem Ev.list {es : List PySem.Expr} {pos : Pos} {Vs : List AV} (hs : Evs prog w mg mb n env ρ es Vs) (hz : Vs.length ≤ 1048576 := by exact Nat.le_of_ble_eq_true rfl) : Ev prog w mg mb n env ρ (.List es pos) (.list Vs) := by
  intro A X s Q E a eo rd q
  exact List_ (hs A X s _ E pos a eo rd fun vs s₁ x₁ r₁ => newList_R (rd.ext x₁).live r₁ hz (Post.after q x₁))
theorem Ev.tup {es : List PySem.Expr} {k : Nat} {pos : Pos} {Vs : List AV} (hs : Evs prog w mg mb n env ρ es Vs) (hz : Vs.length ≤ 1048576 := by exact Nat.le_of_ble_eq_true rfl) : Ev prog w mg mb n env ρ (.Tuple es k pos) (.tup Vs) := by
  intro A X s Q E a eo rd q
  exact Tuple_ (hs A X s _ E pos a eo rd fun vs s₁ x₁ r₁ => newTuple_R (rd.ext x₁).live r₁ hz (Post.after q x₁))

/- calls of built-ins -/
noncomputable def CallB (prog : Program) (w : World) (f : Value) (Vs : List AV) (V : AV) : Prop :=
  ∀ (n : Nat) (A : Around) (X : List Addr) (s : Shared) (Q E : Value → Shared → Prop) (vs : List Value), AOk n A → Live X s.heap → RsO prog w X s.heap vs Vs → Post prog w X s Q V → wpAny (model prog w) A (call f vs) Q E s
theorem Ev.callB {f : Str} {id : String} {p pos : Pos} {e : PySem.Expr} {es : List PySem.Expr} {Vs : List AV} {V : AV} (hk : env.kindOf f = some .globalImplicit) (hm : mg f = none) (hb : mb f = some (.builtin id))
    (ha : EvsO prog w mg mb n env ρ (e :: es) Vs) (hc : CallB prog w (.builtin id) Vs V) (hd : (f == ("__debug__" : Str)) = false := by rfl) (hs : starEach (e :: es) env = (false, eval e env) :: starEach es env := by rfl)
    (hpl : (backTo pos (starEach es env)).any (·.1) = false := by rfl) : Ev prog w mg mb n env ρ (.Call (.Name f p) (e :: es) [] pos) V := by
  intro A X s Q E a eo rd q
  rw [arm_eval_Call_Name']
  refine wpAny_bind (Calls.Name_function_global eo.kind hk (Calls.loadGlobal_builtin (mg := mg) (mb := mb) (by rw [eo.globals]; exact rd.gl.g) hm (by rw [eo.builtins]; exact rd.gl.b) hb ?_) hd)
  show wpAny _ _ (callWith pos (.builtin id) [] (backTo pos (starEach (e :: es) env)) []) _ _ _
  have hE := backTo_cons (pos := pos) hs
  refine Calls.callWith_builtin (by rw [hE]; simpa using hpl) ?_
  rw [hE]
  refine Calls.evalArgs_plain ?_
  rw [← hE]
  exact ha A X s _ E pos a eo rd fun vs s₁ x₁ r₁ => hc n A X s₁ Q E vs a (rd.ext x₁).live r₁ (Post.after q x₁)
theorem Ev.callT {f : Str} {T : String} {p pos : Pos} {e : PySem.Expr} {es : List PySem.Expr} {Vs : List AV} {V : AV} (hk : env.kindOf f = some .globalImplicit) (hm : mg f = none) (hb : mb f = some (.type T))
    (ha : EvsO prog w mg mb n env ρ (e :: es) Vs) (hc : CallB prog w (.type T) Vs V) (hd : (f == ("__debug__" : Str)) = false := by rfl) (hs : starEach (e :: es) env = (false, eval e env) :: starEach es env := by rfl)
    (hpl : (backTo pos (starEach es env)).any (·.1) = false := by rfl) : Ev prog w mg mb n env ρ (.Call (.Name f p) (e :: es) [] pos) V := by
  intro A X s Q E a eo rd q
  rw [arm_eval_Call_Name']
  refine wpAny_bind (Calls.Name_function_global eo.kind hk (Calls.loadGlobal_builtin (mg := mg) (mb := mb) (by rw [eo.globals]; exact rd.gl.g) hm (by rw [eo.builtins]; exact rd.gl.b) hb ?_) hd)
  show wpAny _ _ (callWith pos (.type T) [] (backTo pos (starEach (e :: es) env)) []) _ _ _
  exact Pv.callWith_type1 (ha A X s _ E pos a eo rd fun vs s₁ x₁ r₁ => hc n A X s₁ Q E vs a (rd.ext x₁).live r₁ (Post.after q x₁)) hs hpl

/- calls of the text's own defs -/
/- a contract: with arguments so, the call ends with a value so, everything kept -/
noncomputable def Spec (prog : Program) (w : World) (mg mb : Str → Option Value) (n : Nat) (f : Str) (Vs : List AV) (V : AV) : Prop :=
  ∀ (A : Around) (X : List Addr) (s : Shared) (Q E : Value → Shared → Prop) (vs : List Value) (a : Addr), mg f = some (.ref a) → AOk n A → Gl prog mg mb s.heap → Live X s.heap → Rs prog w X s.heap vs Vs → Post prog w X s Q V →
    (∃ o fd, s.heap.get? a = some o ∧ o.data = .func fd) ∧ wpAny (model prog w) A (call (.ref a) vs) Q E s
theorem Ev.callF {f : Str} {p pos : Pos} {e : PySem.Expr} {es : List PySem.Expr} {Vs : List AV} {V : AV} {a : Addr} (hk : env.kindOf f = some .globalImplicit) (hm : mg f = some (.ref a))
    (ha : Evs prog w mg mb n env ρ (e :: es) Vs) (hc : Spec prog w mg mb n f Vs V) (hd : (f == ("__debug__" : Str)) = false := by rfl) (hs : starEach (e :: es) env = (false, eval e env) :: starEach es env := by rfl) :
    Ev prog w mg mb n env ρ (.Call (.Name f p) (e :: es) [] pos) V := by
  intro A X s Q E ao eo rd q
  rw [arm_eval_Call_Name']
  refine wpAny_bind (Calls.Name_function_global eo.kind hk (Calls.loadGlobal_global (mg := mg) (by rw [eo.globals]; exact rd.gl.g) hm ?_) hd)
  show wpAny _ _ (callWith pos (.ref a) [] (backTo pos (starEach (e :: es) env)) []) _ _ _
  have key : wpAny (model prog w) A (evalArgs (.ref a) true (backTo pos (starEach (e :: es) env)) []) (fun x s₁ => (∃ o fd, s₁.heap.get? a = some o ∧ o.data = .func fd) ∧ wpAny (model prog w) A (call (.ref a) ([] ++ x.pos) x.kw) Q E s₁) E s := by
    have hE := backTo_cons (pos := pos) hs
    rw [hE]
    refine Calls.evalArgs_plain ?_
    rw [← hE]
    refine ha A X s _ E pos ao eo rd fun vs s₁ x₁ r₁ => ?_
    exact hc A X s₁ Q E vs a hm ao (rd.ext x₁).gl (rd.ext x₁).live r₁ (Post.after q x₁)
  unfold callWith
  refine wpAny_bind (wpAny_holding (wpAny_mono key (fun x s₁ h₁ => wpAny_bind (wpAny_standAt ?_)) fun _ _ x => x))
  obtain ⟨⟨o, fd, ho, hd⟩, hw⟩ := h₁
  have tail : ∀ {t : Sem Value}, wpAny (model prog w) A t Q E s₁ → wpAny (model prog w) A (t >>= fun r => holding [r] point >>= fun _ => pure r) Q E s₁ :=
    fun ht => wpAny_bind (wpAny_mono ht (fun r s₂ hr => wpAny_bind (wpAny_holding (wpAny_point (wpAny_pure hr)))) fun _ _ x => x)
  refine wpAny_bind (m := keeperOf (.ref a)) ?_
  unfold keeperOf
  refine wpAny_bind (wpAny_load ho ?_)
  rw [hd]
  refine wpAny_pure ?_
  cases hst : ((backTo pos (starEach (e :: es) env)).any (·.1) || ([] : List (Option Str × Sem Value)).any (·.1.isNone)) with
  | true => exact tail (by unfold callMarked; exact Calls.wpAny_keep hw)
  | false =>
    refine wpAny_ite ?_
    split
    · exact tail hw
    · exact tail (by unfold callMarked; exact Calls.wpAny_keep hw)
end Mine
end
section
set_option maxRecDepth 100000
set_option maxHeartbeats 4000000
namespace Mine
open PySem.Builtin PySem.Builtin.Str
variable {prog : Program} {w : World} {mg mb : Str → Option Value} {n : Nat} {env : Env} {ρ : PEnv} {X : List Addr} {h : Heap} {v : Value}

/- methods of strs and lists -/
noncomputable def Plain1 (env : Env) : List PySem.Expr → Prop
  | [] => True
  | e :: es' => starEach (e :: es') env = (false, eval e env) :: starEach es' env
theorem meth_callWith {A : Around} {s : Shared} {Q E : Value → Shared → Prop} {id : String} {ov : Value} {es : List PySem.Expr} {pos : Pos} {V₀ : AV} {Vs : List AV} {V : AV} (a : AOk n A) (eo : EnvOk env) (rd : Rd prog w mg mb X env ρ s)
    (r₀ : R prog w X s.heap ov V₀) (hs : EvsO prog w mg mb n env ρ es Vs) (hc : CallB prog w (.builtin id) (V₀ :: Vs) V) (q : Post prog w X s Q V)
    (hpl : (backTo pos (starEach es env)).any (·.1) = false) (hl : Plain1 env es) :
    wpAny (model prog w) A (callWith pos (.builtin id) [ov] (backTo pos (starEach es env)) []) Q E s := by
  refine Calls.callWith_builtin hpl ?_
  have key : wpAny (model prog w) A (spliced (backTo pos (starEach es env))) (fun vs s₁ => wpAny (model prog w) A (call (.builtin id) ([ov] ++ vs) []) Q E s₁) E s :=
    hs A X s _ E pos a eo rd fun vs s₁ x₁ r₁ => hc n A X s₁ Q E (ov :: vs) a (rd.ext x₁).live (.cons (r₀.kp x₁.kp) r₁) (Post.after q x₁)
  cases es with
  | nil =>
    unfold evalArgs
    show wpAny (model prog w) A (spliced [] >>= _) _ E s
    refine wpAny_bind (wpAny_mono key (fun vs s' h' => wpAny_holding ?_) fun _ _ x => x)
    exact wpAny_bind (wpAny_pure (wpAny_bind (wpAny_pure (wpAny_pure h'))))
  | cons e es' =>
    rw [backTo_cons hl] at key ⊢
    exact Calls.evalArgs_plain key
theorem Ev.methS {o : PySem.Expr} {name : Str} {id : String} {apos pos : Pos} {es : List PySem.Expr} {x : Str} {Vs : List AV} {V : AV} (ho : EvO prog w mg mb n env ρ o (.str x)) (hs : EvsO prog w mg mb n env ρ es Vs) (slot : Slot "str" name id)
    (hty : typeOf (.builtin id) = pure (.type "method_descriptor")) (hc : CallB prog w (.builtin id) (.str x :: Vs) V) (hbase : attributeBase o name env (eval o env) = eval o env := by rfl)
    (hfew : ((backTo pos (starEach es env)).all (fun x => !x.1) && (backToKw pos (keywordEach [] env)).all (fun x => x.1.isSome) && decide (es.length + ([] : List Keyword).length + (if ([] : List Keyword).isEmpty then 0 else 1) < 30)) = true := by rfl)
    (hline : (apos.endLine == pos.line) = true := by rfl) (hpl : (backTo pos (starEach es env)).any (·.1) = false := by rfl) (hl : Plain1 env es := by first | rfl | trivial) :
    Ev prog w mg mb n env ρ (.Call (.Attribute o name apos) es [] pos) V := by
  intro A X s Q E a eo rd q
  refine wpAny_Call_method hbase hfew hline F.plainAttrs_str slot hty (ho A X s _ E a eo rd fun v₁ s₁ x₁ r₁ => ?_)
  have r₁' := r₁
  obtain ⟨t, rfl⟩ := r₁.str_inv
  exact ⟨typeIs_str _ _ _, (fun a e => nomatch e), meth_callWith a eo (rd.ext x₁) r₁' hs hc (Post.after q x₁) hpl hl⟩
theorem Ev.methL {o : PySem.Expr} {name : Str} {id : String} {apos pos : Pos} {es : List PySem.Expr} {Us Vs : List AV} {V : AV} (ho : EvO prog w mg mb n env ρ o (.list Us)) (hs : EvsO prog w mg mb n env ρ es Vs) (slot : Slot "list" name id)
    (hty : typeOf (.builtin id) = pure (.type "method_descriptor")) (hc : CallB prog w (.builtin id) (.list Us :: Vs) V) (hbase : attributeBase o name env (eval o env) = eval o env := by rfl)
    (hfew : ((backTo pos (starEach es env)).all (fun x => !x.1) && (backToKw pos (keywordEach [] env)).all (fun x => x.1.isSome) && decide (es.length + ([] : List Keyword).length + (if ([] : List Keyword).isEmpty then 0 else 1) < 30)) = true := by rfl)
    (hline : (apos.endLine == pos.line) = true := by rfl) (hpl : (backTo pos (starEach es env)).any (·.1) = false := by rfl) (hl : Plain1 env es := by first | rfl | trivial) :
    Ev prog w mg mb n env ρ (.Call (.Attribute o name apos) es [] pos) V := by
  intro A X s Q E a eo rd q
  refine wpAny_Call_method hbase hfew hline F.plainAttrs_list slot hty (ho A X s _ E a eo rd fun v₁ s₁ x₁ r₁ => ?_)
  have r₁' := r₁
  obtain ⟨b, k, vs, rfl, e, rs⟩ := r₁.list_inv
  exact ⟨⟨_, e, rfl⟩, fun c ec => by cases ec; exact ⟨_, e, rfl⟩, meth_callWith a eo (rd.ext x₁) r₁' hs hc (Post.after q x₁) hpl hl⟩

theorem RsO.inv1 {vs : List Value} {V : AV} (r : RsO prog w X h vs [V]) : ∃ v, vs = [v] ∧ R prog w X h v V := by
  cases r with | cons r rs => cases rs; exact ⟨_, rfl, r⟩
theorem RsO.inv2 {vs : List Value} {V₁ V₂ : AV} (r : RsO prog w X h vs [V₁, V₂]) : ∃ v₁ v₂, vs = [v₁, v₂] ∧ R prog w X h v₁ V₁ ∧ R prog w X h v₂ V₂ := by
  cases r with | cons r rs => obtain ⟨v, rfl, r'⟩ := rs.inv1; exact ⟨_, _, rfl, r, r'⟩
theorem RsO.inv3 {vs : List Value} {V₁ V₂ V₃ : AV} (r : RsO prog w X h vs [V₁, V₂, V₃]) : ∃ v₁ v₂ v₃, vs = [v₁, v₂, v₃] ∧ R prog w X h v₁ V₁ ∧ R prog w X h v₂ V₂ ∧ R prog w X h v₃ V₃ := by
  cases r with | cons r rs => obtain ⟨v, u, rfl, r', r''⟩ := rs.inv2; exact ⟨_, _, _, rfl, r, r', r''⟩
theorem RsO.inv4 {vs : List Value} {V₁ V₂ V₃ V₄ : AV} (r : RsO prog w X h vs [V₁, V₂, V₃, V₄]) : ∃ v₁ v₂ v₃ v₄, vs = [v₁, v₂, v₃, v₄] ∧ R prog w X h v₁ V₁ ∧ R prog w X h v₂ V₂ ∧ R prog w X h v₃ V₃ ∧ R prog w X h v₄ V₄ := by
  cases r with | cons r rs => obtain ⟨v, u, z, rfl, r', r'', r3⟩ := rs.inv3; exact ⟨_, _, _, _, rfl, r, r', r'', r3⟩

section
variable {x y : Str} {i j : Int}
theorem CallB.startswith : CallB prog w (.builtin "str.startswith") [.str x, .str y] (.bool (Txt.startswith x y)) := by
  intro n A X s Q E vs _ _ rs q
  obtain ⟨a, b, rfl, r₁, r₂⟩ := rs.inv2; obtain ⟨t, rfl⟩ := r₁.str_inv; obtain ⟨u, rfl⟩ := r₂.str_inv
  exact SC.startswith (Post.sc0 q (.bool _))
theorem CallB.endswith : CallB prog w (.builtin "str.endswith") [.str x, .str y] (.bool (Txt.endswith x y)) := by
  intro n A X s Q E vs _ _ rs q
  obtain ⟨a, b, rfl, r₁, r₂⟩ := rs.inv2; obtain ⟨t, rfl⟩ := r₁.str_inv; obtain ⟨u, rfl⟩ := r₂.str_inv
  exact SC.endswith (Post.sc0 q (.bool _))
theorem CallB.find : CallB prog w (.builtin "str.find") [.str x, .str y] (.int (Txt.find x y)) := by
  intro n A X s Q E vs _ _ rs q
  obtain ⟨a, b, rfl, r₁, r₂⟩ := rs.inv2; obtain ⟨t, rfl⟩ := r₁.str_inv; obtain ⟨u, rfl⟩ := r₂.str_inv
  exact SC.find (Post.sc q (.int _ _) _)
noncomputable def find4 (x y : Str) (i j : Int) : Int := match occurrences x y (fromIndex x.length i) (min (fromIndex x.length j) x.length) 1 with | k :: _ => (k : Int) | [] => -1
theorem gives_find4 (x y : Str) (i j : Int) (t u v z : Tok) : Gives («str.find» ⟨[.str x t, .str y u, .int i v, .int j z], []⟩) (.int (find4 x y i j)) := by
  unfold find4
  show Gives (match occurrences x y (fromIndex x.length i) (min (fromIndex x.length j) x.length) 1 with | k :: _ => retInt k | [] => (do rule "str.find.not-found"; retInt (-1))) _
  cases occurrences x y (fromIndex x.length i) (min (fromIndex x.length j) x.length) 1 with
  | nil => exact .rule (.of_eq rfl)
  | cons k _ => exact .of_eq rfl
theorem CallB.find4 : CallB prog w (.builtin "str.find") [.str x, .str y, .int i, .int j] (.int (find4 x y i j)) := by
  intro n A X s Q E vs _ _ rs q
  obtain ⟨a, b, c, d, rfl, r₁, r₂, r₃, r₄⟩ := rs.inv4; obtain ⟨t, rfl⟩ := r₁.str_inv; obtain ⟨u, rfl⟩ := r₂.str_inv; obtain ⟨v, rfl⟩ := r₃.int_inv; obtain ⟨z, rfl⟩ := r₄.int_inv
  exact call_gives F.slot_str_find (typeIs_str _ _ _) F.entry_str_find (F.args_str_find_4 _ _ _ _) (gives_find4 x y i j t u v z) (Post.sc q (.int _ _) _)
theorem Rs.strs : ∀ (l : List (Str × Tok)), Rs prog w X h (strValues l) (l.map fun p => .str p.1)
  | [] => .nil
  | p :: l => .cons (Av.plain (fun _ e => by cases e)) (.sc (.str _ _)) (Rs.strs l)
theorem Rs.strs_inv : ∀ {vs : List Value} {xs : List Str}, Rs prog w X h vs (xs.map AV.str) → ∃ l : List (Str × Tok), vs = strValues l ∧ l.map (·.1) = xs
  | vs, [], r => by cases r; exact ⟨[], rfl, rfl⟩
  | vs, x :: xs, r => by
    cases r with
    | cons a r rs =>
      obtain ⟨t, rfl⟩ := r.str_inv
      obtain ⟨l, rfl, e⟩ := Rs.strs_inv rs
      exact ⟨(x, t) :: l, rfl, by simp [e]⟩
theorem CallB.split (hx : x.length ≤ 4096) (hy : (y.length == 0) = false) (hn : (partsBetween x (occurrences x y 0 x.length (x.length + 1)) y.length).length ≤ 1048576) : CallB prog w (.builtin "str.split") [.str x, .str y] (.list ((Txt.split x y).map AV.str)) := by
  intro n A X s Q E vs _ lv rs q
  obtain ⟨a, b, rfl, r₁, r₂⟩ := rs.inv2; obtain ⟨t, rfl⟩ := r₁.str_inv; obtain ⟨u, rfl⟩ := r₂.str_inv
  have fin : ∀ (l : List (Str × Tok)) (k : Nat), l.map (·.1) = Txt.split x y → Q (.ref s.heap.objs.size) { s with toks := k, heap := s.heap.push { cls := .type "list", data := .seq (strValues l).toArray } } := by
    intro l k e
    refine q _ _ ((Ext.push s _).toks k) (.list (n := 0) (vs := strValues l) (Heap.get?_push_size _ rfl) ?_) (Av.new lv (get?_size _))
    have := Rs.strs (prog := prog) (w := w) (X := X) (h := s.heap.push { cls := .type "list", data := .seq (strValues l).toArray }) l
    rw [← e, List.map_map]; exact this
  have hx' : x.length ≤ sizeLine := by rw [sizeLine_eq]; omega
  cases h1 : (decide (x.length < y.length) || decide (Str.strKind x < Str.strKind y))
  · cases hf : (occurrences x y 0 x.length (x.length + 1)).isEmpty
    · refine call_meets F.slot_str_split (typeIs_str _ _ _) F.entry_str_split (F.args_str_split_2 _ _) (meets_str_split_sep x y t u h1 hy hf hx' (by rw [sizeLine_eq]; omega)) ?_
      show wants Q E _ { s with toks := _, heap := s.heap.push { cls := .type "list", data := .seq (strsFrom s.toks (partsBetween x (occurrences x y 0 x.length (x.length + 1)) y.length)).toArray } }
      rw [strsFrom_eq]
      exact fin (numbered s.toks _) _ ((numbered_texts _ _).trans ((if_neg (ne_true_of_eq_false h1)).trans (if_neg (ne_true_of_eq_false hf))).symm)
    · exact call_meets F.slot_str_split (typeIs_str _ _ _) F.entry_str_split (F.args_str_split_2 _ _) (meets_str_split_not_found x y t u h1 hy hf)
        (fin [(x, t)] _ ((if_neg (ne_true_of_eq_false h1)).trans (if_pos hf)).symm)
  · exact call_meets F.slot_str_split (typeIs_str _ _ _) F.entry_str_split (F.args_str_split_2 _ _) (meets_str_split_cannot_occur x y t u h1)
      (fin [(x, t)] _ (if_pos h1).symm)
theorem CallB.join {xs : List Str} (hj : JoinOk x xs = true) : CallB prog w (.builtin "str.join") [.str x, .list (xs.map AV.str)] (.str (Txt.join x xs)) := by
  intro n A X s Q E vs _ lv rs q
  obtain ⟨a, b, rfl, r₁, r₂⟩ := rs.inv2; obtain ⟨t, rfl⟩ := r₁.str_inv; obtain ⟨D, k, us, rfl, e, ru⟩ := r₂.list_inv
  obtain ⟨l, rfl, el⟩ := Rs.strs_inv ru
  exact SC.join (isList_of e) el hj fun t' k => Post.sc q (.str _ _) _
theorem CallB.countS {xs : List Str} : CallB prog w (.builtin "list.count") [.list (xs.map AV.str), .str y] (.int (xs.countP (· == y) : Nat)) := by
  intro n A X s Q E vs _ lv rs q
  obtain ⟨a, b, rfl, r₁, r₂⟩ := rs.inv2; obtain ⟨D, k, us, rfl, e, ru⟩ := r₁.list_inv; obtain ⟨t, rfl⟩ := r₂.str_inv
  obtain ⟨l, rfl, el⟩ := Rs.strs_inv ru
  have hv : ∀ z, z ∈ (strValues l).toArray → SeqAt.EqAt A.in1 s z (.str y t) (match z with | .str a _ => a == y | _ => false) := by
    intro z hz
    obtain ⟨p, _, rfl⟩ := List.mem_map.mp (by simpa [strValues] using hz : z ∈ strValues l)
    exact SeqAt.EqAt.str_str p.1 p.2 y t
  refine call_meets F.slot_list_count ⟨_, e, rfl⟩ F.entry_list_count (F.args_list_count_2 _ _) (SeqAt.list_countAt D (strValues l).toArray k none #[] (.str y t) (fun z => match z with | .str a _ => a == y | _ => false)) ⟨e, hv, ?_⟩
  have : (strValues l).toArray.toList.countP (fun z => match z with | .str a _ => a == y | _ => false) = xs.countP (· == y) := by
    rw [← el]
    simp only [strValues, List.countP_map]
    rfl
  rw [this]
  exact Post.sc q (.int _ _) _
end
end Mine
end
section
set_option maxRecDepth 100000
set_option maxHeartbeats 4000000
namespace Mine
open PySem.Builtin PySem.Builtin.Str
variable {prog : Program} {w : World} {mg mb : Str → Option Value} {n : Nat} {env : Env} {ρ : PEnv} {X : List Addr} {h : Heap} {v : Value}

/- texts as lists of signs -/
noncomputable abbrev Tx := List Nat
noncomputable def S (l : Tx) : Str := ⟨l.toArray⟩
noncomputable abbrev T (l : Tx) : AV := .str (S l)
theorem S_len (l : Tx) : (S l).length = l.length := by simp [S, Str.length]
theorem S_append (a b : Tx) : S a ++ S b = S (a ++ b) := by
  show (⟨(S a).cps ++ (S b).cps⟩ : Str) = S (a ++ b)
  simp [S]
theorem S_inj {a b : Tx} : S a = S b ↔ a = b := by simp [S]
theorem S_beq (a b : Tx) : (S a == S b) = (a == b) := by
  by_cases h : a = b
  · subst h; simp
  · have : S a ≠ S b := fun e => h (S_inj.mp e)
    rw [beq_eq_false_iff_ne.mpr h, beq_eq_false_iff_ne.mpr this]
theorem S_eta (x : Str) : S x.cps.toList = x := by cases x; simp [S]

noncomputable def cl (n : Nat) (d : Nat) : Option Int → Nat
  | none => d
  | some i => (max 0 (min (if i < 0 then i + (n : Int) else i) (n : Int))).toNat
noncomputable def slc {α : Type} (l : List α) (lo hi : Option Int) : List α := (l.drop (cl l.length 0 lo)).take (cl l.length l.length hi - cl l.length 0 lo)
theorem sliceRange_nat (a b : Nat) : sliceRange a b 1 = (List.range (b - a)).map (a + ·) := sliceRange_one a b
theorem cl_lo (n : Nat) (lo : Option Int) : (match lo with | none => (0 : Int) | some i => max 0 (min (if i < 0 then i + (n : Int) else i) (n : Int))) = ((cl n 0 lo : Nat) : Int) := by
  cases lo with
  | none => rfl
  | some i => simp only [cl]; omega
theorem cl_hi (n : Nat) (hi : Option Int) : (match hi with | none => (n : Int) | some i => max 0 (min (if i < 0 then i + (n : Int) else i) (n : Int))) = ((cl n n hi : Nat) : Int) := by
  cases hi with
  | none => rfl
  | some i => simp only [cl]; omega
theorem bounds_none (lo hi : Option Int) (n : Nat) : sliceBounds lo hi none n = (((cl n 0 lo : Nat) : Int), ((cl n n hi : Nat) : Int), (1 : Int)) := by
  rw [← cl_lo, ← cl_hi]
  cases lo <;> cases hi <;> rfl
theorem slicePick_slc (vs : List Value) (lo hi : Option Int) : slicePick vs.toArray lo hi none = (slc vs lo hi).toArray := by
  unfold slicePick
  rw [bounds_none]
  simp only [List.size_toArray]
  rw [sliceRange_nat, pick_run]
  rfl
theorem strIdx_slc (x : Tx) (lo hi : Option Int) : strSliceIndices lo hi 1 (S x).length = (List.range (cl x.length x.length hi - cl x.length 0 lo)).map (cl x.length 0 lo + ·) := by
  rw [← sliceRange_nat]
  have e1 := cl_lo x.length lo
  have e2 := cl_hi x.length hi
  rw [← e1, ← e2, S_len]
  cases lo <;> cases hi <;> rfl
theorem slc_len_le {α : Type} (l : List α) (lo hi : Option Int) : (slc l lo hi).length ≤ l.length := by
  simp only [slc, List.length_take, List.length_drop]; omega
theorem Rs.slc {vs : List Value} {Vs : List AV} (r : Rs prog w X h vs Vs) (lo hi : Option Int) : Rs prog w X h (slc vs lo hi) (slc Vs lo hi) := by
  unfold Mine.slc
  rw [r.length]
  exact (r.drop _).take _

/- parts of a slice -/
inductive Pt : AV → Option Int → Prop
  | none : Pt .none none
  | int (i) : Pt (.int i) (some i)
theorem Pt.val {V : AV} {o : Option Int} (p : Pt V o) (r : R prog w X h v V) : ∃ q : Option (Int × Tok), v = partValue q ∧ q.map (·.1) = o ∧ IsPart v o := by
  cases p with
  | none => obtain rfl := r.none_inv; exact ⟨Option.none, rfl, rfl, .none⟩
  | int i => obtain ⟨t, rfl⟩ := r.int_inv; exact ⟨some (i, t), rfl, rfl, .int _ _⟩
/- an optional part -/
noncomputable def EvP (prog : Program) (w : World) (mg mb : Str → Option Value) (n : Nat) (env : Env) (ρ : PEnv) (e : Option PySem.Expr) (o : Option Int) : Prop :=
  ∀ (A : Around) (X : List Addr) (s : Shared) (Q : Value → Shared → Prop) (E : Value → Shared → Prop), AOk n A → EnvOk env → Rd prog w mg mb X env ρ s →
    (∀ v s', Ext s s' → (∃ q : Option (Int × Tok), v = partValue q ∧ q.map (·.1) = o ∧ IsPart v o) → Q v s') → wpAny (model prog w) A (evalPart e env) Q E s
theorem EvP.none : EvP prog w mg mb n env ρ none none := fun A X s Q E _ _ _ q => by
  rw [evalPart_none]; exact wpAny_pure (q _ _ (.refl _) ⟨.none, rfl, rfl, .none⟩)
theorem EvP.some {e : PySem.Expr} {i : Int} (he : EvO prog w mg mb n env ρ e (.int i)) : EvP prog w mg mb n env ρ (some e) (some i) := fun A X s Q E a eo rd q => by
  rw [evalPart_some]
  exact he A X s _ E a eo rd fun v s₁ x₁ r₁ => q v s₁ x₁ ((Pt.int i).val r₁)

theorem subd_slice {lo hi : Option PySem.Expr} {p : Pos} {o i : Value} : subscripted (.Slice lo hi none p) false o i = operate [i, o] (getItem o i) := rfl
theorem Ev.sliceL {e : PySem.Expr} {lo hi : Option PySem.Expr} {p pos : Pos} {Vs : List AV} {a b : Option Int} (he : EvO prog w mg mb n env ρ e (.list Vs)) (hl : EvP prog w mg mb n env ρ lo a) (hh : EvP prog w mg mb n env ρ hi b) (hz : Vs.length ≤ 1048576) :
    Ev prog w mg mb n env ρ (.Subscript e (.Slice lo hi none p) pos) (.list (slc Vs a b)) := by
  intro A X s Q E ao eo rd q
  refine Subscript_ (he A X s _ E ao eo rd fun v s₁ x₁ r₁ => wpAny_Slice (hl A X s₁ _ E ao eo (rd.ext x₁) fun vl s₂ x₂ p₂ => hh A X s₂ _ E ao eo ((rd.ext x₁).ext x₂) fun vu s₃ x₃ p₃ => ?_))
  rw [evalPart_none]
  refine wpAny_pure ?_
  have rd₃ := ((rd.ext x₁).ext x₂).ext x₃
  obtain ⟨l, k, vs, rfl, e₁, rs⟩ := ((r₁.kp x₂.kp).kp x₃.kp).list_inv
  obtain ⟨ql, _, _, il⟩ := p₂
  obtain ⟨qh, _, _, ih⟩ := p₃
  let s₄ : Shared := { s₃ with heap := s₃.heap.push { cls := .type "slice", data := .fields #[vl, vu, .none] } }
  have x₄ : Ext s₃ s₄ := Ext.push _ _
  have e₄ := x₄.kp _ _ e₁
  refine tail_any (T := "list") (ops := [.ref s₃.heap.objs.size, .ref l]) (s := s₄) ⟨_, e₄, rfl⟩ list_getitem_lookup ?_ subd_slice
  refine wpAny_getItem_list_slice (s := s₄) (isList_of e₄) (Heap.IsSliceOf.new _ _ _ _) il ih .none (by simp) ?_ (by rw [List.size_toArray, rs.length, sizeLine_eq]; omega)
  rw [slicePick_slc]
  refine q _ _ (((x₁.trans x₂).trans x₃).trans (x₄.trans (Ext.push _ _))) (.list (n := 0) (Heap.get?_push_size _ rfl) ?_) (Av.new (rd₃.ext x₄).live (get?_size _))
  exact Rs.kp (Ext.push s₄ _).kp ((rs.kp x₄.kp).slc a b)
theorem Ev.sliceS {e : PySem.Expr} {lo hi : Option PySem.Expr} {p pos : Pos} {x : Tx} {a b : Option Int} (he : EvO prog w mg mb n env ρ e (T x)) (hl : EvP prog w mg mb n env ρ lo a) (hh : EvP prog w mg mb n env ρ hi b) (hz : x.length ≤ 1048576) :
    Ev prog w mg mb n env ρ (.Subscript e (.Slice lo hi none p) pos) (T (slc x a b)) := by
  intro A X s Q E ao eo rd q
  refine Subscript_ (he A X s _ E ao eo rd fun v s₁ x₁ r₁ => wpAny_Slice (hl A X s₁ _ E ao eo (rd.ext x₁) fun vl s₂ x₂ p₂ => hh A X s₂ _ E ao eo ((rd.ext x₁).ext x₂) fun vu s₃ x₃ p₃ => ?_))
  rw [evalPart_none]
  refine wpAny_pure ?_
  obtain ⟨t, rfl⟩ := r₁.str_inv
  obtain ⟨ql, rfl, el, _⟩ := p₂
  obtain ⟨qh, rfl, eh, _⟩ := p₃
  let s₄ : Shared := { s₃ with heap := s₃.heap.push { cls := .type "slice", data := .fields #[partValue ql, partValue qh, .none] } }
  have x₄ : Ext s₃ s₄ := Ext.push _ _
  refine tail_any (T := "str") (ops := [.ref s₃.heap.objs.size, .str (S x) t]) (s := s₄) (typeIs_str _ _ _) F.slot_str_getitem.lookup ?_ subd_slice
  refine wpAny_getItem_str_slice (s := s₄) (l := ql) (u := qh) (st := none) ⟨_, Heap.get?_push_size _ rfl, rfl, rfl⟩ rfl ?_
  have xx := (((x₁.trans x₂).trans x₃).trans x₄)
  have pk : slicePicked (S x) ql qh none = (List.range (cl x.length x.length b - cl x.length 0 a)).map (cl x.length 0 a + ·) := by
    unfold slicePicked
    rw [el, eh]
    exact strIdx_slc x a b
  have pv : ((slicePicked (S x) ql qh none).filterMap ((S x).cps[·]?)) = slc x a b := by
    rw [pk]
    have := pick_run (S x).cps (cl x.length 0 a) (cl x.length x.length b - cl x.length 0 a)
    rw [this]; rfl
  unfold sliceMade
  split
  · rename_i hc
    have hlen : (slicePicked (S x) ql qh none).length = x.length := by
      have := (Bool.and_eq_true_iff.mp hc).2
      rw [S_len] at this
      exact beq_iff_eq.mp this
    have same : slc x a b = x := by
      rw [pk, List.length_map, List.length_range] at hlen
      have hb : cl x.length x.length b ≤ x.length := by
        cases b with
        | none => exact Nat.le_refl _
        | some i => simp only [cl]; omega
      have h0 : cl x.length 0 a = 0 ∨ x.length = 0 := by omega
      unfold slc
      rcases h0 with h0 | h0
      · rw [h0] at hlen ⊢
        rw [hlen, List.drop_zero, List.take_length]
      · have : x = [] := List.length_eq_zero_iff.mp h0
        subst this; simp
    have := Post.sc0 (Post.after q xx) (v := .str (S x) t) (by rw [same]; exact .str _ _)
    exact this
  · have e : (⟨((slicePicked (S x) ql qh none).filterMap ((S x).cps[·]?)).toArray⟩ : Str) = S (slc x a b) := by rw [pv]; rfl
    rw [e]
    exact ⟨by rw [S_len, sizeLine_eq]; have := slc_len_le x a b; omega, Post.sc (Post.after q xx) (.str _ _) _⟩

theorem seq_split {k : Int} {n j : Nat} (h : seqIndex? k n = some j) : (0 ≤ k ∧ k < n ∧ j = k.toNat) ∨ (k < 0 ∧ -(n : Int) ≤ k ∧ j = (k + n).toNat) := by
  unfold seqIndex? at h
  by_cases h0 : k < 0
  · simp only [h0, if_true] at h
    split at h
    · rename_i hc
      simp only [Bool.and_eq_true, decide_eq_true_eq] at hc
      have := Option.some.inj h
      exact .inr ⟨h0, by omega, this.symm⟩
    · cases h
  · simp only [h0, if_false] at h
    split at h
    · rename_i hc
      simp only [Bool.and_eq_true, decide_eq_true_eq] at hc
      have := Option.some.inj h
      exact .inl ⟨by omega, by omega, this.symm⟩
    · cases h
theorem subd_plain {e : PySem.Expr} {o i : Value} (hs : ∀ a b c p, e ≠ .Slice a b c p) : subscripted e false o i = operate [o, i] (getItem o i) := by
  cases e <;> first | rfl | exact absurd rfl (hs _ _ _ _)
/- items -/
theorem Ev.itemL {e i : PySem.Expr} {pos : Pos} {Vs : List AV} {k : Int} {V : AV} (he : EvO prog w mg mb n env ρ e (.list Vs)) (hi : EvO prog w mg mb n env ρ i (.int k)) (hk : (seqIndex? k Vs.length).bind (Vs[·]?) = some V) (hz : Vs.length ≤ 1048576)
    (hs : ∀ a b c p, i ≠ .Slice a b c p := by intro _ _ _ _ h; cases h) : Ev prog w mg mb n env ρ (.Subscript e i pos) V := by
  intro A X s Q E ao eo rd q
  refine Subscript_ (he A X s _ E ao eo rd fun v s₁ x₁ r₁ => hi A X s₁ _ E ao eo (rd.ext x₁) fun vi s₂ x₂ r₂ => ?_)
  obtain ⟨l, c, vs, rfl, e₁, rs⟩ := (r₁.kp x₂.kp).list_inv
  obtain ⟨t, rfl⟩ := r₂.int_inv
  refine tail_any (T := "list") (ops := [.ref l, .int k t]) ⟨_, e₁, rfl⟩ list_getitem_lookup ?_ (subd_plain hs)
  have xx := x₁.trans x₂
  have hsome : ∃ j, seqIndex? k Vs.length = some j ∧ Vs[j]? = some V := by
    cases hq : seqIndex? k Vs.length with
    | none => rw [hq] at hk; cases hk
    | some j => rw [hq] at hk; exact ⟨j, rfl, hk⟩
  obtain ⟨j, hj, hV⟩ := hsome
  obtain ⟨u, hu, hr, ha⟩ := rs.get hV
  have hlen := rs.length
  rcases seq_split hj with ⟨h0, h1, rfl⟩ | ⟨h0, h1, rfl⟩
  · refine wpAny_getItem_list (isList_of e₁) (by omega) (by omega) ?_ (q _ _ xx hr ha)
    simpa using hu
  · refine wpAny_getItem_list_neg (isList_of e₁) h0 (by rw [List.size_toArray, hlen]; omega) (by omega) ?_ (q _ _ xx hr ha)
    rw [List.size_toArray, hlen]; simpa using hu
theorem Ev.itemS {e i : PySem.Expr} {pos : Pos} {x : Tx} {k : Int} {c : Nat} (he : EvO prog w mg mb n env ρ e (T x)) (hi : EvO prog w mg mb n env ρ i (.int k)) (hk : (seqIndex? k x.length).bind (x[·]?) = some c) (hz : x.length ≤ 1048576)
    (hs : ∀ a b c p, i ≠ .Slice a b c p := by intro _ _ _ _ h; cases h) : Ev prog w mg mb n env ρ (.Subscript e i pos) (T [c]) := by
  intro A X s Q E ao eo rd q
  refine Subscript_ (he A X s _ E ao eo rd fun v s₁ x₁ r₁ => hi A X s₁ _ E ao eo (rd.ext x₁) fun vi s₂ x₂ r₂ => ?_)
  obtain ⟨t, rfl⟩ := r₁.str_inv
  obtain ⟨u, rfl⟩ := r₂.int_inv
  refine tail_any (T := "str") (ops := [.str (S x) t, .int k u]) (typeIs_str _ _ _) F.slot_str_getitem.lookup ?_ (subd_plain hs)
  have hb : -(2 ^ 63 : Int) ≤ k ∧ k < 2 ^ 63 := by
    cases hq : seqIndex? k x.length with
    | none => rw [hq] at hk; cases hk
    | some j =>
      rcases seq_split hq with ⟨h0, h1, _⟩ | ⟨h0, h1, _⟩ <;> omega
  refine PyProof.Rows.getItem_str (c := c) (by simp only [Bool.or_eq_false_iff, decide_eq_false_iff_not]; omega) ?_ (Post.sc (Post.after q (x₁.trans x₂)) (.str _ _) _)
  rw [S_len]
  simpa [S] using hk
theorem Rk.look {kvs : List (Str × Value)} {L : List (Str × AV)} (r : Rk kvs L) {k : Str} {V : AV} (e : L.lookup k = some V) : ∃ v, valueAt kvs k = some v ∧ Sc v V := by
  induction r with
  | nil => cases e
  | cons sc rk ih =>
    rename_i k' v' V' l L'
    rw [List.lookup_cons] at e
    cases hb : k == k' with
    | true =>
      rw [hb] at e; cases e
      have : k' = k := (beq_iff_eq.mp hb).symm
      exact ⟨v', by simp [valueAt, this], sc⟩
    | false =>
      rw [hb] at e
      obtain ⟨v, h1, h2⟩ := ih e
      have : ¬ k' = k := fun e => by rw [e] at hb; simp at hb
      refine ⟨v, ?_, h2⟩
      unfold valueAt at h1 ⊢
      rw [List.find?_cons_of_neg (by simpa using this)]
      exact h1
theorem Ev.itemD {e i : PySem.Expr} {pos : Pos} {L : List (Str × AV)} {k : Str} {V : AV} (he : EvO prog w mg mb n env ρ e (.dict L)) (hi : EvO prog w mg mb n env ρ i (.str k)) (hk : L.lookup k = some V)
    (hs : ∀ a b c p, i ≠ .Slice a b c p := by intro _ _ _ _ h; cases h) : Ev prog w mg mb n env ρ (.Subscript e i pos) V := by
  intro A X s Q E ao eo rd q
  refine Subscript_ (he A X s _ E ao eo rd fun v s₁ x₁ r₁ => hi A X s₁ _ E ao eo (rd.ext x₁) fun vi s₂ x₂ r₂ => ?_)
  obtain ⟨d, kvs, rfl, hd, rk⟩ := (r₁.kp x₂.kp).dict_inv
  obtain ⟨t, rfl⟩ := r₂.str_inv
  obtain ⟨u, hu, hsc⟩ := rk.look hk
  refine tail_any (T := "dict") (ops := [.ref d, .str k t]) hd.typeIs slot_dict_getitem.lookup ?_ (subd_plain hs)
  exact wpAny_getItem_of (strKind_is prog w k t) hd.mapOf hu (Post.sc (Post.after q (x₁.trans x₂)) hsc _)
end Mine
end
section
set_option maxRecDepth 100000
set_option maxHeartbeats 4000000
namespace Mine
variable {prog : Program} {w : World} {mg mb : Str → Option Value} {n : Nat} {env : Env} {ρ : PEnv} {X : List Addr} {h : Heap} {v : Value}

/- changes in a footprint alone -/
structure Chg (N : List Addr) (s s' : Shared) : Prop where
  kp : KpX N s.heap s'.heap
  os : s'.os = s.os
  gens : ∃ more, AllBare more ∧ s'.gens = s.gens ++ more
theorem Ext.chg {N : List Addr} {s s' : Shared} (x : Ext s s') : Chg N s s' := ⟨x.kp.toX, x.os, x.gens⟩
theorem Chg.refl {N : List Addr} (s : Shared) : Chg N s s := (Ext.refl s).chg
theorem Chg.trans {N : List Addr} {s s' s'' : Shared} (a : Chg N s s') (b : Chg N s' s'') : Chg N s s'' := by
  refine ⟨fun q o hq e => b.kp _ _ hq (a.kp _ _ hq e), b.os.trans a.os, ?_⟩
  obtain ⟨m, hm, e⟩ := a.gens
  obtain ⟨m', hm', e'⟩ := b.gens
  refine ⟨m ++ m', fun y hy => ?_, by rw [e', e, Array.append_assoc]⟩
  rcases Array.mem_append.mp hy with h | h
  · exact hm y h
  · exact hm' y h
theorem Chg.mono {N N' : List Addr} {s s' : Shared} (a : Chg N s s') (h : ∀ b ∈ N, b ∈ N') : Chg N' s s' := ⟨fun q o hq e => a.kp q o (fun m => hq (h q m)) e, a.os, a.gens⟩
theorem Chg.ext {N : List Addr} {s s' : Shared} (a : Chg N s s') (h : ∀ b ∈ N, s.heap.get? b = none) : Ext s s' :=
  ⟨fun q o e => a.kp q o (fun m => by rw [h q m] at e; cases e) e, a.os, a.gens⟩
/- after a state, footprint of new ones forgotten -/
theorem Chg.drop {N N' : List Addr} {s s' : Shared} (a : Chg N s s') (h : ∀ b ∈ N, b ∈ N' ∨ s.heap.get? b = none) : Chg N' s s' :=
  ⟨fun q o hq e => a.kp q o (fun m => (h q m).elim hq fun hn => by rw [hn] at e; cases e) e, a.os, a.gens⟩
theorem Chg.heap {N : List Addr} {s : Shared} {h' : Heap} (k : KpX N s.heap h') (t : Nat) : Chg N s { s with heap := h', toks := t } := ⟨k, rfl, #[], .empty, by simp⟩
theorem Chg.toks {N : List Addr} {s s' : Shared} (a : Chg N s s') (t : Nat) : Chg N s { s' with toks := t } := ⟨a.kp, a.os, a.gens⟩
theorem KpX.but {N : List Addr} {a : Addr} {h h' : Heap} (k : Heap.ExtBut a h h') (ha : a ∈ N) : KpX N h h' := fun b o hb e => k b o (fun q => hb (q ▸ ha)) e

theorem R.live {a : Addr} {V : AV} (r : R prog w X h (.ref a) V) : ∃ o, h.get? a = some o := by
  cases r with
  | sc s => cases s
  | list e _ => exact ⟨_, e⟩
  | tup e _ => exact ⟨_, e⟩
  | dict d _ => obtain ⟨o, _, _, e, _⟩ := d; exact ⟨o, e⟩
theorem Rd.grow {Y : List Addr} {s s' : Shared} (r : Rd prog w mg mb X env ρ s) (x : Ext s s') (k : ∀ a ∈ Y, a ∈ X ∨ s.heap.get? a = none) (l : Live Y s'.heap) : Rd prog w mg mb Y env ρ s' :=
  ⟨r.gl.kp x.kp, l, fun y sl e => by
    obtain ⟨v, h1, h2, h3⟩ := r.vals y sl e
    exact ⟨v, h1.kp x.kp, (h2.swapX k).kp x.kp, fun q => (h3 q).swapX k h2⟩⟩

/- what an iterator gives -/
structure ItOk (prog : Program) (w : World) (Y : List Addr) (s₂ : Shared) (I : Addr) (Vs : List AV) (fp : List Addr) (P : Nat → Value → Prop) (St : Nat → Heap → Prop) : Prop where
  walks : ∀ A' : Around, A'.handled = none → Walks prog w A' I fp [I] Vs.length P St
  st : St 0 s₂.heap
  item : ∀ i v, P i v → ∃ V, Vs[i]? = some V ∧ R prog w Y s₂.heap v V ∧ Av Y v
  self : I ∈ fp
  lv : ∀ i h, St i h → ∀ b ∈ fp, ∃ o, h.get? b = some o
theorem ItOk.lt {Y : List Addr} {s₂ : Shared} {I : Addr} {Vs : List AV} {fp : List Addr} {P : Nat → Value → Prop} {St : Nat → Heap → Prop} (x : ItOk prog w Y s₂ I Vs fp P St) : ∀ b ∈ fp, b < s₂.heap.objs.size :=
  fun b hb => let ⟨_, e⟩ := x.lv 0 _ x.st b hb; Heap.lt_size e
theorem ItOk.live {Y : List Addr} {s₂ : Shared} {I : Addr} {Vs : List AV} {fp : List Addr} {P : Nat → Value → Prop} {St : Nat → Heap → Prop} (x : ItOk prog w Y s₂ I Vs fp P St) : ∀ i h, St i h → ∃ o, h.get? I = some o :=
  fun i h st => x.lv i h st I x.self
noncomputable def EvIt (prog : Program) (w : World) (mg mb : Str → Option Value) (n : Nat) (env : Env) (ρ : PEnv) (d : Bool) (e : PySem.Expr) (Vs : List AV) : Prop :=
  ∀ (A : Around) (X : List Addr) (s : Shared) (Q : Value → Shared → Prop) (E : Value → Shared → Prop), AOk n A → EnvOk env → Rd prog w mg mb X env ρ s →
    (∀ I s₂ fp P St, Ext s s₂ → s.heap.get? I = none → ItOk prog w (I :: X) s₂ I Vs fp P St → (d = true → ∀ b ∈ fp, b ∉ X) → Q (.ref I) s₂) →
    wpAny (model prog w) A (eval e env) (fun xv s₁ => wpAny (model prog w) A (pyIter xv) Q E s₁) E s
theorem get?_none {h : Heap} {a : Addr} (k : h.objs.size ≤ a) : h.get? a = none := by
  cases e : h.get? a with
  | none => rfl
  | some o => exact absurd (Heap.lt_size e) (Nat.not_lt.mpr k)
theorem none_of_ext {s s' : Shared} (x : Ext s s') {a : Addr} (h : s'.heap.get? a = none) : s.heap.get? a = none := by
  cases e : s.heap.get? a with
  | none => rfl
  | some o => rw [x.kp a o e] at h; cases h
theorem itOk_list {A : Around} {Q E : Value → Shared → Prop} {s s₁ : Shared} {v : Value} {Vs : List AV} {d : Bool} (rd : Rd prog w mg mb X env ρ s) (x₁ : Ext s s₁) (r₁ : R prog w X s₁.heap v (.list Vs)) (hd : d = true → Av X v)
    (q : ∀ I s₂ fp P St, Ext s s₂ → s.heap.get? I = none → ItOk prog w (I :: X) s₂ I Vs fp P St → (d = true → ∀ b ∈ fp, b ∉ X) → Q (.ref I) s₂) : wpAny (model prog w) A (pyIter v) Q E s₁ := by
  obtain ⟨l, k, vs, rfl, e₁, rs⟩ := r₁.list_inv
  refine wpAny_pyIter_list (isList_of e₁) ?_
  have hI : s₁.heap.get? s₁.heap.objs.size = none := get?_size _
  let s₂ : Shared := { s₁ with heap := s₁.heap.push { cls := .type "list_iterator", data := .fields #[.ref l, .int 0 0] } }
  have x₂ : Ext s₁ s₂ := Ext.push _ _
  have hne : l ≠ s₁.heap.objs.size := fun q => by rw [q, hI] at e₁; cases e₁
  have rs' : Rs prog w (s₁.heap.objs.size :: X) s₂.heap vs Vs := (rs.swapX (Y := s₁.heap.objs.size :: X) (fun a ha => by
      rcases List.mem_cons.mp ha with rfl | ha
      · exact .inr hI
      · exact .inl ha)).kp x₂.kp
  have hlen : vs.toArray.size = Vs.length := by rw [List.size_toArray, rs.length]
  refine q s₁.heap.objs.size s₂ [s₁.heap.objs.size, l] (fun i v => vs.toArray[i]? = some v) (fun i h => h.IsListIter s₁.heap.objs.size l i ∧ h.IsList l vs.toArray) (x₁.trans x₂) (none_of_ext x₁ hI) ⟨fun A' hA => hlen ▸ Walks.list (prog := prog) (w := w) hA s₁.heap.objs.size l hne vs.toArray,
    ⟨⟨_, Heap.get?_push_size _ rfl, rfl, rfl⟩, isList_of (x₂.kp _ _ e₁)⟩, fun i v hv => ?_, List.mem_cons_self .., fun i h st b hb => ?_⟩ (fun hq b hb hX => ?_)
  · have hv' : vs[i]? = some v := by simpa using hv
    have hi : i < Vs.length := by rw [← rs.length]; exact (List.getElem?_eq_some_iff.mp hv').1
    obtain ⟨u, hu, hr, ha⟩ := rs'.get (List.getElem?_eq_getElem hi)
    rw [hv'] at hu; cases hu
    exact ⟨_, List.getElem?_eq_getElem hi, hr, ha⟩
  · obtain ⟨⟨o, e, _⟩, ⟨o', e', _⟩⟩ := st
    rcases List.mem_cons.mp hb with rfl | hb
    · exact ⟨o, e⟩
    · rw [List.mem_singleton.mp hb]; exact ⟨o', e'⟩
  · rcases List.mem_cons.mp hb with rfl | hb
    · obtain ⟨o, e⟩ := rd.live _ hX
      have := none_of_ext x₁ hI
      rw [this] at e; cases e
    · rw [List.mem_singleton.mp hb] at hX; exact hd hq l rfl hX
theorem EvIt.list {e : PySem.Expr} {Vs : List AV} (he : EvO prog w mg mb n env ρ e (.list Vs)) : EvIt prog w mg mb n env ρ false e Vs :=
  fun A X s Q E ao eo rd q => he A X s _ E ao eo rd fun v s₁ x₁ r₁ => itOk_list (d := false) rd x₁ r₁ (fun h => by cases h) q
theorem EvIt.listS {e : PySem.Expr} {Vs : List AV} {d : Bool} (he : Ev prog w mg mb n env ρ e (.list Vs)) : EvIt prog w mg mb n env ρ d e Vs :=
  fun A X s Q E ao eo rd q => he A X s _ E ao eo rd fun v s₁ x₁ r₁ a₁ => itOk_list (d := d) rd x₁ r₁ (fun _ => a₁) q
theorem new_not {s s₁ : Shared} {I : Addr} {d : Bool} (rd : Rd prog w mg mb X env ρ s) (h : s.heap.get? I = none) : d = true → ∀ b ∈ [I], b ∉ X := fun _ b hb hX => by
  rw [List.mem_singleton.mp hb] at hX
  obtain ⟨o, e⟩ := rd.live _ hX
  rw [h] at e; cases e
theorem EvIt.str {e : PySem.Expr} {x : Tx} {d : Bool} (he : EvO prog w mg mb n env ρ e (T x)) : EvIt prog w mg mb n env ρ d e (x.map fun c => T [c]) := by
  intro A X s Q E ao eo rd q
  refine he A X s _ E ao eo rd fun v s₁ x₁ r₁ => ?_
  obtain ⟨t, rfl⟩ := r₁.str_inv
  have e : (S x).cps.size = (x.map fun c => T [c]).length := by simp [S]
  have key : ∀ (o : Obj) (St : Nat → Heap → Prop), (∀ A' : Around, A'.handled = none → Walks prog w A' s₁.heap.objs.size [s₁.heap.objs.size] [s₁.heap.objs.size] (S x).cps.size (SignAt (S x)) St) → St 0 (s₁.heap.push o) →
      (∀ i h, St i h → ∃ o, h.get? s₁.heap.objs.size = some o) → Q (.ref s₁.heap.objs.size) { s₁ with heap := s₁.heap.push o } := by
    intro o St W st lv
    have x₂ : Ext s₁ { s₁ with heap := s₁.heap.push o } := Ext.push _ _
    refine q _ _ [s₁.heap.objs.size] (SignAt (S x)) St (x₁.trans x₂) (none_of_ext x₁ (get?_size _)) ⟨fun A' hA => e ▸ W A' hA, st, fun i v hv => ?_, List.mem_singleton.mpr rfl, fun i h st b hb => by rw [List.mem_singleton.mp hb]; exact lv i h st⟩ (new_not (s₁ := s₁) rd (none_of_ext x₁ (get?_size _)))
    · obtain ⟨c, u, hc, rfl⟩ := hv
      have hc' : x[i]? = some c := by simpa [S] using hc
      exact ⟨T [c], by simp [hc'], .sc (.str _ _), Av.plain fun _ e => by cases e⟩
  cases ha : (S x).cps.all (· < 128)
  · exact wpAny_pyIter_wide ha (key _ _ (fun A' hA => Walks.strWide hA _ (S x) t) ⟨_, Heap.get?_push_size _ rfl, rfl, rfl⟩ fun i h st => let ⟨o, e, _⟩ := st; ⟨o, e⟩)
  · exact wpAny_pyIter_ascii ha (key _ _ (fun A' hA => Walks.strAscii hA _ (S x) t) ⟨_, Heap.get?_push_size _ rfl, rfl, rfl⟩ fun i h st => let ⟨o, e, _⟩ := st; ⟨o, e⟩)
noncomputable def rangeL (a b : Int) : List Int := (List.range (b - a).toNat).map fun i : Nat => a + (i : Int)
theorem itOk_range {s₁ : Shared} {lo hi : Int} {t u v : Tok} {r : Addr} {A : Around} {Q : Value → Shared → Prop} {E : Value → Shared → Prop} {s : Shared} {d : Bool} (rd : Rd prog w mg mb X env ρ s) (x₁ : Ext s s₁) (hr : IsRange s₁.heap r lo hi 1 t u v) (h1 : -(2 ^ 62) ≤ lo) (h2 : lo < 2 ^ 62) (h3 : -(2 ^ 62) ≤ hi) (h4 : hi < 2 ^ 62)
    (q : ∀ I s₂ fp P St, Ext s s₂ → s.heap.get? I = none → ItOk prog w (I :: X) s₂ I ((rangeL lo hi).map AV.int) fp P St → (d = true → ∀ b ∈ fp, b ∉ X) → Q (.ref I) s₂) : wpAny (model prog w) A (pyIter (.ref r)) Q E s₁ := by
  refine wpAny_pyIter_range hr (small_one h1 h2 h3 h4) ?_
  have hsz : Builtin.Range.rangeSize lo hi 1 = ((hi - lo).toNat : Int) := by rw [rangeSize_one]; split <;> omega
  refine q _ _ [s₁.heap.objs.size] (fun i v => i < (hi - lo).toNat ∧ ∃ t, v = .int (lo + i) t) (fun i h => IsRangeIter h s₁.heap.objs.size (lo + (i : Nat) * 1) (((hi - lo).toNat : Int) - (i : Nat)) 1) (x₁.trans (Ext.push _ _)) (none_of_ext x₁ (get?_size _)) ⟨fun A' hA => ?_, ?_, fun i v hv => ?_, List.mem_singleton.mpr rfl, fun i h st b hb => by rw [List.mem_singleton.mp hb]; exact ⟨_, st⟩⟩ (new_not (s₁ := s₁) rd (none_of_ext x₁ (get?_size _)))
  · have W := Walks.range (prog := prog) (w := w) hA s₁.heap.objs.size lo 1 (hi - lo).toNat
    have e : ((rangeL lo hi).map AV.int).length = (hi - lo).toNat := by simp [rangeL]
    rw [e]
    exact ⟨W.sub, W.frame, fun i s Q E hi' st hQ => W.item i s Q E hi' st fun v h' tk hv => hQ v h' tk ⟨hi', let ⟨t, e⟩ := hv; ⟨t, by rw [e]; simp⟩⟩, W.done, W.self⟩
  · have e1 : (lo + ((0 : Nat) : Int) * 1) = lo := by simp
    have e2 : (((hi - lo).toNat : Int) - ((0 : Nat) : Int)) = Builtin.Range.rangeSize lo hi 1 := by rw [hsz]; simp
    show IsRangeIter _ _ (lo + ((0 : Nat) : Int) * 1) (((hi - lo).toNat : Int) - ((0 : Nat) : Int)) 1
    rw [e1, e2]
    exact Heap.get?_push_size _ rfl
  · obtain ⟨hi', t, rfl⟩ := hv
    exact ⟨.int (lo + i), by simp [rangeL, hi'], .sc (.int _ _), Av.plain fun _ e => by cases e⟩
theorem EvIt.range1 {f : Str} {e : PySem.Expr} {p pos : Pos} {hi : Int} {d : Bool} (he : EvO prog w mg mb n env ρ e (.int hi)) (hk : env.kindOf f = some .globalImplicit) (hm : mg f = none) (hb : mb f = some (.type "range")) (h3 : -(2 ^ 62) ≤ hi) (h4 : hi < 2 ^ 62) (hd : (f == ("__debug__" : Str)) = false := by rfl) (hs : starEach [e] env = [(false, eval e env)] := by rfl) :
    EvIt prog w mg mb n env ρ d (.Call (.Name f p) [e] [] pos) ((rangeL 0 hi).map AV.int) := by
  intro A X s Q E ao eo rd q
  rw [arm_eval_Call_Name']
  refine wpAny_bind (Calls.Name_function_global eo.kind hk (Calls.loadGlobal_builtin (mg := mg) (mb := mb) (by rw [eo.globals]; exact rd.gl.g) hm (by rw [eo.builtins]; exact rd.gl.b) hb ?_) hd)
  show wpAny _ _ (callWith pos (.type "range") [] (backTo pos (starEach [e] env)) []) _ _ _
  refine Pv.callWith_type1 ?_ hs rfl
  rw [hs]
  refine Calls.spliced_cons (he A X s _ E ao eo rd fun v s₁ x₁ r₁ => Calls.spliced_nil ?_)
  obtain ⟨t, rfl⟩ := r₁.int_inv
  refine call_range_1 ?_
  exact itOk_range (s₁ := { s₁ with heap := s₁.heap.push { cls := .type "range", data := .fields #[.int 0 s₁.toks, .int hi t, .int 1 (s₁.toks + 1)] }, toks := s₁.toks + 1 + 1 }) rd (x₁.trans ((Ext.push s₁ _).toks _)) (IsRange.new _ _ _ _ _ _ _) (by decide) (by decide) h3 h4 q
end Mine
end
section
set_option maxRecDepth 100000
set_option maxHeartbeats 4000000
namespace Mine
variable {prog : Program} {w : World} {mg mb : Str → Option Value} {n : Nat} {env : Env} {ρ : PEnv} {X : List Addr} {h : Heap} {v : Value}

noncomputable def bsl (bs : List (Str × AV)) : PEnv := bs.map fun p => (p.1, ⟨p.2, none⟩)
theorem bsl_look {bs : List (Str × AV)} {ρ : PEnv} {y : Str} {sl : Sl} (e : (bsl bs ++ ρ).lookup y = some sl) : (∃ W, bs.lookup y = some W ∧ sl = ⟨W, none⟩) ∨ (bs.lookup y = none ∧ ρ.lookup y = some sl) := by
  induction bs with
  | nil => exact .inr ⟨rfl, e⟩
  | cons b bs ih =>
    obtain ⟨x, V⟩ := b
    simp only [bsl, List.map_cons, List.cons_append, List.lookup_cons] at e ⊢
    cases hb : y == x with
    | true => rw [hb] at e; exact .inl ⟨V, rfl, (Option.some.inj e).symm⟩
    | false => rw [hb] at e; exact ih e
noncomputable def BOk (prog : Program) (w : World) (Y : List Addr) (h : Heap) (m : Str → Option Value) (bs : List (Str × AV)) : Prop := ∀ y W, bs.lookup y = some W → ∃ u, m y = some u ∧ R prog w Y h u W ∧ Av Y u
theorem Rd.bind {s : Shared} {m : Str → Option Value} {bs : List (Str × AV)} (r : Rd prog w mg mb X env ρ s) (hn : s.heap.Ns env.locals m) (hb : BOk prog w X s.heap m bs) (hk : ∀ y W, bs.lookup y = some W → env.kindOf y = some .local) : Rd prog w mg mb X env (bsl bs ++ ρ) s := by
  refine ⟨r.gl, r.live, fun y sl e => ?_⟩
  rcases bsl_look e with ⟨W, hW, rfl⟩ | ⟨_, e⟩
  · obtain ⟨u, h1, h2, h3⟩ := hb y W hW
    exact ⟨u, .loc m (hk y W hW) hn h1, h2, fun _ => h3⟩
  · exact r.vals y sl e

noncomputable def Bnd (prog : Program) (w : World) (C I : Addr) (St' : Heap → Prop) (Y : List Addr) (target : PySem.Expr) (cenv : Env) (V : AV) (bs : List (Str × AV)) : Prop :=
  ∀ (A : Around) (s : Shared) (E : Value → Shared → Prop) (v : Value) (m : Str → Option Value) (Q : Unit → Shared → Prop), A.handled = none → St' s.heap → R prog w Y s.heap v V → Av Y v → s.heap.Ns C m →
    (∀ h' t m', Heap.ExtBut C s.heap h' → h'.Ns C m' → BOk prog w Y h' m' bs → Q () { s with heap := h', toks := t }) → wpAny (model prog w) A (letOwnedTupleGo target (.ref I) v >>= fun _ => assign target cenv v) Q E s
theorem Bnd.name {C I : Addr} {St' : Heap → Prop} {Y : List Addr} {x : Str} {px : Pos} {cenv : Env} {V : AV} (hC : cenv.locals = C) (hY : C ∈ Y) (hx : cenv.kindOf x = some .local) (hk : cenv.scope.kind = .function) : Bnd prog w C I St' Y (.Name x px) cenv V [(x, V)] := by
  intro A s E v m Q _ _ r a hn q
  subst hC
  refine wpAny_bind (wpAny_pure (wpAny_assign_Name (wpAny_storeName_local hx hn (fun h' hn' hs' => q h' _ _ hs'.extBut hn' ?_) (by rw [hk]; rfl))))
  intro y W e
  rw [List.lookup_cons] at e
  cases hb : y == x with
  | true =>
    rw [hb] at e; cases e
    exact ⟨v, if_pos (beq_iff_eq.mp hb), r.kpX (KpX.but hs'.extBut hY) a, a⟩
  | false => rw [hb] at e; cases e

noncomputable def Tst (prog : Program) (w : World) (mg mb : Str → Option Value) (n : Nat) (env : Env) (ρ : PEnv) (ifs : List PySem.Expr) (b : Bool) : Prop :=
  match ifs with | [] => b = true | [c] => Tr prog w mg mb n env ρ c b | _ => False
theorem Tst.go {ifs : List PySem.Expr} {b : Bool} {A : Around} {s : Shared} {E : Value → Shared → Prop} {Q : Bool → Shared → Prop} (t : Tst prog w mg mb n env ρ ifs b) (a : AOk n A) (eo : EnvOk env) (rd : Rd prog w mg mb X env ρ s) (q : ∀ s', Ext s s' → Q b s') :
    wpAny (model prog w) A (forIn ifs true fun c r => if r = true then do let ok ← isTrue c env (eval c env); pure (ForInStep.yield ok) else pure (ForInStep.yield r)) Q E s := by
  match ifs, t with
  | [], t => subst t; rw [List.forIn_nil]; exact wpAny_pure (q s (.refl s))
  | [c], t =>
    rw [List.forIn_cons]
    refine wpAny_bind (wpAny_ite ?_)
    rw [if_pos rfl]
    refine wpAny_bind (t A X s _ E a eo rd fun s' x => wpAny_pure ?_)
    show wpAny _ _ (forIn [] b _) _ _ _
    rw [List.forIn_nil]; exact wpAny_pure (q s' x)

section
variable {A : Around} {R' : Result → Shared → Prop} {s : Shared}
theorem loop_list {elt target iter : PySem.Expr} {ifs : List PySem.Expr} {scope : Scope} {pos : Pos} {it acc : Value} {env : Env} (I : Nat → Shared → Prop)
    (turn : ∀ n s, I n s → wpAny (model prog w) A (pyNext it) (fun r s₁ => match r with
      | none => R' (.ok .next) s₁
      | some v => wpAny (model prog w) A (letOwnedTupleGo target it v >>= fun _ => assign target env v) (fun _ s₂ =>
          wpAny (model prog w) A (forIn ifs true fun c r => if r = true then do let ok ← isTrue c env (eval c env); pure (ForInStep.yield ok) else pure (ForInStep.yield r)) (fun ok s₃ =>
            if ok = true then wpAny (model prog w) A (eval elt env) (fun x s₄ =>
              wpAny (model prog w) A (call (.builtin "list.append") [acc, x]) (fun _ s₅ => ∃ m, m < n ∧ I m s₅) (notedBy (model prog w) A env fun e s' => R' (.error e) s') s₄) (notedBy (model prog w) A env fun e s' => R' (.error e) s') s₃
            else ∃ m, m < n ∧ I m s₃) (notedBy (model prog w) A env fun e s' => R' (.error e) s') s₂) (notedBy (model prog w) A env fun e s' => R' (.error e) s') s₁) (notedBy (model prog w) A env fun e s' => R' (.error e) s') s)
    (n : Nat) (h : I n s) : codeAny (model prog w) A (.compLoop (.ListComp elt [⟨target, iter, ifs, 0⟩] scope pos) 0 it acc env) R' s := by
  refine codeAny_loop rfl I (fun n s hI => ?_) n h
  show wpAny _ A ((compTurn (.ListComp elt [⟨target, iter, ifs, 0⟩] scope pos) 0 it acc env).onRaise (fun x => do noteFrame x env; theTreesLotGoes x)) _ _ s
  refine wpAny_noted ?_
  rw [compTurn_list]
  refine wpAny_bind (wpAny_standAt (wpAny_bind (wpAny_mono (turn n s hI) (fun r s₁ h₁ => ?_) fun _ _ h' => h')))
  cases r with
  | none => exact wpAny_pure h₁
  | some v =>
    have hA : ∀ {β : Type} (k : Unit → Sem β), (letOwnedTupleGo target it v >>= fun _ => assign target env v >>= k) = (letOwnedTupleGo target it v >>= fun _ => assign target env v) >>= k := fun k => by rw [bind_assoc]
    show wpAny _ A (letOwnedTupleGo target it v >>= fun _ => assign target env v >>= _) _ _ _
    rw [hA]
    refine wpAny_bind (wpAny_mono h₁ (fun _ s₂ h₂ => wpAny_bind (wpAny_mono h₂ (fun ok s₃ h₃ => ?_) fun _ _ h' => h')) fun _ _ h' => h')
    cases ok with
    | false => exact wpAny_pure ⟨rfl, h₃⟩
    | true =>
      exact wpAny_bind (wpAny_bind (wpAny_mono h₃ (fun x s₄ h₄ => wpAny_bind (wpAny_mono h₄ (fun _ s₅ h₅ => wpAny_pure (wpAny_pure ⟨rfl, h₅⟩)) fun _ _ h' => h')) fun _ _ h' => h'))

theorem comp_loop {elt target iter : PySem.Expr} {ifs : List PySem.Expr} {scope : Scope} {pos : Pos} {I D C : Addr} {Y fp : List Addr} {Vs : List AV} {P : Nat → Value → Prop} {St : Nat → Heap → Prop} {cenv : Env} {m : Str → Option Value} {s₂ : Shared} {ρc : PEnv}
    (bs : AV → List (Str × AV)) (p : AV → Bool) (F : AV → AV) (ao : AOk n A) (eo : EnvOk cenv) (hC : cenv.locals = C) (hI : I ∈ Y) (hD : D ∈ Y) (hCY : C ∈ Y) (hDC : D ≠ C) (hDf : D ∉ fp) (hCf : C ∉ fp)
    (it : ItOk prog w Y s₂ I Vs fp P St) (hz : Vs.length ≤ 1048576) (hacc : s₂.heap.PlainList D #[]) (hn : s₂.heap.Ns C m) (hrd : ∀ s', Chg [I, D, C] s₂ s' → Live [I, D, C] s'.heap → Rd prog w mg mb Y cenv ρc s')
    (hb : ∀ i V, Vs[i]? = some V → Bnd prog w C I (St (i + 1)) Y target cenv V (bs V)) (hk : ∀ V ∈ Vs, ∀ y W, (bs V).lookup y = some W → cenv.kindOf y = some .local)
    (ht : ∀ V ∈ Vs, Tst prog w mg mb n cenv (bsl (bs V) ++ ρc) ifs (p V)) (he : ∀ V ∈ Vs, p V = true → Ev prog w mg mb n cenv (bsl (bs V) ++ ρc) elt (F V))
    (q : ∀ s' ys m', Chg [I, D, C] s₂ s' → s'.heap.PlainList D ys → s'.heap.Ns C m' → Rs prog w Y s'.heap ys.toList ((Vs.filter p).map F) → R' (.ok .next) s') :
    codeAny (model prog w) A (.compLoop (.ListComp elt [⟨target, iter, ifs, 0⟩] scope pos) 0 (.ref I) (.ref D) cenv) R' s₂ := by
  subst hC
  have W := it.walks A ao.handled
  refine loop_list (fun k s' => ∃ i ys m', Chg [I, D, cenv.locals] s₂ s' ∧ St i s'.heap ∧ s'.heap.PlainList D ys ∧ s'.heap.Ns cenv.locals m' ∧ Rs prog w Y s'.heap ys.toList (((Vs.take i).filter p).map F) ∧ i ≤ Vs.length ∧ k = Vs.length + 1 - i) ?_ (Vs.length + 1)
    ⟨0, #[], m, .refl _, it.st, hacc, hn, by simpa using Rs.nil, Nat.zero_le _, rfl⟩
  rintro k s' ⟨i, ys, m', c', st', acc', hn', rs', hi, rfl⟩
  have sub3 : ∀ b ∈ [I, D, cenv.locals], b ∈ Y := fun b hb => by
    simp only [List.mem_cons, List.not_mem_nil, or_false] at hb
    rcases hb with rfl | rfl | rfl <;> assumption
  have one : ∀ {a}, a ∈ [I, D, cenv.locals] → ∀ {h h' : Heap} {b : Shared}, Heap.ExtBut a h h' → KpX [I, D, cenv.locals] h h' := fun ha => fun k => KpX.but k ha
  have hDw : D ≠ I := fun q => hDf (q ▸ it.self)
  have hCw : cenv.locals ≠ I := fun q => hCf (q ▸ it.self)
  by_cases hlt : i < Vs.length
  · refine W.item i s' _ _ hlt st' fun v h₁ tk₁ hPv st₁ k₁ => ?_
    obtain ⟨V, hV, rV, aV⟩ := it.item i v hPv
    have hmem : V ∈ Vs := List.mem_of_getElem? hV
    have c₁ : Chg [I, D, cenv.locals] s₂ { s' with heap := h₁, toks := tk₁ } := c'.trans (Chg.heap (fun b o hb e => k₁ b o (fun q => hb (by rw [List.mem_singleton.mp q]; exact List.mem_cons_self ..)) e) tk₁)
    have acc₁ : h₁.PlainList D ys := acc'.at fun o e => k₁ D o (by simpa using hDw) e
    have hn₁ : h₁.Ns cenv.locals m' := hn'.at' fun o e => k₁ _ o (by simpa using hCw) e
    have rs₁ : Rs prog w Y h₁ ys.toList (((Vs.take i).filter p).map F) := rs'.kpX fun b o hb e => k₁ b o (fun q => hb (by rw [List.mem_singleton.mp q]; exact hI)) e
    have rV₁ : R prog w Y h₁ v V := rV.kpX (c₁.mono sub3).kp aV
    refine hb i V hV A { s' with heap := h₁, toks := tk₁ } _ v m' _ ao.handled st₁ rV₁ aV hn₁ fun h₂ t₂ m₂ e₂ hn₂ b₂ => ?_
    have kk₂ : KpX [I, D, cenv.locals] h₁ h₂ := KpX.but e₂ (by simp)
    have c₂ : Chg [I, D, cenv.locals] s₂ { s' with heap := h₂, toks := t₂ } := c₁.trans (Chg.heap (s := { s' with heap := h₁, toks := tk₁ }) kk₂ t₂)
    have st₂ : St (i + 1) h₂ := W.frame _ _ _ st₁ fun b hb o e => e₂ b o (fun q => hCf (q ▸ hb)) e
    have acc₂ : h₂.PlainList D ys := acc₁.extBut e₂ hDC
    have lv₂ : Live [I, D, cenv.locals] h₂ := fun a ha => by
      simp only [List.mem_cons, List.not_mem_nil, or_false] at ha
      rcases ha with rfl | rfl | rfl
      · exact it.live _ _ st₂
      · exact ⟨_, acc₂.choose_spec⟩
      · obtain ⟨o, _, _, e, _⟩ := id hn₂; exact ⟨o, e⟩
    have rd₂ := (hrd _ c₂ lv₂).bind hn₂ b₂ (hk V hmem)
    have rs₂ : Rs prog w Y h₂ ys.toList (((Vs.take i).filter p).map F) := rs₁.kpX (KpX.but e₂ hCY)
    have tk : (Vs.take (i + 1)) = Vs.take i ++ [V] := by rw [List.take_add_one, hV]; rfl
    refine (ht V hmem).go ao eo rd₂ fun s₃ x₃ => ?_
    have c₃ := c₂.trans (x₃.chg (N := [I, D, cenv.locals]))
    have st₃ : St (i + 1) s₃.heap := W.frame _ _ _ st₂ fun b _ o e => x₃.kp b o e
    cases hp : p V with
    | false =>
      simp only [Bool.false_eq_true, if_false]
      refine ⟨Vs.length + 1 - (i + 1), by omega, i + 1, ys, m₂, c₃, st₃, acc₂.at fun o e => x₃.kp _ o e, hn₂.keeps x₃.kp, ?_, hlt, rfl⟩
      rw [tk, List.filter_append]
      simpa [hp] using rs₂.kp x₃.kp
    | true =>
      simp only [if_true]
      refine he V hmem hp A Y s₃ _ _ ao eo (rd₂.ext x₃) fun y s₄ x₄ ry ay => ?_
      have c₄ := c₃.trans (x₄.chg (N := [I, D, cenv.locals]))
      have acc₄ : s₄.heap.PlainList D ys := (acc₂.at fun o e => x₃.kp _ o e).at fun o e => x₄.kp _ o e
      have rs₄ := (rs₂.kp x₃.kp).kp x₄.kp
      have hys : ys.size ≤ sizeLine := by
        have e1 := rs₄.length
        have e2 : (((Vs.take i).filter p).map F).length ≤ Vs.length := by
          rw [List.length_map]; exact Nat.le_trans (List.length_filter_le _ _) (by rw [List.length_take]; omega)
        have e3 : ys.toList.length = ys.size := by simp
        rw [sizeLine_eq]; omega
      refine wpAny_list_append_plain (hsz := hys) acc₄ fun h₅ acc₅ hs₅ => ?_
      have c₅ : Chg [I, D, cenv.locals] s₂ { s₄ with heap := h₅ } := c₄.trans (Chg.heap (KpX.but hs₅.extBut (by simp)) s₄.toks)
      have kY : KpX Y s₄.heap h₅ := KpX.but hs₅.extBut hD
      refine ⟨Vs.length + 1 - (i + 1), by omega, i + 1, ys.push y, m₂, c₅, W.frame _ _ _ (W.frame _ _ _ st₃ fun b _ o e => x₄.kp b o e) (fun b hb o e => hs₅.extBut b o (fun q => hDf (q ▸ hb)) e), acc₅,
        ((hn₂.keeps x₃.kp).keeps x₄.kp).sameBut hs₅ (Ne.symm hDC), ?_, hlt, rfl⟩
      rw [tk, List.filter_append, List.map_append, Array.toList_push]
      refine (rs₄.kpX kY).append ?_
      simpa [hp] using Rs.one ay (ry.kpX kY ay)
  · have hin : i = Vs.length := by omega
    refine W.done s' _ _ (hin ▸ st') fun h₁ tk₁ k₁ => ?_
    refine q { s' with heap := h₁, toks := tk₁ } ys m' (c'.trans (Chg.heap (fun b o hb e => k₁ b o (fun q => hb (by rw [List.mem_singleton.mp q]; exact List.mem_cons_self ..)) e) tk₁)) (acc'.at fun o e => k₁ D o (by simpa using hDw) e) (hn'.at' fun o e => k₁ _ o (by simpa using hCw) e) ?_
    have := rs'.kpX (h' := h₁) fun b o hb e => k₁ b o (fun q => hb (by rw [List.mem_singleton.mp q]; exact hI)) e
    rw [hin, List.take_length] at this
    exact this
end
end Mine
end
section
set_option maxRecDepth 100000
set_option maxHeartbeats 4000000
namespace Mine
variable {prog : Program} {w : World} {mg mb : Str → Option Value} {n : Nat} {env : Env} {ρ : PEnv} {X : List Addr} {h : Heap} {v : Value}

/- captured names -/
noncomputable def closL (env : Env) : List (Str × NameKind) → List (Str × Addr) → List (Str × Addr)
  | [], acc => acc
  | (n, k) :: r, acc => if k == .free then closL env r ((n, (env.cells.lookup n).getD 0) :: acc) else closL env r acc
theorem cellOf_some {env : Env} {n : Str} {c : Addr} (h : env.cells.lookup n = some c) : cellOf env n = pure c := by unfold cellOf; rw [h]
theorem clos_eq {env : Env} : ∀ (names : List (Str × NameKind)) (acc : List (Str × Addr)), names.all (fun x => x.2 != .free || (env.cells.lookup x.1).isSome) = true →
    (forIn names acc (fun (x : Str × NameKind) (r : List (Str × Addr)) => if (x.2 == NameKind.free) = true then (do let c ← cellOf env x.1; pure (ForInStep.yield ((x.1, c) :: r)) : Sem _) else pure (ForInStep.yield r))) = (pure (closL env names acc) : Sem _)
  | [], acc, _ => by rw [List.forIn_nil]; rfl
  | (n, k) :: r, acc, h => by
    rw [List.all_cons, Bool.and_eq_true] at h
    rw [List.forIn_cons]
    unfold closL
    cases hk : (k == NameKind.free) with
    | false =>
      simp only [hk, Bool.false_eq_true, if_false, pure_bind]
      exact clos_eq r acc h.2
    | true =>
      have : k = .free := beq_iff_eq.mp hk
      subst this
      have h1 : (env.cells.lookup n).isSome = true := by simpa using h.1
      obtain ⟨c, hc⟩ := Option.isSome_iff_exists.mp h1
      simp only [hk, if_true, cellOf_some hc, pure_bind, hc, Option.getD_some]
      exact clos_eq r _ h.2
theorem closureFor_eq {scope : Scope} {env : Env} (h : scope.names.all (fun x => x.2 != .free || (env.cells.lookup x.1).isSome) = true) : closureFor scope env = pure (closL env scope.names []) := by
  have := clos_eq scope.names [] h
  unfold closureFor
  rw [← this]
  simp only [bind_pure]
theorem closL_look {env : Env} : ∀ (names : List (Str × NameKind)) (acc : List (Str × Addr)) (y : Str), ((y, NameKind.free) ∈ names ∨ acc.lookup y = some ((env.cells.lookup y).getD 0)) → (∀ a c, acc.lookup a = some c → c = (env.cells.lookup a).getD 0) →
    (closL env names acc).lookup y = some ((env.cells.lookup y).getD 0)
  | [], acc, y, h, _ => by
    rcases h with h | h
    · cases h
    · exact h
  | (m, k) :: r, acc, y, h, ha => by
    unfold closL
    cases hk : (k == NameKind.free) with
    | false =>
      rw [if_neg Bool.false_ne_true]
      refine closL_look r acc y ?_ ha
      rcases h with h | h
      · rcases List.mem_cons.mp h with e | h
        · cases e; simp at hk
        · exact .inl h
      · exact .inr h
    | true =>
      rw [if_pos rfl]
      have ha' : ∀ a c, ((m, (env.cells.lookup m).getD 0) :: acc).lookup a = some c → c = (env.cells.lookup a).getD 0 := fun a c e => by
        rw [List.lookup_cons] at e
        cases hb : a == m with
        | true => rw [hb] at e; cases e; rw [beq_iff_eq.mp hb]
        | false => rw [hb] at e; exact ha a c e
      refine closL_look r _ y ?_ ha'
      by_cases e : (y, NameKind.free) ∈ r
      · exact .inl e
      · refine .inr ?_
        rw [List.lookup_cons]
        cases hb : y == m with
        | true => rw [beq_iff_eq.mp hb]
        | false =>
          rcases h with h | h
          · rcases List.mem_cons.mp h with e' | h
            · cases e'; simp at hb
            · exact absurd h e
          · exact h
noncomputable def capρ (scope : Scope) (env : Env) (ρ : PEnv) : PEnv := ρ.filter fun p => (relabel scope env).names.lookup p.1 == some .cell
theorem lookup_filter {α : Type} {p : Str → Bool} : ∀ {l : List (Str × α)} {y : Str} {a : α}, (l.filter fun q => p q.1).lookup y = some a → l.lookup y = some a ∧ p y = true
  | (k, b) :: l, y, a, e => by
    rw [List.filter_cons] at e
    cases hp : p k with
    | true =>
      simp only [hp, if_true, List.lookup_cons] at e ⊢
      cases hb : y == k with
      | true => rw [hb] at e; exact ⟨e, by rw [beq_iff_eq.mp hb]; exact hp⟩
      | false => rw [hb] at e; exact lookup_filter e
    | false =>
      simp only [hp, Bool.false_eq_true, if_false] at e
      obtain ⟨h1, h2⟩ := lookup_filter e
      refine ⟨?_, h2⟩
      rw [List.lookup_cons]
      cases hb : y == k with
      | true => rw [beq_iff_eq.mp hb, hp] at h2; cases h2
      | false => exact h1
theorem relabel_cell {env : Env} : ∀ {names : List (Str × NameKind)} {y : Str}, names.all (fun x => x.2 != .cell) = true →
    (names.map fun (n, k) => if (k == NameKind.free && env.scope.kind == .function && env.kindOf n == some .cell) = true then (n, NameKind.cell) else (n, k)).lookup y = some .cell → env.kindOf y = some .cell ∧ (y, NameKind.free) ∈ names
  | (m, k) :: r, y, hc, e => by
    rw [List.all_cons, Bool.and_eq_true] at hc
    rw [List.map_cons] at e
    dsimp only at e
    by_cases hq : (k == NameKind.free && env.scope.kind == .function && env.kindOf m == some .cell) = true
    · rw [if_pos hq, List.lookup_cons] at e
      cases hb : y == m with
      | true =>
        simp only [Bool.and_eq_true, beq_iff_eq] at hq hb
        rw [hb]
        exact ⟨hq.2, by rw [← hq.1.1]; exact List.mem_cons_self ..⟩
      | false => rw [hb] at e; obtain ⟨a, b⟩ := relabel_cell hc.2 e; exact ⟨a, List.mem_cons_of_mem _ b⟩
    · rw [if_neg hq, List.lookup_cons] at e
      cases hb : y == m with
      | true => rw [hb] at e; cases e; simp at hc
      | false => rw [hb] at e; obtain ⟨a, b⟩ := relabel_cell hc.2 e; exact ⟨a, List.mem_cons_of_mem _ b⟩
structure ScOk (scope : Scope) (env : Env) : Prop where
  free : scope.names.all (fun x => x.2 != .free || (env.cells.lookup x.1).isSome) = true
  cell : scope.names.all (fun x => x.2 != .cell) = true
  loc : scope.names.all (fun x => x.2 != .local || scope.names.lookup x.1 == some .local) = true
  kind : scope.kind = .function
theorem Rd.cap {s : Shared} {scope : Scope} {C : Addr} (o : ScOk scope env) (r : Rd prog w mg mb X env ρ s) : Rd prog w mg mb X (compEnvC scope (closL env scope.names []) C env) (capρ scope env ρ) s := by
  refine ⟨r.gl, r.live, fun y sl e => ?_⟩
  obtain ⟨h1, h2⟩ := lookup_filter (p := fun y => (relabel scope env).names.lookup y == some .cell) e
  have h2' : (relabel scope env).names.lookup y = some .cell := beq_iff_eq.mp h2
  obtain ⟨v, q, rest⟩ := r.vals y sl h1
  refine ⟨v, ?_, rest⟩
  obtain ⟨k1, k2⟩ := relabel_cell o.cell h2'
  cases q with
  | loc m a b c => rw [k1] at a; cases a
  | cell c a b i =>
    refine .cell c h2' ?_ i
    show (closL env scope.names []).lookup y = some c
    rw [closL_look scope.names [] y (.inl k2) (fun a c e => by cases e), b]; rfl

section
variable {A : Around} {E : Value → Shared → Prop} {s s₂ : Shared}
theorem comp_block {RR : Value → Addr → Result → Shared → Prop} {elt target iter : PySem.Expr} {ifs : List PySem.Expr} {scope : Scope} {pos : Pos} {I : Addr} {X fp : List Addr} {Vs : List AV} {P : Nat → Value → Prop} {St : Nat → Heap → Prop}
    (bs : AV → List (Str × AV)) (p : AV → Bool) (F : AV → AV) (ao : AOk n A) (eo : EnvOk env) (o : ScOk scope env) (rd : Rd prog w mg mb X env ρ s) (x₂ : Ext s s₂) (hI : s.heap.get? I = none) (it : ItOk prog w (I :: X) s₂ I Vs fp P St) (hz : Vs.length ≤ 1048576)
    (hb : ∀ C Y i V, C ∈ Y → Vs[i]? = some V → Bnd prog w C I (St (i + 1)) Y target (compEnvC scope (closL env scope.names []) C env) V (bs V)) (hk : ∀ C, ∀ V ∈ Vs, ∀ y W, (bs V).lookup y = some W → (compEnvC scope (closL env scope.names []) C env).kindOf y = some .local)
    (ht : ∀ C, ∀ V ∈ Vs, Tst prog w mg mb n (compEnvC scope (closL env scope.names []) C env) (bsl (bs V) ++ capρ scope env ρ) ifs (p V)) (he : ∀ C, ∀ V ∈ Vs, p V = true → Ev prog w mg mb n (compEnvC scope (closL env scope.names []) C env) (bsl (bs V) ++ capρ scope env ρ) elt (F V))
    (q : ∀ D C s' ys m', Ext s s' → s.heap.get? D = none → s.heap.get? C = none → D ≠ C → s'.heap.PlainList D ys → s'.heap.Ns C m' → Rs prog w (C :: X) s'.heap ys.toList ((Vs.filter p).map F) → RR (.ref D) C (.ok .next) s') :
    wpAny (model prog w) A (newList []) (fun acc s₃ => wpAny (model prog w) A (newFunctionEnv scope env.globals (closL env scope.names []) [] env.qual none .none (some env)) (fun cenv s₄ =>
      codeAny (model prog w) A (.compStart (.ListComp elt [⟨target, iter, ifs, 0⟩] scope pos) 0 (.ref I) acc { cenv with scope := relabel scope env }) (RR acc cenv.locals) s₄) E s₃) E s₂ := by
  refine wpAny_newObj_type (wpAny_newFunctionEnv (fun x hx => by simpa using List.all_eq_true.mp o.cell x hx) (by intro y hy; simp at hy) (fun h₁ hns₁ hsb₁ => ?_) o.kind)
  dsimp only at hns₁ hsb₁ ⊢
  generalize hH2 : s₂.heap.push { cls := .type "list", dict := none, data := .seq ([] : List Value).toArray } = H2 at hns₁ hsb₁ ⊢
  have hC : H2.objs.size = s₂.heap.objs.size + 1 := by rw [← hH2, Heap.size_push]
  generalize hCd : H2.objs.size = C at hns₁ hsb₁ hC ⊢
  generalize hDd : s₂.heap.objs.size = D at hC ⊢
  have hD2 : s₂.heap.get? D = none := get?_none (by rw [hDd]; exact Nat.le_refl _)
  have hC2 : s₂.heap.get? C = none := get?_none (by rw [hDd, hC]; exact Nat.le_succ _)
  have hDC : D ≠ C := by rw [hC]; exact Nat.ne_of_lt (Nat.lt_succ_self _)
  have old : ∀ b o, s₂.heap.get? b = some o → h₁.get? b = some o := fun b o e => hsb₁.extBut b o (by rintro rfl; rw [hC2] at e; cases e) (Heap.get?_push_of_some _ (hH2 ▸ Heap.get?_push_of_some _ e))
  have hacc0 : H2.get? D = some { cls := .type "list", dict := none, data := .seq ([] : List Value).toArray } := by rw [← hH2, ← hDd]; exact Heap.get?_push_size _ rfl
  have hacc : h₁.PlainList D #[] := ⟨_, hsb₁.extBut _ _ hDC (Heap.get?_push_of_some _ hacc0)⟩
  have W := it.walks A ao.handled
  have hst₁ : St 0 h₁ := W.frame _ _ _ it.st fun b _ o e => old b o e
  have hDf : D ∉ fp := fun hm => Nat.lt_irrefl _ (hDd ▸ it.lt _ hm)
  have hCf : C ∉ fp := fun hm => Nat.lt_irrefl _ (Nat.lt_trans (hDd ▸ it.lt _ hm) (hC ▸ Nat.lt_succ_self D))
  have loop : ∀ s₃ : Shared, s₃ = { s₂ with heap := h₁, toks := s₂.toks + ([] : List (Str × Value)).length } →
      codeAny (model prog w) A (.compLoop (.ListComp elt [⟨target, iter, ifs, 0⟩] scope pos) 0 (.ref I) (.ref D) (compEnvC scope (closL env scope.names []) C env)) (RR (.ref D) C) s₃ := by
    rintro s₃ rfl
    have x₃ : Ext s₂ { s₂ with heap := h₁, toks := s₂.toks + ([] : List (Str × Value)).length } := Ext.heap (fun b o e => old b o e) _
    have fresh : ∀ b ∈ [I, D, C], s.heap.get? b = none := fun b hb => by
      simp only [List.mem_cons, List.not_mem_nil, or_false] at hb
      rcases hb with rfl | rfl | rfl
      · exact hI
      · exact none_of_ext x₂ hD2
      · exact none_of_ext x₂ hC2
    have hYk : ∀ a ∈ D :: C :: I :: X, a ∈ I :: X ∨ s₂.heap.get? a = none := fun a ha => by
      rcases List.mem_cons.mp ha with rfl | ha
      · exact .inr hD2
      · rcases List.mem_cons.mp ha with rfl | ha
        · exact .inr hC2
        · exact .inl ha
    have hlive : ∀ s', Chg [I, D, C] { s₂ with heap := h₁, toks := s₂.toks + ([] : List (Str × Value)).length } s' → Ext s s' := fun s' c =>
      (((x₂.trans x₃).chg (N := [I, D, C])).trans c).ext fresh
    obtain ⟨oD, hoD⟩ := hacc
    obtain ⟨oC, _, _, hoC, _⟩ := id hns₁
    refine comp_loop (C := C) (Y := D :: C :: I :: X) (fp := fp) (cenv := compEnvC scope (closL env scope.names []) C env) (ρc := capρ scope env ρ) bs p F ao ⟨o.kind, eo.globals, eo.builtins⟩ rfl (by simp) (by simp) (by simp) hDC hDf hCf
      ⟨it.walks, hst₁, fun i v hv => ?_, it.self, it.lv⟩ hz ⟨_, hoD⟩ hns₁ (fun s' c lv => ?_) (fun i V hV => hb C _ i V (by simp) hV) (hk C) (ht C) (he C) fun s' ys m' c hpl hn rs => ?_
    · obtain ⟨V, h1, h2, h3⟩ := it.item i v hv
      exact ⟨V, h1, (h2.swapX hYk).kp (fun b o e => old b o e), h3.swapX hYk h2⟩
    · have live : Live (D :: C :: I :: X) s'.heap := fun a ha => by
        simp only [List.mem_cons] at ha
        rcases ha with rfl | rfl | rfl | ha
        · exact lv _ (by simp)
        · exact lv _ (by simp)
        · exact lv _ (by simp)
        · exact Live.kp rd.live (hlive s' c).kp a ha
      exact (rd.cap o).grow (hlive s' c) (fun a ha => by
        simp only [List.mem_cons] at ha
        rcases ha with rfl | rfl | rfl | ha
        · exact .inr (fresh _ (by simp))
        · exact .inr (fresh _ (by simp))
        · exact .inr hI
        · exact .inl ha) live
    · refine q D C s' ys m' (hlive s' c) (fresh _ (by simp)) (fresh _ (by simp)) hDC hpl hn (rs.swapX fun a ha => ?_)
      rcases List.mem_cons.mp ha with rfl | ha
      · exact .inl (by simp)
      · exact .inl (by simp [ha])
  exact codeAny_compStart_list (loop _ rfl) (W.self 0 _ _ _ hst₁ (loop _ rfl))
end
end Mine
end
section
set_option maxRecDepth 100000
set_option maxHeartbeats 4000000
namespace Mine
variable {prog : Program} {w : World} {mg mb : Str → Option Value} {n : Nat} {env : Env} {ρ : PEnv} {X : List Addr} {h : Heap} {v : Value}
noncomputable abbrev cEnv (scope : Scope) (env : Env) (C : Addr) : Env := compEnvC scope (closL env scope.names []) C env
theorem list_done {s s' : Shared} {D C : Addr} {ys : Array Value} {Vs : List AV} {h' : Heap} (rd : Rd prog w mg mb X env ρ s) (x : Ext s s') (hD : s.heap.get? D = none) (hC : s.heap.get? C = none) (hDC : D ≠ C) (hpl : s'.heap.PlainList D ys)
    (rs : Rs prog w (C :: X) s'.heap ys.toList Vs) (hs : Heap.ExtBut C s'.heap h') : Ext s { s' with heap := h' } ∧ R prog w X h' (.ref D) (.list Vs) ∧ Av X (.ref D) := by
  refine ⟨((x.chg (N := [C])).trans (Chg.heap (KpX.but hs (by simp)) s'.toks)).ext fun b hb => ?_, ?_, Av.new rd.live hD⟩
  · rw [List.mem_singleton.mp hb]; exact hC
  · obtain ⟨k, e⟩ := hpl
    have := (rs.kpX (KpX.but hs (by simp))).swapX (Y := X) fun a ha => .inl (List.mem_cons_of_mem _ ha)
    exact .list (n := k) (vs := ys.toList) (by simpa using hs D _ hDC e) this
theorem Ev.compB {elt target iter : PySem.Expr} {ifs : List PySem.Expr} {scope : Scope} {pos : Pos} {Vs : List AV} (bs : AV → List (Str × AV)) (p : AV → Bool) (F : AV → AV) (hit : EvIt prog w mg mb n env ρ false iter Vs) (o : ScOk scope env) (hz : Vs.length ≤ 1048576)
    (hb : ∀ C I Y (St : Heap → Prop), C ∈ Y → ∀ V ∈ Vs, Bnd prog w C I St Y target (cEnv scope env C) V (bs V)) (hk : ∀ C, ∀ V ∈ Vs, ∀ y W, (bs V).lookup y = some W → (cEnv scope env C).kindOf y = some .local)
    (ht : ∀ C, ∀ V ∈ Vs, Tst prog w mg mb n (cEnv scope env C) (bsl (bs V) ++ capρ scope env ρ) ifs (p V)) (he : ∀ C, ∀ V ∈ Vs, p V = true → Ev prog w mg mb n (cEnv scope env C) (bsl (bs V) ++ capρ scope env ρ) elt (F V))
    (hs : ∀ x, foldedSetIterable iter env x = pure x := by intro _; rfl) :
    Ev prog w mg mb n env ρ (.ListComp elt [⟨target, iter, ifs, 0⟩] scope pos) (.list ((Vs.filter p).map F)) := by
  intro A X s Q E ao eo rd q
  rw [eval_ListComp]
  refine wpAny_comprehension_free (use := none) rfl hs (closureFor_eq o.free) o.kind (fun x hx hl => ?_) (hit A X s _ E ao eo rd fun I s₂ fp P St x₂ hI it _ => ?_)
  · have := List.all_eq_true.mp o.loc x hx
    rw [hl] at this; simpa using this
  · refine comp_block (RR := fun acc C => compPost (model prog w) A E none Q acc C) bs p F ao eo o rd x₂ hI it hz (fun C Y i V hC hV => hb C I Y _ hC V (List.mem_of_getElem? hV)) hk ht he ?_
    intro D C s' ys m' x hD hC hDC hpl hn rs
    refine ⟨m', hn, fun h' hs' => ?_⟩
    obtain ⟨h1, h2, h3⟩ := list_done rd x hD hC hDC hpl rs hs'.extBut
    exact q _ _ h1 h2 h3
theorem Ev.comp {elt iter : PySem.Expr} {x : Str} {px : Pos} {ifs : List PySem.Expr} {scope : Scope} {pos : Pos} {Vs : List AV} (p : AV → Bool) (F : AV → AV) (hit : EvIt prog w mg mb n env ρ false iter Vs) (o : ScOk scope env) (hz : Vs.length ≤ 1048576) (hx : scope.names.lookup x = some .local)
    (ht : ∀ C, ∀ V ∈ Vs, Tst prog w mg mb n (cEnv scope env C) ((x, ⟨V, none⟩) :: capρ scope env ρ) ifs (p V)) (he : ∀ C, ∀ V ∈ Vs, p V = true → Ev prog w mg mb n (cEnv scope env C) ((x, ⟨V, none⟩) :: capρ scope env ρ) elt (F V))
    (hs : ∀ x, foldedSetIterable iter env x = pure x := by intro _; rfl) :
    Ev prog w mg mb n env ρ (.ListComp elt [⟨.Name x px, iter, ifs, 0⟩] scope pos) (.list ((Vs.filter p).map F)) := by
  have hl : ∀ C, (cEnv scope env C).kindOf x = some .local := fun C => lookup_relabel_local hx
  refine Ev.compB (fun V => [(x, V)]) p F hit o hz (fun C I Y St hC V _ => Bnd.name rfl hC (hl C) o.kind) (fun C V _ y W e => ?_) ht he hs
  rw [List.lookup_cons] at e
  cases hb : y == x with
  | true => rw [beq_iff_eq.mp hb]; exact hl C
  | false => rw [hb] at e; cases e
/- without a test -/
theorem Ev.comp0 {elt iter : PySem.Expr} {x : Str} {px : Pos} {scope : Scope} {pos : Pos} {Vs : List AV} (F : AV → AV) (hit : EvIt prog w mg mb n env ρ false iter Vs) (o : ScOk scope env) (hz : Vs.length ≤ 1048576) (hx : scope.names.lookup x = some .local)
    (he : ∀ C, ∀ V ∈ Vs, Ev prog w mg mb n (cEnv scope env C) ((x, ⟨V, none⟩) :: capρ scope env ρ) elt (F V))
    (hs : ∀ x, foldedSetIterable iter env x = pure x := by intro _; rfl) :
    Ev prog w mg mb n env ρ (.ListComp elt [⟨.Name x px, iter, [], 0⟩] scope pos) (.list (Vs.map F)) := by
  have := Ev.comp (px := px) (pos := pos) (ifs := []) (fun _ => true) F hit o hz hx (fun C V _ => rfl) (fun C V hV _ => he C V hV) hs
  rwa [List.filter_eq_self.mpr (fun _ _ => rfl)] at this

/- dicts -/
section
variable {A : Around} {E : Value → Shared → Prop} {s s₂ : Shared} {R' : Result → Shared → Prop}
theorem Rk.stored {kvs : List (Str × Value)} {L : List (Str × AV)} {k : Str} {u : Value} {V : AV} (r : Rk kvs L) (hk : k ∉ L.map (·.1)) (hu : Sc u V) : Rk (stored kvs k u) (L ++ [(k, V)]) := by
  have hn : kvs.any (fun kv => decide (kv.1 = k)) = false := by
    induction r with
    | nil => rfl
    | cons sc rk ih =>
      rename_i k' v' V' l L'
      rw [List.map_cons, List.mem_cons, not_or] at hk
      rw [List.any_cons, ih hk.2, decide_eq_false (fun e => hk.1 e.symm)]; rfl
  unfold PySem.stored
  rw [if_neg (by rw [hn]; exact Bool.false_ne_true)]
  induction r with
  | nil => exact .cons hu .nil
  | cons sc rk ih =>
    rename_i k' v' V' l L'
    rw [List.map_cons, List.mem_cons, not_or] at hk
    rw [List.any_cons, Bool.or_eq_false_iff] at hn
    exact .cons sc (ih hk.2 hn.2)
theorem Rk.length {kvs : List (Str × Value)} {L : List (Str × AV)} (r : Rk kvs L) : kvs.length = L.length := by
  induction r with
  | nil => rfl
  | cons _ _ ih => rw [List.length_cons, List.length_cons, ih]
theorem R.sc_inv {u : Value} {V : AV} (r : R prog w X h u V) (hs : ∃ u', Sc u' V) : Sc u V := by
  cases r with
  | sc s => exact s
  | list _ _ => obtain ⟨_, q⟩ := hs; cases q
  | tup _ _ => obtain ⟨_, q⟩ := hs; cases q
  | dict _ _ => obtain ⟨_, q⟩ := hs; cases q

theorem comp_loopD {kx vx iter : PySem.Expr} {x : Str} {px : Pos} {scope : Scope} {pos : Pos} {I D C : Addr} {Y fp : List Addr} {Vs : List AV} {P : Nat → Value → Prop} {St : Nat → Heap → Prop} {cenv : Env} {m : Str → Option Value} {ρc : PEnv}
    (ky : AV → Str) (vf : AV → AV) (ao : AOk n A) (eo : EnvOk cenv) (hC : cenv.locals = C) (hI : I ∈ Y) (hD : D ∈ Y) (hCY : C ∈ Y) (hDC : D ≠ C) (hDf : D ∉ fp) (hCf : C ∉ fp)
    (it : ItOk prog w Y s₂ I Vs fp P St) (hz : Vs.length ≤ 1048576) (hacc : s₂.heap.DictOf (strKind prog w) D []) (hn : s₂.heap.Ns C m) (hrd : ∀ s', Chg [I, D, C] s₂ s' → Live [I, D, C] s'.heap → Rd prog w mg mb Y cenv ρc s')
    (hx : cenv.kindOf x = some .local) (hnd : (Vs.map ky).Nodup) (hsc : ∀ V ∈ Vs, ∃ u, Sc u (vf V))
    (hke : ∀ V ∈ Vs, Ev prog w mg mb n cenv ((x, ⟨V, none⟩) :: ρc) kx (.str (ky V))) (hve : ∀ V ∈ Vs, Ev prog w mg mb n cenv ((x, ⟨V, none⟩) :: ρc) vx (vf V))
    (q : ∀ s' kvs m', Chg [I, D, C] s₂ s' → s'.heap.DictOf (strKind prog w) D kvs → s'.heap.Ns C m' → Rk kvs (Vs.map fun V => (ky V, vf V)) → R' (.ok .next) s') :
    codeAny (model prog w) A (.compLoop (.DictComp kx vx [⟨.Name x px, iter, [], 0⟩] scope pos) 0 (.ref I) (.ref D) cenv) R' s₂ := by
  subst hC
  have W := it.walks A ao.handled
  refine codeAny_compLoop_testsD (fun k s' => ∃ i kvs m', Chg [I, D, cenv.locals] s₂ s' ∧ St i s'.heap ∧ s'.heap.DictOf (strKind prog w) D kvs ∧ s'.heap.Ns cenv.locals m' ∧ Rk kvs ((Vs.take i).map fun V => (ky V, vf V)) ∧ i ≤ Vs.length ∧ k = Vs.length + 1 - i) ?_ (Vs.length + 1)
    ⟨0, [], m, .refl _, it.st, hacc, hn, by simpa using Rk.nil, Nat.zero_le _, rfl⟩
  rintro k s' ⟨i, kvs, m', c', st', acc', hn', rk', hi, rfl⟩
  have sub3 : ∀ b ∈ [I, D, cenv.locals], b ∈ Y := fun b hb => by
    simp only [List.mem_cons, List.not_mem_nil, or_false] at hb
    rcases hb with rfl | rfl | rfl <;> assumption
  have hDw : D ≠ I := fun q => hDf (q ▸ it.self)
  have hCw : cenv.locals ≠ I := fun q => hCf (q ▸ it.self)
  by_cases hlt : i < Vs.length
  · refine W.item i s' _ _ hlt st' fun v h₁ tk₁ hPv st₁ k₁ => ?_
    obtain ⟨V, hV, rV, aV⟩ := it.item i v hPv
    have hmem : V ∈ Vs := List.mem_of_getElem? hV
    have c₁ : Chg [I, D, cenv.locals] s₂ { s' with heap := h₁, toks := tk₁ } := c'.trans (Chg.heap (fun b o hb e => k₁ b o (fun q => hb (by rw [List.mem_singleton.mp q]; exact List.mem_cons_self ..)) e) tk₁)
    have acc₁ : h₁.DictOf (strKind prog w) D kvs := acc'.at fun o e => k₁ D o (by simpa using hDw) e
    have hn₁ : h₁.Ns cenv.locals m' := hn'.at' fun o e => k₁ _ o (by simpa using hCw) e
    have rV₁ : R prog w Y h₁ v V := rV.kpX (c₁.mono sub3).kp aV
    have bnd := Bnd.name (prog := prog) (w := w) (I := I) (St' := St (i + 1)) (Y := Y) (px := px) (V := V) rfl hCY hx eo.kind A { s' with heap := h₁, toks := tk₁ }
    refine wpAny_mono (bnd (notedBy (model prog w) A cenv fun e s' => R' (.error e) s') v m' _ ao.handled st₁ rV₁ aV hn₁ fun h₂ t₂ m₂ e₂ hn₂ b₂ => ?_) (fun _ _ z => z) (fun _ _ z => z)
    have kk₂ : KpX [I, D, cenv.locals] h₁ h₂ := KpX.but e₂ (by simp)
    have c₂ : Chg [I, D, cenv.locals] s₂ { s' with heap := h₂, toks := t₂ } := c₁.trans (Chg.heap (s := { s' with heap := h₁, toks := tk₁ }) kk₂ t₂)
    have st₂ : St (i + 1) h₂ := W.frame _ _ _ st₁ fun b hb o e => e₂ b o (fun q => hCf (q ▸ hb)) e
    have acc₂ : h₂.DictOf (strKind prog w) D kvs := acc₁.at fun o e => e₂ D o hDC e
    have lv₂ : Live [I, D, cenv.locals] h₂ := fun a ha => by
      simp only [List.mem_cons, List.not_mem_nil, or_false] at ha
      rcases ha with rfl | rfl | rfl
      · exact it.live _ _ st₂
      · obtain ⟨o, _, _, e, _⟩ := id acc₂; exact ⟨o, e⟩
      · obtain ⟨o, _, _, e, _⟩ := id hn₂; exact ⟨o, e⟩
    have rd₂ := (hrd _ c₂ lv₂).bind hn₂ b₂ (fun y W e => by
      rw [List.lookup_cons] at e
      cases hb : y == x with
      | true => rw [beq_iff_eq.mp hb]; exact hx
      | false => rw [hb] at e; cases e)
    have tk : (Vs.take (i + 1)) = Vs.take i ++ [V] := by rw [List.take_add_one, hV]; rfl
    rw [List.forIn_nil]
    refine wpAny_pure ?_
    rw [if_pos rfl]
    refine hke V hmem A Y _ _ _ ao eo rd₂ fun kv s₄ x₄ rk4 ak => ?_
    refine hve V hmem A Y _ _ _ ao eo (rd₂.ext x₄) fun vv s₅ x₅ rv5 av => ?_
    obtain ⟨t, rfl⟩ := rk4.str_inv
    have acc₅ : s₅.heap.DictOf (strKind prog w) D kvs := (acc₂.at fun o e => x₄.kp _ o e).at fun o e => x₅.kp _ o e
    have hkl : kvs.length ≤ sizeLine := by
      have e1 := rk'.length
      rw [List.length_map, List.length_take] at e1
      rw [sizeLine_eq]; omega
    refine wpAny_dictSet_pairs (strKind_is prog w (ky V) t) acc₅ (fun h₆ acc₆ hs₆ => ?_) hkl
    refine ⟨Vs.length + 1 - (i + 1), by omega, i + 1, _, m₂, (c₂.trans ((x₄.trans x₅).chg)).trans (Chg.heap (KpX.but hs₆.extBut (by simp)) _), ?_, acc₆, ((hn₂.keeps x₄.kp).keeps x₅.kp).sameBut hs₆ (Ne.symm hDC), ?_, hlt, rfl⟩
    · exact W.frame _ _ _ (W.frame _ _ _ (W.frame _ _ _ st₂ fun b _ o e => x₄.kp b o e) fun b _ o e => x₅.kp b o e) fun b hb o e => hs₆.extBut b o (fun q => hDf (q ▸ hb)) e
    · rw [tk, List.map_append]
      refine Rk.stored rk' ?_ (rv5.sc_inv (hsc V hmem))
      rw [List.map_map]
      have e3 : Vs.map ky = (Vs.take i).map ky ++ ky V :: (Vs.drop (i + 1)).map ky := by
        conv => lhs; rw [← List.take_append_drop (i + 1) Vs, tk]
        simp
      rw [e3] at hnd
      have := (List.nodup_append.mp hnd).2.2
      intro hm
      have hm' : ky V ∈ (Vs.take i).map ky := by simpa [Function.comp_def] using hm
      exact this _ hm' _ (List.mem_cons_self ..) rfl
  · have hin : i = Vs.length := by omega
    refine W.done s' _ _ (hin ▸ st') fun h₁ tk₁ k₁ => ?_
    refine q { s' with heap := h₁, toks := tk₁ } kvs m' (c'.trans (Chg.heap (fun b o hb e => k₁ b o (fun q => hb (by rw [List.mem_singleton.mp q]; exact List.mem_cons_self ..)) e) tk₁)) (acc'.at fun o e => k₁ D o (by simpa using hDw) e) (hn'.at' fun o e => k₁ _ o (by simpa using hCw) e) ?_
    rw [hin, List.take_length] at rk'
    exact rk'
end
end Mine
end
section
set_option maxRecDepth 100000
set_option maxHeartbeats 4000000
namespace Mine
variable {prog : Program} {w : World} {mg mb : Str → Option Value} {n : Nat} {env : Env} {ρ : PEnv} {X : List Addr} {h : Heap} {v : Value}
section
variable {A : Around} {E : Value → Shared → Prop} {s s₂ : Shared}
theorem comp_blockD {RR : Value → Addr → Result → Shared → Prop} {kx vx iter : PySem.Expr} {x : Str} {px : Pos} {scope : Scope} {pos : Pos} {I : Addr} {X fp : List Addr} {Vs : List AV} {P : Nat → Value → Prop} {St : Nat → Heap → Prop}
    (ky : AV → Str) (vf : AV → AV) (ao : AOk n A) (eo : EnvOk env) (o : ScOk scope env) (rd : Rd prog w mg mb X env ρ s) (x₂ : Ext s s₂) (hI : s.heap.get? I = none) (it : ItOk prog w (I :: X) s₂ I Vs fp P St) (hz : Vs.length ≤ 1048576)
    (hx : scope.names.lookup x = some .local) (hnd : (Vs.map ky).Nodup) (hsc : ∀ V ∈ Vs, ∃ u, Sc u (vf V))
    (hke : ∀ C, ∀ V ∈ Vs, Ev prog w mg mb n (cEnv scope env C) ((x, ⟨V, none⟩) :: capρ scope env ρ) kx (.str (ky V))) (hve : ∀ C, ∀ V ∈ Vs, Ev prog w mg mb n (cEnv scope env C) ((x, ⟨V, none⟩) :: capρ scope env ρ) vx (vf V))
    (q : ∀ D C s' kvs m', Ext s s' → s.heap.get? D = none → s.heap.get? C = none → D ≠ C → s'.heap.DictOf (strKind prog w) D kvs → s'.heap.Ns C m' → Rk kvs (Vs.map fun V => (ky V, vf V)) → RR (.ref D) C (.ok .next) s') :
    wpAny (model prog w) A newDict (fun acc s₃ => wpAny (model prog w) A (newFunctionEnv scope env.globals (closL env scope.names []) [] env.qual none .none (some env)) (fun cenv s₄ =>
      codeAny (model prog w) A (.compStart (.DictComp kx vx [⟨.Name x px, iter, [], 0⟩] scope pos) 0 (.ref I) acc { cenv with scope := relabel scope env }) (RR acc cenv.locals) s₄) E s₃) E s₂ := by
  refine wpAny_newObj_type (wpAny_newFunctionEnv (fun x hx => by simpa using List.all_eq_true.mp o.cell x hx) (by intro y hy; simp at hy) (fun h₁ hns₁ hsb₁ => ?_) o.kind)
  dsimp only at hns₁ hsb₁ ⊢
  have hnew : (s₂.heap.push { cls := .type "dict", dict := none, data := .dict #[] }).DictOf (strKind prog w) s₂.heap.objs.size [] := Heap.DictOf.new s₂.heap
  generalize hH2 : s₂.heap.push { cls := .type "dict", dict := none, data := .dict #[] } = H2 at hns₁ hsb₁ hnew ⊢
  have hC : H2.objs.size = s₂.heap.objs.size + 1 := by rw [← hH2, Heap.size_push]
  generalize hCd : H2.objs.size = C at hns₁ hsb₁ hC ⊢
  generalize hDd : s₂.heap.objs.size = D at hC hnew ⊢
  have hD2 : s₂.heap.get? D = none := get?_none (by rw [hDd]; exact Nat.le_refl _)
  have hC2 : s₂.heap.get? C = none := get?_none (by rw [hDd, hC]; exact Nat.le_succ _)
  have hDC : D ≠ C := by rw [hC]; exact Nat.ne_of_lt (Nat.lt_succ_self _)
  have old : ∀ b o, s₂.heap.get? b = some o → h₁.get? b = some o := fun b o e => hsb₁.extBut b o (by rintro rfl; rw [hC2] at e; cases e) (Heap.get?_push_of_some _ (hH2 ▸ Heap.get?_push_of_some _ e))
  have hacc : h₁.DictOf (strKind prog w) D [] := hnew.at fun o e => hsb₁.extBut _ _ hDC (Heap.get?_push_of_some _ e)
  have W := it.walks A ao.handled
  have hst₁ : St 0 h₁ := W.frame _ _ _ it.st fun b _ o e => old b o e
  have hDf : D ∉ fp := fun hm => Nat.lt_irrefl _ (hDd ▸ it.lt _ hm)
  have hCf : C ∉ fp := fun hm => Nat.lt_irrefl _ (Nat.lt_trans (hDd ▸ it.lt _ hm) (hC ▸ Nat.lt_succ_self D))
  have loop : ∀ s₃ : Shared, s₃ = { s₂ with heap := h₁, toks := s₂.toks + ([] : List (Str × Value)).length } →
      codeAny (model prog w) A (.compLoop (.DictComp kx vx [⟨.Name x px, iter, [], 0⟩] scope pos) 0 (.ref I) (.ref D) (compEnvC scope (closL env scope.names []) C env)) (RR (.ref D) C) s₃ := by
    rintro s₃ rfl
    have x₃ : Ext s₂ { s₂ with heap := h₁, toks := s₂.toks + ([] : List (Str × Value)).length } := Ext.heap (fun b o e => old b o e) _
    have fresh : ∀ b ∈ [I, D, C], s.heap.get? b = none := fun b hb => by
      simp only [List.mem_cons, List.not_mem_nil, or_false] at hb
      rcases hb with rfl | rfl | rfl
      · exact hI
      · exact none_of_ext x₂ hD2
      · exact none_of_ext x₂ hC2
    have hYk : ∀ a ∈ D :: C :: I :: X, a ∈ I :: X ∨ s₂.heap.get? a = none := fun a ha => by
      rcases List.mem_cons.mp ha with rfl | ha
      · exact .inr hD2
      · rcases List.mem_cons.mp ha with rfl | ha
        · exact .inr hC2
        · exact .inl ha
    have hlive : ∀ s', Chg [I, D, C] { s₂ with heap := h₁, toks := s₂.toks + ([] : List (Str × Value)).length } s' → Ext s s' := fun s' c =>
      (((x₂.trans x₃).chg (N := [I, D, C])).trans c).ext fresh
    refine comp_loopD (C := C) (Y := D :: C :: I :: X) (fp := fp) (cenv := compEnvC scope (closL env scope.names []) C env) (ρc := capρ scope env ρ) ky vf ao ⟨o.kind, eo.globals, eo.builtins⟩ rfl (by simp) (by simp) (by simp) hDC hDf hCf
      ⟨it.walks, hst₁, fun i v hv => ?_, it.self, it.lv⟩ hz hacc hns₁ (fun s' c lv => ?_) (lookup_relabel_local hx) hnd hsc (hke C) (hve C) fun s' kvs m' c hpl hn rk => ?_
    · obtain ⟨V, h1, h2, h3⟩ := it.item i v hv
      exact ⟨V, h1, (h2.swapX hYk).kp (fun b o e => old b o e), h3.swapX hYk h2⟩
    · have live : Live (D :: C :: I :: X) s'.heap := fun a ha => by
        simp only [List.mem_cons] at ha
        rcases ha with rfl | rfl | rfl | ha
        · exact lv _ (by simp)
        · exact lv _ (by simp)
        · exact lv _ (by simp)
        · exact Live.kp rd.live (hlive s' c).kp a ha
      exact (rd.cap o).grow (hlive s' c) (fun a ha => by
        simp only [List.mem_cons] at ha
        rcases ha with rfl | rfl | rfl | ha
        · exact .inr (fresh _ (by simp))
        · exact .inr (fresh _ (by simp))
        · exact .inr hI
        · exact .inl ha) live
    · exact q D C s' kvs m' (hlive s' c) (fresh _ (by simp)) (fresh _ (by simp)) hDC hpl hn rk
  exact codeAny_compStart_dict (loop _ rfl) (W.self 0 _ _ _ hst₁ (loop _ rfl))
end
theorem Ev.dictComp {kx vx iter : PySem.Expr} {x : Str} {px : Pos} {scope : Scope} {pos : Pos} {Vs : List AV} (ky : AV → Str) (vf : AV → AV) (hit : EvIt prog w mg mb n env ρ false iter Vs) (o : ScOk scope env) (hz : Vs.length ≤ 1048576) (hx : scope.names.lookup x = some .local) (hnd : (Vs.map ky).Nodup) (hsc : ∀ V ∈ Vs, ∃ u, Sc u (vf V))
    (hke : ∀ C, ∀ V ∈ Vs, Ev prog w mg mb n (cEnv scope env C) ((x, ⟨V, none⟩) :: capρ scope env ρ) kx (.str (ky V))) (hve : ∀ C, ∀ V ∈ Vs, Ev prog w mg mb n (cEnv scope env C) ((x, ⟨V, none⟩) :: capρ scope env ρ) vx (vf V))
    (hs : ∀ x, foldedSetIterable iter env x = pure x := by intro _; rfl) :
    Ev prog w mg mb n env ρ (.DictComp kx vx [⟨.Name x px, iter, [], 0⟩] scope pos) (.dict (Vs.map fun V => (ky V, vf V))) := by
  intro A X s Q E ao eo rd q
  rw [arm_eval_DictComp]
  refine wpAny_comprehension_free (use := none) rfl hs (closureFor_eq o.free) o.kind (fun x hx hl => ?_) (hit A X s _ E ao eo rd fun I s₂ fp P St x₂ hI it _ => ?_)
  · have := List.all_eq_true.mp o.loc x hx
    rw [hl] at this; simpa using this
  · refine comp_blockD (RR := fun acc C => compPost (model prog w) A E none Q acc C) ky vf ao eo o rd x₂ hI it hz hx hnd hsc hke hve ?_
    intro D C s' kvs m' x hD hC hDC hpl hn rk
    refine ⟨m', hn, fun h' hs' => q (.ref D) _ (((x.chg (N := [C])).trans (Chg.heap (KpX.but hs'.extBut (by simp)) s'.toks)).ext fun b hb => ?_) (.dict (hpl.at fun o e => hs'.extBut D o hDC e) rk) (Av.new rd.live hD)⟩
    rw [List.mem_singleton.mp hb]; exact hC
end Mine
end
section
set_option maxRecDepth 100000
set_option maxHeartbeats 4000000
namespace Mine
variable {prog : Program} {w : World} {mg mb : Str → Option Value} {n : Nat} {env : Env} {ρ ρ' ρ'' : PEnv} {X : List Addr} {h : Heap} {v : Value}

theorem VarIs.fun {x : Str} {u : Value} (a : VarIs h env x v) (b : VarIs h env x u) : v = u := by
  cases a with
  | loc m k n e =>
    cases b with
    | loc m' k' n' e' => have := n.agree n' x; rw [e, e'] at this; exact Option.some.inj this
    | cell c k' => rw [k] at k'; cases k'
  | cell c k l i =>
    cases b with
    | loc m' k' => rw [k] at k'; cases k'
    | cell c' k' l' i' =>
      rw [l] at l'; cases l'
      obtain ⟨o, h1, h2⟩ := i; obtain ⟨o', h1', h2'⟩ := i'
      rw [h1] at h1'; cases h1'
      rw [h2] at h2'; cases h2'; rfl

noncomputable def OwnK (Z : List Addr) (a : Addr) : Option Addr → Prop | none => a ∉ Z | some c => a = c
noncomputable def OwnAt (F Z : List Addr) (env : Env) (b : Option Addr) (v : Value) : Prop := ∃ a, v = .ref a ∧ a ∈ F ∧ OwnK Z a b ∧ a ≠ env.locals ∧ ∀ y c, env.cells.lookup y = some c → a ≠ c
noncomputable def SlotOk (F Z : List Addr) (env : Env) (sl : Sl) (v : Value) : Prop := match sl.own with | none => Av (F ++ Z) v | some b => OwnAt F Z env b v
structure Fm (prog : Program) (w : World) (mg mb : Str → Option Value) (F Z : List Addr) (env : Env) (ρ : PEnv) (s : Shared) : Prop where
  base : ∃ h₀, Gl prog mg mb h₀ ∧ Kp h₀ s.heap ∧ ∀ a ∈ F, h₀.get? a = none
  live : Live (F ++ Z) s.heap
  ns : ∃ m, s.heap.Ns env.locals m
  loc : env.locals ∈ F
  cells : ∀ x c, env.cells.lookup x = some c → c ∈ F ∧ c ≠ env.locals ∧ ∃ v, s.heap.IsCell c v
  apart : ∀ x y c, env.cells.lookup x = some c → env.cells.lookup y = some c → x = y
  vals : ∀ x sl, ρ.lookup x = some sl → ∃ v, VarIs s.heap env x v ∧ R prog w (F ++ Z) s.heap v sl.val ∧ SlotOk F Z env sl v
  one : ∀ x y sl sl', ρ.lookup x = some sl → ρ.lookup y = some sl' → sl.own ≠ none → sl'.own ≠ none → x = y
variable {F F' F'' Z : List Addr} {s s' s'' : Shared}
theorem Fm.gl (f : Fm prog w mg mb F Z env ρ s) : Gl prog mg mb s.heap := let ⟨h₀, g, k, _⟩ := f.base; g.kp k
theorem Fm.rd (f : Fm prog w mg mb F Z env ρ s) : Rd prog w mg mb (F ++ Z) env ρ s :=
  ⟨f.gl, f.live, fun x sl e => let ⟨v, h1, h2, h3⟩ := f.vals x sl e; ⟨v, h1, h2, fun q => by unfold SlotOk at h3; rw [q] at h3; exact h3⟩⟩
theorem Fm.ext (f : Fm prog w mg mb F Z env ρ s) (x : Ext s s') : Fm prog w mg mb F Z env ρ s' where
  base := let ⟨h₀, g, k, q⟩ := f.base; ⟨h₀, g, k.trans x.kp, q⟩
  live := Live.kp f.live x.kp
  ns := let ⟨m, q⟩ := f.ns; ⟨m, q.keeps x.kp⟩
  loc := f.loc
  cells := fun y c e => let ⟨h1, h2, v, o, h3, h4⟩ := f.cells y c e; ⟨h1, h2, v, o, x.kp _ _ h3, h4⟩
  apart := f.apart
  vals := fun y sl e => let ⟨v, h1, h2, h3⟩ := f.vals y sl e; ⟨v, h1.kp x.kp, h2.kp x.kp, h3⟩
  one := f.one
noncomputable def Sub (ρ' ρ : PEnv) : Prop := ∀ p ∈ ρ', ρ.lookup p.1 = some p.2
theorem Sub.nil : Sub [] ρ := fun _ h => nomatch h
theorem Sub.cons {x : Str} {sl : Sl} (h : ρ.lookup x = some sl) (r : Sub ρ' ρ) : Sub ((x, sl) :: ρ') ρ := fun p hp => by
  rcases List.mem_cons.mp hp with rfl | hp
  · exact h
  · exact r p hp
theorem Sub.look (h : Sub ρ' ρ) {x : Str} {sl : Sl} (e : ρ'.lookup x = some sl) : ρ.lookup x = some sl := h _ (mem_of_lookup e)
theorem Fm.weak (f : Fm prog w mg mb F Z env ρ s) (q : Sub ρ' ρ) : Fm prog w mg mb F Z env ρ' s :=
  { f with vals := fun x sl e => f.vals x sl (q.look e), one := fun x y sl sl' e e' => f.one x y sl sl' (q.look e) (q.look e') }

structure Step (F F' : List Addr) (s s' : Shared) : Prop where
  new : ∀ a ∈ F', a ∈ F ∨ s.heap.get? a = none
  chg : Chg F s s'
theorem Ext.step (x : Ext s s') : Step F F s s' := ⟨fun _ h => .inl h, x.chg⟩
theorem Step.refl : Step F F s s := (Ext.refl s).step
theorem Step.trans (a : Step F F' s s') (b : Step F' F'' s' s'') : Step F F'' s s'' := by
  have none' : ∀ q, q ∉ F → s'.heap.get? q = none → s.heap.get? q = none := fun q hq h => by
    cases e : s.heap.get? q with
    | none => rfl
    | some o => rw [a.chg.kp q o hq e] at h; cases h
  refine ⟨fun q h => ?_, ⟨fun q o hq e => ?_, b.chg.os.trans a.chg.os, (a.chg.trans (N := F) ⟨fun _ _ _ e => e, rfl, #[], .empty, by simp⟩).gens.elim fun m hm => ?_⟩⟩
  · rcases b.new q h with h | h
    · exact a.new q h
    · by_cases hq : q ∈ F
      · exact .inl hq
      · exact .inr (none' q hq h)
  · refine b.chg.kp q o (fun m => ?_) (a.chg.kp q o hq e)
    rcases a.new q m with h | h
    · exact hq h
    · rw [e] at h; cases h
  · obtain ⟨m', hm', e'⟩ := b.chg.gens
    refine ⟨m ++ m', fun y hy => ?_, by rw [e', hm.2, Array.append_assoc]⟩
    rcases Array.mem_append.mp hy with h | h
    · exact hm.1 y h
    · exact hm' y h
theorem Fm.liveF (f : Fm prog w mg mb F Z env ρ s) : ∀ a ∈ F, ∃ o, s.heap.get? a = some o := fun a ha => f.live a (List.mem_append_left _ ha)

/- a store into a name -/
noncomputable def KOk (env : Env) (x : Str) : Prop := env.kindOf x = some .local ∨ (env.kindOf x = some .cell ∧ (env.cells.lookup x).isSome = true)
theorem R.atX {a : Addr} {V : AV} {h' : Heap} (r : R prog w X h (.ref a) V) (e : ∀ o, h.get? a = some o → h'.get? a = some o) (k : KpX X h h') : R prog w X h' (.ref a) V := by
  cases r with
  | sc s => exact .sc s
  | list e' rs => exact .list (e _ e') (rs.kpX k)
  | tup e' rs => exact .tup (e _ e') (rs.kpX k)
  | dict d rk => exact .dict (dictOf_at d e) rk
theorem Fm.store_at {h' : Heap} {t : Nat} {b : Addr} (f : Fm prog w mg mb F Z env ρ s) (hb : b ∈ F) (hs : Heap.SameBut b s.heap h') (hown : ∀ x sl v, ρ.lookup x = some sl → sl.own ≠ none → VarIs s.heap env x v → v ≠ .ref b) :
    (∃ h₀, Gl prog mg mb h₀ ∧ Kp h₀ h' ∧ ∀ a ∈ F, h₀.get? a = none) ∧ KpX (F ++ Z) s.heap h' ∧ Step F F s { s with heap := h', toks := t } ∧
    (∀ x sl v, ρ.lookup x = some sl → VarIs s.heap env x v → R prog w (F ++ Z) s.heap v sl.val → SlotOk F Z env sl v → R prog w (F ++ Z) h' v sl.val) := by
  have kF : KpX F s.heap h' := KpX.but hs.extBut hb
  have kX : KpX (F ++ Z) s.heap h' := KpX.but hs.extBut (List.mem_append_left _ hb)
  refine ⟨?_, kX, ⟨fun _ h => .inl h, Chg.heap kF t⟩, fun x sl v e hv r ok => ?_⟩
  · obtain ⟨h₀, g, k, q⟩ := f.base
    exact ⟨h₀, g, fun a o e => kF a o (fun m => by rw [q a m] at e; cases e) (k a o e), q⟩
  · cases ho : sl.own with
    | none => unfold SlotOk at ok; rw [ho] at ok; exact r.kpX kX ok
    | some c =>
      unfold SlotOk at ok; rw [ho] at ok
      obtain ⟨a, rfl, _⟩ := ok
      exact r.atX (fun o e' => hs.extBut a o (fun q => hown x sl _ e (by rw [ho]; simp) hv (by rw [q])) e') kX
theorem lookup_cons_split {x y : Str} {sl sl' : Sl} (e : List.lookup y ((x, sl) :: ρ) = some sl') : (y = x ∧ sl' = sl) ∨ (y ≠ x ∧ ρ.lookup y = some sl') := by
  rw [List.lookup_cons] at e
  cases hb : y == x with
  | true => rw [hb] at e; exact .inl ⟨beq_iff_eq.mp hb, (Option.some.inj e).symm⟩
  | false => rw [hb] at e; exact .inr ⟨fun q => by rw [q] at hb; simp at hb, e⟩
noncomputable def FrOnly (env : Env) (s s' : Shared) : Prop := ∀ c o, c ≠ env.locals → (∀ y d, env.cells.lookup y = some d → c ≠ d) → s.heap.get? c = some o → s'.heap.get? c = some o
theorem Fm.store2 {x : Str} {sl : Sl} {Q : Unit → Shared → Prop} {A : Around} {E : Value → Shared → Prop} (f : Fm prog w mg mb F Z env ρ s) (eo : EnvOk env) (hk : KOk env x) (r : R prog w (F ++ Z) s.heap v sl.val) (ok : SlotOk F Z env sl v)
    (hone : sl.own = none ∨ ∀ y sl', ρ.lookup y = some sl' → sl'.own ≠ none → y = x) (q : ∀ s', Step F F s s' → Fm prog w mg mb F Z env ((x, sl) :: ρ) s' → FrOnly env s s' → Q () s') : wpAny (model prog w) A (storeName env x v) Q E s := by
  have one' : ∀ y z sl1 sl2, List.lookup y ((x, sl) :: ρ) = some sl1 → List.lookup z ((x, sl) :: ρ) = some sl2 → sl1.own ≠ none → sl2.own ≠ none → y = z := by
    intro y z sl1 sl2 e1 e2 o1 o2
    rcases lookup_cons_split e1 with ⟨a1, b1⟩ | ⟨n1, f1⟩ <;> rcases lookup_cons_split e2 with ⟨a2, b2⟩ | ⟨n2, f2⟩
    · rw [a1, a2]
    · subst b1
      rcases hone with h | h
      · exact absurd h o1
      · exact absurd (h z sl2 f2 o2) n2
    · subst b2
      rcases hone with h | h
      · exact absurd h o2
      · exact absurd (h y sl1 f1 o1) n1
    · exact f.one y z sl1 sl2 f1 f2 o1 o2
  have hvX : ∀ {b h'}, b ∈ F → Heap.SameBut b s.heap h' → (∀ a, sl.own ≠ none → v = .ref a → a ≠ b) → R prog w (F ++ Z) h' v sl.val := by
    intro b h' hb hs hn
    have kX : KpX (F ++ Z) s.heap h' := KpX.but hs.extBut (List.mem_append_left _ hb)
    cases ho : sl.own with
    | none => unfold SlotOk at ok; rw [ho] at ok; exact r.kpX kX ok
    | some c =>
      unfold SlotOk at ok; rw [ho] at ok
      obtain ⟨a, rfl, _⟩ := ok
      exact r.atX (fun o e' => hs.extBut a o (hn a (by rw [ho]; simp) rfl) e') kX
  rcases hk with hk | ⟨hk, hc⟩
  · obtain ⟨m, hn⟩ := f.ns
    have hp : (env.scope.kind == .class || (env.scope.kind == .module && env.locals != env.globals)) = false := by rw [eo.kind]; rfl
    refine wpAny_storeName_local hk hn (fun h' hn' hs' => ?_) hp
    obtain ⟨b1, b2, b3, b4⟩ := f.store_at (t := s.toks + 1) f.loc hs' (fun y sl' v' e o hv => fun q => by
      obtain ⟨u, hu, _, ok'⟩ := f.vals y sl' e
      cases hu.fun hv
      unfold SlotOk at ok'
      cases ho : sl'.own with
      | none => exact o ho
      | some c => rw [ho] at ok'; obtain ⟨a, rfl, _, _, h4, _⟩ := ok'; exact h4 (by cases q; rfl))
    refine q _ b3 ⟨b1, fun a ha => ?_, ⟨_, hn'⟩, f.loc, fun y c e => ?_, f.apart, fun y sl' e => ?_, one'⟩ (fun c o h1 _ e => hs'.extBut c o h1 e)
    · by_cases h : a = env.locals
      · rw [h]; obtain ⟨o, _, _, e, _⟩ := id hn'; exact ⟨o, e⟩
      · obtain ⟨o, e⟩ := f.live a ha; exact ⟨o, hs'.extBut a o h e⟩
    · obtain ⟨h1, h2, v', h3⟩ := f.cells y c e
      exact ⟨h1, h2, v', h3.sameBut hs' h2⟩
    · rcases lookup_cons_split e with ⟨rfl, rfl⟩ | ⟨ny, e⟩
      · refine ⟨v, .loc _ hk hn' (if_pos rfl), hvX f.loc hs' ?_, ok⟩
        intro a o ev
        unfold SlotOk at ok
        cases ho : sl'.own with
        | none => exact absurd ho o
        | some c => rw [ho] at ok; obtain ⟨a', ea, _, _, h4, _⟩ := ok; rw [ev] at ea; cases ea; exact h4
      · obtain ⟨u, hu, hr, ok'⟩ := f.vals y sl' e
        refine ⟨u, ?_, b4 y sl' u e hu hr ok', ok'⟩
        cases hu with
        | loc m' k' n' e' => exact .loc _ k' hn' (by rw [← hn.agree n' y] at e'; show (if y = x then some v else m y) = some u; rw [if_neg ny]; exact e')
        | cell c k' l' i' => exact .cell c k' l' (i'.sameBut hs' (f.cells y c l').2.1)
  · obtain ⟨c, hc⟩ := Option.isSome_iff_exists.mp hc
    obtain ⟨h1, h2, v₀, h3⟩ := f.cells x c hc
    refine wpAny_storeName_cell eo.kind hk hc h3 fun h' hi' hs' => ?_
    obtain ⟨b1, b2, b3, b4⟩ := f.store_at (t := s.toks) h1 hs' (fun y sl' v' e o hv => fun q => by
      obtain ⟨u, hu, _, ok'⟩ := f.vals y sl' e
      cases hu.fun hv
      unfold SlotOk at ok'
      cases ho : sl'.own with
      | none => exact o ho
      | some d => rw [ho] at ok'; obtain ⟨a, rfl, _, _, _, h5⟩ := ok'; exact h5 x c hc (by cases q; rfl))
    refine q { s with heap := h' } b3 ⟨b1, fun a ha => ?_, ?_, f.loc, fun y c' e => ?_, f.apart, fun y sl' e => ?_, one'⟩ (fun d o _ h2 e => hs'.extBut d o (h2 x c hc) e)
    · by_cases h : a = c
      · rw [h]; obtain ⟨o, e, _⟩ := hi'; exact ⟨o, e⟩
      · obtain ⟨o, e⟩ := f.live a ha; exact ⟨o, hs'.extBut a o h e⟩
    · obtain ⟨m, hn⟩ := f.ns; exact ⟨m, hn.sameBut hs' (Ne.symm h2)⟩
    · obtain ⟨k1, k2, v', k3⟩ := f.cells y c' e
      by_cases hcc : c' = c
      · subst hcc; exact ⟨k1, k2, _, hi'⟩
      · exact ⟨k1, k2, v', k3.sameBut hs' hcc⟩
    · rcases lookup_cons_split e with ⟨rfl, rfl⟩ | ⟨ny, e⟩
      · refine ⟨v, .cell c hk hc hi', hvX h1 hs' ?_, ok⟩
        intro a o ev
        unfold SlotOk at ok
        cases ho : sl'.own with
        | none => exact absurd ho o
        | some d => rw [ho] at ok; obtain ⟨a', ea, _, _, _, h5⟩ := ok; rw [ev] at ea; cases ea; exact h5 _ c hc
      · obtain ⟨u, hu, hr, ok'⟩ := f.vals y sl' e
        refine ⟨u, ?_, b4 y sl' u e hu hr ok', ok'⟩
        cases hu with
        | loc m' k' n' e' => exact .loc m' k' (n'.sameBut hs' (Ne.symm h2)) e'
        | cell c' k' l' i' => exact .cell c' k' l' (i'.sameBut hs' fun q => ny (f.apart y x c (q ▸ l') hc))
theorem Fm.store {x : Str} {sl : Sl} {Q : Unit → Shared → Prop} {A : Around} {E : Value → Shared → Prop} (f : Fm prog w mg mb F Z env ρ s) (eo : EnvOk env) (hk : KOk env x) (r : R prog w (F ++ Z) s.heap v sl.val) (ok : SlotOk F Z env sl v)
    (hone : sl.own = none ∨ ∀ y sl', ρ.lookup y = some sl' → sl'.own ≠ none → y = x) (q : ∀ s', Step F F s s' → Fm prog w mg mb F Z env ((x, sl) :: ρ) s' → Q () s') : wpAny (model prog w) A (storeName env x v) Q E s :=
  f.store2 eo hk r ok hone fun s' st fm _ => q s' st fm
end Mine
end
section
set_option maxRecDepth 100000
set_option maxHeartbeats 4000000
namespace Mine
variable {prog : Program} {w : World} {mg mb : Str → Option Value} {n : Nat} {env : Env} {ρ ρ' ρ'' : PEnv} {X : List Addr} {h : Heap} {v : Value}
variable {F F' F'' Z : List Addr} {s s' s'' : Shared}

noncomputable def FlowIs (prog : Program) (w : World) (F Z : List Addr) (s : Shared) (f : Flow) : Option AV → Prop
  | none => f = .next
  | some V => ∃ v, f = .ret v ∧ R prog w (F ++ Z) s.heap v V ∧ Av Z v
noncomputable abbrev Aft (prog : Program) (w : World) (mg mb : Str → Option Value) (F Z : List Addr) (env : Env) (s : Shared) (ρ' : PEnv) (r : Option AV) (Q : Flow → Shared → Prop) : Prop :=
  ∀ f s' F', Step F F' s s' → Fm prog w mg mb F' Z env ρ' s' → FlowIs prog w F' Z s' f r → Q f s'
noncomputable def Sx (prog : Program) (w : World) (mg mb : Str → Option Value) (n : Nat) (env : Env) (ρ : PEnv) (ss : List Stmt) (ρ' : PEnv) (r : Option AV) : Prop :=
  ∀ (A : Around) (F Z : List Addr) (s : Shared) (Q : Flow → Shared → Prop) (E : Value → Shared → Prop), AOk n A → EnvOk env → Fm prog w mg mb F Z env ρ s → Aft prog w mg mb F Z env s ρ' r Q → wpAny (model prog w) A (execs ss env) Q E s
noncomputable def St (prog : Program) (w : World) (mg mb : Str → Option Value) (n : Nat) (env : Env) (ρ : PEnv) (st : Stmt) (ρ' : PEnv) (r : Option AV) : Prop :=
  ∀ (A : Around) (F Z : List Addr) (s : Shared) (Q : Flow → Shared → Prop) (E : Value → Shared → Prop), AOk n A → EnvOk env → Fm prog w mg mb F Z env ρ s → Aft prog w mg mb F Z env s ρ' r Q → wpAny (model prog w) A (exec st env) Q E s
variable {r : Option AV}
theorem Aft.step {Q : Flow → Shared → Prop} (a : Aft prog w mg mb F Z env s ρ' r Q) (x : Step F F' s s') : Aft prog w mg mb F' Z env s' ρ' r Q := fun f s'' F'' y fm fl => a f s'' F'' (x.trans y) fm fl
theorem Sx.nil : Sx prog w mg mb n env ρ [] ρ none := fun A F Z s Q E _ _ fm q => wpAny_execs_nil (q .next s F .refl fm rfl)
theorem Sx.cons {st : Stmt} {rest : List Stmt} (h1 : St prog w mg mb n env ρ st ρ' none) (h2 : Sx prog w mg mb n env ρ' rest ρ'' r) : Sx prog w mg mb n env ρ (st :: rest) ρ'' r := by
  intro A F Z s Q E a eo fm q
  refine wpAny_execs_cons (h1 A F Z s _ E a eo fm fun f s' F' x fm' fl => ?_)
  cases fl
  exact h2 A F' Z s' Q E a eo fm' (q.step x)
theorem Sx.stop {st : Stmt} {rest : List Stmt} {V : AV} (h1 : St prog w mg mb n env ρ st ρ' (some V)) : Sx prog w mg mb n env ρ (st :: rest) ρ' (some V) := by
  intro A F Z s Q E a eo fm q
  refine wpAny_execs_cons (h1 A F Z s _ E a eo fm fun f s' F' x fm' fl => ?_)
  obtain ⟨v, rfl, h2, h3⟩ := fl
  exact q _ s' F' x fm' ⟨v, rfl, h2, h3⟩
theorem Sx.post {ss : List Stmt} (h : Sx prog w mg mb n env ρ ss ρ' r) (q : Sub ρ'' ρ') : Sx prog w mg mb n env ρ ss ρ'' r :=
  fun A F Z s Q E a eo fm k => h A F Z s Q E a eo fm fun f s' F' x fm' fl => k f s' F' x (fm'.weak q) fl
theorem St.post {ss : Stmt} (h : St prog w mg mb n env ρ ss ρ' r) (q : Sub ρ'' ρ') : St prog w mg mb n env ρ ss ρ'' r :=
  fun A F Z s Q E a eo fm k => h A F Z s Q E a eo fm fun f s' F' x fm' fl => k f s' F' x (fm'.weak q) fl
theorem Sx.pre {ss : List Stmt} (q : Sub ρ'' ρ) (h : Sx prog w mg mb n env ρ'' ss ρ' r) : Sx prog w mg mb n env ρ ss ρ' r :=
  fun A F Z s Q E a eo fm k => h A F Z s Q E a eo (fm.weak q) k
theorem noOwn_one {x : Str} (h : ρ.all (fun p => p.2.own.isNone || p.1 == x) = true) : ∀ y sl', ρ.lookup y = some sl' → sl'.own ≠ none → y = x := by
  intro y sl' e o
  have := List.all_eq_true.mp h _ (mem_of_lookup e)
  cases hq : sl'.own with
  | none => exact absurd hq o
  | some b => simpa [hq] using this
theorem SlotOk.shared {V : AV} (a : Av (F ++ Z) v) : SlotOk F Z env ⟨V, none⟩ v := a
theorem St.assign {x : Str} {p pos : Pos} {e : PySem.Expr} {V : AV} (he : Ev prog w mg mb n env ρ e V) (hk : KOk env x) (hs : swapsWith e (some (.Name x p)) pos.line env = pure false := by rfl) :
    St prog w mg mb n env ρ (.Assign [.Name x p] e pos) ((x, ⟨V, none⟩) :: ρ) none := by
  intro A F Z s Q E a eo fm q
  refine wpAny_Assign_Name (he A _ s _ E a eo fm.rd fun v s₁ x₁ r₁ a₁ => ?_) hs
  exact (fm.ext x₁).store eo hk r₁ (SlotOk.shared a₁) (.inl rfl) fun s' st fm' => q _ s' F (x₁.step.trans st) fm' rfl

/- a new list of plain items -/
inductive RsP : List Value → List AV → Prop
  | nil : RsP [] []
  | cons {v V vs Vs} : Sc v V → RsP vs Vs → RsP (v :: vs) (V :: Vs)
theorem RsP.rs {vs : List Value} {Vs : List AV} (r : RsP vs Vs) : Rs prog w X h vs Vs := by
  induction r with
  | nil => exact .nil
  | cons s _ ih => exact .cons (Av.sc s) (.sc s) ih
noncomputable def AllSc (Vs : List AV) : Prop := ∀ V ∈ Vs, ∃ u, Sc u V
theorem Rs.plain {vs : List Value} {Vs : List AV} (r : Rs prog w X h vs Vs) (hs : AllSc Vs) : RsP vs Vs := by
  match r with
  | .nil => exact .nil
  | .cons _ r rs => exact .cons (r.sc_inv (hs _ (List.mem_cons_self ..))) (Rs.plain rs fun V hV => hs V (List.mem_cons_of_mem _ hV))
/- the value is a list that no one else holds -/
noncomputable def EvN (prog : Program) (w : World) (mg mb : Str → Option Value) (n : Nat) (env : Env) (ρ : PEnv) (e : PySem.Expr) (Vs : List AV) : Prop :=
  ∀ (A : Around) (X : List Addr) (s : Shared) (Q : Value → Shared → Prop) (E : Value → Shared → Prop), AOk n A → EnvOk env → Rd prog w mg mb X env ρ s →
    (∀ a s' vs k, Ext s s' → s.heap.get? a = none → s'.heap.get? a = some { cls := .type "list", data := .seq (List.toArray vs) k } → RsP vs Vs → Q (.ref a) s') → wpAny (model prog w) A (eval e env) Q E s
theorem Fm.take {a : Addr} (f : Fm prog w mg mb F Z env ρ s) (x₁ : Ext s s') (ha : s.heap.get? a = none) (hl : ∃ o, s'.heap.get? a = some o) : Fm prog w mg mb (a :: F) Z env ρ s' := by
  have sw : ∀ b ∈ (a :: F) ++ Z, b ∈ F ++ Z ∨ s.heap.get? b = none := fun b hb => by
    rcases List.mem_cons.mp hb with rfl | hb
    · exact .inr ha
    · exact .inl hb
  refine ⟨?_, fun b hb => ?_, ?_, List.mem_cons_of_mem _ f.loc, fun y c ec => ?_, f.apart, fun y sl ey => ?_, f.one⟩
  · obtain ⟨h₀, g, kp, z⟩ := f.base
    refine ⟨h₀, g, kp.trans x₁.kp, fun b hb => ?_⟩
    rcases List.mem_cons.mp hb with rfl | hb
    · cases e0 : h₀.get? b with
      | none => rfl
      | some o => rw [kp b o e0] at ha; cases ha
    · exact z b hb
  · rcases List.mem_cons.mp hb with rfl | hb
    · exact hl
    · exact Live.kp f.live x₁.kp b hb
  · obtain ⟨m, hm⟩ := f.ns; exact ⟨m, hm.keeps x₁.kp⟩
  · obtain ⟨h1, h2, u, h3⟩ := f.cells y c ec; exact ⟨List.mem_cons_of_mem _ h1, h2, u, h3.keeps x₁.kp⟩
  · obtain ⟨u, h1, h2, h3⟩ := f.vals y sl ey
    refine ⟨u, h1.kp x₁.kp, (h2.swapX sw).kp x₁.kp, ?_⟩
    unfold SlotOk at h3 ⊢
    cases ho : sl.own with
    | none => rw [ho] at h3; exact Av.swapX sw h2 h3
    | some b => rw [ho] at h3; obtain ⟨c, rfl, h5, h6⟩ := h3; exact ⟨c, rfl, List.mem_cons_of_mem _ h5, h6⟩
theorem Fm.take_own {a : Addr} (f : Fm prog w mg mb F Z env ρ s) (ha : s.heap.get? a = none) : OwnAt (a :: F) Z env none (.ref a) := by
  have hn : ∀ b ∈ F ++ Z, b ≠ a := fun b hb q => by obtain ⟨o, e⟩ := f.live b hb; rw [q, ha] at e; cases e
  exact ⟨a, rfl, List.mem_cons_self .., fun hz => hn a (List.mem_append_right _ hz) rfl, (hn env.locals (List.mem_append_left _ f.loc)).symm, fun y c ec => (hn c (List.mem_append_left _ (f.cells y c ec).1)).symm⟩
theorem Ext.take {a : Addr} (x₁ : Ext s s') (ha : s.heap.get? a = none) : Step F (a :: F) s s' := ⟨fun b hb => by
  rcases List.mem_cons.mp hb with rfl | hb
  · exact .inr ha
  · exact .inl hb, x₁.chg⟩
theorem Fm.own {x : Str} {a : Addr} {Vs : List AV} {vs : List Value} {k : Nat} {Q : Unit → Shared → Prop} {A : Around} {E : Value → Shared → Prop} (f : Fm prog w mg mb F Z env ρ s) (eo : EnvOk env) (hk : KOk env x) (x₁ : Ext s s') (ha : s.heap.get? a = none)
    (e : s'.heap.get? a = some { cls := .type "list", data := .seq (List.toArray vs) k }) (r : RsP vs Vs) (hone : ρ.all (fun p => p.2.own.isNone || p.1 == x) = true)
    (q : ∀ s'', Step F (a :: F) s s'' → Fm prog w mg mb (a :: F) Z env ((x, ⟨.list Vs, some none⟩) :: ρ) s'' → Q () s'') : wpAny (model prog w) A (storeName env x (.ref a)) Q E s' :=
  (f.take x₁ ha ⟨_, e⟩).store eo hk (sl := ⟨.list Vs, some none⟩) (.list e r.rs) (f.take_own ha) (.inr (noOwn_one hone)) fun s'' st fm' => q s'' ((x₁.take ha).trans st) fm'
theorem St.assignN {x : Str} {p pos : Pos} {e : PySem.Expr} {Vs : List AV} (he : EvN prog w mg mb n env ρ e Vs) (hk : KOk env x) (hone : ρ.all (fun p => p.2.own.isNone || p.1 == x) = true := by rfl) (hs : swapsWith e (some (.Name x p)) pos.line env = pure false := by rfl) :
    St prog w mg mb n env ρ (.Assign [.Name x p] e pos) ((x, ⟨.list Vs, some none⟩) :: ρ) none := by
  intro A F Z s Q E a eo fm q
  refine wpAny_Assign_Name (he A _ s _ E a eo fm.rd fun l s₁ vs k x₁ hl e₁ r₁ => ?_) hs
  exact fm.own eo hk x₁ hl e₁ r₁ hone fun s' st fm' => q _ s' _ st fm' rfl
theorem EvN.list {es : List PySem.Expr} {pos : Pos} {Vs : List AV} (hs : Evs prog w mg mb n env ρ es Vs) (hp : AllSc Vs) (hz : Vs.length ≤ 1048576 := by exact Nat.le_of_ble_eq_true rfl) : EvN prog w mg mb n env ρ (.List es pos) Vs := by
  intro A X s Q E a eo rd q
  refine List_ (hs A X s _ E pos a eo rd fun vs s₁ x₁ r₁ => ?_)
  refine wpAny_newObj_type ?_ (by show vs.toArray.size ≤ sizeLine; rw [List.size_toArray, r₁.length, sizeLine_eq]; omega)
  exact q _ _ vs 0 (x₁.trans (Ext.push _ _)) (none_of_ext x₁ (get?_size _)) (Heap.get?_push_size _ rfl) (r₁.plain hp)

/- in-place operators -/
noncomputable def OpI (prog : Program) (w : World) (op : Operator) (V₁ V₂ V : AV) : Prop :=
  ∀ (n : Nat) (A : Around) (X : List Addr) (s : Shared) (Q E : Value → Shared → Prop) (v₁ v₂ : Value), AOk n A → Live X s.heap → R prog w X s.heap v₁ V₁ → R prog w X s.heap v₂ V₂ →
    Post prog w X s Q V → wpAny (model prog w) A (inplaceOp op v₁ v₂) Q E s
theorem OpI.addI {i j : Int} : OpI prog w .Add (.int i) (.int j) (.int (i + j)) := by
  intro n A X s Q E v₁ v₂ _ _ r₁ r₂ q; obtain ⟨t, rfl⟩ := r₁.int_inv; obtain ⟨u, rfl⟩ := r₂.int_inv
  exact AutoIntOps.iadd_0 (Post.sc q (.int _ _) _)
theorem OpI.subI {i j : Int} : OpI prog w .Sub (.int i) (.int j) (.int (i - j)) := by
  intro n A X s Q E v₁ v₂ _ _ r₁ r₂ q; obtain ⟨t, rfl⟩ := r₁.int_inv; obtain ⟨u, rfl⟩ := r₂.int_inv
  exact AutoIntOps.isub_0 (Post.sc q (.int _ _) _)
theorem St.aug {x : Str} {p pos : Pos} {op : Operator} {e : PySem.Expr} {V₁ V₂ V : AV} (hx : ρ.lookup x = some ⟨V₁, none⟩) (he : Ev prog w mg mb n env ρ e V₂) (ho : OpI prog w op V₁ V₂ V) (hk : KOk env x) :
    St prog w mg mb n env ρ (.AugAssign (.Name x p) op e pos) ((x, ⟨V, none⟩) :: ρ) none := by
  intro A F Z s Q E a eo fm q
  obtain ⟨u, hu, r₁, ok⟩ := fm.vals x _ hx
  have rest : wpAny (model prog w) A (eval e env) (fun v s₂ => wpAny (model prog w) A (inplaceOp op u v) (fun r s₃ => wpAny (model prog w) A (storeName env x r) (fun _ => Q .next) E s₃) E s₂) E s := by
    refine he A _ s _ E a eo fm.rd fun v₂ s₂ x₂ r₂ a₂ => ?_
    refine ho n A _ s₂ _ E u v₂ a (fm.ext x₂).live (r₁.kp x₂.kp) r₂ fun v s₃ x₃ r₃ a₃ => ?_
    exact ((fm.ext x₂).ext x₃).store eo hk r₃ (SlotOk.shared a₃) (.inl rfl) fun s' st fm' => q _ s' F ((x₂.trans x₃).step.trans st) fm' rfl
  refine wpAny_AugAssign_Name ?_
  cases hu with
  | loc m k' hn e => exact wpAny_loadName_local eo.kind k' hn e rest
  | cell c k' hc hi => exact wpAny_loadName_cell eo.kind k' hc hi rest

theorem St.ifS {t : PySem.Expr} {b o : List Stmt} {pos : Pos} {c : Bool} (ht : Tr prog w mg mb n env ρ t c) (hb : c = true → Sx prog w mg mb n env ρ b ρ' r) (ho : c = false → Sx prog w mg mb n env ρ o ρ' r) : St prog w mg mb n env ρ (.If t b o pos) ρ' r := by
  intro A F Z s Q E a eo fm q
  refine wpAny_If (ht A _ s _ E a eo fm.rd fun s₁ x₁ => ?_)
  cases c with
  | true => exact hb rfl A F Z s₁ Q E a eo (fm.ext x₁) (q.step x₁.step)
  | false => exact ho rfl A F Z s₁ Q E a eo (fm.ext x₁) (q.step x₁.step)
theorem St.assert {t : PySem.Expr} {pos : Pos} (ht : Tr prog w mg mb n env ρ t true) : St prog w mg mb n env ρ (.Assert t none pos) ρ none := by
  intro A F Z s Q E a eo fm q
  exact wpAny_Assert_new a.handled (ht A _ s _ E a eo fm.rd fun s₁ x₁ => q _ s₁ F x₁.step (fm.ext x₁) rfl)
theorem St.ret {e : PySem.Expr} {pos : Pos} {V : AV} (he : Ev prog w mg mb n env ρ e V) : St prog w mg mb n env ρ (.Return (some e) pos) ρ (some V) := by
  intro A F Z s Q E a eo fm q
  exact wpAny_Return_some (he A _ s _ E a eo fm.rd fun v s₁ x₁ r₁ a₁ => q _ s₁ F x₁.step (fm.ext x₁) ⟨v, rfl, r₁, fun b e hb => a₁ b e (List.mem_append_right _ hb)⟩)

/- an own list is own no longer -/
theorem Sx.freeze {x : Str} {V : AV} {ss : List Stmt} (hx : ρ.lookup x = some ⟨V, some none⟩) (h : Sx prog w mg mb n env ((x, ⟨V, none⟩) :: ρ) ss ρ' r) : Sx prog w mg mb n env ρ ss ρ' r := by
  intro A F Z s Q E a eo fm q
  obtain ⟨u, hu, hr, hok⟩ := fm.vals x _ hx
  obtain ⟨l, rfl, hF, hZ, hl, hc⟩ := hok
  have hF' : ∀ b ∈ F.filter (· ≠ l), b ∈ F := fun b hb => (List.mem_filter.mp hb).1
  have sw : ∀ b ∈ F.filter (· ≠ l) ++ Z, b ∈ F ++ Z ∨ s.heap.get? b = none := fun b hb => by
    rcases List.mem_append.mp hb with hb | hb
    · exact .inl (List.mem_append_left _ (hF' b hb))
    · exact .inl (List.mem_append_right _ hb)
  refine h A (F.filter (· ≠ l)) Z s Q E a eo ⟨?_, fun b hb => ?_, fm.ns, List.mem_filter.mpr ⟨fm.loc, by simpa using hl.symm⟩, fun y c e => ?_, fm.apart, fun y sl e => ?_, fun y z sl1 sl2 e1 e2 o1 o2 => ?_⟩ (q.step ⟨fun b hb => .inl (hF' b hb), .refl s⟩)
  · obtain ⟨h₀, g, k, z⟩ := fm.base; exact ⟨h₀, g, k, fun b hb => z b (hF' b hb)⟩
  · rcases List.mem_append.mp hb with hb | hb
    · exact fm.live b (List.mem_append_left _ (hF' b hb))
    · exact fm.live b (List.mem_append_right _ hb)
  · obtain ⟨h1, h2, h3⟩ := fm.cells y c e
    exact ⟨List.mem_filter.mpr ⟨h1, by simpa using (hc y c e).symm⟩, h2, h3⟩
  · rcases lookup_cons_split e with ⟨rfl, rfl⟩ | ⟨ny, e⟩
    · refine ⟨_, hu, hr.swapX sw, fun b hb hm => ?_⟩
      cases hb
      rcases List.mem_append.mp hm with hm | hm
      · simpa using (List.mem_filter.mp hm).2
      · exact hZ hm
    · obtain ⟨u', h1, h2, h3⟩ := fm.vals y sl e
      refine ⟨u', h1, h2.swapX sw, ?_⟩
      unfold SlotOk at h3 ⊢
      cases ho : sl.own with
      | none => rw [ho] at h3; exact Av.swapX sw h2 h3
      | some b => exact absurd (fm.one y x sl _ e hx (by rw [ho]; simp) (by simp)) ny
  · rcases lookup_cons_split e1 with ⟨a1, b1⟩ | ⟨n1, f1⟩
    · subst b1; exact absurd rfl o1
    · rcases lookup_cons_split e2 with ⟨a2, b2⟩ | ⟨n2, f2⟩
      · subst b2; exact absurd rfl o2
      · exact fm.one y z sl1 sl2 f1 f2 o1 o2
end Mine
end
section
set_option maxRecDepth 100000
set_option maxHeartbeats 4000000
namespace Mine
variable {prog : Program} {w : World} {mg mb : Str → Option Value} {n : Nat} {env : Env} {ρ ρ' ρ'' : PEnv} {X : List Addr} {h : Heap} {v : Value}
noncomputable abbrev pa_list := @F.plainAttrs_list
theorem sl_append : Slot "list" "append" "list.append" := F.slot_list_append
variable {F F' F'' Z : List Addr} {s s' s'' : Shared} {r : Option AV}

/- an own list changes -/
theorem Fm.mut {x : Str} {a : Addr} {b : Option Addr} {Vs Vs' : List AV} {vs' : List Value} {k : Nat} (f : Fm prog w mg mb F Z env ρ s) (hx : ρ.lookup x = some ⟨.list Vs, some b⟩) (hv : VarIs s.heap env x (.ref a)) (hs : Chg [a] s s')
    (e : s'.heap.get? a = some { cls := .type "list", data := .seq (List.toArray vs') k }) (r : RsP vs' Vs') : Fm prog w mg mb F Z env ((x, ⟨.list Vs', some b⟩) :: ρ) s' ∧ Step F F s s' := by
  obtain ⟨u, hu, hr, hok⟩ := f.vals x _ hx
  cases hu.fun hv
  obtain ⟨a', ea, hF, hZ, hl, hc⟩ := hok
  cases ea
  have hb : ∀ c o, c ≠ a → s.heap.get? c = some o → s'.heap.get? c = some o := fun c o hc e => hs.kp c o (by simpa using hc) e
  have kF : KpX F s.heap s'.heap := KpX.but hb hF
  have kX : KpX (F ++ Z) s.heap s'.heap := KpX.but hb (List.mem_append_left _ hF)
  have vk : ∀ {y u}, VarIs s.heap env y u → VarIs s'.heap env y u := fun q => by
    cases q with
    | loc m k n e => exact .loc m k (n.extBut hb (Ne.symm hl)) e
    | cell c k l i => obtain ⟨o, h1, h2⟩ := i; exact .cell c k l ⟨o, hb c o (fun q => hc _ c l q.symm) h1, h2⟩
  refine ⟨⟨?_, fun c hc' => ?_, ?_, f.loc, fun y c ec => ?_, f.apart, fun y sl ey => ?_, fun y z sl1 sl2 e1 e2 o1 o2 => ?_⟩, ⟨fun _ h => .inl h, ⟨kF, hs.os, hs.gens⟩⟩⟩
  · obtain ⟨h₀, g, kp, z⟩ := f.base
    exact ⟨h₀, g, fun c o ec => kF c o (fun m => by rw [z c m] at ec; cases ec) (kp c o ec), z⟩
  · by_cases q : c = a
    · rw [q]; exact ⟨_, e⟩
    · obtain ⟨o, eo⟩ := f.live c hc'; exact ⟨o, hb c o q eo⟩
  · obtain ⟨m, hm⟩ := f.ns; exact ⟨m, hm.extBut hb (Ne.symm hl)⟩
  · obtain ⟨h1, h2, u, h3⟩ := f.cells y c ec
    exact ⟨h1, h2, u, let ⟨o, h3, h4⟩ := h3; ⟨o, hb c o (fun q => hc y c ec q.symm) h3, h4⟩⟩
  · rcases lookup_cons_split ey with ⟨rfl, rfl⟩ | ⟨ny, ey⟩
    · exact ⟨_, vk hv, .list e r.rs, ⟨a, rfl, hF, hZ, hl, hc⟩⟩
    · obtain ⟨u, h1, h2, h3⟩ := f.vals y sl ey
      refine ⟨u, vk h1, ?_, h3⟩
      unfold SlotOk at h3
      cases ho : sl.own with
      | none => rw [ho] at h3; exact h2.kpX kX h3
      | some d => exact absurd (f.one y x sl _ ey hx (by rw [ho]; simp) (by simp)) ny
  · rcases lookup_cons_split e1 with ⟨a1, b1⟩ | ⟨n1, f1⟩ <;> rcases lookup_cons_split e2 with ⟨a2, b2⟩ | ⟨n2, f2⟩
    · rw [a1, a2]
    · rw [a1]; exact (f.one z x sl2 _ f2 hx o2 (by simp)).symm
    · rw [a2]; exact f.one y x sl1 _ f1 hx o1 (by simp)
    · exact f.one y z sl1 sl2 f1 f2 o1 o2
theorem Fm.ownAt {x : Str} {b : Option Addr} {Vs : List AV} (f : Fm prog w mg mb F Z env ρ s) (hx : ρ.lookup x = some ⟨.list Vs, some b⟩) : ∃ a k vs, VarIs s.heap env x (.ref a) ∧ s.heap.get? a = some { cls := .type "list", data := .seq (List.toArray vs) k } ∧ Rs prog w (F ++ Z) s.heap vs Vs := by
  obtain ⟨u, hu, hr, hok⟩ := f.vals x _ hx
  obtain ⟨a, k, vs, rfl, e, rs⟩ := hr.list_inv
  exact ⟨a, k, vs, hu, e, rs⟩
theorem RsP.snoc {vs : List Value} {Vs : List AV} {V : AV} (r : RsP vs Vs) (s : Sc v V) : RsP (vs ++ [v]) (Vs ++ [V]) := by
  induction r with
  | nil => exact .cons s .nil
  | cons q _ ih => exact .cons q ih
theorem RsP.length {vs : List Value} {Vs : List AV} (r : RsP vs Vs) : vs.length = Vs.length := by
  induction r with
  | nil => rfl
  | cons _ _ ih => rw [List.length_cons, List.length_cons, ih]
theorem RsP.erase {vs : List Value} {Vs : List AV} (r : RsP vs Vs) (k : Nat) : RsP (vs.eraseIdx k) (Vs.eraseIdx k) := by
  induction r generalizing k with
  | nil => simpa using RsP.nil
  | cons q _ ih =>
    cases k with
    | zero => simpa
    | succ k => simpa using RsP.cons q (ih k)
theorem varO {x : Str} {px : Pos} {a : Addr} {A : Around} {E Q : Value → Shared → Prop} (eo : EnvOk env) (hv : VarIs s.heap env x v) (q : Q v s) (hd : (x == ("__debug__" : Str)) = false) : wpAny (model prog w) A (eval (.Name x px) env) Q E s := by
  cases hv with
  | loc m hk hn e => exact wpAny_Name (wpAny_loadName_local eo.kind hk hn e q) hd
  | cell c hk hc hi => exact wpAny_Name (wpAny_loadName_cell eo.kind hk hc hi q) hd
theorem St.append {x : Str} {px apos cpos pos : Pos} {e : PySem.Expr} {b : Option Addr} {Vs : List AV} {V : AV} (hx : ρ.lookup x = some ⟨.list Vs, some b⟩) (he : Ev prog w mg mb n env ρ e V) (hp : AllSc Vs) (hV : ∃ u, Sc u V) (hz : Vs.length ≤ 1048576)
    (hd : (x == ("__debug__" : Str)) = false := by rfl) (hbase : attributeBase (.Name x px) "append" env (eval (.Name x px) env) = eval (.Name x px) env := by rfl) (hline : (apos.endLine == cpos.line) = true := by rfl)
    (hs : starEach [e] env = [(false, eval e env)] := by rfl) (hi : interactive env = false := by rfl) (hsw : swapsWith (.Call (.Attribute (.Name x px) "append" apos) [e] [] cpos) none pos.line env = pure false := by rfl)
    (hfew : ((backTo cpos (starEach [e] env)).all (fun x => !x.1) && (backToKw cpos (keywordEach [] env)).all (fun x => x.1.isSome) && decide ([e].length + ([] : List Keyword).length + (if ([] : List Keyword).isEmpty then 0 else 1) < 30)) = true := by rfl) :
    St prog w mg mb n env ρ (.Expr (.Call (.Attribute (.Name x px) "append" apos) [e] [] cpos) pos) ((x, ⟨.list (Vs ++ [V]), some b⟩) :: ρ) none := by
  intro A F Z s Q E a eo fm q
  obtain ⟨l, k, vs, hv, el, rs⟩ := fm.ownAt hx
  refine wpAny_Expr ?_ hi hsw
  refine wpAny_Call_method hbase hfew hline pa_list sl_append rfl (varO (a := l) eo hv ?_ hd)
  refine ⟨⟨_, el, rfl⟩, fun c ec => by cases ec; exact ⟨_, el, rfl⟩, ?_⟩
  refine Calls.callWith_builtin (by rw [hs]; rfl) ?_
  rw [hs]
  refine Calls.evalArgs_plain (Calls.spliced_cons (he A _ s _ E a eo fm.rd fun v s₁ x₁ r₁ a₁ => Calls.spliced_nil ?_))
  have fm₁ := fm.ext x₁
  have hv₁ := hv.kp x₁.kp
  have el₁ := x₁.kp _ _ el
  refine wpAny_list_append_plain ⟨k, el₁⟩ (fun h' hpl hs' => ?_) (by rw [List.size_toArray, rs.length, sizeLine_eq]; omega)
  obtain ⟨k', e'⟩ := hpl
  have e2 : vs.toArray.push v = (vs ++ [v]).toArray := by simp
  rw [e2] at e'
  obtain ⟨f2, st2⟩ := fm₁.mut hx hv₁ (Chg.heap (KpX.but hs'.extBut (by simp)) s₁.toks) e' ((rs.plain hp).snoc (r₁.sc_inv hV))
  exact q .next _ F (x₁.step.trans st2) f2 rfl
theorem St.del {x : Str} {px spos pos : Pos} {e : PySem.Expr} {b : Option Addr} {Vs : List AV} {i : Int} {k : Nat} (hx : ρ.lookup x = some ⟨.list Vs, some b⟩) (he : Ev prog w mg mb n env ρ e (.int i)) (hp : AllSc Vs) (hk : seqIndex? i Vs.length = some k) (hfit : Builtin.List.listFitsIndex i = true) (hz : Vs.length ≤ 1048576)
    (hd : (x == ("__debug__" : Str)) = false := by rfl) : St prog w mg mb n env ρ (.Delete [.Subscript (.Name x px) e spos] pos) ((x, ⟨.list (Vs.eraseIdx k), some b⟩) :: ρ) none := by
  intro A F Z s Q E a eo fm q
  obtain ⟨l, c, vs, hv, el, rs⟩ := fm.ownAt hx
  refine wpAny_Delete (wpAny_deleteEach_cons (wpAny_delete_Subscript (varO (a := l) eo hv ?_ hd)))
  refine he A _ s _ E a eo fm.rd fun u s₁ x₁ r₁ a₁ => ?_
  obtain ⟨t, rfl⟩ := r₁.int_inv
  have el₁ := x₁.kp _ _ el
  have hlen := rs.length
  refine wpAny_delItem_plain ⟨c, el₁⟩ hfit (by rw [List.size_toArray, hlen]; exact hk) (fun h' hpl hs' => wpAny_deleteEach_nil ?_) (by rw [List.size_toArray, hlen, sizeLine_eq]; omega)
  obtain ⟨k', e'⟩ := hpl
  have hkl : k < vs.length := by
    rw [hlen]
    rcases seq_split hk with ⟨h1, h2, rfl⟩ | ⟨h1, h2, rfl⟩ <;> omega
  have e2 : vs.toArray.eraseIdxIfInBounds k = (vs.eraseIdx k).toArray := by
    unfold Array.eraseIdxIfInBounds
    rw [dif_pos (by simpa using hkl)]
    simp
  rw [e2] at e'
  obtain ⟨f2, st2⟩ := (fm.ext x₁).mut hx (hv.kp x₁.kp) (Chg.heap (KpX.but hs'.extBut (by simp)) s₁.toks) e' ((rs.plain hp).erase k)
  exact q .next _ F (x₁.step.trans st2) f2 rfl
end Mine
end
section
set_option maxRecDepth 100000
set_option maxHeartbeats 4000000
namespace Mine
variable {prog : Program} {w : World} {mg mb : Str → Option Value} {n : Nat} {env : Env} {ρ ρ' ρ'' : PEnv} {X : List Addr} {h : Heap} {v : Value}
variable {F F' F'' Z : List Addr} {s s' s'' : Shared} {r : Option AV}

/- one more address to avoid -/
theorem Fm.avoid {I : Addr} (f : Fm prog w mg mb F Z env ρ s) (x : Ext s s') (hI : s.heap.get? I = none) (hl : ∃ o, s'.heap.get? I = some o) : Fm prog w mg mb F (I :: Z) env ρ s' := by
  have sw : ∀ b ∈ F ++ (I :: Z), b ∈ F ++ Z ∨ s.heap.get? b = none := fun b hb => by
    rcases List.mem_append.mp hb with hb | hb
    · exact .inl (List.mem_append_left _ hb)
    · rcases List.mem_cons.mp hb with rfl | hb
      · exact .inr hI
      · exact .inl (List.mem_append_right _ hb)
  have g := f.ext x
  refine { g with live := fun b hb => ?_, vals := fun y sl e => ?_ }
  · rcases List.mem_append.mp hb with hb | hb
    · exact g.live b (List.mem_append_left _ hb)
    · rcases List.mem_cons.mp hb with rfl | hb
      · exact hl
      · exact g.live b (List.mem_append_right _ hb)
  · obtain ⟨u, h1, h2, h3⟩ := f.vals y sl e
    refine ⟨u, h1.kp x.kp, (h2.swapX sw).kp x.kp, ?_⟩
    unfold SlotOk at h3 ⊢
    cases ho : sl.own with
    | none => rw [ho] at h3; exact h3.swapX sw h2
    | some b =>
      rw [ho] at h3
      obtain ⟨a, rfl, h4, h5, h6⟩ := h3
      refine ⟨a, rfl, h4, ?_, h6⟩
      cases b with
      | some c => exact h5
      | none =>
        intro hz
        rcases List.mem_cons.mp hz with rfl | hz
        · obtain ⟨o, e'⟩ := f.live _ (List.mem_append_left _ h4); rw [hI] at e'; cases e'
        · exact h5 hz
theorem Fm.unavoid {I : Addr} (f : Fm prog w mg mb F (I :: Z) env ρ s) : Fm prog w mg mb F Z env ρ s := by
  have sub : ∀ b ∈ F ++ Z, b ∈ F ++ (I :: Z) := fun b hb => by
    rcases List.mem_append.mp hb with hb | hb
    · exact List.mem_append_left _ hb
    · exact List.mem_append_right _ (List.mem_cons_of_mem _ hb)
  refine { f with live := fun b hb => f.live b (sub b hb), vals := fun y sl e => ?_ }
  obtain ⟨u, h1, h2, h3⟩ := f.vals y sl e
  refine ⟨u, h1, h2.swapX fun b hb => .inl (sub b hb), ?_⟩
  unfold SlotOk at h3 ⊢
  cases ho : sl.own with
  | none => rw [ho] at h3; exact fun b e hb => h3 b e (sub b hb)
  | some b =>
    rw [ho] at h3
    obtain ⟨a, rfl, h4, h5, h6⟩ := h3
    exact ⟨a, rfl, h4, by cases b with | some c => exact h5 | none => exact fun hz => h5 (List.mem_cons_of_mem _ hz), h6⟩

theorem Chg.step {N : List Addr} {s₂ : Shared} (c : Chg N s₂ s') (st : Step F' F'' s' s'') (hn : ∀ a ∈ F', a ∈ N ∨ s₂.heap.get? a = none) : Chg N s₂ s'' := by
  have c2 : Chg (N ++ F') s₂ s'' := (c.mono fun b hb => List.mem_append_left _ hb).trans (st.chg.mono fun b hb => List.mem_append_right _ hb)
  exact c2.drop fun b hb => (List.mem_append.mp hb).elim .inl (hn b)
/- for over what no one writes to -/
theorem St.forC {x : Str} {px pos : Pos} {iter : PySem.Expr} {body : List Stmt} {Vs : List AV} (st : Nat → PEnv) (N : Nat) (hN : N ≤ Vs.length) (hit : EvIt prog w mg mb n env ρ true iter Vs) (h0 : Sub (st 0) ρ) (hx : KOk env x)
    (hb : ∀ i V, i < N → Vs[i]? = some V → Sx prog w mg mb n env ((x, ⟨V, none⟩) :: st i) body (st (i + 1)) none)
    (hend : (N = Vs.length ∧ ρ' = st N ∧ r = none) ∨ (∃ V W, Vs[N]? = some V ∧ Sx prog w mg mb n env ((x, ⟨V, none⟩) :: st N) body ρ' (some W) ∧ r = some W))
    (hs : ∀ x, foldedSetIterable iter env x = pure x := by intro _; rfl) : St prog w mg mb n env ρ (.For (.Name x px) iter body [] pos) ρ' r := by
  intro A F Z s Q E ao eo fm q
  refine wpAny_For (hit A (F ++ Z) s _ E ao eo fm.rd fun I s₂ fp P ItS x₂ hI it hfp => ?_) hs
  have hfp' := hfp rfl
  have fm₂ : Fm prog w mg mb F (I :: Z) env (st 0) s₂ := (fm.avoid x₂ hI (it.live _ _ it.st)).weak h0
  have W := it.walks A ao.handled
  refine codeAny_forLoop (fun k s' => ∃ i F', (∀ a ∈ F', a ∈ F ∨ s₂.heap.get? a = none) ∧ Chg (I :: F) s₂ s' ∧ Fm prog w mg mb F' (I :: Z) env (st i) s' ∧ ItS i s'.heap ∧ (∀ b ∈ fp, b ∉ F') ∧ i ≤ N ∧ k = Vs.length + 1 - i) ?_ (Vs.length + 1)
    ⟨0, F, fun _ h => .inl h, .refl _, fm₂, it.st, fun b hb hF => hfp' b hb (List.mem_append_left _ hF), Nat.zero_le _, rfl⟩
  rintro k s' ⟨i, F', nw', ch', fm', its, hd', hi, rfl⟩
  have hIF : I ∉ F' := hd' I it.self
  -- the next item, stored
  have turn : ∀ {V} {Q' : Option Value → Shared → Prop} {E' : Value → Shared → Prop}, Vs[i]? = some V → (∀ v h₁ tk₁, ItS (i + 1) h₁ → Fm prog w mg mb F' (I :: Z) env (st i) { s' with heap := h₁, toks := tk₁ } → R prog w (F' ++ I :: Z) h₁ v V → Av (F' ++ I :: Z) v →
      Chg [I] s' { s' with heap := h₁, toks := tk₁ } → Q' (some v) { s' with heap := h₁, toks := tk₁ }) → wpAny (model prog w) A (pyNext (.ref I)) Q' E' s' := by
    intro V Q' E' hV kq
    have hlt : i < Vs.length := (List.getElem?_eq_some_iff.mp hV).1
    refine W.item i s' _ _ hlt its fun v h₁ tk₁ hPv its₁ k₁ => ?_
    obtain ⟨V', hV', rV, aV⟩ := it.item i v hPv
    rw [hV] at hV'; cases hV'
    have hb1 : Heap.ExtBut I s'.heap h₁ := fun b o hb e => k₁ b o (by simpa using hb) e
    have kI : KpX (F' ++ I :: Z) s'.heap h₁ := KpX.but hb1 (by simp)
    have c₁ : Chg [I] s' { s' with heap := h₁, toks := tk₁ } := Chg.heap (KpX.but hb1 (by simp)) tk₁
    have vk : ∀ {y u}, VarIs s'.heap env y u → VarIs h₁ env y u := fun q => by
      cases q with
      | loc m k n e => exact .loc m k (n.extBut hb1 fun q => hIF (q ▸ fm'.loc)) e
      | cell c k l i => obtain ⟨o, h1, h2⟩ := i; exact .cell c k l ⟨o, hb1 c o (fun q => hIF (q ▸ (fm'.cells _ c l).1)) h1, h2⟩
    have fm₁ : Fm prog w mg mb F' (I :: Z) env (st i) { s' with heap := h₁, toks := tk₁ } := by
      refine ⟨?_, fun b hb => ?_, ?_, fm'.loc, fun y c ec => ?_, fm'.apart, fun y sl ey => ?_, fm'.one⟩
      · obtain ⟨h₀, g, kp, z⟩ := fm.base
        have hI0 : ∀ o, h₀.get? I ≠ some o := fun o e => by rw [kp I o e] at hI; cases hI
        have kp2 : Kp h₀ s'.heap := fun b o e => ch'.kp b o (fun m => by
          rcases List.mem_cons.mp m with rfl | m
          · exact hI0 _ e
          · rw [z b m] at e; cases e) (x₂.kp b o (kp b o e))
        refine ⟨h₀, g, fun b o e => hb1 b o (fun q => hI0 o (q ▸ e)) (kp2 b o e), fun b hb => ?_⟩
        rcases nw' b hb with hb | hb
        · exact z b hb
        · cases e0 : h₀.get? b with
          | none => rfl
          | some o => rw [x₂.kp b o (kp b o e0)] at hb; cases hb
      · by_cases hbI : b = I
        · rw [hbI]; exact it.live _ _ its₁
        · obtain ⟨o, e⟩ := fm'.live b hb; exact ⟨o, hb1 b o hbI e⟩
      · obtain ⟨m, hm⟩ := fm'.ns; exact ⟨m, hm.extBut hb1 fun q => hIF (q ▸ fm'.loc)⟩
      · obtain ⟨h1, h2, u, o, h3, h4⟩ := fm'.cells y c ec; exact ⟨h1, h2, u, o, hb1 c o (fun q => hIF (q ▸ h1)) h3, h4⟩
      · obtain ⟨u, h1, h2, h3⟩ := fm'.vals y sl ey
        refine ⟨u, vk h1, ?_, h3⟩
        unfold SlotOk at h3
        cases ho : sl.own with
        | none => rw [ho] at h3; exact h2.kpX kI h3
        | some d => rw [ho] at h3; obtain ⟨a, rfl, h4, _⟩ := h3; exact h2.atX (fun o e => hb1 a o (fun q => hIF (q ▸ h4)) e) kI
    have sw : ∀ b ∈ F' ++ (I :: (F ++ Z)), b ∈ I :: (F ++ Z) ∨ s₂.heap.get? b = none := fun b hb => by
      rcases List.mem_append.mp hb with hb | hb
      · rcases nw' b hb with hb | hb
        · exact .inl (List.mem_cons_of_mem _ (List.mem_append_left _ hb))
        · exact .inr hb
      · exact .inl hb
    have sub : ∀ b ∈ F' ++ I :: Z, b ∈ F' ++ (I :: (F ++ Z)) := fun b hb => by
      rcases List.mem_append.mp hb with hb | hb
      · exact List.mem_append_left _ hb
      · refine List.mem_append_right _ ?_
        rcases List.mem_cons.mp hb with rfl | hb
        · exact List.mem_cons_self ..
        · exact List.mem_cons_of_mem _ (List.mem_append_right _ hb)
    have aV' : Av (F' ++ (I :: (F ++ Z))) v := aV.swapX sw rV
    have rV1 : R prog w (F' ++ (I :: (F ++ Z))) s'.heap v V := (rV.swapX sw).kpX (fun b o hb e => ch'.kp b o (fun m => by
      rcases List.mem_cons.mp m with rfl | m
      · exact hb (by simp)
      · exact hb (List.mem_append_right _ (List.mem_cons_of_mem _ (List.mem_append_left _ m)))) e) aV'
    have rV2 : R prog w (F' ++ (I :: (F ++ Z))) h₁ v V := rV1.kpX (KpX.but hb1 (by simp)) aV'
    exact kq v h₁ tk₁ its₁ fm₁ (rV2.swapX fun b hb => .inl (sub b hb)) (fun b e hb => aV' b e (sub b hb)) c₁
  have toF : ∀ a ∈ F', a ∈ I :: F ∨ s₂.heap.get? a = none := fun a ha => (nw' a ha).imp (List.mem_cons_of_mem _) id
  have done : ∀ {s₄ : Shared} {F'' : List Addr}, (∀ a ∈ F'', a ∈ F ∨ s₂.heap.get? a = none) → Chg (I :: F) s₂ s₄ → Step F F'' s s₄ := fun nw c =>
    ⟨fun a ha => (nw a ha).imp id (none_of_ext x₂), (x₂.chg.trans c).drop fun b hb => (List.mem_cons.mp hb).elim (fun q => .inr (q ▸ hI)) .inl⟩
  have body2 : ∀ (V : AV) (v : Value) (h₁ : Heap) (tk₁ : Nat) (E' : Value → Shared → Prop) (Q' : Flow → Shared → Prop) (ρ₁ : PEnv) (r₁ : Option AV), Sx prog w mg mb n env ((x, ⟨V, none⟩) :: st i) body ρ₁ r₁ → ItS (i + 1) h₁ →
      Fm prog w mg mb F' (I :: Z) env (st i) { s' with heap := h₁, toks := tk₁ } → R prog w (F' ++ I :: Z) h₁ v V → Av (F' ++ I :: Z) v → Chg [I] s' { s' with heap := h₁, toks := tk₁ } →
      (∀ f s₄ F'', (∀ a ∈ F'', a ∈ F ∨ s₂.heap.get? a = none) → Chg (I :: F) s₂ s₄ → Fm prog w mg mb F'' (I :: Z) env ρ₁ s₄ → ItS (i + 1) s₄.heap → (∀ b ∈ fp, b ∉ F'') → FlowIs prog w F'' (I :: Z) s₄ f r₁ → Q' f s₄) →
      wpAny (model prog w) A (PySem.assign (PySem.Expr.Name x px) env v) (fun _ s₃ => wpAny (model prog w) A (execs body env) Q' E' s₃) E' { s' with heap := h₁, toks := tk₁ } := by
    intro V v h₁ tk₁ E' Q' ρ₁ r₁ hB its₁ fm₁ rV aV c₁ kq
    refine wpAny_assign_Name (fm₁.store eo hx rV (SlotOk.shared aV) (.inl rfl) fun s₃ st₃ fm₃ => ?_)
    refine hB A F' (I :: Z) s₃ Q' E' ao eo fm₃ fun f s₄ F'' st₄ fm₄ fl => ?_
    have ch₁ : Chg (I :: F) s₂ { s' with heap := h₁, toks := tk₁ } := ch'.trans (c₁.mono fun b hb => by rw [List.mem_singleton.mp hb]; exact List.mem_cons_self ..)
    have ch₃ := ch₁.step st₃ toF
    have ch₄ := ch₃.step st₄ toF
    have its₃ : ItS (i + 1) s₃.heap := W.frame _ _ _ its₁ fun b hb o e => st₃.chg.kp b o (hd' b hb) e
    have its₄ : ItS (i + 1) s₄.heap := W.frame _ _ _ its₃ fun b hb o e => st₄.chg.kp b o (hd' b hb) e
    refine kq f s₄ F'' (fun a ha => ?_) ch₄ fm₄ its₄ (fun b hb hF => ?_) fl
    · rcases st₄.new a ha with ha | hn
      · exact nw' a ha
      · by_cases hq : a ∈ I :: F
        · rcases List.mem_cons.mp hq with rfl | hq
          · obtain ⟨o, e⟩ := it.live _ _ its₃; rw [hn] at e; cases e
          · exact .inl hq
        · refine .inr ?_
          cases e : s₂.heap.get? a with
          | none => rfl
          | some o => rw [ch₃.kp a o hq e] at hn; cases hn
    · rcases st₄.new b hF with h1 | h1
      · exact hd' b hb h1
      · obtain ⟨o, e⟩ := it.lv _ _ its₃ b hb; rw [h1] at e; cases e
  by_cases hlt : i < N
  · have hV : Vs[i]? = some (Vs[i]'(Nat.lt_of_lt_of_le hlt hN)) := List.getElem?_eq_getElem _
    refine turn hV fun v h₁ tk₁ its₁ fm₁ rV aV c₁ => ?_
    refine body2 _ v h₁ tk₁ _ _ _ none (hb i _ hlt hV) its₁ fm₁ rV aV c₁ fun f s₄ F'' nw ch fm₄ its₄ hd₄ fl => ?_
    cases fl
    exact ⟨Vs.length + 1 - (i + 1), by omega, i + 1, F'', nw, ch, fm₄, its₄, hd₄, hlt, rfl⟩
  · have hin : i = N := by omega
    subst hin
    rcases hend with ⟨hNl, rfl, rfl⟩ | ⟨V, U, hV, hB, rfl⟩
    · refine W.done s' _ _ (hNl ▸ its) fun h₁ tk₁ k₁ => wpAny_execs_nil ?_
      have hb1 : Heap.ExtBut I s'.heap h₁ := fun b o hb e => k₁ b o (by simpa using hb) e
      refine q .next _ F' (done nw' (ch'.trans (Chg.heap (KpX.but hb1 (List.mem_cons_self ..)) tk₁))) ?_ rfl
      -- the frame behind the loop
      have f0 := fm'.unavoid
      have vk : ∀ {y u}, VarIs s'.heap env y u → VarIs h₁ env y u := fun q => by
        cases q with
        | loc m k n e => exact .loc m k (n.extBut hb1 fun q => hIF (q ▸ fm'.loc)) e
        | cell c k l i => obtain ⟨o, h1, h2⟩ := i; exact .cell c k l ⟨o, hb1 c o (fun q => hIF (q ▸ (fm'.cells _ c l).1)) h1, h2⟩
      have kI : KpX (F' ++ I :: Z) s'.heap h₁ := KpX.but hb1 (by simp)
      have sub : ∀ b ∈ F' ++ Z, b ∈ F' ++ (I :: Z) := fun b hb => by
        rcases List.mem_append.mp hb with hb | hb
        · exact List.mem_append_left _ hb
        · exact List.mem_append_right _ (List.mem_cons_of_mem _ hb)
      refine ⟨?_, fun b hb => ?_, ?_, fm'.loc, fun y c ec => ?_, fm'.apart, fun y sl ey => ?_, fm'.one⟩
      · obtain ⟨h₀, g, kp, z⟩ := fm.base
        have hI0 : ∀ o, h₀.get? I ≠ some o := fun o e => by rw [kp I o e] at hI; cases hI
        have kp2 : Kp h₀ s'.heap := fun b o e => ch'.kp b o (fun m => by
          rcases List.mem_cons.mp m with rfl | m
          · exact hI0 _ e
          · rw [z b m] at e; cases e) (x₂.kp b o (kp b o e))
        refine ⟨h₀, g, fun b o e => hb1 b o (fun q => hI0 o (q ▸ e)) (kp2 b o e), fun b hb => ?_⟩
        rcases nw' b hb with hb | hb
        · exact z b hb
        · cases e0 : h₀.get? b with
          | none => rfl
          | some o => rw [x₂.kp b o (kp b o e0)] at hb; cases hb
      · have hbI : b ≠ I := fun q => by
          rcases List.mem_append.mp hb with hb | hb
          · exact hIF (q ▸ hb)
          · obtain ⟨o, e⟩ := fm.live b (List.mem_append_right _ hb); rw [q, hI] at e; cases e
        obtain ⟨o, e⟩ := f0.live b hb; exact ⟨o, hb1 b o hbI e⟩
      · obtain ⟨m, hm⟩ := fm'.ns; exact ⟨m, hm.extBut hb1 fun q => hIF (q ▸ fm'.loc)⟩
      · obtain ⟨h1, h2, u, o, h3, h4⟩ := fm'.cells y c ec; exact ⟨h1, h2, u, o, hb1 c o (fun q => hIF (q ▸ h1)) h3, h4⟩
      · obtain ⟨u, h1, h2, h3⟩ := fm'.vals y sl ey
        refine ⟨u, vk h1, ?_, ?_⟩
        · unfold SlotOk at h3
          cases ho : sl.own with
          | none => rw [ho] at h3; exact (h2.kpX kI h3).swapX fun b hb => .inl (sub b hb)
          | some d => rw [ho] at h3; obtain ⟨a, rfl, h4, _⟩ := h3; exact (h2.atX (fun o e => hb1 a o (fun q => hIF (q ▸ h4)) e) kI).swapX fun b hb => .inl (sub b hb)
        · unfold SlotOk at h3 ⊢
          cases ho : sl.own with
          | none => rw [ho] at h3; exact fun b e hb => h3 b e (sub b hb)
          | some b =>
            rw [ho] at h3
            obtain ⟨a, rfl, h4, h5, h6⟩ := h3
            exact ⟨a, rfl, h4, by cases b with | some c => exact h5 | none => exact fun hz => h5 (List.mem_cons_of_mem _ hz), h6⟩
    · refine turn hV fun v h₁ tk₁ its₁ fm₁ rV aV c₁ => ?_
      refine body2 _ v h₁ tk₁ _ _ _ (some U) hB its₁ fm₁ rV aV c₁ fun f s₄ F'' nw ch fm₄ its₄ hd₄ fl => ?_
      obtain ⟨u, rfl, hr, ha⟩ := fl
      refine q _ s₄ F'' (done nw ch) fm₄.unavoid ⟨u, rfl, hr.swapX fun b hb => .inl ?_, fun b e hb => ha b e (List.mem_cons_of_mem _ hb)⟩
      rcases List.mem_append.mp hb with hb | hb
      · exact List.mem_append_left _ hb
      · exact List.mem_append_right _ (List.mem_cons_of_mem _ hb)
end Mine
end
section
set_option maxRecDepth 100000
set_option maxHeartbeats 4000000
namespace Mine
variable {prog : Program} {w : World} {mg mb : Str → Option Value} {n : Nat} {env : Env} {ρ ρ' ρ'' : PEnv} {X : List Addr} {h : Heap} {v : Value}
variable {F F' F'' Z : List Addr} {s s' s'' : Shared} {r : Option AV}

theorem St.whileC {t : PySem.Expr} {body : List Stmt} {pos : Pos} (st : Nat → PEnv) (N : Nat) (h0 : Sub (st 0) ρ) (ht : ∀ i, i < N → Tr prog w mg mb n env (st i) t true) (hb : ∀ i, i < N → Sx prog w mg mb n env (st i) body (st (i + 1)) none)
    (he : Tr prog w mg mb n env (st N) t false) : St prog w mg mb n env ρ (.While t body [] pos) (st N) none := by
  intro A F Z s Q E ao eo fm q
  refine wpAny_While (codeAny_whileLoop (fun k s' => ∃ i F', Step F F' s s' ∧ Fm prog w mg mb F' Z env (st i) s' ∧ i ≤ N ∧ k = N - i) ?_ N ⟨0, F, .refl, fm.weak h0, Nat.zero_le _, rfl⟩)
  rintro k s' ⟨i, F', st', fm', hi, rfl⟩
  by_cases hlt : i < N
  · refine ht i hlt A _ s' _ _ ao eo fm'.rd fun s₁ x₁ => ?_
    rw [if_pos rfl]
    refine hb i hlt A F' Z s₁ _ _ ao eo (fm'.ext x₁) fun f s₂ F'' st₂ fm₂ fl => ?_
    cases fl
    exact ⟨N - (i + 1), by omega, i + 1, F'', (st'.trans x₁.step).trans st₂, fm₂, hlt, rfl⟩
  · have hin : i = N := by omega
    subst hin
    refine he A _ s' _ _ ao eo fm'.rd fun s₁ x₁ => ?_
    rw [if_neg Bool.false_ne_true]
    exact wpAny_execs_nil (q .next s₁ F' (st'.trans x₁.step) (fm'.ext x₁) rfl)

/- several stores -/
noncomputable def pushAll : List (Str × AV) → PEnv → PEnv
  | [], ρ => ρ
  | (x, V) :: r, ρ => pushAll r ((x, ⟨V, none⟩) :: ρ)
noncomputable def Tg (env : Env) (t : Value → Sem Unit) (x : Str) : Prop := ∀ {M : Model} {A : Around} {E : Value → Shared → Prop} {s : Shared} (v : Value) (Q : Unit → Shared → Prop), wpAny M A (storeName env x v) Q E s → wpAny M A (t v) Q E s
theorem Tg.assign {x : Str} {p : Pos} : Tg env (PySem.assign (.Name x p) env) x := fun v Q h => wpAny_assign_Name h
theorem Tg.bind {x : Str} : Tg env (fun v => bindName env x v) x := fun v Q h => wpAny_bindName h
theorem Fm.stores {A : Around} {E : Value → Shared → Prop} {Q : Unit → Shared → Prop} (eo : EnvOk env) : ∀ (l : List ((Value → Sem Unit) × Str × AV)) (vs : List Value) (ρ : PEnv) (s : Shared), Fm prog w mg mb F Z env ρ s → Rs prog w (F ++ Z) s.heap vs (l.map (·.2.2)) →
    (∀ p ∈ l, KOk env p.2.1 ∧ Tg env p.1 p.2.1) → (∀ s', Step F F s s' → Fm prog w mg mb F Z env (pushAll (l.map (·.2)) ρ) s' → Q () s') → wpAny (model prog w) A (assignInOrder (l.map (·.1)) vs) Q E s
  | [], vs, ρ, s, fm, rs, _, q => by
    cases rs
    exact wpAny_pure (q s .refl fm)
  | (t, x, V) :: l, vs, ρ, s, fm, rs, hl, q => by
    cases rs with
    | cons av rv rs =>
      obtain ⟨hk, ht⟩ := hl _ (List.mem_cons_self ..)
      refine wpAny_bind (wpAny_holding (ht _ _ (fm.store eo hk rv (SlotOk.shared av) (.inl rfl) fun s' st fm' => ?_)))
      refine Fm.stores eo l _ _ s' fm' (rs.kpX (st.chg.mono fun b hb => List.mem_append_left _ hb).kp) (fun p hp => hl p (List.mem_cons_of_mem _ hp)) fun s'' st' fm'' => q s'' (st.trans st') fm''
theorem unpack_R {A : Around} {E : Value → Shared → Prop} {Vs : List AV} {Q : List Value → Shared → Prop} {k : Nat} (hh : A.handled = none) (r₁ : R prog w X s.heap v (.tup Vs)) (hk : k = Vs.length) (q : ∀ vs s', Ext s s' → Rs prog w X s'.heap vs Vs → Q vs s') : wpAny (model prog w) A (unpackItems v k none) Q E s := by
  obtain ⟨a, c, vs, rfl, e, rs⟩ := r₁.tup_inv
  have hk' : k = vs.toArray.size := by rw [hk, List.size_toArray, rs.length]
  rw [hk']
  refine wpAny_unpackItems_tuple hh (isTuple_of e) fun h' hx => ?_
  have x : Ext s { s with heap := h' } := (Chg.heap (N := [s.heap.objs.size]) (KpX.but hx (by simp)) s.toks).ext fun b hb => by rw [List.mem_singleton.mp hb]; exact get?_size _
  exact q _ _ x (rs.kp x.kp)
/- a, b = e  by bare stores, left to right -/
theorem St.tupP {elts : List PySem.Expr} {k : Nat} {tpos pos : Pos} {e : PySem.Expr} {l : List ((Value → Sem Unit) × Str × AV)} (he : Ev prog w mg mb n env ρ e (.tup (l.map (·.2.2)))) (hl : ∀ p ∈ l, KOk env p.2.1 ∧ Tg env p.1 p.2.1)
    (hel : assignEach elts env = l.map fun p => (false, p.1)) (hs : swapsWithSole [.Tuple elts k tpos] e pos.line env = pure false := by rfl) (hw : swappedStores [.Tuple elts k tpos] e env = pure none := by rfl) :
    St prog w mg mb n env ρ (.Assign [.Tuple elts k tpos] e pos) (pushAll (l.map (·.2)) ρ) none := by
  intro A F Z s Q E a eo fm q
  refine Assign_Tuple (he A _ s _ E a eo fm.rd fun v s₁ x₁ r₁ a₁ => ?_) hs hw
  obtain ⟨d, c, vs, rfl, e₁, rs⟩ := r₁.tup_inv
  have hlen : (assignEach elts env).length = vs.toArray.size := by rw [hel, List.size_toArray, rs.length]; simp
  refine wpAny_assign_Tuple a.handled (isTuple_of e₁) hlen (by rw [hel]; clear hel hl he rs hlen; induction l with | nil => rfl | cons p l ih => simp [List.findIdx?_cons]) fun h' hx => ?_
  have x : Ext s₁ { s₁ with heap := h' } := (Chg.heap (N := [s₁.heap.objs.size]) (KpX.but hx (by simp)) s₁.toks).ext fun b hb => by rw [List.mem_singleton.mp hb]; exact get?_size _
  have e2 : (assignEach elts env).map (·.2) = l.map (·.1) := by rw [hel, List.map_map]; rfl
  rw [e2]
  exact Fm.stores eo l _ ρ _ ((fm.ext x₁).ext x) (rs.kp x.kp) hl fun s' st fm' => q .next s' F (((x₁.trans x).step).trans st) fm' rfl
/- a, b = (e, f)  by stores from the last to the first -/
theorem St.tupS {elts : List PySem.Expr} {k : Nat} {tpos pos : Pos} {e : PySem.Expr} {l : List (Str × AV)} (he : Ev prog w mg mb n env ρ e (.tup (l.map (·.2)))) (hl : ∀ p ∈ l, KOk env p.1)
    (hw : swappedStores [.Tuple elts k tpos] e env = pure (some (l.map (·.1)))) (hs : swapsWithSole [.Tuple elts k tpos] e pos.line env = pure false := by rfl) :
    St prog w mg mb n env ρ (.Assign [.Tuple elts k tpos] e pos) (pushAll l.reverse ρ) none := by
  intro A F Z s Q E a eo fm q
  refine Assign_Tuple_swapped (names := l.map (·.1)) (he A _ s _ E a eo fm.rd fun v s₁ x₁ r₁ a₁ => ?_) hs hw
  refine unpack_R a.handled r₁ (by simp) fun vs s₂ x₂ rs => ?_
  have fm₂ := (fm.ext x₁).ext x₂
  let l' : List ((Value → Sem Unit) × Str × AV) := l.reverse.map fun p => (fun v => bindName env p.1 v, p)
  have e1 : (l.map (·.1)).reverse.map (fun n => bindName env n) = l'.map (·.1) := by simp [l', List.map_reverse, List.map_map, Function.comp_def]
  rw [e1]
  have rr : Rs prog w (F ++ Z) s₂.heap vs.reverse (l'.map (·.2.2)) := by
    have e2 : l'.map (·.2.2) = (l.map (·.2)).reverse := by simp [l', List.map_reverse, List.map_map, Function.comp_def]
    rw [e2]
    have : ∀ {us : List Value} {Us : List AV}, Rs prog w (F ++ Z) s₂.heap us Us → Rs prog w (F ++ Z) s₂.heap us.reverse Us.reverse := by
      intro us Us hr
      induction us generalizing Us with
      | nil => cases hr; exact .nil
      | cons u us ih => cases hr with | cons a r rs => rw [List.reverse_cons, List.reverse_cons]; exact (ih rs).append (.one a r)
    exact this rs
  have e3 : l'.map (·.2) = l.reverse := by simp [l', List.map_reverse, List.map_map, Function.comp_def]
  refine Fm.stores eo l' _ ρ _ fm₂ rr (fun p hp => ?_) fun s' st fm' => q .next s' F ((x₁.trans x₂).step.trans st) (by rw [e3] at fm'; exact fm') rfl
  obtain ⟨p', hp', rfl⟩ := List.mem_map.mp hp
  exact ⟨hl p' (List.mem_reverse.mp hp'), Tg.bind⟩

theorem Ext.butNew {h' : Heap} (hx : Heap.ExtBut s.heap.objs.size s.heap h') : Ext s { s with heap := h' } := (Chg.heap (N := [s.heap.objs.size]) (KpX.but hx (by simp)) s.toks).ext fun b hb => by rw [List.mem_singleton.mp hb]; exact get?_size _
/- x, y = ([..], e): x gets a new list -/
theorem St.tupON {elts : List PySem.Expr} {k k2 : Nat} {tpos p2 pos : Pos} {e1 e2 : PySem.Expr} {x y : Str} {Vs : List AV} {V : AV} (h1 : EvN prog w mg mb n env ρ e1 Vs) (h2 : Ev prog w mg mb n env ρ e2 V) (hx : KOk env x) (hy : KOk env y)
    (hone : ((y, (⟨V, none⟩ : Sl)) :: ρ).all (fun p => p.2.own.isNone || p.1 == x) = true)
    (hw : swappedStores [.Tuple elts k tpos] (.Tuple [e1, e2] k2 p2) env = pure (some [x, y])) (hs : swapsWithSole [.Tuple elts k tpos] (.Tuple [e1, e2] k2 p2) pos.line env = pure false := by rfl) (hst : starEach [e1, e2] env = [(false, eval e1 env), (false, eval e2 env)] := by rfl) :
    St prog w mg mb n env ρ (.Assign [.Tuple elts k tpos] (.Tuple [e1, e2] k2 p2) pos) ((x, ⟨.list Vs, some none⟩) :: (y, ⟨V, none⟩) :: ρ) none := by
  intro A F Z s Q E a eo fm q
  refine Assign_Tuple_swapped (names := [x, y]) (Tuple_ ?_) hs hw
  rw [hst]
  refine Calls.spliced_cons (h1 A _ s _ E a eo fm.rd fun l s₁ vs c x₁ hl e₁ r₁ => ?_)
  have f₁ := fm.take x₁ hl ⟨_, e₁⟩
  have own := fm.take_own hl
  refine Calls.spliced_cons (h2 A _ s₁ _ E a eo f₁.rd fun v₂ s₂ x₂ r₂ a₂ => Calls.spliced_nil ?_)
  refine wpAny_newObj_type ?_ (by size_fits)
  have x₃ : Ext s₂ { s₂ with heap := s₂.heap.push { cls := .type "tuple", data := .seq ([.ref l, v₂] : List Value).toArray } } := Ext.push _ _
  refine wpAny_unpackItems_tuple (items := #[.ref l, v₂]) a.handled ⟨_, Heap.get?_push_size _ rfl, rfl, _, rfl⟩ fun h' hxx => ?_
  have x₄ : Ext { s₂ with heap := s₂.heap.push { cls := .type "tuple", data := .seq ([.ref l, v₂] : List Value).toArray } } { s₂ with heap := h' } := Ext.butNew hxx
  have x₅ := (x₂.trans x₃).trans x₄
  refine wpAny_bind (wpAny_holding (wpAny_bindName ((f₁.ext x₅).store2 eo hy (sl := ⟨V, none⟩) ((r₂.kp x₃.kp).kp x₄.kp) (SlotOk.shared a₂) (.inl rfl) fun s₆ st₆ f₆ fr => ?_)))
  obtain ⟨_, ea, o1, o2, o3, o4⟩ := own
  cases ea
  have e₆ := fr l _ o3 o4 (x₅.kp _ _ e₁)
  refine wpAny_bind (wpAny_holding (wpAny_bindName (f₆.store eo hx (sl := ⟨.list Vs, some none⟩) (.list e₆ r₁.rs) ⟨l, rfl, o1, o2, o3, o4⟩ (.inr (noOwn_one hone)) fun s₇ st₇ f₇ => wpAny_pure ?_)))
  exact q .next s₇ _ ((((x₁.take hl).trans x₅.step).trans st₆).trans st₇) f₇ rfl
/- x, y = (e, [..]): y gets a new list -/
theorem St.tupNO {elts : List PySem.Expr} {k k2 : Nat} {tpos p2 pos : Pos} {e1 e2 : PySem.Expr} {x y : Str} {Vs : List AV} {V : AV} (h1 : Ev prog w mg mb n env ρ e1 V) (h2 : EvN prog w mg mb n env ρ e2 Vs) (hx : KOk env x) (hy : KOk env y)
    (hone : ρ.all (fun p => p.2.own.isNone || p.1 == y) = true)
    (hw : swappedStores [.Tuple elts k tpos] (.Tuple [e1, e2] k2 p2) env = pure (some [x, y])) (hs : swapsWithSole [.Tuple elts k tpos] (.Tuple [e1, e2] k2 p2) pos.line env = pure false := by rfl) (hst : starEach [e1, e2] env = [(false, eval e1 env), (false, eval e2 env)] := by rfl) :
    St prog w mg mb n env ρ (.Assign [.Tuple elts k tpos] (.Tuple [e1, e2] k2 p2) pos) ((x, ⟨V, none⟩) :: (y, ⟨.list Vs, some none⟩) :: ρ) none := by
  intro A F Z s Q E a eo fm q
  refine Assign_Tuple_swapped (names := [x, y]) (Tuple_ ?_) hs hw
  rw [hst]
  refine Calls.spliced_cons (h1 A _ s _ E a eo fm.rd fun v₁ s₁ x₁ r₁ a₁ => ?_)
  have f₁ := fm.ext x₁
  refine Calls.spliced_cons (h2 A _ s₁ _ E a eo f₁.rd fun l s₂ vs c x₂ hl e₂ r₂ => Calls.spliced_nil ?_)
  have f₂ := f₁.take x₂ hl ⟨_, e₂⟩
  have own := f₁.take_own hl
  have sw : ∀ b ∈ (l :: F) ++ Z, b ∈ F ++ Z ∨ s₁.heap.get? b = none := fun b hb => by
    rcases List.mem_cons.mp hb with rfl | hb
    · exact .inr hl
    · exact .inl hb
  refine wpAny_newObj_type ?_ (by size_fits)
  have x₃ : Ext s₂ { s₂ with heap := s₂.heap.push { cls := .type "tuple", data := .seq ([v₁, .ref l] : List Value).toArray } } := Ext.push _ _
  refine wpAny_unpackItems_tuple (items := #[v₁, .ref l]) a.handled ⟨_, Heap.get?_push_size _ rfl, rfl, _, rfl⟩ fun h' hxx => ?_
  have x₄ : Ext { s₂ with heap := s₂.heap.push { cls := .type "tuple", data := .seq ([v₁, .ref l] : List Value).toArray } } { s₂ with heap := h' } := Ext.butNew hxx
  have x₅ := x₃.trans x₄
  refine wpAny_bind (wpAny_holding (wpAny_bindName ((f₂.ext x₅).store eo hy (sl := ⟨.list Vs, some none⟩) (.list (x₅.kp _ _ e₂) r₂.rs) own (.inr (noOwn_one hone)) fun s₆ st₆ f₆ => ?_)))
  have r₆ : R prog w ((l :: F) ++ Z) s₆.heap v₁ V := (((r₁.swapX sw).kp x₂.kp).kp x₅.kp).kpX (st₆.chg.mono fun b hb => List.mem_append_left _ hb).kp (a₁.swapX sw r₁)
  refine wpAny_bind (wpAny_holding (wpAny_bindName (f₆.store eo hx (sl := ⟨V, none⟩) r₆ (SlotOk.shared (a₁.swapX sw r₁)) (.inl rfl) fun s₇ st₇ f₇ => wpAny_pure ?_)))
  exact q .next s₇ _ ((((x₁.step.trans (x₂.take hl)).trans x₅.step).trans st₆).trans st₇) f₇ rfl
end Mine
end
section
set_option maxRecDepth 100000
set_option maxHeartbeats 4000000
namespace Mine
variable {prog : Program} {w : World} {mg mb : Str → Option Value} {n : Nat} {env : Env} {ρ ρ' ρ'' : PEnv} {X : List Addr} {h : Heap} {v : Value}
variable {F F' F'' Z : List Addr} {s s' s'' : Shared} {r : Option AV}

noncomputable abbrev fdOf (d : DefRec) (pm code doc : Value) : FuncData := Calls.docDef d.name d.params d.body d.scope pm code doc
noncomputable abbrev eOf (d : DefRec) (pm code doc : Value) (L a : Addr) : Env := callEnvC (fdOf d pm code doc) L a
structure DefOk (d : DefRec) (ps : List Str) : Prop where
  nodup : ps.Nodup
  bind : ∀ pm code doc (vs : List Value), vs.length = ps.length → bindArgs (fdOf d pm code doc) ⟨vs, []⟩ = pure (ps.zip vs)
  kinds : ∀ k, ps.all (fun x => d.scope.names.lookup x == some .local || (d.scope.names.lookup x == some .cell && ((cellsFrom k d.scope.names []).lookup x).isSome)) = true
  co : d.scope.isCoroutine = false
  kind : d.scope.kind = .function

theorem bindL_skip {kindOf : Str → Option NameKind} : ∀ (binds : List (Str × Value)) (m : Str → Option Value) (x : Str), x ∉ binds.map (·.1) → bindL kindOf binds m x = m x
  | [], m, x, _ => rfl
  | (y, u) :: r, m, x, hx => by
    rw [List.map_cons, List.mem_cons, not_or] at hx
    unfold bindL
    rw [bindL_skip r _ x hx.2]
    split
    · exact if_neg hx.1
    · rfl
theorem bindL_get {kindOf : Str → Option NameKind} {x : Str} {u : Value} (hk : kindOf x = some .local) : ∀ (binds : List (Str × Value)) (m : Str → Option Value), (binds.map (·.1)).Nodup → (x, u) ∈ binds → bindL kindOf binds m x = some u
  | (y, u') :: r, m, hn, hm => by
    rw [List.map_cons, List.nodup_cons] at hn
    unfold bindL
    rcases List.mem_cons.mp hm with e | hm
    · cases e
      rw [bindL_skip r _ x hn.1, if_pos hk]; exact if_pos rfl
    · exact bindL_get hk r _ hn.2 hm
theorem bindC_skip {kindOf : Str → Option NameKind} : ∀ (binds : List (Str × Value)) (m : Str → Option Value) (x : Str), x ∉ binds.map (·.1) → bindC kindOf binds m x = m x
  | [], m, x, _ => rfl
  | (y, u) :: r, m, x, hx => by
    rw [List.map_cons, List.mem_cons, not_or] at hx
    unfold bindC
    rw [bindC_skip r _ x hx.2]
    split
    · rfl
    · exact if_neg hx.1
theorem bindC_get {kindOf : Str → Option NameKind} {x : Str} {u : Value} (hk : kindOf x ≠ some .local) : ∀ (binds : List (Str × Value)) (m : Str → Option Value), (binds.map (·.1)).Nodup → (x, u) ∈ binds → bindC kindOf binds m x = some u
  | (y, u') :: r, m, hn, hm => by
    rw [List.map_cons, List.nodup_cons] at hn
    unfold bindC
    rcases List.mem_cons.mp hm with e | hm
    · cases e
      rw [bindC_skip r _ x hn.1, if_neg hk]; exact if_pos rfl
    · exact bindC_get hk r _ hn.2 hm

noncomputable def cellAddrs (cs : List (Str × Addr)) : List Addr := cs.filterMap fun p => cs.lookup p.1
theorem mem_cellAddrs {cs : List (Str × Addr)} {c : Addr} : c ∈ cellAddrs cs ↔ ∃ y, cs.lookup y = some c := by
  constructor
  · intro h
    obtain ⟨p, _, e⟩ := List.mem_filterMap.mp h
    exact ⟨p.1, e⟩
  · rintro ⟨y, e⟩
    exact List.mem_filterMap.mpr ⟨(y, c), mem_of_lookup e, e⟩
noncomputable def ParOk (prog : Program) (w : World) (O X : List Addr) (h : Heap) (sl : Sl) (u : Value) : Prop :=
  R prog w (O ++ X) h u sl.val ∧ match sl.own with | none => Av (O ++ X) u | some b => ∃ c, u = .ref c ∧ c ∈ O ∧ b = some c
/- the frame at a call's start: own parameters at the addresses of O -/
theorem Fm.enter {d : DefRec} {ps : List Str} {pm code doc : Value} {a : Addr} {O : List Addr} {vs : List Value} {sls : List Sl} {s₁ : Shared} (ok : DefOk d ps) (hlen : vs.length = ps.length)
    (base : ∃ h₀, Gl prog mg mb h₀ ∧ Kp h₀ s.heap ∧ ∀ b ∈ O, h₀.get? b = none) (lv : Live X s.heap) (lO : Live O s.heap)
    (hv : ∀ (i : Nat) (sl : Sl) (u : Value), sls[i]? = some sl → vs[i]? = some u → ParOk prog w O X s.heap sl u)
    (hone : ∀ (i j : Nat) (sl sl' : Sl), sls[i]? = some sl → sls[j]? = some sl' → sl.own ≠ none → sl'.own ≠ none → i = j)
    (x : InCallC s (eOf d pm code doc s.heap.objs.size a).locals (bindL (eOf d pm code doc s.heap.objs.size a).kindOf (ps.zip vs) fun _ => none) (eOf d pm code doc s.heap.objs.size a).cells (bindC (eOf d pm code doc s.heap.objs.size a).kindOf (ps.zip vs) fun _ => none) s₁) :
    Fm prog w mg mb (s.heap.objs.size :: (cellAddrs (eOf d pm code doc s.heap.objs.size a).cells ++ O)) X (eOf d pm code doc s.heap.objs.size a) (ps.zip sls) s₁ := by
  have keep := x.toInCall.keep
  generalize hE : eOf d pm code doc s.heap.objs.size a = ev at x
  have hL : ev.locals = s.heap.objs.size := by rw [← hE]; rfl
  have hcl : ev.cells = cellsFrom (s.heap.objs.size + 1) d.scope.names [] := by rw [← hE]; rfl
  have hkd : ∀ y, ev.kindOf y = d.scope.names.lookup y := fun y => by rw [← hE]; rfl
  have hLn : s.heap.get? s.heap.objs.size = none := get?_size _
  have cellNew : ∀ y c, ev.cells.lookup y = some c → s.heap.get? c = none ∧ s.heap.objs.size < c := fun y c hc => by
    have := x.above y c (mem_of_lookup hc)
    rw [hL] at this
    exact ⟨get?_none (Nat.le_of_lt this), this⟩
  have newF : ∀ b ∈ s.heap.objs.size :: (cellAddrs ev.cells ++ O), s.heap.get? b = none ∨ b ∈ O := fun b hb => by
    rcases List.mem_cons.mp hb with rfl | hb
    · exact .inl hLn
    · rcases List.mem_append.mp hb with hb | hb
      · obtain ⟨y, hy⟩ := mem_cellAddrs.mp hb
        exact .inl (cellNew y b hy).1
      · exact .inr hb
  have hkinds := ok.kinds (s.heap.objs.size + 1)
  have keys : ((ps.zip vs).map (·.1)) = ps := List.map_fst_zip (by rw [hlen]; exact Nat.le_refl _)
  have hnd : ((ps.zip vs).map (·.1)).Nodup := by rw [keys]; exact ok.nodup
  have lookZ : ∀ y sl, (ps.zip sls).lookup y = some sl → ∃ i : Nat, ps[i]? = some y ∧ sls[i]? = some sl := fun y sl e => by
    have hm := mem_of_lookup e
    obtain ⟨i, hi⟩ := List.mem_iff_getElem?.mp hm
    rw [List.getElem?_zip_eq_some] at hi
    exact ⟨i, hi.1, hi.2⟩
  have sw : ∀ b ∈ (s.heap.objs.size :: (cellAddrs ev.cells ++ O)) ++ X, b ∈ O ++ X ∨ s.heap.get? b = none := fun b hb => by
    rcases List.mem_append.mp hb with hb | hb
    · rcases newF b hb with h1 | h1
      · exact .inr h1
      · exact .inl (List.mem_append_left _ h1)
    · exact .inl (List.mem_append_right _ hb)
  refine ⟨?_, fun b hb => ?_, ⟨_, x.toInCall.ns⟩, ?_, fun y c e => ?_, fun y z c e e' => ?_, fun y sl e => ?_, fun y z sl sl' e e' o o' => ?_⟩
  · obtain ⟨h₀, g, k, z⟩ := base
    refine ⟨h₀, g, k.trans keep, fun b hb => ?_⟩
    rcases newF b hb with h1 | h1
    · cases e0 : h₀.get? b with
      | none => rfl
      | some o => rw [k b o e0] at h1; cases h1
    · exact z b h1
  · rcases List.mem_append.mp hb with hb | hb
    · rcases List.mem_cons.mp hb with rfl | hb
      · obtain ⟨o, _, _, e, _⟩ := id x.toInCall.ns; rw [hL] at e; exact ⟨o, e⟩
      · rcases List.mem_append.mp hb with hb | hb
        · obtain ⟨y, hy⟩ := mem_cellAddrs.mp hb
          obtain ⟨o, e, _⟩ := x.cell y b hy; exact ⟨o, e⟩
        · obtain ⟨o, e⟩ := lO b hb; exact ⟨o, keep b o e⟩
    · obtain ⟨o, e⟩ := lv b hb; exact ⟨o, keep b o e⟩
  · rw [hL]; exact List.mem_cons_self ..
  · exact ⟨List.mem_cons_of_mem _ (List.mem_append_left _ (mem_cellAddrs.mpr ⟨y, e⟩)), by rw [hL]; exact Nat.ne_of_gt (cellNew y c e).2, _, x.cell y c e⟩
  · exact name_of_addr x.apart (mem_of_lookup e) (mem_of_lookup e')
  · obtain ⟨i, h1, h2⟩ := lookZ y sl e
    have hi : i < vs.length := by rw [hlen]; exact (List.getElem?_eq_some_iff.mp h1).1
    have hu : vs[i]? = some vs[i] := List.getElem?_eq_getElem hi
    obtain ⟨r1, r2⟩ := hv i sl _ h2 hu
    have hmem : (y, vs[i]) ∈ ps.zip vs := List.mem_iff_getElem?.mpr ⟨i, by rw [List.getElem?_zip_eq_some]; exact ⟨h1, hu⟩⟩
    refine ⟨vs[i], ?_, (r1.swapX sw).kp keep, ?_⟩
    · have hk := List.all_eq_true.mp hkinds y (List.mem_of_getElem? h1)
      rw [Bool.or_eq_true, Bool.and_eq_true] at hk
      rcases hk with hk | ⟨hk, hc⟩
      · have hk' : ev.kindOf y = some .local := by rw [hkd]; exact beq_iff_eq.mp hk
        exact .loc _ hk' x.toInCall.ns (bindL_get hk' _ _ hnd hmem)
      · have hk' : ev.kindOf y = some .cell := by rw [hkd]; exact beq_iff_eq.mp hk
        rw [← hcl] at hc
        obtain ⟨c, hc⟩ := Option.isSome_iff_exists.mp hc
        refine .cell c hk' hc ?_
        have := x.cell y c hc
        rwa [bindC_get (by rw [hk']; decide) _ _ hnd hmem] at this
    · unfold SlotOk
      cases ho : sl.own with
      | none => rw [ho] at r2; exact r2.swapX sw r1
      | some b =>
        rw [ho] at r2
        obtain ⟨c, ec, hc, rfl⟩ := r2
        obtain ⟨o, eo⟩ := lO c hc
        refine ⟨c, ec, List.mem_cons_of_mem _ (List.mem_append_right _ hc), rfl, fun q => ?_, fun z d' e' q => ?_⟩
        · rw [q, hL, hLn] at eo; cases eo
        · rw [q, (cellNew z d' e').1] at eo; cases eo
  · obtain ⟨i, h1, h2⟩ := lookZ y sl e
    obtain ⟨j, h3, h4⟩ := lookZ z sl' e'
    have := hone i j sl sl' h2 h4 o o'
    subst this
    rw [h1] at h3; exact Option.some.inj h3
theorem AOk.deeper {A : Around} (a : AOk (n + 1) A) (e : Env) : AOk n (A.deeper e) := ⟨a.handled, by have := a.depth; show A.depth + 1 + n < _; omega, by have := a.units; show A.units + 3 + 20 * n + 400 < _; omega⟩
theorem eOf_ok {d : DefRec} {ps : List Str} (ok : DefOk d ps) {pm code doc : Value} {L a : Addr} : EnvOk (eOf d pm code doc L a) := ⟨ok.kind, rfl, rfl⟩
/- a def's contract from its body -/
theorem call_body {d : DefRec} (hd : d ∈ defs prog) {ps : List Str} (ok : DefOk d ps) (hgen : d.scope.isGenerator = false) {A : Around} (ao : AOk (n + 1) A) {O : List Addr} {vs : List Value} {sls : List Sl} {Q E : Value → Shared → Prop} {ad : Addr} (hm : mg d.name = some (.ref ad))
    (gl : Gl prog mg mb s.heap) (base : ∃ h₀, Gl prog mg mb h₀ ∧ Kp h₀ s.heap ∧ ∀ b ∈ O, h₀.get? b = none) (lv : Live X s.heap) (lO : Live O s.heap) (hlen : vs.length = ps.length)
    (hv : ∀ (i : Nat) (sl : Sl) (u : Value), sls[i]? = some sl → vs[i]? = some u → ParOk prog w O X s.heap sl u)
    (hone : ∀ (i j : Nat) (sl sl' : Sl), sls[i]? = some sl → sls[j]? = some sl' → sl.own ≠ none → sl'.own ≠ none → i = j) {V : AV}
    (body : ∀ pm code doc L a, ∃ ρ', Sx prog w mg mb n (eOf d pm code doc L a) (ps.zip sls) d.body ρ' (some V) ∧
      ∀ v s' F' pm code doc L a, Chg O s s' → Fm prog w mg mb F' X (eOf d pm code doc L a) ρ' s' → R prog w X s'.heap v V → Av X v → Q v s') :
    (∃ o fd, s.heap.get? ad = some o ∧ o.data = .func fd) ∧ wpAny (model prog w) A (call (.ref ad) vs) Q E s := by
  obtain ⟨ad', o, pm, code, doc, h1, h2, h3, h4⟩ := gl.fn d hd
  rw [hm] at h1; cases h1
  refine ⟨⟨o, _, h2, h3⟩, wpAny_call ?_⟩
  refine codeAny_call_cells (fd := fdOf d pm code doc) ao.room h2 h3 gl.lim h4 rfl (ok.bind pm code doc vs hlen) rfl (fun x hx => ?_) (fun s₁ x => ?_) ok.co hgen ok.kind
  · have hx' : x.1 ∈ ps := by
      have := List.mem_map_of_mem (f := Prod.fst) hx
      rwa [List.map_fst_zip (by rw [hlen]; exact Nat.le_refl _)] at this
    have hk := List.all_eq_true.mp (ok.kinds (s.heap.objs.size + 1)) x.1 hx'
    rw [Bool.or_eq_true, Bool.and_eq_true] at hk
    rcases hk with hk | ⟨hk, hc⟩
    · exact .inl (beq_iff_eq.mp hk)
    · exact .inr ⟨beq_iff_eq.mp hk, hc⟩
  · have fm := Fm.enter (prog := prog) (w := w) (mg := mg) (mb := mb) (pm := pm) (code := code) (doc := doc) (a := ad) ok hlen base lv lO hv hone x
    obtain ⟨ρ', hB, fin⟩ := body pm code doc s.heap.objs.size ad
    refine hB _ _ X s₁ _ _ (ao.deeper _) (eOf_ok ok) fm fun f s' F' st fm' fl => ?_
    obtain ⟨v, rfl, hr, ha⟩ := fl
    obtain ⟨h₁, tk, e₁⟩ := x.toInCall.same
    have x₁ : Ext s s₁ := by rw [e₁]; exact Ext.heap (fun b o e => by have := x.toInCall.keep b o e; rw [e₁] at this; exact this) tk
    refine fin v s' F' pm code doc s.heap.objs.size ad ((x₁.chg.trans st.chg).drop fun b hb => ?_) fm' (hr.swapX fun b hb => .inl (List.mem_append_right _ hb)) ha
    rcases List.mem_cons.mp hb with rfl | hb
    · exact .inr (get?_size _)
    · rcases List.mem_append.mp hb with hb | hb
      · obtain ⟨y, hy⟩ := mem_cellAddrs.mp hb
        have := x.above y b (mem_of_lookup hy)
        exact .inr (get?_none (Nat.le_of_lt this))
      · exact .inl hb
noncomputable def sls0 (Vs : List AV) : List Sl := Vs.map fun V => ⟨V, none⟩
theorem Spec.intro {d : DefRec} {f : Str} (hd : d ∈ defs prog) (hf : d.name = f) {ps : List Str} (ok : DefOk d ps) (hgen : d.scope.isGenerator = false) {Vs : List AV} {V : AV} (hl : Vs.length = ps.length)
    (body : ∀ pm code doc L a, ∃ ρ', Sx prog w mg mb n (eOf d pm code doc L a) (ps.zip (sls0 Vs)) d.body ρ' (some V)) : Spec prog w mg mb (n + 1) f Vs V := by
  intro A X s Q E vs ad hm ao gl lv rs q
  subst hf
  have hlen : vs.length = ps.length := rs.length.trans hl
  refine call_body (V := V) (O := []) hd ok hgen ao hm gl ⟨s.heap, gl, .refl _, fun _ h => nomatch h⟩ lv (fun _ h => nomatch h) hlen (sls := sls0 Vs) (fun i sl u h1 h2 => ?_) (fun i j sl sl' h1 _ o _ => ?_) fun pm code doc L a => ?_
  · obtain ⟨V', hV', rfl⟩ : ∃ V', Vs[i]? = some V' ∧ (⟨V', none⟩ : Sl) = sl := by simpa [sls0] using h1
    obtain ⟨u', hu', hr, ha⟩ := rs.get hV'
    rw [h2] at hu'; cases hu'
    exact ⟨hr, ha⟩
  · obtain ⟨V', hV', rfl⟩ : ∃ V', Vs[i]? = some V' ∧ (⟨V', none⟩ : Sl) = sl := by simpa [sls0] using h1
    exact absurd rfl o
  · obtain ⟨ρ', hB⟩ := body pm code doc L a
    refine ⟨ρ', hB, fun v s' F' _ _ _ _ _ c fm hr ha => q v s' (c.ext fun _ h => nomatch h) hr ha⟩
end Mine
end
section
set_option maxRecDepth 100000
set_option maxHeartbeats 4000000
namespace Mine
open PySem.Builtin PySem.Builtin.Str PySem.StrLaws

noncomputable def hitT (x y : Tx) (hi i : Nat) : Bool := Nat.ble (i + y.length) hi && ((x.drop i).take y.length == y)
noncomputable def occF (x y : Tx) (hi limit : Nat) : List Nat → List Nat → Nat → List Nat
  | [], acc, _ => acc
  | i :: l, acc, free => if (acc.length < limit ∧ free ≤ i) ∧ hitT x y hi i = true then occF x y hi limit l (acc ++ [i]) (i + y.length) else occF x y hi limit l acc free
theorem S_toList (x : Tx) : (S x).cps.toList = x := by simp [S]
theorem hit_iff (x y : Tx) (hi i : Nat) : hitT x y hi i = true ↔ i + (S y).length ≤ hi ∧ subAt (S x) (S y) i = true := by
  rw [subAt_eq, S_toList, S_toList, S_len]
  unfold hitT
  rw [Bool.and_eq_true, Nat.ble_eq]
theorem occF_eq (x y : Tx) (hi limit : Nat) : ∀ (l : List Nat) (st : Array Nat × Nat), (forIn l st (occBody (S x) (S y) hi limit)).run.fst.toList = occF x y hi limit l st.1.toList st.2
  | [], st => rfl
  | i :: l, st => by
    rw [List.forIn_cons]
    unfold occBody occF
    have e : (((st.fst.size < limit ∧ st.snd ≤ i) ∧ i + (S y).length ≤ hi) ∧ subAt (S x) (S y) i = true) ↔ ((st.fst.toList.length < limit ∧ st.snd ≤ i) ∧ hitT x y hi i = true) := by
      rw [hit_iff, Array.length_toList]
      constructor
      · exact fun h => ⟨h.1.1, h.1.2, h.2⟩
      · exact fun h => ⟨⟨h.1, h.2.1⟩, h.2.2⟩
    by_cases hc : ((st.fst.toList.length < limit ∧ st.snd ≤ i) ∧ hitT x y hi i = true)
    · rw [if_pos (e.mpr hc), if_pos hc]
      have := occF_eq x y hi limit l (st.fst.push i, i + (S y).length)
      rw [Array.toList_push, S_len] at this
      rw [S_len]
      exact this
    · rw [if_neg (fun h => hc (e.mp h)), if_neg hc]
      exact occF_eq x y hi limit l st
theorem occ_S (x y : Tx) (lo hi limit : Nat) : occurrences (S x) (S y) lo hi limit = occF x y hi limit (List.range' lo (hi + 1 - lo)) [] lo := by
  rw [occ_eq, occF_eq]
noncomputable def findT (x y : Tx) (lo hi : Nat) : Option Nat := (List.range' lo (hi + 1 - lo)).find? (hitT x y hi)
theorem occF_full (x y : Tx) (hi : Nat) : ∀ (l acc : List Nat) (free : Nat), acc ≠ [] → occF x y hi 1 l acc free = acc
  | [], _, _, _ => rfl
  | i :: l, acc, free, h => by
    unfold occF
    rw [if_neg (fun hc => by have := hc.1.1; cases acc with | nil => exact h rfl | cons a r => simp at this)]
    exact occF_full x y hi l acc free h
theorem occF_one (x y : Tx) (hi : Nat) : ∀ (l : List Nat) (free : Nat), (∀ i ∈ l, free ≤ i) → occF x y hi 1 l [] free = (l.find? (hitT x y hi)).toList
  | [], _, _ => rfl
  | i :: l, free, h => by
    unfold occF
    rw [List.find?_cons]
    cases hc : hitT x y hi i with
    | true =>
      rw [if_pos ⟨⟨by simp, h i (List.mem_cons_self ..)⟩, rfl⟩]
      exact occF_full x y hi l _ _ (by simp)
    | false =>
      rw [if_neg (fun q => by cases q.2)]
      exact occF_one x y hi l free fun j hj => h j (List.mem_cons_of_mem _ hj)
theorem occ_one (x y : Tx) (lo hi : Nat) : occurrences (S x) (S y) lo hi 1 = (findT x y lo hi).toList := by
  rw [occ_S]
  exact occF_one x y hi _ lo fun i hi' => (List.mem_range'_1.mp hi').1
noncomputable def optI : Option Nat → Int | some i => (i : Int) | none => -1
theorem find4_S (x y : Tx) (i j : Nat) (hj : j ≤ x.length) : find4 (S x) (S y) (i : Int) (j : Int) = optI (findT x y i j) := by
  unfold find4
  have e1 : ∀ n k : Nat, fromIndex n (k : Int) = k := fun n k => by unfold fromIndex; rw [if_neg (by omega)]; omega
  rw [e1, e1, S_len, Nat.min_eq_left hj, occ_one]
  cases findT x y i j <;> rfl
theorem find_S (x y : Tx) : Txt.find (S x) (S y) = optI (findT x y 0 x.length) := by
  unfold Txt.find
  rw [S_len, occ_one]
  cases findT x y 0 x.length <;> rfl
theorem contains_S (x y : Tx) : Txt.contains (S x) (S y) = (findT x y 0 x.length).isSome := by
  unfold Txt.contains
  rw [S_len, occ_one]
  cases findT x y 0 x.length <;> rfl
noncomputable def preT (x y : Tx) : Bool := x.take y.length == y
noncomputable def sufT (x y : Tx) : Bool := Nat.ble y.length x.length && (x.drop (x.length - y.length) == y)
theorem startswith_S (x y : Tx) : Txt.startswith (S x) (S y) = preT x y := by
  unfold Txt.startswith preT
  rw [subAt_eq, S_toList, S_toList, S_len, S_len, List.drop_zero, Nat.zero_add]
  by_cases h : y.length ≤ x.length
  · rw [decide_eq_true h, Bool.true_and]
  · rw [decide_eq_false h, Bool.false_and]
    symm
    rw [beq_eq_false_iff_ne]
    intro e
    have := congrArg List.length e
    rw [List.length_take] at this; omega
theorem endswith_S (x y : Tx) : Txt.endswith (S x) (S y) = sufT x y := by
  unfold Txt.endswith sufT
  rw [subAt_eq, S_toList, S_toList, S_len, S_len, Nat.zero_add]
  by_cases h : y.length ≤ x.length
  · rw [decide_eq_true h, Bool.true_and, Nat.ble_eq_true_of_le h, Bool.true_and]
    have : (x.drop (x.length - y.length)).take y.length = x.drop (x.length - y.length) := List.take_of_length_le (by rw [List.length_drop]; omega)
    rw [this]
  · have h2 : Nat.ble y.length x.length = false := by rw [Bool.eq_false_iff]; intro q; exact h (Nat.le_of_ble_eq_true q)
    rw [decide_eq_false h, Bool.false_and, h2, Bool.false_and]

/- splitting at three dots -/
noncomputable abbrev dots : Tx := [46, 46, 46]
noncomputable def splitD : Tx → Tx → List Tx
  | 46 :: 46 :: 46 :: r, acc => acc.reverse :: splitD r []
  | c :: r, acc => splitD r (c :: acc)
  | [], acc => [acc.reverse]
noncomputable def occU (x y : Tx) (hi : Nat) : List Nat → Nat → List Nat
  | [], _ => []
  | i :: l, free => if free ≤ i ∧ hitT x y hi i = true then i :: occU x y hi l (i + y.length) else occU x y hi l free
theorem occF_U (x y : Tx) (hi limit : Nat) : ∀ (l acc : List Nat) (free : Nat), acc.length + l.length ≤ limit → occF x y hi limit l acc free = acc ++ occU x y hi l free
  | [], acc, _, _ => by simp [occF, occU]
  | i :: l, acc, free, h => by
    unfold occF occU
    rw [List.length_cons] at h
    by_cases hc : free ≤ i ∧ hitT x y hi i = true
    · rw [if_pos ⟨⟨by omega, hc.1⟩, hc.2⟩, if_pos hc, occF_U x y hi limit l _ _ (by rw [List.length_append, List.length_singleton]; omega)]
      simp
    · rw [if_neg (fun q => hc ⟨q.1.2, q.2⟩), if_neg hc, occF_U x y hi limit l _ _ (by omega)]
theorem occU_skip (x y : Tx) (hi : Nat) {i : Nat} {l : List Nat} {free : Nat} (h : i < free) : occU x y hi (i :: l) free = occU x y hi l free := by
  conv => lhs; unfold occU
  rw [if_neg (fun q => by omega)]
theorem parts_D (X : Tx) : ∀ (k : Nat) (x : Tx) (i a : Nat) (acc : Tx), x.length ≤ k → X.drop i = x → i + x.length = X.length → a ≤ i → (X.drop a).take (i - a) = acc.reverse →
    partsFrom (S X) 3 a (occU X dots X.length (List.range' i (X.length + 1 - i)) a) = (splitD x acc).map S := by
  intro k
  induction k with
  | zero =>
    intro x i a acc hk hd hl ha hacc
    have hx : x = [] := List.length_eq_zero_iff.mp (by omega)
    subst hx
    have hi : i = X.length := by simpa using hl
    have e : X.length + 1 - i = 1 := by omega
    rw [e]
    show partsFrom (S X) 3 a (occU X dots X.length [i] a) = _
    have hn : hitT X dots X.length i = false := by
      unfold hitT
      rw [Bool.and_eq_false_iff]
      left
      rw [Bool.eq_false_iff]
      intro q
      have := Nat.le_of_ble_eq_true q
      simp at this; omega
    unfold occU
    rw [if_neg (fun q => by rw [hn] at q; cases q.2)]
    show [strSub (S X) a (S X).length] = [S acc.reverse]
    congr 1
    rw [← hacc, S_len]
    unfold strSub S
    simp [hi]
  | succ k ih =>
    intro x i a acc hk hd hl ha hacc
    cases x with
    | nil => exact ih [] i a acc (by simp) hd hl ha hacc
    | cons c r =>
      have hlt : i < X.length := by rw [List.length_cons] at hl; omega
      have e : X.length + 1 - i = (X.length + 1 - (i + 1)) + 1 := by omega
      have hd1 : X.drop (i + 1) = r := by
        have := congrArg (List.drop 1) hd
        rw [List.drop_drop] at this; simpa using this
      have hXi : X[i]? = some c := by
        have : X[i]? = (X.drop i)[0]? := by rw [List.getElem?_drop]; rfl
        rw [this, hd]; rfl
      have step : ∀ (hn : hitT X dots X.length i = false), partsFrom (S X) 3 a (occU X dots X.length (List.range' i (X.length + 1 - i)) a) = (splitD r (c :: acc)).map S := by
        intro hn
        rw [e, List.range'_succ]
        unfold occU
        rw [if_neg (fun q => by rw [hn] at q; cases q.2)]
        refine ih r (i + 1) a (c :: acc) (by rw [List.length_cons] at hk; omega) hd1 (by rw [List.length_cons] at hl; omega) (by omega) ?_
        have e2 : i + 1 - a = (i - a) + 1 := by omega
        rw [e2, List.take_add_one, hacc, List.reverse_cons, List.getElem?_drop]
        have e3 : a + (i - a) = i := by omega
        rw [e3, hXi]; rfl
      have hitv : hitT X dots X.length i = (Nat.ble (i + 3) X.length && ((c :: r).take 3 == dots)) := by
        unfold hitT
        rw [hd]; rfl
      by_cases hdots : ∃ t, c :: r = 46 :: 46 :: 46 :: t
      · obtain ⟨t, ht⟩ := hdots
        rw [ht]
        have hX3 : i + 3 ≤ X.length := by
          have := congrArg List.length ht
          simp at this; rw [List.length_cons] at hl; omega
        have hh : hitT X dots X.length i = true := by
          rw [hitv, ht, Nat.ble_eq_true_of_le hX3]; rfl
        have e4 : X.length + 1 - i = (((X.length + 1 - (i + 3)) + 1) + 1) + 1 := by omega
        rw [e4, List.range'_succ, List.range'_succ, List.range'_succ]
        conv => lhs; unfold occU
        rw [if_pos ⟨ha, hh⟩]
        show strSub (S X) a i :: partsFrom (S X) 3 (i + 3) (occU X dots X.length ((i + 1) :: (i + 1 + 1) :: List.range' (i + 1 + 1 + 1) (X.length + 1 - (i + 3))) (i + 3)) = _
        rw [occU_skip _ _ _ (by omega), occU_skip _ _ _ (by omega)]
        have hd3 : X.drop (i + 3) = t := by
          have := congrArg (List.drop 3) (hd.trans ht)
          rw [List.drop_drop] at this; simpa using this
        have := ih t (i + 3) (i + 3) [] (by have := congrArg List.length ht; simp at this; rw [List.length_cons] at hk; omega) hd3 (by have := congrArg List.length ht; simp at this; rw [List.length_cons] at hl; omega) (Nat.le_refl _) (by simp)
        rw [this]
        show _ = (acc.reverse :: splitD t []).map S
        rw [List.map_cons]
        congr 1
        rw [← hacc]
        unfold strSub S
        simp
      · have hn : hitT X dots X.length i = false := by
          rw [hitv, Bool.and_eq_false_iff]
          right
          rw [beq_eq_false_iff_ne]
          intro q
          refine hdots ?_
          match r, q with
          | [], q => simp at q
          | [b], q => simp at q
          | b :: d :: t, q =>
            simp at q
            exact ⟨t, by rw [q.1, q.2.1, q.2.2]⟩
        rw [step hn]
        have : splitD (c :: r) acc = splitD r (c :: acc) := by
          rw [splitD]
          intro t h
          exact fun h2 => hdots ⟨t, by rw [h, h2]⟩
        rw [this]
end Mine
end
section
set_option maxRecDepth 100000
set_option maxHeartbeats 4000000
namespace Mine
open PySem.Builtin PySem.Builtin.Str PySem.StrLaws

theorem occU_nil (x y : Tx) (hi : Nat) : ∀ (l : List Nat) (free : Nat), (∀ i ∈ l, free ≤ i) → (occU x y hi l free = [] ↔ ∀ i ∈ l, hitT x y hi i = false)
  | [], _, _ => by simp [occU]
  | i :: l, free, h => by
    unfold occU
    cases hc : hitT x y hi i with
    | true =>
      rw [if_pos ⟨h i (List.mem_cons_self ..), rfl⟩]
      constructor
      · intro q; cases q
      · intro q; rw [q i (List.mem_cons_self ..)] at hc; cases hc
    | false =>
      rw [if_neg (fun q => by cases q.2), occU_nil x y hi l free fun j hj => h j (List.mem_cons_of_mem _ hj)]
      constructor
      · intro q j hj
        rcases List.mem_cons.mp hj with rfl | hj
        · exact hc
        · exact q j hj
      · exact fun q j hj => q j (List.mem_cons_of_mem _ hj)
noncomputable abbrev cutsD (x : Tx) : List Nat := occU x dots x.length (List.range' 0 (x.length + 1)) 0
theorem cuts_eq (x : Tx) : occurrences (S x) (S dots) 0 (S x).length ((S x).length + 1) = cutsD x := by
  rw [occ_S, S_len, occF_U _ _ _ _ _ _ _ (by simp)]
  rfl
theorem parts_eq (x : Tx) : partsFrom (S x) 3 0 (cutsD x) = (splitD x []).map S := parts_D x x.length x 0 0 [] (Nat.le_refl _) rfl (by omega) (Nat.le_refl _) rfl
theorem strSub_all (x : Tx) : strSub (S x) 0 (S x).length = S x := by unfold strSub; simp [S, Str.length]
theorem split_S (x : Tx) : Txt.split (S x) (S dots) = (splitD x []).map S := by
  have one : cutsD x = [] → [S x] = (splitD x []).map S := fun h => by
    have := parts_eq x
    rw [h] at this
    rw [← this]
    show [S x] = [strSub (S x) 0 (S x).length]
    rw [strSub_all]
  unfold Txt.split
  have hk : ¬ (Str.strKind (S x) < Str.strKind (S dots)) := by
    have : Str.strKind (S dots) = 1 := by decide +kernel
    rw [this]
    unfold Str.strKind
    split
    · omega
    · split <;> omega
  rw [decide_eq_false hk, Bool.or_false]
  by_cases hl : (S x).length < (S dots).length
  · rw [if_pos (decide_eq_true hl)]
    refine one ((occU_nil x dots x.length _ 0 (fun _ _ => Nat.zero_le _)).mpr fun i _ => ?_)
    unfold hitT
    rw [Bool.and_eq_false_iff]
    left
    rw [Bool.eq_false_iff]
    intro q
    have := Nat.le_of_ble_eq_true q
    rw [S_len, S_len] at hl
    simp at this hl; omega
  · rw [if_neg (by simpa using hl), cuts_eq]
    cases hc : cutsD x with
    | nil => exact (if_pos rfl).trans (one hc)
    | cons c r =>
      rw [if_neg (by simp), partsBetween_eq, ← hc, S_len]
      exact parts_eq x
theorem partsFrom_length (x : Str) (k : Nat) : ∀ (cuts : List Nat) (a : Nat), (partsFrom x k a cuts).length = cuts.length + 1
  | [], _ => rfl
  | c :: r, a => by show (_ :: _).length = _; rw [List.length_cons, partsFrom_length x k r]; rfl
theorem splitD_length (x : Tx) : (splitD x []).length = (cutsD x).length + 1 := by
  have := congrArg List.length (parts_eq x)
  rw [partsFrom_length, List.length_map] at this; exact this.symm
theorem contains_dots (x : Tx) : Txt.contains (S x) (S dots) = decide (2 ≤ (splitD x []).length) := by
  rw [contains_S, splitD_length, Bool.eq_iff_iff, decide_eq_true_eq]
  have key := occU_nil x dots x.length (List.range' 0 (x.length + 1)) 0 fun _ _ => Nat.zero_le _
  unfold findT
  rw [Nat.sub_zero, List.find?_isSome]
  constructor
  · rintro ⟨i, h1, h2⟩
    cases hc : cutsD x with
    | nil => rw [key.mp hc i h1] at h2; cases h2
    | cons _ _ => rw [List.length_cons]; omega
  · intro h
    refine Classical.byContradiction fun hn => ?_
    have : cutsD x = [] := key.mpr fun i hi => by
      cases hh : hitT x dots x.length i with
      | false => rfl
      | true => exact absurd ⟨i, hi, hh⟩ hn
    rw [this] at h; simp at h
noncomputable def joinT (sep : Tx) : List Tx → Tx
  | [] => []
  | [x] => x
  | x :: y :: r => x ++ sep ++ joinT sep (y :: r)
theorem join_S (sep : Tx) (xs : List Tx) : Txt.join (S sep) (xs.map S) = S (joinT sep xs) := by
  show glued (S sep) (xs.map S) = _
  rw [glued_eq_join]
  induction xs with
  | nil => rfl
  | cons x r ih =>
    cases r with
    | nil => rfl
    | cons y r =>
      show S x ++ S sep ++ Str.join (S sep) ((y :: r).map S) = _
      rw [ih, S_append, S_append]; rfl
theorem joinOk_S (sep : Tx) (xs : List Tx) (h : (xs.map List.length).sum + xs.length * sep.length ≤ 1000000) : JoinOk (S sep) (xs.map S) = true := by
  unfold JoinOk
  rw [joinTotal, Bool.not_eq_true']
  have e : ((xs.map S).map (·.length)) = xs.map List.length := by
    rw [List.map_map]; exact List.map_congr_left fun x _ => S_len x
  rw [e, List.length_map, S_len]
  unfold tooLong
  rw [decide_eq_false_iff_not, sizeLine_eq]; omega
noncomputable def mulT (x : Tx) (n : Int) : Tx := (List.replicate n.toNat x).flatten
theorem fold_S (x : Tx) : ∀ (k : Nat) (acc : Array Nat), ((List.replicate k (S x).cps).foldl (· ++ ·) acc) = acc ++ ((List.replicate k x).flatten).toArray
  | 0, acc => by simp
  | k + 1, acc => by
    rw [List.replicate_succ, List.foldl_cons, fold_S x k, List.replicate_succ, List.flatten_cons]
    simp [S]
theorem mul_S (x : Tx) (n : Int) : Txt.mul (S x) n = S (mulT x n) := by
  unfold Txt.mul mulT
  by_cases h : n < 1
  · rw [if_pos h]
    have : n.toNat = 0 := by omega
    rw [this]; rfl
  · rw [if_neg h]
    split
    · rename_i hc
      rcases Bool.or_eq_true _ _ ▸ hc with h1 | h1
      · have : n = 1 := by simpa using h1
        subst this; simp
      · have : x = [] := by rw [S_len] at h1; exact List.length_eq_zero_iff.mp (by simpa using h1)
        subst this; simp
    · rw [fold_S]; simp [S]
end Mine
end
section
set_option maxRecDepth 100000
set_option maxHeartbeats 4000000
namespace Mine
open PySem.Builtin PySem.Builtin.Str
variable {prog : Program} {w : World} {mg mb : Str → Option Value} {n : Nat} {env : Env} {ρ ρ' ρ'' : PEnv} {X : List Addr} {h : Heap} {v : Value}

/- equality of lists -/
noncomputable def zipAll {α β : Type} (f : α → β → Bool) : List α → List β → Bool
  | [], [] => true
  | a :: l, b :: m => f a b && zipAll f l m
  | _, _ => false
theorem zipAll_len {α β : Type} (f : α → β → Bool) : ∀ (l : List α) (m : List β), l.length ≠ m.length → zipAll f l m = false
  | [], [], h => absurd rfl h
  | [], _ :: _, _ => rfl
  | _ :: _, [], _ => rfl
  | a :: l, b :: m, h => by
    unfold zipAll
    rw [zipAll_len f l m (fun e => h (by rw [List.length_cons, List.length_cons, e])), Bool.and_false]
noncomputable def hitAt {α β : Type} (f : α → β → Bool) (l : List α) (m : List β) (j : Nat) : Bool := match l[j]?, m[j]? with | some a, some b => f a b | _, _ => true
theorem zipAll_range {α β : Type} (f : α → β → Bool) : ∀ (l : List α) (m : List β), l.length = m.length → zipAll f l m = (List.range l.length).all (hitAt f l m)
  | [], [], _ => rfl
  | a :: l, b :: m, h => by
    unfold zipAll
    rw [zipAll_range f l m (by simpa using h), List.length_cons, List.range_succ_eq_map, List.all_cons, List.all_map]
    rfl
noncomputable def eqv0 : AV → AV → Bool
  | .str a, .str b => a == b
  | .int a, .int b => a == b
  | .bool a, .bool b => a == b
  | .flt f, .int j => Float64.cmpInt f j == some Ordering.eq
  | _, _ => false
inductive EqS : AV → AV → Prop
  | str (a b) : EqS (.str a) (.str b)
  | int (a b) : EqS (.int a) (.int b)
  | bool (a b) : EqS (.bool a) (.bool b)
  | fi (f j) : EqS (.flt f) (.int j)
theorem eqAt_fi {A : Around} {s : Shared} (f : UInt64) (t : Tok) (j : Int) (u : Tok) : SeqAt.EqAt A s (.float f t) (.int j u) (Float64.cmpInt f j == some Ordering.eq) := fun prog w E Q hq => by
  unfold eqBool
  refine wpAny_holding ?_
  refine wpAny_ite_split (fun hab => absurd (eq_of_beq hab) nofun) (fun _ => ?_)
  exact wpAny_bind (eq_fi (wpAny_truthy_bool hq))
theorem EqS.at {V W : AV} {v v' : Value} {A : Around} {s : Shared} (e : EqS V W) (r : R prog w X h v V) (r' : R prog w X h v' W) : SeqAt.EqAt A s v v' (eqv0 V W) := by
  cases e with
  | str a b => obtain ⟨t, rfl⟩ := r.str_inv; obtain ⟨u, rfl⟩ := r'.str_inv; exact SeqAt.EqAt.str_str a t b u
  | int a b => obtain ⟨t, rfl⟩ := r.int_inv; obtain ⟨u, rfl⟩ := r'.int_inv; exact SeqAt.EqAt.int_int a t b u
  | bool a b => obtain rfl := r.bool_inv; obtain rfl := r'.bool_inv; exact SeqAt.EqAt.bool_bool a b
  | fi f j => obtain ⟨t, rfl⟩ := r.flt_inv; obtain ⟨u, rfl⟩ := r'.int_inv; exact eqAt_fi f t j u
theorem AOk.room1 {A : Around} (a : AOk n A) : A.units < cLine := by have := a.units; omega
noncomputable def Cmp (prog : Program) (w : World) (X : List Addr) (s : Shared) (A : Around) (V W : AV) (b : Bool) : Prop := ∀ v v', R prog w X s.heap v V → R prog w X s.heap v' W → SeqAt.EqAt A s v v' b
theorem rc_lists {A : Around} {s : Shared} {l b : Addr} {k k' : Nat} {vs us : List Value} {Vs Us : List AV} (f : AV → AV → Bool) (hu : A.units < cLine) (el : s.heap.get? l = some { cls := .type "list", data := .seq (List.toArray vs) k }) (eb : s.heap.get? b = some { cls := .type "list", data := .seq (List.toArray us) k' })
    (rs : Rs prog w X s.heap vs Vs) (rs' : Rs prog w X s.heap us Us) (hf : ∀ V ∈ Vs, ∀ W ∈ Us, Cmp prog w X s A.in1 V W (f V W)) : SeqAt.RcAt A s (.ref l) (.ref b) (zipAll f Vs Us) ∧ SeqAt.RcNeAt A s (.ref l) (.ref b) (!zipAll f Vs Us) := by
  by_cases hl : Vs.length = Us.length
  · have hsz : vs.toArray.size = us.toArray.size := by rw [List.size_toArray, List.size_toArray, rs.length, rs'.length, hl]
    have he : ∀ j (h1 : j < vs.toArray.size) (h2 : j < us.toArray.size), SeqAt.EqAt A.in1 s vs.toArray[j] us.toArray[j] (hitAt f Vs Us j) := fun j h1 h2 => by
      have h1' : j < Vs.length := by rw [← rs.length]; simpa using h1
      have h2' : j < Us.length := by rw [← rs'.length]; simpa using h2
      obtain ⟨u, hu1, hr, _⟩ := rs.get (List.getElem?_eq_getElem h1')
      obtain ⟨u', hu2, hr', _⟩ := rs'.get (List.getElem?_eq_getElem h2')
      unfold hitAt
      rw [List.getElem?_eq_getElem h1', List.getElem?_eq_getElem h2']
      have e1 : vs.toArray[j] = u := by have := List.getElem?_eq_some_iff.mp hu1; obtain ⟨_, q⟩ := this; simpa using q
      have e2 : us.toArray[j] = u' := by have := List.getElem?_eq_some_iff.mp hu2; obtain ⟨_, q⟩ := this; simpa using q
      rw [e1, e2]
      exact hf _ (List.getElem_mem _) _ (List.getElem_mem _) u u' hr hr'
    rw [zipAll_range f Vs Us hl, ← rs.length, ← List.size_toArray (as := vs)]
    exact ⟨SeqAt.RcAt.lists (isList_of el) (isList_of eb) hsz hu he, SeqAt.RcNeAt.lists (isList_of el) (isList_of eb) hsz hu he⟩
  · have hsz : (vs.toArray.size != us.toArray.size) = true := by rw [List.size_toArray, List.size_toArray, rs.length, rs'.length]; simpa using hl
    rw [zipAll_len f Vs Us hl]
    exact ⟨SeqAt.RcAt.lists_lengths (isList_of el) (isList_of eb) hsz hu, SeqAt.RcNeAt.lists_lengths (isList_of el) (isList_of eb) hsz hu⟩
noncomputable def FlatC (Vs Us : List AV) : Prop := ∀ V ∈ Vs, ∀ W ∈ Us, EqS V W
noncomputable def eqv1 : AV → AV → Bool
  | .list l, .list m => zipAll eqv0 l m
  | _, _ => false
theorem OpC.eqL {Vs Us : List AV} (hf : FlatC Vs Us) : OpC prog w .Eq (.list Vs) (.list Us) (zipAll eqv0 Vs Us) := by
  intro n A X s Q E v₁ v₂ a r₁ r₂ q
  obtain ⟨l, k, vs, rfl, el, rs⟩ := r₁.list_inv; obtain ⟨b, k', us, rfl, eb, rs'⟩ := r₂.list_inv
  exact (rc_lists eqv0 a.room1 el eb rs rs' fun V hV W hW v v' r r' => (hf V hV W hW).at r r').1 prog w E Q (q s (.refl s))
theorem OpC.neL {Vs Us : List AV} (hf : FlatC Vs Us) : OpC prog w .NotEq (.list Vs) (.list Us) (!zipAll eqv0 Vs Us) := by
  intro n A X s Q E v₁ v₂ a r₁ r₂ q
  obtain ⟨l, k, vs, rfl, el, rs⟩ := r₁.list_inv; obtain ⟨b, k', us, rfl, eb, rs'⟩ := r₂.list_inv
  exact (rc_lists eqv0 a.room1 el eb rs rs' fun V hV W hW v v' r r' => (hf V hV W hW).at r r').2 prog w E Q (q s (.refl s))
/- lists of lists; on the two sides no list at all may be one and the same, unless it is equal to itself -/
noncomputable def FlatLL (Vs Us : List AV) : Prop := ∀ V ∈ Vs, ∀ W ∈ Us, ∃ l m, V = .list l ∧ W = .list m ∧ FlatC l m
theorem sc_fun {V W : AV} (a : Sc v V) (b : Sc v W) : V = W := by cases a <;> cases b <;> rfl
theorem flat_same {Vs Us : List AV} {vs us : List Value} (hf : FlatC Vs Us) (e : vs = us) (rs : Rs prog w X h vs Vs) (rs' : Rs prog w X h us Us) : zipAll eqv0 Vs Us = true := by
  subst e
  match rs, rs' with
  | .nil, .nil => rfl
  | .cons (v := u) (V := V) (Vs := Vs') _ r rs, .cons (V := W) (Vs := Us') _ r' rs' =>
    have e := hf V (List.mem_cons_self ..) W (List.mem_cons_self ..)
    have : eqv0 V W = true := by
      cases e with
      | str a b => obtain ⟨t, rfl⟩ := r.str_inv; obtain ⟨_, q⟩ := r'.str_inv; cases q; simp [eqv0]
      | int a b => obtain ⟨t, rfl⟩ := r.int_inv; obtain ⟨_, q⟩ := r'.int_inv; cases q; simp [eqv0]
      | bool a b => obtain rfl := r.bool_inv; have q := r'.bool_inv; cases q; simp [eqv0]
      | fi f j => obtain ⟨t, rfl⟩ := r.flt_inv; obtain ⟨_, q⟩ := r'.int_inv; cases q
    unfold zipAll
    rw [this, Bool.true_and]
    exact flat_same (fun A hA B hB => hf A (List.mem_cons_of_mem _ hA) B (List.mem_cons_of_mem _ hB)) rfl rs rs'
theorem cmp_flat {A : Around} {s : Shared} {l m : List AV} (hu : A.in1.units < cLine) (hu' : A.units < cLine) (hf : FlatC l m) : Cmp prog w X s A (.list l) (.list m) (zipAll eqv0 l m) := by
  intro v v' r r'
  obtain ⟨a, k, vs, rfl, el, rs⟩ := r.list_inv; obtain ⟨b, k', us, rfl, eb, rs'⟩ := r'.list_inv
  by_cases hab : a = b
  · subst hab
    rw [el] at eb
    have e : vs = us := by
      have := Option.some.inj eb
      injection this with _ _ hd _
      injection hd with h1 _
      simpa using h1
    rw [flat_same hf e rs rs']
    exact SeqAt.EqAt.same _
  · exact .of_refs hab (rc_lists eqv0 hu' el eb rs rs' fun V hV W hW v v' r r' => (hf V hV W hW).at r r').1
theorem OpC.eqLL {Vs Us : List AV} (hf : FlatLL Vs Us) : OpC prog w .Eq (.list Vs) (.list Us) (zipAll eqv1 Vs Us) := by
  intro n A X s Q E v₁ v₂ a r₁ r₂ q
  obtain ⟨l, k, vs, rfl, el, rs⟩ := r₁.list_inv; obtain ⟨b, k', us, rfl, eb, rs'⟩ := r₂.list_inv
  have := a.units
  refine (rc_lists eqv1 a.room1 el eb rs rs' fun V hV W hW => ?_).1 prog w E Q (q s (.refl s))
  obtain ⟨l, m, rfl, rfl, hq⟩ := hf V hV W hW
  exact cmp_flat (by show A.units + 1 + 1 < _; omega) (by show A.units + 1 < _; omega) hq
theorem OpC.neLL {Vs Us : List AV} (hf : FlatLL Vs Us) : OpC prog w .NotEq (.list Vs) (.list Us) (!zipAll eqv1 Vs Us) := by
  intro n A X s Q E v₁ v₂ a r₁ r₂ q
  obtain ⟨l, k, vs, rfl, el, rs⟩ := r₁.list_inv; obtain ⟨b, k', us, rfl, eb, rs'⟩ := r₂.list_inv
  have := a.units
  refine (rc_lists eqv1 a.room1 el eb rs rs' fun V hV W hW => ?_).2 prog w E Q (q s (.refl s))
  obtain ⟨l, m, rfl, rfl, hq⟩ := hf V hV W hW
  exact cmp_flat (by show A.units + 1 + 1 < _; omega) (by show A.units + 1 < _; omega) hq
/- a truth value in a list of them -/
theorem Rs.bools_inv : ∀ {vs : List Value} {bs : List Bool}, Rs prog w X h vs (bs.map AV.bool) → vs = bs.map Value.bool
  | vs, [], r => by cases r; rfl
  | vs, b :: bs, r => by
    cases r with
    | cons a r rs =>
      obtain rfl := r.bool_inv
      rw [Rs.bools_inv rs]; rfl
noncomputable def hitB (c : Bool) : Value → Bool | .bool b => b == c | _ => false
theorem any_hitB (c : Bool) (bs : List Bool) : (bs.map Value.bool).toArray.any (hitB c) = bs.contains c := by
  rw [List.any_toArray]
  induction bs with
  | nil => rfl
  | cons b bs ih =>
    rw [List.map_cons, List.any_cons, ih, List.contains_cons]
    show (b == c || _) = _
    cases b <;> cases c <;> rfl
theorem at_hitB (c : Bool) (bs : List Bool) {A : Around} {s : Shared} : ∀ y, y ∈ (bs.map Value.bool).toArray → SeqAt.EqAt A s y (.bool c) (hitB c y) := by
  intro y hy
  obtain ⟨b, _, rfl⟩ := List.mem_map.mp (by simpa using hy : y ∈ bs.map Value.bool)
  exact SeqAt.EqAt.bool_bool b c
theorem OpC.inB {c : Bool} {bs : List Bool} : OpC prog w .In (.bool c) (.list (bs.map AV.bool)) (bs.contains c) := by
  intro n A X s Q E v₁ v₂ a r₁ r₂ q
  obtain rfl := r₁.bool_inv
  obtain ⟨l, k, vs, rfl, el, rs⟩ := r₂.list_inv
  rw [rs.bools_inv] at el
  refine SeqAt.in_listAt (hitB c) (isList_of el) (at_hitB c bs) ?_
  rw [any_hitB]; exact q s (.refl s)
theorem OpC.notInB {c : Bool} {bs : List Bool} : OpC prog w .NotIn (.bool c) (.list (bs.map AV.bool)) (!bs.contains c) := by
  intro n A X s Q E v₁ v₂ a r₁ r₂ q
  obtain rfl := r₁.bool_inv
  obtain ⟨l, k, vs, rfl, el, rs⟩ := r₂.list_inv
  rw [rs.bools_inv] at el
  refine SeqAt.notIn_listAt (hitB c) (isList_of el) (at_hitB c bs) ?_
  rw [any_hitB]; exact q s (.refl s)
end Mine
end
section
set_option maxRecDepth 100000
set_option maxHeartbeats 4000000
namespace Mine
open PySem.Builtin PySem.Builtin.Str
variable {prog : Program} {w : World} {mg mb : Str → Option Value} {n : Nat} {env : Env} {ρ ρ' ρ'' : PEnv} {X : List Addr} {h : Heap} {v : Value}
section
variable {x y : Tx} {i j : Int}
theorem OpB.addT (hz : x.length + y.length ≤ 1048576) : OpB prog w .Add (T x) (T y) (T (x ++ y)) := by
  have := OpB.addS (prog := prog) (w := w) (x := S x) (y := S y) (by rw [S_len, S_len]; exact hz)
  rwa [S_append] at this
theorem OpB.mulT (hx : x.length ≤ 4096) (hi : i ≤ 1024) (hl : -4096 ≤ i) : OpB prog w .Mult (T x) (.int i) (T (Mine.mulT x i)) := by
  have := OpB.mulSI (prog := prog) (w := w) (x := S x) (i := i) (by rw [S_len]; exact hx) hi hl
  rwa [mul_S] at this
theorem OpC.eqT : OpC prog w .Eq (T x) (T y) (x == y) := by
  have := OpC.eqS (prog := prog) (w := w) (x := S x) (y := S y)
  rwa [S_beq] at this
theorem OpC.inT : OpC prog w .In (T y) (T x) (findT x y 0 x.length).isSome := by
  have := OpC.inS (prog := prog) (w := w) (x := S x) (y := S y)
  rwa [contains_S] at this
theorem OpC.notInT : OpC prog w .NotIn (T y) (T x) (!(findT x y 0 x.length).isSome) := by
  have := OpC.notInS (prog := prog) (w := w) (x := S x) (y := S y)
  rwa [contains_S] at this
theorem OpC.notInDots : OpC prog w .NotIn (T dots) (T x) (!decide (2 ≤ (splitD x []).length)) := by
  have := OpC.notInS (prog := prog) (w := w) (x := S x) (y := S dots)
  rwa [contains_dots] at this
theorem CallB.startsT : CallB prog w (.builtin "str.startswith") [T x, T y] (.bool (preT x y)) := by
  have := CallB.startswith (prog := prog) (w := w) (x := S x) (y := S y)
  rwa [startswith_S] at this
theorem CallB.endsT : CallB prog w (.builtin "str.endswith") [T x, T y] (.bool (sufT x y)) := by
  have := CallB.endswith (prog := prog) (w := w) (x := S x) (y := S y)
  rwa [endswith_S] at this
theorem CallB.findT : CallB prog w (.builtin "str.find") [T x, T y] (.int (optI (Mine.findT x y 0 x.length))) := by
  have := CallB.find (prog := prog) (w := w) (x := S x) (y := S y)
  rwa [find_S] at this
theorem CallB.find4T {i j : Nat} (hj : j ≤ x.length) : CallB prog w (.builtin "str.find") [T x, T y, .int i, .int j] (.int (optI (Mine.findT x y i j))) := by
  have := CallB.find4 (prog := prog) (w := w) (x := S x) (y := S y) (i := i) (j := j)
  rwa [find4_S x y i j hj] at this
theorem CallB.joinT {xs : List Tx} (hz : (xs.map List.length).sum + xs.length * x.length ≤ 1000000) : CallB prog w (.builtin "str.join") [T x, .list (xs.map T)] (T (Mine.joinT x xs)) := by
  have := CallB.join (prog := prog) (w := w) (x := S x) (xs := xs.map S) (joinOk_S x xs hz)
  rw [join_S, List.map_map] at this
  exact this
theorem CallB.countT {xs : List Tx} : CallB prog w (.builtin "list.count") [.list (xs.map T), T y] (.int (xs.countP (· == y) : Nat)) := by
  have := CallB.countS (prog := prog) (w := w) (xs := xs.map S) (y := S y)
  rw [List.map_map, List.countP_map] at this
  have e : ((fun s => s == S y) ∘ S) = fun z : Tx => z == y := by funext z; exact S_beq z y
  rw [e] at this
  exact this
theorem CallB.lenT (hx : x.length ≤ 1048576) : CallB prog w (.builtin "len") [T x] (.int x.length) := by
  intro n A X s Q E vs _ _ rs q
  obtain ⟨a, rfl, r⟩ := rs.inv1
  obtain ⟨t, rfl⟩ := r.str_inv
  refine PyProof.Rows.len_str (by rw [S_len]; omega) ?_
  rw [S_len]
  exact Post.sc q (.int _ _) _
theorem CallB.lenL {Vs : List AV} (hx : Vs.length ≤ 1048576) : CallB prog w (.builtin "len") [.list Vs] (.int Vs.length) := by
  intro n A X s Q E vs _ _ rs q
  obtain ⟨a, rfl, r⟩ := rs.inv1
  obtain ⟨l, k, us, rfl, e, ru⟩ := r.list_inv
  have hl := ru.length
  refine PyProof.Rows.len_list (isList_of e) (by rw [List.size_toArray, hl]; omega) ?_
  rw [List.size_toArray, hl]
  exact Post.sc q (.int _ _) _
theorem Truth.T (hx : x.length ≤ 1048576) : Truth prog w (T x) (!x.isEmpty) := by
  have := Truth.str (prog := prog) (w := w) (x := S x) (by rw [S_len]; exact hx)
  have e : ((S x).length != 0) = !x.isEmpty := by
    rw [S_len]
    cases x with
    | nil => rfl
    | cons a r => simp
  rwa [e] at this
/- split at the three dots, a new list -/
theorem RsP.numbered (k : Nat) : ∀ (xs : List Tx) (l : List (Str × Tok)), l.map (·.1) = xs.map S → RsP (strValues l) (xs.map Mine.T)
  | [], [], _ => .nil
  | x :: xs, p :: l, e => by
    rw [List.map_cons, List.map_cons] at e
    have h1 := (List.cons.inj e).1
    have h2 := (List.cons.inj e).2
    show RsP (.str p.1 p.2 :: strValues l) _
    rw [h1]
    exact .cons (.str _ _) (RsP.numbered k xs l h2)
noncomputable def CallN (prog : Program) (w : World) (f : Value) (Vs : List AV) (Us : List AV) : Prop :=
  ∀ (n : Nat) (A : Around) (X : List Addr) (s : Shared) (Q E : Value → Shared → Prop) (vs : List Value), AOk n A → Live X s.heap → RsO prog w X s.heap vs Vs →
    (∀ a s' us k, Ext s s' → s.heap.get? a = none → s'.heap.get? a = some { cls := .type "list", data := .seq (List.toArray us) k } → RsP us Us → Q (.ref a) s') → wpAny (model prog w) A (call f vs) Q E s
theorem CallN.split (hx : x.length ≤ 4096) : CallN prog w (.builtin "str.split") [T x, T dots] ((splitD x []).map Mine.T) := by
  intro n A X s Q E vs _ lv rs q
  obtain ⟨a, b, rfl, r₁, r₂⟩ := rs.inv2; obtain ⟨t, rfl⟩ := r₁.str_inv; obtain ⟨u, rfl⟩ := r₂.str_inv
  have fin : ∀ (l : List (Str × Tok)) (k : Nat), l.map (·.1) = Txt.split (S x) (S dots) → Q (.ref s.heap.objs.size) { s with toks := k, heap := s.heap.push { cls := .type "list", data := .seq (strValues l).toArray } } := by
    intro l k e
    rw [split_S] at e
    exact q _ _ (strValues l) 0 ((Ext.push s _).toks k) (get?_size _) (Heap.get?_push_size _ rfl) (RsP.numbered 0 _ l e)
  have hx' : (S x).length ≤ sizeLine := by rw [sizeLine_eq, S_len]; omega
  have hy : ((S dots).length == 0) = false := by rw [S_len]; rfl
  have hn : (partsBetween (S x) (occurrences (S x) (S dots) 0 (S x).length ((S x).length + 1)) (S dots).length).length ≤ sizeLine := by
    rw [cuts_eq, StrLaws.partsBetween_eq, S_len]
    show (StrLaws.partsFrom (S x) 3 0 (cutsD x)).length ≤ _
    rw [partsFrom_length]
    have := StrLaws.occ_length_le (S x) (S dots) 0 (S x).length ((S x).length + 1)
    rw [cuts_eq, S_len] at this
    rw [sizeLine_eq]; omega
  cases h1 : (decide ((S x).length < (S dots).length) || decide (Str.strKind (S x) < Str.strKind (S dots)))
  · cases hf : (occurrences (S x) (S dots) 0 (S x).length ((S x).length + 1)).isEmpty
    · refine call_meets F.slot_str_split (typeIs_str _ _ _) F.entry_str_split (F.args_str_split_2 _ _) (meets_str_split_sep (S x) (S dots) t u h1 hy hf hx' hn) ?_
      show wants Q E _ { s with toks := _, heap := s.heap.push { cls := .type "list", data := .seq (strsFrom s.toks (partsBetween (S x) (occurrences (S x) (S dots) 0 (S x).length ((S x).length + 1)) (S dots).length)).toArray } }
      rw [strsFrom_eq]
      exact fin (numbered s.toks _) _ ((numbered_texts _ _).trans ((if_neg (ne_true_of_eq_false h1)).trans (if_neg (ne_true_of_eq_false hf))).symm)
    · exact call_meets F.slot_str_split (typeIs_str _ _ _) F.entry_str_split (F.args_str_split_2 _ _) (meets_str_split_not_found (S x) (S dots) t u h1 hy hf)
        (fin [(S x, t)] _ ((if_neg (ne_true_of_eq_false h1)).trans (if_pos hf)).symm)
  · exact call_meets F.slot_str_split (typeIs_str _ _ _) F.entry_str_split (F.args_str_split_2 _ _) (meets_str_split_cannot_occur (S x) (S dots) t u h1)
      (fin [(S x, t)] _ (if_pos h1).symm)
theorem EvN.methS {o : PySem.Expr} {name : Str} {id : String} {apos pos : Pos} {e : PySem.Expr} {x : Str} {V : AV} {Us : List AV} (ho : EvO prog w mg mb n env ρ o (.str x)) (he : EvO prog w mg mb n env ρ e V) (slot : Slot "str" name id)
    (hty : typeOf (.builtin id) = pure (.type "method_descriptor")) (hc : CallN prog w (.builtin id) [.str x, V] Us) (hbase : attributeBase o name env (eval o env) = eval o env := by rfl) (hs : starEach [e] env = [(false, eval e env)] := by rfl)
    (hfew : ((backTo pos (starEach [e] env)).all (fun x => !x.1) && (backToKw pos (keywordEach [] env)).all (fun x => x.1.isSome) && decide ([e].length + ([] : List Keyword).length + (if ([] : List Keyword).isEmpty then 0 else 1) < 30)) = true := by rfl)
    (hline : (apos.endLine == pos.line) = true := by rfl) : EvN prog w mg mb n env ρ (.Call (.Attribute o name apos) [e] [] pos) Us := by
  intro A X s Q E a eo rd q
  refine wpAny_Call_method hbase hfew hline F.plainAttrs_str slot hty (ho A X s _ E a eo rd fun v₁ s₁ x₁ r₁ => ?_)
  have r₁' := r₁
  obtain ⟨t, rfl⟩ := r₁.str_inv
  refine ⟨typeIs_str _ _ _, (fun a e => nomatch e), ?_⟩
  refine Calls.callWith_builtin (by rw [hs]; rfl) ?_
  rw [hs]
  refine Calls.evalArgs_plain (Calls.spliced_cons (he A X s₁ _ E a eo (rd.ext x₁) fun v₂ s₂ x₂ r₂ => Calls.spliced_nil ?_))
  refine hc n A X s₂ Q E [_, v₂] a ((rd.ext x₁).ext x₂).live (.cons (r₁'.kp x₂.kp) (.cons r₂ .nil)) fun l s' us k x' hl e' rp => ?_
  exact q l s' us k ((x₁.trans x₂).trans x') (none_of_ext (x₁.trans x₂) hl) e' rp
end
end Mine
end
section
set_option maxRecDepth 100000
set_option maxHeartbeats 4000000
namespace Mine
noncomputable abbrev PW : Program := PySem.Challenge.rw_sl0011_01.row.prog
noncomputable def dAt (k : Nat) : DefRec := ((defs PW)[k]?).getD ⟨"", ⟨[], [], none, [], [], none, []⟩, [], default, default⟩
theorem defs_len : (defs PW).length = 12 := by rfl
theorem dAt_mem {k : Nat} (h : k < 12) : dAt k ∈ defs PW := by
  have hk : k < (defs PW).length := by rw [defs_len]; exact h
  unfold dAt
  rw [List.getElem?_eq_getElem hk]
  exact List.getElem_mem hk
/- what the module's names hold -/
structure GV (mg mb : Str → Option Value) : Prop where
  marker : ∃ v, mg "ELLIPSIS_MARKER" = some v ∧ Sc v (T dots)
  fn : ∀ d ∈ defs PW, ∃ a, mg d.name = some (.ref a)
  free : ∀ x : Str, x = "len" ∨ x = "range" ∨ x = "min" ∨ x = "max" ∨ x = "int" ∨ x = "enumerate" → mg x = none
  len : mb "len" = some (.builtin "len")
  range : mb "range" = some (.type "range")
  min : mb "min" = some (.builtin "min")
  max : mb "max" = some (.builtin "max")
  int : mb "int" = some (.type "int")
  enum : mb "enumerate" = some (.type "enumerate")
noncomputable abbrev E0 (k : Nat) (pm code doc : Value) (L a : Addr) : Env := eOf (dAt k) pm code doc L a
noncomputable def valOf : Stmt → PySem.Expr
  | .Assign _ v _ => v
  | .AugAssign _ _ v _ => v
  | .Return (some v) _ => v
  | .Expr v _ => v
  | _ => .Constant .none 0 default
theorem S_dots : (Str.ofString "..." : Str) = S dots := by decide +kernel
/- parts of a statement -/
noncomputable def nth (ss : List Stmt) (k : Nat) : Stmt := (ss[k]?).getD (.Return none default)
noncomputable def forBody : Stmt → List Stmt
  | .For _ _ b _ _ => b
  | .While _ b _ _ => b
  | .If _ b _ _ => b
  | _ => []
noncomputable def forIter : Stmt → PySem.Expr
  | .For _ i _ _ _ => i
  | .While t _ _ _ => t
  | .If t _ _ _ => t
  | _ => .Constant .none 0 default
end Mine
end
section
set_option maxRecDepth 100000
set_option maxHeartbeats 4000000
namespace Mine
variable {w : World} {mg mb : Str → Option Value} {n : Nat} {prog : Program} {env : Env} {ρ ρ' : PEnv}

theorem Ev.cT {k : Nat} {pos : Pos} {s : Str} {l : Tx} (h : s = S l) : Ev prog w mg mb n env ρ (.Constant (.str s) k pos) (T l) := by subst h; exact Ev.cstr
theorem Ev.marker {pos : Pos} (gv : GV mg mb) (hk : env.kindOf "ELLIPSIS_MARKER" = some .globalImplicit) : Ev PW w mg mb n env ρ (.Name "ELLIPSIS_MARKER" pos) (T dots) := by
  obtain ⟨v, h1, h2⟩ := gv.marker
  exact Ev.glob hk h1 h2
theorem Tr.of {e : PySem.Expr} {b b' : Bool} (h : Tr prog w mg mb n env ρ e b) (q : b = b') : Tr prog w mg mb n env ρ e b' := q ▸ h
theorem Ev.of {e : PySem.Expr} {b b' : AV} (h : Ev prog w mg mb n env ρ e b) (q : b = b') : Ev prog w mg mb n env ρ e b' := q ▸ h
theorem EvO.of {e : PySem.Expr} {b b' : AV} (h : EvO prog w mg mb n env ρ e b) (q : b = b') : EvO prog w mg mb n env ρ e b' := q ▸ h
theorem Ev.len {e : PySem.Expr} {p pos : Pos} {V U : AV} (gv : GV mg mb) (he : EvO PW w mg mb n env ρ e V) (hc : CallB PW w (.builtin "len") [V] U) (hk : env.kindOf "len" = some .globalImplicit) (hs : starEach [e] env = [(false, eval e env)] := by rfl) :
    Ev PW w mg mb n env ρ (.Call (.Name "len" p) [e] [] pos) U :=
  Ev.callB hk (gv.free _ (.inl rfl)) gv.len (EvsO.cons he EvsO.nil hs) hc rfl hs

/- what the pieces say of a text -/
noncomputable def emL (got : Tx) (hi : Nat) : List Tx → Nat → Bool
  | [], _ => true
  | x :: r, st => match findT got x st hi with | some i => emL got hi r (i + x.length) | none => false
noncomputable def emP (ws : List Tx) (got : Tx) : Bool :=
  let a := ws.headD []
  let z := ws.getLastD []
  if !(a.isEmpty || preT got a) then false else
  let w1 := if a.isEmpty then ws else ws.tail
  if !(z.isEmpty || sufT got z) then false else
  let w2 := if z.isEmpty then w1 else w1.dropLast
  if decide (got.length < a.length + z.length) then false else emL got (got.length - z.length) w2 a.length
noncomputable def emT (want got : Tx) : Bool := if 2 ≤ (splitD want []).length then emP (splitD want []) got else want == got
theorem splitD_total : ∀ (k : Nat) (x acc : Tx), x.length ≤ k → ((splitD x acc).map List.length).sum ≤ x.length + acc.length ∧ (splitD x acc).length ≤ x.length + 1 := by
  intro k
  induction k with
  | zero =>
    intro x acc h
    have : x = [] := List.length_eq_zero_iff.mp (by omega)
    subst this; simp [splitD]
  | succ k ih =>
    intro x acc h
    unfold splitD
    split
    · rename_i r
      have := ih r [] (by simp at h; omega)
      simp at this ⊢; omega
    · rename_i c r _
      have := ih r (c :: acc) (by simp at h; omega)
      simp at this ⊢; omega
    · simp
theorem splitD_piece {x y : Tx} (h : y ∈ splitD x []) : y.length ≤ x.length := by
  have h1 := (splitD_total x.length x [] (Nat.le_refl _)).1
  have h2 : y.length ≤ ((splitD x []).map List.length).sum := by
    generalize splitD x [] = l at h
    clear h1
    induction l with
    | nil => cases h
    | cons a l ih =>
      rw [List.map_cons, List.sum_cons]
      rcases List.mem_cons.mp h with rfl | h
      · omega
      · have := ih h; omega
  simp at h1; omega
theorem ok0 : DefOk (dAt 0) ["want", "got"] := ⟨by decide, fun pm code doc vs h => by match vs, h with | [a, b], _ => rfl, fun k => rfl, rfl, rfl⟩
theorem allScT (l : List Tx) : AllSc (l.map T) := fun V hV => by obtain ⟨x, _, rfl⟩ := List.mem_map.mp hV; exact ⟨_, .str _ 0⟩

section
variable (want got : Tx) (pm code doc : Value) (L ad : Addr)
noncomputable abbrev ρw (want got : Tx) (ws : List Tx) (st en : Int) (x : Tx) : PEnv := [("want", ⟨T want, none⟩), ("got", ⟨T got, none⟩), ("ws", ⟨.list (ws.map T), some none⟩), ("startpos", ⟨.int st, none⟩), ("endpos", ⟨.int en, none⟩), ("w", ⟨T x, none⟩)]
noncomputable def nxt (got : Tx) (en st : Nat) (x : Tx) : Nat := match findT got x st en with | some j => j + x.length | none => 0
noncomputable def posL (got : Tx) (en : Nat) : List Tx → Nat → Nat → Nat
  | [], st, _ => st
  | _ :: _, st, 0 => st
  | x :: r, st, i + 1 => posL got en r (nxt got en st x) i
theorem posL_step (got : Tx) (en : Nat) : ∀ (ws : List Tx) (st i : Nat) (x : Tx), ws[i]? = some x → posL got en ws st (i + 1) = nxt got en (posL got en ws st i) x
  | [], _, _, _, h => by cases h
  | y :: r, st, 0, x, h => by
    simp at h; subst h
    cases r <;> rfl
  | y :: r, st, i + 1, x, h => posL_step got en r _ i x (by simpa using h)
theorem emL_true (got : Tx) (en : Nat) : ∀ (ws : List Tx) (st : Nat), emL got en ws st = true → ∀ i x, ws[i]? = some x → ∃ j, findT got x (posL got en ws st i) en = some j
  | [], _, _, _, _, h => by cases h
  | y :: r, st, h, i, x, hx => by
    unfold emL at h
    cases hf : findT got y st en with
    | none => rw [hf] at h; cases h
    | some j =>
      rw [hf] at h
      cases i with
      | zero => simp at hx; subst hx; exact ⟨j, hf⟩
      | succ i =>
        have : posL got en (y :: r) st (i + 1) = posL got en r (j + y.length) i := by show posL got en r (nxt got en st y) i = _; unfold nxt; rw [hf]
        rw [this]
        exact emL_true got en r _ h i x (by simpa using hx)
theorem emL_false (got : Tx) (en : Nat) : ∀ (ws : List Tx) (st : Nat), emL got en ws st = false → ∃ N x, ws[N]? = some x ∧ findT got x (posL got en ws st N) en = none ∧ ∀ i y, i < N → ws[i]? = some y → ∃ j, findT got y (posL got en ws st i) en = some j
  | [], _, h => by cases h
  | y :: r, st, h => by
    unfold emL at h
    cases hf : findT got y st en with
    | none => exact ⟨0, y, rfl, hf, fun i _ hi => absurd hi (Nat.not_lt_zero i)⟩
    | some j =>
      rw [hf] at h
      obtain ⟨N, x, h1, h2, h3⟩ := emL_false got en r _ h
      have e : ∀ i, posL got en (y :: r) st (i + 1) = posL got en r (j + y.length) i := fun i => by show posL got en r (nxt got en st y) i = _; unfold nxt; rw [hf]
      refine ⟨N + 1, x, by simpa using h1, by rw [e]; exact h2, fun i z hi hz => ?_⟩
      cases i with
      | zero => simp at hz; subst hz; exact ⟨j, hf⟩
      | succ i => rw [e]; exact h3 i z (by omega) (by simpa using hz)
theorem findT_bound {x y : Tx} {lo hi i : Nat} (h : findT x y lo hi = some i) : lo ≤ i ∧ i + y.length ≤ hi := by
  have h1 := List.mem_of_find?_eq_some h
  have h2 := List.find?_some h
  unfold hitT at h2
  rw [Bool.and_eq_true] at h2
  exact ⟨(List.mem_range'_1.mp h1).1, Nat.le_of_ble_eq_true h2.1⟩
noncomputable abbrev ρv (want got : Tx) (st en : Int) : PEnv := [("want", ⟨T want, none⟩), ("got", ⟨T got, none⟩), ("startpos", ⟨.int st, none⟩), ("endpos", ⟨.int en, none⟩)]
/- the last part: the loop over the pieces left -/
theorem loop0 (gv : GV mg mb) {ws : List Tx} {st en : Nat} {x : Tx} (hg : got.length ≤ 4096) (hen : en ≤ got.length) (hw : ∀ y ∈ ws, y.length ≤ 4096) (hwl : ws.length ≤ 4097) :
    ∃ ρ', Sx PW w mg mb n (E0 0 pm code doc L ad) (ρw want got ws st en x) ((dAt 0).body.drop 9) ρ' (some (.bool (emL got en ws st))) := by
  let stt : Nat → PEnv := fun i => ρv want got (posL got en ws st i : Nat) en
  have h0 : posL got en ws st 0 = st := by cases ws <;> rfl
  have body1 : ∀ (i : Nat) (y : Tx) (j : Nat), ws[i]? = some y → findT got y (posL got en ws st i) en = some j →
      Sx PW w mg mb n (E0 0 pm code doc L ad) (("w", ⟨T y, none⟩) :: stt i) (forBody (nth (dAt 0).body 9)) (stt (i + 1)) none := by
    intro i y j hy hj
    refine Sx.post (ρ' := _) (Sx.cons (St.assign (Ev.methS (EvO.var rfl) (EvsO.cons (EvO.var rfl) (EvsO.cons (EvO.var rfl) (EvsO.cons (EvO.var rfl) EvsO.nil))) F.slot_str_find rfl (CallB.find4T hen)) (.inl rfl))
      (Sx.cons (St.ifS (c := false) (Tr.of (Tr.cmp (EvO.var rfl) Ev.cint.toO OpC.ltI) ?_) (fun h => by cases h) (fun _ => Sx.nil))
      (Sx.cons (St.aug rfl (Ev.len gv (EvO.var rfl) (CallB.lenT ?_) rfl) OpI.addI (.inl rfl)) Sx.nil))) ?_
    · rw [hj]; exact decide_eq_false (by show ¬ ((j : Int) < 0); omega)
    · have := hw y (List.mem_of_getElem? hy); omega
    · refine Sub.cons rfl (Sub.cons rfl (Sub.cons ?_ (Sub.cons rfl Sub.nil)))
      have e : posL got en ws st (i + 1) = j + y.length := by rw [posL_step got en ws st i y hy]; unfold nxt; rw [hj]
      rw [e, hj]
      show some _ = some _
      congr 2
  have hit : EvIt PW w mg mb n (E0 0 pm code doc L ad) (("ws", ⟨.list (ws.map T), none⟩) :: ρw want got ws st en x) true (forIter (nth (dAt 0).body 9)) (ws.map T) := EvIt.listS (Ev.var rfl)
  cases hE : emL got en ws st with
  | true =>
    have all := emL_true got en ws st hE
    refine ⟨_, Sx.freeze (x := "ws") rfl (Sx.cons (ρ' := stt ws.length) (St.forC stt ws.length (by simp) hit (Sub.cons rfl (Sub.cons rfl (Sub.cons (by rw [h0]; rfl) (Sub.cons rfl Sub.nil)))) (.inl rfl) (fun i V hi hV => ?_) (.inl ⟨by simp, rfl, rfl⟩)) (Sx.stop (St.ret Ev.cbool)))⟩
    obtain ⟨y, hy, rfl⟩ : ∃ y, ws[i]? = some y ∧ T y = V := by simpa using hV
    obtain ⟨j, hj⟩ := all i y hy
    exact body1 i y j hy hj
  | false =>
    obtain ⟨N, y, hy, hn, bef⟩ := emL_false got en ws st hE
    have hN : N < ws.length := (List.getElem?_eq_some_iff.mp hy).1
    refine ⟨[], Sx.freeze (x := "ws") rfl (Sx.stop (St.forC stt N (by simp; omega) hit (Sub.cons rfl (Sub.cons rfl (Sub.cons (by rw [h0]; rfl) (Sub.cons rfl Sub.nil)))) (.inl rfl) (fun i V hi hV => ?_) (.inr ⟨T y, _, by simp [hy], ?_, rfl⟩)))⟩
    · obtain ⟨z, hz, rfl⟩ : ∃ y, ws[i]? = some y ∧ T y = V := by simpa using hV
      obtain ⟨j, hj⟩ := bef i z hi hz
      exact body1 i z j hz hj
    · refine Sx.post (Sx.cons (St.assign (Ev.methS (EvO.var rfl) (EvsO.cons (EvO.var rfl) (EvsO.cons (EvO.var rfl) (EvsO.cons (EvO.var rfl) EvsO.nil))) F.slot_str_find rfl (CallB.find4T hen)) (.inl rfl))
        (Sx.stop (St.ifS (c := true) (Tr.of (Tr.cmp (EvO.var rfl) Ev.cint.toO OpC.ltI) ?_) (fun _ => Sx.stop (St.ret Ev.cbool)) (fun h => by cases h)))) Sub.nil
      rw [hn]; rfl

theorem tail_ne {l : List Tx} (h : 2 ≤ l.length) : l.tail ≠ [] := by
  match l, h with
  | _ :: _ :: _, _ => simp
theorem stepA (gv : GV mg mb) {a : Tx} {wt : List Tx} {en : Int} (ha : a.length ≤ 4096) (hl : wt.length ≤ 4097) :
    (¬ (a.isEmpty || preT got a) = true → ∃ ρ', St PW w mg mb n (E0 0 pm code doc L ad) (ρw want got (a :: wt) 0 en a) (nth (dAt 0).body 5) ρ' (some (.bool false))) ∧
    ((a.isEmpty || preT got a) = true → St PW w mg mb n (E0 0 pm code doc L ad) (ρw want got (a :: wt) 0 en a) (nth (dAt 0).body 5) (ρw want got (if a.isEmpty then a :: wt else wt) (a.length : Nat) en a) none) := by
  cases hE : a.isEmpty with
  | true =>
    have : a = [] := by simpa using hE
    subst this
    refine ⟨fun h => absurd rfl h, fun _ => ?_⟩
    exact St.ifS (c := false) (Tr.of (Tr.val (EvO.var rfl) (Truth.T (by simp))) rfl) (fun h => by cases h) (fun _ => Sx.nil)
  | false =>
    rw [Bool.false_or]
    have t : Tr PW w mg mb n (E0 0 pm code doc L ad) (ρw want got (a :: wt) 0 en a) (forIter (nth (dAt 0).body 5)) true := Tr.of (Tr.val (EvO.var rfl) (Truth.T (by omega))) (by rw [hE]; rfl)
    refine ⟨fun h => ?_, fun h => ?_⟩
    · exact ⟨_, St.ifS (c := true) t (fun _ => Sx.stop (St.ifS (c := false) (Tr.of (Tr.val (EvO.of (Ev.methS (EvO.var rfl) (EvsO.cons (EvO.var rfl) EvsO.nil) F.slot_str_startswith rfl CallB.startsT).toO rfl) Truth.bool) (by simpa using h)) (fun h => by cases h) (fun _ => Sx.stop (St.ret Ev.cbool)))) (fun h => by cases h)⟩
    · refine St.post (St.ifS (c := true) t (fun _ => Sx.cons (St.ifS (c := true) (Tr.of (Tr.val (EvO.of (Ev.methS (EvO.var rfl) (EvsO.cons (EvO.var rfl) EvsO.nil) F.slot_str_startswith rfl CallB.startsT).toO rfl) Truth.bool) h) (fun _ => Sx.cons (St.assign (Ev.len gv (EvO.var rfl) (CallB.lenT (by omega)) rfl) (.inl rfl)) (Sx.cons (St.del (k := 0) (i := 0) rfl Ev.cint (allScT _) (by simp [seqIndex?]) (by decide) (by simp; omega)) Sx.nil)) (fun h => by cases h)) Sx.nil) (fun h => by cases h)) ?_
      repeat (first | exact Sub.nil | refine Sub.cons rfl ?_)
theorem stepB (gv : GV mg mb) {z : Tx} {ws : List Tx} {st : Int} (ha : z.length ≤ 4096) (hl : ws.length ≤ 4097) (hw : ws ≠ []) :
    (¬ (z.isEmpty || sufT got z) = true → ∃ ρ', St PW w mg mb n (E0 0 pm code doc L ad) (ρw want got ws st (got.length : Nat) z) (nth (dAt 0).body 7) ρ' (some (.bool false))) ∧
    ((z.isEmpty || sufT got z) = true → St PW w mg mb n (E0 0 pm code doc L ad) (ρw want got ws st (got.length : Nat) z) (nth (dAt 0).body 7) (ρw want got (if z.isEmpty then ws else ws.dropLast) st ((got.length : Int) - (z.length : Nat)) z) none) := by
  cases hE : z.isEmpty with
  | true =>
    have : z = [] := by simpa using hE
    subst this
    refine ⟨fun h => absurd rfl h, fun _ => ?_⟩
    refine St.post (St.ifS (c := false) (Tr.of (Tr.val (EvO.var rfl) (Truth.T (by simp))) rfl) (fun h => by cases h) (fun _ => Sx.nil)) ?_
    refine Sub.cons rfl (Sub.cons rfl (Sub.cons rfl (Sub.cons rfl (Sub.cons ?_ (Sub.cons rfl Sub.nil)))))
    simp
    rfl
  | false =>
    rw [Bool.false_or]
    have t : Tr PW w mg mb n (E0 0 pm code doc L ad) (ρw want got ws st (got.length : Nat) z) (forIter (nth (dAt 0).body 7)) true := Tr.of (Tr.val (EvO.var rfl) (Truth.T (by omega))) (by rw [hE]; rfl)
    refine ⟨fun h => ?_, fun h => ?_⟩
    · exact ⟨_, St.ifS (c := true) t (fun _ => Sx.stop (St.ifS (c := false) (Tr.of (Tr.val (EvO.of (Ev.methS (EvO.var rfl) (EvsO.cons (EvO.var rfl) EvsO.nil) F.slot_str_endswith rfl CallB.endsT).toO rfl) Truth.bool) (by simpa using h)) (fun h => by cases h) (fun _ => Sx.stop (St.ret Ev.cbool)))) (fun h => by cases h)⟩
    · have hidx : seqIndex? (-1) (ws.map T).length = some (ws.length - 1) := by
        have : 0 < ws.length := List.length_pos_iff.mpr hw
        simp [seqIndex?]; omega
      refine St.post (St.ifS (c := true) t (fun _ => Sx.cons (St.ifS (c := true) (Tr.of (Tr.val (EvO.of (Ev.methS (EvO.var rfl) (EvsO.cons (EvO.var rfl) EvsO.nil) F.slot_str_endswith rfl CallB.endsT).toO rfl) Truth.bool) h) (fun _ => Sx.cons (St.aug rfl (Ev.len gv (EvO.var rfl) (CallB.lenT (by omega)) rfl) OpI.subI (.inl rfl)) (Sx.cons (St.del rfl (Ev.un Ev.cint.toO OpU.neg) (allScT _) hidx (by decide) (by simp; omega)) Sx.nil)) (fun h => by cases h)) Sx.nil) (fun h => by cases h)) ?_
      refine Sub.cons rfl (Sub.cons rfl (Sub.cons ?_ (Sub.cons rfl (Sub.cons rfl (Sub.cons rfl Sub.nil)))))
      have : (ws.map T).eraseIdx (ws.length - 1) = ws.dropLast.map T := by
        have h0 : 0 < ws.length := List.length_pos_iff.mpr hw
        rw [List.map_dropLast, List.dropLast_eq_take, List.length_map, List.eraseIdx_eq_take_drop_succ, List.drop_of_length_le (by rw [List.length_map]; omega), List.append_nil]
      show some _ = some _
      rw [this]; rfl
/- the contract -/
theorem spec0 (gv : GV mg mb) {want got : Tx} (h1 : want.length ≤ 4096) (h2 : got.length ≤ 4096) : Spec PW w mg mb (n + 1) "_ellipsis_match" [T want, T got] (.bool (emT want got)) := by
  refine Spec.intro (dAt_mem (k := 0) (by decide)) rfl ok0 rfl rfl fun pm code doc L ad => ?_
  show ∃ ρ', Sx PW w mg mb n (E0 0 pm code doc L ad) [("want", ⟨T want, none⟩), ("got", ⟨T got, none⟩)] (dAt 0).body ρ' _
  unfold emT
  by_cases hc : 2 ≤ (splitD want []).length
  · rw [if_pos hc]
    have hpiece : ∀ y ∈ splitD want [], y.length ≤ 4096 := fun y hy => Nat.le_trans (splitD_piece hy) h1
    have hnum : (splitD want []).length ≤ 4097 := by have := (splitD_total want.length want [] (Nat.le_refl _)).2; omega
    have hN : EvN PW w mg mb n (E0 0 pm code doc L ad) [("want", ⟨T want, none⟩), ("got", ⟨T got, none⟩)] (valOf (nth (dAt 0).body 1)) ((splitD want []).map T) := EvN.methS (EvO.var rfl) (Ev.marker gv rfl).toO F.slot_str_split rfl (CallN.split h1)
    have hIf : St PW w mg mb n (E0 0 pm code doc L ad) [("want", ⟨T want, none⟩), ("got", ⟨T got, none⟩)] (nth (dAt 0).body 0) [("want", ⟨T want, none⟩), ("got", ⟨T got, none⟩)] none :=
      St.ifS (c := false) (Tr.of (Tr.cmp (Ev.marker gv rfl).toO (EvO.var rfl) OpC.notInDots) (by rw [decide_eq_true hc]; rfl)) (fun h => by cases h) (fun _ => Sx.nil)
    generalize splitD want [] = ws at hc hpiece hnum hN ⊢
    obtain ⟨a, wt, rfl⟩ : ∃ a wt, ws = a :: wt := by
      cases ws with
      | nil => simp at hc
      | cons a wt => exact ⟨a, wt, rfl⟩
    have hwt : wt ≠ [] := tail_ne hc
    have ha := hpiece a (List.mem_cons_self ..)
    have hwl : wt.length ≤ 4097 := by rw [List.length_cons] at hnum; omega
    -- up to the first piece
    have front : ∀ {ρ' r}, Sx PW w mg mb n (E0 0 pm code doc L ad) (ρw want got (a :: wt) 0 (got.length : Nat) a) ((dAt 0).body.drop 5) ρ' r → Sx PW w mg mb n (E0 0 pm code doc L ad) [("want", ⟨T want, none⟩), ("got", ⟨T got, none⟩)] (dAt 0).body ρ' r := by
      intro ρ' r h
      refine Sx.cons hIf (Sx.cons (St.assignN hN (.inl rfl)) (Sx.cons (St.assert (Tr.of (Tr.cmp (Ev.len gv (EvO.var rfl) (CallB.lenL (by simp; omega)) rfl).toO Ev.cint.toO OpC.geI) (decide_eq_true (by rw [List.length_map]; omega))))
        (Sx.cons (St.tupS (l := [("startpos", .int 0), ("endpos", .int (got.length : Nat))]) (Ev.tup (Evs.cons Ev.cint (Evs.cons (Ev.len gv (EvO.var rfl) (CallB.lenT (by omega)) rfl) Evs.nil))) (fun p hp => ?_) rfl)
        (Sx.cons (St.assign (Ev.itemL (V := T a) (k := 0) (EvO.var rfl) Ev.cint.toO ?_ (by simp; omega)) (.inl rfl)) (Sx.pre ?_ h)))))
      · simp only [List.mem_cons, List.not_mem_nil, or_false] at hp
        rcases hp with rfl | rfl <;> exact .inl rfl
      · simp [seqIndex?]
      · repeat (first | exact Sub.nil | refine Sub.cons rfl ?_)
    have hA := stepA (n := n) (w := w) want got pm code doc L ad gv (a := a) (wt := wt) (en := (got.length : Nat)) ha hwl
    unfold emP
    dsimp only [List.headD_cons]
    by_cases c1 : (a.isEmpty || preT got a) = true
    · rw [if_neg (by rw [c1]; decide)]
      have A1 := hA.2 c1
      have hw1 : (if a.isEmpty = true then a :: wt else wt) ≠ [] := by split <;> simp [hwt]
      have hw1l : (if a.isEmpty = true then a :: wt else wt).length ≤ 4097 := by split <;> simp at hnum ⊢ <;> omega
      have hlast : (if a.isEmpty = true then a :: wt else wt).getLastD [] = (a :: wt).getLastD [] := by
        split
        · rfl
        · cases wt with
          | nil => exact absurd rfl hwt
          | cons b r => rfl
      have hmem1 : ∀ y ∈ (if a.isEmpty = true then a :: wt else wt), y.length ≤ 4096 := fun y hy => hpiece y (by split at hy; exact hy; exact List.mem_cons_of_mem _ hy)
      have e1 : (if a.isEmpty = true then a :: wt else (a :: wt).tail) = (if a.isEmpty = true then a :: wt else wt) := rfl
      rw [e1]
      generalize hz0 : (a :: wt).getLastD [] = z at hlast ⊢
      generalize (if a.isEmpty = true then a :: wt else wt) = w1 at A1 hw1 hw1l hlast hmem1 ⊢
      have hz : z.length ≤ 4096 := by
        rw [← hlast]
        cases hq : w1 with
        | nil => exact absurd hq hw1
        | cons b r =>
          refine hmem1 _ ?_
          rw [hq, List.getLastD_eq_getLast?, List.getLast?_eq_some_getLast (by simp)]
          exact List.getLast_mem _
      have front2 : ∀ {ρ' r}, Sx PW w mg mb n (E0 0 pm code doc L ad) (ρw want got w1 (a.length : Nat) (got.length : Nat) z) ((dAt 0).body.drop 7) ρ' r → Sx PW w mg mb n (E0 0 pm code doc L ad) [("want", ⟨T want, none⟩), ("got", ⟨T got, none⟩)] (dAt 0).body ρ' r := by
        intro ρ' r h
        refine front (Sx.cons A1 (Sx.cons (St.assign (Ev.itemL (V := T z) (k := -1) (EvO.var rfl) (Ev.un Ev.cint.toO OpU.neg).toO ?_ (by simp; omega)) (.inl rfl)) (Sx.pre ?_ h)))
        · have h0 : 0 < w1.length := List.length_pos_iff.mpr hw1
          have e : seqIndex? (-1) (w1.map T).length = some (w1.length - 1) := by simp [seqIndex?]; omega
          rw [e, ← hlast, List.getLastD_eq_getLast?, List.getLast?_eq_getElem?]
          show (w1.map T)[w1.length - 1]? = _
          rw [List.getElem?_map, List.getElem?_eq_getElem (by omega)]; rfl
        · repeat (first | exact Sub.nil | refine Sub.cons rfl ?_)
      have hB := stepB (n := n) (w := w) want got pm code doc L ad gv (z := z) (ws := w1) (st := (a.length : Nat)) hz hw1l hw1
      by_cases c2 : (z.isEmpty || sufT got z) = true
      · rw [if_neg (by rw [c2]; decide)]
        have B1 := hB.2 c2
        have hw2 : ∀ y ∈ (if z.isEmpty = true then w1 else w1.dropLast), y.length ≤ 4096 := fun y hy => hmem1 y (by split at hy; exact hy; exact List.dropLast_subset _ hy)
        have hw2l : (if z.isEmpty = true then w1 else w1.dropLast).length ≤ 4097 := by split; exact hw1l; rw [List.length_dropLast]; omega
        generalize (if z.isEmpty = true then w1 else w1.dropLast) = w2 at B1 hw2 hw2l ⊢
        by_cases c3 : got.length < a.length + z.length
        · rw [if_pos (decide_eq_true c3)]
          refine ⟨_, front2 (Sx.cons B1 (Sx.stop (St.ifS (c := true) (Tr.of (Tr.cmp (EvO.var rfl) (EvO.var rfl) OpC.gtI) (decide_eq_true (by omega))) (fun _ => Sx.stop (St.ret Ev.cbool)) (fun h => by cases h))))⟩
        · rw [if_neg (by simpa using c3)]
          obtain ⟨ρ', hL⟩ := loop0 (n := n) (w := w) want got pm code doc L ad gv (ws := w2) (st := a.length) (en := got.length - z.length) (x := z) h2 (by omega) hw2 hw2l
          have e : ((got.length : Int) - (z.length : Nat)) = ((got.length - z.length : Nat) : Int) := by omega
          rw [e] at B1
          exact ⟨ρ', front2 (Sx.cons B1 (Sx.cons (St.ifS (c := false) (Tr.of (Tr.cmp (EvO.var rfl) (EvO.var rfl) OpC.gtI) (decide_eq_false (by omega))) (fun h => by cases h) (fun _ => Sx.nil)) hL))⟩
      · rw [if_pos (by simpa using c2)]
        obtain ⟨ρ', h⟩ := hB.1 c2
        exact ⟨ρ', front2 (Sx.stop h)⟩
    · rw [if_pos (by simpa using c1)]
      obtain ⟨ρ', h⟩ := hA.1 c1
      exact ⟨ρ', front (Sx.stop h)⟩
  · rw [if_neg hc]
    refine ⟨[], Sx.stop (St.post (ρ' := [("want", ⟨T want, none⟩), ("got", ⟨T got, none⟩)]) (St.ifS (c := true) (Tr.of (Tr.cmp (Ev.marker gv rfl).toO (EvO.var rfl) OpC.notInDots) (by rw [decide_eq_false hc]; rfl)) (fun _ => Sx.stop (St.ret (Ev.cmp (EvO.var rfl) (EvO.var rfl) OpC.eqT))) (fun h => by cases h)) Sub.nil)⟩
end
end Mine
end
section
set_option maxRecDepth 100000
set_option maxHeartbeats 4000000
namespace Mine
variable {w : World} {mg mb : Str → Option Value} {n : Nat} {prog : Program} {env : Env} {ρ ρ' : PEnv}
noncomputable abbrev f0 : UInt64 := 0
noncomputable abbrev fh : UInt64 := 0x3FE0000000000000
noncomputable abbrev f1 : UInt64 := 0x3FF0000000000000
noncomputable abbrev f2 : UInt64 := 0x4000000000000000
noncomputable abbrev f4 : UInt64 := 0x4010000000000000
noncomputable abbrev f6 : UInt64 := 0x4018000000000000
noncomputable def isEq (a b : UInt64) : Bool := Float64.cmp a b == some Ordering.eq
noncomputable def isLt (a b : UInt64) : Bool := Float64.cmp a b == some Ordering.lt
noncomputable def isGt (a b : UInt64) : Bool := Float64.cmp a b == some Ordering.gt
noncomputable def isLe (a b : UInt64) : Bool := Float64.cmp a b == some Ordering.lt || Float64.cmp a b == some Ordering.eq
noncomputable def truncI (x : UInt64) : Option Int := match Float64.decode x with | .fin sg m e => some (Float64.truncOf sg m e) | _ => none
theorem CallB.intF {x : UInt64} {i : Int} (h : truncI x = some i) : CallB prog w (.type "int") [.flt x] (.int i) := by
  intro n A X s Q E vs _ _ rs q
  obtain ⟨a, rfl, r⟩ := rs.inv1
  obtain ⟨t, rfl⟩ := r.flt_inv
  unfold truncI at h
  cases hd : Float64.decode x with
  | fin sg m e =>
    rw [hd] at h
    cases h
    exact call_int_float hd (Post.sc q (.int _ _) _)
  | inf _ => rw [hd] at h; cases h
  | nan => rw [hd] at h; cases h
theorem Ev.int {e : PySem.Expr} {p pos : Pos} {V U : AV} (gv : GV mg mb) (he : EvO PW w mg mb n env ρ e V) (hc : CallB PW w (.type "int") [V] U) (hk : env.kindOf "int" = some .globalImplicit) (hs : starEach [e] env = [(false, eval e env)] := by rfl) :
    Ev PW w mg mb n env ρ (.Call (.Name "int" p) [e] [] pos) U :=
  Ev.callT hk (gv.free _ (.inr (.inr (.inr (.inr (.inl rfl)))))) gv.int (EvsO.cons he EvsO.nil hs) hc rfl hs

/- hsv_to_rgb -/
noncomputable def hsvI (h s v : UInt64) (i : Int) : UInt64 × UInt64 × UInt64 :=
  let f := Float64.sub (Float64.mul h f6) (Float64.ofInt i)
  let p := Float64.mul v (Float64.sub f1 s)
  let q := Float64.mul v (Float64.sub f1 (Float64.mul s f))
  let t := Float64.mul v (Float64.sub f1 (Float64.mul s (Float64.sub f1 f)))
  match i.fmod 6 with
  | 0 => (v, t, p)
  | 1 => (q, v, p)
  | 2 => (p, v, t)
  | 3 => (p, q, v)
  | 4 => (t, p, v)
  | _ => (v, p, q)
noncomputable def hsvF (h s v : UInt64) : Option (UInt64 × UInt64 × UInt64) :=
  if isEq s f0 then some (v, v, v) else
  match truncI (Float64.mul h f6) with
  | some i => if i.natAbs < 1000000 then some (hsvI h s v i) else none
  | none => none
noncomputable abbrev F3 (r : UInt64 × UInt64 × UInt64) : AV := .tup [.flt r.1, .flt r.2.1, .flt r.2.2]
theorem ok2 : DefOk (dAt 2) ["h", "s", "v"] := ⟨by decide, fun pm code doc vs h => by match vs, h with | [a, b, c], _ => rfl, fun k => rfl, rfl, rfl⟩
theorem fmod6 (i : Int) : i.fmod 6 = 0 ∨ i.fmod 6 = 1 ∨ i.fmod 6 = 2 ∨ i.fmod 6 = 3 ∨ i.fmod 6 = 4 ∨ i.fmod 6 = 5 := by
  have h1 := Int.fmod_nonneg_of_pos i (b := 6) (by decide)
  have h2 := Int.fmod_lt_of_pos i (b := 6) (by decide)
  omega
theorem spec2 (gv : GV mg mb) {h s v : UInt64} {r : UInt64 × UInt64 × UInt64} (hr : hsvF h s v = some r) : Spec PW w mg mb (n + 1) "hsv_to_rgb" [.flt h, .flt s, .flt v] (F3 r) := by
  refine Spec.intro (dAt_mem (k := 2) (by decide)) rfl ok2 rfl rfl fun pm code doc L ad => ?_
  show ∃ ρ', Sx PW w mg mb n (E0 2 pm code doc L ad) [("h", ⟨.flt h, none⟩), ("s", ⟨.flt s, none⟩), ("v", ⟨.flt v, none⟩)] (dAt 2).body ρ' _
  unfold hsvF at hr
  cases c : isEq s f0 with
  | true =>
    rw [c, if_pos rfl] at hr
    cases hr
    exact ⟨_, Sx.stop (St.ifS (c := true) (Tr.of (Tr.cmp (EvO.var rfl) Ev.cflt.toO OpC.eqF) c) (fun _ => Sx.stop (St.ret (Ev.tup (Evs.cons (Ev.var rfl) (Evs.cons (Ev.var rfl) (Evs.cons (Ev.var rfl) Evs.nil)))))) (fun h => by cases h))⟩
  | false =>
    rw [c, if_neg Bool.false_ne_true] at hr
    cases ht : truncI (Float64.mul h f6) with
    | none => rw [ht] at hr; cases hr
    | some i =>
      rw [ht] at hr
      dsimp only at hr
      by_cases hi : i.natAbs < 1000000
      · rw [if_pos hi] at hr
        cases hr
        have big : i.natAbs < 2 ^ 1023 := Nat.lt_trans hi (by decide +kernel)
        have front : ∀ {ρ' r}, Sx PW w mg mb n (E0 2 pm code doc L ad) [("i", ⟨.int (i.fmod 6), none⟩), ("v", ⟨.flt v, none⟩), ("p", ⟨.flt (Float64.mul v (Float64.sub f1 s)), none⟩),
            ("q", ⟨.flt (Float64.mul v (Float64.sub f1 (Float64.mul s (Float64.sub (Float64.mul h f6) (Float64.ofInt i))))), none⟩),
            ("t", ⟨.flt (Float64.mul v (Float64.sub f1 (Float64.mul s (Float64.sub f1 (Float64.sub (Float64.mul h f6) (Float64.ofInt i)))))), none⟩)] ((dAt 2).body.drop 7) ρ' r → Sx PW w mg mb n (E0 2 pm code doc L ad) [("h", ⟨.flt h, none⟩), ("s", ⟨.flt s, none⟩), ("v", ⟨.flt v, none⟩)] (dAt 2).body ρ' r := by
          intro ρ' r hS
          refine Sx.cons (St.ifS (c := false) (Tr.of (Tr.cmp (EvO.var rfl) Ev.cflt.toO OpC.eqF) c) (fun h => by cases h) (fun _ => Sx.nil)) ?_
          refine Sx.cons (St.assign (Ev.int gv (Ev.bin (EvO.var rfl) Ev.cflt.toO OpB.mulF).toO (CallB.intF ht) rfl) (.inl rfl)) ?_
          refine Sx.cons (St.assign (Ev.bin (Ev.bin (EvO.var rfl) Ev.cflt.toO OpB.mulF).toO (EvO.var rfl) (OpB.subFI big)) (.inl rfl)) ?_
          refine Sx.cons (St.assign (Ev.bin (EvO.var rfl) (Ev.bin Ev.cflt.toO (EvO.var rfl) OpB.subF).toO OpB.mulF) (.inl rfl)) ?_
          refine Sx.cons (St.assign (Ev.bin (EvO.var rfl) (Ev.bin Ev.cflt.toO (Ev.bin (EvO.var rfl) (EvO.var rfl) OpB.mulF).toO OpB.subF).toO OpB.mulF) (.inl rfl)) ?_
          refine Sx.cons (St.assign (Ev.bin (EvO.var rfl) (Ev.bin Ev.cflt.toO (Ev.bin (EvO.var rfl) (Ev.bin Ev.cflt.toO (EvO.var rfl) OpB.subF).toO OpB.mulF).toO OpB.subF).toO OpB.mulF) (.inl rfl)) ?_
          refine Sx.cons (St.assign (Ev.bin (EvO.var rfl) Ev.cint.toO (OpB.modI (by decide))) (.inl rfl)) (Sx.pre ?_ hS)
          repeat (first | exact Sub.nil | refine Sub.cons rfl ?_)
        unfold hsvI
        rcases fmod6 i with e | e | e | e | e | e <;> rw [e] at front ⊢ <;> dsimp only
        all_goals refine ⟨[], front ?_⟩
        all_goals (iterate 6 (first
          | exact Sx.post (Sx.stop (St.ifS (c := true) (Tr.of (Tr.cmp (EvO.var rfl) Ev.cint.toO OpC.eqI) rfl) (fun _ => Sx.stop (St.ret (Ev.tup (Evs.cons (Ev.var rfl) (Evs.cons (Ev.var rfl) (Evs.cons (Ev.var rfl) Evs.nil)))))) (fun h => by cases h))) Sub.nil
          | refine Sx.cons (St.ifS (c := false) (Tr.of (Tr.cmp (EvO.var rfl) Ev.cint.toO OpC.eqI) rfl) (fun h => by cases h) (fun _ => Sx.nil)) ?_
          | skip))
      · rw [if_neg hi] at hr; cases hr

/- rgb_to_hls -/
theorem isFloatCmp (prog : Program) (w : World) (val : Nat → UInt64) {A : Around} {P : Nat → Value → Prop} (hval : ∀ i v, P i v → ∃ t, v = .float (val i) t) :
    CmpOf prog w A .Gt P (fun i j => isGt (val i) (val j)) ∧ CmpOf prog w A .Lt P (fun i j => isLt (val i) (val j)) := by
  refine ⟨fun i j vi vj s Q E hi hj h => ?_, fun i j vi vj s Q E hi hj h => ?_⟩ <;> (obtain ⟨t, rfl⟩ := hval i vi hi; obtain ⟨u, rfl⟩ := hval j vj hj)
  · exact AutoFloatOps.gt_0 h
  · exact AutoFloatOps.lt_0 h
noncomputable def pick3 (bt : UInt64 → UInt64 → Bool) (a b c : UInt64) : UInt64 :=
  let m := if bt b a then b else a
  if bt c m then c else m
noncomputable def pick2 (bt : UInt64 → UInt64 → Bool) (a b : UInt64) : UInt64 := if bt b a then b else a
end Mine
end
section
set_option maxRecDepth 100000
set_option maxHeartbeats 4000000
namespace Mine
variable {w : World} {mg mb : Str → Option Value} {n : Nat} {prog : Program} {env : Env} {ρ ρ' : PEnv}
noncomputable def valOf3 (a b c : UInt64) : Nat → UInt64 | 0 => a | 1 => b | _ => c
theorem at3 {a b c : UInt64} {ta tb tc : Tok} {i : Nat} {v : Value} (h : (#[.float a ta, .float b tb, .float c tc] : Array Value)[i]? = some v) : ∃ t, v = .float (valOf3 a b c i) t := by
  match i, h with
  | 0, h => simp at h; exact ⟨_, h.symm⟩
  | 1, h => simp at h; exact ⟨_, h.symm⟩
  | 2, h => simp at h; exact ⟨_, h.symm⟩
  | k + 3, h => simp at h
theorem best3 (bt : UInt64 → UInt64 → Bool) (a b c : UInt64) : valOf3 a b c (argBest (fun i j => bt (valOf3 a b c i) (valOf3 a b c j)) 2) = pick3 bt a b c := by
  unfold pick3 argBest argBest argBest
  simp only [valOf3]
  by_cases h1 : bt b a = true
  · simp only [h1, if_true, valOf3]
    by_cases h2 : bt c b = true
    · simp [h2, valOf3]
    · simp [h2, valOf3]
  · simp only [h1, valOf3]
    by_cases h2 : bt c a = true
    · simp [h2, valOf3]
    · simp [h2, valOf3]
theorem three_core {A : Around} {s : Shared} {a b c : UInt64} {ta tb tc : Tok} {Q E : Value → Shared → Prop} {op : CmpOp} {bt : UInt64 → UInt64 → Bool} {X : List Addr} (ao : AOk n A) (q : Post prog w X s Q (.flt (pick3 bt a b c)))
    (hc : CmpOf prog w A.in1 op (fun i v => (#[.float a ta, .float b tb, .float c tc] : Array Value)[i]? = some v) (fun i j => bt (valOf3 a b c i) (valOf3 a b c j))) :
    wpAny (model prog w) A.in1 (pyIter (.ref s.heap.objs.size)) (fun it s₂ => ∃ I fp wr n P St bt, it = .ref I ∧ Walks prog w A.in1 I fp wr n P St ∧ St 0 s₂.heap ∧ (∀ b ∈ fp, b < s₂.heap.objs.size) ∧ 0 < n ∧ CmpOf prog w A.in1 op P bt ∧
      ∀ v h' tk, P (argBest bt (n - 1)) v → (∀ b o, b ∉ wr → s₂.heap.get? b = some o → h'.get? b = some o) → Q v { s₂ with heap := h', toks := tk }) E
      { s with heap := s.heap.push { cls := .type "tuple", data := .seq #[.float a ta, .float b tb, .float c tc] } } := by
  have hT : (s.heap.push { cls := .type "tuple", data := .seq #[.float a ta, .float b tb, .float c tc] }).IsTuple s.heap.objs.size #[.float a ta, .float b tb, .float c tc] := ⟨_, Heap.get?_push_size _ rfl, rfl, 0, rfl⟩
  refine wpAny_pyIter_tuple hT ?_
  have hsz : (s.heap.push { cls := .type "tuple", data := .seq #[.float a ta, .float b tb, .float c tc] }).objs.size = s.heap.objs.size + 1 := Heap.size_push ..
  refine ⟨_, [_, s.heap.objs.size], [_], _, _, _, _, rfl, Walks.tuple (A := A.in1) ao.handled _ s.heap.objs.size (by rw [hsz]; exact Nat.ne_of_lt (Nat.lt_succ_self _)) #[.float a ta, .float b tb, .float c tc],
    ⟨⟨_, Heap.get?_push_size _ rfl, rfl, rfl⟩, hT.push _⟩, fun d hd => ?_, by simp, hc, fun v h' tk hP hk => ?_⟩
  · show d < ((s.heap.push _).push _).objs.size
    rw [Heap.size_push, hsz]
    rcases List.mem_cons.mp hd with rfl | hd
    · rw [hsz]; exact Nat.lt_succ_self _
    · rcases List.mem_cons.mp hd with rfl | hd
      · exact Nat.lt_succ_of_lt (Nat.lt_succ_self _)
      · cases hd
  · have hold : ∀ d o, s.heap.get? d = some o → h'.get? d = some o := fun d o e => by
      refine hk d o (fun hm => ?_) (Heap.get?_push_of_some _ (Heap.get?_push_of_some _ e))
      rcases List.mem_cons.mp hm with e1 | hm
      · have := Heap.lt_size e; rw [e1, hsz] at this; exact Nat.lt_irrefl _ (Nat.lt_of_succ_lt this)
      · cases hm
    obtain ⟨t, rfl⟩ := at3 hP
    have e : valOf3 a b c (argBest (fun i j => bt (valOf3 a b c i) (valOf3 a b c j)) 2) = pick3 bt a b c := best3 bt a b c
    have e2 : (#[.float a ta, .float b tb, .float c tc] : Array Value).size - 1 = 2 := rfl
    rw [e2, e]
    exact q _ _ (Ext.heap hold tk) (.sc (.flt _ _)) (Av.sc (.flt _ t))
theorem CallB.max3 {a b c : UInt64} : CallB prog w (.builtin "max") [.flt a, .flt b, .flt c] (.flt (pick3 isGt a b c)) := by
  intro n A X s Q E vs ao _ rs q
  obtain ⟨v1, v2, v3, rfl, r1, r2, r3⟩ := rs.inv3
  obtain ⟨ta, rfl⟩ := r1.flt_inv; obtain ⟨tb, rfl⟩ := r2.flt_inv; obtain ⟨tc, rfl⟩ := r3.flt_inv
  exact call_max_three (three_core ao q (isFloatCmp prog w (valOf3 a b c) fun _ _ => at3).1)
theorem CallB.min3 {a b c : UInt64} : CallB prog w (.builtin "min") [.flt a, .flt b, .flt c] (.flt (pick3 isLt a b c)) := by
  intro n A X s Q E vs ao _ rs q
  obtain ⟨v1, v2, v3, rfl, r1, r2, r3⟩ := rs.inv3
  obtain ⟨ta, rfl⟩ := r1.flt_inv; obtain ⟨tb, rfl⟩ := r2.flt_inv; obtain ⟨tc, rfl⟩ := r3.flt_inv
  exact call_min_three (three_core ao q (isFloatCmp prog w (valOf3 a b c) fun _ _ => at3).2)
/- of a list of two -/
noncomputable def valOf2 (a b : UInt64) : Nat → UInt64 | 0 => a | _ => b
theorem two_core {A : Around} {s : Shared} {a b : UInt64} {v : Value} {Q E : Value → Shared → Prop} {op : CmpOp} {bt : UInt64 → UInt64 → Bool} {X : List Addr} (ao : AOk n A) (lv : Live X s.heap) (r : R prog w X s.heap v (.list [.flt a, .flt b])) (q : Post prog w X s Q (.flt (pick2 bt a b)))
    (hc : ∀ P : Nat → Value → Prop, (∀ i v, P i v → ∃ t, v = .float (valOf2 a b i) t) → CmpOf prog w A.in1 op P (fun i j => bt (valOf2 a b i) (valOf2 a b j))) :
    wpAny (model prog w) A.in1 (pyIter v) (fun it s₂ => ∃ I fp wr n P St bt, it = .ref I ∧ Walks prog w A.in1 I fp wr n P St ∧ St 0 s₂.heap ∧ (∀ b ∈ fp, b < s₂.heap.objs.size) ∧ 0 < n ∧ CmpOf prog w A.in1 op P bt ∧
      ∀ v h' tk, P (argBest bt (n - 1)) v → (∀ b o, b ∉ wr → s₂.heap.get? b = some o → h'.get? b = some o) → Q v { s₂ with heap := h', toks := tk }) E s := by
  obtain ⟨l, k, vs, rfl, e₁, rs⟩ := r.list_inv
  refine wpAny_pyIter_list (isList_of e₁) ?_
  have hlt : l < s.heap.objs.size := Heap.lt_size e₁
  have hvs : ∃ ta tb, vs = [Value.float a ta, Value.float b tb] := by
    cases rs with
    | cons _ r1 rs => cases rs with
      | cons _ r2 rs => cases rs; obtain ⟨ta, rfl⟩ := r1.flt_inv; obtain ⟨tb, rfl⟩ := r2.flt_inv; exact ⟨_, _, rfl⟩
  obtain ⟨ta, tb, rfl⟩ := hvs
  have hat : ∀ (i : Nat) (v : Value), (#[.float a ta, .float b tb] : Array Value)[i]? = some v → ∃ t, v = .float (valOf2 a b i) t := fun i v h => by
    match i, h with
    | 0, h => simp at h; exact ⟨_, h.symm⟩
    | 1, h => simp at h; exact ⟨_, h.symm⟩
    | k + 2, h => simp at h
  refine ⟨_, [s.heap.objs.size, l], [s.heap.objs.size], _, _, _, _, rfl, Walks.list (A := A.in1) ao.handled s.heap.objs.size l (Nat.ne_of_lt hlt) #[.float a ta, .float b tb], ⟨⟨_, Heap.get?_push_size _ rfl, rfl, rfl⟩, (isList_of e₁).push _⟩, fun d hd => ?_, by simp, hc _ hat, fun v h' tk hP hk => ?_⟩
  · show d < (s.heap.push _).objs.size
    rw [Heap.size_push]
    rcases List.mem_cons.mp hd with rfl | hd
    · exact Nat.lt_succ_self _
    · rcases List.mem_cons.mp hd with rfl | hd
      · exact Nat.lt_succ_of_lt hlt
      · cases hd
  · have hold : ∀ d o, s.heap.get? d = some o → h'.get? d = some o := fun d o e => by
      refine hk d o (fun hm => ?_) (Heap.get?_push_of_some _ e)
      rcases List.mem_cons.mp hm with e1 | hm
      · have := Heap.lt_size e; rw [e1] at this; exact Nat.lt_irrefl _ this
      · cases hm
    obtain ⟨t, rfl⟩ := hat _ _ hP
    have e2 : (#[.float a ta, .float b tb] : Array Value).size - 1 = 1 := rfl
    have e : valOf2 a b (argBest (fun i j => bt (valOf2 a b i) (valOf2 a b j)) 1) = pick2 bt a b := by
      unfold pick2 argBest argBest
      simp only [valOf2]
      by_cases h1 : bt b a = true <;> simp [h1, valOf2]
    rw [e2, e]
    exact q _ _ (Ext.heap hold tk) (.sc (.flt _ _)) (Av.sc (.flt _ t))
theorem CallB.max2 {a b : UInt64} : CallB prog w (.builtin "max") [.list [.flt a, .flt b]] (.flt (pick2 isGt a b)) := by
  intro n A X s Q E vs ao lv rs q
  obtain ⟨v1, rfl, r1⟩ := rs.inv1
  exact call_max_walk (two_core ao lv r1 q fun P hP => (isFloatCmp prog w (valOf2 a b) hP).1)
theorem CallB.min2 {a b : UInt64} : CallB prog w (.builtin "min") [.list [.flt a, .flt b]] (.flt (pick2 isLt a b)) := by
  intro n A X s Q E vs ao lv rs q
  obtain ⟨v1, rfl, r1⟩ := rs.inv1
  exact call_min_walk (two_core ao lv r1 q fun P hP => (isFloatCmp prog w (valOf2 a b) hP).2)
theorem Ev.max {e : PySem.Expr} {es : List PySem.Expr} {p pos : Pos} {Vs : List AV} {U : AV} (gv : GV mg mb) (he : EvsO PW w mg mb n env ρ (e :: es) Vs) (hc : CallB PW w (.builtin "max") Vs U) (hk : env.kindOf "max" = some .globalImplicit) (hs : starEach (e :: es) env = (false, eval e env) :: starEach es env := by rfl)
    (hpl : (backTo pos (starEach es env)).any (·.1) = false := by rfl) : Ev PW w mg mb n env ρ (.Call (.Name "max" p) (e :: es) [] pos) U :=
  Ev.callB hk (gv.free _ (.inr (.inr (.inr (.inl rfl))))) gv.max he hc rfl hs hpl
theorem Ev.min {e : PySem.Expr} {es : List PySem.Expr} {p pos : Pos} {Vs : List AV} {U : AV} (gv : GV mg mb) (he : EvsO PW w mg mb n env ρ (e :: es) Vs) (hc : CallB PW w (.builtin "min") Vs U) (hk : env.kindOf "min" = some .globalImplicit) (hs : starEach (e :: es) env = (false, eval e env) :: starEach es env := by rfl)
    (hpl : (backTo pos (starEach es env)).any (·.1) = false := by rfl) : Ev PW w mg mb n env ρ (.Call (.Name "min" p) (e :: es) [] pos) U :=
  Ev.callB hk (gv.free _ (.inr (.inr (.inl rfl)))) gv.min he hc rfl hs hpl

/- rgb_to_hls -/
noncomputable def hlsF (r g b : UInt64) : Option (UInt64 × UInt64 × UInt64) :=
  let maxc := pick3 isGt r g b
  let minc := pick3 isLt r g b
  let sumc := Float64.add maxc minc
  let rangec := Float64.sub maxc minc
  let l := Float64.div sumc f2
  if isEq minc maxc then some (f0, l, f0) else
  let d := Float64.sub (Float64.sub f2 maxc) minc
  if (if isLe l fh then Float64.isZero sumc else Float64.isZero d) then none else
  if Float64.isZero rangec then none else
  let s := if isLe l fh then Float64.div rangec sumc else Float64.div rangec d
  let rc := Float64.div (Float64.sub maxc r) rangec
  let gc := Float64.div (Float64.sub maxc g) rangec
  let bc := Float64.div (Float64.sub maxc b) rangec
  let h := if isEq r maxc then Float64.sub bc gc else if isEq g maxc then Float64.sub (Float64.add f2 rc) bc else Float64.sub (Float64.add f4 gc) rc
  some ((Float64.divmod (Float64.div h f6) f1).2, l, s)
theorem ok1 : DefOk (dAt 1) ["r", "g", "b"] := ⟨by decide, fun pm code doc vs h => by match vs, h with | [a, b, c], _ => rfl, fun k => rfl, rfl, rfl⟩
theorem spec1 (gv : GV mg mb) {r g b : UInt64} {z : UInt64 × UInt64 × UInt64} (hz : hlsF r g b = some z) : Spec PW w mg mb (n + 1) "rgb_to_hls" [.flt r, .flt g, .flt b] (F3 z) := by
  refine Spec.intro (dAt_mem (k := 1) (by decide)) rfl ok1 rfl rfl fun pm code doc L ad => ?_
  show ∃ ρ', Sx PW w mg mb n (E0 1 pm code doc L ad) [("r", ⟨.flt r, none⟩), ("g", ⟨.flt g, none⟩), ("b", ⟨.flt b, none⟩)] (dAt 1).body ρ' _
  unfold hlsF at hz
  dsimp only at hz
  generalize hM : pick3 isGt r g b = maxc at hz
  generalize hm : pick3 isLt r g b = minc at hz
  have front : ∀ {ρ' q}, Sx PW w mg mb n (E0 1 pm code doc L ad) [("r", ⟨.flt r, none⟩), ("g", ⟨.flt g, none⟩), ("b", ⟨.flt b, none⟩), ("maxc", ⟨.flt maxc, none⟩), ("minc", ⟨.flt minc, none⟩), ("sumc", ⟨.flt (Float64.add maxc minc), none⟩), ("rangec", ⟨.flt (Float64.sub maxc minc), none⟩),
      ("l", ⟨.flt (Float64.div (Float64.add maxc minc) f2), none⟩)] ((dAt 1).body.drop 5) ρ' q → Sx PW w mg mb n (E0 1 pm code doc L ad) [("r", ⟨.flt r, none⟩), ("g", ⟨.flt g, none⟩), ("b", ⟨.flt b, none⟩)] (dAt 1).body ρ' q := by
    intro ρ' q hS
    refine Sx.cons (St.assign (Ev.of (Ev.max gv (EvsO.cons (EvO.var rfl) (EvsO.cons (EvO.var rfl) (EvsO.cons (EvO.var rfl) EvsO.nil))) CallB.max3 rfl) (by rw [hM])) (.inl rfl)) ?_
    refine Sx.cons (St.assign (Ev.of (Ev.min gv (EvsO.cons (EvO.var rfl) (EvsO.cons (EvO.var rfl) (EvsO.cons (EvO.var rfl) EvsO.nil))) CallB.min3 rfl) (by rw [hm])) (.inl rfl)) ?_
    refine Sx.cons (St.assign (Ev.bin (EvO.var rfl) (EvO.var rfl) OpB.addF) (.inl rfl)) (Sx.cons (St.assign (Ev.bin (EvO.var rfl) (EvO.var rfl) OpB.subF) (.inl rfl)) ?_)
    refine Sx.cons (St.assign (Ev.bin (EvO.var rfl) Ev.cflt.toO (OpB.divF (by decide +kernel))) (.inl rfl)) (Sx.pre ?_ hS)
    repeat (first | exact Sub.nil | refine Sub.cons rfl ?_)
  cases c1 : isEq minc maxc with
  | true =>
    rw [c1, if_pos rfl] at hz
    cases hz
    exact ⟨_, front (Sx.stop (St.ifS (c := true) (Tr.of (Tr.cmp (EvO.var rfl) (EvO.var rfl) OpC.eqF) c1) (fun _ => Sx.stop (St.ret (Ev.tup (Evs.cons Ev.cflt (Evs.cons (Ev.var rfl) (Evs.cons Ev.cflt Evs.nil)))))) (fun h => by cases h)))⟩
  | false =>
    rw [c1, if_neg Bool.false_ne_true] at hz
    by_cases c2 : (if isLe (Float64.div (Float64.add maxc minc) f2) fh = true then Float64.isZero (Float64.add maxc minc) else Float64.isZero (Float64.sub (Float64.sub f2 maxc) minc)) = true
    · rw [if_pos c2] at hz; cases hz
    · rw [if_neg c2] at hz
      by_cases c3 : Float64.isZero (Float64.sub maxc minc) = true
      · rw [if_pos c3] at hz; cases hz
      · rw [if_neg c3] at hz
        cases hz
        generalize hs : (if isLe (Float64.div (Float64.add maxc minc) f2) fh = true then Float64.div (Float64.sub maxc minc) (Float64.add maxc minc) else Float64.div (Float64.sub maxc minc) (Float64.sub (Float64.sub f2 maxc) minc)) = sv
        have sS : St PW w mg mb n (E0 1 pm code doc L ad) [("r", ⟨.flt r, none⟩), ("g", ⟨.flt g, none⟩), ("b", ⟨.flt b, none⟩), ("maxc", ⟨.flt maxc, none⟩), ("minc", ⟨.flt minc, none⟩), ("sumc", ⟨.flt (Float64.add maxc minc), none⟩), ("rangec", ⟨.flt (Float64.sub maxc minc), none⟩),
            ("l", ⟨.flt (Float64.div (Float64.add maxc minc) f2), none⟩)] (nth (dAt 1).body 6) [("s", ⟨.flt sv, none⟩), ("r", ⟨.flt r, none⟩), ("g", ⟨.flt g, none⟩), ("b", ⟨.flt b, none⟩), ("maxc", ⟨.flt maxc, none⟩), ("rangec", ⟨.flt (Float64.sub maxc minc), none⟩), ("l", ⟨.flt (Float64.div (Float64.add maxc minc) f2), none⟩)] none := by
          rw [← hs]
          cases c4 : isLe (Float64.div (Float64.add maxc minc) f2) fh with
          | true =>
            rw [c4, if_pos rfl] at c2
            rw [if_pos rfl]
            refine St.post (St.ifS (c := true) (Tr.of (Tr.cmp (EvO.var rfl) Ev.cflt.toO OpC.leF) c4) (fun _ => Sx.cons (St.assign (Ev.bin (EvO.var rfl) (EvO.var rfl) (OpB.divF c2)) (.inl rfl)) Sx.nil) (fun h => by cases h)) ?_
            repeat (first | exact Sub.nil | refine Sub.cons rfl ?_)
          | false =>
            rw [c4, if_neg Bool.false_ne_true] at c2
            rw [if_neg Bool.false_ne_true]
            refine St.post (St.ifS (c := false) (Tr.of (Tr.cmp (EvO.var rfl) Ev.cflt.toO OpC.leF) c4) (fun h => by cases h) (fun _ => Sx.cons (St.assign (Ev.bin (EvO.var rfl) (Ev.bin (Ev.bin Ev.cflt.toO (EvO.var rfl) OpB.subF).toO (EvO.var rfl) OpB.subF).toO (OpB.divF c2)) (.inl rfl)) Sx.nil)) ?_
            repeat (first | exact Sub.nil | refine Sub.cons rfl ?_)
        generalize hrc : Float64.div (Float64.sub maxc r) (Float64.sub maxc minc) = rc
        generalize hgc : Float64.div (Float64.sub maxc g) (Float64.sub maxc minc) = gc
        generalize hbc : Float64.div (Float64.sub maxc b) (Float64.sub maxc minc) = bc
        generalize hh : (if isEq r maxc = true then Float64.sub bc gc else if isEq g maxc = true then Float64.sub (Float64.add f2 rc) bc else Float64.sub (Float64.add f4 gc) rc) = hv
        have hH : St PW w mg mb n (E0 1 pm code doc L ad) [("rc", ⟨.flt rc, none⟩), ("gc", ⟨.flt gc, none⟩), ("bc", ⟨.flt bc, none⟩), ("s", ⟨.flt sv, none⟩), ("r", ⟨.flt r, none⟩), ("g", ⟨.flt g, none⟩), ("b", ⟨.flt b, none⟩), ("maxc", ⟨.flt maxc, none⟩), ("l", ⟨.flt (Float64.div (Float64.add maxc minc) f2), none⟩)]
            (nth (dAt 1).body 10) [("h", ⟨.flt hv, none⟩), ("l", ⟨.flt (Float64.div (Float64.add maxc minc) f2), none⟩), ("s", ⟨.flt sv, none⟩)] none := by
          rw [← hh]
          cases c5 : isEq r maxc with
          | true =>
            rw [if_pos rfl]
            refine St.post (St.ifS (c := true) (Tr.of (Tr.cmp (EvO.var rfl) (EvO.var rfl) OpC.eqF) c5) (fun _ => Sx.cons (St.assign (Ev.bin (EvO.var rfl) (EvO.var rfl) OpB.subF) (.inl rfl)) Sx.nil) (fun h => by cases h)) ?_
            repeat (first | exact Sub.nil | refine Sub.cons rfl ?_)
          | false =>
            rw [if_neg Bool.false_ne_true]
            cases c6 : isEq g maxc with
            | true =>
              rw [if_pos rfl]
              refine St.post (St.ifS (c := false) (Tr.of (Tr.cmp (EvO.var rfl) (EvO.var rfl) OpC.eqF) c5) (fun h => by cases h) (fun _ => Sx.cons (St.ifS (c := true) (Tr.of (Tr.cmp (EvO.var rfl) (EvO.var rfl) OpC.eqF) c6) (fun _ => Sx.cons (St.assign (Ev.bin (Ev.bin Ev.cflt.toO (EvO.var rfl) OpB.addF).toO (EvO.var rfl) OpB.subF) (.inl rfl)) Sx.nil) (fun h => by cases h)) Sx.nil)) ?_
              repeat (first | exact Sub.nil | refine Sub.cons rfl ?_)
            | false =>
              rw [if_neg Bool.false_ne_true]
              refine St.post (St.ifS (c := false) (Tr.of (Tr.cmp (EvO.var rfl) (EvO.var rfl) OpC.eqF) c5) (fun h => by cases h) (fun _ => Sx.cons (St.ifS (c := false) (Tr.of (Tr.cmp (EvO.var rfl) (EvO.var rfl) OpC.eqF) c6) (fun h => by cases h) (fun _ => Sx.cons (St.assign (Ev.bin (Ev.bin Ev.cflt.toO (EvO.var rfl) OpB.addF).toO (EvO.var rfl) OpB.subF) (.inl rfl)) Sx.nil)) Sx.nil)) ?_
              repeat (first | exact Sub.nil | refine Sub.cons rfl ?_)
        refine ⟨_, front (Sx.cons (St.ifS (c := false) (Tr.of (Tr.cmp (EvO.var rfl) (EvO.var rfl) OpC.eqF) c1) (fun h => by cases h) (fun _ => Sx.nil)) (Sx.cons sS
          (Sx.cons (St.assign (Ev.of (Ev.bin (Ev.bin (EvO.var rfl) (EvO.var rfl) OpB.subF).toO (EvO.var rfl) (OpB.divF c3)) (by rw [hrc])) (.inl rfl))
          (Sx.cons (St.assign (Ev.of (Ev.bin (Ev.bin (EvO.var rfl) (EvO.var rfl) OpB.subF).toO (EvO.var rfl) (OpB.divF c3)) (by rw [hgc])) (.inl rfl))
          (Sx.cons (St.assign (Ev.of (Ev.bin (Ev.bin (EvO.var rfl) (EvO.var rfl) OpB.subF).toO (EvO.var rfl) (OpB.divF c3)) (by rw [hbc])) (.inl rfl))
          (Sx.pre ?_ (Sx.cons hH (Sx.cons (St.assign (Ev.bin (Ev.bin (EvO.var rfl) Ev.cflt.toO (OpB.divF (by decide +kernel))).toO Ev.cflt.toO (OpB.modF (by decide +kernel))) (.inl rfl))
            (Sx.stop (St.ret (Ev.tup (Evs.cons (Ev.var rfl) (Evs.cons (Ev.var rfl) (Evs.cons (Ev.var rfl) Evs.nil))))))))))))))⟩
        repeat (first | exact Sub.nil | refine Sub.cons rfl ?_)
end Mine
end
section
set_option maxRecDepth 100000
set_option maxHeartbeats 4000000
namespace Mine
variable {w : World} {mg mb : Str → Option Value} {n : Nat} {prog : Program} {env : Env} {ρ ρ' : PEnv}
theorem GV.at {mg mb : Str → Option Value} (gv : GV mg mb) {k : Nat} (h : k < 12) : ∃ a, mg (dAt k).name = some (.ref a) := gv.fn _ (dAt_mem h)
/- a call of one of the defs -/
theorem Ev.callD {f : Str} {p pos : Pos} {e : PySem.Expr} {es : List PySem.Expr} {Vs : List AV} {V : AV} (gv : GV mg mb) (k : Nat) (hk12 : k < 12) (hf : (dAt k).name = f) (ha : Evs PW w mg mb n env ρ (e :: es) Vs) (hc : Spec PW w mg mb n f Vs V) (hk : env.kindOf f = some .globalImplicit)
    (hd : (f == ("__debug__" : Str)) = false := by rfl) (hs : starEach (e :: es) env = (false, eval e env) :: starEach es env := by rfl) : Ev PW w mg mb n env ρ (.Call (.Name f p) (e :: es) [] pos) V := by
  obtain ⟨a, h⟩ := gv.at hk12
  rw [hf] at h
  exact Ev.callF hk h ha hc hd hs
noncomputable def fracI (i j : Int) : UInt64 := Float64.ofFrac (decide (i < 0) != decide (j < 0)) i.natAbs j.natAbs
noncomputable def seenIn (x k : Int) : UInt64 × UInt64 × UInt64 := (Float64.add (fracI (x.fmod 16) 16) (Float64.ofInt k), fracI ((x.fdiv 16).fmod 3) 2, fracI (1 + x.fdiv 48) 2)
noncomputable def seenF (x k : Int) : Option (UInt64 × UInt64 × UInt64) :=
  match hsvF (seenIn x k).1 (seenIn x k).2.1 (seenIn x k).2.2 with
  | some r => hlsF r.1 r.2.1 r.2.2
  | none => none
theorem ok6 : DefOk (dAt 6) ["x", "turns"] := ⟨by decide, fun pm code doc vs h => by match vs, h with | [a, b], _ => rfl, fun k => rfl, rfl, rfl⟩
theorem infs : (∀ m : Fin 16, ¬ Float64.isInf (fracI (m : Nat) 16) = true) ∧ (∀ m : Fin 3, ¬ Float64.isInf (fracI (m : Nat) 2) = true) ∧ (∀ m : Fin 3, ¬ Float64.isInf (fracI (1 + (m : Nat)) 2) = true) := by decide +kernel
theorem spec6 (gv : GV mg mb) {x k : Int} (h0 : 0 ≤ x) (h1 : x < 96) (k0 : 0 ≤ k) (k1 : k < 5) {z : UInt64 × UInt64 × UInt64} (hz : seenF x k = some z) : Spec PW w mg mb (n + 2) "_law_seen" [.int x, .int k] (.list [.flt z.1, .flt z.2.1]) := by
  refine Spec.intro (dAt_mem (k := 6) (by decide)) rfl ok6 rfl rfl fun pm code doc L ad => ?_
  show ∃ ρ', Sx PW w mg mb (n + 1) (E0 6 pm code doc L ad) [("x", ⟨.int x, none⟩), ("turns", ⟨.int k, none⟩)] (dAt 6).body ρ' _
  unfold seenF at hz
  cases hr : hsvF (seenIn x k).1 (seenIn x k).2.1 (seenIn x k).2.2 with
  | none => rw [hr] at hz; cases hz
  | some r =>
    rw [hr] at hz
    dsimp only at hz
    have e16 : x.fmod 16 = x % 16 := Int.fmod_eq_emod_of_nonneg x (by decide)
    have d16 : x.fdiv 16 = x / 16 := Int.fdiv_eq_ediv_of_nonneg x (by decide)
    have d48 : x.fdiv 48 = x / 48 := Int.fdiv_eq_ediv_of_nonneg x (by decide)
    have e3 : (x.fdiv 16).fmod 3 = (x.fdiv 16) % 3 := Int.fmod_eq_emod_of_nonneg _ (by decide)
    have i1 : ¬ Float64.isInf (fracI (x.fmod 16) 16) = true := by
      have := infs.1 ⟨(x.fmod 16).toNat, by omega⟩
      have e : (((⟨(x.fmod 16).toNat, by omega⟩ : Fin 16) : Nat) : Int) = x.fmod 16 := by show (((x.fmod 16).toNat : Nat) : Int) = _; omega
      rwa [e] at this
    have i2 : ¬ Float64.isInf (fracI ((x.fdiv 16).fmod 3) 2) = true := by
      have := infs.2.1 ⟨((x.fdiv 16).fmod 3).toNat, by omega⟩
      have e : (((⟨((x.fdiv 16).fmod 3).toNat, by omega⟩ : Fin 3) : Nat) : Int) = (x.fdiv 16).fmod 3 := by show ((((x.fdiv 16).fmod 3).toNat : Nat) : Int) = _; omega
      rwa [e] at this
    have i3 : ¬ Float64.isInf (fracI (1 + x.fdiv 48) 2) = true := by
      have := infs.2.2 ⟨(x.fdiv 48).toNat, by omega⟩
      have e : (((⟨(x.fdiv 48).toNat, by omega⟩ : Fin 3) : Nat) : Int) = x.fdiv 48 := by show (((x.fdiv 48).toNat : Nat) : Int) = _; omega
      rwa [e] at this
    refine ⟨[], Sx.cons (St.tupP (l := [(PySem.assign (.Name "red" _) (E0 6 pm code doc L ad), "red", .flt r.1), (PySem.assign (.Name "green" _) (E0 6 pm code doc L ad), "green", .flt r.2.1), (PySem.assign (.Name "blue" _) (E0 6 pm code doc L ad), "blue", .flt r.2.2)])
      (Ev.callD gv 2 (by decide) rfl (Evs.cons (Ev.bin (Ev.bin (Ev.bin (EvO.var rfl) Ev.cint.toO (OpB.modI (by decide))).toO Ev.cint.toO (OpB.divI (by decide) i1)).toO (EvO.var rfl) (OpB.addFI (Nat.lt_trans (m := 1000) (by omega) (by decide +kernel))))
        (Evs.cons (Ev.bin (Ev.bin (Ev.bin (EvO.var rfl) Ev.cint.toO (OpB.fdivI (by decide) (by omega) (by decide))).toO Ev.cint.toO (OpB.modI (by decide))).toO Ev.cint.toO (OpB.divI (by decide) i2))
        (Evs.cons (Ev.bin (Ev.bin Ev.cint.toO (Ev.bin (EvO.var rfl) Ev.cint.toO (OpB.fdivI (by decide) (by omega) (by decide))).toO OpB.addI).toO Ev.cint.toO (OpB.divI (by decide) i3)) Evs.nil))) (spec2 gv hr) rfl) (fun p hp => ?_) rfl)
      (Sx.cons (St.tupP (l := [(PySem.assign (.Name "hue" _) (E0 6 pm code doc L ad), "hue", .flt z.1), (PySem.assign (.Name "light" _) (E0 6 pm code doc L ad), "light", .flt z.2.1), (PySem.assign (.Name "share" _) (E0 6 pm code doc L ad), "share", .flt z.2.2)])
        (Ev.callD gv 1 (by decide) rfl (Evs.cons (Ev.var rfl) (Evs.cons (Ev.var rfl) (Evs.cons (Ev.var rfl) Evs.nil))) (spec1 gv hz) rfl) (fun p hp => ?_) rfl)
        (Sx.post (Sx.stop (St.ret (Ev.list (Evs.cons (Ev.var rfl) (Evs.cons (Ev.var rfl) Evs.nil))))) Sub.nil))⟩
    · simp only [List.mem_cons, List.not_mem_nil, or_false] at hp
      rcases hp with rfl | rfl | rfl <;> exact ⟨.inl rfl, Tg.assign⟩
    · simp only [List.mem_cons, List.not_mem_nil, or_false] at hp
      rcases hp with rfl | rfl | rfl <;> exact ⟨.inl rfl, Tg.assign⟩
end Mine
end
section
set_option maxRecDepth 100000
set_option maxHeartbeats 4000000
namespace Mine
noncomputable def keyN (x : Nat) : Nat := if x / 16 % 3 > 0 then x % 16 else 0
noncomputable def lightN (x : Nat) : Nat := (1 + x / 48) * (4 - x / 16 % 3)
noncomputable def hueT (k : Nat) : UInt64 := fracI (k : Nat) 16
/- turns: what is behind the whole sixths, and which sixth -/
noncomputable def hueA (m k : Nat) : UInt64 := Float64.add (fracI (m : Nat) 16) (Float64.ofInt (k : Nat))
noncomputable def sixth (m k : Nat) : Option (UInt64 × Int) :=
  match truncI (Float64.mul (hueA m k) f6) with
  | some i => if i.natAbs < 1000000 then some (Float64.sub (Float64.mul (hueA m k) f6) (Float64.ofInt i), i.fmod 6) else none
  | none => none
noncomputable def turnOk (m k : Nat) : Bool := sixth m k == sixth m 0
theorem turns : ((List.range 16).all fun m => (List.range 5).all fun k => turnOk m k) = true := by decide +kernel
noncomputable def hsvR (f s v : UInt64) (r : Int) : UInt64 × UInt64 × UInt64 :=
  let p := Float64.mul v (Float64.sub f1 s)
  let q := Float64.mul v (Float64.sub f1 (Float64.mul s f))
  let t := Float64.mul v (Float64.sub f1 (Float64.mul s (Float64.sub f1 f)))
  match r with
  | 0 => (v, t, p)
  | 1 => (q, v, p)
  | 2 => (p, v, t)
  | 3 => (p, q, v)
  | 4 => (t, p, v)
  | _ => (v, p, q)
theorem hsv_sixth (m k : Nat) (s v : UInt64) : hsvF (hueA m k) s v = if isEq s f0 then some (v, v, v) else (sixth m k).map fun z => hsvR z.1 s v z.2 := by
  unfold hsvF sixth
  by_cases hs : isEq s f0 = true
  · rw [if_pos hs, if_pos hs]
  · rw [if_neg hs, if_neg hs]
    cases truncI (Float64.mul (hueA m k) f6) with
    | none => rfl
    | some i =>
      show (if i.natAbs < 1000000 then some (hsvI (hueA m k) s v i) else none) = Option.map _ (if i.natAbs < 1000000 then _ else none)
      by_cases hi : i.natAbs < 1000000
      · rw [if_pos hi, if_pos hi]; rfl
      · rw [if_neg hi, if_neg hi]; rfl
noncomputable def seenOk0 (x : Nat) : Bool :=
  match seenF (x : Nat) 0 with
  | some z => z.1 == hueT (keyN x) && (Float64.cmpInt (Float64.mul (Float64.ofInt 16) z.1) (keyN x : Nat) == some Ordering.eq) && (Float64.cmpInt (Float64.mul (Float64.ofInt 8) z.2.1) (lightN x : Nat) == some Ordering.eq)
  | none => false
theorem seenA : (List.range 24).all seenOk0 = true := by decide +kernel
theorem seenB : (List.range' 24 24).all seenOk0 = true := by decide +kernel
theorem seenC : (List.range' 48 24).all seenOk0 = true := by decide +kernel
theorem seenD : (List.range' 72 24).all seenOk0 = true := by decide +kernel
/- what a colour shows -/
theorem seen_all {x k : Nat} (hx : x < 96) (hk : k < 5) : ∃ z, seenF (x : Nat) (k : Nat) = some z ∧ z.1 = hueT (keyN x) ∧ (Float64.cmpInt (Float64.mul (Float64.ofInt 16) z.1) (keyN x : Nat) == some Ordering.eq) = true ∧ (Float64.cmpInt (Float64.mul (Float64.ofInt 8) z.2.1) (lightN x : Nat) == some Ordering.eq) = true := by
  have h0 : seenOk0 x = true := by
    by_cases h : x < 48
    · by_cases h' : x < 24
      · exact List.all_eq_true.mp seenA x (List.mem_range.mpr h')
      · exact List.all_eq_true.mp seenB x (List.mem_range'_1.mpr ⟨by omega, by omega⟩)
    · by_cases h' : x < 72
      · exact List.all_eq_true.mp seenC x (List.mem_range'_1.mpr ⟨by omega, by omega⟩)
      · exact List.all_eq_true.mp seenD x (List.mem_range'_1.mpr ⟨by omega, by omega⟩)
  have em : (x : Int).fmod 16 = ((x % 16 : Nat) : Int) := by
    rw [Int.fmod_eq_emod_of_nonneg _ (by decide)]; omega
  have hm : x % 16 < 16 := by omega
  have ht : sixth (x % 16) k = sixth (x % 16) 0 := eq_of_beq (List.all_eq_true.mp (List.all_eq_true.mp turns (x % 16) (List.mem_range.mpr hm)) k (List.mem_range.mpr hk))
  have e : seenF (x : Nat) (k : Nat) = seenF (x : Nat) ((0 : Nat) : Int) := by
    have hh : ∀ j : Nat, (seenIn (x : Nat) (j : Nat)).1 = hueA (x % 16) j := fun j => by
      show Float64.add (fracI ((x : Int).fmod 16) 16) (Float64.ofInt (j : Nat)) = _
      rw [em]; rfl
    have key : ∀ s v, hsvF (seenIn (x : Nat) (k : Nat)).1 s v = hsvF (seenIn (x : Nat) ((0 : Nat) : Int)).1 s v := fun s v => by
      rw [hh k, hh 0, hsv_sixth, hsv_sixth, ht]
    unfold seenF
    rw [key]; rfl
  rw [e]
  unfold seenOk0 at h0
  have e0 : seenF (x : Nat) 0 = seenF (x : Nat) ((0 : Nat) : Int) := rfl
  rw [e0] at h0
  cases hz : seenF (x : Nat) ((0 : Nat) : Int) with
  | none => rw [hz] at h0; cases h0
  | some z =>
    rw [hz] at h0
    simp only [Bool.and_eq_true] at h0
    exact ⟨z, rfl, eq_of_beq h0.1.1, h0.1.2, h0.2⟩
end Mine
end
section
set_option maxRecDepth 100000
set_option maxHeartbeats 4000000
namespace Mine
section
variable {prog : Program} {w : World} {A : Around} {R' : GenEnd} {Y : Protocol} {n : Nat} {s₀ : Shared} {c : Code} {fs : List Frame} {s : Shared} {env : Env}
  {K : Flow → Sem Fin} {H : Value → Sem Fin} {gd : Bool → Bool} {lv : List Value → List Value}
noncomputable abbrev onward (target : PySem.Expr) (it : Value) (body orelse : List Stmt) (env : Env) : Flow → Sem Fin := fun f => match f with
  | .next | .cont => .pure (.again (.forLoop target it body orelse env))
  | .brk => .pure (.done .next)
  | .ret v => .pure (.done (.ret v))
noncomputable abbrev noted (env : Env) : Value → Sem Fin := fun e => (do noteFrame e env; theTreesLotGoes e : Sem Unit).wrap (fun _ => .raise e) .raise id id
theorem seg_forLoop {target : PySem.Expr} {it : Value} {body orelse : List Stmt}
    (h : wpAny (model prog w) (A.over (.forLoop target it body orelse env) fs) (pyNext it) (fun r s' => match r with
      | none => Seg (model prog w) A R' Y n s₀ (.block orelse env) ((model prog w).den (.block orelse env)) fs s'
      | some v => wpAny (model prog w) (A.over (.forLoop target it body orelse env) fs) (letOwnedTupleGo target it v) (fun _ s₁ => wpAny (model prog w) (A.over (.forLoop target it body orelse env) fs) (assign target env v) (fun _ s₂ =>
          Seg (model prog w) A R' Y n s₀ (.forLoop target it body orelse env) ((execs body env).wrap (onward target it body orelse env) (noted env) id id) fs s₂) (fun _ _ => False) s₁) (fun _ _ => False) s') (fun _ _ => False) s) :
    Seg (model prog w) A R' Y n s₀ (.forLoop target it body orelse env) ((model prog w).den (.forLoop target it body orelse env)) fs s := by
  show Seg _ A R' Y n s₀ _ ((forTurn target it body orelse env).onRaise (fun x => do noteFrame x env; theTreesLotGoes x)) fs s
  unfold forTurn
  rw [Sem.onRaise_eq_wrap]
  refine seg_at ?_
  show Seg _ A R' Y n s₀ _ (Sem.wrap _ _ _ _ (((pyNext it).onRaise _) >>= _)) fs s
  rw [Sem.bind_eq_wrap', Sem.wrap_wrap]
  refine seg_wrap (wpAny_onRaise (wpAny_mono h (fun r s' hr => ?_) fun _ _ x => x.elim))
  cases r with
  | none => exact seg_again rfl hr
  | some v =>
    show Seg _ A R' Y n s₀ _ (Sem.wrap _ _ _ _ (letOwnedTupleGo target it v >>= fun _ => assign target env v >>= fun _ => execs body env >>= _)) fs s'
    rw [Sem.bind_eq_wrap', Sem.wrap_wrap]
    refine seg_wrap (wpAny_mono hr (fun _ s₁ h₁ => ?_) fun _ _ x => x.elim)
    rw [Sem.bind_eq_wrap', Sem.wrap_wrap]
    refine seg_wrap (wpAny_mono h₁ (fun _ s₂ h₂ => ?_) fun _ _ x => x.elim)
    rw [Sem.bind_eq_wrap', Sem.wrap_wrap]
    rw [Sem.wrap_congr (execs body env) _ _ (K' := onward target it body orelse env) (H' := noted env) (fun f => by cases f <;> rfl) (fun e => by first | exact Sem.bind_eq_wrap _ _ | (show (do noteFrame e env; theTreesLotGoes e : Sem Unit).bind (fun _ => .raise e) = _; rw [Sem.bind_eq_wrap]))]
    exact h₂
theorem seg_block_nil (h : Seg (model prog w) A R' Y n s₀ (.block [] env) (.pure (.done .next)) fs s) : Seg (model prog w) A R' Y n s₀ (.block [] env) ((model prog w).den (.block [] env)) fs s := h
/- what comes behind a loop's own activation -/
noncomputable def behind (env : Env) (K : Flow → Sem Fin) (H : Value → Sem Fin) (gd : Bool → Bool) (lv : List Value → List Value) (r : Result) : Sem Fin :=
  ((match r with | .ok f => (.pure f : Sem Flow) | .error e => .raise e).onRaise fun (x : Value) => do
        if (← field x 1) == Value.none then unsupported "frame.own-activation:exception-without-traceback"
        setFlight x env.frame).wrap K H gd lv
theorem seg_For {target iter : PySem.Expr} {body orelse : List Stmt} {pos : Pos}
    (h : wpAny (model prog w) (A.over c fs) (eval iter env) (fun x s₁ => wpAny (model prog w) (A.over c fs) (pyIter x) (fun it s₂ =>
      ∀ p, Seg (model prog w) A R' Y n s₀ (.forLoop target it body orelse env) ((model prog w).den (.forLoop target it body orelse env)) (.ret (behind env K H gd lv) none (gd false) (lv []) c p [] :: fs) s₂) (fun _ _ => False) s₁) (fun _ _ => False) s)
    (hs : ∀ x, foldedSetIterable iter env x = pure x := by intro _; rfl) :
    Seg (model prog w) A R' Y n s₀ c ((exec (.For target iter body orelse pos) env).wrap K H gd lv) fs s := by
  rw [exec_For]
  refine seg_at ?_
  show Seg _ A R' Y n s₀ _ (Sem.wrap _ _ _ _ (eval iter env >>= _)) fs s
  rw [Sem.bind_eq_wrap', Sem.wrap_wrap]
  refine seg_wrap (wpAny_mono h (fun x s₁ h₁ => ?_) fun _ _ x => x.elim)
  show Seg _ A R' Y n s₀ _ (Sem.wrap _ _ _ _ (foldedSetIterable iter env x >>= _)) fs s₁
  rw [hs x]
  refine seg_at ?_
  show Seg _ A R' Y n s₀ _ (Sem.wrap _ _ _ _ (holding [x] (pyIter x) >>= _)) fs s₁
  rw [Sem.bind_eq_wrap', Sem.wrap_wrap]
  refine seg_wrap (wpAny_holding (wpAny_mono h₁ (fun it s₂ h₂ => ?_) fun _ _ x => x.elim))
  exact seg_call h₂
theorem seg_If {t : PySem.Expr} {b o : List Stmt} {pos : Pos}
    (h : wpAny (model prog w) (A.over c fs) (isTrue t env (eval t env)) (fun v s' => Seg (model prog w) A R' Y n s₀ c ((execs (if v = true then b else o) env).wrap K H gd lv) fs s') (fun _ _ => False) s) :
    Seg (model prog w) A R' Y n s₀ c ((exec (.If t b o pos) env).wrap K H gd lv) fs s := by
  rw [exec_If]
  refine seg_at ?_
  show Seg _ A R' Y n s₀ _ (Sem.wrap _ _ _ _ (isTrue t env (eval t env) >>= _)) fs s
  rw [Sem.bind_eq_wrap', Sem.wrap_wrap]
  refine seg_wrap (wpAny_mono h (fun v s' h' => ?_) fun _ _ x => x.elim)
  cases v with
  | true => exact h'
  | false => exact h'
end
end Mine
end
section
set_option maxRecDepth 100000
set_option maxHeartbeats 4000000
namespace Mine
variable {prog : Program} {w : World} {mg mb : Str → Option Value} {n : Nat} {s s' : Shared} {ev : Env} {bs : List (Str × AV)} {h₀ : Heap}

/- what the function yields -/
noncomputable def escG : Tx → Nat → Bool → List (Nat × Tx)
  | [], i, true => [(i - 1, [92])]
  | [], _, false => []
  | c :: r, i, true => (i, [92, c]) :: escG r (i + 1) false
  | c :: r, i, false => if c == 92 then escG r (i + 1) true else (i, [c]) :: escG r (i + 1) false

/- the function's own frame: plain values alone -/
structure GF (prog : Program) (mg mb : Str → Option Value) (h₀ : Heap) (ev : Env) (bs : List (Str × AV)) (s : Shared) : Prop where
  gl : Gl prog mg mb h₀
  kp : Kp h₀ s.heap
  new : h₀.get? ev.locals = none
  ns : ∃ m, s.heap.Ns ev.locals m ∧ ∀ y W, bs.lookup y = some W → ∃ u, m y = some u ∧ Sc u W
theorem GF.rd (g : GF prog mg mb h₀ ev bs s) (hk : ∀ y W, bs.lookup y = some W → ev.kindOf y = some .local) : Rd prog w mg mb [] ev (bsl bs ++ []) s := by
  obtain ⟨m, hn, hb⟩ := g.ns
  have r0 : Rd prog w mg mb [] ev [] s := ⟨g.gl.kp g.kp, fun _ h => (nomatch h), fun _ _ h => by cases h⟩
  exact r0.bind hn (fun y W e => by obtain ⟨u, h1, h2⟩ := hb y W e; exact ⟨u, h1, .sc h2, Av.sc h2⟩) hk
theorem GF.wake (g : GF prog mg mb h₀ ev bs s) (k : Kp h₀ s'.heap) (e : ∀ o, s.heap.get? ev.locals = some o → s'.heap.get? ev.locals = some o) : GF prog mg mb h₀ ev bs s' :=
  ⟨g.gl, k, g.new, let ⟨m, hn, hb⟩ := g.ns; ⟨m, hn.at' e, hb⟩⟩
theorem GF.ext (g : GF prog mg mb h₀ ev bs s) (x : Ext s s') : GF prog mg mb h₀ ev bs s' := g.wake (g.kp.trans x.kp) fun o e => x.kp _ _ e
theorem GF.store {A : Around} {E : Value → Shared → Prop} {Q : Unit → Shared → Prop} {x : Str} {v : Value} {V : AV} (g : GF prog mg mb h₀ ev bs s) (hf : ev.scope.kind = .function) (hk : ev.kindOf x = some .local) (hv : Sc v V)
    (q : ∀ s', Chg [ev.locals] s s' → GF prog mg mb h₀ ev ((x, V) :: bs) s' → Q () s') : wpAny (model prog w) A (storeName ev x v) Q E s := by
  obtain ⟨m, hn, hb⟩ := g.ns
  refine wpAny_storeName_local hk hn (fun h' hn' hs' => ?_) (by rw [hf]; rfl)
  have c : Chg [ev.locals] s { s with heap := h', toks := s.toks + 1 } := Chg.heap (KpX.but hs'.extBut (by simp)) _
  refine q _ c ⟨g.gl, fun b o e => hs'.extBut b o (fun q => by rw [q, g.new] at e; cases e) (g.kp b o e), g.new, _, hn', fun y W e => ?_⟩
  rw [List.lookup_cons] at e
  cases hb' : y == x with
  | true =>
    rw [hb'] at e; cases e
    exact ⟨v, if_pos (beq_iff_eq.mp hb'), hv⟩
  | false =>
    rw [hb'] at e
    obtain ⟨u, h1, h2⟩ := hb y W e
    exact ⟨u, by show (if y = x then some v else m y) = some u; rw [if_neg (fun q => by rw [q] at hb'; simp at hb')]; exact h1, h2⟩
theorem GF.weak {bs' : List (Str × AV)} (g : GF prog mg mb h₀ ev bs s) (h : ∀ y W, bs'.lookup y = some W → bs.lookup y = some W) : GF prog mg mb h₀ ev bs' s :=
  ⟨g.gl, g.kp, g.new, let ⟨m, hn, hb⟩ := g.ns; ⟨m, hn, fun y W e => hb y W (h y W e)⟩⟩

/- the iterator's place -/
noncomputable def EnumSt (x : Tx) (t : Tok) (e it : Addr) (i : Nat) (h : Heap) : Prop := (∃ old, IsEnum h e it i old) ∧ h.IsStrIter it (strIterType (S x)) (S x) t i
theorem walksE (x : Tx) (t : Tok) (e it : Addr) (hei : e ≠ it) {A : Around} (hA : A.handled = none) :
    ∃ Mid, WalksT prog w A e [e, it] [e, it] x.length (fun i vals => ∃ tk u c, x[i]? = some c ∧ vals = #[.int i tk, .str (S [c]) u]) (EnumSt x t e it) Mid := by
  have hsz : (S x).cps.size = x.length := by simp [S]
  cases ha : (S x).cps.all (· < 128)
  · have W := WalksT.enumerateD (Draws.strWide (prog := prog) (w := w) (A := A.in1) hA it (S x) t) e hei (by simpa using hei) (by simp)
    rw [hsz] at W
    have hst : strIterType (S x) = "str_iterator" := by simp [strIterType, ha]
    refine ⟨_, ⟨W.sub, ?_, ?_, ?_, W.apart, ?_, ?_⟩⟩
    · unfold EnumSt; rw [hst]; exact W.frame
    · unfold EnumSt; rw [hst]
      intro i s Q E hi st hQ
      refine W.item i s Q E hi st fun T vals h' tk hP => hQ T vals h' tk ?_
      obtain ⟨t', v, ⟨c, u, hc, rfl⟩, rfl⟩ := hP
      exact ⟨t', u, c, by simpa [S] using hc, rfl⟩
    · unfold EnumSt; rw [hst]; exact W.go
    · unfold EnumSt; rw [hst]; exact W.done
    · unfold EnumSt; rw [hst]; exact W.self
  · have W := WalksT.enumerateD (Draws.strAscii (prog := prog) (w := w) (A := A.in1) hA it (S x) t) e hei (by simpa using hei) (by simp)
    rw [hsz] at W
    have hst : strIterType (S x) = "str_ascii_iterator" := by simp [strIterType, ha]
    refine ⟨_, ⟨W.sub, ?_, ?_, ?_, W.apart, ?_, ?_⟩⟩
    · unfold EnumSt; rw [hst]; exact W.frame
    · unfold EnumSt; rw [hst]
      intro i s Q E hi st hQ
      refine W.item i s Q E hi st fun T vals h' tk hP => hQ T vals h' tk ?_
      obtain ⟨t', v, ⟨c, u, hc, rfl⟩, rfl⟩ := hP
      exact ⟨t', u, c, by simpa [S] using hc, rfl⟩
    · unfold EnumSt; rw [hst]; exact W.go
    · unfold EnumSt; rw [hst]; exact W.done
    · unfold EnumSt; rw [hst]; exact W.self
end Mine
end
section
set_option maxRecDepth 100000
set_option maxHeartbeats 4000000
namespace Mine
open Builtin Builtin.Str
section
variable {prog : Program} {w : World} {A : Around} {E : Value → Shared → Prop} {s : Shared}
theorem nextOf_end_ascii {it : Addr} {x : Str} {t : Tok} {i : Nat} {Q : Value → Shared → Prop} (hh : A.handled = none) (hit : s.heap.IsStrIter it "str_ascii_iterator" x t i) (hx : x.cps[i]? = none)
    (hE : ∀ h' e, Heap.ExtBut it s.heap h' → (∃ o, h'.get? it = some o) → (∃ o, h'.get? e = some o ∧ o.cls = .type "StopIteration") → E (.ref e) { s with heap := h' }) :
    wpAny (model prog w) A (Builtin.SmallTypes.nextOf (.ref it)) Q E s := by
  obtain ⟨o, ho, hc, hd⟩ := id hit
  unfold Builtin.SmallTypes.nextOf
  refine wpAny_bind (wpAny_callSpecial?_slot (name := Str.ofString "__next__") hit.typeIs F.slot_str_ascii_iterator_next (wpAny_call_entry F.slot_str_ascii_iterator_next hit.typeIs F.entry_str_ascii_iterator_next ?_ (F.args_str_ascii_iterator_next_1 _)))
  show wpAny _ _ (field (.ref it) 0 >>= _) _ _ s
  refine wpAny_bind (wpAny_field ho hd (x := .str x t) rfl ?_)
  show wpAny _ _ (field (.ref it) 1 >>= _) _ _ s
  refine wpAny_bind (wpAny_field ho hd (x := .int i 0) rfl ?_)
  simp only [Int.toNat_natCast, hx]
  refine wpAny_bind (wpAny_rule (wpAny_bind (wpAny_setField ho hd (by simp) (wpAny_bind (wpAny_letGo ?_)))))
  show wpAny _ _ (newExc (.type "StopIteration") [] >>= _) _ _ _
  simp only [newExc, newTuple]
  refine wpAny_bind (wpAny_bind (wpAny_newObj_type (wpAny_bind (m := firstArgMember _ _) (wpAny_of_eq (a := Value.none) (by first | rfl | (simp only [firstArgMember]; rfl)) (wpAny_newObj_type ?_ (by size_fits)))) (by size_fits)))
  simp only [raiseNew]
  refine wpAny_bind (wpAny_handled ?_)
  first | rw [show A.in1.handled = none from hh] | rw [hh]
  refine wpAny_bind (wpAny_pure (wpAny_throw ?_))
  exact hE _ _ (((Heap.SameBut.update ..).extBut.push _).push _) ⟨_, Heap.get?_push_of_some _ (Heap.get?_push_of_some _ (Heap.get?_update_self _ ho (Obj.isFreed_of_fields (Obj.data_mapFields hd _))))⟩ ⟨_, Heap.get?_push_size _ rfl, rfl⟩
theorem nextOf_end_wide {it : Addr} {x : Str} {t : Tok} {i : Nat} {Q : Value → Shared → Prop} (hh : A.handled = none) (hit : s.heap.IsStrIter it "str_iterator" x t i) (hx : x.cps[i]? = none)
    (hE : ∀ h' e, Heap.ExtBut it s.heap h' → (∃ o, h'.get? it = some o) → (∃ o, h'.get? e = some o ∧ o.cls = .type "StopIteration") → E (.ref e) { s with heap := h' }) :
    wpAny (model prog w) A (Builtin.SmallTypes.nextOf (.ref it)) Q E s := by
  obtain ⟨o, ho, hc, hd⟩ := id hit
  unfold Builtin.SmallTypes.nextOf
  refine wpAny_bind (wpAny_callSpecial?_slot (name := Str.ofString "__next__") hit.typeIs F.slot_str_iterator_next (wpAny_call_entry F.slot_str_iterator_next hit.typeIs F.entry_str_iterator_next ?_ (F.args_str_iterator_next_1 _)))
  show wpAny _ _ (field (.ref it) 0 >>= _) _ _ s
  refine wpAny_bind (wpAny_field ho hd (x := .str x t) rfl ?_)
  show wpAny _ _ (field (.ref it) 1 >>= _) _ _ s
  refine wpAny_bind (wpAny_field ho hd (x := .int i 0) rfl ?_)
  simp only [Int.toNat_natCast, hx]
  refine wpAny_bind (wpAny_rule (wpAny_bind (wpAny_setField ho hd (by simp) (wpAny_bind (wpAny_letGo ?_)))))
  show wpAny _ _ (newExc (.type "StopIteration") [] >>= _) _ _ _
  simp only [newExc, newTuple]
  refine wpAny_bind (wpAny_bind (wpAny_newObj_type (wpAny_bind (m := firstArgMember _ _) (wpAny_of_eq (a := Value.none) (by first | rfl | (simp only [firstArgMember]; rfl)) (wpAny_newObj_type ?_ (by size_fits)))) (by size_fits)))
  simp only [raiseNew]
  refine wpAny_bind (wpAny_handled ?_)
  first | rw [show A.in1.handled = none from hh] | rw [hh]
  refine wpAny_bind (wpAny_pure (wpAny_throw ?_))
  exact hE _ _ (((Heap.SameBut.update ..).extBut.push _).push _) ⟨_, Heap.get?_push_of_some _ (Heap.get?_push_of_some _ (Heap.get?_update_self _ ho (Obj.isFreed_of_fields (Obj.data_mapFields hd _))))⟩ ⟨_, Heap.get?_push_size _ rfl, rfl⟩
/- the end of the enumeration: both objects are there still -/
theorem enumEnd {x : Tx} {t : Tok} {e it : Addr} {Q : Option Value → Shared → Prop} (hh : A.handled = none) (hei : e ≠ it) (st : EnumSt x t e it x.length s.heap)
    (hQ : ∀ h', Heap.ExtBut it s.heap h' → (∃ o, h'.get? it = some o) → (∃ o, h'.get? e = some o) → Q none { s with heap := h' }) : wpAny (model prog w) A (pyNext (.ref e)) Q E s := by
  obtain ⟨⟨old, he⟩, hst⟩ := st
  have hT : s.TypeIs (.ref e) "enumerate" := ⟨_, he, rfl⟩
  unfold pyNext
  refine wpAny_bind (wpAny_attempt (wpAny_callSpecial?_slot (name := Str.ofString "__next__") hT F.slot_enumerate_next (wpAny_call_entry F.slot_enumerate_next hT F.entry_enumerate_next ?_ (F.args_enumerate_next_1 _))))
  show wpAny _ _ (field (.ref e) 2 >>= _) _ _ _
  refine wpAny_bind (wpAny_field he rfl (x := .ref it) rfl ?_)
  have hx : (S x).cps[x.length]? = none := by simp [S]
  have fin : ∀ h' ex, Heap.ExtBut it s.heap h' → (∃ o, h'.get? it = some o) → (∃ o, h'.get? ex = some o ∧ o.cls = .type "StopIteration") →
      wpAny (model prog w) A (do if ← isInstance (.ref ex) (.type "StopIteration") then pure none else throw (.ref ex)) Q E { s with heap := h' } := fun h' ex h1 h2 h3 => by
    obtain ⟨o, ho, hc⟩ := h3
    refine wpAny_bind (wpAny_isInstance (T := "StopIteration") (b := true) ⟨o, ho, hc⟩ isSubtype_stop ?_)
    exact wpAny_pure (hQ h' h1 h2 ⟨_, h1 e _ hei he⟩)
  cases ha : (S x).cps.all (· < 128)
  · have hst' : s.heap.IsStrIter it "str_iterator" (S x) t x.length := by simpa [strIterType, ha] using hst
    exact wpAny_bind (nextOf_end_wide hh hst' hx fun h' ex h1 h2 h3 => fin h' ex h1 h2 h3)
  · have hst' : s.heap.IsStrIter it "str_ascii_iterator" (S x) t x.length := by simpa [strIterType, ha] using hst
    exact wpAny_bind (nextOf_end_ascii hh hst' hx fun h' ex h1 h2 h3 => fin h' ex h1 h2 h3)
end
end Mine
end
section
set_option maxRecDepth 100000
set_option maxHeartbeats 4000000
namespace Mine
variable {w : World} {mg mb : Str → Option Value} {n : Nat}
theorem over_func {A : Around} (a : AOk (n + 10) A) (body : List Stmt) (ev : Env) : AOk n (A.over (.func body ev) []) :=
  ⟨a.handled, by have := a.depth; show A.depth + 0 + 1 + n < _; omega, by have := a.units; show A.units + 0 + 3 + 20 * n + 400 < _; omega⟩
theorem over_loop {A : Around} (a : AOk (n + 10) A) (t it body orelse) (ev ev' : Env) (b2 : List Stmt) (k g l p) : AOk n (A.over (.forLoop t it body orelse ev) [.ret k none g l (.func b2 ev') p []]) :=
  ⟨a.handled, by have := a.depth; show A.depth + (1 + 0) + 0 + n < _; omega, by have := a.units; show A.units + (3 + 0) + 0 + 20 * n + 400 < _; omega⟩
theorem Ev.go {prog : Program} {env : Env} {ρ : PEnv} {e : PySem.Expr} {V : AV} {A : Around} {X : List Addr} {s : Shared} {Q E : Value → Shared → Prop} (h : Ev prog w mg mb n env ρ e V) (a : AOk n A) (eo : EnvOk env) (rd : Rd prog w mg mb X env ρ s) (q : Post prog w X s Q V) : wpAny (model prog w) A (eval e env) Q E s := h A X s Q E a eo rd q
theorem Tr.go {prog : Program} {env : Env} {ρ : PEnv} {e : PySem.Expr} {b : Bool} {A : Around} {X : List Addr} {s : Shared} {Q : Bool → Shared → Prop} {E : Value → Shared → Prop} (h : Tr prog w mg mb n env ρ e b) (a : AOk n A) (eo : EnvOk env) (rd : Rd prog w mg mb X env ρ s) (q : ∀ s', Ext s s' → Q b s') : wpAny (model prog w) A (isTrue e env (eval e env)) Q E s := h A X s Q E a eo rd q
noncomputable def RP (own : List Addr) : GenEnd := fun n s₀ r s₁ => r = .ok (.ret .none) ∧ (n = 0 ∧ Chg own s₀ s₁ ∧ ∀ q ∈ own, ∃ o, s₁.heap.get? q = some o)
noncomputable def PairAt (h : Heap) (v : Value) (p : Nat × Tx) : Prop := ∃ T t u k, v = .ref T ∧ h.get? T = some { cls := .type "tuple", data := .seq #[.int (p.1 : Nat) t, .str (S p.2) u] k }
noncomputable def LvAt (own : List Addr) (h : Heap) : Prop := ∀ q ∈ own, ∃ o, h.get? q = some o
theorem LvAt.kp {own : List Addr} {h h' : Heap} (l : LvAt own h) (k : Kp h h') : LvAt own h' := fun q hq => let ⟨o, e⟩ := l q hq; ⟨o, k q o e⟩
noncomputable def YP (O : List (Nat × Tx)) (h₀ : Heap) (own : List Addr) : Protocol := fun m s₀ v s₁ kap =>
  (∃ p, O[O.length - 1 - m]? = some p ∧ PairAt s₁.heap v p) ∧ Chg own s₀ s₁ ∧ Kp h₀ s₁.heap ∧ LvAt own s₁.heap ∧ ∀ s'', Kp h₀ s''.heap → (∀ b ∈ own, ∀ o, s₁.heap.get? b = some o → s''.heap.get? b = some o) → kap (.send .none) s''
theorem pair_of {s : Shared} {v : Value} {i : Int} {p : Nat × Tx} (r : R PW w [] s.heap v (.tup [.int i, T p.2])) (h : i = (p.1 : Nat)) : PairAt s.heap v p := by
  obtain ⟨a, k, vs, rfl, e, rs⟩ := r.tup_inv
  cases rs with
  | cons _ r1 rs => cases rs with
    | cons _ r2 rs =>
      cases rs
      obtain ⟨t, rfl⟩ := r1.int_inv; obtain ⟨u, rfl⟩ := r2.str_inv
      subst h
      exact ⟨a, t, u, k, rfl, e⟩
theorem bs_kinds {ev : Env} {bs : List (Str × AV)} (h : bs.all (fun p => ev.kindOf p.1 == some .local) = true) : ∀ y W, bs.lookup y = some W → ev.kindOf y = some .local := fun y W e =>
  beq_iff_eq.mp (List.all_eq_true.mp h _ (mem_of_lookup e))
section
variable (pm code doc : Value) (L a : Addr)
noncomputable abbrev Kf : Flow → Sem Fin := fun f => .pure (.done (.ret (match f with | .ret v => v | _ => .none)))
noncomputable abbrev Hf (ev : Env) : Value → Sem Fin := fun e => (leaving ev e).wrap (fun _ => .raise e) .raise id id
noncomputable abbrev bsG (x : Tx) (pos : Int) (b : Bool) : List (Str × AV) := [("escape", .bool b), ("pos", .int pos), ("addr", T x)]
theorem kindsG (x : Tx) (pos : Int) (b : Bool) : ∀ y W, (bsG x pos b).lookup y = some W → (E0 3 pm code doc L a).kindOf y = some .local := bs_kinds rfl
theorem S_bs : (Str.ofString "\\" : Str) = S [92] := by decide +kernel
theorem seg_tail {A : Around} (hA : AOk 20 A) {x : Tx} {h₀ : Heap} {own : List Addr} (hown : L ∈ own) {O pre : List (Nat × Tx)} {i : Nat} {b : Bool} {pos : Int} (hO : O = pre ++ escG [] i b) (hp : b = true → pos = (i - 1 : Nat)) {s₀ s : Shared} (c : Chg own s₀ s) (lv : LvAt own s.heap)
    (g : GF PW mg mb h₀ (E0 3 pm code doc L a) (bsG x pos b) s) :
    Seg (model PW w) A (RP own) (YP O h₀ own) (escG [] i b).length s₀ (.func (dAt 3).body (E0 3 pm code doc L a)) ((execs ((dAt 3).body.drop 3) (E0 3 pm code doc L a)).wrap Kf (Hf (E0 3 pm code doc L a)) id id) [] s := by
  have ao := over_func (n := 10) hA (dAt 3).body (E0 3 pm code doc L a)
  have eo : EnvOk (E0 3 pm code doc L a) := ⟨rfl, rfl, rfl⟩
  refine seg_execs_cons (seg_If ?_)
  refine (Tr.val (EvO.var rfl) Truth.bool : Tr PW w mg mb 10 (E0 3 pm code doc L a) (bsl (bsG x pos b) ++ []) _ b) _ [] s _ _ ao eo (g.rd (kindsG pm code doc L a x pos b)) fun s₁ x₁ => ?_
  cases b with
  | false =>
    refine seg_execs_nil (seg_execs_nil ?_)
    exact seg_end (.ok (.ret .none)) ⟨rfl, rfl, c.trans x₁.chg, lv.kp x₁.kp⟩
  | true =>
    refine seg_execs_cons (seg_Expr_Yield (n := 0) rfl rfl rfl ?_ rfl rfl)
    refine Ev.go (n := 10) (V := .tup [.int pos, T [92]]) (Ev.tup (Evs.cons (Ev.var rfl) (Evs.cons (Ev.cT S_bs) Evs.nil))) ao eo ((g.ext x₁).rd (kindsG pm code doc L a x pos true)) fun v s₂ x₂ r₂ _ kap hk => ?_
    have g₂ := (g.ext x₁).ext x₂
    refine ⟨⟨(i - 1, [92]), ?_, pair_of r₂ (hp rfl)⟩, c.trans (x₁.trans x₂).chg, g₂.kp, lv.kp (x₁.trans x₂).kp, fun s'' h1 h2 => hk .none s'' ?_⟩
    · have : O = pre ++ [(i - 1, [92])] := hO
      rw [this]; simp
    · refine seg_execs_nil (seg_execs_nil (seg_end (.ok (.ret .none)) ⟨rfl, rfl, .refl _, fun q hq => let ⟨o, e⟩ := lv.kp (x₁.trans x₂).kp q hq; ⟨o, h2 q hq o e⟩⟩))

noncomputable def tgtOf : Stmt → PySem.Expr
  | .For t _ _ _ _ => t
  | _ => .Constant .none 0 default
noncomputable abbrev Kr (ev : Env) : Flow → Sem Fin := fun f => match f with
  | .next => (execs ((dAt 3).body.drop 3) ev).wrap Kf (Hf ev) id id
  | f => Kf f
noncomputable abbrev frG (ev : Env) (p : Pos) : Frame := .ret (behind ev (Kr ev) (Hf ev) id id) none (id false) (id []) (.func (dAt 3).body ev) p []
theorem idx_eq {O pre rest : List (Nat × Tx)} {q : Nat × Tx} (h : O = pre ++ q :: rest) : O[O.length - 1 - rest.length]? = some q := by
  subst h
  have : (pre ++ q :: rest).length - 1 - rest.length = pre.length := by rw [List.length_append, List.length_cons]; omega
  rw [this]; simp
theorem kindsC (x : Tx) (p1 p2 : Int) (b b2 : Bool) (c : Nat) : ∀ y W, ((("escape", .bool b2) :: ("ch", T [c]) :: ("pos", .int p1) :: bsG x p2 b : List (Str × AV))).lookup y = some W → (E0 3 pm code doc L a).kindOf y = some .local := bs_kinds rfl
theorem kindsD (x : Tx) (p1 p2 : Int) (b : Bool) (c : Nat) : ∀ y W, ((("ch", T [c]) :: ("pos", .int p1) :: bsG x p2 b : List (Str × AV))).lookup y = some W → (E0 3 pm code doc L a).kindOf y = some .local := bs_kinds rfl
theorem look_back (x : Tx) (i : Nat) (p2 : Int) (b b2 : Bool) (c : Nat) : ∀ y W, (bsG x (i : Nat) b2).lookup y = some W → (("escape", .bool b2) :: ("ch", T [c]) :: ("pos", .int (i : Nat)) :: bsG x p2 b : List (Str × AV)).lookup y = some W := by
  intro y W e
  simp only [bsG, List.lookup_cons] at e ⊢
  by_cases h1 : (y == (Str.ofString "escape")) = true
  · simp only [h1] at e ⊢; exact e
  · simp only [h1] at e ⊢
    by_cases h2 : (y == (Str.ofString "pos")) = true
    · simp only [h2] at e ⊢
      have : y = Str.ofString "pos" := beq_iff_eq.mp h2
      subst this
      exact e
    · simp only [h2] at e ⊢
      by_cases h3 : (y == (Str.ofString "addr")) = true
      · have : y = Str.ofString "addr" := beq_iff_eq.mp h3
        subst this
        exact e
      · simp only [h3] at e; cases e
/- escape = .. and round again -/
theorem seg_round {A : Around} {fs : List Frame} {R : GenEnd} {Y : Protocol} {k : Nat} {s₀ s : Shared} {x : Tx} {h₀ : Heap} {i c : Nat} {b b2 : Bool} {p2 : Int} {cd : Code} {K : Flow → Sem Fin} {H : Value → Sem Fin} {gd : Bool → Bool} {lv : List Value → List Value} {p : Pos} {j : Nat} {q1 q2 : Pos}
    (ao : AOk n (A.over cd fs)) (g : GF PW mg mb h₀ (E0 3 pm code doc L a) (("ch", T [c]) :: ("pos", .int (i : Nat)) :: bsG x p2 b) s)
    (h : ∀ s', Chg [L] s s' → GF PW mg mb h₀ (E0 3 pm code doc L a) (bsG x (i : Nat) b2) s' → Seg (model PW w) A R Y k s₀ cd (K .next) fs s') :
    Seg (model PW w) A R Y k s₀ cd ((execs [.Assign [.Name "escape" q1] (.Constant (.bool b2) j q2) p] (E0 3 pm code doc L a)).wrap K H gd lv) fs s := by
  refine seg_execs_cons (seg_wrap (wpAny_Assign_Name (Ev.go (n := n) Ev.cbool ao ⟨rfl, rfl, rfl⟩ (g.rd (kindsD pm code doc L a x _ p2 b c)) fun v s₁ x₁ r₁ _ => ?_)))
  obtain rfl := r₁.bool_inv
  refine (g.ext x₁).store rfl rfl (.bool b2) fun s₂ c₂ g₂ => ?_
  exact seg_execs_nil (h s₂ (x₁.chg.trans c₂) (g₂.weak (look_back x i p2 b b2 c)))
theorem seg_loopG {A : Around} (hA : AOk 30 A) {x : Tx} (hx : x.length ≤ 1048000) {h₀ : Heap} {e it : Addr} (hei : e ≠ it) {tk : Tok} {O : List (Nat × Tx)} (hL : L ≠ e ∧ L ≠ it) (h0 : h₀.get? e = none ∧ h₀.get? it = none) : ∀ (k i : Nat) (b : Bool) (pos : Int) (pre : List (Nat × Tx)) (s₀ s : Shared) (p : Pos), x.length = i + k →
    O = pre ++ escG (x.drop i) i b → (b = true → pos = (i - 1 : Nat)) → Chg [L, e, it] s₀ s → GF PW mg mb h₀ (E0 3 pm code doc L a) (bsG x pos b) s → EnumSt x tk e it i s.heap →
    Seg (model PW w) A (RP [L, e, it]) (YP O h₀ [L, e, it]) (escG (x.drop i) i b).length s₀ (.forLoop (tgtOf (nth (dAt 3).body 2)) (.ref e) (forBody (nth (dAt 3).body 2)) [] (E0 3 pm code doc L a))
      ((model PW w).den (.forLoop (tgtOf (nth (dAt 3).body 2)) (.ref e) (forBody (nth (dAt 3).body 2)) [] (E0 3 pm code doc L a))) [frG (E0 3 pm code doc L a) p] s := by
  intro k
  induction k with
  | zero =>
    intro i b pos pre s₀ s p hk hO hp c g st
    have hd : x.drop i = [] := List.drop_of_length_le (by omega)
    rw [hd] at hO ⊢
    have hi : i = x.length := by omega
    refine seg_forLoop ?_
    refine enumEnd (over_loop (n := 10) (AOk.mono hA (by omega)) (tgtOf (nth (dAt 3).body 2)) (.ref e) (forBody (nth (dAt 3).body 2)) [] (E0 3 pm code doc L a) (E0 3 pm code doc L a) (dAt 3).body (behind (E0 3 pm code doc L a) (Kr (E0 3 pm code doc L a)) (Hf (E0 3 pm code doc L a)) id id) (id false) (id []) p).handled hei (hi ▸ st) fun h' hk'' li le => ?_
    have hk' : ∀ q o, q ∉ [e, it] → s.heap.get? q = some o → h'.get? q = some o := fun q o hq eq => hk'' q o (fun h => hq (by rw [h]; simp)) eq
    have cc : Chg [L, e, it] s { s with heap := h' } := Chg.heap (t := s.toks) (fun q o hq eq => hk' q o (fun m => hq (List.mem_cons_of_mem _ m)) eq)
    have lvv : LvAt [L, e, it] h' := fun q hq => by
      rcases List.mem_cons.mp hq with rfl | hq
      · obtain ⟨m, ⟨o, _, _, eo, _⟩, _⟩ := g.ns
        exact ⟨o, hk'' _ o hL.2 eo⟩
      · rcases List.mem_cons.mp hq with rfl | hq
        · exact le
        · rw [List.mem_singleton.mp hq]; exact li
    refine seg_block_nil (seg_leaf (.ok .next) ?_)
    refine seg_tail pm code doc L a (AOk.mono hA (by omega)) (List.mem_cons_self ..) hO hp (c.trans cc) lvv (g.wake (fun q o eq => ?_) fun o eq => hk' _ o ?_ eq)
    · refine hk' q o (fun m => ?_) (g.kp q o eq)
      rcases List.mem_cons.mp m with rfl | m
      · rw [h0.1] at eq; cases eq
      · rw [List.mem_singleton.mp m, h0.2] at eq; cases eq
    · intro m
      rcases List.mem_cons.mp m with h | m
      · exact hL.1 h
      · exact hL.2 (List.mem_singleton.mp m)
  | succ k ih =>
    intro i b pos pre s₀ s p hk hO hp c g st
    have hlt : i < x.length := by omega
    obtain ⟨ch, hch⟩ : ∃ ch, x[i]? = some ch := ⟨_, List.getElem?_eq_getElem hlt⟩
    have hd : x.drop i = ch :: x.drop (i + 1) := by
      have := List.drop_eq_getElem_cons hlt
      rw [this]
      rw [List.getElem?_eq_getElem hlt] at hch
      cases hch; rfl
    rw [hd] at hO ⊢
    have ao := over_loop (n := 20) hA (tgtOf (nth (dAt 3).body 2)) (.ref e) (forBody (nth (dAt 3).body 2)) [] (E0 3 pm code doc L a) (E0 3 pm code doc L a) (dAt 3).body (behind (E0 3 pm code doc L a) (Kr (E0 3 pm code doc L a)) (Hf (E0 3 pm code doc L a)) id id) (id false) (id []) p
    have eo : EnvOk (E0 3 pm code doc L a) := ⟨rfl, rfl, rfl⟩
    refine seg_forLoop ?_
    obtain ⟨Mid, W⟩ := walksE (prog := PW) (w := w) x tk e it hei ao.handled
    refine W.item i s _ _ hlt st fun T vals h₁ t₁ hP _ hT hM hk₁ => ?_
    obtain ⟨ti, u, ch', hch', rfl⟩ := hP
    rw [hch] at hch'; cases hch'
    refine W.go _ _ _ i T _ _ _ hM fun h₂ st₂ hk₂ => ?_
    have hLm : (E0 3 pm code doc L a).locals ∉ [e, it] := fun m => by
      rcases List.mem_cons.mp m with h | m
      · exact hL.1 h
      · exact hL.2 (List.mem_singleton.mp m)
    have hbase : ∀ {q o}, h₀.get? q = some o → q ∉ [e, it] := fun eq m => by
      rcases List.mem_cons.mp m with rfl | m
      · rw [h0.1] at eq; cases eq
      · rw [List.mem_singleton.mp m, h0.2] at eq; cases eq
    have c2 : Chg [L, e, it] s { s with heap := h₂, toks := t₁ } := Chg.heap (fun q o hq eq => hk₂ q o (fun m => hq (List.mem_cons_of_mem _ m)) (hk₁ q o (fun m => hq (List.mem_cons_of_mem _ m)) eq)) t₁
    have g2 : GF PW mg mb h₀ (E0 3 pm code doc L a) (bsG x pos b) { s with heap := h₂, toks := t₁ } := g.wake (fun q o eq => hk₂ q o (hbase eq) (hk₁ q o (hbase eq) (g.kp q o eq))) fun o eq => hk₂ _ o hLm (hk₁ _ o hLm eq)
    have hT2 : h₂.IsTuple T #[.int i ti, .str (S [ch]) u] := let ⟨o, ho, r⟩ := hT; ⟨o, hk₂ T o (W.apart i T h₁ hM) ho, r⟩
    refine wpAny_assign_Tuple ao.handled hT2 rfl rfl fun h₃ hx₃ => ?_
    have x3 : Ext { s with heap := h₂, toks := t₁ } { s with heap := h₃, toks := t₁ } := Ext.butNew (s := { s with heap := h₂, toks := t₁ }) hx₃
    have g3 := g2.ext x3
    have st3 : EnumSt x tk e it (i + 1) h₃ := W.frame _ _ _ st₂ fun q _ o eq => x3.kp q o eq
    refine wpAny_bind (wpAny_holding (wpAny_assign_Name (g3.store rfl rfl (.int (i : Nat) ti) fun s₄ c4 g4 => ?_)))
    refine wpAny_bind (wpAny_holding (wpAny_assign_Name (g4.store rfl rfl (.str (S [ch]) u) fun s₅ c5 g5 => wpAny_pure ?_)))
    have c05 : Chg [L, e, it] s s₅ := (c2.trans x3.chg).trans ((c4.trans c5).mono fun q hq => by rw [List.mem_singleton.mp hq]; exact List.mem_cons_self ..)
    have cs5 := c.trans c05
    have st5 : EnumSt x tk e it (i + 1) s₅.heap := W.frame _ _ _ st3 fun q hq o eq => (c4.trans c5).kp q o (fun m => hLm (by rw [List.mem_singleton.mp m] at hq; exact hq)) eq
    have keepE : ∀ {s' s'' : Shared}, EnumSt x tk e it (i + 1) s'.heap → (∀ q ∈ [e, it], ∀ o, s'.heap.get? q = some o → s''.heap.get? q = some o) → EnumSt x tk e it (i + 1) s''.heap := fun st h => W.frame _ _ _ st h
    have again : ∀ {s' : Shared} {s₀' : Shared} {b2 : Bool} {pre' : List (Nat × Tx)} {m : Nat}, O = pre' ++ escG (x.drop (i + 1)) (i + 1) b2 → m = (escG (x.drop (i + 1)) (i + 1) b2).length → Chg [L, e, it] s₀' s' → GF PW mg mb h₀ (E0 3 pm code doc L a) (bsG x (i : Nat) b2) s' → EnumSt x tk e it (i + 1) s'.heap →
        Seg (model PW w) A (RP [L, e, it]) (YP O h₀ [L, e, it]) m s₀' (.forLoop (tgtOf (nth (dAt 3).body 2)) (.ref e) (forBody (nth (dAt 3).body 2)) [] (E0 3 pm code doc L a))
          (.pure (.again (.forLoop (tgtOf (nth (dAt 3).body 2)) (.ref e) (forBody (nth (dAt 3).body 2)) [] (E0 3 pm code doc L a)))) [frG (E0 3 pm code doc L a) p] s' := by
      intro s' s₀' b2 pre' m hO' hm c' g' st'
      subst hm
      exact seg_again rfl (ih (i + 1) b2 (i : Nat) pre' s₀' s' p (by omega) hO' (fun _ => by omega) c' g' st')
    have toN : ∀ {s₀' s' s'' : Shared}, Chg [L, e, it] s₀' s' → Chg [L] s' s'' → Chg [L, e, it] s₀' s'' := fun c1 c2 => c1.trans (c2.mono fun q hq => by rw [List.mem_singleton.mp hq]; exact List.mem_cons_self ..)
    have stN : ∀ {s' s'' : Shared}, EnumSt x tk e it (i + 1) s'.heap → Chg [L] s' s'' → EnumSt x tk e it (i + 1) s''.heap := fun st c => keepE st fun q hq o eq => c.kp q o (fun m => hLm (by rw [List.mem_singleton.mp m] at hq; exact hq)) eq
    have stX : ∀ {s' s'' : Shared}, EnumSt x tk e it (i + 1) s'.heap → Ext s' s'' → EnumSt x tk e it (i + 1) s''.heap := fun st c => keepE st fun q hq o eq => c.kp q o eq
    have lvE : ∀ {s' : Shared} {bs : List (Str × AV)}, GF PW mg mb h₀ (E0 3 pm code doc L a) bs s' → EnumSt x tk e it (i + 1) s'.heap → LvAt [L, e, it] s'.heap := fun {s' bs} g st q hq => by
      rcases List.mem_cons.mp hq with rfl | hq
      · obtain ⟨m, ⟨o, _, _, eo, _⟩, _⟩ := g.ns
        exact ⟨o, eo⟩
      · rcases List.mem_cons.mp hq with rfl | hq
        · obtain ⟨⟨old, he⟩, _⟩ := st; exact ⟨_, he⟩
        · rw [List.mem_singleton.mp hq]; obtain ⟨_, o, ho, _⟩ := st; exact ⟨o, ho⟩
    refine seg_execs_cons (seg_If ?_)
    refine Tr.go (n := 20) (b := b) (Tr.val (EvO.var rfl) Truth.bool) ao eo (g5.rd (kindsD pm code doc L a x _ pos b ch)) fun s₆ x6 => ?_
    have g6 := g5.ext x6
    have st6 := stX st5 x6
    have c6 := cs5.trans x6.chg
    cases b with
    | true =>
      have hO1 : O = pre ++ (i, [92, ch]) :: escG (x.drop (i + 1)) (i + 1) false := hO
      refine seg_execs_cons (seg_Expr_Yield (n := (escG (x.drop (i + 1)) (i + 1) false).length) rfl rfl rfl ?_ rfl rfl)
      refine Ev.go (n := 20) (V := .tup [.int (i : Nat), Mine.T [92, ch]]) (Ev.tup (Evs.cons (Ev.var rfl) (Evs.cons (Ev.bin (Ev.cT S_bs).toO (EvO.var rfl) (OpB.addT (x := [92]) (y := [ch]) (by simp))) Evs.nil))) ao eo (g6.rd (kindsD pm code doc L a x _ pos true ch)) fun v s₇ x7 r7 _ kap hkap => ?_
      have g7 := g6.ext x7
      refine ⟨⟨(i, [92, ch]), idx_eq hO1, pair_of r7 rfl⟩, c6.trans x7.chg, g7.kp, lvE g7 (stX st6 x7), fun s'' h1 h2 => hkap .none s'' ?_⟩
      have g8 := g7.wake (s' := s'') h1 fun o eq => h2 _ (List.mem_cons_self ..) o eq
      have st8 := keepE (s'' := s'') (stX st6 x7) fun q hq o eq => h2 q (List.mem_cons_of_mem _ hq) o eq
      refine seg_round (n := 20) (b := true) (b2 := false) pm code doc L a ao g8 fun s₉ c9 g9 => seg_execs_nil ?_
      exact again (pre' := pre ++ [(i, [92, ch])]) (by rw [hO1]; simp) rfl (toN (.refl _) c9) g9 (stN st8 c9)
    | false =>
      refine seg_execs_cons (seg_If ?_)
      refine Tr.go (n := 20) (b := ([ch] == [92])) (Tr.cmp (EvO.var rfl) (Ev.cT S_bs).toO OpC.eqT) ao eo (g6.rd (kindsD pm code doc L a x _ pos false ch)) fun s₇ x7 => ?_
      have g7 := g6.ext x7
      have st7 := stX st6 x7
      have c7 := c6.trans x7.chg
      by_cases hq : ch = 92
      · subst hq
        have e1 : escG (92 :: x.drop (i + 1)) i false = escG (x.drop (i + 1)) (i + 1) true := rfl
        rw [e1] at hO ⊢
        refine seg_round (n := 20) (b := false) (b2 := true) pm code doc L a ao g7 fun s₉ c9 g9 => seg_execs_nil ?_
        exact again hO rfl (toN c7 c9) g9 (stN st7 c9)
      · have e1 : escG (ch :: x.drop (i + 1)) i false = (i, [ch]) :: escG (x.drop (i + 1)) (i + 1) false := by
          show (if (ch == 92) = true then _ else _) = _
          rw [if_neg (by simpa using hq)]
        have e2 : (([ch] : Tx) == [92]) = false := by simpa using hq
        rw [e1] at hO ⊢
        rw [e2]
        refine seg_execs_cons (seg_Expr_Yield (n := (escG (x.drop (i + 1)) (i + 1) false).length) rfl rfl rfl ?_ rfl rfl)
        refine Ev.go (n := 20) (V := .tup [.int (i : Nat), Mine.T [ch]]) (Ev.tup (Evs.cons (Ev.var rfl) (Evs.cons (Ev.var rfl) Evs.nil))) ao eo (g7.rd (kindsD pm code doc L a x _ pos false ch)) fun v s₈ x8 r8 _ kap hkap => ?_
        have g8 := g7.ext x8
        refine ⟨⟨(i, [ch]), idx_eq hO, pair_of r8 rfl⟩, c7.trans x8.chg, g8.kp, lvE g8 (stX st7 x8), fun s'' h1 h2 => hkap .none s'' ?_⟩
        have g9 := g8.wake (s' := s'') h1 fun o eq => h2 _ (List.mem_cons_self ..) o eq
        have st9 := keepE (s'' := s'') (stX st7 x8) fun q hq o eq => h2 q (List.mem_cons_of_mem _ hq) o eq
        refine seg_execs_nil (seg_execs_nil ?_)
        refine again (pre' := pre ++ [(i, [ch])]) (by rw [hO]; simp) rfl (.refl _) (g9.weak fun y W e => ?_) st9
        have := look_back x i pos false false ch y W e
        rw [List.lookup_cons] at this
        by_cases hy : (y == (Str.ofString "escape")) = true
        · have hy' : y = Str.ofString "escape" := beq_iff_eq.mp hy
          subst hy'
          exact e
        · simp only [hy] at this; exact this
end
end Mine
end
section
set_option maxRecDepth 100000
set_option maxHeartbeats 4000000
namespace Mine
variable {w : World} {mg mb : Str → Option Value} {n : Nat}
theorem cbool_direct {M : Model} {A : Around} {E : Value → Shared → Prop} {s : Shared} {env : Env} {b : Bool} {k : Nat} {pos : Pos} {Q : Value → Shared → Prop} (h : Q (.bool b) s) : wpAny M A (eval (.Constant (.bool b) k pos) env) Q E s := fun _ _ _ => h
section
variable (pm code doc : Value) (L a : Addr)
noncomputable abbrev genCode : Code := .func (dAt 3).body (E0 3 pm code doc L a)
/- a first waking -/
theorem goes_fresh (gv : GV mg mb) {A : Around} (hA : AOk 30 A) {x : Tx} (hx : x.length ≤ 1048000) {t : Tok} {h₀ : Heap} {s : Shared} {m : Str → Option Value} (gl : Gl PW mg mb h₀) (kp : Kp h₀ s.heap) (hn : s.heap.Ns L m) (hm : m "addr" = some (.str (S x) t)) (hL0 : h₀.get? L = none) :
    (GenState.fresh (genCode pm code doc L a)).Goes (model PW w) A (RP [L, s.heap.objs.size + 1, s.heap.objs.size]) (YP (escG x 0 false) h₀ [L, s.heap.objs.size + 1, s.heap.objs.size]) (escG x 0 false).length (.send .none) s := by
  refine ⟨rfl, seg_func ?_⟩
  have ao := over_func (n := 20) hA (dAt 3).body (E0 3 pm code doc L a)
  have hlt : L < s.heap.objs.size := hn.lt
  have eo : EnvOk (E0 3 pm code doc L a) := ⟨rfl, rfl, rfl⟩
  refine seg_execs_cons (seg_wrap (wpAny_Assign_Name (wpAny_Constant_int (wpAny_storeName_local rfl hn (fun h₁ hn₁ hs₁ => ?_) rfl))))
  replace hs₁ : Heap.SameBut L s.heap h₁ := hs₁
  refine seg_execs_cons (seg_wrap (wpAny_Assign_Name (cbool_direct (wpAny_storeName_local rfl hn₁ (fun h₂ hn₂ hs₂ => ?_) rfl))))
  replace hs₂ : Heap.SameBut L h₁ h₂ := hs₂
  have hsz : h₂.objs.size = s.heap.objs.size := hs₂.1.trans hs₁.1
  have hk2 : ∀ b o, b ≠ L → s.heap.get? b = some o → h₂.get? b = some o := fun b o hb e => hs₂.extBut b o hb (hs₁.extBut b o hb e)
  have kp2 : Kp h₀ h₂ := fun b o e => hk2 b o (fun q => by rw [q, hL0] at e; cases e) (kp b o e)
  have gl2 := gl.kp kp2
  refine seg_execs_cons (seg_For ?_)
  rw [arm_eval_Call_Name']
  refine wpAny_bind (Calls.Name_function_global rfl rfl (Calls.loadGlobal_builtin (mg := mg) (mb := mb) gl2.g (gv.free _ (.inr (.inr (.inr (.inr (.inr rfl)))))) gl2.b gv.enum ?_) rfl)
  refine Pv.callWith_type1 ?_ rfl rfl
  refine Calls.spliced_cons (wpAny_Name (wpAny_loadName_local rfl rfl hn₂ (v := .str (S x) t) hm (Calls.spliced_nil (call_enumerate_str fun h₃ he₃ hit₃ hsz₃ hk₃ => ?_))) rfl)
  rw [show (_ : Nat) = _ from hsz] at he₃ hit₃ hsz₃
  have eidx : (h₂.objs.size + 1 : Nat) = s.heap.objs.size + 1 := by rw [hsz]
  refine wpAny_pyIter_enum (e := h₂.objs.size + 1) (it := s.heap.objs.size) (i := 0) (old := .none) (by rw [eidx]; exact he₃) fun p => ?_
  rw [eidx]
  have hk3 : ∀ b o, b ≠ L → s.heap.get? b = some o → h₃.get? b = some o := fun b o hb e => hk₃ b o (hk2 b o hb e)
  have fresh0 : h₀.get? (s.heap.objs.size + 1) = none ∧ h₀.get? s.heap.objs.size = none := by
    constructor
    · cases e : h₀.get? (s.heap.objs.size + 1) with
      | none => rfl
      | some o => exact absurd (Nat.lt_trans (Nat.lt_succ_self _) (Heap.lt_size (kp _ _ e))) (Nat.lt_irrefl _)
    · cases e : h₀.get? s.heap.objs.size with
      | none => rfl
      | some o => exact absurd (Heap.lt_size (kp _ _ e)) (Nat.lt_irrefl _)
  refine seg_loopG pm code doc L a hA hx (Nat.succ_ne_self _) (tk := t) (O := escG x 0 false) ⟨Nat.ne_of_lt (Nat.lt_succ_of_lt hlt), Nat.ne_of_lt hlt⟩ fresh0 x.length 0 false 0 [] s _ p (by omega) (by simp) (fun h => by cases h) ?_ ⟨gl, fun b o e => hk₃ b o (kp2 b o e), hL0, _, hn₂.keeps hk₃, fun y W e => ?_⟩ ⟨⟨_, he₃⟩, hit₃⟩
  · exact Chg.heap (fun b o hb e => hk3 b o (fun q => hb (by rw [q]; exact List.mem_cons_self ..)) e) _
  · simp only [bsG, List.lookup_cons] at e
    by_cases h1 : (y == (Str.ofString "escape")) = true
    · simp only [h1] at e
      have := beq_iff_eq.mp h1; subst this
      cases e
      exact ⟨_, if_pos rfl, .bool _⟩
    · simp only [h1] at e
      by_cases h2 : (y == (Str.ofString "pos")) = true
      · simp only [h2] at e
        have := beq_iff_eq.mp h2; subst this
        cases e
        exact ⟨_, rfl, .int _ _⟩
      · simp only [h2] at e
        by_cases h3 : (y == (Str.ofString "addr")) = true
        · simp only [h3] at e
          have := beq_iff_eq.mp h3; subst this
          cases e
          exact ⟨_, hm, .str _ _⟩
        · simp only [h3] at e; cases e
end
end Mine
end
section
set_option maxRecDepth 100000
set_option maxHeartbeats 4000000
namespace Mine
variable {w : World} {mg mb : Str → Option Value} {n : Nat}
/- the next item of the generator -/
theorem next_G {A : Around} {E : Value → Shared → Prop} {Q : Option Value → Shared → Prop} {s : Shared} {a : Addr} {g m : Nat} {gs : GenState} {own : List Addr} {O : List (Nat × Tx)} {h₀ : Heap} (ao : AOk 3 A) (hl : s.heap.NoLimit) (hg : s.heap.IsGen a g) (hgs : s.gens[g]? = some gs) (hm : m ≤ O.length)
    (hgo : gs.Goes (model PW w) A.in1 (RP own) (YP O h₀ own) m (.send .none) (s.setGen g .running))
    (hY : ∀ k v s₁ gs', m = k + 1 → gs'.bare = true → (∃ p, O[O.length - m]? = some p ∧ PairAt s₁.heap v p) → Chg own (s.setGen g .running) s₁ → Kp h₀ s₁.heap → LvAt own s₁.heap →
      (∀ s'', Kp h₀ s''.heap → (∀ b ∈ own, ∀ o, s₁.heap.get? b = some o → s''.heap.get? b = some o) → gs'.Goes (model PW w) A.in1 (RP own) (YP O h₀ own) k (.send .none) s'') → Q (some v) (s₁.setGen g gs'))
    (hP : m = 0 → ∀ s₁ h', Chg own (s.setGen g .running) s₁ → LvAt own s₁.heap → (∀ b o, s₁.heap.get? b = some o → h'.get? b = some o) → Q none { s₁.setGen g .finished with heap := h' }) :
    wpAny (model PW w) A (pyNext (.ref a)) Q E s := by
  unfold pyNext
  refine wpAny_bind (wpAny_attempt (wpAny_callSpecial?_slot (name := Str.ofString "__next__") hg.typeIs slot_gen_next (wpAny_call_entry slot_gen_next hg.typeIs entry_gen_next ?_ (args_gen_next _))))
  show wpAny _ A.in1 (Builtin.Generator.genWake (.ref a) (.send .none)) _ _ s
  unfold Builtin.Generator.genWake
  refine wpAny_bind (wpAny_holding (wpAny_genNumber hg (wpAny_bind (wpAny_genState hgs ?_))))
  cases gs with
  | running => exact hgo.elim
  | finished => exact hgo.elim
  | _ =>
    refine wpAny_bind (wpAny_roomToWake hl ao.room ?_)
    show wpAny _ A.in1 (.resume g (.send .none) [] _) _ _ s
    refine wpAny_resumeQ hgs hgo (fun r s₁ hr => ?_) fun v s₁ gs' hb hv => wpAny_pure ⟨v, rfl, wpAny_pure ?_⟩
    · obtain ⟨rfl, hm0, hc, hlv⟩ := hr
      show wpAny _ A.in1 (newExc (.type "StopIteration") [] >>= _) _ _ _
      simp only [newExc, newTuple]
      refine wpAny_bind (wpAny_bind (wpAny_newObj_type (wpAny_bind (m := firstArgMember _ _) (wpAny_of_eq (a := Value.none) (by first | rfl | (simp only [firstArgMember]; rfl)) (wpAny_newObj_type ?_ (by size_fits)))) (by size_fits)))
      simp only [raiseNew]
      refine wpAny_bind (wpAny_bind (wpAny_handled ?_))
      rw [show A.in1.handled = none from ao.handled]
      refine wpAny_throw (wpAny_bind (wpAny_isInstance (T := "StopIteration") (b := true) ⟨_, Heap.get?_push_size _ rfl, rfl⟩ isSubtype_stop (wpAny_pure ?_)))
      exact hP hm0 s₁ _ hc hlv fun b o e => Heap.get?_push_of_some _ (Heap.get?_push_of_some _ e)
    · obtain ⟨⟨p, hp, hpair⟩, hc, hk, hlv, hkap⟩ := hv
      cases m with
      | zero => exact (hkap s₁ hk fun _ _ _ e => e).elim
      | succ k =>
        have e : O.length - 1 - (k + 1 - 1) = O.length - (k + 1) := by omega
        rw [e] at hp
        exact hY k v s₁ gs' rfl hb ⟨p, hp, hpair⟩ hc hk hlv fun s'' h1 h2 => hkap s'' h1 h2
end Mine
end
section
set_option maxRecDepth 100000
set_option maxHeartbeats 4000000
namespace Mine
variable {w : World} {mg mb : Str → Option Value} {n : Nat} {env : Env} {ρ ρ' : PEnv} {F F' Z Z' N : List Addr} {s s' : Shared} {h₀ : Heap} {prog : Program}
theorem Fm.through (f : Fm prog w mg mb F Z env ρ s) (gl : Gl prog mg mb h₀) (k0 : Kp h₀ s.heap) (hF : ∀ b ∈ F, h₀.get? b = none) (c : KpX N s.heap s'.heap) (hNF : ∀ q ∈ N, q ∉ F) (hN0 : ∀ q ∈ N, h₀.get? q = none) (hZ : ∀ q ∈ N, q ∈ Z ∨ s.heap.get? q = none)
    (lv : ∀ q ∈ N, ∃ o, s'.heap.get? q = some o) : Fm prog w mg mb F (N ++ Z) env ρ s' := by
  have sw : ∀ b ∈ F ++ (N ++ Z), b ∈ F ++ Z ∨ s.heap.get? b = none := fun b hb => by
    rcases List.mem_append.mp hb with hb | hb
    · exact .inl (List.mem_append_left _ hb)
    · rcases List.mem_append.mp hb with hb | hb
      · exact (hZ b hb).imp (List.mem_append_right _) id
      · exact .inl (List.mem_append_right _ hb)
  have nF : ∀ {q}, q ∈ F → q ∉ N := fun h m => hNF _ m h
  have vk : ∀ {y u}, VarIs s.heap env y u → VarIs s'.heap env y u := fun q => by
    cases q with
    | loc m k n e => exact .loc m k (n.at' fun o eo => c _ o (nF f.loc) eo) e
    | cell d k l i => obtain ⟨o, h1, h2⟩ := i; exact .cell d k l ⟨o, c d o (nF (f.cells _ d l).1) h1, h2⟩
  have kX : KpX (F ++ (N ++ Z)) s.heap s'.heap := fun b o hb e => c b o (fun m => hb (List.mem_append_right _ (List.mem_append_left _ m))) e
  refine ⟨⟨h₀, gl, fun b o e => c b o (fun m => by rw [hN0 b m] at e; cases e) (k0 b o e), hF⟩, fun b hb => ?_, ?_, f.loc, fun y d ed => ?_, f.apart, fun y sl ey => ?_, f.one⟩
  · by_cases hbN : b ∈ N
    · exact lv b hbN
    · rcases sw b hb with h | h
      · obtain ⟨o, e⟩ := f.live b h; exact ⟨o, c b o hbN e⟩
      · rcases List.mem_append.mp hb with hb | hb
        · obtain ⟨o, e⟩ := f.live b (List.mem_append_left _ hb); rw [h] at e; cases e
        · rcases List.mem_append.mp hb with hb | hb
          · exact absurd hb hbN
          · obtain ⟨o, e⟩ := f.live b (List.mem_append_right _ hb); rw [h] at e; cases e
  · obtain ⟨m, hm⟩ := f.ns; exact ⟨m, hm.at' fun o eo => c _ o (nF f.loc) eo⟩
  · obtain ⟨h1, h2, u, o, h3, h4⟩ := f.cells y d ed; exact ⟨h1, h2, u, o, c d o (nF h1) h3, h4⟩
  · obtain ⟨u, h1, h2, h3⟩ := f.vals y sl ey
    refine ⟨u, vk h1, ?_, ?_⟩
    · unfold SlotOk at h3
      cases ho : sl.own with
      | none => rw [ho] at h3; exact (h2.swapX sw).kpX kX (h3.swapX sw h2)
      | some d => rw [ho] at h3; obtain ⟨a, rfl, h4, _⟩ := h3; exact (h2.swapX sw).atX (fun o e => c a o (nF h4) e) kX
    · unfold SlotOk at h3 ⊢
      cases ho : sl.own with
      | none => rw [ho] at h3; exact h3.swapX sw h2
      | some d =>
        rw [ho] at h3
        obtain ⟨a, rfl, h4, h5, h6⟩ := h3
        refine ⟨a, rfl, h4, ?_, h6⟩
        cases d with
        | some c' => exact h5
        | none => exact fun hz => (List.mem_append.mp hz).elim (nF h4) h5
theorem Fm.subZ (f : Fm prog w mg mb F Z env ρ s) (h : ∀ q ∈ Z', q ∈ Z) : Fm prog w mg mb F Z' env ρ s := by
  have sub : ∀ b ∈ F ++ Z', b ∈ F ++ Z := fun b hb => by
    rcases List.mem_append.mp hb with hb | hb
    · exact List.mem_append_left _ hb
    · exact List.mem_append_right _ (h b hb)
  refine { f with live := fun b hb => f.live b (sub b hb), vals := fun y sl e => ?_ }
  obtain ⟨u, h1, h2, h3⟩ := f.vals y sl e
  refine ⟨u, h1, h2.swapX fun b hb => .inl (sub b hb), ?_⟩
  unfold SlotOk at h3 ⊢
  cases ho : sl.own with
  | none => rw [ho] at h3; exact fun b e hb => h3 b e (sub b hb)
  | some b =>
    rw [ho] at h3
    obtain ⟨a, rfl, h4, h5, h6⟩ := h3
    exact ⟨a, rfl, h4, by cases b with | some c => exact h5 | none => exact fun hz => h5 (h _ hz), h6⟩
/- the generators' row -/
noncomputable def GensAt (G : Array GenState) (s : Shared) (gs : GenState) : Prop := ∃ more, AllBare more ∧ s.gens = G ++ more ∧ more[0]? = some gs
theorem GensAt.get {G : Array GenState} {gs : GenState} (h : GensAt G s gs) : s.gens[G.size]? = some gs := by
  obtain ⟨more, _, e, h0⟩ := h
  rw [e, Array.getElem?_append_right (Nat.le_refl _), Nat.sub_self]; exact h0
theorem GensAt.chg {G : Array GenState} {gs : GenState} (h : GensAt G s gs) (c : ∃ m, AllBare m ∧ s'.gens = s.gens ++ m) : GensAt G s' gs := by
  obtain ⟨more, hb, e, h0⟩ := h
  obtain ⟨m, hm, e'⟩ := c
  refine ⟨more ++ m, fun y hy => ?_, by rw [e', e, Array.append_assoc], ?_⟩
  · rcases Array.mem_append.mp hy with h | h
    · exact hb y h
    · exact hm y h
  · have : 0 < more.size := (Array.getElem?_eq_some_iff.mp h0).1
    rw [Array.getElem?_append_left this]; exact h0
theorem GensAt.set {G : Array GenState} {gs x : GenState} (h : GensAt G s gs) (hx : x.bare = true) : GensAt G (s.setGen G.size x) x := by
  obtain ⟨more, hb, e, h0⟩ := h
  have hs : 0 < more.size := (Array.getElem?_eq_some_iff.mp h0).1
  refine ⟨more.setIfInBounds 0 x, fun y hy => ?_, ?_, ?_⟩
  · obtain ⟨i, hi, rfl⟩ := Array.mem_iff_getElem.mp hy
    rw [Array.getElem_setIfInBounds (by simpa using hi)]
    split
    · exact hx
    · exact hb _ (Array.getElem_mem _)
  · show s.gens.setIfInBounds G.size x = _
    rw [e]
    apply Array.ext
    · simp
    · intro i h1 h2
      grind
  · simp [hs]
theorem letGo_gen {A : Around} {E : Value → Shared → Prop} {Q : Unit → Shared → Prop} {elts : List PySem.Expr} {k : Nat} {pos : Pos} {a T g : Nat} (h : s.heap.IsGen a g) (q : Q () s) : wpAny (model prog w) A (letOwnedTupleGo (.Tuple elts k pos) (.ref a) (.ref T)) Q E s := by
  obtain ⟨o, nm, qn, ho, hc, hd, _⟩ := h
  unfold letOwnedTupleGo
  refine wpAny_bind (wpAny_load ho ?_)
  rw [hc, hd]
  dsimp only
  have hc : (["enumerate", "zip", "dict_itemiterator", "dict_reverseitemiterator", "odict_iterator", "itertools.zip_longest", "itertools.pairwise"].contains "generator") = false := by decide
  rw [hc, Bool.false_and, if_neg Bool.false_ne_true]
  exact wpAny_pure q
end Mine
end
section
set_option maxRecDepth 100000
set_option maxHeartbeats 4000000
namespace Mine
variable {w : World} {mg mb : Str → Option Value} {n : Nat} {env : Env} {ρ ρ' : PEnv} {F F' Z Z' N : List Addr} {s s' : Shared} {h₀ : Heap} {r : Option AV}
theorem ok3 : DefOk (dAt 3) ["addr"] := ⟨by decide, fun pm code doc vs h => by match vs, h with | [a], _ => rfl, fun k => rfl, rfl, rfl⟩
theorem noCell3 : ∀ x ∈ (dAt 3).scope.names, x.2 ≠ .cell := fun x hx => by
  have h : (dAt 3).scope.names.all (fun x => x.2 != .cell) = true := rfl
  simpa using List.all_eq_true.mp h x hx
/- the call makes the generator -/
theorem call_G {A : Around} (ao : AOk (n + 10) A) {E Q : Value → Shared → Prop} {ad : Addr} {x : Tx} {t : Tok} (hm : mg "_iter_escaped_chars" = some (.ref ad)) (gl : Gl PW mg mb s.heap)
    (q : ∀ pm code doc (h' : Heap) (tk : Nat) (m : Str → Option Value) (o : Obj), h'.Ns s.heap.objs.size m → m "addr" = some (.str (S x) t) → Kp s.heap h' → s.heap.objs.size < h'.objs.size →
      (∀ b o', h'.get? b = some o' → (h'.push o).get? b = some o') → (h'.push o).IsGen h'.objs.size s.gens.size →
      Q (.ref h'.objs.size) { s with heap := h'.push o, toks := tk, gens := s.gens.push (.fresh (genCode pm code doc s.heap.objs.size ad)) }) :
    (∃ o fd, s.heap.get? ad = some o ∧ o.data = .func fd) ∧ wpAny (model PW w) A (call (.ref ad) [.str (S x) t]) Q E s := by
  obtain ⟨ad', o, pm, code, doc, h1, h2, h3, h4⟩ := gl.fn (dAt 3) (dAt_mem (by decide))
  have hnm : (dAt 3).name = "_iter_escaped_chars" := rfl
  rw [hnm, hm] at h1; cases h1
  refine ⟨⟨o, _, h2, h3⟩, wpAny_call ?_⟩
  refine codeAny_call_generator (fd := fdOf (dAt 3) pm code doc) ao.room h2 h3 rfl rfl rfl h4 (wpAny_of_eq (ok3.bind pm code doc [.str (S x) t] rfl) ?_)
  refine wpAny_newFunctionEnv noCell3 (fun y hy => ?_) (fun h' hn hs => ?_) rfl
  · rcases List.mem_cons.mp hy with rfl | hy
    · rfl
    · cases hy
  · have hk : Kp s.heap h' := fun b o e => hs.extBut b o (Nat.ne_of_lt (Heap.lt_size e)) (Heap.get?_push_of_some _ e)
    have hsz : h'.objs.size = s.heap.objs.size + 1 := by rw [hs.1, Heap.size_push]
    refine ⟨gl.lim.keeps hk, ?_⟩
    exact q pm code doc h' _ _ _ hn rfl hk (by rw [hsz]; exact Nat.lt_succ_self _) (fun b o e => Heap.get?_push_of_some _ e) ⟨_, _, _, Heap.get?_push_size _ rfl, rfl, rfl, rfl⟩
end Mine
end
section
set_option maxRecDepth 100000
set_option maxHeartbeats 4000000
namespace Mine
variable {w : World} {mg mb : Str → Option Value} {n : Nat} {env : Env} {ρ ρ' : PEnv} {F F' Z Z' N : List Addr} {s s' : Shared} {h₀ : Heap} {r : Option AV}
theorem callWith_fn {prog : Program} {A : Around} {Q E : Value → Shared → Prop} {a : Addr} {e : PySem.Expr} {pos : Pos} (hs : starEach [e] env = [(false, eval e env)])
    (h : wpAny (model prog w) A (eval e env) (fun v s₁ => (∃ o fd, s₁.heap.get? a = some o ∧ o.data = .func fd) ∧ wpAny (model prog w) A (call (.ref a) [v]) Q E s₁) E s) :
    wpAny (model prog w) A (callWith pos (.ref a) [] (backTo pos (starEach [e] env)) []) Q E s := by
  have key : wpAny (model prog w) A (evalArgs (.ref a) true (backTo pos (starEach [e] env)) []) (fun x s₁ => (∃ o fd, s₁.heap.get? a = some o ∧ o.data = .func fd) ∧ wpAny (model prog w) A (call (.ref a) ([] ++ x.pos) x.kw) Q E s₁) E s := by
    rw [hs]
    exact Calls.evalArgs_plain (Calls.spliced_cons (wpAny_mono h (fun v s₁ h₁ => Calls.spliced_nil h₁) fun _ _ x => x))
  unfold callWith
  refine wpAny_bind (wpAny_holding (wpAny_mono key (fun x s₁ h₁ => wpAny_bind (wpAny_standAt ?_)) fun _ _ x => x))
  obtain ⟨⟨o, fd, ho, hd⟩, hw⟩ := h₁
  have tail : ∀ {t : Sem Value}, wpAny (model prog w) A t Q E s₁ → wpAny (model prog w) A (t >>= fun r => holding [r] point >>= fun _ => pure r) Q E s₁ :=
    fun ht => wpAny_bind (wpAny_mono ht (fun r s₂ hr => wpAny_bind (wpAny_holding (wpAny_point (wpAny_pure hr)))) fun _ _ x => x)
  refine wpAny_bind (m := keeperOf (.ref a)) ?_
  unfold keeperOf
  refine wpAny_bind (wpAny_load ho ?_)
  rw [hd]
  refine wpAny_pure ?_
  cases hst : ((backTo pos (starEach [e] env)).any (·.1) || ([] : List (Option Str × Sem Value)).any (·.1.isNone)) with
  | true => exact tail (by unfold callMarked; exact Calls.wpAny_keep hw)
  | false =>
    refine wpAny_ite ?_
    split
    · exact tail hw
    · exact tail (by unfold callMarked; exact Calls.wpAny_keep hw)
structure LoopG (w : World) (mg mb : Str → Option Value) (A : Around) (O : List (Nat × Tx)) (h₀ : Heap) (F Z : List Addr) (env : Env) (a' : Addr) (s₁ : Shared) (G : Array GenState) (ρi : PEnv) (i : Nat) (s' : Shared) (F' keep : List Addr) (gs : GenState) : Prop where
  nw : ∀ q ∈ F', q ∈ F ∨ s₁.heap.get? q = none
  kx : KpX F s₁.heap s'.heap
  os : s'.os = s₁.os
  gn : GensAt G s' gs
  fm : Fm PW w mg mb F' (keep ++ Z) env ρi s'
  k0 : Kp h₀ s'.heap
  f0 : ∀ b ∈ F', h₀.get? b = none
  kp : ∀ q ∈ keep, q ∉ F' ∧ h₀.get? q = none ∧ (q ∈ F ∨ s₁.heap.get? q = none)
  ga : s'.heap.IsGen a' G.size ∧ a' ∉ F' ∧ a' ∉ keep ∧ (a' ∈ F ∨ s₁.heap.get? a' = none)
  go : ∀ s'', Kp h₀ s''.heap → (∀ q ∈ keep, ∀ o, s'.heap.get? q = some o → s''.heap.get? q = some o) → ∃ own, (∀ q ∈ own, q ∈ keep ∨ s''.heap.get? q = none) ∧ (∀ q ∈ keep, q ∈ own) ∧
    gs.Goes (model PW w) A.in1 (RP own) (YP O h₀ own) (O.length - i) (.send .none) s''
theorem none_of_kp {h h' : Heap} (k : Kp h h') {q : Addr} (e : h'.get? q = none) : h.get? q = none := by
  cases e0 : h.get? q with
  | none => rfl
  | some o => rw [k q o e0] at e; cases e
/- the generator has moved on -/
theorem LoopG.moved {A : Around} {O : List (Nat × Tx)} {a' : Addr} {s₁ s₂ : Shared} {G : Array GenState} {ρi : PEnv} {i : Nat} {keep own : List Addr} {gs : GenState} (gl : Gl PW mg mb h₀) (J : LoopG w mg mb A O h₀ F Z env a' s₁ G ρi i s' F' keep gs)
    (hown : ∀ q ∈ own, q ∈ keep ∨ s'.heap.get? q = none) (hko : ∀ q ∈ keep, q ∈ own) (c : KpX own s'.heap s₂.heap) (lv : ∀ q ∈ own, ∃ o, s₂.heap.get? q = some o) :
    Fm PW w mg mb F' (own ++ Z) env ρi s₂ ∧ KpX F s₁.heap s₂.heap ∧ Kp h₀ s₂.heap ∧ (∀ q ∈ own, q ∉ F' ∧ h₀.get? q = none ∧ (q ∈ F ∨ s₁.heap.get? q = none)) ∧ a' ∉ own ∧ s₂.heap.IsGen a' G.size := by
  have oF : ∀ q ∈ own, q ∉ F' := fun q hq hF => by
    rcases hown q hq with h | h
    · exact (J.kp q h).1 hF
    · obtain ⟨o, e⟩ := J.fm.liveF q hF; rw [h] at e; cases e
  have o0 : ∀ q ∈ own, h₀.get? q = none := fun q hq => (hown q hq).elim (fun h => (J.kp q h).2.1) (none_of_kp J.k0)
  have oS : ∀ q ∈ own, q ∈ F ∨ s₁.heap.get? q = none := fun q hq => by
    rcases hown q hq with h | h
    · exact (J.kp q h).2.2
    · by_cases hF : q ∈ F
      · exact .inl hF
      · refine .inr ?_
        cases e0 : s₁.heap.get? q with
        | none => rfl
        | some o => rw [J.kx q o hF e0] at h; cases h
  obtain ⟨og, nm, qn, hog, hgr⟩ := J.ga.1
  have ao : a' ∉ own := fun hm => by
    rcases hown a' hm with h | h
    · exact J.ga.2.2.1 h
    · rw [h] at hog; cases hog
  refine ⟨(J.fm.through (N := own) gl J.k0 J.f0 c oF o0 (fun q hq => (hown q hq).imp (List.mem_append_left _) id) lv).subZ (fun q hq => ?_), fun b o hb e => ?_, fun b o e => c b o (fun m => by rw [o0 b m] at e; cases e) (J.k0 b o e), fun q hq => ⟨oF q hq, o0 q hq, oS q hq⟩, ao, ⟨og, nm, qn, c a' og ao hog, hgr⟩⟩
  · rcases List.mem_append.mp hq with h | h
    · exact List.mem_append_left _ h
    · exact List.mem_append_right _ (List.mem_append_right _ h)
  · refine c b o (fun m => ?_) (J.kx b o hb e)
    rcases oS b m with h | h
    · exact hb h
    · rw [h] at e; cases e
end Mine
end
section
set_option maxRecDepth 100000
set_option maxHeartbeats 4000000
namespace Mine
variable {w : World} {mg mb : Str → Option Value} {n : Nat} {env : Env} {ρ ρ' : PEnv} {F F' F'' Z Z' N : List Addr} {s s' : Shared} {h₀ : Heap} {r : Option AV}
theorem AOk.in1' {A : Around} (a : AOk (n + 1) A) : AOk n A.in1 := ⟨a.handled, by have := a.depth; show A.depth + n < _; omega, by have := a.units; show A.units + 1 + 20 * n + 400 < _; omega⟩
noncomputable abbrev escO (x : Tx) : List (Nat × Tx) := escG x 0 false
theorem FlowIs.dropZ {f : Flow} {o : Option AV} (h : FlowIs PW w F Z s f o) (hz : ∀ q ∈ Z', q ∈ Z) : FlowIs PW w F Z' s f o := by
  cases o with
  | none => exact h
  | some V =>
    obtain ⟨v, rfl, hr, ha⟩ := h
    refine ⟨v, rfl, hr.swapX fun b hb => .inl ?_, fun b e hb => ha b e (hz b hb)⟩
    rcases List.mem_append.mp hb with hb | hb
    · exact List.mem_append_left _ hb
    · exact List.mem_append_right _ (hz b hb)
theorem St.forGen (gv : GV mg mb) {x : Tx} (hxl : x.length ≤ 1048000) {e : PySem.Expr} {y z : Str} {py pz tp pf pc pos : Pos} {tk : Nat} {body : List Stmt} (he : Ev PW w mg mb (n + 60) env ρ e (T x)) (hse : starEach [e] env = [(false, eval e env)] := by rfl) (hg : env.kindOf "_iter_escaped_chars" = some .globalImplicit)
    (st : Nat → PEnv) (M : Nat) (hN : M ≤ (escO x).length) (h0 : Sub (st 0) ρ) (hy : KOk env y) (hz : KOk env z)
    (hb : ∀ i p, i < M → (escO x)[i]? = some p → Sx PW w mg mb (n + 60) env ((z, ⟨T p.2, none⟩) :: (y, ⟨.int (p.1 : Nat), none⟩) :: st i) body (st (i + 1)) none)
    (hend : (M = (escO x).length ∧ ρ' = st M ∧ r = none) ∨ (∃ p W, (escO x)[M]? = some p ∧ Sx PW w mg mb (n + 60) env ((z, ⟨T p.2, none⟩) :: (y, ⟨.int (p.1 : Nat), none⟩) :: st M) body ρ' (some W) ∧ r = some W)) :
    St PW w mg mb (n + 60) env ρ (.For (.Tuple [.Name y py, .Name z pz] tk tp) (.Call (.Name "_iter_escaped_chars" pf) [e] [] pc) body [] pos) ρ' r := by
  intro A F Z s Q E ao eo fm q
  obtain ⟨ad, hm⟩ := gv.fn (dAt 3) (dAt_mem (by decide))
  replace hm : mg "_iter_escaped_chars" = some (.ref ad) := hm
  refine wpAny_For ?_ (by intro _; rfl)
  rw [arm_eval_Call_Name']
  refine wpAny_bind (Calls.Name_function_global eo.kind hg (Calls.loadGlobal_global (mg := mg) (by rw [eo.globals]; exact fm.gl.g) hm ?_) rfl)
  refine callWith_fn hse (he A _ s _ E ao eo fm.rd fun v s₀ x₀ r₀ _ => ?_)
  obtain ⟨t, rfl⟩ := r₀.str_inv
  refine call_G (n := 10) (AOk.mono ao (by omega)) hm (fm.ext x₀).gl fun pm code doc h' tk' m o hn hmx hk hsz hpush hgen => ?_
  refine wpAny_pyIter_gen hgen ?_
  obtain ⟨hb₀, gl₀, kp₀, fZ₀⟩ := fm.base
  generalize ha' : h'.objs.size = a' at hgen ⊢
  have x₁ : Ext s₀ { s₀ with heap := h'.push o, toks := tk', gens := s₀.gens.push (.fresh (genCode pm code doc s₀.heap.objs.size ad)) } := by
    refine ⟨fun b o' e => hpush b o' (hk b o' e), rfl, #[.fresh (genCode pm code doc s₀.heap.objs.size ad)], fun y hy => ?_, by simp⟩
    simp only [List.mem_toArray, List.mem_singleton] at hy; subst hy; rfl
  generalize hs₁ : ({ s₀ with heap := h'.push o, toks := tk', gens := s₀.gens.push (.fresh (genCode pm code doc s₀.heap.objs.size ad)) } : Shared) = s₁ at x₁ ⊢
  have hh₁ : s₁.heap = h'.push o := by rw [← hs₁]
  have hL : s.heap.get? s₀.heap.objs.size = none := none_of_ext x₀ (get?_size _)
  have haN : s.heap.get? a' = none := by
    refine none_of_ext x₀ (get?_none ?_)
    rw [← ha']; exact Nat.le_of_lt hsz
  have hLa : s₀.heap.objs.size ≠ a' := by rw [← ha']; exact Nat.ne_of_lt hsz
  have hn1 : (h'.push o).Ns s₀.heap.objs.size m := hn.at' fun o' e => hpush _ o' e
  have hlvL : ∃ o', s₁.heap.get? s₀.heap.objs.size = some o' := by
    rw [hh₁]
    obtain ⟨o', _, _, e, _⟩ := hn1; exact ⟨o', e⟩
  have x01 := x₀.trans x₁
  have fm₁ : Fm PW w mg mb F (s₀.heap.objs.size :: Z) env (st 0) s₁ := (fm.avoid x01 hL hlvL).weak h0
  have Fl : ∀ {q}, q ∈ F → ∃ o', s.heap.get? q = some o' := fun h => fm.liveF _ h
  have J0 : LoopG w mg mb A (escO x) hb₀ F Z env a' s s₀.gens (st 0) 0 s₁ F [s₀.heap.objs.size] (.fresh (genCode pm code doc s₀.heap.objs.size ad)) := by
    refine ⟨fun q h => .inl h, fun b o' _ e => x01.kp b o' e, by rw [x01.os], ?_, fm₁, fun b o' e => x01.kp b o' (kp₀ b o' e), fZ₀, fun q hq => ?_, ⟨by rw [hh₁]; exact hgen, fun h => ?_, fun h => hLa (List.mem_singleton.mp h).symm, .inr haN⟩, fun s'' hk'' hkeep => ?_⟩
    · refine ⟨#[.fresh (genCode pm code doc s₀.heap.objs.size ad)], fun y hy => ?_, by rw [← hs₁]; simp, rfl⟩
      simp only [List.mem_toArray, List.mem_singleton] at hy; subst hy; rfl
    · rw [List.mem_singleton.mp hq]
      exact ⟨fun h => (by obtain ⟨o', e⟩ := Fl h; rw [hL] at e; cases e), none_of_kp kp₀ hL, .inr hL⟩
    · obtain ⟨o', e⟩ := Fl h; rw [haN] at e; cases e
    · have hnq : s''.heap.Ns s₀.heap.objs.size m := (show s₁.heap.Ns _ _ by rw [hh₁]; exact hn1).at' fun o' e => hkeep _ (List.mem_singleton.mpr rfl) o' e
      refine ⟨[s₀.heap.objs.size, s''.heap.objs.size + 1, s''.heap.objs.size], fun q hq => ?_, fun q hq => by rw [List.mem_singleton.mp hq]; exact List.mem_cons_self .., ?_⟩
      · rcases List.mem_cons.mp hq with rfl | hq
        · exact .inl (List.mem_singleton.mpr rfl)
        · rcases List.mem_cons.mp hq with rfl | hq
          · exact .inr (get?_none (Nat.le_succ _))
          · rw [List.mem_singleton.mp hq]; exact .inr (get?_size _)
      · exact goes_fresh pm code doc s₀.heap.objs.size ad gv (AOk.in1' (AOk.mono ao (by omega))) hxl gl₀ hk'' hnq hmx (none_of_kp kp₀ hL)
  clear fm₁ hh₁ hlvL hn1
  refine codeAny_forLoop_any (fun k s' => ∃ i F' keep gs, LoopG w mg mb A (escO x) hb₀ F Z env a' s s₀.gens (st i) i s' F' keep gs ∧ i ≤ M ∧ k = (escO x).length + 1 - i) ?_ ((escO x).length + 1) ⟨0, F, _, _, J0, Nat.zero_le _, rfl⟩
  rintro k s' ⟨i, F', keep, gs, J, hi, rfl⟩
  obtain ⟨own, ho1, ho2, hgo⟩ := J.go (s'.setGen s₀.gens.size .running) J.k0 fun _ _ _ e => e
  have gOut : ∀ {s₂ : Shared} {gs' : GenState}, GensAt s₀.gens s₂ gs' → ∃ m, AllBare m ∧ s₂.gens = s.gens ++ m := fun {s₂ gs'} ⟨more, hm1, e, _⟩ => by
    obtain ⟨m0, hm0, e0⟩ := x₀.gens
    refine ⟨m0 ++ more, fun y hy => ?_, by rw [e, e0, Array.append_assoc]⟩
    rcases Array.mem_append.mp hy with h | h
    · exact hm0 y h
    · exact hm1 y h
  refine next_G (AOk.mono ao (by omega)) J.fm.gl.lim J.ga.1 J.gn.get (Nat.sub_le _ _) hgo (fun k v s₁' gs' hk hbare hpair c hk0 hlv hgo' => ?_) (fun hm0 s₁' h₂ c hlv hkeep => ?_)
  · -- an item
    have hki : i < (escO x).length := by omega
    have hkk : k = (escO x).length - (i + 1) := by omega
    obtain ⟨p, hp, hpair⟩ := hpair
    have hpi : (escO x)[i]? = some p := by
      have : (escO x).length - ((escO x).length - i) = i := by omega
      rw [this] at hp; exact hp
    obtain ⟨f₂, kx₂, k0₂, own₂, ha₂, hg₂⟩ := J.moved (s₂ := s₁'.setGen s₀.gens.size gs') gl₀ ho1 ho2 c.kp hlv
    have gn₂ : GensAt s₀.gens (s₁'.setGen s₀.gens.size gs') gs' := ((J.gn.set (x := .running) rfl).chg c.gens).set hbare
    obtain ⟨Tp, tt, uu, kk, rfl, hT⟩ := hpair
    refine letGo_gen hg₂ ?_
    refine wpAny_assign_Tuple ao.handled (items := #[.int (p.1 : Nat) tt, .str (S p.2) uu]) ⟨_, hT, rfl, _, rfl⟩ rfl rfl fun h₃ hx₃ => ?_
    have x₃ : Ext (s₁'.setGen s₀.gens.size gs') { s₁'.setGen s₀.gens.size gs' with heap := h₃ } := Ext.butNew hx₃
    have f₃ := f₂.ext x₃
    refine wpAny_bind (wpAny_holding (wpAny_assign_Name (f₃.store eo hy (sl := ⟨.int (p.1 : Nat), none⟩) (.sc (.int _ _)) (SlotOk.shared (Av.sc (.int _ tt))) (.inl rfl) fun s₄ st₄ f₄ => ?_)))
    refine wpAny_bind (wpAny_holding (wpAny_assign_Name (f₄.store eo hz (sl := ⟨T p.2, none⟩) (.sc (.str _ _)) (SlotOk.shared (Av.sc (.str _ uu))) (.inl rfl) fun s₅ st₅ f₅ => wpAny_pure ?_)))
    have stp : Step F' F' (s₁'.setGen s₀.gens.size gs') s₅ := (x₃.step.trans st₄).trans st₅
    have body2 : ∀ (E' : Value → Shared → Prop) (Q' : Flow → Shared → Prop) (ρ₁ : PEnv) (r₁ : Option AV), Sx PW w mg mb (n + 60) env ((z, ⟨T p.2, none⟩) :: (y, ⟨.int (p.1 : Nat), none⟩) :: st i) body ρ₁ r₁ →
        (∀ f s₆ F'', LoopG w mg mb A (escO x) hb₀ F Z env a' s s₀.gens ρ₁ (i + 1) s₆ F'' own gs' → FlowIs PW w F'' (own ++ Z) s₆ f r₁ → Q' f s₆) → wpAny (model PW w) A (execs body env) Q' E' s₅ := by
      intro E' Q' ρ₁ r₁ hB kq
      refine hB A F' (own ++ Z) s₅ Q' E' ao eo f₅ fun f s₆ F'' st₆ f₆ fl => kq f s₆ F'' ?_ fl
      have stq := stp.trans st₆
      have newN : ∀ q ∈ F'', q ∈ F' ∨ (s₁'.setGen s₀.gens.size gs').heap.get? q = none := stq.new
      have keepO : ∀ q, q ∉ F' → ∀ o', (s₁'.setGen s₀.gens.size gs').heap.get? q = some o' → s₆.heap.get? q = some o' := fun q hq o' e => stq.chg.kp q o' hq e
      have noneS : ∀ q, (s₁'.setGen s₀.gens.size gs').heap.get? q = none → q ∈ F ∨ s.heap.get? q = none := fun q e => by
        by_cases hF : q ∈ F
        · exact .inl hF
        · refine .inr ?_
          cases e0 : s.heap.get? q with
          | none => rfl
          | some o' => rw [kx₂ q o' hF e0] at e; cases e
      refine ⟨fun q hq => ?_, fun b o' hbF e => ?_, ?_, gn₂.chg stq.chg.gens, f₆, fun b o' e => ?_, fun b hbF => ?_, fun q hq => ⟨fun hF => ?_, (own₂ q hq).2⟩, ⟨?_, fun hF => ?_, ha₂, J.ga.2.2.2⟩, fun s'' h1 h2 => ⟨own, fun q hq => .inl hq, fun q hq => hq, ?_⟩⟩
      · rcases newN q hq with h | h
        · exact J.nw q h
        · exact noneS q h
      · refine stq.chg.kp b o' (fun hF' => ?_) (kx₂ b o' hbF e)
        rcases J.nw b hF' with h | h
        · exact hbF h
        · rw [h] at e; cases e
      · rw [stq.chg.os]; exact c.os.trans J.os
      · exact keepO b (fun hF' => by rw [J.f0 b hF'] at e; cases e) o' (k0₂ b o' e)
      · rcases newN b hbF with h | h
        · exact J.f0 b h
        · exact none_of_kp k0₂ h
      · rcases newN q hF with h | h
        · exact (own₂ q hq).1 h
        · obtain ⟨o', e⟩ := hlv q hq
          have e' : (s₁'.setGen s₀.gens.size gs').heap.get? q = some o' := e
          rw [h] at e'; cases e'
      · obtain ⟨og, nm, qn, hog, hgr⟩ := hg₂
        exact ⟨og, nm, qn, keepO a' J.ga.2.1 og hog, hgr⟩
      · obtain ⟨og, nm, qn, hog, hgr⟩ := hg₂
        rcases newN a' hF with h | h
        · exact J.ga.2.1 h
        · rw [h] at hog; cases hog
      · have := hgo' s'' h1 fun b hb o' e => h2 b hb o' (keepO b (fun hF' => (own₂ b hb).1 hF') o' e)
        rw [hkk] at this
        exact this
    have outN : ∀ {ρ₁ : PEnv} {s₆ : Shared} {F'' : List Addr}, LoopG w mg mb A (escO x) hb₀ F Z env a' s s₀.gens ρ₁ (i + 1) s₆ F'' own gs' → Step F F'' s s₆ := fun J' => ⟨J'.nw, ⟨J'.kx, J'.os, gOut J'.gn⟩⟩
    by_cases hlt : i < M
    · refine body2 _ _ _ none (hb i p hlt hpi) fun f s₆ F'' J' fl => ?_
      cases fl
      exact ⟨(escO x).length + 1 - (i + 1), by omega, i + 1, F'', own, gs', J', hlt, rfl⟩
    · have hiM : i = M := by omega
      subst hiM
      rcases hend with ⟨hMl, _, _⟩ | ⟨p', W, hp', hB, rfl⟩
      · omega
      · rw [hpi] at hp'; cases hp'
        refine body2 _ _ _ (some W) hB fun f s₆ F'' J' fl => ?_
        have fl' := fl
        obtain ⟨u, rfl, hr, hav⟩ := fl
        exact q _ s₆ F'' (outN J') (J'.fm.subZ fun q hq => List.mem_append_right _ hq) (fl'.dropZ fun q hq => List.mem_append_right _ hq)
  · -- the end
    have hiM : i = (escO x).length := by omega
    rcases hend with ⟨hMl, rfl, rfl⟩ | ⟨p', W, hp', _⟩
    · have : i = M := by omega
      subst this
      obtain ⟨f₂, kx₂, k0₂, own₂, ha₂, hg₂⟩ := J.moved (s₂ := s₁'.setGen s₀.gens.size .finished) gl₀ ho1 ho2 c.kp hlv
      have gn₂ : GensAt s₀.gens (s₁'.setGen s₀.gens.size .finished) .finished := ((J.gn.set (x := .running) rfl).chg c.gens).set rfl
      have x₃ : Ext (s₁'.setGen s₀.gens.size .finished) { s₁'.setGen s₀.gens.size .finished with heap := h₂ } := ⟨fun b o' e => hkeep b o' e, rfl, #[], .empty, by simp⟩
      refine wpAny_execs_nil (q .next _ F' ⟨J.nw, ⟨fun b o' hF e => x₃.kp b o' (kx₂ b o' hF e), ?_, gOut (gn₂.chg (x₃.chg (N := [])).gens)⟩⟩ ((f₂.ext x₃).subZ (Z' := Z) fun q hq => List.mem_append_right _ hq) rfl)
      show s₁'.os = s.os
      exact c.os.trans J.os
    · have := (List.getElem?_eq_some_iff.mp hp').1
      omega
end Mine
end
section
set_option maxRecDepth 100000
set_option maxHeartbeats 4000000
namespace Mine
variable {w : World} {mg mb : Str → Option Value} {n : Nat} {env : Env} {ρ : PEnv}
theorem S_q : (Str.ofString "\"" : Str) = S [34] := by decide +kernel
theorem S_e : (Str.ofString "" : Str) = S [] := by decide +kernel
theorem escG_length : ∀ (x : Tx) (i : Nat) (b : Bool), (escG x i b).length ≤ x.length + 1
  | [], i, true => by simp [escG]
  | [], i, false => by simp [escG]
  | c :: r, i, true => by have := escG_length r (i + 1) false; simp [escG]; omega
  | c :: r, i, false => by
    have h1 := escG_length r (i + 1) true
    have h2 := escG_length r (i + 1) false
    simp only [escG]
    split
    · rw [List.length_cons]; omega
    · rw [List.length_cons, List.length_cons]; omega
noncomputable abbrev QSt := Nat × Option Nat × List Tx
noncomputable def qStep (x : Tx) (st : QSt) (p : Nat × Tx) : QSt :=
  if p.2 == [34] then
    match st.2.1 with
    | none => (st.1, some p.1, st.2.2)
    | some o => (p.1 + 1, none, if st.1 == o then st.2.2 else st.2.2 ++ [slc x (some (st.1 : Nat)) (some (o : Nat))])
  else st
noncomputable def qAt (x : Tx) (i : Nat) : QSt := ((escO x).take i).foldl (qStep x) (0, none, [])
noncomputable def stripT (x : Tx) : Tx :=
  if (findT x [34] 0 x.length).isSome then
    let st := qAt x (escO x).length
    joinT [] (if st.1 < x.length then st.2.2 ++ [slc x (some (st.1 : Nat)) none] else st.2.2)
  else x
theorem qAt_succ (x : Tx) {i : Nat} {p : Nat × Tx} (h : (escO x)[i]? = some p) : qAt x (i + 1) = qStep x (qAt x i) p := by
  unfold qAt
  rw [List.take_add_one, h, List.foldl_append]; rfl
noncomputable def opA : Option Nat → AV | none => .none | some k => .int (k : Nat)
noncomputable abbrev ρq (x : Tx) (st : QSt) : PEnv := [("addr", ⟨T x, none⟩), ("start", ⟨.int (st.1 : Nat), none⟩), ("open_pos", ⟨opA st.2.1, none⟩), ("result", ⟨.list (st.2.2.map T), some none⟩)]
theorem qStep_len (x : Tx) (st : QSt) (p : Nat × Tx) : (qStep x st p).2.2.length ≤ st.2.2.length + 1 := by
  unfold qStep
  split
  · split
    · simp
    · split
      · simp
      · simp
  · simp
theorem slc_le' (x : Tx) (a b : Option Int) : (slc x a b).length ≤ x.length := slc_len_le x a b
theorem qStep_mem (x : Tx) (st : QSt) (p : Nat × Tx) (h : ∀ y ∈ st.2.2, y.length ≤ x.length) : ∀ y ∈ (qStep x st p).2.2, y.length ≤ x.length := by
  unfold qStep
  split
  · split
    · exact h
    · split
      · exact h
      · intro y hy
        rcases List.mem_append.mp hy with hy | hy
        · exact h y hy
        · rw [List.mem_singleton.mp hy]; exact slc_le' _ _ _
  · exact h
theorem qFold (x : Tx) : ∀ (l : List (Nat × Tx)) (st : QSt), (∀ y ∈ st.2.2, y.length ≤ x.length) → (l.foldl (qStep x) st).2.2.length ≤ st.2.2.length + l.length ∧ ∀ y ∈ (l.foldl (qStep x) st).2.2, y.length ≤ x.length
  | [], st, h => ⟨Nat.le_refl _, h⟩
  | p :: l, st, h => by
    obtain ⟨h1, h2⟩ := qFold x l (qStep x st p) (qStep_mem x st p h)
    refine ⟨?_, h2⟩
    have := qStep_len x st p
    rw [List.foldl_cons, List.length_cons]; omega
theorem qAt_len (x : Tx) (i : Nat) (hi : i ≤ (escO x).length) : (qAt x i).2.2.length ≤ i ∧ ∀ y ∈ (qAt x i).2.2, y.length ≤ x.length := by
  obtain ⟨h1, h2⟩ := qFold x ((escO x).take i) (0, none, []) (fun _ h => nomatch h)
  refine ⟨?_, h2⟩
  rw [List.length_take, Nat.min_eq_left hi] at h1
  simp only [List.length_nil, Nat.zero_add] at h1
  exact h1
theorem sum_le {l : List Tx} {b : Nat} (h : ∀ y ∈ l, y.length ≤ b) : (l.map List.length).sum ≤ l.length * b := by
  induction l with
  | nil => simp
  | cons a l ih =>
    have h1 := h a (List.mem_cons_self ..)
    have h2 := ih fun y hy => h y (List.mem_cons_of_mem _ hy)
    rw [List.map_cons, List.sum_cons, List.length_cons, Nat.add_mul]; omega
theorem ok4 : DefOk (dAt 4) ["addr"] := ⟨by decide, fun pm code doc vs h => by match vs, h with | [a], _ => rfl, fun k => rfl, rfl, rfl⟩
section
variable (x : Tx) (pm code doc : Value) (L ad : Addr)
theorem body4 (hx : x.length ≤ 900) (st : QSt) (p : Nat × Tx) (hl : st.2.2.length ≤ 1000) :
    Sx PW w mg mb n (E0 4 pm code doc L ad) (("ch", ⟨T p.2, none⟩) :: ("pos", ⟨.int (p.1 : Nat), none⟩) :: ρq x st) (forBody (nth (dAt 4).body 4)) (ρq x (qStep x st p)) none := by
  obtain ⟨sta, op, res⟩ := st
  cases hq : p.2 == [34] with
  | false =>
    have e : qStep x (sta, op, res) p = (sta, op, res) := by unfold qStep; rw [hq, if_neg Bool.false_ne_true]
    rw [e]
    refine Sx.post (Sx.cons (St.ifS (c := false) (Tr.of (Tr.cmp (EvO.var rfl) (Ev.cT S_q).toO OpC.eqT) hq) (fun h => by cases h) (fun _ => Sx.nil)) Sx.nil) ?_
    repeat (first | exact Sub.nil | refine Sub.cons rfl ?_)
  | true =>
    cases op with
    | none =>
      have e : qStep x (sta, none, res) p = (sta, some p.1, res) := by unfold qStep; rw [hq, if_pos rfl]
      rw [e]
      refine Sx.post (Sx.cons (St.ifS (c := true) (Tr.of (Tr.cmp (EvO.var rfl) (Ev.cT S_q).toO OpC.eqT) hq) (fun _ => Sx.cons (St.ifS (c := true) (Tr.cmp (EvO.var rfl) Ev.cnone.toO OpC.isNoneN) (fun _ => Sx.cons (St.assign (Ev.var rfl) (.inl rfl)) Sx.nil) (fun h => by cases h)) Sx.nil) (fun h => by cases h)) Sx.nil) ?_
      repeat (first | exact Sub.nil | refine Sub.cons rfl ?_)
    | some o =>
      cases ho : sta == o with
      | true =>
        have ho' : sta = o := beq_iff_eq.mp ho
        have e : qStep x (sta, some o, res) p = (p.1 + 1, none, res) := by unfold qStep; rw [hq, if_pos rfl]; simp only [ho, if_true]
        rw [e]
        refine Sx.post (Sx.cons (St.ifS (c := true) (Tr.of (Tr.cmp (EvO.var rfl) (Ev.cT S_q).toO OpC.eqT) hq) (fun _ => Sx.cons (St.ifS (c := false) (Tr.cmp (EvO.var rfl) Ev.cnone.toO OpC.isNoneI) (fun h => by cases h) (fun _ =>
          Sx.cons (St.ifS (c := false) (Tr.of (Tr.cmp (EvO.var rfl) (EvO.var rfl) OpC.neI) (by rw [ho']; exact bne_self_eq_false' ..)) (fun h => by cases h) (fun _ => Sx.nil)) (Sx.cons (St.assign (Ev.bin (EvO.var rfl) Ev.cint.toO OpB.addI) (.inl rfl)) (Sx.cons (St.assign Ev.cnone (.inl rfl)) Sx.nil)))) Sx.nil) (fun h => by cases h)) Sx.nil) ?_
        repeat (first | exact Sub.nil | refine Sub.cons rfl ?_)
      | false =>
        have ho' : ¬ sta = o := fun e => by rw [e] at ho; simp at ho
        have e : qStep x (sta, some o, res) p = (p.1 + 1, none, res ++ [slc x (some (sta : Nat)) (some (o : Nat))]) := by unfold qStep; rw [hq, if_pos rfl]; simp only [ho]; rfl
        rw [e]
        refine Sx.post (Sx.cons (St.ifS (c := true) (Tr.of (Tr.cmp (EvO.var rfl) (Ev.cT S_q).toO OpC.eqT) hq) (fun _ => Sx.cons (St.ifS (c := false) (Tr.cmp (EvO.var rfl) Ev.cnone.toO OpC.isNoneI) (fun h => by cases h) (fun _ =>
          Sx.cons (St.ifS (c := true) (Tr.of (Tr.cmp (EvO.var rfl) (EvO.var rfl) OpC.neI) (by simp; omega)) (fun _ => Sx.cons (St.append rfl (Ev.sliceS (EvO.var rfl) (EvP.some (EvO.var rfl)) (EvP.some (EvO.var rfl)) (by omega)) (allScT _) ⟨_, .str _ 0⟩ (by rw [List.length_map]; omega)) Sx.nil) (fun h => by cases h)) (Sx.cons (St.assign (Ev.bin (EvO.var rfl) Ev.cint.toO OpB.addI) (.inl rfl)) (Sx.cons (St.assign Ev.cnone (.inl rfl)) Sx.nil)))) Sx.nil) (fun h => by cases h)) Sx.nil) ?_
        refine Sub.cons rfl (Sub.cons rfl (Sub.cons rfl (Sub.cons ?_ Sub.nil)))
        show some _ = some _
        rw [List.map_append]; rfl
theorem spec4 (gv : GV mg mb) (hx : x.length ≤ 900) : Spec PW w mg mb (n + 61) "_strip_quoted_realnames" [T x] (T (stripT x)) := by
  refine Spec.intro (dAt_mem (k := 4) (by decide)) rfl ok4 rfl rfl fun pm code doc L ad => ?_
  show ∃ ρ', Sx PW w mg mb (n + 60) (E0 4 pm code doc L ad) [("addr", ⟨T x, none⟩)] (dAt 4).body ρ' _
  unfold stripT
  cases hf : (findT x [34] 0 x.length).isSome with
  | false =>
    rw [if_neg Bool.false_ne_true]
    exact ⟨_, Sx.stop (St.ifS (c := true) (Tr.of (Tr.cmp (Ev.cT S_q).toO (EvO.var rfl) OpC.notInT) (by rw [hf]; rfl)) (fun _ => Sx.stop (St.ret (Ev.var rfl))) (fun h => by cases h))⟩
  | true =>
    rw [if_pos rfl]
    dsimp only
    have hO : (escO x).length ≤ x.length + 1 := escG_length x 0 false
    obtain ⟨hl1, hl2⟩ := qAt_len x (escO x).length (Nat.le_refl _)
    have hLoop : St PW w mg mb (n + 60) (E0 4 pm code doc L ad) (ρq x (0, none, [])) (nth (dAt 4).body 4) (ρq x (qAt x (escO x).length)) none := by
      refine St.forGen gv (by omega) (Ev.var rfl) rfl rfl (fun i => ρq x (qAt x i)) (escO x).length (Nat.le_refl _) ?_ (.inl rfl) (.inl rfl) (fun i p hi hp => ?_) (.inl ⟨rfl, rfl, rfl⟩)
      · repeat (first | exact Sub.nil | refine Sub.cons rfl ?_)
      · have := (qAt_len x i (Nat.le_of_lt hi)).1
        rw [qAt_succ x hp]
        exact body4 x pm code doc L ad hx _ p (by omega)
    generalize qAt x (escO x).length = st at hLoop hl1 hl2
    obtain ⟨sta, op, res⟩ := st
    dsimp only at hl1 hl2 ⊢
    have hsum : ∀ xs : List Tx, xs.length ≤ 1000 → (∀ y ∈ xs, y.length ≤ 900) → (xs.map List.length).sum + xs.length * ([] : Tx).length ≤ 1000000 := fun xs h1 h2 => by
      have := sum_le h2
      have h3 : xs.length * 900 ≤ 1000 * 900 := Nat.mul_le_mul_right _ h1
      simp only [List.length_nil, Nat.mul_zero]
      omega
    have hr : ∀ y ∈ res, y.length ≤ 900 := fun y hy => Nat.le_trans (hl2 y hy) hx
    have front : ∀ {ρ' r}, Sx PW w mg mb (n + 60) (E0 4 pm code doc L ad) (ρq x (sta, op, res)) ((dAt 4).body.drop 5) ρ' r → Sx PW w mg mb (n + 60) (E0 4 pm code doc L ad) [("addr", ⟨T x, none⟩)] (dAt 4).body ρ' r := fun h =>
      Sx.cons (St.ifS (c := false) (Tr.of (Tr.cmp (Ev.cT S_q).toO (EvO.var rfl) OpC.notInT) (by rw [hf]; rfl)) (fun h => by cases h) (fun _ => Sx.nil))
        (Sx.cons (St.assign Ev.cint (.inl rfl)) (Sx.cons (St.assign Ev.cnone (.inl rfl)) (Sx.cons (St.assignN (EvN.list Evs.nil (fun _ h => nomatch h)) (.inl rfl)) (Sx.pre (by repeat (first | exact Sub.nil | refine Sub.cons rfl ?_)) (Sx.cons hLoop h)))))
    by_cases hlt : sta < x.length
    · rw [if_pos hlt]
      refine ⟨[], front (Sx.post (Sx.cons (St.ifS (c := true) (Tr.of (Tr.cmp (EvO.var rfl) (Ev.len gv (EvO.var rfl) (CallB.lenT (by omega)) rfl).toO OpC.ltI) (decide_eq_true (by omega))) (fun _ => Sx.cons (St.append rfl (Ev.sliceS (EvO.var rfl) (EvP.some (EvO.var rfl)) EvP.none (by omega)) (allScT _) ⟨_, .str _ 0⟩ (by show (res.map T).length ≤ _; rw [List.length_map]; omega)) Sx.nil) (fun h => by cases h))
        (Sx.stop (St.ret (Ev.methS (Ev.cT S_e).toO (EvsO.cons (EvO.var (V := .list ((res ++ [slc x (some (sta : Nat)) none]).map T)) (o := some none) ?_) EvsO.nil) F.slot_str_join rfl (CallB.joinT (hsum _ ?_ ?_)))))) Sub.nil)⟩
      · show some _ = some _
        rw [List.map_append]; rfl
      · rw [List.length_append, List.length_singleton]; omega
      · intro y hy
        rcases List.mem_append.mp hy with hy | hy
        · exact hr y hy
        · rw [List.mem_singleton.mp hy]; exact Nat.le_trans (slc_le' _ _ _) hx
    · rw [if_neg hlt]
      exact ⟨[], front (Sx.post (Sx.cons (St.ifS (c := false) (Tr.of (Tr.cmp (EvO.var rfl) (Ev.len gv (EvO.var rfl) (CallB.lenT (by omega)) rfl).toO OpC.ltI) (decide_eq_false (by omega))) (fun h => by cases h) (fun _ => Sx.nil))
        (Sx.stop (St.ret (Ev.methS (Ev.cT S_e).toO (EvsO.cons (EvO.var rfl) EvsO.nil) F.slot_str_join rfl (CallB.joinT (hsum res (by omega) hr)))))) Sub.nil)⟩
end
end Mine
end
section
set_option maxRecDepth 100000
set_option maxHeartbeats 4000000
namespace Mine
variable {w : World} {mg mb : Str → Option Value} {n : Nat} {env : Env} {ρ : PEnv}
theorem S_op : (Str.ofString "(" : Str) = S [40] := by decide +kernel
theorem S_cl : (Str.ofString ")" : Str) = S [41] := by decide +kernel
noncomputable def parT : List (Nat × Tx) → Int → Bool
  | [], k => k == 0
  | p :: r, k => if p.2 == [40] then parT r (k + 1) else if p.2 == [41] then (if k - 1 < 0 then false else parT r (k - 1)) else parT r k
noncomputable def chkT (x : Tx) : Bool := parT (escO (stripT x)) 0
noncomputable def opn : List (Nat × Tx) → Int → Int
  | [], k => k
  | p :: r, k => opn r (if p.2 == [40] then k + 1 else if p.2 == [41] then k - 1 else k)
theorem opn_take (l : List (Nat × Tx)) (k : Int) {i : Nat} {p : Nat × Tx} (h : l[i]? = some p) : opn (l.take (i + 1)) k = (if p.2 == [40] then opn (l.take i) k + 1 else if p.2 == [41] then opn (l.take i) k - 1 else opn (l.take i) k) := by
  induction l generalizing k i with
  | nil => cases h
  | cons q l ih =>
    cases i with
    | zero =>
      simp at h; subst h
      simp only [List.take_succ_cons, List.take_zero, opn]
    | succ i =>
      rw [List.take_succ_cons, List.take_succ_cons]
      exact ih _ (by simpa using h)
theorem parT_true (l : List (Nat × Tx)) (k : Int) : (parT l k = true → opn l k = 0) ∧ (parT l k = true → ∀ i p, l[i]? = some p → p.2 == [41] → ¬ opn (l.take i) k - 1 < 0) := by
  induction l generalizing k with
  | nil => exact ⟨fun h => by simpa [parT, opn] using h, fun _ _ _ h => by cases h⟩
  | cons q l ih =>
    have hq : (q.2 == [40]) = true → (q.2 == ([41] : Tx)) = false := fun h => by rw [beq_iff_eq.mp h]; decide
    have step : parT (q :: l) k = true → parT l (if q.2 == [40] then k + 1 else if q.2 == [41] then k - 1 else k) = true ∧ (q.2 == [41] → ¬ k - 1 < 0) := by
      intro h
      unfold parT at h
      by_cases h1 : (q.2 == [40]) = true
      · rw [if_pos h1] at h ⊢
        exact ⟨h, fun h2 => by rw [hq h1] at h2; cases h2⟩
      · rw [if_neg h1] at h ⊢
        by_cases h2 : (q.2 == [41]) = true
        · rw [if_pos h2] at h ⊢
          by_cases h3 : k - 1 < 0
          · rw [if_pos h3] at h; cases h
          · rw [if_neg h3] at h; exact ⟨h, fun _ => h3⟩
        · rw [if_neg h2] at h ⊢
          exact ⟨h, fun h' => absurd h' h2⟩
    refine ⟨fun h => (ih _).1 (step h).1, fun h i p hi hp => ?_⟩
    cases i with
    | zero =>
      simp at hi; subst hi
      exact (step h).2 hp
    | succ i => exact (ih _).2 (step h).1 i p (by simpa using hi) hp
theorem parT_false (l : List (Nat × Tx)) (k : Int) : parT l k = false → (opn l k ≠ 0 ∧ ∀ i p, l[i]? = some p → p.2 == [41] → ¬ opn (l.take i) k - 1 < 0) ∨
    ∃ N p, l[N]? = some p ∧ (p.2 == [41]) = true ∧ opn (l.take N) k - 1 < 0 ∧ ∀ i q, i < N → l[i]? = some q → q.2 == [41] → ¬ opn (l.take i) k - 1 < 0 := by
  induction l generalizing k with
  | nil => exact fun h => .inl ⟨by simpa [parT, opn] using h, fun _ _ h => by cases h⟩
  | cons q l ih =>
    intro h
    have hq : (q.2 == [40]) = true → (q.2 == ([41] : Tx)) = false := fun h => by rw [beq_iff_eq.mp h]; decide
    have main : parT l (if q.2 == [40] then k + 1 else if q.2 == [41] then k - 1 else k) = false → (q.2 == [41] → ¬ k - 1 < 0) → (opn (q :: l) k ≠ 0 ∧ ∀ i p, (q :: l)[i]? = some p → p.2 == [41] → ¬ opn ((q :: l).take i) k - 1 < 0) ∨
        ∃ N p, (q :: l)[N]? = some p ∧ (p.2 == [41]) = true ∧ opn ((q :: l).take N) k - 1 < 0 ∧ ∀ i p', i < N → (q :: l)[i]? = some p' → p'.2 == [41] → ¬ opn ((q :: l).take i) k - 1 < 0 := by
      intro h1 h2
      rcases ih _ h1 with ⟨a, b⟩ | ⟨N, p, a, b, c, d⟩
      · refine .inl ⟨a, fun i p hi hp => ?_⟩
        cases i with
        | zero => simp at hi; subst hi; exact h2 hp
        | succ i => exact b i p (by simpa using hi) hp
      · refine .inr ⟨N + 1, p, by simpa using a, b, c, fun i p' hi hp hpp => ?_⟩
        cases i with
        | zero => simp at hp; subst hp; exact h2 hpp
        | succ i => exact d i p' (by omega) (by simpa using hp) hpp
    unfold parT at h
    by_cases h1 : (q.2 == [40]) = true
    · rw [if_pos h1] at h
      exact main (by rw [if_pos h1]; exact h) (fun h2 => by rw [hq h1] at h2; cases h2)
    · rw [if_neg h1] at h
      by_cases h2 : (q.2 == [41]) = true
      · rw [if_pos h2] at h
        by_cases h3 : k - 1 < 0
        · exact .inr ⟨0, q, rfl, h2, h3, fun i _ hi => absurd hi (Nat.not_lt_zero i)⟩
        · rw [if_neg h3] at h
          exact main (by rw [if_neg h1, if_pos h2]; exact h) (fun _ => h3)
      · rw [if_neg h2] at h
        exact main (by rw [if_neg h1, if_neg h2]; exact h) (fun h' => absurd h' h2)
theorem ok5 : DefOk (dAt 5) ["addr"] := ⟨by decide, fun pm code doc vs h => by match vs, h with | [a], _ => rfl, fun k => rfl, rfl, rfl⟩
section
variable (x : Tx) (pm code doc : Value) (L ad : Addr)
noncomputable abbrev ρp (x : Tx) (k : Int) : PEnv := [("addr", ⟨T x, none⟩), ("opens", ⟨.int k, none⟩)]
theorem body5 (k : Int) (p : Nat × Tx) (hp : p.2 == [41] → ¬ k - 1 < 0) :
    Sx PW w mg mb n (E0 5 pm code doc L ad) (("ch", ⟨T p.2, none⟩) :: ("pos", ⟨.int (p.1 : Nat), none⟩) :: ρp x k) (forBody (nth (dAt 5).body 2)) (ρp x (if p.2 == [40] then k + 1 else if p.2 == [41] then k - 1 else k)) none := by
  cases hq : p.2 == [40] with
  | true =>
    rw [if_pos rfl]
    refine Sx.post (Sx.cons (St.ifS (c := true) (Tr.of (Tr.cmp (EvO.var rfl) (Ev.cT S_op).toO OpC.eqT) hq) (fun _ => Sx.cons (St.aug rfl Ev.cint OpI.addI (.inl rfl)) Sx.nil) (fun h => by cases h)) Sx.nil) ?_
    repeat (first | exact Sub.nil | refine Sub.cons rfl ?_)
  | false =>
    rw [if_neg Bool.false_ne_true]
    cases hr : p.2 == [41] with
    | true =>
      rw [if_pos rfl]
      refine Sx.post (Sx.cons (St.ifS (c := false) (Tr.of (Tr.cmp (EvO.var rfl) (Ev.cT S_op).toO OpC.eqT) hq) (fun h => by cases h) (fun _ => Sx.cons (St.ifS (c := true) (Tr.of (Tr.cmp (EvO.var rfl) (Ev.cT S_cl).toO OpC.eqT) hr)
        (fun _ => Sx.cons (St.aug rfl Ev.cint OpI.subI (.inl rfl)) (Sx.cons (St.ifS (c := false) (Tr.of (Tr.cmp (EvO.var rfl) Ev.cint.toO OpC.ltI) (decide_eq_false (hp hr))) (fun h => by cases h) (fun _ => Sx.nil)) Sx.nil)) (fun h => by cases h)) Sx.nil)) Sx.nil) ?_
      repeat (first | exact Sub.nil | refine Sub.cons rfl ?_)
    | false =>
      rw [if_neg Bool.false_ne_true]
      refine Sx.post (Sx.cons (St.ifS (c := false) (Tr.of (Tr.cmp (EvO.var rfl) (Ev.cT S_op).toO OpC.eqT) hq) (fun h => by cases h) (fun _ => Sx.cons (St.ifS (c := false) (Tr.of (Tr.cmp (EvO.var rfl) (Ev.cT S_cl).toO OpC.eqT) hr) (fun h => by cases h) (fun _ => Sx.nil)) Sx.nil)) Sx.nil) ?_
      repeat (first | exact Sub.nil | refine Sub.cons rfl ?_)
theorem stripT_len (hx : x.length ≤ 900) : (stripT x).length ≤ 1000000 := by
  unfold stripT
  split
  · have key : ∀ xs : List Tx, xs.length ≤ 1000 → (∀ y ∈ xs, y.length ≤ 900) → (joinT [] xs).length ≤ 1000000 := by
      intro xs
      have : ∀ xs : List Tx, (joinT [] xs).length = (xs.map List.length).sum := by
        intro xs
        induction xs with
        | nil => rfl
        | cons a r ih =>
          cases r with
          | nil => simp [joinT]
          | cons b r =>
            show (a ++ [] ++ joinT [] (b :: r)).length = _
            rw [List.length_append, ih]; simp
      intro h1 h2
      rw [this]
      have h3 := sum_le h2
      have h4 : xs.length * 900 ≤ 1000 * 900 := Nat.mul_le_mul_right _ h1
      omega
    have hO : (escO x).length ≤ x.length + 1 := escG_length x 0 false
    obtain ⟨hl1, hl2⟩ := qAt_len x (escO x).length (Nat.le_refl _)
    dsimp only
    split
    · refine key _ (by rw [List.length_append, List.length_singleton]; omega) fun y hy => ?_
      rcases List.mem_append.mp hy with hy | hy
      · exact Nat.le_trans (hl2 y hy) hx
      · rw [List.mem_singleton.mp hy]; exact Nat.le_trans (slc_le' _ _ _) hx
    · exact key _ (by omega) fun y hy => Nat.le_trans (hl2 y hy) hx
  · omega
theorem spec5 (gv : GV mg mb) (hx : x.length ≤ 900) : Spec PW w mg mb (n + 65) "_check_parenthesis" [T x] (.bool (chkT x)) := by
  refine Spec.intro (dAt_mem (k := 5) (by decide)) rfl ok5 rfl rfl fun pm code doc L ad => ?_
  show ∃ ρ', Sx PW w mg mb (n + 64) (E0 5 pm code doc L ad) [("addr", ⟨T x, none⟩)] (dAt 5).body ρ' _
  have hz := stripT_len x hx
  unfold chkT
  have hS := spec4 (w := w) (n := n + 3) x gv hx
  generalize stripT x = z at hz hS
  have front : ∀ {ρ' r}, Sx PW w mg mb (n + 64) (E0 5 pm code doc L ad) (ρp z 0) ((dAt 5).body.drop 2) ρ' r → Sx PW w mg mb (n + 64) (E0 5 pm code doc L ad) [("addr", ⟨T x, none⟩)] (dAt 5).body ρ' r := fun h =>
    Sx.cons (St.assign (Ev.callD gv 4 (by decide) rfl (Evs.cons (Ev.var rfl) Evs.nil) hS rfl) (.inl rfl)) (Sx.cons (St.assign Ev.cint (.inl rfl)) (Sx.pre (by repeat (first | exact Sub.nil | refine Sub.cons rfl ?_)) h))
  let stt : Nat → PEnv := fun i => ρp z (opn ((escO z).take i) 0)
  have turn : ∀ i p, (escO z)[i]? = some p → (p.2 == [41] → ¬ opn ((escO z).take i) 0 - 1 < 0) → Sx PW w mg mb (n + 4 + 60) (E0 5 pm code doc L ad) (("ch", ⟨T p.2, none⟩) :: ("pos", ⟨.int (p.1 : Nat), none⟩) :: stt i) (forBody (nth (dAt 5).body 2)) (stt (i + 1)) none := fun i p hi hp => by
    have := body5 (w := w) (mg := mg) (mb := mb) (n := n + 4 + 60) z pm code doc L ad (opn ((escO z).take i) 0) p hp
    show Sx _ _ _ _ _ _ _ _ (ρp z (opn ((escO z).take (i + 1)) 0)) _
    rw [opn_take _ _ hi]; exact this
  have h0 : Sub (stt 0) (ρp z 0) := by
    show Sub (ρp z 0) (ρp z 0)
    repeat (first | exact Sub.nil | refine Sub.cons rfl ?_)
  have all : (∀ i p, (escO z)[i]? = some p → p.2 == [41] → ¬ opn ((escO z).take i) 0 - 1 < 0) → St PW w mg mb (n + 4 + 60) (E0 5 pm code doc L ad) (ρp z 0) (nth (dAt 5).body 2) (ρp z (opn (escO z) 0)) none := fun h =>
    St.forGen (n := n + 4) gv (by omega) (Ev.var rfl) rfl rfl stt (escO z).length (Nat.le_refl _) h0 (.inl rfl) (.inl rfl) (fun i p hi hp => turn i p hp (h i p hp)) (.inl ⟨rfl, by show _ = ρp z _; rw [List.take_length], rfl⟩)
  cases hp : parT (escO z) 0 with
  | true =>
    obtain ⟨h1, h2⟩ := parT_true (escO z) 0
    exact ⟨_, front (Sx.cons (all (h2 hp)) (Sx.stop (St.ret (Ev.of (Ev.cmp (EvO.var rfl) Ev.cint.toO OpC.eqI) (by rw [h1 hp]; rfl)))))⟩
  | false =>
    rcases parT_false (escO z) 0 hp with ⟨a, b⟩ | ⟨N, p, a, b, c, d⟩
    · exact ⟨_, front (Sx.cons (all b) (Sx.stop (St.ret (Ev.of (Ev.cmp (EvO.var rfl) Ev.cint.toO OpC.eqI) (by congr 1; simpa using a)))))⟩
    · have hN : N < (escO z).length := (List.getElem?_eq_some_iff.mp a).1
      have hne : (p.2 == ([40] : Tx)) = false := by rw [beq_iff_eq.mp b]; decide
      refine ⟨[], front (Sx.stop (St.forGen (n := n + 4) gv (by omega) (Ev.var rfl) rfl rfl stt N (Nat.le_of_lt hN) h0 (.inl rfl) (.inl rfl) (fun i p hi hp => turn i p hp (d i p hi hp)) (.inr ⟨p, _, a, ?_, rfl⟩)))⟩
      exact Sx.post (Sx.stop (St.ifS (c := false) (Tr.of (Tr.cmp (EvO.var rfl) (Ev.cT S_op).toO OpC.eqT) hne) (fun h => by cases h) (fun _ => Sx.stop (St.ifS (c := true) (Tr.of (Tr.cmp (EvO.var rfl) (Ev.cT S_cl).toO OpC.eqT) b)
        (fun _ => Sx.cons (St.aug rfl Ev.cint OpI.subI (.inl rfl)) (Sx.stop (St.ifS (c := true) (Tr.of (Tr.cmp (EvO.var rfl) Ev.cint.toO OpC.ltI) (decide_eq_true c)) (fun _ => Sx.stop (St.ret Ev.cbool)) (fun h => by cases h)))) (fun h => by cases h))))) Sub.nil
end
end Mine
end
section
set_option maxRecDepth 100000
set_option maxHeartbeats 4000000
namespace Mine
variable {prog : Program} {w : World} {mg mb : Str → Option Value} {n : Nat} {env : Env} {ρ ρ' : PEnv} {F F' Z X : List Addr} {s s' : Shared} {h : Heap} {v : Value}
theorem Fm.leave {N : List Addr} {h₀ : Heap} (f : Fm prog w mg mb F (N ++ Z) env ρ s) (gl : Gl prog mg mb h₀) (k0 : Kp h₀ s.heap) (hF : ∀ b ∈ F, h₀.get? b = none) (c : KpX N s.heap s'.heap) (hNF : ∀ q ∈ N, q ∉ F) (hN0 : ∀ q ∈ N, h₀.get? q = none) (hNZ : ∀ q ∈ N, q ∉ Z) : Fm prog w mg mb F Z env ρ s' := by
  have sub : ∀ b ∈ F ++ Z, b ∈ F ++ (N ++ Z) := fun b hb => by
    rcases List.mem_append.mp hb with hb | hb
    · exact List.mem_append_left _ hb
    · exact List.mem_append_right _ (List.mem_append_right _ hb)
  have nF : ∀ {q}, q ∈ F → q ∉ N := fun h m => hNF _ m h
  have vk : ∀ {y u}, VarIs s.heap env y u → VarIs s'.heap env y u := fun q => by
    cases q with
    | loc m k n e => exact .loc m k (n.at' fun o eo => c _ o (nF f.loc) eo) e
    | cell d k l i => obtain ⟨o, h1, h2⟩ := i; exact .cell d k l ⟨o, c d o (nF (f.cells _ d l).1) h1, h2⟩
  have kX : KpX (F ++ (N ++ Z)) s.heap s'.heap := fun b o hb e => c b o (fun m => hb (List.mem_append_right _ (List.mem_append_left _ m))) e
  refine ⟨⟨h₀, gl, fun b o e => c b o (fun m => by rw [hN0 b m] at e; cases e) (k0 b o e), hF⟩, fun b hb => ?_, ?_, f.loc, fun y d ed => ?_, f.apart, fun y sl ey => ?_, f.one⟩
  · obtain ⟨o, e⟩ := f.live b (sub b hb)
    exact ⟨o, c b o (fun m => (List.mem_append.mp hb).elim (hNF b m) (hNZ b m)) e⟩
  · obtain ⟨m, hm⟩ := f.ns; exact ⟨m, hm.at' fun o eo => c _ o (nF f.loc) eo⟩
  · obtain ⟨h1, h2, u, o, h3, h4⟩ := f.cells y d ed; exact ⟨h1, h2, u, o, c d o (nF h1) h3, h4⟩
  · obtain ⟨u, h1, h2, h3⟩ := f.vals y sl ey
    refine ⟨u, vk h1, ?_, ?_⟩
    · unfold SlotOk at h3
      cases ho : sl.own with
      | none => rw [ho] at h3; exact (h2.kpX kX h3).swapX fun b hb => .inl (sub b hb)
      | some d => rw [ho] at h3; obtain ⟨a, rfl, h4, _⟩ := h3; exact (h2.atX (fun o e => c a o (nF h4) e) kX).swapX fun b hb => .inl (sub b hb)
    · unfold SlotOk at h3 ⊢
      cases ho : sl.own with
      | none => rw [ho] at h3; exact fun b e hb => h3 b e (sub b hb)
      | some d =>
        rw [ho] at h3
        obtain ⟨a, rfl, h4, h5, h6⟩ := h3
        refine ⟨a, rfl, h4, ?_, h6⟩
        cases d with
        | some c' => exact h5
        | none => exact fun hz => h5 (List.mem_append_right _ hz)
/- x = [.. for ..], a name that is no cell -/
theorem Fm.compStore {A : Around} {E : Value → Shared → Prop} {Q : Value → Shared → Prop} {y : Str} {py : Pos} {D C : Addr} {V : AV} {m : Str → Option Value} (f : Fm prog w mg mb F Z env ρ s) (eo : EnvOk env) (hk : KOk env y) (x : Ext s s') (hC : s.heap.get? C = none) (hDC : D ≠ C) (hD : s.heap.get? D = none)
    (hn : s'.heap.Ns C m) (r : R prog w (F ++ C :: Z) s'.heap (.ref D) V)
    (q : ∀ s'', Step F F s s'' → Fm prog w mg mb F Z env ((y, ⟨V, none⟩) :: ρ) s'' → Q .none s'') :
    wpAny (model prog w) A (PySem.assign (PySem.Expr.Name y py) env (.ref D)) (fun _ s'' => ∃ m, s''.heap.Ns C m ∧ ∀ h', Heap.SameBut C s''.heap h' → Q .none { s'' with heap := h' }) E s' := by
  have hCl : ∃ o, s'.heap.get? C = some o := by obtain ⟨o, _, _, e, _⟩ := id hn; exact ⟨o, e⟩
  have f₁ := f.avoid x hC hCl
  obtain ⟨h₀, gl, k0, z0⟩ := f.base
  have hC0 : h₀.get? C = none := none_of_kp k0 hC
  have aD : Av (F ++ C :: Z) (.ref D) := fun b e hb => by
    cases e
    rcases List.mem_append.mp hb with hb | hb
    · obtain ⟨o, e⟩ := f.live _ (List.mem_append_left _ hb); rw [hD] at e; cases e
    · rcases List.mem_cons.mp hb with e | hb
      · exact hDC e
      · obtain ⟨o, e⟩ := f.live _ (List.mem_append_right _ hb); rw [hD] at e; cases e
  have hCF : C ∉ F := fun hb => by obtain ⟨o, e⟩ := f.liveF C hb; rw [hC] at e; cases e
  refine wpAny_assign_Name (f₁.store eo hk (sl := ⟨V, none⟩) r (SlotOk.shared aD) (.inl rfl) fun s₂ st₂ f₂ => ?_)
  refine ⟨m, hn.at' fun o e => st₂.chg.kp C o hCF e, fun h' hs' => ?_⟩
  have k0' : Kp h₀ s₂.heap := fun b o e => st₂.chg.kp b o (fun hb => by rw [z0 b hb] at e; cases e) (x.kp b o (k0 b o e))
  have c : KpX [C] s₂.heap h' := KpX.but hs'.extBut (by simp)
  have cc : Chg [C] s₂ { s₂ with heap := h' } := Chg.heap c s₂.toks
  have f₃ := Fm.leave (N := [C]) (s' := { s₂ with heap := h' }) f₂ gl k0' z0 c (fun b hb => by rw [List.mem_singleton.mp hb]; exact hCF) (fun b hb => by rw [List.mem_singleton.mp hb]; exact hC0) (fun b hb hZ => by
    rw [List.mem_singleton.mp hb] at hZ
    obtain ⟨o, e⟩ := f.live C (List.mem_append_right _ hZ); rw [hC] at e; cases e)
  refine q _ ⟨fun b hb => .inl hb, ((x.chg.trans st₂.chg).mono (N' := C :: F) (fun b hb => List.mem_cons_of_mem _ hb)).trans (cc.mono fun b hb => by rw [List.mem_singleton.mp hb]; exact List.mem_cons_self ..) |>.drop fun b hb => ?_⟩ f₃
  rcases List.mem_cons.mp hb with rfl | hb
  · exact .inr hC
  · exact .inl hb
theorem exec_used {y : Str} {py spos : Pos} {e : PySem.Expr} {A : Around} {E : Value → Shared → Prop} {Q : Flow → Shared → Prop} (hsw : swapsWith e (some (.Name y py)) spos.line env = pure true)
    (h : wpAny (model prog w) A (evalThenUse e env (PySem.assign (.Name y py) env)) (fun _ s' => Q .next s') E s) : wpAny (model prog w) A (exec (.Assign [.Name y py] e spos) env) Q E s := by
  rw [exec_Assign_Name_used _ _ _ _ hsw]
  exact wpAny_bind (wpAny_standAt (wpAny_bind (wpAny_mono h (fun _ s' hq => wpAny_pure hq) fun _ _ e => e)))
theorem St.assignC {elt iter : PySem.Expr} {x y : Str} {px py spos : Pos} {ifs : List PySem.Expr} {scope : Scope} {pos : Pos} {Vs : List AV} (p : AV → Bool) (F : AV → AV) (hit : EvIt prog w mg mb n env ρ false iter Vs) (o : ScOk scope env) (hz : Vs.length ≤ 1048576) (hx : scope.names.lookup x = some .local)
    (ht : ∀ C, ∀ V ∈ Vs, Tst prog w mg mb n (cEnv scope env C) ((x, ⟨V, none⟩) :: capρ scope env ρ) ifs (p V)) (he : ∀ C, ∀ V ∈ Vs, p V = true → Ev prog w mg mb n (cEnv scope env C) ((x, ⟨V, none⟩) :: capρ scope env ρ) elt (F V)) (hk : KOk env y)
    (hsw : swapsWith (.ListComp elt [⟨.Name x px, iter, ifs, 0⟩] scope pos) (some (.Name y py)) spos.line env = pure true := by rfl) (hs : ∀ x, foldedSetIterable iter env x = pure x := by intro _; rfl) :
    St prog w mg mb n env ρ (.Assign [.Name y py] (.ListComp elt [⟨.Name x px, iter, ifs, 0⟩] scope pos) spos) ((y, ⟨.list ((Vs.filter p).map F), none⟩) :: ρ) none := by
  intro A Fr Z s Q E ao eo fm q
  refine exec_used hsw ?_
  show wpAny _ A (do let _ ← comprehension (.ListComp elt [⟨.Name x px, iter, ifs, 0⟩] scope pos) scope env _ (newList []) false (eval iter env) (some (PySem.assign (.Name y py) env))) _ _ s
  have hl : ∀ C, (cEnv scope env C).kindOf x = some .local := fun C => lookup_relabel_local hx
  refine wpAny_bind (wpAny_mono (wpAny_comprehension_free (use := some (PySem.assign (.Name y py) env)) (Q := fun _ s' => Q .next s') rfl hs (closureFor_eq o.free) o.kind (fun x hx hl => ?_) (hit A (Fr ++ Z) s _ E ao eo fm.rd fun I s₂ fp P St x₂ hI it _ => ?_)) (fun _ s' hq => wpAny_pure hq) fun _ _ e => e)
  · have := List.all_eq_true.mp o.loc x hx
    rw [hl] at this; simpa using this
  · refine comp_block (RR := fun acc C => compPost (model prog w) A E (some (PySem.assign (.Name y py) env)) (fun _ s' => Q .next s') acc C) (fun V => [(x, V)]) p F ao eo o fm.rd x₂ hI it hz (fun C Y i V hC hV => Bnd.name rfl hC (hl C) o.kind) (fun C V _ y W e => ?_) ht he ?_
    · rw [List.lookup_cons] at e
      cases hb : y == x with
      | true => rw [beq_iff_eq.mp hb]; exact hl C
      | false => rw [hb] at e; cases e
    intro D C s' ys m' x hD hC hDC hpl hn rs
    have r : R prog w (Fr ++ C :: Z) s'.heap (.ref D) (.list ((Vs.filter p).map F)) := by
      obtain ⟨k, e⟩ := hpl
      refine .list (n := k) (vs := ys.toList) (by simpa using e) (rs.swapX fun a ha => .inl ?_)
      rcases List.mem_append.mp ha with ha | ha
      · exact List.mem_cons_of_mem _ (List.mem_append_left _ ha)
      · rcases List.mem_cons.mp ha with rfl | ha
        · exact List.mem_cons_self ..
        · exact List.mem_cons_of_mem _ (List.mem_append_right _ ha)
    exact fm.compStore (Q := fun _ s' => Q .next s') eo hk x hC hDC hD hn r fun s'' st fm' => q _ s'' Fr st fm' rfl
theorem St.assignCD {kx vx iter : PySem.Expr} {x y : Str} {px py spos : Pos} {scope : Scope} {pos : Pos} {Vs : List AV} (ky : AV → Str) (vf : AV → AV) (hit : EvIt prog w mg mb n env ρ false iter Vs) (o : ScOk scope env) (hz : Vs.length ≤ 1048576) (hx : scope.names.lookup x = some .local) (hnd : (Vs.map ky).Nodup) (hsc : ∀ V ∈ Vs, ∃ u, Sc u (vf V))
    (hke : ∀ C, ∀ V ∈ Vs, Ev prog w mg mb n (cEnv scope env C) ((x, ⟨V, none⟩) :: capρ scope env ρ) kx (.str (ky V))) (hve : ∀ C, ∀ V ∈ Vs, Ev prog w mg mb n (cEnv scope env C) ((x, ⟨V, none⟩) :: capρ scope env ρ) vx (vf V)) (hk : KOk env y)
    (hsw : swapsWith (.DictComp kx vx [⟨.Name x px, iter, [], 0⟩] scope pos) (some (.Name y py)) spos.line env = pure true := by rfl) (hs : ∀ x, foldedSetIterable iter env x = pure x := by intro _; rfl) :
    St prog w mg mb n env ρ (.Assign [.Name y py] (.DictComp kx vx [⟨.Name x px, iter, [], 0⟩] scope pos) spos) ((y, ⟨.dict (Vs.map fun V => (ky V, vf V)), none⟩) :: ρ) none := by
  intro A Fr Z s Q E ao eo fm q
  refine exec_used hsw ?_
  show wpAny _ A (do let _ ← comprehension (.DictComp kx vx [⟨.Name x px, iter, [], 0⟩] scope pos) scope env _ newDict false (eval iter env) (some (PySem.assign (.Name y py) env))) _ _ s
  refine wpAny_bind (wpAny_mono (wpAny_comprehension_free (use := some (PySem.assign (.Name y py) env)) (Q := fun _ s' => Q .next s') rfl hs (closureFor_eq o.free) o.kind (fun x hx hl => ?_) (hit A (Fr ++ Z) s _ E ao eo fm.rd fun I s₂ fp P St x₂ hI it _ => ?_)) (fun _ s' hq => wpAny_pure hq) fun _ _ e => e)
  · have := List.all_eq_true.mp o.loc x hx
    rw [hl] at this; simpa using this
  · refine comp_blockD (RR := fun acc C => compPost (model prog w) A E (some (PySem.assign (.Name y py) env)) (fun _ s' => Q .next s') acc C) ky vf ao eo o fm.rd x₂ hI it hz hx hnd hsc hke hve ?_
    intro D C s' kvs m' x hD hC hDC hpl hn rk
    exact fm.compStore (Q := fun _ s' => Q .next s') eo hk x hC hDC hD hn (.dict hpl rk) fun s'' st fm' => q _ s'' Fr st fm' rfl

/- for a, b in a list of pairs -/
theorem listIt {s₁ : Shared} (x₁ : Ext s s₁) {l k : Nat} {vs : List Value} {Vs : List AV} (e₁ : s₁.heap.get? l = some { cls := .type "list", data := .seq (List.toArray vs) k }) (rs : Rs prog w X s₁.heap vs Vs) :
    ItOk prog w (s₁.heap.objs.size :: X) { s₁ with heap := s₁.heap.push { cls := .type "list_iterator", data := .fields #[.ref l, .int 0 0] } } s₁.heap.objs.size Vs [s₁.heap.objs.size, l] (fun i v => vs.toArray[i]? = some v) (fun i h => h.IsListIter s₁.heap.objs.size l i ∧ h.IsList l vs.toArray) := by
  have hI : s₁.heap.get? s₁.heap.objs.size = none := get?_size _
  let s₂ : Shared := { s₁ with heap := s₁.heap.push { cls := .type "list_iterator", data := .fields #[.ref l, .int 0 0] } }
  have x₂ : Ext s₁ s₂ := Ext.push _ _
  have hne : l ≠ s₁.heap.objs.size := fun q => by rw [q, hI] at e₁; cases e₁
  have rs' : Rs prog w (s₁.heap.objs.size :: X) s₂.heap vs Vs := (rs.swapX (Y := s₁.heap.objs.size :: X) (fun a ha => by
      rcases List.mem_cons.mp ha with rfl | ha
      · exact .inr hI
      · exact .inl ha)).kp x₂.kp
  have hlen : vs.toArray.size = Vs.length := by rw [List.size_toArray, rs.length]
  refine ⟨fun A' hA => hlen ▸ Walks.list (prog := prog) (w := w) hA s₁.heap.objs.size l hne vs.toArray, ⟨⟨_, Heap.get?_push_size _ rfl, rfl, rfl⟩, isList_of (x₂.kp _ _ e₁)⟩, fun i v hv => ?_, List.mem_cons_self .., fun i h st b hb => ?_⟩
  · have hv' : vs[i]? = some v := by simpa using hv
    have hi : i < Vs.length := by rw [← rs.length]; exact (List.getElem?_eq_some_iff.mp hv').1
    obtain ⟨u, hu, hr, ha⟩ := rs'.get (List.getElem?_eq_getElem hi)
    rw [hv'] at hu; cases hu
    exact ⟨_, List.getElem?_eq_getElem hi, hr, ha⟩
  · obtain ⟨⟨o, e, _⟩, ⟨o', e', _⟩⟩ := st
    rcases List.mem_cons.mp hb with rfl | hb
    · exact ⟨o, e⟩
    · rw [List.mem_singleton.mp hb]; exact ⟨o', e'⟩
end Mine
end
section
set_option maxRecDepth 100000
set_option maxHeartbeats 4000000
namespace Mine
variable {prog : Program} {w : World} {mg mb : Str → Option Value} {n : Nat} {env : Env} {ρ ρ' : PEnv} {F F' Z X : List Addr} {s s' : Shared} {h : Heap} {v : Value}
theorem draw_walk {A : Around} {I : Addr} {fp : List Addr} {N : Nat} {P : Nat → Value → Prop} {St : Nat → Heap → Prop} (W : Walks prog w A I fp [I] N P St) : ∀ (k i : Nat) (s : Shared) (Q : List Value → Shared → Prop) (E : Value → Shared → Prop), St i s.heap → i + k ≤ N →
    (∀ vs h' tk, vs.length = k → (∀ j v, vs[j]? = some v → P (i + j) v) → St (i + k) h' → Heap.ExtBut I s.heap h' → Q vs { s with heap := h', toks := tk }) → wpAny (model prog w) A (draw (.ref I) k) Q E s
  | 0, i, s, Q, E, st, _, q => by
    show wpAny _ _ (pure []) Q E s
    exact wpAny_pure (q [] s.heap s.toks rfl (fun _ _ h => by cases h) st (fun _ _ _ e => e))
  | k + 1, i, s, Q, E, st, hle, q => by
    show wpAny _ _ (pyNext (.ref I) >>= _) Q E s
    refine wpAny_bind (W.item i s _ _ (by omega) st fun v h₁ t₁ hv st₁ k₁ => ?_)
    refine wpAny_bind (wpAny_holding (draw_walk W k (i + 1) _ _ _ st₁ (by omega) fun vs h₂ t₂ hl hP st₂ k₂ => wpAny_pure ?_))
    refine q (v :: vs) h₂ t₂ (by rw [List.length_cons, hl]) (fun j u hj => ?_) (by rw [show i + (k + 1) = i + 1 + k by omega]; exact st₂) (fun b o hb e => k₂ b o hb (k₁ b o (by simpa using hb) e))
    cases j with
    | zero => cases hj; exact hv
    | succ j => have := hP j u (by simpa using hj); rwa [show i + 1 + j = i + (j + 1) by omega] at this
theorem unpack_L {A : Around} {E : Value → Shared → Prop} {Vs : List AV} {Q : List Value → Shared → Prop} {k : Nat} (hh : A.handled = none) (r₁ : R prog w X s.heap v (.list Vs)) (hk : k = Vs.length) (q : ∀ vs h' t, Kp s.heap h' → Rs prog w X h' vs Vs → Q vs { s with heap := h', toks := t }) : wpAny (model prog w) A (unpackItems v k none) Q E s := by
  obtain ⟨l, c, us, rfl, e, rs⟩ := r₁.list_inv
  unfold unpackItems
  refine wpAny_bind ?_
  unfold notIterableAtAll
  have hT : s.TypeIs (.ref l) "list" := ⟨_, e, rfl⟩
  refine wpAny_bind (wpAny_specialOf hT slot_list_iter.lookup ?_)
  refine wpAny_pure ?_
  simp only [Bool.false_eq_true, if_false]
  refine wpAny_bind (wpAny_holding (wpAny_pyIter_list (isList_of e) ?_))
  have hlt : l ≠ s.heap.objs.size := Nat.ne_of_lt (Heap.lt_size e)
  have W := Walks.list (prog := prog) (w := w) hh s.heap.objs.size l hlt us.toArray
  have e2 := Heap.get?_push_of_some { cls := .type "list_iterator", data := .fields #[.ref l, .int 0 0] } e
  have hlen : us.toArray.size = k := by rw [List.size_toArray, rs.length, hk]
  refine wpAny_bind (wpAny_holding (draw_walk W k 0 _ _ _ ⟨⟨_, Heap.get?_push_size _ rfl, rfl, rfl⟩, isList_of e2⟩ (by omega) fun vs h₁ t₁ hl hP st₁ k₁ => ?_))
  rw [if_neg (by omega)]
  have st₁' : h₁.IsListIter s.heap.objs.size l us.toArray.size ∧ h₁.IsList l us.toArray := by rw [hlen]; simpa using st₁
  refine wpAny_bind (wpAny_holding (W.done _ _ _ st₁' fun h₂ t₂ k₂ => ?_))
  simp only [Option.isSome_none, Bool.false_eq_true, if_false]
  have x : Ext s { s with heap := h₂, toks := t₂ } := Ext.heap (fun b o e => k₂ b o (by simpa using Nat.ne_of_lt (Heap.lt_size e)) (k₁ b o (Nat.ne_of_lt (Heap.lt_size e)) (Heap.get?_push_of_some _ e))) t₂
  have hvs : vs = us := by
    apply List.ext_getElem?
    intro j
    cases hj : vs[j]? with
    | none =>
      have : vs.length ≤ j := List.getElem?_eq_none_iff.mp hj
      symm; rw [List.getElem?_eq_none_iff]
      have h1 : us.length = k := by rw [← hlen, List.size_toArray]
      omega
    | some u => have := hP j u hj; simp at this; exact this.symm
  subst hvs
  exact wpAny_pure (q vs _ _ x.kp (rs.kp x.kp))
/- the target a, b of a comprehension over a list's iterator, the item a list of two -/
theorem Bnd.pairL {C I : Addr} {Y : List Addr} {a b : Str} {pa pb tp : Pos} {tk : Nat} {cenv : Env} {U W : AV} {St' : Heap → Prop} (hC : cenv.locals = C) (hY : C ∈ Y) (ha : cenv.kindOf a = some .local) (hb : cenv.kindOf b = some .local) (hk : cenv.scope.kind = .function) (hst : ∀ h, St' h → ∃ l i, h.IsListIter I l i) :
    Bnd prog w C I St' Y (.Tuple [.Name a pa, .Name b pb] tk tp) cenv (.list [U, W]) [(b, W), (a, U)] := by
  intro A s E v m Q hh st r av hn q
  subst hC
  obtain ⟨l', i, hit⟩ := hst _ st
  obtain ⟨d, c, us, rfl, e, rs⟩ := id r.list_inv
  refine wpAny_bind (wpAny_letOwnedTupleGo_listiter hit ?_)
  rw [arm_assign_Tuple]
  refine wpAny_bind (wpAny_standAt ?_)
  unfold unpack
  refine wpAny_bind (wpAny_holding (unpack_L (k := 2) hh r rfl fun vs h₁ t₁ k₁ rs₁ => ?_))
  have hn₁ : h₁.Ns cenv.locals m := hn.at' fun o e => k₁ _ o e
  cases rs₁ with
  | cons a1 r1 rs₁ => cases rs₁ with
    | cons a2 r2 rs₁ =>
      cases rs₁
      rename_i u w'
      show wpAny _ _ (do holding [w'] (PySem.assign (.Name a pa) cenv u); do holding [] (PySem.assign (.Name b pb) cenv w'); pure ()) _ _ _
      refine wpAny_bind (wpAny_holding (wpAny_assign_Name (wpAny_storeName_local ha hn₁ (fun h₂ hn₂ hs₂ => ?_) (by rw [hk]; rfl))))
      refine wpAny_bind (wpAny_holding (wpAny_assign_Name (wpAny_storeName_local hb hn₂ (fun h₃ hn₃ hs₃ => wpAny_pure ?_) (by rw [hk]; rfl))))
      replace hs₂ : Heap.SameBut cenv.locals h₁ h₂ := hs₂
      replace hs₃ : Heap.SameBut cenv.locals h₂ h₃ := hs₃
      have kY : KpX Y h₁ h₃ := fun b o hbY e => hs₃.extBut b o (fun q => hbY (q ▸ hY)) (hs₂.extBut b o (fun q => hbY (q ▸ hY)) e)
      refine q h₃ _ _ (fun b o hb e => hs₃.extBut b o hb (hs₂.extBut b o hb (k₁ b o e))) hn₃ fun y V e => ?_
      rw [List.lookup_cons] at e
      cases h1 : y == b with
      | true =>
        rw [h1] at e; cases e
        exact ⟨w', if_pos (beq_iff_eq.mp h1), r2.kpX kY a2, a2⟩
      | false =>
        rw [h1] at e
        rw [List.lookup_cons] at e
        cases h2 : y == a with
        | true =>
          rw [h2] at e; cases e
          refine ⟨u, ?_, r1.kpX kY a1, a1⟩
          show (if y = b then some w' else if y = a then some u else m y) = some u
          rw [if_neg (fun q => by rw [q] at h1; simp at h1), if_pos (beq_iff_eq.mp h2)]
        | false => rw [h2] at e; cases e
theorem Ev.compPair {elt iter : PySem.Expr} {a b : Str} {pa pb tp : Pos} {tk : Nat} {scope : Scope} {pos : Pos} {Vs : List AV} (F : AV → AV) (he0 : EvO prog w mg mb n env ρ iter (.list Vs)) (hV : ∀ V ∈ Vs, ∃ U W, V = .list [U, W]) (o : ScOk scope env) (hz : Vs.length ≤ 1048576) (ha : scope.names.lookup a = some .local) (hb : scope.names.lookup b = some .local)
    (he : ∀ C U W, AV.list [U, W] ∈ Vs → Ev prog w mg mb n (cEnv scope env C) ((b, ⟨W, none⟩) :: (a, ⟨U, none⟩) :: capρ scope env ρ) elt (F (.list [U, W])))
    (hs : ∀ x, foldedSetIterable iter env x = pure x := by intro _; rfl) :
    Ev prog w mg mb n env ρ (.ListComp elt [⟨.Tuple [.Name a pa, .Name b pb] tk tp, iter, [], 0⟩] scope pos) (.list (Vs.map F)) := by
  intro A X s Q E ao eo rd q
  have la : ∀ C, (cEnv scope env C).kindOf a = some .local := fun C => lookup_relabel_local ha
  have lb : ∀ C, (cEnv scope env C).kindOf b = some .local := fun C => lookup_relabel_local hb
  rw [eval_ListComp]
  refine wpAny_comprehension_free (use := none) rfl hs (closureFor_eq o.free) o.kind (fun x hx hl => ?_) (he0 A X s _ E ao eo rd fun v s₁ x₁ r₁ => ?_)
  · have := List.all_eq_true.mp o.loc x hx
    rw [hl] at this; simpa using this
  · obtain ⟨l, k, vs, rfl, e₁, rs⟩ := r₁.list_inv
    refine wpAny_pyIter_list (isList_of e₁) ?_
    let bs : AV → List (Str × AV) := fun V => match V with | .list [U, W] => [(b, W), (a, U)] | _ => []
    refine comp_block (RR := fun acc C => compPost (model prog w) A E none Q acc C) bs (fun _ => true) F ao eo o rd (x₁.trans (Ext.push _ _)) (none_of_ext x₁ (get?_size _)) (listIt x₁ e₁ rs) hz (fun C Y i V hC hVi => ?_) (fun C V hVm y W e => ?_) (fun C V _ => rfl) (fun C V hVm _ => ?_) ?_
    · obtain ⟨U, W, rfl⟩ := hV V (List.mem_of_getElem? hVi)
      exact Bnd.pairL rfl hC (la C) (lb C) o.kind fun h st => ⟨_, _, st.1⟩
    · obtain ⟨U, W', rfl⟩ := hV V hVm
      simp only [bs, List.lookup_cons] at e
      cases h1 : y == b with
      | true => rw [beq_iff_eq.mp h1]; exact lb C
      | false =>
        rw [h1] at e
        cases h2 : y == a with
        | true => rw [beq_iff_eq.mp h2]; exact la C
        | false => rw [h2] at e; cases e
    · obtain ⟨U, W', rfl⟩ := hV V hVm
      exact he C U W' hVm
    · intro D C s' ys m' x hD hC hDC hpl hn rs'
      refine ⟨m', hn, fun h' hs' => ?_⟩
      obtain ⟨h1, h2, h3⟩ := list_done rd x hD hC hDC hpl rs' hs'.extBut
      rw [List.filter_eq_self.mpr (fun _ _ => rfl)] at h2
      exact q _ _ h1 h2 h3
end Mine
end
section
set_option maxRecDepth 100000
set_option maxHeartbeats 4000000
namespace Mine
variable {prog : Program} {w : World} {mg mb : Str → Option Value} {n : Nat} {env : Env} {ρ ρ' ρ'' : PEnv} {F F' Z X : List Addr} {s s' : Shared} {h : Heap} {v : Value} {r : Option AV}
theorem Ev.and2 {x y : PySem.Expr} {pos : Pos} {V W : AV} (hx : Ev prog w mg mb n env ρ x V) (ht : Truth prog w V true) (hy : Ev prog w mg mb n env ρ y W) : Ev prog w mg mb n env ρ (.BoolOp .And [x, y] pos) W := by
  intro A X s Q E ao eo rd q
  refine wpAny_And2 (hx A X s _ E ao eo rd fun v s₁ x₁ r₁ _ => ?_)
  refine ht n A X s₁ _ E v ao r₁ fun s₂ x₂ => ?_
  rw [if_pos rfl]
  exact hy A X s₂ Q E ao eo ((rd.ext x₁).ext x₂) (Post.after q (x₁.trans x₂))

/- dict displays -/
inductive EvPs (prog : Program) (w : World) (mg mb : Str → Option Value) (n : Nat) (env : Env) (ρ : PEnv) : List (Option PySem.Expr) → List PySem.Expr → List (Str × AV) → Prop
  | nil : EvPs prog w mg mb n env ρ [] [] []
  | cons {k v x V ks vs L} : Ev prog w mg mb n env ρ k (.str x) → Ev prog w mg mb n env ρ v V → (∃ u, Sc u V) → EvPs prog w mg mb n env ρ ks vs L → EvPs prog w mg mb n env ρ (some k :: ks) (v :: vs) ((x, V) :: L)
theorem EvPs.go {keys : List (Option PySem.Expr)} {values : List PySem.Expr} {L : List (Str × AV)} {A : Around} {pos : Pos} (h : EvPs prog w mg mb n env ρ keys values L) (ao : AOk n A) (eo : EnvOk env) : ∀ (s : Shared) (Q : List (Value × Value) → Shared → Prop) (E : Value → Shared → Prop), Rd prog w mg mb X env ρ s →
    (∀ vs s' kvs, Ext s s' → Carries (strKind prog w) vs kvs → Rk kvs L → Q vs s') → wpAny (model prog w) A (evalPairs (pairTrees keys values env pos)) Q E s := by
  induction h with
  | nil => exact fun s Q E rd q => pairTrees_nil_walk (q [] s [] (.refl s) trivial .nil)
  | cons hk hv hsc _ ih =>
    intro s Q E rd q
    refine pairTrees_cons_walk (hk A X s _ E ao eo rd fun kv s₁ x₁ r₁ _ => hv A X s₁ _ E ao eo (rd.ext x₁) fun vv s₂ x₂ r₂ _ => ih s₂ _ E ((rd.ext x₁).ext x₂) fun vs s₃ kvs x₃ hc rk => ?_)
    obtain ⟨t, rfl⟩ := r₁.str_inv
    exact q _ s₃ ((_, vv) :: kvs) ((x₁.trans x₂).trans x₃) ⟨strKind_is prog w _ t, rfl, hc⟩ (.cons (r₂.sc_inv hsc) rk)
theorem EvPs.shape {keys : List (Option PySem.Expr)} {values : List PySem.Expr} {L : List (Str × AV)} (h : EvPs prog w mg mb n env ρ keys values L) : keys.all (·.isSome) = true ∧ keys.length = values.length ∧ keys.length = L.length := by
  induction h with
  | nil => exact ⟨rfl, rfl, rfl⟩
  | cons _ _ _ _ ih => obtain ⟨a, b, c⟩ := ih; exact ⟨by simpa using a, by simpa using b, by simpa using c⟩
theorem Rk.keys {kvs : List (Str × Value)} {L : List (Str × AV)} (r : Rk kvs L) : kvs.map (·.1) = L.map (·.1) := by
  induction r with
  | nil => rfl
  | cons _ _ ih => rw [List.map_cons, List.map_cons, ih]
theorem Ev.dictD {keys : List (Option PySem.Expr)} {values : List PySem.Expr} {pos : Pos} {L : List (Str × AV)} (hp : EvPs prog w mg mb n env ρ keys values L) (h0 : L ≠ []) (hl : L.length ≤ 15) (hnd : (L.map (·.1)).Nodup) : Ev prog w mg mb n env ρ (.Dict keys values pos) (.dict L) := by
  intro A X s Q E ao eo rd q
  obtain ⟨a, b, c⟩ := hp.shape
  have x₀ : Ext s { s with heap := s.heap.push { cls := .type "dict", data := .dict #[] } } := Ext.push _ _
  refine wpAny_Dict_walk (knd := strKind prog w) a b (fun e => h0 (List.length_eq_zero_iff.mp (by rw [← c, e]; rfl))) (by omega) (hp.go ao eo _ _ _ (rd.ext x₀) fun vs s₁ kvs x₁ hc rk => ⟨kvs, hc, ?_, fun h' hd hs' => ?_⟩)
  · exact (Heap.DictOf.new s.heap).at fun o e => x₁.kp _ o e
  · have hD : s.heap.get? s.heap.objs.size = none := get?_size _
    have x : Ext s { s₁ with heap := h', toks := s₁.toks + vs.length } := (((x₀.trans x₁).chg (N := [s.heap.objs.size])).trans (Chg.heap (KpX.but hs'.extBut (by simp)) _)).ext fun b hb => by rw [List.mem_singleton.mp hb]; exact hD
    rw [merged_nil_of_nodup kvs (by rw [rk.keys]; exact hnd)] at hd
    exact q _ _ x (.dict hd rk) (Av.new rd.live hD)

/- expressions that change an own list -/
noncomputable def EvM (prog : Program) (w : World) (mg mb : Str → Option Value) (n : Nat) (env : Env) (ρ : PEnv) (e : PySem.Expr) (V : AV) (ρ' : PEnv) : Prop :=
  ∀ (A : Around) (F Z : List Addr) (s : Shared) (Q : Value → Shared → Prop) (E : Value → Shared → Prop), AOk n A → EnvOk env → Fm prog w mg mb F Z env ρ s →
    (∀ v s', Step F F s s' → Fm prog w mg mb F Z env ρ' s' → R prog w (F ++ Z) s'.heap v V → Av (F ++ Z) v → Q v s') → wpAny (model prog w) A (eval e env) Q E s
theorem Ev.toM {e : PySem.Expr} {V : AV} (h : Ev prog w mg mb n env ρ e V) : EvM prog w mg mb n env ρ e V ρ := fun A F Z s Q E ao eo fm q => h A (F ++ Z) s Q E ao eo fm.rd fun v s' x r a => q v s' x.step (fm.ext x) r a
theorem Step.kpX (st : Step F F s s') : KpX (F ++ Z) s.heap s'.heap := fun b o hb e => st.chg.kp b o (fun m => hb (List.mem_append_left _ m)) e
theorem EvM.bin {l r : PySem.Expr} {op : Operator} {pos : Pos} {V₁ V₂ V : AV} (hl : EvM prog w mg mb n env ρ l V₁ ρ') (hr : EvM prog w mg mb n env ρ' r V₂ ρ'') (ho : OpB prog w op V₁ V₂ V) : EvM prog w mg mb n env ρ (.BinOp l op r pos) V ρ'' := by
  intro A F Z s Q E ao eo fm q
  refine wpAny_BinOp (hl A F Z s _ E ao eo fm fun v₁ s₁ x₁ fm₁ r₁ a₁ => hr A F Z s₁ _ E ao eo fm₁ fun v₂ s₂ x₂ fm₂ r₂ a₂ => ?_)
  exact ho n A (F ++ Z) s₂ Q E v₁ v₂ ao fm₂.live (r₁.kpX x₂.kpX a₁) r₂ fun v s₃ x₃ r₃ a₃ => q v s₃ ((x₁.trans x₂).trans x₃.step) (fm₂.ext x₃) r₃ a₃
theorem St.assignM {x : Str} {p pos : Pos} {e : PySem.Expr} {V : AV} (he : EvM prog w mg mb n env ρ e V ρ') (hk : KOk env x) (hs : swapsWith e (some (.Name x p)) pos.line env = pure false := by rfl) :
    St prog w mg mb n env ρ (.Assign [.Name x p] e pos) ((x, ⟨V, none⟩) :: ρ') none := by
  intro A F Z s Q E a eo fm q
  refine wpAny_Assign_Name (he A F Z s _ E a eo fm fun v s₁ x₁ fm₁ r₁ a₁ => ?_) hs
  exact fm₁.store eo hk r₁ (SlotOk.shared a₁) (.inl rfl) fun s' st fm' => q _ s' F (x₁.trans st) fm' rfl
theorem St.retM {e : PySem.Expr} {pos : Pos} {V : AV} (he : EvM prog w mg mb n env ρ e V ρ') : St prog w mg mb n env ρ (.Return (some e) pos) ρ' (some V) := by
  intro A F Z s Q E a eo fm q
  exact wpAny_Return_some (he A F Z s _ E a eo fm fun v s₁ x₁ fm₁ r₁ a₁ => q _ s₁ F x₁ fm₁ ⟨v, rfl, r₁, fun b e hb => a₁ b e (List.mem_append_right _ hb)⟩)
/- contracts of defs whose last parameter is a list that they change -/
noncomputable def SpecM (prog : Program) (w : World) (mg mb : Str → Option Value) (n : Nat) (f : Str) (Vs Us Us' : List AV) (V : AV) : Prop :=
  ∀ (A : Around) (X : List Addr) (s : Shared) (Q E : Value → Shared → Prop) (vs : List Value) (l : Addr) (k : Nat) (us : List Value) (ad : Addr), mg f = some (.ref ad) → AOk n A → (∃ h₀, Gl prog mg mb h₀ ∧ Kp h₀ s.heap ∧ h₀.get? l = none) → Live X s.heap → l ∈ X →
    s.heap.get? l = some { cls := .type "list", data := .seq (List.toArray us) k } → RsP us Us → Rs prog w X s.heap vs Vs →
    (∀ v s' us' k', Chg [l] s s' → s'.heap.get? l = some { cls := .type "list", data := .seq (List.toArray us') k' } → RsP us' Us' → R prog w X s'.heap v V → Av X v → Q v s') →
    (∃ o fd, s.heap.get? ad = some o ∧ o.data = .func fd) ∧ wpAny (model prog w) A (call (.ref ad) (vs ++ [.ref l])) Q E s
theorem SpecM.intro {d : DefRec} {f x : Str} (hd : d ∈ defs prog) (hf : d.name = f) {ps : List Str} (ok : DefOk d ps) (hgen : d.scope.isGenerator = false) {Vs Us Us' : List AV} {V : AV} (hl : Vs.length + 1 = ps.length) (hsc : AllSc Us')
    (body : ∀ l pm code doc L a, ∃ ρ', Sx prog w mg mb n (eOf d pm code doc L a) (ps.zip (sls0 Vs ++ [⟨.list Us, some (some l)⟩])) d.body ρ' (some V) ∧ ρ'.lookup x = some ⟨.list Us', some (some l)⟩) : SpecM prog w mg mb (n + 1) f Vs Us Us' V := by
  intro A X s Q E vs l k us ad hm ao base lv hlX el ru rs q
  subst hf
  have hvl := rs.length
  obtain ⟨h₀, gl, k0, hl0⟩ := base
  have sub : ∀ b ∈ [l] ++ X, b ∈ X ∨ s.heap.get? b = none := fun b hb => by
    rcases List.mem_append.mp hb with hb | hb
    · rw [List.mem_singleton.mp hb]; exact .inl hlX
    · exact .inl hb
  have look : ∀ (i : Nat) (sl : Sl), (sls0 Vs ++ [(⟨.list Us, some (some l)⟩ : Sl)])[i]? = some sl → (∃ V', Vs[i]? = some V' ∧ sl = ⟨V', none⟩) ∨ (i = Vs.length ∧ sl = ⟨.list Us, some (some l)⟩) := fun i sl h1 => by
    by_cases hi : i < Vs.length
    · rw [List.getElem?_append_left (by simpa [sls0] using hi)] at h1
      obtain ⟨V', hV', rfl⟩ : ∃ V', Vs[i]? = some V' ∧ (⟨V', none⟩ : Sl) = sl := by simpa [sls0] using h1
      exact .inl ⟨V', hV', rfl⟩
    · rw [List.getElem?_append_right (by simpa [sls0] using hi)] at h1
      have hlen : (sls0 Vs).length = Vs.length := by simp [sls0]
      rw [hlen] at h1
      cases hq : i - Vs.length with
      | zero => rw [hq] at h1; cases h1; exact .inr ⟨by omega, rfl⟩
      | succ j => rw [hq] at h1; cases h1
  refine call_body (V := V) (O := [l]) hd ok hgen ao hm (gl.kp k0) ⟨h₀, gl, k0, fun b hb => by rw [List.mem_singleton.mp hb]; exact hl0⟩ lv (fun b hb => by rw [List.mem_singleton.mp hb]; exact ⟨_, el⟩) (by rw [List.length_append, List.length_singleton, hvl, hl]) (sls := sls0 Vs ++ [⟨.list Us, some (some l)⟩]) (fun i sl u h1 h2 => ?_) (fun i j sl sl' h1 h1' o o' => ?_) fun pm code doc L a => ?_
  · rcases look i sl h1 with ⟨V', hV', rfl⟩ | ⟨rfl, rfl⟩
    · obtain ⟨u', hu', hr, ha⟩ := rs.get hV'
      have hi : i < vs.length := (List.getElem?_eq_some_iff.mp hu').1
      rw [List.getElem?_append_left hi, hu'] at h2; cases h2
      exact ⟨hr.swapX sub, ha.swapX sub hr⟩
    · rw [← hvl, List.getElem?_append_right (Nat.le_refl _), Nat.sub_self] at h2
      cases h2
      exact ⟨.list el ru.rs, l, rfl, List.mem_singleton.mpr rfl, rfl⟩
  · rcases look i sl h1 with ⟨V', hV', rfl⟩ | ⟨rfl, rfl⟩
    · exact absurd rfl o
    · rcases look j sl' h1' with ⟨V', hV', rfl⟩ | ⟨rfl, rfl⟩
      · exact absurd rfl o'
      · rfl
  · obtain ⟨ρ', hB, hx⟩ := body l pm code doc L a
    refine ⟨ρ', hB, fun v s' F' pm code doc L a c fm hr ha => ?_⟩
    obtain ⟨u, hu, hr', hok⟩ := fm.vals x _ hx
    obtain ⟨a', ea, _, ek, _⟩ := hok
    have ek' : a' = l := ek
    subst ek'; subst ea
    obtain ⟨a2, k', us', ea, e', rs'⟩ := hr'.list_inv
    cases ea
    exact q v s' us' k' c e' (rs'.plain hsc) hr ha
theorem callWith_fnS {A : Around} {Q E : Value → Shared → Prop} {a : Addr} {e : PySem.Expr} {es : List PySem.Expr} {pos : Pos} (hs : starEach (e :: es) env = (false, eval e env) :: starEach es env)
    (h : wpAny (model prog w) A (spliced (backTo pos (starEach (e :: es) env))) (fun vs s₁ => (∃ o fd, s₁.heap.get? a = some o ∧ o.data = .func fd) ∧ wpAny (model prog w) A (call (.ref a) vs) Q E s₁) E s) :
    wpAny (model prog w) A (callWith pos (.ref a) [] (backTo pos (starEach (e :: es) env)) []) Q E s := by
  have key : wpAny (model prog w) A (evalArgs (.ref a) true (backTo pos (starEach (e :: es) env)) []) (fun x s₁ => (∃ o fd, s₁.heap.get? a = some o ∧ o.data = .func fd) ∧ wpAny (model prog w) A (call (.ref a) ([] ++ x.pos) x.kw) Q E s₁) E s := by
    have hE := backTo_cons (pos := pos) hs
    rw [hE]
    refine Calls.evalArgs_plain ?_
    rw [← hE]
    exact h
  unfold callWith
  refine wpAny_bind (wpAny_holding (wpAny_mono key (fun x s₁ h₁ => wpAny_bind (wpAny_standAt ?_)) fun _ _ x => x))
  obtain ⟨⟨o, fd, ho, hd⟩, hw⟩ := h₁
  have tail : ∀ {t : Sem Value}, wpAny (model prog w) A t Q E s₁ → wpAny (model prog w) A (t >>= fun r => holding [r] point >>= fun _ => pure r) Q E s₁ :=
    fun ht => wpAny_bind (wpAny_mono ht (fun r s₂ hr => wpAny_bind (wpAny_holding (wpAny_point (wpAny_pure hr)))) fun _ _ x => x)
  refine wpAny_bind (m := keeperOf (.ref a)) ?_
  unfold keeperOf
  refine wpAny_bind (wpAny_load ho ?_)
  rw [hd]
  refine wpAny_pure ?_
  cases hst : ((backTo pos (starEach (e :: es) env)).any (·.1) || ([] : List (Option Str × Sem Value)).any (·.1.isNone)) with
  | true => exact tail (by unfold callMarked; exact Calls.wpAny_keep hw)
  | false =>
    refine wpAny_ite ?_
    split
    · exact tail hw
    · exact tail (by unfold callMarked; exact Calls.wpAny_keep hw)
theorem EvM.call {f x : Str} {p px pos : Pos} {e1 e2 : PySem.Expr} {V₁ V₂ V : AV} {Us Us' : List AV} {b : Option Addr} {a : Addr} (hk : env.kindOf f = some .globalImplicit) (hm : mg f = some (.ref a)) (hx : ρ.lookup x = some ⟨.list Us, some b⟩) (hsc : AllSc Us)
    (h1 : Ev prog w mg mb n env ρ e1 V₁) (h2 : Ev prog w mg mb n env ρ e2 V₂) (hc : SpecM prog w mg mb n f [V₁, V₂] Us Us' V) (hdx : (x == ("__debug__" : Str)) = false := by rfl) (hd : (f == ("__debug__" : Str)) = false := by rfl)
    (hs : starEach [e1, e2, .Name x px] env = [(false, eval e1 env), (false, eval e2 env), (false, eval (.Name x px) env)] := by rfl) :
    EvM prog w mg mb n env ρ (.Call (.Name f p) [e1, e2, .Name x px] [] pos) V ((x, ⟨.list Us', some b⟩) :: ρ) := by
  intro A F Z s Q E ao eo fm q
  rw [arm_eval_Call_Name']
  refine wpAny_bind (Calls.Name_function_global eo.kind hk (Calls.loadGlobal_global (mg := mg) (by rw [eo.globals]; exact fm.gl.g) hm ?_) hd)
  have hs2 : starEach [e2, .Name x px] env = [(false, eval e2 env), (false, eval (.Name x px) env)] := by
    have : starEach (e1 :: [e2, .Name x px]) env = _ := hs
    unfold starEach at this
    cases e1 <;> first | exact (List.cons.inj this).2 | simp_all [starEach]
  refine callWith_fnS (by rw [hs, hs2]) ?_
  rw [hs]
  refine Calls.spliced_cons (h1 A (F ++ Z) s _ E ao eo fm.rd fun v₁ s₁ x₁ r₁ a₁ => ?_)
  refine Calls.spliced_cons (h2 A (F ++ Z) s₁ _ E ao eo (fm.ext x₁).rd fun v₂ s₂ x₂ r₂ a₂ => ?_)
  have fm₂ := (fm.ext x₁).ext x₂
  obtain ⟨l, k, us, hv, el, rs⟩ := fm₂.ownAt hx
  refine Calls.spliced_cons (varO (a := l) eo hv (Calls.spliced_nil ?_) hdx)
  have hlF : l ∈ F := by
    obtain ⟨u, hu, _, hok⟩ := fm₂.vals x _ hx
    cases hu.fun hv
    obtain ⟨_, ea, hF, _⟩ := hok
    cases ea; exact hF
  obtain ⟨h₀, gl, k0, z0⟩ := fm₂.base
  refine hc A (F ++ Z) s₂ Q E [v₁, v₂] l k us a hm ao ⟨h₀, gl, k0, z0 l hlF⟩ fm₂.live (List.mem_append_left _ hlF) el (rs.plain hsc) (.cons a₁ (r₁.kp x₂.kp) (.cons a₂ r₂ .nil)) fun v s' us' k' c e' ru hr ha => ?_
  obtain ⟨f3, st3⟩ := fm₂.mut hx hv c e' ru
  exact q v s' ((x₁.trans x₂).step.trans st3) f3 hr ha
theorem Ev.callNil {f : Str} {p px pos : Pos} {e1 e2 : PySem.Expr} {V₁ V₂ V : AV} {Us' : List AV} {a : Addr} (hk : env.kindOf f = some .globalImplicit) (hm : mg f = some (.ref a))
    (h1 : Ev prog w mg mb n env ρ e1 V₁) (h2 : Ev prog w mg mb n env ρ e2 V₂) (hc : SpecM prog w mg mb n f [V₁, V₂] [] Us' V) (hd : (f == ("__debug__" : Str)) = false := by rfl)
    (hs : starEach [e1, e2, .List [] px] env = [(false, eval e1 env), (false, eval e2 env), (false, eval (.List [] px) env)] := by rfl) (hs2 : starEach [e2, .List [] px] env = [(false, eval e2 env), (false, eval (.List [] px) env)] := by rfl) :
    Ev prog w mg mb n env ρ (.Call (.Name f p) [e1, e2, .List [] px] [] pos) V := by
  intro A X s Q E ao eo rd q
  rw [arm_eval_Call_Name']
  refine wpAny_bind (Calls.Name_function_global eo.kind hk (Calls.loadGlobal_global (mg := mg) (by rw [eo.globals]; exact rd.gl.g) hm ?_) hd)
  refine callWith_fnS (by rw [hs, hs2]) ?_
  rw [hs]
  refine Calls.spliced_cons (h1 A X s _ E ao eo rd fun v₁ s₁ x₁ r₁ a₁ => ?_)
  refine Calls.spliced_cons (h2 A X s₁ _ E ao eo (rd.ext x₁) fun v₂ s₂ x₂ r₂ a₂ => ?_)
  have rd₂ := (rd.ext x₁).ext x₂
  have hN : EvN prog w mg mb n env ρ (.List [] px) [] := EvN.list Evs.nil (fun _ h => nomatch h)
  refine Calls.spliced_cons (hN A X s₂ _ E ao eo rd₂ fun l s₃ us k x₃ hl el ru => Calls.spliced_nil ?_)
  have rd₃ := rd₂.ext x₃
  have sw : ∀ b ∈ l :: X, b ∈ X ∨ s₂.heap.get? b = none := fun b hb => by
    rcases List.mem_cons.mp hb with rfl | hb
    · exact .inr hl
    · exact .inl hb
  have x123 := (x₁.trans x₂).trans x₃
  refine hc A (l :: X) s₃ Q E [v₁, v₂] l k us a hm ao ⟨s₂.heap, rd₂.gl, x₃.kp, hl⟩ (fun b hb => ?_) (List.mem_cons_self ..) el ru ?_ fun v s' us' k' c e' ru' hr ha => ?_
  · rcases List.mem_cons.mp hb with rfl | hb
    · exact ⟨_, el⟩
    · exact rd₃.live b hb
  · exact .cons (a₁.swapX sw (r₁.kp x₂.kp)) (((r₁.kp x₂.kp).swapX sw).kp x₃.kp) (.cons (a₂.swapX sw r₂) ((r₂.swapX sw).kp x₃.kp) .nil)
  · have x : Ext s s' := ((x123.chg (N := [l])).trans c).ext fun b hb => by rw [List.mem_singleton.mp hb]; exact none_of_ext (x₁.trans x₂) hl
    exact q v s' x (hr.swapX fun b hb => .inl (List.mem_cons_of_mem _ hb)) (fun b e hb => ha b e (List.mem_cons_of_mem _ hb))
end Mine
end
section
set_option maxRecDepth 100000
set_option maxHeartbeats 4000000
namespace Mine
variable {w : World} {mg mb : Str → Option Value} {n : Nat} {env : Env} {ρ : PEnv}
noncomputable def chOf : AV → Nat | .str s => (s.cps.toList).headD 0 | _ => 0
theorem chOf_T (c : Nat) : chOf (T [c]) = c := rfl
noncomputable abbrev sg (c : Nat) : AV := T [c]
noncomputable def lowT (K : Nat → Int) (row : Tx) : Tx := row.dropLast.filter fun c => decide (K c ≤ K (row.getLastD 0))
noncomputable def highT (K : Nat → Int) (row : Tx) : Tx := row.dropLast.filter fun c => decide (K (row.getLastD 0) < K c)
noncomputable def treeT (K : Nat → Int) : Nat → Tx → List Tx
  | 0, _ => []
  | k + 1, row => if row.isEmpty then [] else [[40]] ++ treeT K k (lowT K row) ++ [[row.getLastD 0]] ++ treeT K k (highT K row) ++ [[41]]
noncomputable def sizesT (K : Nat → Int) : Nat → Tx → List Nat
  | 0, _ => []
  | k + 1, row => if row.isEmpty then [] else row.length :: (sizesT K k (lowT K row) ++ sizesT K k (highT K row))
theorem split_len (K : Nat → Int) (row : Tx) : (lowT K row).length + (highT K row).length = row.length - 1 := by
  unfold lowT highT
  generalize K (row.getLastD 0) = z
  have : ∀ l : Tx, (l.filter fun c => decide (K c ≤ z)).length + (l.filter fun c => decide (z < K c)).length = l.length := by
    intro l
    induction l with
    | nil => rfl
    | cons a l ih =>
      rw [List.filter_cons, List.filter_cons]
      by_cases h : K a ≤ z
      · have h2 : ¬ z < K a := by omega
        rw [if_pos (by simpa using h), if_neg (by simpa using h2)]; simp only [List.length_cons]; omega
      · have h2 : z < K a := by omega
        rw [if_neg (by simpa using h), if_pos (by simpa using h2)]; simp only [List.length_cons]; omega
  rw [this, List.length_dropLast]
theorem treeT_len (K : Nat → Int) : ∀ (k : Nat) (row : Tx), (treeT K k row).length ≤ 3 * row.length
  | 0, row => by simp [treeT]
  | k + 1, row => by
    unfold treeT
    split
    · simp
    · rename_i h
      have h1 := treeT_len K k (lowT K row)
      have h2 := treeT_len K k (highT K row)
      have h3 := split_len K row
      have h4 : 0 < row.length := by
        cases row with
        | nil => simp at h
        | cons _ _ => simp
      simp only [List.length_append, List.length_singleton]; omega
theorem sizesT_len (K : Nat → Int) : ∀ (k : Nat) (row : Tx), (sizesT K k row).length ≤ row.length
  | 0, row => by simp [sizesT]
  | k + 1, row => by
    unfold sizesT
    split
    · simp
    · rename_i h
      have h1 := sizesT_len K k (lowT K row)
      have h2 := sizesT_len K k (highT K row)
      have h3 := split_len K row
      have h4 : 0 < row.length := by
        cases row with
        | nil => simp at h
        | cons _ _ => simp
      simp only [List.length_append, List.length_cons]; omega
theorem join_signs (l : Tx) : joinT [] (l.map fun c => [c]) = l := by
  induction l with
  | nil => rfl
  | cons a l ih =>
    cases l with
    | nil => rfl
    | cons b l =>
      show [a] ++ [] ++ joinT [] ((b :: l).map fun c => [c]) = _
      rw [ih]; rfl
theorem slc_init (x : Tx) (h : x ≠ []) : slc x none (some (-1)) = x.dropLast := by
  unfold slc
  have h1 : cl x.length 0 none = 0 := rfl
  have h2 : cl x.length x.length (some (-1)) = x.length - 1 := by
    have : 0 < x.length := List.length_pos_iff.mpr h
    simp only [cl]; rw [if_pos (by decide)]; omega
  rw [h1, h2, List.drop_zero, Nat.sub_zero, List.dropLast_eq_take]
theorem last_at (x : Tx) (h : x ≠ []) : (seqIndex? (-1) x.length).bind (x[·]?) = some (x.getLastD 0) := by
  have h0 : 0 < x.length := List.length_pos_iff.mpr h
  have e : seqIndex? (-1) x.length = some (x.length - 1) := by simp [seqIndex?]; omega
  rw [e, List.getLastD_eq_getLast?, List.getLast?_eq_getElem?]
  show x[x.length - 1]? = _
  rw [List.getElem?_eq_getElem (by omega)]; rfl
theorem filter_sg (l : Tx) (q : Nat → Bool) : ((l.map sg).filter fun V => q (chOf V)).map id = ((l.filter q).map fun c => [c]).map T := by
  rw [List.map_id, List.filter_map, List.map_map]
  rfl
theorem join_filter (l : Tx) (q : Nat → Bool) : joinT [] ((l.filter q).map fun c => [c]) = l.filter q := join_signs _
theorem lowT_sub (K : Nat → Int) (row : Tx) : ∀ c ∈ lowT K row, c ∈ row := fun c h => List.dropLast_subset _ (List.mem_filter.mp h).1
theorem highT_sub (K : Nat → Int) (row : Tx) : ∀ c ∈ highT K row, c ∈ row := fun c h => List.dropLast_subset _ (List.mem_filter.mp h).1
theorem last_mem (x : Tx) (h : x ≠ []) : x.getLastD 0 ∈ x := by
  rw [List.getLastD_eq_getLast?, List.getLast?_eq_some_getLast h]
  exact List.getLast_mem h
theorem ok7 : DefOk (dAt 7) ["row", "keys", "sizes"] := ⟨by decide, fun pm code doc vs h => by match vs, h with | [a, b, c], _ => rfl, fun k => rfl, rfl, rfl⟩
theorem scT (l : List Tx) : AllSc (l.map T) := allScT l
theorem scI (l : List Nat) : AllSc (l.map fun k => AV.int (k : Nat)) := fun V h => by obtain ⟨k, _, rfl⟩ := List.mem_map.mp h; exact ⟨_, .int _ 0⟩
theorem AllSc.append {a b : List AV} (h : AllSc a) (g : AllSc b) : AllSc (a ++ b) := fun V hV => (List.mem_append.mp hV).elim (h V) (g V)
section
variable (K : Nat → Int) (L : List (Str × AV))
noncomputable abbrev iC (l : Tx) : List AV := l.map fun c => T [c]
/- the join of the signs that pass a test -/
theorem Ev.part {row : Tx} {q : Nat → Bool} {x : Str} {px p1 p2 : Pos} {it : PySem.Expr} {scope : Scope} {c : PySem.Expr} (hit : EvIt PW w mg mb n env ρ false it (iC row)) (hrl : row.length ≤ 4096) (o : ScOk scope env) (hx : scope.names.lookup x = some .local)
    (ht : ∀ C, ∀ d ∈ row, Tr PW w mg mb n (cEnv scope env C) ((x, ⟨T [d], none⟩) :: capρ scope env ρ) c (q d)) (hd : (x == ("__debug__" : Str)) = false) (hs : ∀ x, foldedSetIterable it env x = pure x := by intro _; rfl) :
    Ev PW w mg mb n env ρ (.ListComp (.Name x px) [⟨.Name x p1, it, [c], 0⟩] scope p2) (.list (((row.filter q).map fun c => [c]).map T)) := by
  rw [← filter_sg]
  refine Ev.comp (fun V => q (chOf V)) id hit o (by rw [List.length_map]; omega) hx (fun C V hV => ?_) (fun C V hV _ => ?_) hs
  · obtain ⟨d, hd', rfl⟩ := List.mem_map.mp hV
    exact ht C d hd'
  · exact Ev.var (by rw [List.lookup_cons]; simp) hd
end
end Mine
end
section
set_option maxRecDepth 100000
set_option maxHeartbeats 4000000
namespace Mine
variable {w : World} {mg mb : Str → Option Value} {n : Nat} {env : Env} {ρ : PEnv}
section
variable (K : Nat → Int) (L : List (Str × AV))
theorem sumC (l : Tx) (h : l.length ≤ 1000) : ((l.map fun c => [c]).map List.length).sum + (l.map fun c => [c]).length * ([] : Tx).length ≤ 1000000 := by
  have : ((l.map fun c => [c]).map List.length).sum = l.length := by
    rw [List.map_map]
    induction l with
    | nil => rfl
    | cons a l ih => rw [List.map_cons, List.sum_cons, ih (by simp at h; omega)]; simp; omega
  rw [this]; simp; omega
theorem spec7 (gv : GV mg mb) (m : Nat) : ∀ (k : Nat) (row : Tx) (Us : List AV), row.length ≤ k → row.length ≤ 1000 → AllSc Us → Us.length + row.length ≤ 1000 → (∀ c ∈ row, L.lookup (S [c]) = some (.int (K c))) →
    SpecM PW w mg mb (m + k + 1) "_law_tree" [T row, .dict L] Us (Us ++ (sizesT K k row).map fun k => AV.int (k : Nat)) (.list ((treeT K k row).map T)) := by
  intro k
  induction k with
  | zero =>
    intro row Us hk _ hU _ hL
    have : row = [] := List.length_eq_zero_iff.mp (by omega)
    subst this
    refine SpecM.intro (dAt_mem (k := 7) (by decide)) rfl ok7 rfl (x := "sizes") rfl (hU.append (scI _)) fun l pm code doc La a => ⟨_, Sx.stop (St.ifS (c := true) (Tr.of (Tr.cmp (EvO.var rfl) (Ev.cT S_e).toO OpC.eqT) rfl) (fun _ => Sx.stop (St.ret (Ev.list Evs.nil))) (fun h => by cases h)), ?_⟩
    show some _ = some _
    simp [sizesT]
  | succ k ih =>
    intro row Us hk hr hU hUl hL
    by_cases hrow : row = []
    · subst hrow
      refine SpecM.intro (dAt_mem (k := 7) (by decide)) rfl ok7 rfl (x := "sizes") rfl (hU.append (scI _)) fun l pm code doc La a => ⟨_, Sx.stop (St.ifS (c := true) (Tr.of (Tr.cmp (EvO.var rfl) (Ev.cT S_e).toO OpC.eqT) rfl) (fun _ => Sx.stop (St.ret (Ev.list Evs.nil))) (fun h => by cases h)), ?_⟩
      show some _ = some _
      simp [sizesT]
    · have h0 : 0 < row.length := List.length_pos_iff.mpr hrow
      have hsp := split_len K row
      obtain ⟨ad, hm⟩ := gv.fn (dAt 7) (dAt_mem (by decide))
      replace hm : mg "_law_tree" = some (.ref ad) := hm
      have hb : (row == ([] : Tx)) = false := by simpa using hrow
      have hUs1 : AllSc (Us ++ [AV.int (row.length : Nat)]) := hU.append fun V h => by rw [List.mem_singleton.mp h]; exact ⟨_, .int _ 0⟩
      have c1 := ih (lowT K row) (Us ++ [AV.int (row.length : Nat)]) (by omega) (by omega) hUs1 (by rw [List.length_append, List.length_singleton]; omega) (fun c h => hL c (lowT_sub K row c h))
      have hl1 := sizesT_len K k (lowT K row)
      have c2 := ih (highT K row) ((Us ++ [AV.int (row.length : Nat)]) ++ (sizesT K k (lowT K row)).map fun k => AV.int (k : Nat)) (by omega) (by omega) (hUs1.append (scI _)) (by simp only [List.length_append, List.length_singleton, List.length_map]; omega) (fun c h => hL c (highT_sub K row c h))
      have et : treeT K (k + 1) row = [[40]] ++ treeT K k (lowT K row) ++ [[row.getLastD 0]] ++ treeT K k (highT K row) ++ [[41]] := by
        conv => lhs; unfold treeT
        rw [if_neg (by simpa using hrow)]
      have es : sizesT K (k + 1) row = row.length :: (sizesT K k (lowT K row) ++ sizesT K k (highT K row)) := by
        conv => lhs; unfold sizesT
        rw [if_neg (by simpa using hrow)]
      have t1 := treeT_len K k (lowT K row)
      have t2 := treeT_len K k (highT K row)
      rw [et, es]
      have hlast := last_at row hrow
      have hLl : L.lookup (S [row.getLastD 0]) = some (.int (K (row.getLastD 0))) := hL _ (last_mem row hrow)
      have hdl : ∀ c ∈ row.dropLast, L.lookup (S [c]) = some (.int (K c)) := fun c h => hL c (List.dropLast_subset _ h)
      refine SpecM.intro (dAt_mem (k := 7) (by decide)) rfl ok7 rfl (x := "sizes") rfl (hU.append (scI _)) fun l pm code doc La a => ?_
      show ∃ ρ', Sx PW w mg mb (m + k + 1) (E0 7 pm code doc La a) [("row", ⟨T row, none⟩), ("keys", ⟨.dict L, none⟩), ("sizes", ⟨.list Us, some (some l)⟩)] (dAt 7).body ρ' _ ∧ _
      have itr : ∀ {ρ : PEnv} {e : PySem.Expr}, Ev PW w mg mb (m + k + 1) (E0 7 pm code doc La a) ρ e (T (slc row none (some (-1)))) → EvIt PW w mg mb (m + k + 1) (E0 7 pm code doc La a) ρ false e (iC row.dropLast) := fun h => by
        rw [slc_init row hrow] at h
        exact EvIt.str h.toO
      refine ⟨_, Sx.cons (St.ifS (c := false) (Tr.of (Tr.cmp (EvO.var rfl) (Ev.cT S_e).toO OpC.eqT) hb) (fun h => by cases h) (fun _ => Sx.nil))
        (Sx.cons (St.append rfl (Ev.len gv (EvO.var rfl) (CallB.lenT (by omega)) rfl) hU ⟨_, .int _ 0⟩ (by omega))
        (Sx.cons (St.assign (V := T (lowT K row)) (Ev.of (Ev.methS (Ev.cT S_e).toO (EvsO.cons (Ev.part (q := fun c => decide (K c ≤ K (row.getLastD 0))) (itr (Ev.sliceS (EvO.var rfl) EvP.none (EvP.some (Ev.un Ev.cint.toO OpU.neg).toO) (by omega))) (by simp; omega) ⟨rfl, rfl, rfl, rfl⟩ rfl
            (fun C d hd => Tr.cmp (Ev.itemD (EvO.var rfl) (Ev.var rfl).toO (hdl d hd)).toO (Ev.itemD (EvO.var rfl) (Ev.itemS (EvO.var rfl) (Ev.un Ev.cint.toO OpU.neg).toO hlast (by omega)).toO hLl).toO OpC.leI) rfl).toO EvsO.nil) F.slot_str_join rfl (CallB.joinT ?_)) ?_) (.inl rfl))
        (Sx.cons (St.assign (V := T (highT K row)) (Ev.of (Ev.methS (Ev.cT S_e).toO (EvsO.cons (Ev.part (q := fun c => decide (K (row.getLastD 0) < K c)) (itr (Ev.sliceS (EvO.var rfl) EvP.none (EvP.some (Ev.un Ev.cint.toO OpU.neg).toO) (by omega))) (by simp; omega) ⟨rfl, rfl, rfl, rfl⟩ rfl
            (fun C d hd => Tr.cmp (Ev.itemD (EvO.var rfl) (Ev.var rfl).toO (hdl d hd)).toO (Ev.itemD (EvO.var rfl) (Ev.itemS (EvO.var rfl) (Ev.un Ev.cint.toO OpU.neg).toO hlast (by omega)).toO hLl).toO OpC.gtI) rfl).toO EvsO.nil) F.slot_str_join rfl (CallB.joinT ?_)) ?_) (.inl rfl))
        (Sx.stop (St.retM (EvM.bin (EvM.bin (EvM.bin (EvM.bin (Ev.toM (Ev.list (Vs := [T [40]]) (Evs.cons (Ev.cT S_op) Evs.nil))) (EvM.call rfl hm rfl hUs1 (Ev.var rfl) (Ev.var rfl) c1) (OpB.addL ?_))
            (Ev.toM (Ev.list (Vs := [T [row.getLastD 0]]) (Evs.cons (Ev.itemS (EvO.var rfl) (Ev.un Ev.cint.toO OpU.neg).toO hlast (by omega)) Evs.nil))) (OpB.addL ?_)) (EvM.call rfl hm rfl (hUs1.append (scI _)) (Ev.var rfl) (Ev.var rfl) c2) (OpB.addL ?_)) (Ev.toM (Ev.list (Vs := [T [41]]) (Evs.cons (Ev.cT S_cl) Evs.nil))) ?_)))))), ?_⟩
      · exact sumC _ (show (lowT K row).length ≤ 1000 by omega)
      · rw [join_signs]; rfl
      · exact sumC _ (show (highT K row).length ≤ 1000 by omega)
      · rw [join_signs]; rfl
      · simp only [List.length_append, List.length_singleton, List.length_map]; omega
      · simp only [List.length_append, List.length_singleton, List.length_map]; omega
      · simp only [List.length_append, List.length_singleton, List.length_map]; omega
      · have e : ([T [40]] ++ List.map T (treeT K k (lowT K row)) ++ [T [List.getLastD row 0]] ++ List.map T (treeT K k (highT K row))) ++ [T [41]] = List.map T ([[40]] ++ treeT K k (lowT K row) ++ [[List.getLastD row 0]] ++ treeT K k (highT K row) ++ [[41]]) := by simp only [List.map_append]; rfl
        rw [← e]
        exact OpB.addL (by simp only [List.length_append, List.length_singleton, List.length_map]; omega)
      · show some _ = some _
        have e : (Us ++ [AV.int (row.length : Nat)] ++ List.map (fun k => AV.int (k : Nat)) (sizesT K k (lowT K row)) ++ List.map (fun k => AV.int (k : Nat)) (sizesT K k (highT K row))) = Us ++ List.map (fun k => AV.int (k : Nat)) (row.length :: (sizesT K k (lowT K row) ++ sizesT K k (highT K row))) := by simp
        rw [e]
end
end Mine
end
section
set_option maxRecDepth 100000
set_option maxHeartbeats 4000000
namespace Mine
variable {w : World} {mg mb : Str → Option Value} {n : Nat} {env : Env} {ρ : PEnv}
/- rows -/
noncomputable abbrev Tst3 := Nat → Nat → Nat → Bool
noncomputable def partT (Q : Tst3) (row : Tx) (j : Nat) : Tx := (row.take j ++ row.drop (j + 2)).filter fun c => Q (row.getD j 0) (row.getD (j + 1) 0) c
noncomputable def otherT (row : Tx) (j : Nat) : Tx := row.take j ++ [row.getD (j + 1) 0] ++ [row.getD j 0] ++ row.drop (j + 2)
noncomputable def wantT (row : Tx) (j c : Nat) : Tx := row.take (j + 2) ++ dots ++ [c] ++ dots
noncomputable def stepT (Q : Tst3) (row : Tx) (rows : List Tx) (j : Nat) : List Tx :=
  if ((partT Q row j).map fun c => emT (wantT row j c) row).contains true then
    if !(rows.map fun known => emT (otherT row j) known).contains true then rows ++ [otherT row j] else rows
  else rows
noncomputable def turnT (Q : Tst3) (rows : List Tx) (row : Tx) : List Tx := (List.range (row.length - 1)).foldl (stepT Q row) rows
noncomputable def rowsT (Q : Tst3) : Nat → Nat → List Tx → Option (List Tx)
  | 0, i, rows => if i < rows.length then none else some rows
  | f + 1, i, rows => if i < rows.length then rowsT Q f (i + 1) (turnT Q rows (rows.getD i [])) else some rows
noncomputable def rowsAt (Q : Tst3) (first : Tx) : Nat → List Tx
  | 0 => [first]
  | i + 1 => turnT Q (rowsAt Q first i) ((rowsAt Q first i).getD i [])
theorem rowsT_at (Q : Tst3) (first : Tx) (R : List Tx) : ∀ (f i : Nat), rowsT Q f i (rowsAt Q first i) = some R → ∃ N, i ≤ N ∧ N ≤ i + f ∧ (∀ j, i ≤ j → j < N → j < (rowsAt Q first j).length) ∧ ¬ N < (rowsAt Q first N).length ∧ rowsAt Q first N = R := by
  intro f
  induction f with
  | zero =>
    intro i h
    unfold rowsT at h
    split at h
    · cases h
    · rename_i hc
      exact ⟨i, Nat.le_refl _, Nat.le_refl _, fun j h1 h2 => by omega, hc, Option.some.inj h⟩
  | succ f ih =>
    intro i h
    unfold rowsT at h
    split at h
    · rename_i hc
      obtain ⟨N, h1, h2, h3, h4, h5⟩ := ih (i + 1) h
      refine ⟨N, by omega, by omega, fun j h6 h7 => ?_, h4, h5⟩
      rcases Nat.lt_or_eq_of_le h6 with h8 | rfl
      · exact h3 j h8 h7
      · exact hc
    · rename_i hc
      exact ⟨i, Nat.le_refl _, by omega, fun j h1 h2 => by omega, hc, Option.some.inj h⟩
/- rows keep their length and signs -/
noncomputable def RowOk (first row : Tx) : Prop := row.length = first.length ∧ ∀ c ∈ row, c ∈ first
theorem getD_mem {l : Tx} {j : Nat} (h : j < l.length) : l.getD j 0 ∈ l := by
  rw [List.getD_eq_getElem?_getD, List.getElem?_eq_getElem h]; exact List.getElem_mem h
theorem otherT_ok {first row : Tx} {j : Nat} (h : RowOk first row) (hj : j + 1 < row.length) : RowOk first (otherT row j) := by
  unfold otherT
  refine ⟨?_, fun c hc => ?_⟩
  · rw [← h.1]
    simp only [List.length_append, List.length_take, List.length_drop, List.length_singleton]; omega
  · simp only [List.mem_append, List.mem_singleton] at hc
    rcases hc with ((hc | hc) | hc) | hc
    · exact h.2 c (List.mem_of_mem_take hc)
    · rw [hc]; exact h.2 _ (getD_mem hj)
    · rw [hc]; exact h.2 _ (getD_mem (by omega))
    · exact h.2 c (List.mem_of_mem_drop hc)
theorem stepT_ok (Q : Tst3) {first row : Tx} {rows : List Tx} {j : Nat} (h : ∀ r ∈ rows, RowOk first r) (hr : RowOk first row) (hj : j + 1 < row.length) : (∀ r ∈ stepT Q row rows j, RowOk first r) ∧ (stepT Q row rows j).length ≤ rows.length + 1 := by
  unfold stepT
  split
  · split
    · refine ⟨fun r hm => ?_, by simp⟩
      rcases List.mem_append.mp hm with hm | hm
      · exact h r hm
      · rw [List.mem_singleton.mp hm]; exact otherT_ok hr hj
    · exact ⟨h, by omega⟩
  · exact ⟨h, by omega⟩
theorem foldT_ok (Q : Tst3) {first row : Tx} (hr : RowOk first row) : ∀ (l : List Nat) (rows : List Tx), (∀ j ∈ l, j + 1 < row.length) → (∀ r ∈ rows, RowOk first r) → (∀ r ∈ l.foldl (stepT Q row) rows, RowOk first r) ∧ (l.foldl (stepT Q row) rows).length ≤ rows.length + l.length
  | [], rows, _, h => ⟨h, by simp⟩
  | j :: l, rows, hl, h => by
    obtain ⟨h1, h2⟩ := stepT_ok Q h hr (hl j (List.mem_cons_self ..))
    obtain ⟨h3, h4⟩ := foldT_ok Q hr l _ (fun k hk => hl k (List.mem_cons_of_mem _ hk)) h1
    refine ⟨h3, ?_⟩
    rw [List.foldl_cons, List.length_cons]; omega
theorem rowsAt_ok (Q : Tst3) (first : Tx) : ∀ i, (∀ j, j < i → j < (rowsAt Q first j).length) → (∀ r ∈ rowsAt Q first i, RowOk first r) ∧ (rowsAt Q first i).length ≤ 1 + i * first.length
  | 0, _ => ⟨fun r h => by rw [List.mem_singleton.mp h]; exact ⟨rfl, fun _ h => h⟩, by simp [rowsAt]⟩
  | i + 1, hi => by
    obtain ⟨h1, h2⟩ := rowsAt_ok Q first i fun j hj => hi j (by omega)
    have hlt := hi i (Nat.lt_succ_self i)
    have hrow : RowOk first ((rowsAt Q first i).getD i []) := by
      rw [List.getD_eq_getElem?_getD, List.getElem?_eq_getElem hlt]; exact h1 _ (List.getElem_mem hlt)
    obtain ⟨h3, h4⟩ := foldT_ok Q hrow (List.range (((rowsAt Q first i).getD i []).length - 1)) (rowsAt Q first i) (fun j hj => by have := List.mem_range.mp hj; omega) h1
    refine ⟨h3, ?_⟩
    have h5 : (turnT Q (rowsAt Q first i) ((rowsAt Q first i).getD i [])).length ≤ (rowsAt Q first i).length + (List.range (((rowsAt Q first i).getD i []).length - 1)).length := h4
    rw [List.length_range, hrow.1] at h5
    have h6 : (rowsAt Q first (i + 1)).length = (turnT Q (rowsAt Q first i) ((rowsAt Q first i).getD i [])).length := rfl
    rw [Nat.add_mul, Nat.one_mul]; omega
theorem slc_take (x : Tx) (k : Nat) : slc x none (some (k : Int)) = x.take k := by
  unfold slc
  have h1 : cl x.length 0 none = 0 := rfl
  have h2 : cl x.length x.length (some (k : Int)) = min k x.length := by simp only [cl]; rw [if_neg (by omega)]; omega
  rw [h1, h2, List.drop_zero, Nat.sub_zero]
  by_cases h : k ≤ x.length
  · rw [Nat.min_eq_left h]
  · rw [Nat.min_eq_right (by omega), List.take_length, List.take_of_length_le (by omega)]
theorem slc_drop (x : Tx) (k : Nat) : slc x (some (k : Int)) none = x.drop k := by
  unfold slc
  have h1 : cl x.length x.length none = x.length := rfl
  have h2 : cl x.length 0 (some (k : Int)) = min k x.length := by simp only [cl]; rw [if_neg (by omega)]; omega
  rw [h1, h2]
  by_cases h : k ≤ x.length
  · rw [Nat.min_eq_left h, List.take_of_length_le (by rw [List.length_drop]; omega)]
  · rw [Nat.min_eq_right (by omega), List.drop_length, List.drop_of_length_le (by omega)]; simp
theorem at_idx (x : Tx) {k : Nat} (h : k < x.length) : (seqIndex? (k : Int) x.length).bind (x[·]?) = some (x.getD k 0) := by
  have e : seqIndex? (k : Int) x.length = some k := by simp [seqIndex?]; omega
  rw [e]
  show x[k]? = _
  rw [List.getD_eq_getElem?_getD, List.getElem?_eq_getElem h]; rfl
noncomputable def txOf : AV → Tx | .str s => s.cps.toList | _ => []
theorem txOf_T (x : Tx) : txOf (T x) = x := rfl
end Mine
end
section
set_option maxRecDepth 100000
set_option maxHeartbeats 4000000
namespace Mine
variable {w : World} {mg mb : Str → Option Value} {n : Nat} {env : Env} {ρ : PEnv}
theorem ok8 : DefOk (dAt 8) ["first", "hues"] := ⟨by decide, fun pm code doc vs h => by match vs, h with | [a, b], _ => rfl, fun k => rfl, rfl, rfl⟩
theorem S_d3 : (Str.ofString "..." : Str) = S dots := S_dots
theorem St.tupP2 {x y : Str} {px py : Pos} {k : Nat} {tpos pos : Pos} {e : PySem.Expr} {V W : AV} (he : Ev PW w mg mb n env ρ e (.tup [V, W])) (hx : KOk env x) (hy : KOk env y)
    (hs : swapsWithSole [.Tuple [.Name x px, .Name y py] k tpos] e pos.line env = pure false := by rfl) (hw : swappedStores [.Tuple [.Name x px, .Name y py] k tpos] e env = pure none := by rfl) :
    St PW w mg mb n env ρ (.Assign [.Tuple [.Name x px, .Name y py] k tpos] e pos) ((y, ⟨W, none⟩) :: (x, ⟨V, none⟩) :: ρ) none :=
  St.tupP (l := [(PySem.assign (.Name x px) env, x, V), (PySem.assign (.Name y py) env, y, W)]) he (fun p hp => by
    simp only [List.mem_cons, List.not_mem_nil, or_false] at hp
    rcases hp with rfl | rfl
    · exact ⟨hx, Tg.assign⟩
    · exact ⟨hy, Tg.assign⟩) rfl hs hw
theorem St.tupP3 {x y z : Str} {px py pz : Pos} {k : Nat} {tpos pos : Pos} {e : PySem.Expr} {V W U : AV} (he : Ev PW w mg mb n env ρ e (.tup [V, W, U])) (hx : KOk env x) (hy : KOk env y) (hz : KOk env z)
    (hs : swapsWithSole [.Tuple [.Name x px, .Name y py, .Name z pz] k tpos] e pos.line env = pure false := by rfl) (hw : swappedStores [.Tuple [.Name x px, .Name y py, .Name z pz] k tpos] e env = pure none := by rfl) :
    St PW w mg mb n env ρ (.Assign [.Tuple [.Name x px, .Name y py, .Name z pz] k tpos] e pos) ((z, ⟨U, none⟩) :: (y, ⟨W, none⟩) :: (x, ⟨V, none⟩) :: ρ) none :=
  St.tupP (l := [(PySem.assign (.Name x px) env, x, V), (PySem.assign (.Name y py) env, y, W), (PySem.assign (.Name z pz) env, z, U)]) he (fun p hp => by
    simp only [List.mem_cons, List.not_mem_nil, or_false] at hp
    rcases hp with rfl | rfl | rfl
    · exact ⟨hx, Tg.assign⟩
    · exact ⟨hy, Tg.assign⟩
    · exact ⟨hz, Tg.assign⟩) rfl hs hw
/- y = [x for x in row if ..] -/
theorem St.partC {row : Tx} {q : Nat → Bool} {x y : Str} {px p1 p2 py spos : Pos} {it : PySem.Expr} {scope : Scope} {c : PySem.Expr} (hit : EvIt PW w mg mb n env ρ false it (iC row)) (hrl : row.length ≤ 4096) (o : ScOk scope env) (hx : scope.names.lookup x = some .local)
    (ht : ∀ C, ∀ d ∈ row, Tr PW w mg mb n (cEnv scope env C) ((x, ⟨T [d], none⟩) :: capρ scope env ρ) c (q d)) (hk : KOk env y) (hd : (x == ("__debug__" : Str)) = false)
    (hsw : swapsWith (.ListComp (.Name x px) [⟨.Name x p1, it, [c], 0⟩] scope p2) (some (.Name y py)) spos.line env = pure true := by rfl) (hs : ∀ x, foldedSetIterable it env x = pure x := by intro _; rfl) :
    St PW w mg mb n env ρ (.Assign [.Name y py] (.ListComp (.Name x px) [⟨.Name x p1, it, [c], 0⟩] scope p2) spos) ((y, ⟨.list (iC (row.filter q)), none⟩) :: ρ) none := by
  have e : ((iC row).filter fun V => q (chOf V)).map id = iC (row.filter q) := by rw [List.map_id, List.filter_map]; rfl
  rw [← e]
  refine St.assignC (fun V => q (chOf V)) id hit o (by rw [List.length_map]; omega) hx (fun C V hV => ?_) (fun C V hV _ => ?_) hk hsw hs
  · obtain ⟨d, hd', rfl⟩ := List.mem_map.mp hV
    exact ht C d hd'
  · exact Ev.var (by rw [List.lookup_cons]; simp) hd
section
variable (H : Nat → UInt64) (L : List (Str × AV)) (pm code doc : Value) (Lo ad : Addr)
noncomputable def leF (a b : UInt64) : Bool := Float64.cmp a b == some Ordering.lt || Float64.cmp a b == some Ordering.eq
noncomputable def ltF (a b : UInt64) : Bool := Float64.cmp a b == some Ordering.lt
noncomputable def QH (H : Nat → UInt64) : Tst3 := fun a b c => leF (pick2 isLt (H a) (H b)) (H c) && ltF (H c) (pick2 isGt (H a) (H b))
noncomputable abbrev ρr (L : List (Str × AV)) (rows : List Tx) (k : Int) (row : Tx) : PEnv := [("hues", ⟨.dict L, none⟩), ("rows", ⟨.list (rows.map T), some none⟩), ("k", ⟨.int k, none⟩), ("row", ⟨T row, none⟩)]
noncomputable abbrev body8 : List Stmt := forBody (nth (forBody (nth (dAt 8).body 1)) 1)
noncomputable abbrev E8 : Env := E0 8 pm code doc Lo ad
theorem allI {i k : Nat} {V : AV} (h : ((rangeL 0 (k : Int)).map AV.int)[i]? = some V) : i < k ∧ V = .int (i : Nat) := by
  simp only [rangeL, List.map_map, List.getElem?_map] at h
  by_cases hi : i < k
  · refine ⟨hi, ?_⟩
    have e : (List.range ((k : Int) - 0).toNat)[i]? = some i := by simp [hi]
    rw [e] at h
    simp at h; rw [← h]
  · have e : (List.range ((k : Int) - 0).toNat)[i]? = none := by simp; omega
    rw [e] at h; cases h
theorem round8 (gv : GV mg mb) {first row : Tx} {rows : List Tx} {k : Int} {j : Nat} (hf : first.length ≤ 100) (hL : ∀ c ∈ first, L.lookup (S [c]) = some (.flt (H c))) (hrow : RowOk first row) (hrows : ∀ r ∈ rows, RowOk first r) (hlen : rows.length ≤ 1000000) (hj : j + 1 < row.length) :
    Sx PW w mg mb (n + 1) (E8 pm code doc Lo ad) (("i", ⟨.int (j : Nat), none⟩) :: ρr L rows k row) body8 (ρr L (stepT (QH H) row rows j) k row) none := by
  have hrl : row.length ≤ 100 := by rw [hrow.1]; exact hf
  have ha : L.lookup (S [row.getD j 0]) = some (.flt (H (row.getD j 0))) := hL _ (hrow.2 _ (getD_mem (by omega)))
  have hb : L.lookup (S [row.getD (j + 1) 0]) = some (.flt (H (row.getD (j + 1) 0))) := hL _ (hrow.2 _ (getD_mem hj))
  have hi1 := at_idx row (k := j) (by omega)
  have hi2 := at_idx row (k := j + 1) hj
  have e1 : ((j : Int) + 1) = ((j + 1 : Nat) : Int) := by omega
  have e2 : ((j : Int) + 2) = ((j + 2 : Nat) : Int) := by omega
  have s1 := slc_take row j
  have s2 : slc row (some ((j : Int) + 2)) none = row.drop (j + 2) := by rw [e2]; exact slc_drop row (j + 2)
  have s3 : slc row none (some ((j : Int) + 2)) = row.take (j + 2) := by rw [e2]; exact slc_take row (j + 2)
  have hi2' : (seqIndex? ((j : Int) + 1) row.length).bind (row[·]?) = some (row.getD (j + 1) 0) := by rw [e1]; exact hi2
  have t1 : (row.take j).length ≤ 100 := by rw [List.length_take]; omega
  have t2 : (row.drop (j + 2)).length ≤ 100 := by rw [List.length_drop]; omega
  have t3 : (row.take (j + 2)).length ≤ 100 := by rw [List.length_take]; omega
  have d3 : dots.length = 3 := rfl
  have em1 : ∀ c, (wantT row j c).length ≤ 4096 := fun c => by unfold wantT; simp only [List.length_append, List.length_singleton, d3]; omega
  have ho : (otherT row j).length ≤ 100 := by rw [(otherT_ok hrow hj).1]; exact hf
  have hOther : T (slc row none (some (j : Int)) ++ [row.getD (j + 1) 0] ++ [row.getD j 0] ++ slc row (some ((j : Int) + 2)) none) = T (otherT row j) := by rw [s1, s2]; rfl
  have hWant : ∀ c, T (slc row none (some ((j : Int) + 2)) ++ dots ++ [c] ++ dots) = T (wantT row j c) := fun c => by rw [s3]; rfl
  have sl1 : (slc row none (some ((j : Int) + 2))).length ≤ 100 := by rw [s3]; exact t3
  have sl2 : (slc row none (some (j : Int))).length ≤ 100 := by rw [s1]; exact t1
  have sl3 : (slc row (some ((j : Int) + 2)) none).length ≤ 100 := by rw [s2]; exact t2
  have hP : (row.take j ++ row.drop (j + 2)).length ≤ 4096 := by rw [List.length_append]; omega
  have hPart : T (slc row none (some (j : Int)) ++ slc row (some ((j : Int) + 2)) none) = T (row.take j ++ row.drop (j + 2)) := by rw [s1, s2]
  have memP : ∀ c ∈ row.take j ++ row.drop (j + 2), L.lookup (S [c]) = some (.flt (H c)) := fun c hc => hL _ (hrow.2 _ ((List.mem_append.mp hc).elim List.mem_of_mem_take List.mem_of_mem_drop))
  refine Sx.cons (St.assign (V := .list [.flt (H (row.getD j 0)), .flt (H (row.getD (j + 1) 0))]) (Ev.list (Evs.cons (Ev.itemD (EvO.var rfl) (Ev.itemS (EvO.var rfl) (EvO.var rfl) hi1 (by omega)).toO ha) (Evs.cons (Ev.itemD (EvO.var rfl) (Ev.itemS (EvO.var rfl) (Ev.bin (EvO.var rfl) Ev.cint.toO OpB.addI).toO hi2' (by omega)).toO hb) Evs.nil))) (.inl rfl)) ?_
  refine Sx.cons (St.tupP2 (Ev.tup (Evs.cons (Ev.min gv (EvsO.cons (EvO.var rfl) EvsO.nil) CallB.min2 rfl) (Evs.cons (Ev.max gv (EvsO.cons (EvO.var rfl) EvsO.nil) CallB.max2 rfl) Evs.nil))) (.inr ⟨rfl, rfl⟩) (.inr ⟨rfl, rfl⟩)) ?_
  refine Sx.cons (St.partC (q := fun c => QH H (row.getD j 0) (row.getD (j + 1) 0) c) (EvIt.str (Ev.of (Ev.bin (Ev.sliceS (EvO.var rfl) EvP.none (EvP.some (EvO.var rfl)) (by omega)).toO (Ev.sliceS (EvO.var rfl) (EvP.some (Ev.bin (EvO.var rfl) Ev.cint.toO OpB.addI).toO) EvP.none (by omega)).toO (OpB.addT (by omega))) hPart).toO) hP ⟨rfl, rfl, rfl, rfl⟩ rfl
    (fun C d hd => Tr.chain2 (EvO.var rfl) (Ev.itemD (EvO.var rfl) (EvO.var rfl) (memP d hd)).toO OpC.leF (EvO.var rfl) OpC.ltF) (.inl rfl) rfl) ?_
  have hpl : (partT (QH H) row j).length ≤ 4096 := Nat.le_trans (List.length_filter_le _ _) hP
  have fin1 : ∀ rs : List Tx, rs = stepT (QH H) row rows j → Sub (ρr L (stepT (QH H) row rows j) k row) (ρr L rs k row) := fun rs e => by
    rw [e]
    repeat (first | exact Sub.nil | refine Sub.cons rfl ?_)
  have hIn : List.map (fun V => AV.bool (emT (wantT row j (chOf V)) row)) (iC (partT (QH H) row j)) = ((partT (QH H) row j).map fun c => emT (wantT row j c) row).map AV.bool := by rw [List.map_map, List.map_map]; rfl
  have hKn : List.map (fun V => AV.bool (emT (otherT row j) (txOf V))) (rows.map T) = (rows.map fun known => emT (otherT row j) known).map AV.bool := by rw [List.map_map, List.map_map]; rfl
  have hT : Tr PW w mg mb (n + 1) (E8 pm code doc Lo ad) (("parting", ⟨.list (iC (partT (QH H) row j)), none⟩) :: ("high", ⟨.flt (pick2 isGt (H (row.getD j 0)) (H (row.getD (j + 1) 0))), none⟩) :: ("low", ⟨.flt (pick2 isLt (H (row.getD j 0)) (H (row.getD (j + 1) 0))), none⟩) :: ("pair", ⟨.list [.flt (H (row.getD j 0)), .flt (H (row.getD (j + 1) 0))], none⟩) :: ("i", ⟨.int (j : Nat), none⟩) :: ρr L rows k row) (forIter (nth body8 3)) (((partT (QH H) row j).map fun c => emT (wantT row j c) row).contains true) := by
    refine Tr.cmp Ev.cbool.toO (Ev.of (Ev.comp0 (Vs := iC (partT (QH H) row j)) (fun V => AV.bool (emT (wantT row j (chOf V)) row)) (EvIt.list (EvO.var rfl)) ⟨rfl, rfl, rfl, rfl⟩ (by rw [List.length_map]; omega) rfl (fun C V hV => ?_)) (congrArg AV.list hIn)).toO OpC.inB
    obtain ⟨d, hd, rfl⟩ := List.mem_map.mp hV
    exact Ev.callD gv 0 (by decide) rfl (Evs.cons (Ev.of (Ev.bin (Ev.bin (Ev.bin (Ev.sliceS (EvO.var rfl) EvP.none (EvP.some (Ev.bin (EvO.var rfl) Ev.cint.toO OpB.addI).toO) (by omega)).toO (Ev.cT S_d3).toO (OpB.addT (by rw [d3]; omega))).toO (EvO.var (V := T [d]) rfl) (OpB.addT (by simp only [List.length_append, d3, List.length_singleton]; omega))).toO (Ev.cT S_d3).toO (OpB.addT (by simp only [List.length_append, d3, List.length_singleton]; omega))) (hWant d)) (Evs.cons (Ev.var rfl) Evs.nil)) (spec0 gv (em1 d) (by omega)) rfl
  cases c1 : ((partT (QH H) row j).map fun c => emT (wantT row j c) row).contains true with
  | false =>
    have e : rows = stepT (QH H) row rows j := by unfold stepT; rw [c1]; rfl
    refine Sx.post (Sx.cons (St.ifS (c := false) (Tr.of hT c1) (fun h => by cases h) (fun _ => Sx.nil)) Sx.nil) ?_
    conv => lhs; rw [← e]
    repeat (first | exact Sub.nil | refine Sub.cons rfl ?_)
  | true =>
    have hAsg : ∀ {ρ' : PEnv} {ss : List Stmt}, Sx PW w mg mb (n + 1) (E8 pm code doc Lo ad) (("other", ⟨T (otherT row j), none⟩) :: ("parting", ⟨.list (iC (partT (QH H) row j)), none⟩) :: ("high", ⟨.flt (pick2 isGt (H (row.getD j 0)) (H (row.getD (j + 1) 0))), none⟩) :: ("low", ⟨.flt (pick2 isLt (H (row.getD j 0)) (H (row.getD (j + 1) 0))), none⟩) :: ("pair", ⟨.list [.flt (H (row.getD j 0)), .flt (H (row.getD (j + 1) 0))], none⟩) :: ("i", ⟨.int (j : Nat), none⟩) :: ρr L rows k row) ((forBody (nth body8 3)).drop 1) ρ' none →
        Sx PW w mg mb (n + 1) (E8 pm code doc Lo ad) (("parting", ⟨.list (iC (partT (QH H) row j)), none⟩) :: ("high", ⟨.flt (pick2 isGt (H (row.getD j 0)) (H (row.getD (j + 1) 0))), none⟩) :: ("low", ⟨.flt (pick2 isLt (H (row.getD j 0)) (H (row.getD (j + 1) 0))), none⟩) :: ("pair", ⟨.list [.flt (H (row.getD j 0)), .flt (H (row.getD (j + 1) 0))], none⟩) :: ("i", ⟨.int (j : Nat), none⟩) :: ρr L rows k row) (forBody (nth body8 3)) ρ' none := fun {ρ' ss} h =>
      Sx.cons (St.assign (V := T (otherT row j)) (Ev.of (Ev.bin (Ev.bin (Ev.bin (Ev.sliceS (EvO.var rfl) EvP.none (EvP.some (EvO.var rfl)) (by omega)).toO (Ev.itemS (EvO.var rfl) (Ev.bin (EvO.var rfl) Ev.cint.toO OpB.addI).toO hi2' (by omega)).toO (OpB.addT (by simp only [List.length_singleton]; omega))).toO (Ev.itemS (EvO.var rfl) (EvO.var rfl) hi1 (by omega)).toO (OpB.addT (by simp only [List.length_append, List.length_singleton]; omega))).toO
        (Ev.sliceS (EvO.var rfl) (EvP.some (Ev.bin (EvO.var rfl) Ev.cint.toO OpB.addI).toO) EvP.none (by omega)).toO (OpB.addT (by simp only [List.length_append, List.length_singleton]; omega))) hOther) (.inr ⟨rfl, rfl⟩)) h
    have hK : Tr PW w mg mb (n + 1) (E8 pm code doc Lo ad) (("other", ⟨T (otherT row j), none⟩) :: ("parting", ⟨.list (iC (partT (QH H) row j)), none⟩) :: ("high", ⟨.flt (pick2 isGt (H (row.getD j 0)) (H (row.getD (j + 1) 0))), none⟩) :: ("low", ⟨.flt (pick2 isLt (H (row.getD j 0)) (H (row.getD (j + 1) 0))), none⟩) :: ("pair", ⟨.list [.flt (H (row.getD j 0)), .flt (H (row.getD (j + 1) 0))], none⟩) :: ("i", ⟨.int (j : Nat), none⟩) :: ρr L rows k row) (forIter (nth (forBody (nth body8 3)) 1)) (!(rows.map fun known => emT (otherT row j) known).contains true) := by
      refine Tr.cmp Ev.cbool.toO (Ev.of (Ev.comp0 (Vs := rows.map T) (fun V => AV.bool (emT (otherT row j) (txOf V))) (EvIt.list (EvO.var rfl)) ⟨rfl, rfl, rfl, rfl⟩ (by rw [List.length_map]; omega) rfl (fun C V hV => ?_)) (congrArg AV.list hKn)).toO OpC.notInB
      obtain ⟨d, hd, rfl⟩ := List.mem_map.mp hV
      exact Ev.callD gv 0 (by decide) rfl (Evs.cons (Ev.var rfl) (Evs.cons (Ev.var (V := T d) rfl) Evs.nil)) (spec0 gv (by omega) (by rw [(hrows d hd).1]; omega)) rfl
    cases c2 : !(rows.map fun known => emT (otherT row j) known).contains true with
    | false =>
      have e : rows = stepT (QH H) row rows j := by unfold stepT; rw [c1, c2]; rfl
      refine Sx.post (Sx.cons (St.ifS (c := true) (Tr.of hT c1) (fun _ => hAsg (ss := []) (Sx.cons (St.ifS (c := false) (Tr.of hK c2) (fun h => by cases h) (fun _ => Sx.nil)) Sx.nil)) (fun h => by cases h)) Sx.nil) ?_
      conv => lhs; rw [← e]
      repeat (first | exact Sub.nil | refine Sub.cons rfl ?_)
    | true =>
      have e : rows ++ [otherT row j] = stepT (QH H) row rows j := by unfold stepT; rw [c1, c2]; rfl
      refine Sx.post (Sx.cons (St.ifS (c := true) (Tr.of hT c1) (fun _ => hAsg (ss := []) (Sx.cons (St.ifS (c := true) (Tr.of hK c2) (fun _ => Sx.cons (St.append rfl (Ev.var rfl) (allScT _) ⟨_, .str _ 0⟩ (by rw [List.length_map]; omega)) Sx.nil) (fun h => by cases h)) Sx.nil)) (fun h => by cases h)) Sx.nil) ?_
      conv => lhs; rw [← e]
      refine Sub.cons rfl (Sub.cons ?_ (Sub.cons rfl (Sub.cons rfl Sub.nil)))
      show some _ = some _
      rw [List.map_append]; rfl
end
end Mine
end
section
set_option maxRecDepth 100000
set_option maxHeartbeats 4000000
namespace Mine
variable {w : World} {mg mb : Str → Option Value} {n : Nat} {env : Env} {ρ : PEnv}
section
variable (H : Nat → UInt64) (L : List (Str × AV)) (pm code doc : Value) (Lo ad : Addr)
theorem take_range (k i : Nat) (h : i < k) : (List.range k).take (i + 1) = (List.range k).take i ++ [i] := by
  rw [List.take_add_one]; simp [h]
theorem EvIt.lenRange (gv : GV mg mb) {d : Bool} {e : PySem.Expr} {hi : Nat} {p pos : Pos} (he : EvO PW w mg mb n env ρ e (.int (hi : Nat))) (hh : hi < 1000000) (hk : env.kindOf "range" = some .globalImplicit) (hs : starEach [e] env = [(false, eval e env)] := by rfl) :
    EvIt PW w mg mb n env ρ d (.Call (.Name "range" p) [e] [] pos) ((rangeL 0 (hi : Nat)).map AV.int) :=
  EvIt.range1 he hk (gv.free _ (.inr (.inl rfl))) gv.range (by omega) (by omega) rfl hs
theorem loop8 (gv : GV mg mb) {first row : Tx} {rows : List Tx} {k : Int} (hf : first.length ≤ 100) (hL : ∀ c ∈ first, L.lookup (S [c]) = some (.flt (H c))) (hrow : RowOk first row) (h1 : 1 ≤ first.length) (hrows : ∀ r ∈ rows, RowOk first r) (hlen : rows.length ≤ 900000) :
    St PW w mg mb (n + 1) (E8 pm code doc Lo ad) (ρr L rows k row) (nth (forBody (nth (dAt 8).body 1)) 1) (ρr L (turnT (QH H) rows row) k row) none := by
  have hl1 : 1 ≤ row.length := by rw [hrow.1]; exact h1
  have hl2 : row.length ≤ 100 := by rw [hrow.1]; exact hf
  let at' : Nat → List Tx := fun i => ((List.range (row.length - 1)).take i).foldl (stepT (QH H) row) rows
  have hat : ∀ i, i < row.length - 1 → at' (i + 1) = stepT (QH H) row (at' i) i := fun i hi => by
    show List.foldl _ _ _ = _
    rw [take_range _ _ hi, List.foldl_append]; rfl
  have hok : ∀ i, i ≤ row.length - 1 → (∀ r ∈ at' i, RowOk first r) ∧ (at' i).length ≤ 1000000 := fun i hi => by
    obtain ⟨a, b⟩ := foldT_ok (QH H) hrow ((List.range (row.length - 1)).take i) rows (fun j hj => by have := List.mem_range.mp (List.mem_of_mem_take hj); omega) hrows
    refine ⟨a, ?_⟩
    have : ((List.range (row.length - 1)).take i).length ≤ 100 := by rw [List.length_take, List.length_range]; omega
    have b' : (at' i).length ≤ rows.length + ((List.range (row.length - 1)).take i).length := b
    omega
  have ei : ((row.length : Int) - 1) = ((row.length - 1 : Nat) : Int) := by omega
  have hlen2 : ((rangeL 0 ((row.length - 1 : Nat) : Int)).map AV.int).length = row.length - 1 := by simp [rangeL]
  refine St.forC (x := "i") (Vs := (rangeL 0 ((row.length - 1 : Nat) : Int)).map AV.int) (fun i => ρr L (at' i) k row) (row.length - 1) (by rw [hlen2]; exact Nat.le_refl _)
    (EvIt.lenRange gv (EvO.of (Ev.bin (Ev.len gv (EvO.var rfl) (CallB.lenT (by omega)) rfl).toO Ev.cint.toO OpB.subI).toO (by rw [ei])) (by omega) rfl) ?_ (.inr ⟨rfl, rfl⟩) (fun i V hi hV => ?_) (.inl ⟨hlen2.symm, ?_, rfl⟩)
  · show Sub (ρr L rows k row) _
    repeat (first | exact Sub.nil | refine Sub.cons rfl ?_)
  · obtain ⟨_, rfl⟩ := allI hV
    rw [hat i hi]
    obtain ⟨a, b⟩ := hok i (Nat.le_of_lt hi)
    exact round8 H L pm code doc Lo ad gv hf hL hrow a b (by omega)
  · show _ = ρr L (List.foldl _ _ _) k row
    rw [List.take_of_length_le (by rw [List.length_range]; exact Nat.le_refl _)]; rfl
noncomputable abbrev ρs (L : List (Str × AV)) (rows : List Tx) (k : Int) : PEnv := [("hues", ⟨.dict L, none⟩), ("rows", ⟨.list (rows.map T), some none⟩), ("k", ⟨.int k, none⟩)]
theorem spec8 (gv : GV mg mb) {first : Tx} {R : List Tx} {f : Nat} (h1 : 1 ≤ first.length) (hf : first.length ≤ 100) (hff : f ≤ 1000) (hL : ∀ c ∈ first, L.lookup (S [c]) = some (.flt (H c))) (hR : rowsT (QH H) f 0 [first] = some R) :
    Spec PW w mg mb (n + 2) "_law_rows" [T first, .dict L] (.list (R.map T)) := by
  obtain ⟨N, _, hNf, hlt, hend, hRN⟩ := rowsT_at (QH H) first R f 0 hR
  refine Spec.intro (dAt_mem (k := 8) (by decide)) rfl ok8 rfl rfl fun pm code doc Lo ad => ?_
  show ∃ ρ', Sx PW w mg mb (n + 1) (E8 pm code doc Lo ad) [("first", ⟨T first, none⟩), ("hues", ⟨.dict L, none⟩)] (dAt 8).body ρ' _
  have ok : ∀ i, i ≤ N → (∀ r ∈ rowsAt (QH H) first i, RowOk first r) ∧ (rowsAt (QH H) first i).length ≤ 900000 := fun i hi => by
    obtain ⟨a, b⟩ := rowsAt_ok (QH H) first i fun j hj => hlt j (Nat.zero_le _) (by omega)
    refine ⟨a, Nat.le_trans b ?_⟩
    have : i * first.length ≤ 1000 * 100 := Nat.mul_le_mul (by omega) hf
    omega
  have hW : St PW w mg mb (n + 1) (E8 pm code doc Lo ad) (ρs L [first] 0) (nth (dAt 8).body 1) (ρs L (rowsAt (QH H) first N) (N : Nat)) none := by
    refine St.whileC (fun i => ρs L (rowsAt (QH H) first i) (i : Nat)) N ?_ (fun i hi => ?_) (fun i hi => ?_) ?_
    · show Sub (ρs L [first] 0) _
      repeat (first | exact Sub.nil | refine Sub.cons rfl ?_)
    · obtain ⟨a, b⟩ := ok i (Nat.le_of_lt hi)
      have := hlt i (Nat.zero_le _) hi
      exact Tr.of (Tr.cmp (EvO.var rfl) (Ev.len gv (EvO.var rfl) (CallB.lenL (by rw [List.length_map]; omega)) rfl).toO OpC.ltI) (decide_eq_true (by rw [List.length_map]; omega))
    · obtain ⟨a, b⟩ := ok i (Nat.le_of_lt hi)
      have hi2 := hlt i (Nat.zero_le _) hi
      have hrow : RowOk first ((rowsAt (QH H) first i).getD i []) := by
        rw [List.getD_eq_getElem?_getD, List.getElem?_eq_getElem hi2]; exact a _ (List.getElem_mem hi2)
      have hidx : (seqIndex? (i : Int) ((rowsAt (QH H) first i).map T).length).bind (((rowsAt (QH H) first i).map T)[·]?) = some (T ((rowsAt (QH H) first i).getD i [])) := by
        have e : seqIndex? (i : Int) ((rowsAt (QH H) first i).map T).length = some i := by simp [seqIndex?]; omega
        rw [e]
        show ((rowsAt (QH H) first i).map T)[i]? = _
        rw [List.getElem?_map, List.getD_eq_getElem?_getD, List.getElem?_eq_getElem hi2]; rfl
      have hl := loop8 (n := n) (w := w) H L pm code doc Lo ad (k := (i : Nat)) gv hf hL hrow h1 a b
      show Sx _ _ _ _ _ _ _ _ (ρs L (turnT (QH H) (rowsAt (QH H) first i) ((rowsAt (QH H) first i).getD i [])) ((i + 1 : Nat) : Int)) _
      generalize turnT (QH H) (rowsAt (QH H) first i) ((rowsAt (QH H) first i).getD i []) = rows' at hl
      generalize (rowsAt (QH H) first i).getD i [] = row at *
      generalize rowsAt (QH H) first i = rows at *
      refine Sx.post (Sx.cons (St.assign (Ev.itemL (V := T row) (EvO.var rfl) (EvO.var rfl) hidx (by rw [List.length_map]; omega)) (.inr ⟨rfl, rfl⟩)) (Sx.pre ?_ (Sx.cons hl (Sx.cons (St.assign (Ev.bin (EvO.var rfl) Ev.cint.toO OpB.addI) (.inl rfl)) Sx.nil)))) ?_
      · repeat (first | exact Sub.nil | refine Sub.cons rfl ?_)
      · repeat (first | exact Sub.nil | refine Sub.cons rfl ?_)
    · obtain ⟨a, b⟩ := ok N (Nat.le_refl _)
      exact Tr.of (Tr.cmp (EvO.var rfl) (Ev.len gv (EvO.var rfl) (CallB.lenL (by rw [List.length_map]; omega)) rfl).toO OpC.ltI) (decide_eq_false (by rw [List.length_map]; omega))
  rw [hRN] at hW
  refine ⟨[], Sx.post (Sx.cons (St.tupON (Vs := [T first]) (V := .int 0) (EvN.list (Evs.cons (Ev.var rfl) Evs.nil) (allScT [first])) Ev.cint (.inl rfl) (.inl rfl) rfl rfl) (Sx.pre ?_ (Sx.cons hW (Sx.freeze (x := "rows") rfl (Sx.stop (St.ret (Ev.var rfl))))))) Sub.nil⟩
  repeat (first | exact Sub.nil | refine Sub.cons rfl ?_)
end
end Mine
end
section
set_option maxRecDepth 100000
set_option maxHeartbeats 4000000
namespace Mine
variable {w : World} {mg mb : Str → Option Value} {n : Nat} {env : Env} {ρ : PEnv}
theorem ok9 : DefOk (dAt 9) ["tree", "spots", "rows"] := ⟨by decide, fun pm code doc vs h => by match vs, h with | [a, b, c], _ => rfl, fun k => rfl, rfl, rfl⟩
theorem ok10 : DefOk (dAt 10) ["tree", "spots", "rows"] := ⟨by decide, fun pm code doc vs h => by match vs, h with | [a, b, c], _ => rfl, fun k => rfl, rfl, rfl⟩
theorem S_com : (Str.ofString "," : Str) = S [44] := by decide +kernel
theorem S_dc : (Str.ofString "...," : Str) = S (dots ++ [44]) := by decide +kernel
theorem S_cd : (Str.ofString ",..." : Str) = S ([44] ++ dots) := by decide +kernel
theorem S_pp : (Str.ofString "()" : Str) = S [40, 41] := by decide +kernel
noncomputable def idxT (row x : Tx) : Nat := (findT row x 0 row.length).getD 0
noncomputable def deepT (tree : List Tx) (k : Nat) : Int := ((tree.take k).countP (· == [40]) : Nat) - ((tree.take k).countP (· == [41]) : Nat)
noncomputable def endAt (tree : List Tx) (row line : Tx) (k : Nat) : Bool :=
  let x := tree.getD k []
  let i := idxT row x
  let a := [row.getD 0 0]
  let root := [row.getLastD 0]
  let lap := row.take (i + 1) ++ dots ++ row.drop i
  Nat.ble 1 k && Nat.blt (k + 1) tree.length && (findT row x 0 row.length).isSome &&
  (emT (dots ++ [44] ++ x ++ dots) line == (tree.getD (k - 1) [] ++ tree.getD (k + 1) [] == [40, 41])) &&
  (emT (dots ++ x ++ root ++ ([44] ++ dots)) line == (deepT tree k == 2)) &&
  (emT (a ++ dots ++ x ++ dots ++ root) row == (findT (slc row (some 1) (some (-1))) x 0 (slc row (some 1) (some (-1))).length).isSome) &&
  !emT (a ++ dots ++ x ++ dots ++ x ++ dots ++ root) row &&
  emT (row.take i ++ dots ++ row.drop i) row &&
  !emT lap row && !emT (dots ++ lap ++ dots) row &&
  !emT (row.take i) row && (emT (row.drop i) row == ((i : Int) == 0)) &&
  !emT (row.take (i + 1) ++ row.drop i) row
noncomputable def lineT (rows : List Tx) : Tx := [44] ++ joinT [44] rows ++ [44]
noncomputable def endsT (tree : List Tx) (ks : List Nat) (rows : List Tx) : Bool :=
  let row := rows.headD []
  let line := lineT rows
  ks.all (endAt tree row line) && !emT (row.drop 1 ++ dots) row && !emT (dots ++ row.dropLast) row &&
  rows.all (fun known => emT (known.dropLast ++ dots) row == (known == row) && emT (dots ++ known.drop 1) row == (known == row))
theorem Ev.em (gv : GV mg mb) {e1 e2 : PySem.Expr} {p pos : Pos} {a b : Tx} (h1 : Ev PW w mg mb (n + 1) env ρ e1 (T a)) (h2 : Ev PW w mg mb (n + 1) env ρ e2 (T b)) (la : a.length ≤ 4096) (lb : b.length ≤ 4096) (hk : env.kindOf "_ellipsis_match" = some .globalImplicit)
    (hs : starEach [e1, e2] env = (false, eval e1 env) :: starEach [e2] env := by rfl) (hs2 : starEach [e2] env = (false, eval e2 env) :: starEach [] env := by rfl) : Ev PW w mg mb (n + 1) env ρ (.Call (.Name "_ellipsis_match" p) [e1, e2] [] pos) (.bool (emT a b)) :=
  Ev.callD gv 0 (by decide) rfl (Evs.cons h1 (Evs.cons h2 Evs.nil hs2) hs) (spec0 gv la lb) hk rfl hs
theorem slc_takeT (l : List Tx) (k : Nat) : slc (l.map T) none (some (k : Int)) = (l.take k).map T := by
  unfold slc
  have h1 : cl (l.map T).length 0 none = 0 := rfl
  have h2 : cl (l.map T).length (l.map T).length (some (k : Int)) = min k l.length := by rw [List.length_map]; simp only [cl]; rw [if_neg (by omega)]; omega
  rw [h1, h2, List.drop_zero, Nat.sub_zero]
  by_cases h : k ≤ l.length
  · rw [Nat.min_eq_left h, List.map_take]
  · rw [Nat.min_eq_right (by omega), List.take_of_length_le (by simp), List.take_of_length_le (by omega)]
theorem at_T (l : List Tx) {k : Nat} (h : k < l.length) : (seqIndex? (k : Int) (l.map T).length).bind ((l.map T)[·]?) = some (T (l.getD k [])) := by
  have e : seqIndex? (k : Int) (l.map T).length = some k := by simp [seqIndex?]; omega
  rw [e]
  show (l.map T)[k]? = _
  rw [List.getElem?_map, List.getD_eq_getElem?_getD, List.getElem?_eq_getElem h]; rfl
theorem bAnd {a b : Bool} (h : (a && b) = true) : a = true ∧ b = true := by cases a <;> cases b <;> simp_all
theorem flatB (bs cs : List Bool) : FlatC (bs.map AV.bool) (cs.map AV.bool) := fun V hV W hW => by
  obtain ⟨b, _, rfl⟩ := List.mem_map.mp hV
  obtain ⟨c, _, rfl⟩ := List.mem_map.mp hW
  exact .bool b c
theorem zipB : ∀ (bs cs : List Bool), zipAll eqv0 (bs.map AV.bool) (cs.map AV.bool) = (bs == cs)
  | [], [] => rfl
  | [], _ :: _ => rfl
  | _ :: _, [] => rfl
  | b :: bs, c :: cs => by
    show ((b == c) && zipAll eqv0 (bs.map AV.bool) (cs.map AV.bool)) = _
    rw [zipB bs cs]; rfl
theorem notT {b : Bool} (h : (!b) = true) : b = false := by cases b <;> simp_all
theorem neOf {b c : Bool} (h : (b == c) = true) : (b != c) = false := by cases b <;> cases c <;> simp_all
section
variable (tree rows : List Tx) (row : Tx) (pm code doc : Value) (Lo ad : Addr)
noncomputable abbrev iN (ks : List Nat) : List AV := ks.map fun k => AV.int (k : Nat)
noncomputable abbrev ρe (tree : List Tx) (ks : List Nat) (rows : List Tx) (row line : Tx) : PEnv := [("tree", ⟨.list (tree.map T), none⟩), ("spots", ⟨.list (iN ks), none⟩), ("rows", ⟨.list (rows.map T), none⟩), ("row", ⟨T row, none⟩), ("root", ⟨T [row.getLastD 0], none⟩), ("line", ⟨T line, none⟩)]
noncomputable abbrev body9 : List Stmt := forBody (nth (dAt 9).body 1)
noncomputable abbrev E9 : Env := E0 9 pm code doc Lo ad
theorem round9 (gv : GV mg mb) {ks : List Nat} {line : Tx} {k : Nat} (hm1 : 1 ≤ row.length) (hm2 : row.length ≤ 20) (hline : line.length ≤ 4000) (htl : tree.length ≤ 100) (htr : ∀ x ∈ tree, x.length = 1) (hk : endAt tree row line k = true) :
    Sx PW w mg mb (n + 1) (E9 pm code doc Lo ad) (("k", ⟨.int (k : Nat), none⟩) :: ρe tree ks rows row line) body9 (ρe tree ks rows row line) none := by
  unfold endAt at hk
  obtain ⟨hk, k13⟩ := bAnd hk
  obtain ⟨hk, k12⟩ := bAnd hk
  obtain ⟨hk, k11⟩ := bAnd hk
  obtain ⟨hk, k10⟩ := bAnd hk
  obtain ⟨hk, k9⟩ := bAnd hk
  obtain ⟨hk, k8⟩ := bAnd hk
  obtain ⟨hk, k7⟩ := bAnd hk
  obtain ⟨hk, k6⟩ := bAnd hk
  obtain ⟨hk, k5⟩ := bAnd hk
  obtain ⟨hk, k4⟩ := bAnd hk
  obtain ⟨hk, k3⟩ := bAnd hk
  obtain ⟨k1, k2⟩ := bAnd hk
  have hk1 : 1 ≤ k := Nat.le_of_ble_eq_true k1
  have hk2 : k + 1 < tree.length := Nat.le_of_ble_eq_true k2
  have gx : ∀ j, j < tree.length → (tree.getD j []).length = 1 := fun j hj => by
    rw [List.getD_eq_getElem?_getD, List.getElem?_eq_getElem hj]; exact htr _ (List.getElem_mem hj)
  have hx := at_T tree (k := k) (by omega)
  have hx1 := at_T tree (k := k - 1) (by omega)
  have hx2 := at_T tree (k := k + 1) hk2
  have lx := gx k (by omega)
  have l1 := gx (k - 1) (by omega)
  have l2 := gx (k + 1) hk2
  have e1 : ((k - 1 : Nat) : Int) = (k : Int) - 1 := by omega
  have e2 : ((k + 1 : Nat) : Int) = (k : Int) + 1 := by omega
  rw [e1] at hx1
  rw [e2] at hx2
  have hfind : optI (findT row (tree.getD k []) 0 row.length) = ((idxT row (tree.getD k []) : Nat) : Int) := by
    unfold idxT
    cases h : findT row (tree.getD k []) 0 row.length with
    | none => rw [h] at k3; cases k3
    | some i => rfl
  have hi : idxT row (tree.getD k []) < row.length + 1 := by
    unfold idxT
    cases h : findT row (tree.getD k []) 0 row.length with
    | none => simp
    | some i => have := (findT_bound h).2; simp; omega
  generalize tree.getD k [] = x at *
  generalize tree.getD (k - 1) [] = x1 at *
  generalize tree.getD (k + 1) [] = x2 at *
  generalize idxT row x = i at *
  have d3 : dots.length = 3 := rfl
  have s1 := slc_take row i
  have s2 := slc_drop row i
  have e3 : ((i : Int) + 1) = ((i + 1 : Nat) : Int) := by omega
  have s3 : slc row none (some ((i : Int) + 1)) = row.take (i + 1) := by rw [e3]; exact slc_take row (i + 1)
  have r0 : (seqIndex? (0 : Int) row.length).bind (row[·]?) = some (row.getD 0 0) := at_idx row (k := 0) (by omega)
  have t1 : (row.take i).length ≤ 20 := by rw [List.length_take]; omega
  have t2 : (row.drop i).length ≤ 20 := by rw [List.length_drop]; omega
  have t3 : (row.take (i + 1)).length ≤ 20 := by rw [List.length_take]; omega
  have sl1 : (slc row none (some (i : Int))).length ≤ 20 := by rw [s1]; exact t1
  have sl2 : (slc row (some (i : Int)) none).length ≤ 20 := by rw [s2]; exact t2
  have sl3 : (slc row none (some ((i : Int) + 1))).length ≤ 20 := by rw [s3]; exact t3
  have hlap : T (slc row none (some ((i : Int) + 1)) ++ dots ++ slc row (some (i : Int)) none) = T (row.take (i + 1) ++ dots ++ row.drop i) := by rw [s3, s2]
  have llap : (row.take (i + 1) ++ dots ++ row.drop i).length ≤ 43 := by simp only [List.length_append, d3]; omega
  have tk : ∀ {ρ : PEnv} {e : PySem.Expr}, Ev PW w mg mb (n + 1) (E9 pm code doc Lo ad) ρ e (.list (slc (tree.map T) none (some (k : Int)))) → Ev PW w mg mb (n + 1) (E9 pm code doc Lo ad) ρ e (.list ((tree.take k).map T)) := fun h => by
    rw [slc_takeT] at h; exact h
  -- x, i
  refine Sx.cons (St.tupS (l := [("x", T x), ("i", .int (i : Nat))]) (Ev.tup (Evs.cons (Ev.itemL (V := T x) (EvO.var rfl) (EvO.var rfl) hx (by rw [List.length_map]; omega)) (Evs.cons (Ev.of (Ev.methS (EvO.var rfl) (EvsO.cons (Ev.itemL (V := T x) (EvO.var rfl) (EvO.var rfl) hx (by rw [List.length_map]; omega)).toO EvsO.nil) F.slot_str_find rfl CallB.findT) (congrArg AV.int hfind)) Evs.nil))) (fun p hp => ?_) rfl) ?_
  · simp only [List.mem_cons, List.not_mem_nil, or_false] at hp
    rcases hp with rfl | rfl <;> exact .inl rfl
  -- deep
  refine Sx.cons (St.assign (V := .int (deepT tree k)) (Ev.bin (Ev.methL (tk (Ev.sliceL (EvO.var rfl) EvP.none (EvP.some (EvO.var rfl)) (by rw [List.length_map]; omega))).toO (EvsO.cons (Ev.cT S_op).toO EvsO.nil) F.slot_list_count rfl CallB.countT).toO
    (Ev.methL (tk (Ev.sliceL (EvO.var rfl) EvP.none (EvP.some (EvO.var rfl)) (by rw [List.length_map]; omega))).toO (EvsO.cons (Ev.cT S_cl).toO EvsO.nil) F.slot_list_count rfl CallB.countT).toO OpB.subI) (.inl rfl)) ?_
  -- lap
  refine Sx.cons (St.assign (Ev.of (Ev.bin (Ev.bin (Ev.sliceS (EvO.var rfl) EvP.none (EvP.some (Ev.bin (EvO.var rfl) Ev.cint.toO OpB.addI).toO) (by omega)).toO (Ev.cT S_dots).toO (OpB.addT (by rw [d3]; omega))).toO (Ev.sliceS (EvO.var rfl) (EvP.some (EvO.var rfl)) EvP.none (by omega)).toO (OpB.addT (by simp only [List.length_append, d3]; omega))) hlap) (.inl rfl)) ?_
  -- asked
  refine Sx.cons (St.assign (V := .list ([dots ++ [44] ++ x ++ dots, dots ++ x ++ [row.getLastD 0] ++ ([44] ++ dots)].map T)) (Ev.list (Evs.cons (Ev.bin (Ev.bin (Ev.cT S_dc).toO (EvO.var rfl) (OpB.addT (by simp only [List.length_append, d3, List.length_singleton]; omega))).toO (Ev.cT S_dots).toO (OpB.addT (by simp only [List.length_append, d3, List.length_singleton]; omega)))
    (Evs.cons (Ev.bin (Ev.bin (Ev.bin (Ev.cT S_dots).toO (EvO.var rfl) (OpB.addT (by simp only [List.length_append, d3, List.length_singleton]; omega))).toO (EvO.var rfl) (OpB.addT (by simp only [List.length_append, d3, List.length_singleton]; omega))).toO (Ev.cT S_cd).toO (OpB.addT (by simp only [List.length_append, d3, List.length_singleton]; omega))) Evs.nil))) (.inl rfl)) ?_
  have hb4 : emT (dots ++ [44] ++ x ++ dots) line = (x1 ++ x2 == [40, 41]) := beq_iff_eq.mp k4
  have hb5 : emT (dots ++ x ++ [row.getLastD 0] ++ ([44] ++ dots)) line = (deepT tree k == 2) := beq_iff_eq.mp k5
  refine Sx.cons (St.ifS (c := false) (Tr.of (Tr.cmp (Ev.comp0 (Vs := [dots ++ [44] ++ x ++ dots, dots ++ x ++ [row.getLastD 0] ++ ([44] ++ dots)].map T) (fun V => AV.bool (emT (txOf V) line)) (EvIt.list (EvO.var rfl)) ⟨rfl, rfl, rfl, rfl⟩ (Nat.le_of_ble_eq_true rfl) rfl (fun C V hV => ?_)).toO
    (Ev.list (Vs := [.bool (x1 ++ x2 == [40, 41]), .bool (deepT tree k == 2)]) (Evs.cons (Ev.cmp (Ev.bin (Ev.itemL (V := T x1) (EvO.var rfl) (Ev.bin (EvO.var rfl) Ev.cint.toO OpB.subI).toO hx1 (by rw [List.length_map]; omega)).toO (Ev.itemL (V := T x2) (EvO.var rfl) (Ev.bin (EvO.var rfl) Ev.cint.toO OpB.addI).toO hx2 (by rw [List.length_map]; omega)).toO (OpB.addT (by omega))).toO (Ev.cT S_pp).toO OpC.eqT)
      (Evs.cons (Ev.cmp (EvO.var rfl) Ev.cint.toO OpC.eqI) Evs.nil))).toO (OpC.neL (flatB [emT (dots ++ [44] ++ x ++ dots) line, emT (dots ++ x ++ [row.getLastD 0] ++ ([44] ++ dots)) line] [x1 ++ x2 == [40, 41], deepT tree k == 2]))) ?_) (fun h => by cases h) (fun _ => Sx.nil)) ?_
  · obtain ⟨d, hd, rfl⟩ := List.mem_map.mp hV
    have ld : d.length ≤ 4096 := by
      simp only [List.mem_cons, List.not_mem_nil, or_false] at hd
      rcases hd with rfl | rfl <;> simp only [List.length_append, d3, List.length_singleton] <;> omega
    exact Ev.em gv (Ev.var (V := T d) rfl) (Ev.var rfl) ld (by omega) rfl
  · show (!zipAll eqv0 ([emT (dots ++ [44] ++ x ++ dots) line, emT (dots ++ x ++ [row.getLastD 0] ++ ([44] ++ dots)) line].map AV.bool) ([x1 ++ x2 == [40, 41], deepT tree k == 2].map AV.bool)) = false
    rw [zipB, hb4, hb5]; simp
  refine Sx.cons (St.ifS (c := false) (Tr.of (Tr.cmp (Ev.em gv (Ev.bin (Ev.bin (Ev.bin (Ev.bin (Ev.itemS (EvO.var rfl) Ev.cint.toO r0 (by omega)).toO (Ev.cT S_dots).toO (OpB.addT (by simp only [d3, List.length_singleton]; omega))).toO (EvO.var rfl) (OpB.addT (by simp only [List.length_append, d3, List.length_singleton]; omega))).toO (Ev.cT S_dots).toO (OpB.addT (by simp only [List.length_append, d3, List.length_singleton]; omega))).toO (EvO.var rfl) (OpB.addT (by simp only [List.length_append, d3, List.length_singleton]; omega))) (Ev.var rfl) (by simp only [List.length_append, d3, List.length_singleton]; omega) (by omega) rfl).toO
    (Ev.cmp (EvO.var rfl) (Ev.sliceS (EvO.var rfl) (EvP.some Ev.cint.toO) (EvP.some (Ev.un Ev.cint.toO OpU.neg).toO) (by omega)).toO OpC.inT).toO OpC.isNotB) (neOf k6)) (fun h => by cases h) (fun _ => Sx.nil)) ?_
  refine Sx.cons (St.ifS (c := false) (Tr.of (Tr.cmp (Ev.em gv (Ev.bin (Ev.bin (Ev.bin (Ev.bin (Ev.bin (Ev.bin (Ev.itemS (EvO.var rfl) Ev.cint.toO r0 (by omega)).toO (Ev.cT S_dots).toO (OpB.addT (by simp only [d3, List.length_singleton]; omega))).toO (EvO.var rfl) (OpB.addT (by simp only [List.length_append, d3, List.length_singleton]; omega))).toO (Ev.cT S_dots).toO (OpB.addT (by simp only [List.length_append, d3, List.length_singleton]; omega))).toO (EvO.var rfl) (OpB.addT (by simp only [List.length_append, d3, List.length_singleton]; omega))).toO (Ev.cT S_dots).toO (OpB.addT (by simp only [List.length_append, d3, List.length_singleton]; omega))).toO (EvO.var rfl) (OpB.addT (by simp only [List.length_append, d3, List.length_singleton]; omega))) (Ev.var rfl) (by simp only [List.length_append, d3, List.length_singleton]; omega) (by omega) rfl).toO
    Ev.cbool.toO OpC.isNotB) (by rw [notT k7]; rfl)) (fun h => by cases h) (fun _ => Sx.nil)) ?_
  have hw8 : T (slc row none (some (i : Int)) ++ dots ++ slc row (some (i : Int)) none) = T (row.take i ++ dots ++ row.drop i) := by rw [s1, s2]
  refine Sx.cons (St.ifS (c := false) (Tr.of (Tr.cmp (Ev.em gv (Ev.of (Ev.bin (Ev.bin (Ev.sliceS (EvO.var rfl) EvP.none (EvP.some (EvO.var rfl)) (by omega)).toO (Ev.cT S_dots).toO (OpB.addT (by rw [d3]; omega))).toO (Ev.sliceS (EvO.var rfl) (EvP.some (EvO.var rfl)) EvP.none (by omega)).toO (OpB.addT (by simp only [List.length_append, d3]; omega))) hw8) (Ev.var rfl) (by simp only [List.length_append, d3]; omega) (by omega) rfl).toO
    Ev.cbool.toO OpC.isNotB) (by rw [k8]; rfl)) (fun h => by cases h) (fun _ => Sx.nil)) ?_
  refine Sx.cons (St.ifS (c := false) (Tr.of (Tr.orC (Tr.cmp (Ev.em gv (Ev.var rfl) (Ev.var rfl) (by omega) (by omega) rfl).toO Ev.cbool.toO OpC.isNotB) (fun _ => Tr.orC (Tr.cmp (Ev.em gv (Ev.bin (Ev.bin (Ev.cT S_dots).toO (EvO.var rfl) (OpB.addT (by rw [d3]; omega))).toO (Ev.cT S_dots).toO (OpB.addT (by rw [List.length_append, d3]; omega))) (Ev.var rfl) (by rw [List.length_append, List.length_append, d3]; omega) (by omega) rfl).toO Ev.cbool.toO OpC.isNotB) (fun _ => Tr.orN))) (by rw [notT k9, notT k10]; rfl)) (fun h => by cases h) (fun _ => Sx.nil)) ?_
  refine Sx.cons (St.ifS (c := false) (Tr.of (Tr.orC (Tr.cmp (Ev.em gv (Ev.of (Ev.sliceS (EvO.var rfl) EvP.none (EvP.some (EvO.var rfl)) (by omega)) (congrArg T s1)) (Ev.var rfl) (by omega) (by omega) rfl).toO Ev.cbool.toO OpC.isNotB) (fun _ => Tr.orC (Tr.cmp (Ev.em gv (Ev.of (Ev.sliceS (EvO.var rfl) (EvP.some (EvO.var rfl)) EvP.none (by omega)) (congrArg T s2)) (Ev.var rfl) (by omega) (by omega) rfl).toO (Ev.cmp (EvO.var rfl) Ev.cint.toO OpC.eqI).toO OpC.isNotB) (fun _ => Tr.orN))) (by rw [notT k11, neOf k12]; rfl)) (fun h => by cases h) (fun _ => Sx.nil)) ?_
  have hw13 : T (slc row none (some ((i : Int) + 1)) ++ slc row (some (i : Int)) none) = T (row.take (i + 1) ++ row.drop i) := by rw [s3, s2]
  refine Sx.cons (St.ifS (c := false) (Tr.of (Tr.cmp (Ev.em gv (Ev.of (Ev.bin (Ev.sliceS (EvO.var rfl) EvP.none (EvP.some (Ev.bin (EvO.var rfl) Ev.cint.toO OpB.addI).toO) (by omega)).toO (Ev.sliceS (EvO.var rfl) (EvP.some (EvO.var rfl)) EvP.none (by omega)).toO (OpB.addT (by omega))) hw13) (Ev.var rfl) (by rw [List.length_append]; omega) (by omega) rfl).toO
    Ev.cbool.toO OpC.isNotB) (by rw [notT k13]; rfl)) (fun h => by cases h) (fun _ => Sx.nil)) ?_
  refine Sx.post Sx.nil ?_
  repeat (first | exact Sub.nil | refine Sub.cons rfl ?_)
end
end Mine
end
section
set_option maxRecDepth 100000
set_option maxHeartbeats 4000000
namespace Mine
variable {w : World} {mg mb : Str → Option Value} {n : Nat} {env : Env} {ρ : PEnv}
theorem joinT_len (sep : Tx) : ∀ xs : List Tx, (joinT sep xs).length ≤ (xs.map List.length).sum + xs.length * sep.length
  | [] => by simp [joinT]
  | [x] => by simp [joinT]
  | x :: y :: r => by
    have := joinT_len sep (y :: r)
    show (x ++ sep ++ joinT sep (y :: r)).length ≤ _
    simp only [List.length_append, List.map_cons, List.sum_cons, List.length_cons, Nat.add_mul, Nat.one_mul] at this ⊢
    omega
/- y = [f(x) for x in texts] -/
theorem St.mapC {rows : List Tx} {f : Tx → Bool} {x y : Str} {p1 py spos p2 : Pos} {it elt : PySem.Expr} {scope : Scope} (hit : EvIt PW w mg mb n env ρ false it (rows.map T)) (hrl : rows.length ≤ 1000) (o : ScOk scope env) (hx : scope.names.lookup x = some .local)
    (he : ∀ C, ∀ d ∈ rows, Ev PW w mg mb n (cEnv scope env C) ((x, ⟨T d, none⟩) :: capρ scope env ρ) elt (.bool (f d))) (hk : KOk env y)
    (hsw : swapsWith (.ListComp elt [⟨.Name x p1, it, [], 0⟩] scope p2) (some (.Name y py)) spos.line env = pure true := by rfl) (hs : ∀ x, foldedSetIterable it env x = pure x := by intro _; rfl) :
    St PW w mg mb n env ρ (.Assign [.Name y py] (.ListComp elt [⟨.Name x p1, it, [], 0⟩] scope p2) spos) ((y, ⟨.list ((rows.map f).map AV.bool), none⟩) :: ρ) none := by
  have e : ((rows.map T).filter fun _ => true).map (fun V => AV.bool (f (txOf V))) = (rows.map f).map AV.bool := by rw [List.filter_eq_self.mpr (fun _ _ => rfl), List.map_map, List.map_map]; rfl
  rw [← e]
  refine St.assignC (fun _ => true) (fun V => AV.bool (f (txOf V))) hit o (by rw [List.length_map]; omega) hx (fun C V hV => rfl) (fun C V hV _ => ?_) hk hsw hs
  obtain ⟨d, hd', rfl⟩ := List.mem_map.mp hV
  exact he C d hd'
theorem Ev.mapC {rows : List Tx} {f : Tx → Bool} {x : Str} {p1 p2 : Pos} {it elt : PySem.Expr} {scope : Scope} (hit : EvIt PW w mg mb n env ρ false it (rows.map T)) (hrl : rows.length ≤ 1000) (o : ScOk scope env) (hx : scope.names.lookup x = some .local)
    (he : ∀ C, ∀ d ∈ rows, Ev PW w mg mb n (cEnv scope env C) ((x, ⟨T d, none⟩) :: capρ scope env ρ) elt (.bool (f d)))
    (hs : ∀ x, foldedSetIterable it env x = pure x := by intro _; rfl) :
    Ev PW w mg mb n env ρ (.ListComp elt [⟨.Name x p1, it, [], 0⟩] scope p2) (.list ((rows.map f).map AV.bool)) := by
  have e : (rows.map T).map (fun V => AV.bool (f (txOf V))) = (rows.map f).map AV.bool := by rw [List.map_map, List.map_map]; rfl
  rw [← e]
  refine Ev.comp0 (fun V => AV.bool (f (txOf V))) hit o (by rw [List.length_map]; omega) hx (fun C V hV => ?_) hs
  obtain ⟨d, hd', rfl⟩ := List.mem_map.mp hV
  exact he C d hd'
theorem slc_tail (x : Tx) : slc x (some 1) none = x.drop 1 := slc_drop x 1
section
variable (tree : List Tx) (ks : List Nat) (rows : List Tx)
theorem spec9 (gv : GV mg mb) {m : Nat} (hm1 : 1 ≤ m) (hm2 : m ≤ 20) (h0 : rows ≠ []) (hr : ∀ r ∈ rows, r.length = m) (hrl : rows.length ≤ 100) (htl : tree.length ≤ 100) (htr : ∀ x ∈ tree, x.length = 1) (hE : endsT tree ks rows = true) :
    Spec PW w mg mb (n + 2) "_law_ends" [.list (tree.map T), .list (iN ks), .list (rows.map T)] (.bool true) := by
  refine Spec.intro (dAt_mem (k := 9) (by decide)) rfl ok9 rfl rfl fun pm code doc Lo ad => ?_
  show ∃ ρ', Sx PW w mg mb (n + 1) (E9 pm code doc Lo ad) [("tree", ⟨.list (tree.map T), none⟩), ("spots", ⟨.list (iN ks), none⟩), ("rows", ⟨.list (rows.map T), none⟩)] (dAt 9).body ρ' _
  obtain ⟨row, rs, rfl⟩ : ∃ row rs, rows = row :: rs := by
    cases rows with
    | nil => exact absurd rfl h0
    | cons a b => exact ⟨a, b, rfl⟩
  have hrow : row.length = m := hr row (List.mem_cons_self ..)
  have hne : row ≠ [] := fun e => by rw [e] at hrow; simp at hrow; omega
  unfold endsT at hE
  obtain ⟨hE, hE4⟩ := bAnd hE
  obtain ⟨hE, hE3⟩ := bAnd hE
  obtain ⟨hE1, hE2⟩ := bAnd hE
  have hhead : (row :: rs).headD [] = row := rfl
  rw [hhead] at hE1 hE2 hE3 hE4
  have hsum : ((row :: rs).map List.length).sum ≤ 2000 := by
    have h1 := sum_le (l := row :: rs) (b := 20) (fun y hy => by rw [hr y hy]; exact hm2)
    have h2 : (row :: rs).length * 20 ≤ 100 * 20 := Nat.mul_le_mul_right _ hrl
    omega
  have hj := joinT_len [44] (row :: rs)
  have hj2 : (joinT [44] (row :: rs)).length ≤ 2100 := by simp only [List.length_singleton, Nat.mul_one] at hj; omega
  have hline : (lineT (row :: rs)).length ≤ 4000 := by unfold lineT; simp only [List.length_append, List.length_singleton]; omega
  have hi0 : (seqIndex? (0 : Int) ((row :: rs).map T).length).bind (((row :: rs).map T)[·]?) = some (T row) := at_T (row :: rs) (k := 0) (by simp)
  have hlast := last_at row hne
  have s1 := slc_tail row
  have s2 := slc_init row hne
  have d3 : dots.length = 3 := rfl
  have hT : T (lineT (row :: rs)) = T ([44] ++ joinT [44] (row :: rs) ++ [44]) := rfl
  have hw1 : T (slc row (some 1) none ++ dots) = T (row.drop 1 ++ dots) := by rw [s1]
  have hw2 : T (dots ++ slc row none (some (-1))) = T (dots ++ row.dropLast) := by rw [s2]
  have b1 : (row.drop 1).length ≤ 20 := by rw [List.length_drop]; omega
  have b2 : row.dropLast.length ≤ 20 := by rw [List.length_dropLast]; omega
  have hfr : ∀ known ∈ row :: rs, (emT (known.dropLast ++ dots) row = (known == row)) ∧ emT (dots ++ known.drop 1) row = (known == row) := fun known hk => by
    have := List.all_eq_true.mp hE4 known hk
    obtain ⟨a, b⟩ := bAnd this
    exact ⟨beq_iff_eq.mp a, beq_iff_eq.mp b⟩
  have kl : ∀ known ∈ row :: rs, known.length ≤ 20 ∧ known ≠ [] := fun known hk => by
    have := hr known hk
    exact ⟨by omega, fun e => by rw [e] at this; simp at this; omega⟩
  refine ⟨[], Sx.post (Sx.cons (St.tupP3 (V := T row) (W := T [row.getLastD 0]) (U := T (lineT (row :: rs))) (Ev.tup (Evs.cons (Ev.itemL (V := T row) (EvO.var rfl) Ev.cint.toO hi0 (by rw [List.length_map]; omega)) (Evs.cons (Ev.itemS (Ev.itemL (V := T row) (EvO.var rfl) Ev.cint.toO hi0 (by rw [List.length_map]; omega)).toO (Ev.un Ev.cint.toO OpU.neg).toO hlast (by omega))
    (Evs.cons (Ev.bin (Ev.bin (Ev.cT S_com).toO (Ev.methS (Ev.cT S_com).toO (EvsO.cons (EvO.var rfl) EvsO.nil) F.slot_str_join rfl (CallB.joinT (by simp only [List.length_singleton]; omega))).toO (OpB.addT (by simp only [List.length_singleton]; omega))).toO (Ev.cT S_com).toO (OpB.addT (by simp only [List.length_append, List.length_singleton]; omega))) Evs.nil)))) (.inr ⟨rfl, rfl⟩) (.inl rfl) (.inr ⟨rfl, rfl⟩))
    (Sx.cons (ρ' := ρe tree ks (row :: rs) row (lineT (row :: rs))) (St.forC (x := "k") (Vs := iN ks) (fun _ => ρe tree ks (row :: rs) row (lineT (row :: rs))) ks.length (by simp) (EvIt.listS (Ev.var rfl)) ?_ (.inl rfl) (fun i V hi hV => ?_) (.inl ⟨by simp, rfl, rfl⟩))
    (Sx.cons (St.ifS (c := false) (Tr.of (Tr.orC (Tr.cmp (Ev.em gv (Ev.of (Ev.bin (Ev.sliceS (EvO.var rfl) (EvP.some Ev.cint.toO) EvP.none (by omega)).toO (Ev.cT S_dots).toO (OpB.addT (by rw [s1, d3]; omega))) hw1) (Ev.var rfl) (by rw [List.length_append, d3]; omega) (by omega) rfl).toO Ev.cbool.toO OpC.isNotB)
      (fun _ => Tr.orC (Tr.cmp (Ev.em gv (Ev.of (Ev.bin (Ev.cT S_dots).toO (Ev.sliceS (EvO.var rfl) EvP.none (EvP.some (Ev.un Ev.cint.toO OpU.neg).toO) (by omega)).toO (OpB.addT (by rw [s2, d3]; omega))) hw2) (Ev.var rfl) (by rw [List.length_append, d3]; omega) (by omega) rfl).toO Ev.cbool.toO OpC.isNotB) (fun _ => Tr.orN))) (by rw [notT hE2, notT hE3]; rfl)) (fun h => by cases h) (fun _ => Sx.nil))
    (Sx.cons (St.mapC (f := fun known => known == row) (EvIt.list (EvO.var rfl)) (by omega) ⟨rfl, rfl, rfl, rfl⟩ rfl (fun C d hd => ?_) (.inl rfl))
    (Sx.stop (St.ret (Ev.of (Ev.chain2 (EvO.var rfl) (Ev.mapC (rows := row :: rs) (f := fun known => known == row) (EvIt.list (EvO.var rfl)) (by omega) ⟨rfl, rfl, rfl, rfl⟩ rfl (fun C d hd => ?_)).toO (OpC.eqL (flatB _ _)) (Ev.mapC (rows := row :: rs) (f := fun known => known == row) (EvIt.list (EvO.var rfl)) (by omega) ⟨rfl, rfl, rfl, rfl⟩ rfl (fun C d hd => ?_)).toO (OpC.eqL (flatB _ _))) ?_))))))) Sub.nil⟩
  · repeat (first | exact Sub.nil | refine Sub.cons rfl ?_)
  · obtain ⟨k, hk, rfl⟩ : ∃ k, ks[i]? = some k ∧ AV.int (k : Nat) = V := by simpa using hV
    exact round9 tree (row :: rs) row pm code doc Lo ad gv (by omega) (by omega) hline htl htr (List.all_eq_true.mp hE1 k (List.mem_of_getElem? hk))
  · obtain ⟨a, b⟩ := kl d hd
    have s := slc_init d b
    refine Ev.of (Ev.em gv (a := d.dropLast ++ dots) (Ev.of (Ev.bin (Ev.sliceS (EvO.var (V := T d) rfl) EvP.none (EvP.some (Ev.un Ev.cint.toO OpU.neg).toO) (by omega)).toO (Ev.cT S_dots).toO (OpB.addT (by rw [s, d3, List.length_dropLast]; omega))) (by rw [s])) (Ev.var rfl) (by rw [List.length_append, d3, List.length_dropLast]; omega) (by omega) rfl) (congrArg AV.bool (hfr d hd).1)
  · obtain ⟨a, b⟩ := kl d hd
    have s := slc_tail d
    refine Ev.of (Ev.em gv (a := dots ++ d.drop 1) (Ev.of (Ev.bin (Ev.cT S_dots).toO (Ev.sliceS (EvO.var (V := T d) rfl) (EvP.some Ev.cint.toO) EvP.none (by omega)).toO (OpB.addT (by rw [s, d3, List.length_drop]; omega))) (by rw [s])) (Ev.var rfl) (by rw [List.length_append, d3, List.length_drop]; omega) (by omega) rfl) (congrArg AV.bool (hfr d hd).2)
  · exact Ev.cmp (EvO.var (V := T d) rfl) (EvO.var rfl) OpC.eqT
  · rw [zipB]; simp
end
end Mine
end
section
set_option maxRecDepth 100000
set_option maxHeartbeats 4000000
namespace Mine
variable {w : World} {mg mb : Str → Option Value} {n : Nat} {env : Env} {ρ : PEnv}
theorem S_bsl : (Str.ofString "\\" : Str) = S [92] := by decide +kernel
noncomputable def sgT : Nat → Tx
  | 40 => [40]
  | 41 => [41]
  | 112 => [34, 40, 92, 34, 41, 34]
  | 113 => [92, 41]
  | 114 => [92, 92, 34, 40, 34]
  | 115 => [92, 40]
  | 116 => [34, 41, 34]
  | _ => []
noncomputable def sgL : List Nat := [40, 41, 112, 113, 114, 115, 116]
noncomputable def signD : List (Str × AV) := [(S [40], T [40]), (S [41], T [41]), (S [112], T [34, 40, 92, 34, 41, 34]), (S [113], T [92, 41]), (S [114], T [92, 92, 34, 40, 34]), (S [115], T [92, 40]), (S [116], T [34, 41, 34])]
theorem sgT_len {c : Nat} (h : c ∈ sgL) : (sgT c).length ≤ 6 := by
  simp only [sgL, List.mem_cons, List.not_mem_nil, or_false] at h
  rcases h with rfl | rfl | rfl | rfl | rfl | rfl | rfl <;> decide
theorem signD_look {c : Nat} (h : c ∈ sgL) : signD.lookup (S [c]) = some (T (sgT c)) := by
  simp only [sgL, List.mem_cons, List.not_mem_nil, or_false] at h
  rcases h with rfl | rfl | rfl | rfl | rfl | rfl | rfl <;> rfl
noncomputable def betT (tree : List Tx) (l r : Nat) : List Tx := (tree.drop (l + 1)).take (r - (l + 1))
noncomputable def riseT (b : List Tx) : Int := (b.countP (· == [40]) : Nat) - (b.countP (· == [41]) : Nat)
noncomputable def textT (b : List Tx) : Tx := joinT [] (b.map fun x => sgT (x.headD 0))
noncomputable def hangAt (tree rows : List Tx) (l r : Nat) : Bool :=
  let b := betT tree l r
  let want := dots ++ tree.getD l [] ++ dots ++ tree.getD r [] ++ dots
  let ahead := rows.map fun row => emT want row
  (chkT (textT b ++ [34] ++ mulT [41] (riseT b) ++ [92]) == !ahead.contains true) && (chkT (mulT [40] (-riseT b) ++ textT b) == !ahead.contains false)
noncomputable def saidT (tree : List Tx) (ks : List Nat) : Tx := dots ++ joinT dots (ks.map fun k => tree.getD k []) ++ dots
noncomputable def oftenT (tree : List Tx) (ks : List Nat) : Nat := (ks.map fun k => tree.getD (k - 1) []).countP (· == [40])
noncomputable def toldT (tree : List Tx) (ks : List Nat) (row : Tx) : Bool := !emT (saidT tree ks) (mulT row ((oftenT tree ks : Int) - 1)) && emT (saidT tree ks) (mulT row (oftenT tree ks : Int))
noncomputable def hangT (tree : List Tx) (ks : List Nat) (rows : List Tx) : Bool :=
  ks.all (fun k => Nat.ble 1 k && Nat.blt k tree.length) && ks.all (fun r => (ks.filter (Nat.blt · r)).all fun l => hangAt tree rows l r) && rows.all (toldT tree ks)
theorem slc_mid (l : List Tx) (a b : Nat) : slc (l.map T) (some (a : Int)) (some (b : Int)) = ((l.drop a).take (b - a)).map T := by
  unfold slc
  have h1 : cl (l.map T).length 0 (some (a : Int)) = min a l.length := by rw [List.length_map]; simp only [cl]; rw [if_neg (by omega)]; omega
  have h2 : cl (l.map T).length (l.map T).length (some (b : Int)) = min b l.length := by rw [List.length_map]; simp only [cl]; rw [if_neg (by omega)]; omega
  rw [h1, h2, ← List.map_drop, ← List.map_take]
  congr 1
  by_cases h : a ≤ l.length
  · rw [Nat.min_eq_left h]
    by_cases h' : b ≤ l.length
    · rw [Nat.min_eq_left h']
    · rw [Nat.min_eq_right (by omega), List.take_of_length_le (by rw [List.length_drop]; omega), List.take_of_length_le (by rw [List.length_drop]; omega)]
  · have h3 : min a l.length = l.length := Nat.min_eq_right (by omega)
    rw [h3, List.drop_length, List.drop_of_length_le (by omega)]; simp
theorem betT_sub (tree : List Tx) (l r : Nat) : ∀ x ∈ betT tree l r, x ∈ tree := fun x h => List.mem_of_mem_drop (List.mem_of_mem_take h)
theorem betT_len (tree : List Tx) (l r : Nat) : (betT tree l r).length ≤ tree.length := by unfold betT; rw [List.length_take, List.length_drop]; omega
theorem rise_le (b : List Tx) : riseT b ≤ (b.length : Nat) ∧ -(b.length : Int) ≤ riseT b := by
  unfold riseT
  have h1 := List.countP_le_length (p := fun z : Tx => z == [40]) (l := b)
  have h2 := List.countP_le_length (p := fun z : Tx => z == [41]) (l := b)
  generalize List.countP (fun z : Tx => z == [40]) b = c at *
  generalize List.countP (fun z : Tx => z == [41]) b = d at *
  omega
theorem mulT_len (x : Tx) (i : Int) : (mulT x i).length = i.toNat * x.length := by
  unfold mulT
  generalize i.toNat = k
  induction k with
  | zero => simp
  | succ k ih => rw [List.replicate_succ, List.flatten_cons, List.length_append, ih, Nat.add_mul]; omega
noncomputable def iOf : AV → Int | .int i => i | _ => 0
/- list of the sizes k < r -/
theorem Ev.belowC {ks : List Nat} {r : Nat} {x : Str} {p0 p1 p2 : Pos} {it c : PySem.Expr} {scope : Scope} (hit : EvIt PW w mg mb n env ρ false it (iN ks)) (hrl : ks.length ≤ 1000) (o : ScOk scope env) (hx : scope.names.lookup x = some .local)
    (ht : ∀ C, ∀ d ∈ ks, Tr PW w mg mb n (cEnv scope env C) ((x, ⟨.int (d : Nat), none⟩) :: capρ scope env ρ) c (decide ((d : Int) < (r : Nat)))) (hd : (x == ("__debug__" : Str)) = false)
    (hs : ∀ x, foldedSetIterable it env x = pure x := by intro _; rfl) :
    Ev PW w mg mb n env ρ (.ListComp (.Name x p0) [⟨.Name x p1, it, [c], 0⟩] scope p2) (.list (iN (ks.filter (Nat.blt · r)))) := by
  have e : ((iN ks).filter fun V => decide (iOf V < (r : Nat))).map id = iN (ks.filter (Nat.blt · r)) := by
    rw [List.map_id, List.filter_map]
    congr 1
    refine List.filter_congr fun k _ => ?_
    show decide ((k : Int) < (r : Nat)) = Nat.blt k r
    by_cases h : k < r
    · rw [decide_eq_true (by omega)]; exact (Nat.ble_eq_true_of_le h).symm
    · rw [decide_eq_false (by omega)]
      cases hb : Nat.blt k r with
      | false => rfl
      | true => exact absurd (Nat.le_of_ble_eq_true hb) h
  rw [← e]
  refine Ev.comp (fun V => decide (iOf V < (r : Nat))) id hit o (by rw [List.length_map]; omega) hx (fun C V hV => ?_) (fun C V hV _ => ?_) hs
  · obtain ⟨d, hd', rfl⟩ := List.mem_map.mp hV
    exact ht C d hd'
  · exact Ev.var (by rw [List.lookup_cons]; simp) hd
/- list of texts by numbers -/
theorem Ev.mapN {ks : List Nat} {f : Nat → Tx} {x : Str} {p1 p2 : Pos} {it elt : PySem.Expr} {scope : Scope} (hit : EvIt PW w mg mb n env ρ false it (iN ks)) (hrl : ks.length ≤ 1000) (o : ScOk scope env) (hx : scope.names.lookup x = some .local)
    (he : ∀ C, ∀ d ∈ ks, Ev PW w mg mb n (cEnv scope env C) ((x, ⟨.int (d : Nat), none⟩) :: capρ scope env ρ) elt (T (f d)))
    (hs : ∀ x, foldedSetIterable it env x = pure x := by intro _; rfl) :
    Ev PW w mg mb n env ρ (.ListComp elt [⟨.Name x p1, it, [], 0⟩] scope p2) (.list ((ks.map f).map T)) := by
  have e : (iN ks).map (fun V => T (f (iOf V).toNat)) = (ks.map f).map T := by rw [List.map_map, List.map_map]; rfl
  rw [← e]
  refine Ev.comp0 (fun V => T (f (iOf V).toNat)) hit o (by rw [List.length_map]; omega) hx (fun C V hV => ?_) hs
  obtain ⟨d, hd', rfl⟩ := List.mem_map.mp hV
  exact he C d hd'
/- list of texts by texts -/
theorem Ev.mapX {rows : List Tx} {f : Tx → Tx} {x : Str} {p1 p2 : Pos} {it elt : PySem.Expr} {scope : Scope} (hit : EvIt PW w mg mb n env ρ false it (rows.map T)) (hrl : rows.length ≤ 1000) (o : ScOk scope env) (hx : scope.names.lookup x = some .local)
    (he : ∀ C, ∀ d ∈ rows, Ev PW w mg mb n (cEnv scope env C) ((x, ⟨T d, none⟩) :: capρ scope env ρ) elt (T (f d)))
    (hs : ∀ x, foldedSetIterable it env x = pure x := by intro _; rfl) :
    Ev PW w mg mb n env ρ (.ListComp elt [⟨.Name x p1, it, [], 0⟩] scope p2) (.list ((rows.map f).map T)) := by
  have e : (rows.map T).map (fun V => T (f (txOf V))) = (rows.map f).map T := by rw [List.map_map, List.map_map]; rfl
  rw [← e]
  refine Ev.comp0 (fun V => T (f (txOf V))) hit o (by rw [List.length_map]; omega) hx (fun C V hV => ?_) hs
  obtain ⟨d, hd', rfl⟩ := List.mem_map.mp hV
  exact he C d hd'
section
variable (tree rows : List Tx) (pm code doc : Value) (Lo ad : Addr)
noncomputable abbrev E10 : Env := E0 10 pm code doc Lo ad
theorem signs_nodup : (signD.map (·.1)).Nodup := by decide +kernel
theorem signs10 {ρ : PEnv} : Ev PW w mg mb n (E10 pm code doc Lo ad) ρ (valOf (nth (dAt 10).body 0)) (.dict signD) := by
  refine Ev.dictD ?_ ?_ ?_ ?_
  · unfold signD
    refine .cons (Ev.cT S_op) (Ev.cT S_op) ⟨_, .str _ 0⟩ ?_
    refine .cons (Ev.cT S_cl) (Ev.cT S_cl) ⟨_, .str _ 0⟩ ?_
    refine .cons (Ev.cT (l := [112]) (by decide +kernel)) (Ev.cT (l := [34, 40, 92, 34, 41, 34]) (by decide +kernel)) ⟨_, .str _ 0⟩ ?_
    refine .cons (Ev.cT (l := [113]) (by decide +kernel)) (Ev.cT (l := [92, 41]) (by decide +kernel)) ⟨_, .str _ 0⟩ ?_
    refine .cons (Ev.cT (l := [114]) (by decide +kernel)) (Ev.cT (l := [92, 92, 34, 40, 34]) (by decide +kernel)) ⟨_, .str _ 0⟩ ?_
    refine .cons (Ev.cT (l := [115]) (by decide +kernel)) (Ev.cT (l := [92, 40]) (by decide +kernel)) ⟨_, .str _ 0⟩ ?_
    refine .cons (Ev.cT (l := [116]) (by decide +kernel)) (Ev.cT (l := [34, 41, 34]) (by decide +kernel)) ⟨_, .str _ 0⟩ ?_
    exact .nil
  · exact List.cons_ne_nil _ _
  · exact Nat.le_of_ble_eq_true rfl
  · exact signs_nodup
end
end Mine
end
section
set_option maxRecDepth 100000
set_option maxHeartbeats 4000000
namespace Mine
variable {w : World} {mg mb : Str → Option Value} {n : Nat} {env : Env} {ρ : PEnv}
theorem Ev.chk (gv : GV mg mb) {e1 : PySem.Expr} {p pos : Pos} {a : Tx} (h1 : Ev PW w mg mb (n + 65) env ρ e1 (T a)) (la : a.length ≤ 900) (hk : env.kindOf "_check_parenthesis" = some .globalImplicit)
    (hs : starEach [e1] env = (false, eval e1 env) :: starEach [] env := by rfl) : Ev PW w mg mb (n + 65) env ρ (.Call (.Name "_check_parenthesis" p) [e1] [] pos) (.bool (chkT a)) :=
  Ev.callD gv 5 (by decide) rfl (Evs.cons h1 Evs.nil hs) (spec5 a gv la) hk rfl hs
theorem textT_len (b : List Tx) (hb : ∀ x ∈ b, ∃ c ∈ sgL, x = [c]) : ((b.map fun x => sgT (x.headD 0)).map List.length).sum ≤ b.length * 6 := by
  have := sum_le (l := b.map fun x => sgT (x.headD 0)) (b := 6) (fun y hy => by
    obtain ⟨x, hx, rfl⟩ := List.mem_map.mp hy
    obtain ⟨c, hc, rfl⟩ := hb x hx
    exact sgT_len hc)
  rwa [List.length_map] at this
section
variable (tree rows : List Tx) (pm code doc : Value) (Lo ad : Addr)
noncomputable abbrev ρh (tree : List Tx) (ks : List Nat) (rows : List Tx) (r : Nat) : PEnv := [("tree", ⟨.list (tree.map T), none⟩), ("spots", ⟨.list (iN ks), none⟩), ("rows", ⟨.list (rows.map T), none⟩), ("signs", ⟨.dict signD, none⟩), ("right", ⟨.int (r : Nat), none⟩)]
noncomputable abbrev body10 : List Stmt := forBody (nth (forBody (nth (dAt 10).body 1)) 0)
theorem round10 (gv : GV mg mb) {ks : List Nat} {l r : Nat} (hl : l < tree.length) (hr : r < tree.length) (htl : tree.length ≤ 100) (htr : ∀ x ∈ tree, ∃ c ∈ sgL, x = [c]) (hrow : ∀ row ∈ rows, row.length ≤ 20) (hrl : rows.length ≤ 100) (hH : hangAt tree rows l r = true) :
    Sx PW w mg mb (n + 65) (E10 pm code doc Lo ad) (("left", ⟨.int (l : Nat), none⟩) :: ρh tree ks rows r) body10 (ρh tree ks rows r) none := by
  unfold hangAt at hH
  obtain ⟨h1, h2⟩ := bAnd hH
  have hbs : ∀ x ∈ betT tree l r, ∃ c ∈ sgL, x = [c] := fun x h => htr x (betT_sub tree l r x h)
  have hbl := betT_len tree l r
  have hsum := textT_len _ hbs
  have htx := joinT_len [] ((betT tree l r).map fun x => sgT (x.headD 0))
  have hris := rise_le (betT tree l r)
  have e1 : ((l + 1 : Nat) : Int) = (l : Int) + 1 := by omega
  have hsl := slc_mid tree (l + 1) r
  rw [e1] at hsl
  have hbet : slc (tree.map T) (some ((l : Int) + 1)) (some (r : Int)) = (betT tree l r).map T := hsl
  have hxl := at_T tree hl
  have hxr := at_T tree hr
  have gx : ∀ j, j < tree.length → (tree.getD j []).length = 1 := fun j hj => by
    rw [List.getD_eq_getElem?_getD, List.getElem?_eq_getElem hj]
    obtain ⟨c, _, e⟩ := htr _ (List.getElem_mem hj)
    show (tree[j]).length = 1
    rw [e]; rfl
  have ll := gx l hl
  have lr := gx r hr
  generalize tree.getD l [] = xl at *
  generalize tree.getD r [] = xr at *
  have htext : (textT (betT tree l r)).length ≤ 600 := by
    show (joinT [] _).length ≤ 600
    simp only [List.length_nil, Nat.mul_zero, List.length_map] at htx
    omega
  have htextE : textT (betT tree l r) = joinT [] ((betT tree l r).map fun x => sgT (x.headD 0)) := rfl
  generalize betT tree l r = b at *
  have d3 : dots.length = 3 := rfl
  have m1 := mulT_len [41] (riseT b)
  have m2 := mulT_len [40] (-riseT b)
  simp only [List.length_singleton, Nat.mul_one] at m1 m2
  have hk1 : (chkT (textT b ++ [34] ++ mulT [41] (riseT b) ++ [92]) != !(rows.map fun row => emT (dots ++ xl ++ dots ++ xr ++ dots) row).contains true) = false := neOf h1
  have hk2 : (chkT (mulT [40] (-riseT b) ++ textT b) != !(rows.map fun row => emT (dots ++ xl ++ dots ++ xr ++ dots) row).contains false) = false := neOf h2
  refine Sx.cons (St.assign (V := .list (b.map T)) (Ev.of (Ev.sliceL (EvO.var rfl) (EvP.some (Ev.bin (EvO.var rfl) Ev.cint.toO OpB.addI).toO) (EvP.some (EvO.var rfl)) (by rw [List.length_map]; omega)) (congrArg AV.list hbet)) (.inl rfl)) ?_
  refine Sx.cons (St.assign (V := .int (riseT b)) (Ev.bin (Ev.methL (EvO.var rfl) (EvsO.cons (Ev.cT S_op).toO EvsO.nil) F.slot_list_count rfl CallB.countT).toO (Ev.methL (EvO.var rfl) (EvsO.cons (Ev.cT S_cl).toO EvsO.nil) F.slot_list_count rfl CallB.countT).toO OpB.subI) (.inl rfl)) ?_
  refine Sx.cons (St.assign (V := T (textT b)) (Ev.of (Ev.methS (Ev.cT S_e).toO (EvsO.cons (Ev.mapX (rows := b) (f := fun x => sgT (x.headD 0)) (EvIt.list (EvO.var rfl)) (by omega) ⟨rfl, rfl, rfl, rfl⟩ rfl (fun C d hd => ?_)).toO EvsO.nil) F.slot_str_join rfl (CallB.joinT (by simp only [List.length_nil, Nat.mul_zero]; omega))) (congrArg T htextE.symm)) (.inl rfl)) ?_
  · obtain ⟨c, hc, rfl⟩ := hbs d hd
    exact Ev.itemD (EvO.var rfl) (EvO.var (V := T [c]) rfl) (signD_look hc)
  refine Sx.cons (St.assign (V := T (dots ++ xl ++ dots ++ xr ++ dots)) (Ev.bin (Ev.bin (Ev.bin (Ev.bin (Ev.cT S_dots).toO (Ev.itemL (V := T xl) (EvO.var rfl) (EvO.var rfl) hxl (by rw [List.length_map]; omega)).toO (OpB.addT (by rw [d3]; omega))).toO (Ev.cT S_dots).toO (OpB.addT (by simp only [List.length_append, d3]; omega))).toO (Ev.itemL (V := T xr) (EvO.var rfl) (EvO.var rfl) hxr (by rw [List.length_map]; omega)).toO (OpB.addT (by simp only [List.length_append, d3]; omega))).toO (Ev.cT S_dots).toO (OpB.addT (by simp only [List.length_append, d3]; omega))) (.inr ⟨rfl, rfl⟩)) ?_
  have lw : (dots ++ xl ++ dots ++ xr ++ dots).length ≤ 4096 := by simp only [List.length_append, d3]; omega
  generalize dots ++ xl ++ dots ++ xr ++ dots = want at *
  refine Sx.cons (St.mapC (f := fun row => emT want row) (EvIt.list (EvO.var rfl)) (by omega) ⟨rfl, rfl, rfl, rfl⟩ rfl (fun C d hd => ?_) (.inl rfl)) ?_
  · exact Ev.em gv (Ev.var rfl) (Ev.var (V := T d) rfl) lw (by have := hrow d hd; omega) rfl
  refine Sx.cons (St.ifS (c := false) (Tr.of (Tr.cmp (Ev.chk gv (Ev.bin (Ev.bin (Ev.bin (EvO.var rfl) (Ev.cT S_q).toO (OpB.addT (by simp only [List.length_singleton]; omega))).toO (Ev.bin (Ev.cT S_cl).toO (EvO.var rfl) (OpB.mulT (by decide) (by omega) (by omega))).toO (OpB.addT (by simp only [List.length_append, List.length_singleton]; omega))).toO (Ev.cT S_bsl).toO (OpB.addT (by simp only [List.length_append, List.length_singleton]; omega))) (by simp only [List.length_append, List.length_singleton]; omega) rfl).toO
    (Ev.cmp Ev.cbool.toO (EvO.var rfl) OpC.notInB).toO OpC.isNotB) hk1) (fun h => by cases h) (fun _ => Sx.nil)) ?_
  refine Sx.cons (St.ifS (c := false) (Tr.of (Tr.cmp (Ev.chk gv (Ev.bin (Ev.bin (Ev.cT S_op).toO (Ev.un (EvO.var rfl) OpU.neg).toO (OpB.mulT (by decide) (by omega) (by omega))).toO (EvO.var rfl) (OpB.addT (by omega))) (by simp only [List.length_append]; omega) rfl).toO
    (Ev.cmp Ev.cbool.toO (EvO.var rfl) OpC.notInB).toO OpC.isNotB) hk2) (fun h => by cases h) (fun _ => Sx.nil)) ?_
  refine Sx.post Sx.nil ?_
  repeat (first | exact Sub.nil | refine Sub.cons rfl ?_)
end
end Mine
end
section
set_option maxRecDepth 100000
set_option maxHeartbeats 4000000
namespace Mine
variable {w : World} {mg mb : Str → Option Value} {n : Nat} {env : Env} {ρ : PEnv}
/- y = [[f(x), g(x)] for x in texts] -/
theorem St.mapPC {rows : List Tx} {f g : Tx → Bool} {x y : Str} {p1 py spos p2 : Pos} {it elt : PySem.Expr} {scope : Scope} (hit : EvIt PW w mg mb n env ρ false it (rows.map T)) (hrl : rows.length ≤ 1000) (o : ScOk scope env) (hx : scope.names.lookup x = some .local)
    (he : ∀ C, ∀ d ∈ rows, Ev PW w mg mb n (cEnv scope env C) ((x, ⟨T d, none⟩) :: capρ scope env ρ) elt (.list [.bool (f d), .bool (g d)])) (hk : KOk env y)
    (hsw : swapsWith (.ListComp elt [⟨.Name x p1, it, [], 0⟩] scope p2) (some (.Name y py)) spos.line env = pure true := by rfl) (hs : ∀ x, foldedSetIterable it env x = pure x := by intro _; rfl) :
    St PW w mg mb n env ρ (.Assign [.Name y py] (.ListComp elt [⟨.Name x p1, it, [], 0⟩] scope p2) spos) ((y, ⟨.list (rows.map fun d => .list [.bool (f d), .bool (g d)]), none⟩) :: ρ) none := by
  have e : ((rows.map T).filter fun _ => true).map (fun V => AV.list [.bool (f (txOf V)), .bool (g (txOf V))]) = rows.map fun d => AV.list [.bool (f d), .bool (g d)] := by rw [List.filter_eq_self.mpr (fun _ _ => rfl), List.map_map]; rfl
  rw [← e]
  refine St.assignC (fun _ => true) (fun V => AV.list [.bool (f (txOf V)), .bool (g (txOf V))]) hit o (by rw [List.length_map]; omega) hx (fun C V hV => rfl) (fun C V hV _ => ?_) hk hsw hs
  obtain ⟨d, hd', rfl⟩ := List.mem_map.mp hV
  exact he C d hd'
theorem Ev.mapPC {rows : List Tx} {f g : Tx → Bool} {x : Str} {p1 p2 : Pos} {it elt : PySem.Expr} {scope : Scope} (hit : EvIt PW w mg mb n env ρ false it (rows.map T)) (hrl : rows.length ≤ 1000) (o : ScOk scope env) (hx : scope.names.lookup x = some .local)
    (he : ∀ C, ∀ d ∈ rows, Ev PW w mg mb n (cEnv scope env C) ((x, ⟨T d, none⟩) :: capρ scope env ρ) elt (.list [.bool (f d), .bool (g d)]))
    (hs : ∀ x, foldedSetIterable it env x = pure x := by intro _; rfl) :
    Ev PW w mg mb n env ρ (.ListComp elt [⟨.Name x p1, it, [], 0⟩] scope p2) (.list (rows.map fun d => .list [.bool (f d), .bool (g d)])) := by
  have e : (rows.map T).map (fun V => AV.list [.bool (f (txOf V)), .bool (g (txOf V))]) = rows.map fun d => AV.list [.bool (f d), .bool (g d)] := by rw [List.map_map]; rfl
  rw [← e]
  refine Ev.comp0 (fun V => AV.list [.bool (f (txOf V)), .bool (g (txOf V))]) hit o (by rw [List.length_map]; omega) hx (fun C V hV => ?_) hs
  obtain ⟨d, hd', rfl⟩ := List.mem_map.mp hV
  exact he C d hd'
theorem flatP (rows : List Tx) (f g f' g' : Tx → Bool) : FlatLL (rows.map fun d => .list [.bool (f d), .bool (g d)]) (rows.map fun d => .list [.bool (f' d), .bool (g' d)]) := fun V hV W hW => by
  obtain ⟨d, _, rfl⟩ := List.mem_map.mp hV
  obtain ⟨e, _, rfl⟩ := List.mem_map.mp hW
  exact ⟨_, _, rfl, rfl, flatB [f d, g d] [f' e, g' e]⟩
theorem zipP (f g f' g' : Tx → Bool) : ∀ rows : List Tx, (∀ d ∈ rows, f d = f' d ∧ g d = g' d) → zipAll eqv1 (rows.map fun d => AV.list [.bool (f d), .bool (g d)]) (rows.map fun d => AV.list [.bool (f' d), .bool (g' d)]) = true
  | [], _ => rfl
  | d :: r, h => by
    obtain ⟨a, b⟩ := h d (List.mem_cons_self ..)
    show (zipAll eqv0 [.bool (f d), .bool (g d)] [.bool (f' d), .bool (g' d)] && _) = true
    have hz : zipAll eqv0 [.bool (f d), .bool (g d)] [.bool (f' d), .bool (g' d)] = true := by
      show zipAll eqv0 ([f d, g d].map AV.bool) ([f' d, g' d].map AV.bool) = true
      rw [zipB, a, b]; simp
    rw [hz, Bool.true_and]
    exact zipP f g f' g' r fun e he => h e (List.mem_cons_of_mem _ he)
section
variable (tree rows : List Tx) (ks : List Nat) (pm code doc : Value) (Lo ad : Addr)
noncomputable abbrev ρg (tree : List Tx) (ks : List Nat) (rows : List Tx) : PEnv := [("tree", ⟨.list (tree.map T), none⟩), ("spots", ⟨.list (iN ks), none⟩), ("rows", ⟨.list (rows.map T), none⟩), ("signs", ⟨.dict signD, none⟩)]
theorem inner10 (gv : GV mg mb) {r : Nat} (hr : r < tree.length) (htl : tree.length ≤ 100) (htr : ∀ x ∈ tree, ∃ c ∈ sgL, x = [c]) (hrow : ∀ row ∈ rows, row.length ≤ 20) (hrl : rows.length ≤ 100) (hkl : ks.length ≤ 100) (hks : ∀ k ∈ ks, k < tree.length)
    (hin : ∀ l ∈ ks.filter (Nat.blt · r), hangAt tree rows l r = true) :
    St PW w mg mb (n + 65) (E10 pm code doc Lo ad) (ρh tree ks rows r) (nth (forBody (nth (dAt 10).body 1)) 0) (ρh tree ks rows r) none := by
  have hfl : (ks.filter (Nat.blt · r)).length ≤ 100 := Nat.le_trans (List.length_filter_le _ _) hkl
  have hsub : ∀ l, l ∈ ks.filter (Nat.blt · r) → l ∈ ks := fun l h => (List.mem_filter.mp h).1
  have hI : EvIt PW w mg mb (n + 65) (E10 pm code doc Lo ad) (ρh tree ks rows r) true (forIter (nth (forBody (nth (dAt 10).body 1)) 0)) (iN (ks.filter (Nat.blt · r))) :=
    EvIt.listS (Ev.belowC (EvIt.list (EvO.var rfl)) (by omega) ⟨rfl, rfl, rfl, rfl⟩ rfl (fun C d hd => Tr.cmp (EvO.var rfl) (EvO.var rfl) OpC.ltI) rfl)
  generalize ks.filter (Nat.blt · r) = fl at *
  refine St.forC (x := "left") (Vs := iN fl) (fun _ => ρh tree ks rows r) fl.length (by simp) hI ?_ (.inl rfl) (fun i V hi hV => ?_) (.inl ⟨by simp, rfl, rfl⟩)
  · repeat (first | exact Sub.nil | refine Sub.cons rfl ?_)
  · obtain ⟨l, hl, rfl⟩ : ∃ k, fl[i]? = some k ∧ AV.int (k : Nat) = V := by simpa using hV
    have hm := List.mem_of_getElem? hl
    exact round10 tree rows pm code doc Lo ad gv (hks l (hsub l hm)) hr htl htr hrow hrl (hin l hm)
end
end Mine
end
section
set_option maxRecDepth 100000
set_option maxHeartbeats 1000000
namespace Mine
variable {w : World} {mg mb : Str → Option Value} {n : Nat} {env : Env} {ρ : PEnv}
section
variable (tree rows : List Tx) (ks : List Nat) (pm code doc : Value) (Lo ad : Addr)
theorem outer10 (gv : GV mg mb) (htl : tree.length ≤ 100) (htr : ∀ x ∈ tree, ∃ c ∈ sgL, x = [c]) (hrow : ∀ row ∈ rows, row.length ≤ 20) (hrl : rows.length ≤ 100) (hkl : ks.length ≤ 100) (hks : ∀ k ∈ ks, k < tree.length)
    (hin : ∀ r ∈ ks, ∀ l ∈ ks.filter (Nat.blt · r), hangAt tree rows l r = true) :
    St PW w mg mb (n + 65) (E10 pm code doc Lo ad) (ρg tree ks rows) (nth (dAt 10).body 1) (ρg tree ks rows) none := by
  refine St.forC (x := "right") (Vs := iN ks) (fun _ => ρg tree ks rows) ks.length (by simp) (EvIt.listS (Ev.var rfl)) ?_ (.inr ⟨rfl, rfl⟩) (fun i V hi hV => ?_) (.inl ⟨by simp, rfl, rfl⟩)
  · repeat (first | exact Sub.nil | refine Sub.cons rfl ?_)
  · obtain ⟨r, hr, rfl⟩ : ∃ k, ks[i]? = some k ∧ AV.int (k : Nat) = V := by simpa using hV
    have hm := List.mem_of_getElem? hr
    refine Sx.post (Sx.pre ?_ (Sx.cons (inner10 tree rows ks pm code doc Lo ad gv (hks r hm) htl htr hrow hrl hkl hks (hin r hm)) Sx.nil)) ?_
    · repeat (first | exact Sub.nil | refine Sub.cons rfl ?_)
    · repeat (first | exact Sub.nil | refine Sub.cons rfl ?_)
noncomputable abbrev ρ1 (tree : List Tx) (ks : List Nat) (rows : List Tx) (said : Tx) : PEnv := ("said", ⟨T said, none⟩) :: ρg tree ks rows
noncomputable abbrev ρ2 (tree : List Tx) (ks : List Nat) (rows : List Tx) (said : Tx) (oft : Nat) : PEnv := ("often", ⟨.int (oft : Nat), none⟩) :: ρ1 tree ks rows said
noncomputable abbrev told1 (said : Tx) (oft : Nat) (rows : List Tx) : AV := .list (rows.map fun d => .list [.bool (emT said (mulT d ((oft : Int) - 1))), .bool (emT said (mulT d (oft : Int)))])
noncomputable abbrev ρ3 (tree : List Tx) (ks : List Nat) (rows : List Tx) (said : Tx) (oft : Nat) : PEnv := ("told", ⟨told1 said oft rows, none⟩) :: ρ2 tree ks rows said oft
theorem gx10 {tree : List Tx} (htr : ∀ x ∈ tree, ∃ c ∈ sgL, x = [c]) {j : Nat} (hj : j < tree.length) : (tree.getD j []).length = 1 := by
  rw [List.getD_eq_getElem?_getD, List.getElem?_eq_getElem hj]
  obtain ⟨c, _, e⟩ := htr _ (List.getElem_mem hj)
  show (tree[j]).length = 1
  rw [e]; rfl
theorem said10 (htl : tree.length ≤ 100) (htr : ∀ x ∈ tree, ∃ c ∈ sgL, x = [c]) (hkl : ks.length ≤ 100) (hks : ∀ k ∈ ks, k < tree.length) :
    St PW w mg mb (n + 65) (E10 pm code doc Lo ad) (ρg tree ks rows) (nth (dAt 10).body 2) (ρ1 tree ks rows (saidT tree ks)) none := by
  have d3 : dots.length = 3 := rfl
  have hss : ((ks.map fun k => tree.getD k []).map List.length).sum ≤ 100 := by
    have h := sum_le (l := ks.map fun k => tree.getD k []) (b := 1) (fun y hy => by
      obtain ⟨k, hk, rfl⟩ := List.mem_map.mp hy
      exact Nat.le_of_eq (gx10 htr (hks k hk)))
    rw [List.length_map] at h; omega
  have hjl := joinT_len dots (ks.map fun k => tree.getD k [])
  rw [List.length_map, d3] at hjl
  have hj2 : (ks.map fun k => tree.getD k []).length = ks.length := List.length_map ..
  refine St.assign (Ev.of (Ev.bin (Ev.bin (Ev.cT S_dots).toO (Ev.methS (Ev.cT S_dots).toO (EvsO.cons (Ev.mapN (ks := ks) (f := fun k => tree.getD k []) (EvIt.list (EvO.var rfl)) (by omega) ⟨rfl, rfl, rfl, rfl⟩ rfl (fun C d hd => ?_)).toO EvsO.nil) F.slot_str_join rfl (CallB.joinT (by rw [hj2, d3]; omega))).toO (OpB.addT (by rw [d3]; omega))).toO (Ev.cT S_dots).toO (OpB.addT (by rw [List.length_append, d3]; omega))) rfl) (.inr ⟨rfl, rfl⟩)
  exact Ev.itemL (V := T (tree.getD d [])) (EvO.var rfl) (EvO.var rfl) (at_T tree (hks d hd)) (by rw [List.length_map]; omega)
theorem often10 {said : Tx} (htl : tree.length ≤ 100) (hkl : ks.length ≤ 100) (hks : ∀ k ∈ ks, k < tree.length) (hk1 : ∀ k ∈ ks, 1 ≤ k) :
    St PW w mg mb (n + 65) (E10 pm code doc Lo ad) (ρ1 tree ks rows said) (nth (dAt 10).body 3) (ρ2 tree ks rows said (oftenT tree ks)) none := by
  refine St.assign (Ev.of (Ev.methL (Ev.mapN (ks := ks) (f := fun k => tree.getD (k - 1) []) (EvIt.list (EvO.var rfl)) (by omega) ⟨rfl, rfl, rfl, rfl⟩ rfl (fun C d hd => ?_)).toO (EvsO.cons (Ev.cT S_op).toO EvsO.nil) F.slot_list_count rfl CallB.countT) rfl) (.inr ⟨rfl, rfl⟩)
  have h1 := hks d hd
  have h2 := hk1 d hd
  have e : ((d - 1 : Nat) : Int) = (d : Int) - 1 := by omega
  have h := at_T tree (k := d - 1) (by omega)
  rw [e] at h
  exact Ev.itemL (V := T (tree.getD (d - 1) [])) (EvO.var rfl) (Ev.bin (EvO.var rfl) Ev.cint.toO OpB.subI).toO h (by rw [List.length_map]; omega)
theorem told10 (gv : GV mg mb) {said : Tx} {oft : Nat} (hsl : said.length ≤ 4096) (ho : oft ≤ 100) (hrow : ∀ row ∈ rows, row.length ≤ 20) (hrl : rows.length ≤ 100) :
    St PW w mg mb (n + 65) (E10 pm code doc Lo ad) (ρ2 tree ks rows said oft) (nth (dAt 10).body 4) (ρ3 tree ks rows said oft) none := by
  refine St.mapPC (f := fun d => emT said (mulT d ((oft : Int) - 1))) (g := fun d => emT said (mulT d (oft : Int))) (EvIt.list (EvO.var rfl)) (by omega) ⟨rfl, rfl, rfl, rfl⟩ rfl (fun C d hd => ?_) (.inl rfl)
  have hd1 := hrow d hd
  have b1 : (mulT d ((oft : Int) - 1)).length ≤ 4096 := by
    rw [mulT_len]
    have : ((oft : Int) - 1).toNat * d.length ≤ 100 * 20 := Nat.mul_le_mul (by omega) hd1
    omega
  have b2 : (mulT d (oft : Int)).length ≤ 4096 := by
    rw [mulT_len]
    have : ((oft : Int)).toNat * d.length ≤ 100 * 20 := Nat.mul_le_mul (by omega) hd1
    omega
  exact Ev.list (Evs.cons (Ev.em gv (Ev.var rfl) (Ev.bin (EvO.var (V := T d) rfl) (Ev.bin (EvO.var rfl) Ev.cint.toO OpB.subI).toO (OpB.mulT (by omega) (by omega) (by omega))) hsl b1 rfl) (Evs.cons (Ev.em gv (Ev.var rfl) (Ev.bin (EvO.var (V := T d) rfl) (EvO.var rfl) (OpB.mulT (by omega) (by omega) (by omega))) hsl b2 rfl) Evs.nil))
end
end Mine
end
section
set_option maxRecDepth 100000
set_option maxHeartbeats 1000000
namespace Mine
variable {w : World} {mg mb : Str → Option Value} {n : Nat} {env : Env} {ρ : PEnv}
section
variable (tree rows : List Tx) (ks : List Nat) (pm code doc : Value) (Lo ad : Addr)
theorem ret10 {said : Tx} {oft : Nat} (hrl : rows.length ≤ 100) (ht : ∀ d ∈ rows, emT said (mulT d ((oft : Int) - 1)) = false ∧ emT said (mulT d (oft : Int)) = true) :
    St PW w mg mb (n + 65) (E10 pm code doc Lo ad) (ρ3 tree ks rows said oft) (nth (dAt 10).body 5) (ρ3 tree ks rows said oft) (some (.bool true)) := by
  refine St.ret (Ev.of (Ev.cmp (EvO.var rfl) (Ev.mapPC (rows := rows) (f := fun _ => false) (g := fun _ => true) (EvIt.list (EvO.var rfl)) (by omega) ⟨rfl, rfl, rfl, rfl⟩ rfl (fun C d hd => ?_)).toO (OpC.eqLL (flatP _ _ _ _ _))) ?_)
  · exact Ev.list (Evs.cons Ev.cbool (Evs.cons Ev.cbool Evs.nil))
  · exact congrArg AV.bool (zipP _ _ _ _ rows ht)
theorem hang_parts {tree rows : List Tx} {ks : List Nat} (h : hangT tree ks rows = true) : (∀ k ∈ ks, k < tree.length) ∧ (∀ k ∈ ks, 1 ≤ k) ∧ (∀ r ∈ ks, ∀ l ∈ ks.filter (Nat.blt · r), hangAt tree rows l r = true) ∧
    ∀ d ∈ rows, emT (saidT tree ks) (mulT d ((oftenT tree ks : Int) - 1)) = false ∧ emT (saidT tree ks) (mulT d (oftenT tree ks : Int)) = true := by
  unfold hangT at h
  obtain ⟨h, h3⟩ := bAnd h
  obtain ⟨h1, h2⟩ := bAnd h
  refine ⟨fun k hk => ?_, fun k hk => ?_, fun r hr l hl => List.all_eq_true.mp (List.all_eq_true.mp h2 r hr) l hl, fun d hd => ?_⟩
  · exact Nat.le_of_ble_eq_true (bAnd (List.all_eq_true.mp h1 k hk)).2
  · exact Nat.le_of_ble_eq_true (bAnd (List.all_eq_true.mp h1 k hk)).1
  · have := List.all_eq_true.mp h3 d hd
    unfold toldT at this
    exact ⟨notT (bAnd this).1, (bAnd this).2⟩
theorem body10L : (dAt 10).body = [nth (dAt 10).body 0, nth (dAt 10).body 1, nth (dAt 10).body 2, nth (dAt 10).body 3, nth (dAt 10).body 4, nth (dAt 10).body 5] := rfl
noncomputable def tgtP : Stmt → Pos | .Assign [.Name _ p] _ _ => p | _ => default
noncomputable def stP : Stmt → Pos | .Assign _ _ p => p | _ => default
theorem asg : nth (dAt 10).body 0 = .Assign [.Name "signs" (tgtP (nth (dAt 10).body 0))] (valOf (nth (dAt 10).body 0)) (stP (nth (dAt 10).body 0)) := rfl
theorem swp : swapsWith (valOf (nth (dAt 10).body 0)) (some (.Name "signs" (tgtP (nth (dAt 10).body 0)))) (stP (nth (dAt 10).body 0)).line (E10 pm code doc Lo ad) = pure false := by rfl
theorem kok10 : KOk (E10 pm code doc Lo ad) "signs" := .inr ⟨rfl, rfl⟩
theorem sign10 {ρ : PEnv} : St PW w mg mb (n + 65) (E10 pm code doc Lo ad) ρ (nth (dAt 10).body 0) (("signs", ⟨.dict signD, none⟩) :: ρ) none := by
  have h : Ev PW w mg mb (n + 65) (E10 pm code doc Lo ad) ρ (valOf (nth (dAt 10).body 0)) (AV.dict signD) := @signs10 w mg mb (n + 65) pm code doc Lo ad ρ
  have hs := swp pm code doc Lo ad
  have hk := kok10 pm code doc Lo ad
  rw [asg]
  generalize valOf (nth (dAt 10).body 0) = e at *
  generalize tgtP (nth (dAt 10).body 0) = p at *
  generalize stP (nth (dAt 10).body 0) = pos at *
  generalize E10 pm code doc Lo ad = ev at *
  generalize signD = D at *
  exact St.assign h hk hs
theorem spec10 (gv : GV mg mb) (htl : tree.length ≤ 100) (htr : ∀ x ∈ tree, ∃ c ∈ sgL, x = [c]) (hrow : ∀ row ∈ rows, row.length ≤ 20) (hrl : rows.length ≤ 100) (hkl : ks.length ≤ 100) (hH : hangT tree ks rows = true) :
    Spec PW w mg mb (n + 66) "_law_hang" [.list (tree.map T), .list (iN ks), .list (rows.map T)] (.bool true) := by
  obtain ⟨h1, h2, h3, h4⟩ := hang_parts hH
  refine Spec.intro (dAt_mem (k := 10) (by decide)) rfl ok10 rfl rfl fun pm code doc Lo ad => ?_
  show ∃ ρ', Sx PW w mg mb (n + 65) (E10 pm code doc Lo ad) [("tree", ⟨.list (tree.map T), none⟩), ("spots", ⟨.list (iN ks), none⟩), ("rows", ⟨.list (rows.map T), none⟩)] (dAt 10).body ρ' _
  have ho : oftenT tree ks ≤ 100 := by
    unfold oftenT
    exact Nat.le_trans List.countP_le_length (by rw [List.length_map]; omega)
  have hsl : (saidT tree ks).length ≤ 4096 := by
    have d3 : dots.length = 3 := rfl
    have hss : ((ks.map fun k => tree.getD k []).map List.length).sum ≤ 100 := by
      have h := sum_le (l := ks.map fun k => tree.getD k []) (b := 1) (fun y hy => by
        obtain ⟨k, hk, rfl⟩ := List.mem_map.mp hy
        exact Nat.le_of_eq (gx10 htr (h1 k hk)))
      rw [List.length_map] at h; omega
    have hjl := joinT_len dots (ks.map fun k => tree.getD k [])
    rw [List.length_map, d3] at hjl
    unfold saidT
    rw [List.length_append, List.length_append, d3]; omega
  rw [body10L]
  generalize hsd : saidT tree ks = said at *
  generalize hof : oftenT tree ks = oft at *
  have s1 : St PW w mg mb (n + 65) (E10 pm code doc Lo ad) [("tree", ⟨.list (tree.map T), none⟩), ("spots", ⟨.list (iN ks), none⟩), ("rows", ⟨.list (rows.map T), none⟩)] (nth (dAt 10).body 0) (("signs", ⟨.dict signD, none⟩) :: [("tree", ⟨.list (tree.map T), none⟩), ("spots", ⟨.list (iN ks), none⟩), ("rows", ⟨.list (rows.map T), none⟩)]) none := @sign10 w mg mb n pm code doc Lo ad _
  have s2 : St PW w mg mb (n + 65) (E10 pm code doc Lo ad) (ρg tree ks rows) (nth (dAt 10).body 1) (ρg tree ks rows) none := @outer10 w mg mb n tree rows ks pm code doc Lo ad gv htl htr hrow hrl hkl h1 h3
  have s3 : St PW w mg mb (n + 65) (E10 pm code doc Lo ad) (ρg tree ks rows) (nth (dAt 10).body 2) (ρ1 tree ks rows said) none := hsd ▸ @said10 w mg mb n tree rows ks pm code doc Lo ad htl htr hkl h1
  have s4 : St PW w mg mb (n + 65) (E10 pm code doc Lo ad) (ρ1 tree ks rows said) (nth (dAt 10).body 3) (ρ2 tree ks rows said oft) none := hof ▸ @often10 w mg mb n tree rows ks pm code doc Lo ad said htl hkl h1 h2
  have s5 : St PW w mg mb (n + 65) (E10 pm code doc Lo ad) (ρ2 tree ks rows said oft) (nth (dAt 10).body 4) (ρ3 tree ks rows said oft) none := @told10 w mg mb n tree rows ks pm code doc Lo ad gv said oft hsl ho hrow hrl
  have s6 : St PW w mg mb (n + 65) (E10 pm code doc Lo ad) (ρ3 tree ks rows said oft) (nth (dAt 10).body 5) (ρ3 tree ks rows said oft) (some (.bool true)) := @ret10 w mg mb n tree rows ks pm code doc Lo ad said oft hrl h4
  generalize nth (dAt 10).body 0 = b0 at *
  generalize nth (dAt 10).body 1 = b1 at *
  generalize nth (dAt 10).body 2 = b2 at *
  generalize nth (dAt 10).body 3 = b3 at *
  generalize nth (dAt 10).body 4 = b4 at *
  generalize nth (dAt 10).body 5 = b5 at *
  generalize E10 pm code doc Lo ad = ev at *
  have hsub : Sub (ρg tree ks rows) (("signs", ⟨.dict signD, none⟩) :: [("tree", ⟨.list (tree.map T), none⟩), ("spots", ⟨.list (iN ks), none⟩), ("rows", ⟨.list (rows.map T), none⟩)]) := by
    repeat (first | exact Sub.nil | refine Sub.cons rfl ?_)
  generalize ρ3 tree ks rows said oft = r3 at *
  generalize ρ2 tree ks rows said oft = r2 at *
  generalize ρ1 tree ks rows said = r1 at *
  generalize ρg tree ks rows = r0 at *
  exact ⟨r3, Sx.cons s1 (Sx.pre hsub (Sx.cons s2 (Sx.cons s3 (Sx.cons s4 (Sx.cons s5 (Sx.stop s6))))))⟩
end
end Mine
end
section
set_option maxRecDepth 100000
set_option maxHeartbeats 4000000
namespace Mine
/- a quicker way to say emT, for the kernel -/
noncomputable def aft1 (p : Tx) : Tx → Option Tx :=
  p.rec (motive := fun _ => Tx → Option Tx) some (fun a _ ih x => x.rec (motive := fun _ => Option Tx) none (fun b x' _ => cond (Nat.beq a b) (ih x') none))
noncomputable def aft (p : Tx) (x : Tx) : Option Tx :=
  x.rec (motive := fun _ => Option Tx) (aft1 p []) (fun b x' ih => (aft1 p (b :: x')).rec (motive := fun _ => Option Tx) ih some)
noncomputable def seqF (ps : List Tx) : Tx → Bool :=
  ps.rec (motive := fun _ => Tx → Bool) (fun _ => true) (fun p _ ih x => (aft p x).rec (motive := fun _ => Bool) false ih)
theorem aft1_eq : ∀ (p x : Tx), aft1 p x = if x.take p.length = p then some (x.drop p.length) else none
  | [], x => by simp [aft1]
  | a :: p, [] => by rw [if_neg (by simp)]; rfl
  | a :: p, b :: x => by
    show cond (Nat.beq a b) (aft1 p x) none = _
    rw [aft1_eq p x]
    by_cases h : a = b
    · subst h
      have : Nat.beq a a = true := Nat.beq_refl a
      rw [this]; simp
    · have : Nat.beq a b = false := by
        cases hb : Nat.beq a b with
        | false => rfl
        | true => exact absurd (Nat.eq_of_beq_eq_true hb) h
      rw [this]
      have h' : ¬ b = a := fun e => h e.symm
      simp [h']
theorem aft_eq (p : Tx) : ∀ x : Tx, aft p x = ((List.range (x.length + 1)).find? fun i => (x.drop i).take p.length == p).map fun i => x.drop (i + p.length)
  | [] => by
    show aft1 p [] = _
    rw [aft1_eq]
    cases p with
    | nil => rfl
    | cons a p => simp [List.range_succ_eq_map]
  | b :: x => by
    have e : aft p (b :: x) = match aft1 p (b :: x) with | some r => some r | none => aft p x := by
      show (aft1 p (b :: x)).rec (motive := fun _ => Option Tx) (aft p x) some = _
      cases aft1 p (b :: x) <;> rfl
    rw [e, aft1_eq, aft_eq p x, List.length_cons, List.range_succ_eq_map (n := x.length + 1), List.find?_cons]
    by_cases h : (b :: x).take p.length = p
    · have h2 : (((b :: x).drop 0).take p.length == p) = true := by rw [List.drop_zero]; exact beq_iff_eq.mpr h
      rw [if_pos h, h2]; simp
    · have h2 : (((b :: x).drop 0).take p.length == p) = false := by rw [List.drop_zero]; exact beq_eq_false_iff_ne.mpr h
      rw [if_neg h, h2, List.find?_map]
      simp only [Option.map_map]
      have e2 : ((fun i => ((b :: x).drop i).take p.length == p) ∘ Nat.succ) = fun i => (x.drop i).take p.length == p := by funext i; simp
      rw [e2]
      congr 1
      funext i
      show x.drop (i + p.length) = (b :: x).drop (i + 1 + p.length)
      rw [Nat.add_right_comm]; rfl
theorem find_congr {p q : Nat → Bool} : ∀ {l : List Nat}, (∀ i ∈ l, p i = q i) → l.find? p = l.find? q
  | [], _ => rfl
  | a :: l, h => by
    rw [List.find?_cons, List.find?_cons, h a (List.mem_cons_self ..), find_congr fun i hi => h i (List.mem_cons_of_mem _ hi)]
theorem find_eq (x y : Tx) {lo hi : Nat} (h1 : lo ≤ hi) (h2 : hi ≤ x.length) : findT x y lo hi = ((List.range (((x.take hi).drop lo).length + 1)).find? fun i => (((x.take hi).drop lo).drop i).take y.length == y).map (lo + ·) := by
  unfold findT
  have hl : ((x.take hi).drop lo).length = hi - lo := by rw [List.length_drop, List.length_take]; omega
  have e : List.range' lo (hi + 1 - lo) = (List.range (hi - lo + 1)).map (lo + ·) := by
    rw [show hi + 1 - lo = hi - lo + 1 by omega, List.range_eq_range', List.map_add_range']; rfl
  rw [hl, e, List.find?_map]
  congr 1
  refine find_congr fun i hi0 => ?_
  have hi1 := List.mem_range.mp hi0
  show hitT x y hi (lo + i) = _
  unfold hitT
  rw [List.drop_drop, List.drop_take, List.take_take]
  by_cases h : lo + i + y.length ≤ hi
  · have hb : Nat.ble (lo + i + y.length) hi = true := Nat.ble_eq_true_of_le h
    rw [hb, Bool.true_and, Nat.min_eq_left (by omega)]
  · have hb : Nat.ble (lo + i + y.length) hi = false := by
      cases hb : Nat.ble (lo + i + y.length) hi with
      | false => rfl
      | true => exact absurd (Nat.le_of_ble_eq_true hb) h
    rw [hb, Bool.false_and]
    symm
    rw [beq_eq_false_iff_ne]
    intro q
    have := congrArg List.length q
    rw [List.length_take, List.length_drop] at this
    have h3 := Nat.min_le_left (min y.length (hi - (lo + i))) (x.length - (lo + i))
    have h4 := Nat.min_le_right y.length (hi - (lo + i))
    omega
theorem emL_eq (got : Tx) {hi : Nat} (h2 : hi ≤ got.length) : ∀ (ws : List Tx) {st : Nat}, st ≤ hi → emL got hi ws st = seqF ws ((got.take hi).drop st)
  | [], _, _ => rfl
  | p :: ws, st, h1 => by
    have e : seqF (p :: ws) ((got.take hi).drop st) = match aft p ((got.take hi).drop st) with | some r => seqF ws r | none => false := by
      show (aft p ((got.take hi).drop st)).rec (motive := fun _ => Bool) false (seqF ws) = _
      cases aft p ((got.take hi).drop st) <;> rfl
    rw [e]
    unfold emL
    have hb : ∀ i, findT got p st hi = some i → i + p.length ≤ hi := fun i h => by
      have := List.find?_some h
      unfold hitT at this
      exact Nat.le_of_ble_eq_true (Bool.and_eq_true_iff.mp this).1
    rw [aft_eq]
    have hf := find_eq got p h1 h2
    cases hc : (List.range (((got.take hi).drop st).length + 1)).find? (fun i => (((got.take hi).drop st).drop i).take p.length == p) with
    | none => rw [hc] at hf; rw [hf]; rfl
    | some i =>
      rw [hc] at hf
      have hf' : findT got p st hi = some (st + i) := hf
      rw [hf']
      show emL got hi ws (st + i + p.length) = seqF ws (((got.take hi).drop st).drop (i + p.length))
      rw [emL_eq got h2 ws (hb _ hf'), List.drop_drop]
      congr 2; omega
noncomputable def eqF (x : Tx) : Tx → Bool :=
  x.rec (motive := fun _ => Tx → Bool) (fun y => y.rec (motive := fun _ => Bool) true fun _ _ _ => false) (fun a _ ih y => y.rec (motive := fun _ => Bool) false (fun b y' _ => cond (Nat.beq a b) (ih y') false))
theorem eqF_eq : ∀ x y : Tx, eqF x y = (x == y)
  | [], [] => rfl
  | [], _ :: _ => rfl
  | _ :: _, [] => rfl
  | a :: x, b :: y => by
    show cond (Nat.beq a b) (eqF x y) false = _
    rw [eqF_eq x y, List.cons_beq_cons]
    have : Nat.beq a b = (a == b) := by
      by_cases h : a = b
      · subst h; rw [Nat.beq_refl]; simp
      · rw [beq_eq_false_iff_ne.mpr h]
        cases hb : Nat.beq a b with
        | false => rfl
        | true => exact absurd (Nat.eq_of_beq_eq_true hb) h
    rw [this]
    cases (a == b) <;> rfl
noncomputable def emS (mids : List Tx) (z r : Tx) : Bool :=
  z.rec (motive := fun _ => Bool) (seqF mids r) fun _ _ _ => cond (Nat.ble z.length r.length) (cond (eqF (r.drop (r.length - z.length)) z) (seqF mids (r.take (r.length - z.length))) false) false
noncomputable def emQ (ws : List Tx) (got : Tx) : Bool :=
  (aft1 (ws.headD []) got).rec (motive := fun _ => Bool) false fun r => emS ws.tail.dropLast (ws.getLastD []) r
theorem seqF_nil (ps : List Tx) (x : Tx) : seqF ([] :: ps) x = seqF ps x := by
  show (aft [] x).rec (motive := fun _ => Bool) false (seqF ps) = _
  have : aft [] x = some x := by
    cases x with
    | nil => rfl
    | cons a x => rfl
  rw [this]
theorem seqF_snoc : ∀ (ps : List Tx) (x : Tx), seqF (ps ++ [[]]) x = seqF ps x
  | [], x => seqF_nil [] x
  | p :: ps, x => by
    show (aft p x).rec (motive := fun _ => Bool) false (seqF (ps ++ [[]])) = (aft p x).rec (motive := fun _ => Bool) false (seqF ps)
    have : seqF (ps ++ [[]]) = seqF ps := funext (seqF_snoc ps)
    rw [this]
theorem emP_eq (ws : List Tx) (got : Tx) (h : 2 ≤ ws.length) : emP ws got = emQ ws got := by
  obtain ⟨a, m, z, rfl⟩ : ∃ a m z, ws = a :: (m ++ [z]) := by
    cases ws with
    | nil => simp at h
    | cons a r =>
      have hr : r ≠ [] := fun e => by rw [e] at h; simp at h
      exact ⟨a, r.dropLast, r.getLast hr, by rw [List.dropLast_concat_getLast]⟩
  have hz : (a :: (m ++ [z])).getLastD [] = z := by
    rw [List.getLastD_eq_getLast?]
    have : (a :: (m ++ [z])) = (a :: m) ++ [z] := rfl
    rw [this, List.getLast?_concat]; rfl
  have hmid : (a :: (m ++ [z])).tail.dropLast = m := by simp
  have hhd : (a :: (m ++ [z])).headD [] = a := rfl
  have htl : (a :: (m ++ [z])).tail = m ++ [z] := rfl
  have e2 : (a :: (m ++ [z])).dropLast = a :: m := by
    have : (a :: (m ++ [z])) = (a :: m) ++ [z] := rfl
    rw [this, List.dropLast_concat]
  have e3 : (m ++ [z]).dropLast = m := List.dropLast_concat
  unfold emQ
  rw [hz, hmid, hhd, aft1_eq]
  unfold emP
  simp only [hz, hhd, htl]
  have hpre : (a.isEmpty || preT got a) = decide (got.take a.length = a) := by
    unfold preT
    cases a with
    | nil => simp
    | cons b a => rw [Bool.eq_iff_iff]; simp
  rw [hpre]
  by_cases hp : got.take a.length = a
  · rw [if_pos hp, decide_eq_true hp]
    have hal : a.length ≤ got.length := by
      have := congrArg List.length hp
      rw [List.length_take] at this; omega
    show (if !(z.isEmpty || sufT got z) then false else _) = emS m z (got.drop a.length)
    -- the list without its ends
    have hw : ∀ r st hi, st ≤ hi → hi ≤ got.length → r = (got.take hi).drop st → emL got hi (if z.isEmpty then (if a.isEmpty then a :: (m ++ [z]) else m ++ [z]) else (if a.isEmpty then a :: (m ++ [z]) else m ++ [z]).dropLast) st = seqF m r := fun r st hi h1 h2 hr => by
      rw [emL_eq got h2 _ h1, ← hr]
      cases z with
      | nil =>
        cases a with
        | nil => show seqF ([] :: (m ++ [[]])) r = _; rw [seqF_nil, seqF_snoc]
        | cons b a => show seqF (m ++ [[]]) r = _; rw [seqF_snoc]
      | cons c z =>
        cases a with
        | nil => show seqF (([] :: (m ++ [c :: z])).dropLast) r = _; rw [e2, seqF_nil]
        | cons b a => show seqF ((m ++ [c :: z]).dropLast) r = _; rw [e3]
    have hrl : (got.drop a.length).length = got.length - a.length := List.length_drop
    cases z with
    | nil =>
      show (if decide (got.length < a.length + 0) then false else _) = seqF m (got.drop a.length)
      rw [if_neg (by simpa using hal)]
      refine hw _ _ _ (by simpa using hal) (by simp) ?_
      simp
    | cons c z =>
      show _ = cond (Nat.ble (c :: z).length (got.drop a.length).length) _ false
      have hs : (List.isEmpty (c :: z) || sufT got (c :: z)) = (Nat.ble (c :: z).length got.length && (got.drop (got.length - (c :: z).length) == c :: z)) := rfl
      rw [hs]
      by_cases hl : a.length + (c :: z).length ≤ got.length
      · have hb : Nat.ble (c :: z).length (got.drop a.length).length = true := Nat.ble_eq_true_of_le (by rw [hrl]; omega)
        have hb2 : Nat.ble (c :: z).length got.length = true := Nat.ble_eq_true_of_le (by omega)
        rw [hb, hb2]
        show _ = cond (eqF _ _) _ false
        rw [eqF_eq, hrl, List.drop_drop, show a.length + (got.length - a.length - (c :: z).length) = got.length - (c :: z).length by omega, Bool.true_and]
        cases hq : (got.drop (got.length - (c :: z).length) == c :: z) with
        | false => rfl
        | true =>
          show (if decide (got.length < a.length + (c :: z).length) then false else _) = seqF m _
          rw [if_neg (by simp only [decide_eq_true_eq]; omega)]
          refine hw _ _ _ (by omega) (by omega) ?_
          rw [List.drop_take]
          congr 1; omega
      · have hb : Nat.ble (c :: z).length (got.drop a.length).length = false := by
          cases hb : Nat.ble (c :: z).length (got.drop a.length).length with
          | false => rfl
          | true => have := Nat.le_of_ble_eq_true hb; rw [hrl] at this; simp only [List.length_cons] at this hl; omega
        rw [hb]
        show _ = false
        split
        · rfl
        · rw [if_pos (by simp only [decide_eq_true_eq]; omega)]
  · rw [if_neg hp, decide_eq_false hp]; rfl
noncomputable def emF (want got : Tx) : Bool := cond (Nat.ble 2 (splitD want []).length) (emQ (splitD want []) got) (eqF want got)
theorem emT_F : emT = emF := by
  funext want got
  unfold emT emF
  by_cases h : 2 ≤ (splitD want []).length
  · rw [if_pos h, emP_eq _ _ h, show Nat.ble 2 (splitD want []).length = true from Nat.ble_eq_true_of_le h]; rfl
  · have hb : Nat.ble 2 (splitD want []).length = false := by
      cases hb : Nat.ble 2 (splitD want []).length with
      | false => rfl
      | true => exact absurd (Nat.le_of_ble_eq_true hb) h
    rw [if_neg h, hb, eqF_eq]; rfl
end Mine
end
section
set_option maxRecDepth 100000
set_option maxHeartbeats 4000000
namespace Mine
/- the plain functions, with emF in the stead of emT -/
noncomputable def stepG (Q : Tst3) (row : Tx) (rows : List Tx) (j : Nat) : List Tx :=
  if ((partT Q row j).map fun c => emF (wantT row j c) row).contains true then
    if !(rows.map fun known => emF (otherT row j) known).contains true then rows ++ [otherT row j] else rows
  else rows
noncomputable def turnG (Q : Tst3) (rows : List Tx) (row : Tx) : List Tx := (List.range (row.length - 1)).foldl (stepG Q row) rows
noncomputable def rowsG (Q : Tst3) : Nat → Nat → List Tx → Option (List Tx)
  | 0, i, rows => if i < rows.length then none else some rows
  | f + 1, i, rows => if i < rows.length then rowsG Q f (i + 1) (turnG Q rows (rows.getD i [])) else some rows
theorem stepG_eq : stepG = stepT := by funext Q row rows j; unfold stepG stepT; rw [emT_F]
theorem turnG_eq : turnG = turnT := by funext Q rows row; unfold turnG turnT; rw [stepG_eq]
theorem rowsG_eq (Q : Tst3) : ∀ f i rows, rowsG Q f i rows = rowsT Q f i rows
  | 0, _, _ => rfl
  | f + 1, i, rows => by unfold rowsG rowsT; rw [turnG_eq, rowsG_eq Q f]
noncomputable def endAtG (tree : List Tx) (row line : Tx) (k : Nat) : Bool :=
  let x := tree.getD k []
  let i := idxT row x
  let a := [row.getD 0 0]
  let root := [row.getLastD 0]
  let lap := row.take (i + 1) ++ dots ++ row.drop i
  Nat.ble 1 k && Nat.blt (k + 1) tree.length && (findT row x 0 row.length).isSome &&
  (emF (dots ++ [44] ++ x ++ dots) line == (tree.getD (k - 1) [] ++ tree.getD (k + 1) [] == [40, 41])) &&
  (emF (dots ++ x ++ root ++ ([44] ++ dots)) line == (deepT tree k == 2)) &&
  (emF (a ++ dots ++ x ++ dots ++ root) row == (findT (slc row (some 1) (some (-1))) x 0 (slc row (some 1) (some (-1))).length).isSome) &&
  !emF (a ++ dots ++ x ++ dots ++ x ++ dots ++ root) row &&
  emF (row.take i ++ dots ++ row.drop i) row &&
  !emF lap row && !emF (dots ++ lap ++ dots) row &&
  !emF (row.take i) row && (emF (row.drop i) row == ((i : Int) == 0)) &&
  !emF (row.take (i + 1) ++ row.drop i) row
noncomputable def endsG (tree : List Tx) (ks : List Nat) (rows : List Tx) : Bool :=
  let row := rows.headD []
  let line := lineT rows
  ks.all (endAtG tree row line) && !emF (row.drop 1 ++ dots) row && !emF (dots ++ row.dropLast) row &&
  rows.all (fun known => emF (known.dropLast ++ dots) row == (known == row) && emF (dots ++ known.drop 1) row == (known == row))
theorem endAtG_eq : endAtG = endAt := by funext tree row line k; unfold endAtG endAt; rw [emT_F]
theorem endsG_eq : endsG = endsT := by funext tree ks rows; unfold endsG endsT; rw [emT_F, endAtG_eq]
noncomputable def hangAtG (tree rows : List Tx) (l r : Nat) : Bool :=
  let b := betT tree l r
  let want := dots ++ tree.getD l [] ++ dots ++ tree.getD r [] ++ dots
  let ahead := rows.map fun row => emF want row
  (chkT (textT b ++ [34] ++ mulT [41] (riseT b) ++ [92]) == !ahead.contains true) && (chkT (mulT [40] (-riseT b) ++ textT b) == !ahead.contains false)
noncomputable def toldG (tree : List Tx) (ks : List Nat) (row : Tx) : Bool := !emF (saidT tree ks) (mulT row ((oftenT tree ks : Int) - 1)) && emF (saidT tree ks) (mulT row (oftenT tree ks : Int))
noncomputable def hangG (tree : List Tx) (ks : List Nat) (rows : List Tx) : Bool :=
  ks.all (fun k => Nat.ble 1 k && Nat.blt k tree.length) && ks.all (fun r => (ks.filter (Nat.blt · r)).all fun l => hangAtG tree rows l r) && rows.all (toldG tree ks)
theorem hangAtG_eq : hangAtG = hangAt := by funext tree rows l r; unfold hangAtG hangAt; rw [emT_F]
theorem toldG_eq : toldG = toldT := by funext tree ks row; unfold toldG toldT; rw [emT_F]
theorem hangG_eq : hangG = hangT := by funext tree ks rows; unfold hangG hangT; rw [hangAtG_eq, toldG_eq]
/- by whole numbers -/
noncomputable def keyC (l : List Nat) (c : Nat) : Nat := l.getD (c - 112) (l.headD 0)
noncomputable def QK (l : List Nat) : Tst3 := fun a b c => Nat.ble (Nat.min (keyC l a) (keyC l b)) (keyC l c) && Nat.blt (keyC l c) (Nat.max (keyC l a) (keyC l b))
noncomputable def nameT (n : Nat) : Tx := [112, 113, 114, 115, 116].take n
noncomputable def keyI (l : List Nat) (c : Nat) : Int := (keyC l c : Nat)
noncomputable def rowsK (l : List Nat) : Option (List Tx) := rowsG (QK l) 20 0 [nameT l.length]
noncomputable def treeK (l : List Nat) (row : Tx) : List Tx := treeT (keyI l) l.length row
noncomputable def spotT (n : Nat) (tree : List Tx) : List Nat := (List.range tree.length).filter fun k => (findT (nameT n) (tree.getD k []) 0 n).isSome
noncomputable def pat (l : List Nat) : Option (List Tx × List Tx × List Nat) :=
  match rowsK l with
  | none => none
  | some R => if R.all (fun r => treeK l r == treeK l (nameT l.length)) then some (R, treeK l (nameT l.length), sizesT (keyI l) l.length (nameT l.length)) else none
noncomputable def fin (n : Nat) (p : List Tx × List Tx × List Nat) : Bool :=
  endsG p.2.1 (spotT n p.2.1) p.1 && hangG p.2.1 (spotT n p.2.1) p.1
noncomputable def finO (n : Nat) : Option (List Tx × List Tx × List Nat) → Bool
  | none => false
  | some p => fin n p
end Mine
end
section
set_option maxRecDepth 100000
set_option maxHeartbeats 4000000
namespace Mine
/- forcing: the kernel goes on with figures, not with unfinished sums -/
noncomputable def nrm {β : Type} (c : Nat) (k : Nat → β) : β :=
  cond (Nat.beq c 112) (k 112) (cond (Nat.beq c 113) (k 113) (cond (Nat.beq c 114) (k 114) (cond (Nat.beq c 115) (k 115) (cond (Nat.beq c 116) (k 116) (cond (Nat.beq c 46) (k 46) (cond (Nat.beq c 40) (k 40) (cond (Nat.beq c 41) (k 41) (cond (Nat.beq c 44) (k 44) (k c)))))))))
theorem cond_beq {β : Type} {c d : Nat} {k : Nat → β} {z : β} (h : z = k c) : cond (Nat.beq c d) (k d) z = k c := by
  cases hb : Nat.beq c d with
  | false => exact h
  | true => rw [Nat.eq_of_beq_eq_true hb]; rfl
theorem nrm_eq {β : Type} (c : Nat) (k : Nat → β) : nrm c k = k c :=
  cond_beq (cond_beq (cond_beq (cond_beq (cond_beq (cond_beq (cond_beq (cond_beq (cond_beq rfl))))))))
noncomputable def frc {β : Type} (x : Tx) : (Tx → β) → β :=
  x.rec (motive := fun _ => (Tx → β) → β) (fun k => k []) fun c _ ih k => nrm c fun d => ih fun y => k (d :: y)
theorem frc_eq {β : Type} : ∀ (x : Tx) (k : Tx → β), frc x k = k x
  | [], _ => rfl
  | c :: x, k => by
    show nrm c (fun d => frc x fun y => k (d :: y)) = _
    rw [nrm_eq, frc_eq x]
noncomputable def frcs {β : Type} (x : List Tx) : (List Tx → β) → β :=
  x.rec (motive := fun _ => (List Tx → β) → β) (fun k => k []) fun c _ ih k => frc c fun d => ih fun y => k (d :: y)
theorem frcs_eq {β : Type} : ∀ (x : List Tx) (k : List Tx → β), frcs x k = k x
  | [], _ => rfl
  | c :: x, k => by
    show frc c (fun d => frcs x fun y => k (d :: y)) = _
    rw [frc_eq, frcs_eq x]
/- small figures -/
noncomputable def nrs {β : Type} (c : Nat) (k : Nat → β) : β :=
  cond (Nat.beq c 0) (k 0) (cond (Nat.beq c 1) (k 1) (cond (Nat.beq c 2) (k 2) (cond (Nat.beq c 3) (k 3) (cond (Nat.beq c 4) (k 4) (cond (Nat.beq c 5) (k 5) (k c))))))
theorem nrs_eq {β : Type} (c : Nat) (k : Nat → β) : nrs c k = k c :=
  cond_beq (cond_beq (cond_beq (cond_beq (cond_beq (cond_beq rfl)))))
noncomputable def stepF (Q : Tst3) (row : Tx) (rows : List Tx) (j : Nat) : List Tx :=
  frc (partT Q row j) fun part =>
  cond ((part.map fun c => frc (wantT row j c) fun want => emF want row).contains true)
    (frc (otherT row j) fun other => cond ((rows.map fun known => emF other known).contains true) rows (rows ++ [other])) rows
theorem stepF_eq : stepF = stepG := by
  funext Q row rows j
  unfold stepF stepG
  simp only [frc_eq]
  cases (List.map (fun c => emF (wantT row j c) row) (partT Q row j)).contains true <;> cases (List.map (fun known => emF (otherT row j) known) rows).contains true <;> rfl
noncomputable def turnF (Q : Tst3) (rows : List Tx) (row : Tx) : List Tx := frc row fun row => (List.range (row.length - 1)).foldl (stepF Q row) rows
theorem turnF_eq : turnF = turnG := by funext Q rows row; unfold turnF turnG; rw [stepF_eq, frc_eq]
noncomputable def rowsF (Q : Tst3) (f : Nat) : Nat → List Tx → Option (List Tx) :=
  f.rec (motive := fun _ => Nat → List Tx → Option (List Tx)) (fun i rows => cond (Nat.blt i rows.length) none (some rows)) fun _ ih i rows =>
    cond (Nat.blt i rows.length) (frcs (turnF Q rows (rows.getD i [])) fun rows => ih (Nat.succ i) rows) (some rows)
theorem blt_if {α : Type} (i j : Nat) (x y : α) : cond (Nat.blt i j) x y = if i < j then x else y := by
  by_cases h : i < j
  · rw [if_pos h, show Nat.blt i j = true from Nat.ble_eq_true_of_le h]; rfl
  · rw [if_neg h]
    cases hb : Nat.blt i j with
    | false => rfl
    | true => exact absurd (Nat.le_of_ble_eq_true hb) h
theorem rowsF_eq (Q : Tst3) : ∀ f i rows, rowsF Q f i rows = rowsG Q f i rows
  | 0, i, rows => blt_if _ _ _ _
  | f + 1, i, rows => by
    show cond (Nat.blt i rows.length) (frcs (turnF Q rows (rows.getD i [])) fun rows => rowsF Q f (Nat.succ i) rows) (some rows) = _
    rw [blt_if, frcs_eq, turnF_eq, rowsF_eq Q f]; rfl
noncomputable def patF {β : Type} (l : List Nat) (z : β) (k : List Tx → List Tx → List Nat → β) : β :=
  match rowsF (QK l) 20 0 [nameT l.length] with
  | none => z
  | some R => frcs R fun R => frcs (treeK l (nameT l.length)) fun t =>
    cond (R.all fun r => treeK l r == t) (k R t (sizesT (keyI l) l.length (nameT l.length))) z
theorem patF_eq {β : Type} (l : List Nat) (z : β) (k : List Tx → List Tx → List Nat → β) : patF l z k = match pat l with | none => z | some p => k p.1 p.2.1 p.2.2 := by
  unfold patF pat rowsK
  rw [rowsF_eq]
  cases rowsG (QK l) 20 0 [nameT l.length] with
  | none => rfl
  | some R =>
    show frcs R _ = _
    rw [frcs_eq, frcs_eq]
    cases hb : R.all fun r => treeK l r == treeK l (nameT l.length) with
    | false => simp only [hb]; rfl
    | true => simp only [hb]; rfl
noncomputable def endsF (tree : List Tx) (ks : List Nat) (rows : List Tx) : Bool :=
  frc (rows.headD []) fun row => frc (lineT rows) fun line =>
  ks.all (endAtG tree row line) && !emF (row.drop 1 ++ dots) row && !emF (dots ++ row.dropLast) row &&
  rows.all (fun known => emF (known.dropLast ++ dots) row == (known == row) && emF (dots ++ known.drop 1) row == (known == row))
theorem endsF_eq : endsF = endsG := by funext tree ks rows; unfold endsF endsG; simp only [frc_eq]
noncomputable def hangAtF (tree rows : List Tx) (l r : Nat) : Bool :=
  frcs (betT tree l r) fun b => frc (textT b) fun text =>
  frc (dots ++ tree.getD l [] ++ dots ++ tree.getD r [] ++ dots) fun want =>
  frc (text ++ [34] ++ mulT [41] (riseT b) ++ [92]) fun x => frc (mulT [40] (-riseT b) ++ text) fun y =>
  (chkT x == !(rows.map fun row => emF want row).contains true) && (chkT y == !(rows.map fun row => emF want row).contains false)
theorem hangAtF_eq : hangAtF = hangAtG := by funext tree rows l r; unfold hangAtF hangAtG; simp only [frc_eq, frcs_eq]
noncomputable def toldF (tree : List Tx) (ks : List Nat) (row : Tx) : Bool :=
  frc (saidT tree ks) fun said => frc (mulT row ((oftenT tree ks : Int) - 1)) fun x => frc (mulT row (oftenT tree ks : Int)) fun y => !emF said x && emF said y
theorem toldF_eq : toldF = toldG := by funext tree ks row; unfold toldF toldG; simp only [frc_eq]
noncomputable def hangF (tree : List Tx) (ks : List Nat) (rows : List Tx) : Bool :=
  ks.all (fun k => Nat.ble 1 k && Nat.blt k tree.length) && ks.all (fun r => (ks.filter (Nat.blt · r)).all fun l => hangAtF tree rows l r) && rows.all (toldF tree ks)
theorem hangF_eq : hangF = hangG := by funext tree ks rows; unfold hangF hangG; rw [hangAtF_eq, toldF_eq]
noncomputable def finF (n : Nat) (R t : List Tx) : Bool := endsF t (spotT n t) R && hangF t (spotT n t) R
end Mine
end
section
set_option maxRecDepth 100000
set_option maxHeartbeats 4000000
namespace Mine
/- keys, quickly -/
noncomputable def nthF (d : Nat) (l : List Nat) : Nat → Nat :=
  l.rec (motive := fun _ => Nat → Nat) (fun _ => d) fun a _ ih i => i.rec (motive := fun _ => Nat) a fun j _ => ih j
theorem nthF_eq (d : Nat) : ∀ (l : List Nat) (i : Nat), nthF d l i = l.getD i d
  | [], _ => rfl
  | _ :: _, 0 => rfl
  | _ :: l, i + 1 => nthF_eq d l i
noncomputable def keyF (l : List Nat) (c : Nat) : Nat := nthF (l.headD 0) l (Nat.sub c 112)
theorem keyF_eq (l : List Nat) (c : Nat) : keyF l c = keyC l c := nthF_eq _ _ _
noncomputable def filF (p : Nat → Bool) (l : Tx) : Tx := l.rec (motive := fun _ => Tx) [] fun a _ ih => cond (p a) (a :: ih) ih
theorem filF_eq (p : Nat → Bool) : ∀ l, filF p l = l.filter p
  | [] => rfl
  | a :: l => by
    show cond (p a) (a :: filF p l) (filF p l) = _
    rw [filF_eq p l, List.filter_cons]
    cases p a <;> rfl
noncomputable def anyF (p : Nat → Bool) (l : Tx) : Bool := l.rec (motive := fun _ => Bool) false fun a _ ih => cond (p a) true ih
theorem anyF_eq (p : Nat → Bool) : ∀ l, anyF p l = l.any p
  | [] => rfl
  | a :: l => by
    show cond (p a) true (anyF p l) = _
    rw [anyF_eq p l, List.any_cons]
    cases p a <;> rfl
/- k gets all but the last, and the last -/
noncomputable def lastF {β : Type} (z : β) (l : Tx) : (Tx → Nat → β) → β :=
  l.rec (motive := fun _ => (Tx → Nat → β) → β) (fun _ => z) fun a t ih k => t.rec (motive := fun _ => β) (k [] a) fun _ _ _ => ih fun i r => k (a :: i) r
theorem lastF_eq {β : Type} (z : β) : ∀ (l : Tx) (k : Tx → Nat → β), lastF z l k = if l.isEmpty then z else k l.dropLast (l.getLastD 0)
  | [], _ => rfl
  | [a], _ => rfl
  | a :: b :: t, k => by
    show lastF z (b :: t) (fun i r => k (a :: i) r) = _
    rw [lastF_eq z (b :: t)]; rfl
noncomputable def treeF (l : List Nat) (k : Nat) : Tx → Tx → Tx :=
  k.rec (motive := fun _ => Tx → Tx → Tx) (fun _ acc => acc) fun _ ih row acc => lastF acc row fun i r => nrs (keyF l r) fun z =>
    40 :: frc (filF (fun c => Nat.ble (keyF l c) z) i) fun lo => ih lo (r :: frc (filF (fun c => Nat.blt z (keyF l c)) i) fun hi => ih hi (41 :: acc))
noncomputable def sizesF (l : List Nat) (k : Nat) : Tx → List Nat → List Nat :=
  k.rec (motive := fun _ => Tx → List Nat → List Nat) (fun _ acc => acc) fun _ ih row acc => lastF acc row fun i r => nrs (keyF l r) fun z =>
    nrs row.length fun m => m :: frc (filF (fun c => Nat.ble (keyF l c) z) i) fun lo => ih lo (frc (filF (fun c => Nat.blt z (keyF l c)) i) fun hi => ih hi acc)
theorem low_F (l : List Nat) (row : Tx) : row.dropLast.filter (fun c => Nat.ble (keyC l c) (keyC l (row.getLastD 0))) = lowT (keyI l) row := by
  unfold lowT keyI
  refine List.filter_congr fun c _ => ?_
  rw [Bool.eq_iff_iff, Nat.ble_eq, decide_eq_true_eq]; omega
theorem high_F (l : List Nat) (row : Tx) : row.dropLast.filter (fun c => Nat.blt (keyC l (row.getLastD 0)) (keyC l c)) = highT (keyI l) row := by
  unfold highT keyI
  refine List.filter_congr fun c _ => ?_
  rw [Bool.eq_iff_iff, decide_eq_true_eq]
  constructor
  · intro h; have : keyC l (row.getLastD 0) < keyC l c := Nat.le_of_ble_eq_true h; omega
  · intro h; exact Nat.ble_eq_true_of_le (by omega)
noncomputable abbrev one : Nat → Tx := fun c => [c]
theorem treeF_eq (l : List Nat) : ∀ (k : Nat) (row acc : Tx), (treeF l k row acc).map one = treeT (keyI l) k row ++ acc.map one
  | 0, _, _ => rfl
  | k + 1, row, acc => by
    show (lastF acc row fun i r => nrs (keyF l r) fun z => 40 :: frc (filF (fun c => Nat.ble (keyF l c) z) i) fun lo => treeF l k lo (r :: frc (filF (fun c => Nat.blt z (keyF l c)) i) fun hi => treeF l k hi (41 :: acc))).map one = _
    rw [lastF_eq]
    unfold treeT
    by_cases h : row.isEmpty = true
    · rw [if_pos h, if_pos h]; rfl
    · rw [if_neg h, if_neg h]
      simp only [nrs_eq, frc_eq, filF_eq, keyF_eq]
      rw [low_F, high_F, List.map_cons, treeF_eq l k, List.map_cons, treeF_eq l k]
      simp [one]
theorem sizesF_eq (l : List Nat) : ∀ (k : Nat) (row : Tx) (acc : List Nat), sizesF l k row acc = sizesT (keyI l) k row ++ acc
  | 0, _, _ => rfl
  | k + 1, row, acc => by
    show (lastF acc row fun i r => nrs (keyF l r) fun z => nrs row.length fun m => m :: frc (filF (fun c => Nat.ble (keyF l c) z) i) fun lo => sizesF l k lo (frc (filF (fun c => Nat.blt z (keyF l c)) i) fun hi => sizesF l k hi acc)) = _
    rw [lastF_eq]
    unfold sizesT
    by_cases h : row.isEmpty = true
    · rw [if_pos h, if_pos h]; rfl
    · rw [if_neg h, if_neg h]
      simp only [nrs_eq, frc_eq, filF_eq, keyF_eq]
      rw [low_F, high_F, sizesF_eq l k, sizesF_eq l k]
      simp
/- texts without dots -/
noncomputable def ndF (x : Tx) : Bool := x.rec (motive := fun _ => Bool) true fun a _ ih => cond (Nat.beq a 46) false ih
theorem ndF_of : ∀ {x : Tx}, ndF x = true → ∀ c ∈ x, c ≠ 46
  | [], _, _, h => nomatch h
  | a :: x, h, c, hc => by
    have h' : cond (Nat.beq a 46) false (ndF x) = true := h
    cases hb : Nat.beq a 46 with
    | true => rw [hb] at h'; cases h'
    | false =>
      rw [hb] at h'
      rcases List.mem_cons.mp hc with rfl | hc
      · exact Nat.ne_of_beq_eq_false hb
      · exact ndF_of h' c hc
theorem splitD_cons {c : Nat} (h : c ≠ 46) (r acc : Tx) : splitD (c :: r) acc = splitD r (c :: acc) := by
  rw [splitD.eq_2]
  intro r' e
  exact fun _ => h (by assumption)
theorem splitD_nd : ∀ (x acc r : Tx), (∀ c ∈ x, c ≠ 46) → splitD (x ++ dots ++ r) acc = (acc.reverse ++ x) :: splitD r []
  | [], acc, r, _ => by
    show splitD (46 :: 46 :: 46 :: r) acc = _
    rw [splitD.eq_1, List.append_nil]
  | c :: x, acc, r, h => by
    show splitD (c :: (x ++ dots ++ r)) acc = _
    rw [splitD_cons (h c (List.mem_cons_self ..)), splitD_nd x (c :: acc) r fun d hd => h d (List.mem_cons_of_mem _ hd)]
    simp
theorem splitD_nd0 : ∀ (x acc : Tx), (∀ c ∈ x, c ≠ 46) → splitD x acc = [acc.reverse ++ x]
  | [], acc, _ => by rw [splitD.eq_3, List.append_nil]
  | c :: x, acc, h => by
    rw [splitD_cons (h c (List.mem_cons_self ..)), splitD_nd0 x (c :: acc) fun d hd => h d (List.mem_cons_of_mem _ hd)]
    simp
noncomputable def hasF (c : Nat) (x : Tx) : Bool := x.any fun b => Nat.beq c b
theorem beq_N (c b : Nat) : Nat.beq c b = (c == b) := by
  by_cases h : c = b
  · subst h; rw [Nat.beq_refl]; simp
  · rw [beq_eq_false_iff_ne.mpr h]
    cases hb : Nat.beq c b with
    | false => rfl
    | true => exact absurd (Nat.eq_of_beq_eq_true hb) h
theorem hasF_iff {c : Nat} {x : Tx} : hasF c x = true ↔ c ∈ x := by
  unfold hasF
  rw [List.any_eq_true]
  constructor
  · rintro ⟨b, hb, h⟩
    rw [Nat.eq_of_beq_eq_true h]; exact hb
  · intro h
    exact ⟨c, h, Nat.beq_refl c⟩
theorem seqF_one (c : Nat) : ∀ r : Tx, seqF [[c]] r = hasF c r
  | [] => rfl
  | b :: r => by
    have e : ∀ o : Option Tx, (o.rec (motive := fun _ => Bool) false (seqF [])) = o.isSome := fun o => by cases o <;> rfl
    have h1 : ∀ r, seqF [[c]] r = (aft [c] r).isSome := fun r => e _
    have ih := seqF_one c r
    rw [h1] at ih ⊢
    show ((cond (Nat.beq c b) (some r) none).rec (motive := fun _ => Option Tx) (aft [c] r) some).isSome = _
    unfold hasF at ih ⊢
    rw [List.any_cons]
    cases hb : Nat.beq c b with
    | false => rw [Bool.false_or, ← ih]; rfl
    | true => rfl
theorem emF_want {row : Tx} {j c : Nat} (h : ∀ d ∈ row, d ≠ 46) (hc : c ≠ 46) : emF (wantT row j c) row = hasF c (row.drop (j + 2)) := by
  have hs : splitD (wantT row j c) [] = [row.take (j + 2), [c], []] := by
    unfold wantT
    rw [List.append_assoc, splitD_nd _ _ _ fun d hd => h d (List.mem_of_mem_take hd)]
    have : splitD ([c] ++ dots) [] = [[c], []] := by
      have := splitD_nd [c] [] [] (fun d hd => by rw [List.mem_singleton.mp hd]; exact hc)
      rw [List.append_nil] at this
      rw [this]; rfl
    rw [this]; rfl
  unfold emF
  rw [hs]
  show emQ [row.take (j + 2), [c], []] row = _
  unfold emQ
  show (aft1 (row.take (j + 2)) row).rec (motive := fun _ => Bool) false (fun r => emS [[c]] [] r) = _
  rw [aft1_eq, List.length_take]
  have h1 : row.take (min (j + 2) row.length) = row.take (j + 2) := by
    by_cases hm : j + 2 ≤ row.length
    · rw [Nat.min_eq_left hm]
    · rw [Nat.min_eq_right (by omega), List.take_of_length_le (Nat.le_refl _), List.take_of_length_le (by omega)]
  have h2 : row.drop (min (j + 2) row.length) = row.drop (j + 2) := by
    by_cases hm : j + 2 ≤ row.length
    · rw [Nat.min_eq_left hm]
    · rw [Nat.min_eq_right (by omega), List.drop_of_length_le (Nat.le_refl _), List.drop_of_length_le (by omega)]
  rw [if_pos h1, h2]
  exact seqF_one c _
theorem emF_nd {x y : Tx} (h : ∀ d ∈ x, d ≠ 46) : emF x y = eqF x y := by
  unfold emF
  rw [splitD_nd0 x [] h]; rfl
theorem contains_map {α : Type} (f : α → Bool) : ∀ l : List α, (l.map f).contains true = l.any f
  | [] => rfl
  | a :: l => by
    rw [List.map_cons, List.contains_cons, contains_map f l, List.any_cons]
    cases f a <;> rfl
theorem step_any (Q : Tst3) {row : Tx} {j : Nat} (h : ∀ d ∈ row, d ≠ 46) : ((partT Q row j).map fun c => emF (wantT row j c) row).contains true = (row.drop (j + 2)).any (Q (row.getD j 0) (row.getD (j + 1) 0)) := by
  rw [contains_map, Bool.eq_iff_iff, List.any_eq_true, List.any_eq_true]
  have hp : ∀ c, c ∈ partT Q row j ↔ (c ∈ row.take j ∨ c ∈ row.drop (j + 2)) ∧ Q (row.getD j 0) (row.getD (j + 1) 0) c = true := fun c => by
    unfold partT
    rw [List.mem_filter, List.mem_append]
  have hr : ∀ c, c ∈ partT Q row j → c ∈ row := fun c hc => by
    rcases ((hp c).mp hc).1 with h1 | h1
    · exact List.mem_of_mem_take h1
    · exact List.mem_of_mem_drop h1
  constructor
  · rintro ⟨c, hc, he⟩
    rw [emF_want h (h c (hr c hc))] at he
    exact ⟨c, hasF_iff.mp he, ((hp c).mp hc).2⟩
  · rintro ⟨c, hc, hq⟩
    have hm : c ∈ partT Q row j := (hp c).mpr ⟨.inr hc, hq⟩
    exact ⟨c, hm, by rw [emF_want h (h c (hr c hm))]; exact hasF_iff.mpr hc⟩
/- a step, quickly -/
noncomputable def midF (l : List Nat) (a b : Nat) (tail : Tx) : Bool := nrs (keyF l a) fun x => nrs (keyF l b) fun y =>
  cond (Nat.ble x y) (anyF (fun c => nrs (keyF l c) fun z => Nat.ble x z && Nat.blt z y) tail) (anyF (fun c => nrs (keyF l c) fun z => Nat.ble y z && Nat.blt z x) tail)
theorem midF_eq (l : List Nat) (a b : Nat) (tail : Tx) : midF l a b tail = tail.any (QK l a b) := by
  unfold midF
  simp only [nrs_eq, anyF_eq, keyF_eq]
  unfold QK
  cases h : Nat.ble (keyC l a) (keyC l b) with
  | true =>
    have h' := Nat.le_of_ble_eq_true h
    have e1 : Nat.min (keyC l a) (keyC l b) = keyC l a := by show min _ _ = _; omega
    have e2 : Nat.max (keyC l a) (keyC l b) = keyC l b := by show max _ _ = _; omega
    rw [e1, e2]; rfl
  | false =>
    have h' : ¬ keyC l a ≤ keyC l b := fun q => by rw [Nat.ble_eq_true_of_le q] at h; cases h
    have e1 : Nat.min (keyC l a) (keyC l b) = keyC l b := by show min _ _ = _; omega
    have e2 : Nat.max (keyC l a) (keyC l b) = keyC l a := by show max _ _ = _; omega
    rw [e1, e2]; rfl
noncomputable def newF (rows : List Tx) (other : Tx) : List Tx :=
  cond (cond (ndF other) (rows.any fun known => eqF other known) ((rows.map fun known => emF other known).contains true)) rows (rows ++ [other])
noncomputable def stepX (l : List Nat) (row : Tx) (rows : List Tx) (j : Nat) : List Tx :=
  cond (ndF row) (nrm (row.getD j 0) fun a => nrm (row.getD (j + 1) 0) fun b => cond (midF l a b (row.drop (j + 2))) (frc (otherT row j) (newF rows)) rows) (stepF (QK l) row rows j)
theorem stepX_eq (l : List Nat) : stepX l = stepF (QK l) := by
  funext row rows j
  unfold stepX
  cases hn : ndF row with
  | false => rfl
  | true =>
    have hnd := ndF_of hn
    show (nrm (row.getD j 0) fun a => nrm (row.getD (j + 1) 0) fun b => cond (midF l a b (row.drop (j + 2))) (frc (otherT row j) (newF rows)) rows) = _
    simp only [nrm_eq, frc_eq, midF_eq]
    rw [← step_any (QK l) hnd]
    unfold stepF
    simp only [frc_eq]
    have e : newF rows (otherT row j) = cond ((rows.map fun known => emF (otherT row j) known).contains true) rows (rows ++ [otherT row j]) := by
      unfold newF
      cases ho : ndF (otherT row j) with
      | false => rfl
      | true =>
        have hb := ndF_of ho
        rw [contains_map]
        have : (fun known => emF (otherT row j) known) = fun known => eqF (otherT row j) known := funext fun k => emF_nd hb
        rw [this]; rfl
    rw [e]
noncomputable def turnX (l : List Nat) (rows : List Tx) (row : Tx) : List Tx := frc row fun row => (List.range (row.length - 1)).foldl (stepX l row) rows
theorem turnX_eq (l : List Nat) : turnX l = turnF (QK l) := by funext rows row; unfold turnX turnF; rw [stepX_eq]
noncomputable def rowsX (l : List Nat) (f : Nat) : Nat → List Tx → Option (List Tx) :=
  f.rec (motive := fun _ => Nat → List Tx → Option (List Tx)) (fun i rows => cond (Nat.blt i rows.length) none (some rows)) fun _ ih i rows =>
    cond (Nat.blt i rows.length) (frcs (turnX l rows (rows.getD i [])) fun rows => ih (Nat.succ i) rows) (some rows)
theorem rowsX_eq (l : List Nat) : ∀ f i rows, rowsX l f i rows = rowsF (QK l) f i rows
  | 0, i, rows => rfl
  | f + 1, i, rows => by
    show cond (Nat.blt i rows.length) (frcs (turnX l rows (rows.getD i [])) fun rows => rowsX l f (Nat.succ i) rows) (some rows) = cond (Nat.blt i rows.length) (frcs (turnF (QK l) rows (rows.getD i [])) fun rows => rowsF (QK l) f (Nat.succ i) rows) (some rows)
    rw [turnX_eq]
    have : (fun rows => rowsX l f (Nat.succ i) rows) = fun rows => rowsF (QK l) f (Nat.succ i) rows := funext fun r => rowsX_eq l f _ r
    rw [this]
/- rows, the tree's signs in one text, sizes -/
noncomputable def patX {β : Type} (l : List Nat) (z : β) (k : List Tx → Tx → List Nat → β) : β :=
  (rowsX l 20 0 [nameT l.length]).rec (motive := fun _ => β) z fun R => frcs R fun R => frc (treeF l l.length (nameT l.length) []) fun t =>
    cond (R.all fun r => eqF (treeF l l.length r []) t) (frc (sizesF l l.length (nameT l.length) []) fun s => k R t s) z
theorem one_inj : ∀ {x y : Tx}, x.map one = y.map one → x = y
  | [], [], _ => rfl
  | [], _ :: _, h => by cases h
  | _ :: _, [], h => by cases h
  | a :: x, b :: y, h => by
    rw [List.map_cons, List.map_cons] at h
    obtain ⟨h1, h2⟩ := List.cons.inj h
    rw [(List.cons.inj h1).1, one_inj h2]
theorem patX_eq {l : List Nat} {z : Bool} {k : List Tx → Tx → List Nat → Bool} (hz : z = false) (h : patX l z k = true) : ∃ R t s, pat l = some (R, t.map one, s) ∧ k R t s = true := by
  subst hz
  unfold patX at h
  rw [rowsX_eq, rowsF_eq] at h
  unfold pat rowsK
  cases hr : rowsG (QK l) 20 0 [nameT l.length] with
  | none => rw [hr] at h; cases h
  | some R =>
    rw [hr] at h
    have h1 : (frcs R fun R => frc (treeF l l.length (nameT l.length) []) fun t => cond (R.all fun r => eqF (treeF l l.length r []) t) (frc (sizesF l l.length (nameT l.length) []) fun s => k R t s) false) = true := h
    simp only [frcs_eq, frc_eq, eqF_eq] at h1
    have ht : ∀ r, treeK l r = (treeF l l.length r []).map one := fun r => by
      unfold treeK
      rw [treeF_eq, List.map_nil, List.append_nil]
    have hs := sizesF_eq l l.length (nameT l.length) []
    rw [List.append_nil] at hs
    cases hb : R.all fun r => treeF l l.length r [] == treeF l l.length (nameT l.length) [] with
    | false => rw [hb] at h1; cases h1
    | true =>
      rw [hb] at h1
      refine ⟨R, treeF l l.length (nameT l.length) [], sizesF l l.length (nameT l.length) [], ?_, h1⟩
      have hb2 : (R.all fun r => treeK l r == treeK l (nameT l.length)) = true := List.all_eq_true.mpr fun r hm => by
        have := beq_iff_eq.mp (List.all_eq_true.mp hb r hm)
        rw [ht, ht, this, beq_self_eq_true]
      show (if (R.all fun r => treeK l r == treeK l (nameT l.length)) = true then _ else _) = _
      rw [if_pos hb2, ht, hs]
end Mine
end
section
set_option maxRecDepth 100000
set_option maxHeartbeats 4000000
namespace Mine
noncomputable abbrev Ent := List Tx × List Tx × List Nat
/- an entry: the tree's signs as a number, the rows, the tree's signs, the sizes -/
noncomputable abbrev FEnt := Nat × List Tx × Tx × List Nat
noncomputable def toE (e : FEnt) : Ent := (e.2.1, e.2.2.1.map one, e.2.2.2)
noncomputable def codeF (t : Tx) : Nat := t.rec (motive := fun _ => Nat) 0 fun c _ ih => Nat.add c (Nat.mul 128 ih)
noncomputable def eqX (x : List Tx) : List Tx → Bool :=
  x.rec (motive := fun _ => List Tx → Bool) (fun y => y.rec (motive := fun _ => Bool) true fun _ _ _ => false) (fun a _ ih y => y.rec (motive := fun _ => Bool) false (fun b y' _ => cond (eqF a b) (ih y') false))
theorem eqF_of {x y : Tx} (h : eqF x y = true) : x = y := by rw [eqF_eq] at h; exact beq_iff_eq.mp h
theorem eqX_of : ∀ {x y : List Tx}, eqX x y = true → x = y
  | [], [], _ => rfl
  | [], _ :: _, h => by cases h
  | _ :: _, [], h => by cases h
  | a :: x, b :: y, h => by
    have h' : cond (eqF a b) (eqX x y) false = true := h
    cases hb : eqF a b with
    | false => rw [hb] at h'; cases h'
    | true =>
      rw [hb] at h'
      rw [eqF_of hb, eqX_of (x := x) (y := y) h']
noncomputable def eqE (R : List Tx) (t : Tx) (s : List Nat) (e : FEnt) : Bool := cond (Nat.beq e.1 (codeF t)) (eqF e.2.2.1 t && (eqX e.2.1 R && eqF e.2.2.2 s)) false
noncomputable def rkOk (r : List Nat) : Bool := r.all fun k => Nat.beq (r.countP (Nat.blt · k)) k
noncomputable def patOk (tab : List FEnt) (r : List Nat) : Bool := cond (rkOk r) (patX r false fun R t s => tab.any (eqE R t s)) true
theorem patOk_of {tab : List FEnt} {r : List Nat} (h : patOk tab r = true) (hr : rkOk r = true) : ∃ e ∈ tab, pat r = some (toE e) := by
  unfold patOk at h
  rw [hr] at h
  obtain ⟨R, t, s, hp, h2⟩ := patX_eq rfl (show patX r false (fun R t s => tab.any (eqE R t s)) = true from h)
  obtain ⟨e, he, hq⟩ := List.any_eq_true.mp h2
  refine ⟨e, he, ?_⟩
  unfold eqE at hq
  cases hc : Nat.beq e.1 (codeF t) with
  | false => rw [hc] at hq; cases hq
  | true =>
    rw [hc] at hq
    obtain ⟨q1, q2⟩ := Bool.and_eq_true_iff.mp (show (eqF e.2.2.1 t && (eqX e.2.1 R && eqF e.2.2.2 s)) = true from hq)
    obtain ⟨q2, q3⟩ := Bool.and_eq_true_iff.mp q2
    rw [hp]
    unfold toE
    rw [eqF_of q1, eqX_of q2, eqF_of q3]
/- what the law asks of an entry -/
noncomputable def waysT (R : List Tx) (s : List Nat) (n : Nat) : Nat := (List.range n).foldl (fun w k => w * s.getD k 0) R.length
noncomputable def wholeT (n : Nat) : Nat := (List.range n).foldl (fun w k => w * (k + 1)) 1
noncomputable def entOk (n : Nat) (e : Ent) : Bool :=
  Nat.ble 1 e.1.length && Nat.ble e.1.length 100 && e.1.all (fun r => Nat.beq r.length n) && Nat.ble e.2.1.length 100 && e.2.1.all (fun x => sgL.any fun c => eqF x [c]) && Nat.beq e.2.2.length n && Nat.beq (waysT e.1 e.2.2 n) (wholeT n) && finF n e.1 e.2.1
noncomputable def entX (n : Nat) (e : FEnt) : Bool := frcs (e.2.2.1.map one) fun t => entOk n (e.2.1, t, e.2.2.2)
theorem entX_eq (n : Nat) (e : FEnt) : entX n e = entOk n (toE e) := frcs_eq _ _
noncomputable def tab5x0 : List FEnt := [(13281431224558622766645417481256, [[112, 113, 114, 115, 116]], [40, 40, 40, 40, 40, 112, 41, 113, 41, 114, 41, 115, 41, 116, 41], [5, 4, 3, 2, 1]),
  (13097160341032965940527594345512, [[112, 113, 114, 115, 116], [112, 113, 115, 114, 116], [112, 115, 113, 114, 116], [115, 112, 113, 114, 116]], [40, 40, 40, 40, 112, 41, 113, 41, 114, 41, 116, 40, 115, 41, 41], [5, 3, 2, 1, 1]),
  (13281420127500742156770618250280, [[112, 113, 114, 115, 116], [112, 114, 113, 115, 116], [114, 112, 113, 115, 116]], [40, 40, 40, 40, 112, 41, 113, 41, 115, 40, 114, 41, 41, 116, 41], [5, 4, 2, 1, 1]),
  (13097160489772996423967908172840, [[112, 113, 114, 115, 116], [112, 114, 113, 115, 116], [114, 112, 113, 115, 116], [112, 114, 115, 113, 116], [114, 112, 115, 113, 116], [114, 115, 112, 113, 116]], [40, 40, 40, 112, 41, 113, 41, 116, 40, 40, 114, 41, 115, 41, 41], [5, 2, 1, 2, 1]),
  (13097140998219924164054836974632, [[112, 113, 114, 115, 116], [112, 114, 113, 115, 116], [112, 113, 115, 114, 116], [114, 112, 113, 115, 116]], [40, 40, 40, 40, 112, 41, 113, 41, 115, 41, 116, 40, 114, 41, 41], [5, 3, 2, 1, 1]),
  (13095740066378649656191946986536, [[112, 113, 114, 115, 116], [112, 114, 113, 115, 116], [114, 112, 113, 115, 116], [112, 114, 115, 113, 116], [114, 112, 115, 113, 116], [114, 115, 112, 113, 116]], [40, 40, 40, 112, 41, 113, 41, 116, 40, 115, 40, 114, 41, 41, 41], [5, 2, 1, 2, 1]),
  (13281431223890463978016331142184, [[112, 113, 114, 115, 116], [113, 112, 114, 115, 116]], [40, 40, 40, 40, 112, 41, 114, 40, 113, 41, 41, 115, 41, 116, 41], [5, 4, 3, 1, 1]),
  (13097160341027745949991429608488, [[112, 113, 114, 115, 116], [113, 112, 114, 115, 116], [112, 113, 115, 114, 116], [113, 112, 115, 114, 116], [112, 115, 113, 114, 116], [113, 115, 112, 114, 116], [115, 112, 113, 114, 116], [115, 113, 112, 114, 116]], [40, 40, 40, 112, 41, 114, 40, 113, 41, 41, 116, 40, 115, 41, 41], [5, 3, 1, 1, 1]),
  (13281420127509820532135761155112, [[112, 113, 114, 115, 116], [113, 112, 114, 115, 116], [113, 114, 112, 115, 116]], [40, 40, 40, 112, 41, 115, 40, 40, 113, 41, 114, 41, 41, 116, 41], [5, 4, 1, 2, 1]),
  (13097160489787437209286749197352, [[112, 113, 114, 115, 116], [113, 112, 114, 115, 116], [113, 114, 112, 115, 116], [113, 114, 115, 112, 116]], [40, 40, 112, 41, 116, 40, 40, 40, 113, 41, 114, 41, 115, 41, 41], [5, 1, 3, 2, 1]),
  (13097140998214632115958994048040, [[112, 113, 114, 115, 116], [113, 112, 114, 115, 116], [112, 114, 113, 115, 116], [112, 113, 115, 114, 116], [113, 114, 112, 115, 116], [113, 112, 115, 114, 116], [114, 112, 113, 115, 116], [114, 113, 112, 115, 116]], [40, 40, 40, 112, 41, 115, 40, 113, 41, 41, 116, 40, 114, 41, 41], [5, 3, 1, 1, 1]),
  (13095740066378720018049802179624, [[112, 113, 114, 115, 116], [113, 112, 114, 115, 116], [112, 114, 113, 115, 116], [113, 114, 112, 115, 116], [114, 112, 113, 115, 116], [114, 113, 112, 115, 116], [113, 114, 115, 112, 116], [114, 113, 115, 112, 116]], [40, 40, 112, 41, 116, 40, 40, 113, 41, 115, 40, 114, 41, 41, 41], [5, 1, 3, 1, 1])]
noncomputable def tab5x1 : List FEnt := [(13281420126320150540451253457960, [[112, 113, 114, 115, 116], [113, 112, 114, 115, 116], [112, 114, 113, 115, 116]], [40, 40, 40, 40, 112, 41, 114, 41, 115, 40, 113, 41, 41, 116, 41], [5, 4, 2, 1, 1]),
  (13097160488592404803284856607784, [[112, 113, 114, 115, 116], [113, 112, 114, 115, 116], [112, 114, 113, 115, 116], [112, 113, 115, 114, 116], [113, 112, 115, 114, 116], [113, 115, 112, 114, 116]], [40, 40, 40, 112, 41, 114, 41, 116, 40, 40, 113, 41, 115, 41, 41], [5, 2, 1, 2, 1]),
  (13281420041985496460350064301096, [[112, 113, 114, 115, 116], [113, 112, 114, 115, 116], [113, 114, 112, 115, 116]], [40, 40, 40, 112, 41, 115, 40, 114, 40, 113, 41, 41, 41, 116, 41], [5, 4, 1, 2, 1]),
  (13097160404263113137501052343336, [[112, 113, 114, 115, 116], [113, 112, 114, 115, 116], [113, 114, 112, 115, 116], [113, 114, 115, 112, 116]], [40, 40, 112, 41, 116, 40, 40, 114, 40, 113, 41, 41, 115, 41, 41], [5, 1, 3, 2, 1]),
  (13097141145779290969252421047336, [[112, 113, 114, 115, 116], [113, 112, 114, 115, 116], [112, 113, 115, 114, 116], [113, 114, 112, 115, 116], [113, 112, 115, 114, 116], [112, 115, 113, 114, 116]], [40, 40, 40, 112, 41, 115, 41, 116, 40, 40, 113, 41, 114, 41, 41], [5, 2, 1, 2, 1]),
  (13095740067540752071606354580520, [[112, 113, 114, 115, 116], [113, 112, 114, 115, 116], [113, 114, 112, 115, 116], [113, 114, 115, 112, 116]], [40, 40, 112, 41, 116, 40, 115, 40, 40, 113, 41, 114, 41, 41, 41], [5, 1, 3, 2, 1]),
  (13097121655406810334386088186920, [[112, 113, 114, 115, 116], [113, 112, 114, 115, 116], [112, 114, 113, 115, 116], [112, 114, 115, 113, 116]], [40, 40, 40, 40, 112, 41, 114, 41, 115, 41, 116, 40, 113, 41, 41], [5, 3, 2, 1, 1]),
  (13095739915262922204397659886632, [[112, 113, 114, 115, 116], [113, 112, 114, 115, 116], [112, 114, 113, 115, 116], [112, 113, 115, 114, 116], [113, 112, 115, 114, 116], [113, 115, 112, 114, 116]], [40, 40, 40, 112, 41, 114, 41, 116, 40, 115, 40, 113, 41, 41, 41], [5, 2, 1, 2, 1]),
  (13097121655401518844842152170536, [[112, 113, 114, 115, 116], [113, 112, 114, 115, 116], [112, 114, 113, 115, 116], [113, 114, 112, 115, 116], [114, 112, 113, 115, 116], [112, 114, 115, 113, 116], [114, 113, 112, 115, 116], [114, 112, 115, 113, 116]], [40, 40, 40, 112, 41, 115, 40, 114, 41, 41, 116, 40, 113, 41, 41], [5, 3, 1, 1, 1]),
  (13095739915262993129171108762664, [[112, 113, 114, 115, 116], [113, 112, 114, 115, 116], [112, 114, 113, 115, 116], [113, 114, 112, 115, 116], [114, 112, 113, 115, 116], [114, 113, 112, 115, 116], [113, 114, 115, 112, 116], [114, 113, 115, 112, 116]], [40, 40, 112, 41, 116, 40, 40, 114, 41, 115, 40, 113, 41, 41, 41], [5, 1, 3, 1, 1]),
  (13095739915253698832395164849192, [[112, 113, 114, 115, 116], [113, 112, 114, 115, 116], [112, 113, 115, 114, 116], [113, 114, 112, 115, 116], [113, 112, 115, 114, 116], [112, 115, 113, 114, 116]], [40, 40, 40, 112, 41, 115, 41, 116, 40, 114, 40, 113, 41, 41, 41], [5, 2, 1, 2, 1]),
  (13095729120427270883037157266472, [[112, 113, 114, 115, 116], [113, 112, 114, 115, 116], [113, 114, 112, 115, 116], [113, 114, 115, 112, 116]], [40, 40, 112, 41, 116, 40, 115, 40, 114, 40, 113, 41, 41, 41, 41], [5, 1, 3, 2, 1])]
noncomputable def tab5x2 : List FEnt := [(13281431224558582544055768060968, [[112, 113, 114, 115, 116]], [40, 40, 40, 40, 113, 40, 112, 41, 41, 114, 41, 115, 41, 116, 41], [5, 4, 3, 2, 1]),
  (13097160341032965626288612709416, [[112, 113, 114, 115, 116], [112, 113, 115, 114, 116], [112, 115, 113, 114, 116], [115, 112, 113, 114, 116]], [40, 40, 40, 113, 40, 112, 41, 41, 114, 41, 116, 40, 115, 41, 41], [5, 3, 2, 1, 1]),
  (13281420127500741842531636614184, [[112, 113, 114, 115, 116], [112, 114, 113, 115, 116], [114, 112, 113, 115, 116]], [40, 40, 40, 113, 40, 112, 41, 41, 115, 40, 114, 41, 41, 116, 41], [5, 4, 2, 1, 1]),
  (13097160489772996421512916128808, [[112, 113, 114, 115, 116], [112, 114, 113, 115, 116], [114, 112, 113, 115, 116], [112, 114, 115, 113, 116], [114, 112, 115, 113, 116], [114, 115, 112, 113, 116]], [40, 40, 113, 40, 112, 41, 41, 116, 40, 40, 114, 41, 115, 41, 41], [5, 2, 1, 2, 1]),
  (13097140998219923849815855338536, [[112, 113, 114, 115, 116], [112, 114, 113, 115, 116], [112, 113, 115, 114, 116], [114, 112, 113, 115, 116]], [40, 40, 40, 113, 40, 112, 41, 41, 115, 41, 116, 40, 114, 41, 41], [5, 3, 2, 1, 1]),
  (13095740066378649653736954942504, [[112, 113, 114, 115, 116], [112, 114, 113, 115, 116], [114, 112, 113, 115, 116], [112, 114, 115, 113, 116], [114, 112, 115, 113, 116], [114, 115, 112, 113, 116]], [40, 40, 113, 40, 112, 41, 41, 116, 40, 115, 40, 114, 41, 41, 41], [5, 2, 1, 2, 1]),
  (13281431223890464532116659639336, [[112, 113, 114, 115, 116]], [40, 40, 40, 114, 40, 40, 112, 41, 113, 41, 41, 115, 41, 116, 41], [5, 4, 3, 2, 1]),
  (13097160341027745954320338424872, [[112, 113, 114, 115, 116], [112, 113, 115, 114, 116], [112, 115, 113, 114, 116], [115, 112, 113, 114, 116]], [40, 40, 114, 40, 40, 112, 41, 113, 41, 41, 116, 40, 115, 41, 41], [5, 3, 2, 1, 1]),
  (13281420127509821409167664796712, [[112, 113, 114, 115, 116]], [40, 40, 115, 40, 40, 40, 112, 41, 113, 41, 114, 41, 41, 116, 41], [5, 4, 3, 2, 1]),
  (13097160489787438088875647056424, [[112, 113, 114, 115, 116]], [40, 116, 40, 40, 40, 40, 112, 41, 113, 41, 114, 41, 115, 41, 41], [5, 4, 3, 2, 1]),
  (13097140998214632120253543142440, [[112, 113, 114, 115, 116], [112, 114, 113, 115, 116], [112, 113, 115, 114, 116], [114, 112, 113, 115, 116]], [40, 40, 115, 40, 40, 112, 41, 113, 41, 41, 116, 40, 114, 41, 41], [5, 3, 2, 1, 1]),
  (13095740066378720024901345491496, [[112, 113, 114, 115, 116], [112, 114, 113, 115, 116], [114, 112, 113, 115, 116]], [40, 116, 40, 40, 40, 112, 41, 113, 41, 115, 40, 114, 41, 41, 41], [5, 4, 2, 1, 1])]
noncomputable def tab5x3 : List FEnt := [(13281420126320150221814227407912, [[112, 113, 114, 115, 116], [113, 112, 114, 115, 116], [112, 114, 113, 115, 116]], [40, 40, 40, 114, 40, 112, 41, 41, 115, 40, 113, 41, 41, 116, 41], [5, 4, 2, 1, 1]),
  (13097160488592404800795504841768, [[112, 113, 114, 115, 116], [113, 112, 114, 115, 116], [112, 114, 113, 115, 116], [112, 113, 115, 114, 116], [113, 112, 115, 114, 116], [113, 115, 112, 114, 116]], [40, 40, 114, 40, 112, 41, 41, 116, 40, 40, 113, 41, 115, 41, 41], [5, 2, 1, 2, 1]),
  (13281420041985496464644613395496, [[112, 113, 114, 115, 116], [113, 112, 114, 115, 116]], [40, 40, 115, 40, 40, 112, 41, 114, 40, 113, 41, 41, 41, 116, 41], [5, 4, 3, 1, 1]),
  (13097160404263113144352595655208, [[112, 113, 114, 115, 116], [113, 112, 114, 115, 116]], [40, 116, 40, 40, 40, 112, 41, 114, 40, 113, 41, 41, 115, 41, 41], [5, 4, 3, 1, 1]),
  (13097141145779290966728709559336, [[112, 113, 114, 115, 116], [113, 112, 114, 115, 116], [112, 113, 115, 114, 116], [113, 114, 112, 115, 116], [113, 112, 115, 114, 116], [112, 115, 113, 114, 116]], [40, 40, 115, 40, 112, 41, 41, 116, 40, 40, 113, 41, 114, 41, 41], [5, 2, 1, 2, 1]),
  (13095740067540752071639637309992, [[112, 113, 114, 115, 116], [113, 112, 114, 115, 116], [113, 114, 112, 115, 116]], [40, 116, 40, 40, 112, 41, 115, 40, 40, 113, 41, 114, 41, 41, 41], [5, 4, 1, 2, 1]),
  (13097121655406810015749062136872, [[112, 113, 114, 115, 116], [113, 112, 114, 115, 116], [112, 114, 113, 115, 116], [112, 114, 115, 113, 116]], [40, 40, 40, 114, 40, 112, 41, 41, 115, 41, 116, 40, 113, 41, 41], [5, 3, 2, 1, 1]),
  (13095739915262922201908308120616, [[112, 113, 114, 115, 116], [113, 112, 114, 115, 116], [112, 114, 113, 115, 116], [112, 113, 115, 114, 116], [113, 112, 115, 114, 116], [113, 115, 112, 114, 116]], [40, 40, 114, 40, 112, 41, 41, 116, 40, 115, 40, 113, 41, 41, 41], [5, 2, 1, 2, 1]),
  (13097121655401518849136701264936, [[112, 113, 114, 115, 116], [113, 112, 114, 115, 116], [112, 114, 113, 115, 116], [112, 114, 115, 113, 116]], [40, 40, 115, 40, 40, 112, 41, 114, 41, 41, 116, 40, 113, 41, 41], [5, 3, 2, 1, 1]),
  (13095739915262993136022652074536, [[112, 113, 114, 115, 116], [113, 112, 114, 115, 116], [112, 114, 113, 115, 116]], [40, 116, 40, 40, 40, 112, 41, 114, 41, 115, 40, 113, 41, 41, 41], [5, 4, 2, 1, 1]),
  (13095739915253698829871453361192, [[112, 113, 114, 115, 116], [113, 112, 114, 115, 116], [112, 113, 115, 114, 116], [113, 114, 112, 115, 116], [113, 112, 115, 114, 116], [112, 115, 113, 114, 116]], [40, 40, 115, 40, 112, 41, 41, 116, 40, 114, 40, 113, 41, 41, 41], [5, 2, 1, 2, 1]),
  (13095729120427270883070439995944, [[112, 113, 114, 115, 116], [113, 112, 114, 115, 116], [113, 114, 112, 115, 116]], [40, 116, 40, 40, 112, 41, 115, 40, 114, 40, 113, 41, 41, 41, 41], [5, 4, 1, 2, 1])]
noncomputable def tab5x4 : List FEnt := [(13281431223890391920422561649704, [[112, 113, 114, 115, 116], [113, 112, 114, 115, 116]], [40, 40, 40, 40, 113, 41, 114, 40, 112, 41, 41, 115, 41, 116, 41], [5, 4, 3, 1, 1]),
  (13097160341027745387041478284328, [[112, 113, 114, 115, 116], [113, 112, 114, 115, 116], [112, 113, 115, 114, 116], [113, 112, 115, 114, 116], [112, 115, 113, 114, 116], [113, 115, 112, 114, 116], [115, 112, 113, 114, 116], [115, 113, 112, 114, 116]], [40, 40, 40, 113, 41, 114, 40, 112, 41, 41, 116, 40, 115, 41, 41], [5, 3, 1, 1, 1]),
  (13281420127509748474541725324328, [[112, 113, 114, 115, 116], [113, 112, 114, 115, 116], [112, 114, 113, 115, 116]], [40, 40, 40, 113, 41, 115, 40, 40, 112, 41, 114, 41, 41, 116, 41], [5, 4, 1, 2, 1]),
  (13097160489787365151692711285800, [[112, 113, 114, 115, 116], [113, 112, 114, 115, 116], [112, 114, 113, 115, 116], [112, 114, 115, 113, 116]], [40, 40, 113, 41, 116, 40, 40, 40, 112, 41, 114, 41, 115, 41, 41], [5, 1, 3, 2, 1]),
  (13097140998214631553009042723880, [[112, 113, 114, 115, 116], [113, 112, 114, 115, 116], [112, 114, 113, 115, 116], [112, 113, 115, 114, 116], [113, 114, 112, 115, 116], [113, 112, 115, 114, 116], [114, 112, 113, 115, 116], [114, 113, 112, 115, 116]], [40, 40, 40, 113, 41, 115, 40, 112, 41, 41, 116, 40, 114, 41, 41], [5, 3, 1, 1, 1]),
  (13095740066378719455099848774696, [[112, 113, 114, 115, 116], [113, 112, 114, 115, 116], [112, 114, 113, 115, 116], [113, 114, 112, 115, 116], [114, 112, 113, 115, 116], [112, 114, 115, 113, 116], [114, 113, 112, 115, 116], [114, 112, 115, 113, 116]], [40, 40, 113, 41, 116, 40, 40, 112, 41, 115, 40, 114, 41, 41, 41], [5, 1, 3, 1, 1]),
  (13281431223885316040641533842472, [[112, 113, 114, 115, 116]], [40, 40, 40, 114, 40, 113, 40, 112, 41, 41, 41, 115, 41, 116, 41], [5, 4, 3, 2, 1]),
  (13097160341027705731730689004584, [[112, 113, 114, 115, 116], [112, 113, 115, 114, 116], [112, 115, 113, 114, 116], [115, 112, 113, 114, 116]], [40, 40, 114, 40, 113, 40, 112, 41, 41, 41, 116, 40, 115, 41, 41], [5, 3, 2, 1, 1]),
  (13281420127504672917692538999848, [[112, 113, 114, 115, 116]], [40, 40, 115, 40, 40, 113, 40, 112, 41, 41, 114, 41, 41, 116, 41], [5, 4, 3, 2, 1]),
  (13097160489782289597400521259560, [[112, 113, 114, 115, 116]], [40, 116, 40, 40, 40, 113, 40, 112, 41, 41, 114, 41, 115, 41, 41], [5, 4, 3, 2, 1]),
  (13097140998214591897663893722152, [[112, 113, 114, 115, 116], [112, 114, 113, 115, 116], [112, 113, 115, 114, 116], [114, 112, 113, 115, 116]], [40, 40, 115, 40, 113, 40, 112, 41, 41, 41, 116, 40, 114, 41, 41], [5, 3, 2, 1, 1]),
  (13095740066378679802311696071208, [[112, 113, 114, 115, 116], [112, 114, 113, 115, 116], [114, 112, 113, 115, 116]], [40, 116, 40, 40, 113, 40, 112, 41, 41, 115, 40, 114, 41, 41, 41], [5, 4, 2, 1, 1])]
noncomputable def tab5x5 : List FEnt := [(13281420126329156853824316118056, [[112, 113, 114, 115, 116], [112, 114, 113, 115, 116], [114, 112, 113, 115, 116]], [40, 40, 40, 114, 41, 115, 40, 40, 112, 41, 113, 41, 41, 116, 41], [5, 4, 1, 2, 1]),
  (13097160488606773530975299998760, [[112, 113, 114, 115, 116], [112, 114, 113, 115, 116], [112, 113, 115, 114, 116], [114, 112, 113, 115, 116]], [40, 40, 114, 41, 116, 40, 40, 40, 112, 41, 113, 41, 115, 41, 41], [5, 1, 3, 2, 1]),
  (13281420041985567389486661030952, [[112, 113, 114, 115, 116]], [40, 40, 115, 40, 114, 40, 40, 112, 41, 113, 41, 41, 41, 116, 41], [5, 4, 3, 2, 1]),
  (13097160404263184069194643290664, [[112, 113, 114, 115, 116]], [40, 116, 40, 40, 114, 40, 40, 112, 41, 113, 41, 41, 115, 41, 41], [5, 4, 3, 2, 1]),
  (13097141145793659696908504716328, [[112, 113, 114, 115, 116], [112, 113, 115, 114, 116], [112, 115, 113, 114, 116], [115, 112, 113, 114, 116]], [40, 40, 115, 41, 116, 40, 40, 40, 112, 41, 113, 41, 114, 41, 41], [5, 1, 3, 2, 1]),
  (13095740067540864331723303434792, [[112, 113, 114, 115, 116]], [40, 116, 40, 115, 40, 40, 40, 112, 41, 113, 41, 114, 41, 41, 41], [5, 4, 3, 2, 1]),
  (13097121655401517718942249522216, [[112, 113, 114, 115, 116], [113, 112, 114, 115, 116], [112, 114, 113, 115, 116], [113, 114, 112, 115, 116], [114, 112, 113, 115, 116], [112, 114, 115, 113, 116], [114, 113, 112, 115, 116], [114, 112, 115, 113, 116]], [40, 40, 40, 114, 41, 115, 40, 112, 41, 41, 116, 40, 113, 41, 41], [5, 3, 1, 1, 1]),
  (13095739915262992003271201952808, [[112, 113, 114, 115, 116], [113, 112, 114, 115, 116], [112, 114, 113, 115, 116], [112, 113, 115, 114, 116], [113, 114, 112, 115, 116], [113, 112, 115, 114, 116], [114, 112, 113, 115, 116], [114, 113, 112, 115, 116]], [40, 40, 114, 41, 116, 40, 40, 112, 41, 115, 40, 113, 41, 41, 41], [5, 1, 3, 1, 1]),
  (13097121655401478063597366858792, [[112, 113, 114, 115, 116], [113, 112, 114, 115, 116], [112, 114, 113, 115, 116], [112, 114, 115, 113, 116]], [40, 40, 115, 40, 114, 40, 112, 41, 41, 41, 116, 40, 113, 41, 41], [5, 3, 2, 1, 1]),
  (13095739915262952350483317668392, [[112, 113, 114, 115, 116], [113, 112, 114, 115, 116], [112, 114, 113, 115, 116]], [40, 116, 40, 40, 114, 40, 112, 41, 41, 115, 40, 113, 41, 41, 41], [5, 4, 2, 1, 1]),
  (13095739915253768631234347193384, [[112, 113, 114, 115, 116], [113, 112, 114, 115, 116], [112, 113, 115, 114, 116], [113, 112, 115, 114, 116], [112, 115, 113, 114, 116], [113, 115, 112, 114, 116], [115, 112, 113, 114, 116], [115, 113, 112, 114, 116]], [40, 40, 115, 41, 116, 40, 40, 112, 41, 114, 40, 113, 41, 41, 41], [5, 1, 3, 1, 1]),
  (13095729120427271432772724079144, [[112, 113, 114, 115, 116], [113, 112, 114, 115, 116]], [40, 116, 40, 115, 40, 40, 112, 41, 114, 40, 113, 41, 41, 41, 41], [5, 4, 3, 1, 1])]
noncomputable def tab5x6 : List FEnt := [(13281420125139558919734110589992, [[112, 113, 114, 115, 116], [113, 112, 114, 115, 116], [113, 114, 112, 115, 116]], [40, 40, 40, 40, 113, 41, 114, 41, 115, 40, 112, 41, 41, 116, 41], [5, 4, 2, 1, 1]),
  (13097160487411813182567447401512, [[112, 113, 114, 115, 116], [113, 112, 114, 115, 116], [112, 113, 115, 114, 116], [113, 114, 112, 115, 116], [113, 112, 115, 114, 116], [112, 115, 113, 114, 116]], [40, 40, 40, 113, 41, 114, 41, 116, 40, 40, 112, 41, 115, 41, 41], [5, 2, 1, 2, 1]),
  (13281420041976273088313211622440, [[112, 113, 114, 115, 116], [113, 112, 114, 115, 116], [112, 114, 113, 115, 116]], [40, 40, 40, 113, 41, 115, 40, 114, 40, 112, 41, 41, 41, 116, 41], [5, 4, 1, 2, 1]),
  (13097160404253889765464197583912, [[112, 113, 114, 115, 116], [113, 112, 114, 115, 116], [112, 114, 113, 115, 116], [112, 114, 115, 113, 116]], [40, 40, 113, 41, 116, 40, 40, 114, 40, 112, 41, 41, 115, 41, 41], [5, 1, 3, 2, 1]),
  (13097141144598699348535011841064, [[112, 113, 114, 115, 116], [113, 112, 114, 115, 116], [112, 114, 113, 115, 116], [112, 113, 115, 114, 116], [113, 112, 115, 114, 116], [113, 115, 112, 114, 116]], [40, 40, 40, 113, 41, 115, 41, 116, 40, 40, 112, 41, 114, 41, 41], [5, 2, 1, 2, 1]),
  (13095740067531528699569499821096, [[112, 113, 114, 115, 116], [113, 112, 114, 115, 116], [112, 114, 113, 115, 116], [112, 114, 115, 113, 116]], [40, 40, 113, 41, 116, 40, 115, 40, 40, 112, 41, 114, 41, 41, 41], [5, 1, 3, 2, 1]),
  (13281420125139558601131175842856, [[112, 113, 114, 115, 116], [113, 112, 114, 115, 116], [113, 114, 112, 115, 116]], [40, 40, 40, 114, 40, 113, 41, 41, 115, 40, 112, 41, 41, 116, 41], [5, 4, 2, 1, 1]),
  (13097160487411813180078361973800, [[112, 113, 114, 115, 116], [113, 112, 114, 115, 116], [112, 113, 115, 114, 116], [113, 114, 112, 115, 116], [113, 112, 115, 114, 116], [112, 115, 113, 114, 116]], [40, 40, 114, 40, 113, 41, 41, 116, 40, 40, 112, 41, 115, 41, 41], [5, 2, 1, 2, 1]),
  (13281420041976273092642118358056, [[112, 113, 114, 115, 116], [113, 112, 114, 115, 116]], [40, 40, 115, 40, 40, 113, 41, 114, 40, 112, 41, 41, 41, 116, 41], [5, 4, 3, 1, 1]),
  (13097160404253889772350100617768, [[112, 113, 114, 115, 116], [113, 112, 114, 115, 116]], [40, 116, 40, 40, 40, 113, 41, 114, 40, 112, 41, 41, 115, 41, 41], [5, 4, 3, 1, 1]),
  (13097141144598699346011566691368, [[112, 113, 114, 115, 116], [113, 112, 114, 115, 116], [112, 114, 113, 115, 116], [112, 113, 115, 114, 116], [113, 112, 115, 114, 116], [113, 115, 112, 114, 116]], [40, 40, 115, 40, 113, 41, 41, 116, 40, 40, 112, 41, 114, 41, 41], [5, 2, 1, 2, 1]),
  (13095740067531528699603050969640, [[112, 113, 114, 115, 116], [113, 112, 114, 115, 116], [112, 114, 113, 115, 116]], [40, 116, 40, 40, 113, 41, 115, 40, 40, 112, 41, 114, 41, 41, 41], [5, 4, 1, 2, 1])]
noncomputable def tab5x7 : List FEnt := [(13281420041976272525363260298280, [[112, 113, 114, 115, 116], [112, 114, 113, 115, 116], [114, 112, 113, 115, 116]], [40, 40, 40, 114, 41, 115, 40, 113, 40, 112, 41, 41, 41, 116, 41], [5, 4, 1, 2, 1]),
  (13097160404253889202514244178984, [[112, 113, 114, 115, 116], [112, 114, 113, 115, 116], [112, 113, 115, 114, 116], [114, 112, 113, 115, 116]], [40, 40, 114, 41, 116, 40, 40, 113, 40, 112, 41, 41, 115, 41, 41], [5, 1, 3, 2, 1]),
  (13281420041326560480670559032360, [[112, 113, 114, 115, 116]], [40, 40, 115, 40, 114, 40, 113, 40, 112, 41, 41, 41, 41, 116, 41], [5, 4, 3, 2, 1]),
  (13097160403604177160378541292072, [[112, 113, 114, 115, 116]], [40, 116, 40, 40, 114, 40, 113, 40, 112, 41, 41, 41, 115, 41, 41], [5, 4, 3, 2, 1]),
  (13097141061440775368447448896552, [[112, 113, 114, 115, 116], [112, 113, 115, 114, 116], [112, 115, 113, 114, 116], [115, 112, 113, 114, 116]], [40, 40, 115, 41, 116, 40, 40, 113, 40, 112, 41, 41, 114, 41, 41], [5, 1, 3, 2, 1]),
  (13095740066881857422907201436200, [[112, 113, 114, 115, 116]], [40, 116, 40, 115, 40, 40, 113, 40, 112, 41, 41, 114, 41, 41, 41], [5, 4, 3, 2, 1]),
  (13097121801785585514468218639400, [[112, 113, 114, 115, 116], [112, 114, 113, 115, 116], [114, 112, 113, 115, 116], [112, 114, 115, 113, 116], [114, 112, 115, 113, 116], [114, 115, 112, 113, 116]], [40, 40, 40, 114, 41, 115, 41, 116, 40, 40, 112, 41, 113, 41, 41], [5, 2, 1, 2, 1]),
  (13095739916415801247740852999208, [[112, 113, 114, 115, 116], [112, 114, 113, 115, 116], [112, 113, 115, 114, 116], [114, 112, 113, 115, 116]], [40, 40, 114, 41, 116, 40, 115, 40, 40, 112, 41, 113, 41, 41, 41], [5, 1, 3, 2, 1]),
  (13097121801785585511945039828008, [[112, 113, 114, 115, 116], [112, 114, 113, 115, 116], [114, 112, 113, 115, 116], [112, 114, 115, 113, 116], [114, 112, 115, 113, 116], [114, 115, 112, 113, 116]], [40, 40, 115, 40, 114, 41, 41, 116, 40, 40, 112, 41, 113, 41, 41], [5, 2, 1, 2, 1]),
  (13095739916415801247774672566824, [[112, 113, 114, 115, 116], [112, 114, 113, 115, 116], [114, 112, 113, 115, 116]], [40, 116, 40, 40, 114, 41, 115, 40, 40, 112, 41, 113, 41, 41, 41], [5, 4, 1, 2, 1]),
  (13095739916415801243342806504488, [[112, 113, 114, 115, 116], [112, 113, 115, 114, 116], [112, 115, 113, 114, 116], [115, 112, 113, 114, 116]], [40, 40, 115, 41, 116, 40, 114, 40, 40, 112, 41, 113, 41, 41, 41], [5, 1, 3, 2, 1]),
  (13095729120436349812554821417512, [[112, 113, 114, 115, 116]], [40, 116, 40, 115, 40, 114, 40, 40, 112, 41, 113, 41, 41, 41, 41], [5, 4, 3, 2, 1])]
noncomputable def tab5x8 : List FEnt := [(13097102312593696500319561323560, [[112, 113, 114, 115, 116], [113, 112, 114, 115, 116], [113, 114, 112, 115, 116], [113, 114, 115, 112, 116]], [40, 40, 40, 40, 113, 41, 114, 41, 115, 41, 116, 40, 112, 41, 41], [5, 3, 2, 1, 1]),
  (13095739764147194752569015145512, [[112, 113, 114, 115, 116], [113, 112, 114, 115, 116], [112, 113, 115, 114, 116], [113, 114, 112, 115, 116], [113, 112, 115, 114, 116], [112, 115, 113, 114, 116]], [40, 40, 40, 113, 41, 114, 41, 116, 40, 115, 40, 112, 41, 41, 41], [5, 2, 1, 2, 1]),
  (13097102312588405010775358968872, [[112, 113, 114, 115, 116], [113, 112, 114, 115, 116], [112, 114, 113, 115, 116], [113, 114, 112, 115, 116], [114, 112, 113, 115, 116], [114, 113, 112, 115, 116], [113, 114, 115, 112, 116], [114, 113, 115, 112, 116]], [40, 40, 40, 113, 41, 115, 40, 114, 41, 41, 116, 40, 112, 41, 41], [5, 3, 1, 1, 1]),
  (13095739764147265677342461940776, [[112, 113, 114, 115, 116], [113, 112, 114, 115, 116], [112, 114, 113, 115, 116], [113, 114, 112, 115, 116], [114, 112, 113, 115, 116], [112, 114, 115, 113, 116], [114, 113, 112, 115, 116], [114, 112, 115, 113, 116]], [40, 40, 113, 41, 116, 40, 40, 114, 41, 115, 40, 112, 41, 41, 41], [5, 1, 3, 1, 1]),
  (13095739764137971380566520108072, [[112, 113, 114, 115, 116], [113, 112, 114, 115, 116], [112, 114, 113, 115, 116], [112, 113, 115, 114, 116], [113, 112, 115, 114, 116], [113, 115, 112, 114, 116]], [40, 40, 40, 113, 41, 115, 41, 116, 40, 114, 40, 112, 41, 41, 41], [5, 2, 1, 2, 1]),
  (13095729119246679262319745979432, [[112, 113, 114, 115, 116], [113, 112, 114, 115, 116], [112, 114, 113, 115, 116], [112, 114, 115, 113, 116]], [40, 40, 113, 41, 116, 40, 115, 40, 114, 40, 112, 41, 41, 41, 41], [5, 1, 3, 2, 1]),
  (13097102312593696181716626576424, [[112, 113, 114, 115, 116], [113, 112, 114, 115, 116], [113, 114, 112, 115, 116], [113, 114, 115, 112, 116]], [40, 40, 40, 114, 40, 113, 41, 41, 115, 41, 116, 40, 112, 41, 41], [5, 3, 2, 1, 1]),
  (13095739764147194750079929717800, [[112, 113, 114, 115, 116], [113, 112, 114, 115, 116], [112, 113, 115, 114, 116], [113, 114, 112, 115, 116], [113, 112, 115, 114, 116], [112, 115, 113, 114, 116]], [40, 40, 114, 40, 113, 41, 41, 116, 40, 115, 40, 112, 41, 41, 41], [5, 2, 1, 2, 1]),
  (13097102312588405015104265704488, [[112, 113, 114, 115, 116], [113, 112, 114, 115, 116], [113, 114, 112, 115, 116], [113, 114, 115, 112, 116]], [40, 40, 115, 40, 40, 113, 41, 114, 41, 41, 116, 40, 112, 41, 41], [5, 3, 2, 1, 1]),
  (13095739764147265684228364974632, [[112, 113, 114, 115, 116], [113, 112, 114, 115, 116], [113, 114, 112, 115, 116]], [40, 116, 40, 40, 40, 113, 41, 114, 41, 115, 40, 112, 41, 41, 41], [5, 4, 2, 1, 1]),
  (13095739764137971378043074958376, [[112, 113, 114, 115, 116], [113, 112, 114, 115, 116], [112, 114, 113, 115, 116], [112, 113, 115, 114, 116], [113, 112, 115, 114, 116], [113, 115, 112, 114, 116]], [40, 40, 115, 40, 113, 41, 41, 116, 40, 114, 40, 112, 41, 41, 41], [5, 2, 1, 2, 1]),
  (13095729119246679262353297127976, [[112, 113, 114, 115, 116], [113, 112, 114, 115, 116], [112, 114, 113, 115, 116]], [40, 116, 40, 40, 113, 41, 115, 40, 114, 40, 112, 41, 41, 41, 41], [5, 4, 1, 2, 1])]
noncomputable def tab5x9 : List FEnt := [(13097102312588404447825407644712, [[112, 113, 114, 115, 116], [113, 112, 114, 115, 116], [112, 114, 113, 115, 116], [113, 114, 112, 115, 116], [114, 112, 113, 115, 116], [114, 113, 112, 115, 116], [113, 114, 115, 112, 116], [114, 113, 115, 112, 116]], [40, 40, 40, 114, 41, 115, 40, 113, 41, 41, 116, 40, 112, 41, 41], [5, 3, 1, 1, 1]),
  (13095739764147265114392508535848, [[112, 113, 114, 115, 116], [113, 112, 114, 115, 116], [112, 114, 113, 115, 116], [112, 113, 115, 114, 116], [113, 114, 112, 115, 116], [113, 112, 115, 114, 116], [114, 112, 113, 115, 116], [114, 113, 112, 115, 116]], [40, 40, 114, 41, 116, 40, 40, 113, 41, 115, 40, 112, 41, 41, 41], [5, 1, 3, 1, 1]),
  (13097102312588364233928618071080, [[112, 113, 114, 115, 116], [113, 112, 114, 115, 116], [113, 114, 112, 115, 116], [113, 114, 115, 112, 116]], [40, 40, 115, 40, 114, 40, 113, 41, 41, 41, 116, 40, 112, 41, 41], [5, 3, 2, 1, 1]),
  (13095739764147224903052717341224, [[112, 113, 114, 115, 116], [113, 112, 114, 115, 116], [113, 114, 112, 115, 116]], [40, 116, 40, 40, 114, 40, 113, 41, 41, 115, 40, 112, 41, 41, 41], [5, 4, 2, 1, 1]),
  (13095739764138041742355653776424, [[112, 113, 114, 115, 116], [113, 112, 114, 115, 116], [112, 113, 115, 114, 116], [113, 112, 115, 114, 116], [112, 115, 113, 114, 116], [113, 115, 112, 114, 116], [115, 112, 113, 114, 116], [115, 113, 112, 114, 116]], [40, 40, 115, 41, 116, 40, 40, 113, 41, 114, 40, 112, 41, 41, 41], [5, 1, 3, 1, 1]),
  (13095729119246679816453359286824, [[112, 113, 114, 115, 116], [113, 112, 114, 115, 116]], [40, 116, 40, 115, 40, 40, 113, 41, 114, 40, 112, 41, 41, 41, 41], [5, 4, 3, 1, 1]),
  (13095739764128748008529667429416, [[112, 113, 114, 115, 116], [112, 114, 113, 115, 116], [114, 112, 113, 115, 116], [112, 114, 115, 113, 116], [114, 112, 115, 113, 116], [114, 115, 112, 113, 116]], [40, 40, 40, 114, 41, 115, 41, 116, 40, 113, 40, 112, 41, 41, 41], [5, 2, 1, 2, 1]),
  (13095729119246607204725708067880, [[112, 113, 114, 115, 116], [112, 114, 113, 115, 116], [112, 113, 115, 114, 116], [114, 112, 113, 115, 116]], [40, 40, 114, 41, 116, 40, 115, 40, 113, 40, 112, 41, 41, 41, 41], [5, 1, 3, 2, 1]),
  (13095739764128748006006488618024, [[112, 113, 114, 115, 116], [112, 114, 113, 115, 116], [114, 112, 113, 115, 116], [112, 114, 115, 113, 116], [114, 112, 115, 113, 116], [114, 115, 112, 113, 116]], [40, 40, 115, 40, 114, 41, 41, 116, 40, 113, 40, 112, 41, 41, 41], [5, 2, 1, 2, 1]),
  (13095729119246607204759527635496, [[112, 113, 114, 115, 116], [112, 114, 113, 115, 116], [114, 112, 113, 115, 116]], [40, 116, 40, 40, 114, 41, 115, 40, 113, 40, 112, 41, 41, 41, 41], [5, 4, 1, 2, 1]),
  (13095729119246607200327661573160, [[112, 113, 114, 115, 116], [112, 113, 115, 114, 116], [112, 115, 113, 114, 116], [115, 112, 113, 114, 116]], [40, 40, 115, 41, 116, 40, 114, 40, 113, 40, 112, 41, 41, 41, 41], [5, 1, 3, 2, 1]),
  (13095729036083465484093765597736, [[112, 113, 114, 115, 116]], [40, 116, 40, 115, 40, 114, 40, 113, 40, 112, 41, 41, 41, 41, 41], [5, 4, 3, 2, 1])]
noncomputable def tab5 : List FEnt := tab5x0 ++ tab5x1 ++ tab5x2 ++ tab5x3 ++ tab5x4 ++ tab5x5 ++ tab5x6 ++ tab5x7 ++ tab5x8 ++ tab5x9
noncomputable def tab4x0 : List FEnt := [(6331899258306074434475048, [[112, 113, 114, 115]], [40, 40, 40, 40, 112, 41, 113, 41, 114, 41, 115, 41], [4, 3, 2, 1]),
  (6245203493613809787606056, [[112, 113, 114, 115], [112, 114, 113, 115], [114, 112, 113, 115]], [40, 40, 40, 112, 41, 113, 41, 115, 40, 114, 41, 41], [4, 2, 1, 1]),
  (6331894038315538269738024, [[112, 113, 114, 115], [113, 112, 114, 115]], [40, 40, 40, 112, 41, 114, 40, 113, 41, 41, 115, 41], [4, 3, 1, 1]),
  (6245203564538617327785000, [[112, 113, 114, 115], [113, 112, 114, 115], [113, 114, 112, 115]], [40, 40, 112, 41, 115, 40, 40, 113, 41, 114, 41, 41], [4, 1, 2, 1]),
  (6245194270241807292568616, [[112, 113, 114, 115], [113, 112, 114, 115], [112, 114, 113, 115]], [40, 40, 40, 112, 41, 114, 41, 115, 40, 113, 41, 41], [4, 2, 1, 1]),
  (6244535405756806502028328, [[112, 113, 114, 115], [113, 112, 114, 115], [113, 114, 112, 115]], [40, 40, 112, 41, 115, 40, 114, 40, 113, 41, 41, 41], [4, 1, 2, 1]),
  (6331899257991835452838952, [[112, 113, 114, 115]], [40, 40, 40, 113, 40, 112, 41, 41, 114, 41, 115, 41], [4, 3, 2, 1]),
  (6245203493611354795562024, [[112, 113, 114, 115], [112, 114, 113, 115], [114, 112, 113, 115]], [40, 40, 113, 40, 112, 41, 41, 115, 40, 114, 41, 41], [4, 2, 1, 1]),
  (6331894038319867178554408, [[112, 113, 114, 115]], [40, 40, 114, 40, 40, 112, 41, 113, 41, 41, 115, 41], [4, 3, 2, 1]),
  (6245203564545469139532200, [[112, 113, 114, 115]], [40, 115, 40, 40, 40, 112, 41, 113, 41, 114, 41, 41], [4, 3, 2, 1]),
  (6245194270239317940802600, [[112, 113, 114, 115], [113, 112, 114, 115], [112, 114, 113, 115]], [40, 40, 114, 40, 112, 41, 41, 115, 40, 113, 41, 41], [4, 2, 1, 1]),
  (6244535405756840053193128, [[112, 113, 114, 115], [113, 112, 114, 115]], [40, 115, 40, 40, 112, 41, 114, 40, 113, 41, 41, 41], [4, 3, 1, 1])]
noncomputable def tab4x1 : List FEnt := [(6331894037752588318413864, [[112, 113, 114, 115], [113, 112, 114, 115]], [40, 40, 40, 113, 41, 114, 40, 112, 41, 41, 115, 41], [4, 3, 1, 1]),
  (6245203563975667374380072, [[112, 113, 114, 115], [113, 112, 114, 115], [112, 114, 113, 115]], [40, 40, 113, 41, 115, 40, 40, 112, 41, 114, 41, 41], [4, 1, 2, 1]),
  (6331893998097277529134120, [[112, 113, 114, 115]], [40, 40, 114, 40, 113, 40, 112, 41, 41, 41, 115, 41], [4, 3, 2, 1]),
  (6245203524322879490111912, [[112, 113, 114, 115]], [40, 115, 40, 40, 113, 40, 112, 41, 41, 114, 41, 41], [4, 3, 2, 1]),
  (6245194340603630519620648, [[112, 113, 114, 115], [112, 114, 113, 115], [114, 112, 113, 115]], [40, 40, 114, 41, 115, 40, 40, 112, 41, 113, 41, 41], [4, 1, 2, 1]),
  (6244535406310940381690280, [[112, 113, 114, 115]], [40, 115, 40, 114, 40, 40, 112, 41, 113, 41, 41, 41], [4, 3, 2, 1]),
  (6245185046869770439889960, [[112, 113, 114, 115], [113, 112, 114, 115], [113, 114, 112, 115]], [40, 40, 40, 113, 41, 114, 41, 115, 40, 112, 41, 41], [4, 2, 1, 1]),
  (6244535333699212464116776, [[112, 113, 114, 115], [113, 112, 114, 115], [112, 114, 113, 115]], [40, 40, 113, 41, 115, 40, 114, 40, 112, 41, 41, 41], [4, 1, 2, 1]),
  (6245185046867281354462248, [[112, 113, 114, 115], [113, 112, 114, 115], [113, 114, 112, 115]], [40, 40, 114, 40, 113, 41, 41, 115, 40, 112, 41, 41], [4, 2, 1, 1]),
  (6244535333699246283700648, [[112, 113, 114, 115], [113, 112, 114, 115]], [40, 115, 40, 40, 113, 41, 114, 40, 112, 41, 41, 41], [4, 3, 1, 1]),
  (6244535333694814417622056, [[112, 113, 114, 115], [112, 114, 113, 115], [114, 112, 113, 115]], [40, 40, 114, 41, 115, 40, 113, 40, 112, 41, 41, 41], [4, 1, 2, 1]),
  (6244530257819465255893416, [[112, 113, 114, 115]], [40, 115, 40, 114, 40, 113, 40, 112, 41, 41, 41, 41], [4, 3, 2, 1])]
noncomputable def tab4 : List FEnt := tab4x0 ++ tab4x1
noncomputable def D5 : List Nat := [0, 1, 2, 3, 4]
noncomputable def D4 : List Nat := [0, 1, 2, 3]
noncomputable def chk5 (a b : Nat) : Bool := D5.all fun c => D5.all fun d => D5.all fun e => patOk tab5 [a, b, c, d, e]
noncomputable def chk4 (a : Nat) : Bool := D4.all fun c => D4.all fun d => D4.all fun e => patOk tab4 [a, c, d, e]
end Mine
end
section
set_option maxRecDepth 100000
set_option maxHeartbeats 4000000
namespace Mine
theorem pk00 : chk5 0 0 = true := by decide +kernel
theorem pk01 : chk5 0 1 = true := by decide +kernel
theorem pk02 : chk5 0 2 = true := by decide +kernel
theorem pk03 : chk5 0 3 = true := by decide +kernel
theorem pk04 : chk5 0 4 = true := by decide +kernel
theorem pk10 : chk5 1 0 = true := by decide +kernel
theorem pk11 : chk5 1 1 = true := by decide +kernel
theorem pk12 : chk5 1 2 = true := by decide +kernel
theorem pk13 : chk5 1 3 = true := by decide +kernel
theorem pk14 : chk5 1 4 = true := by decide +kernel
theorem pk20 : chk5 2 0 = true := by decide +kernel
theorem pk21 : chk5 2 1 = true := by decide +kernel
theorem pk22 : chk5 2 2 = true := by decide +kernel
theorem pk23 : chk5 2 3 = true := by decide +kernel
theorem pk24 : chk5 2 4 = true := by decide +kernel
theorem pk30 : chk5 3 0 = true := by decide +kernel
theorem pk31 : chk5 3 1 = true := by decide +kernel
theorem pk32 : chk5 3 2 = true := by decide +kernel
theorem pk33 : chk5 3 3 = true := by decide +kernel
theorem pk34 : chk5 3 4 = true := by decide +kernel
theorem pk40 : chk5 4 0 = true := by decide +kernel
theorem pk41 : chk5 4 1 = true := by decide +kernel
theorem pk42 : chk5 4 2 = true := by decide +kernel
theorem pk43 : chk5 4 3 = true := by decide +kernel
theorem pk44 : chk5 4 4 = true := by decide +kernel
theorem pq0 : chk4 0 = true := by decide +kernel
theorem pq1 : chk4 1 = true := by decide +kernel
theorem pq2 : chk4 2 = true := by decide +kernel
theorem pq3 : chk4 3 = true := by decide +kernel
theorem et0 : tab5x0.all (entX 5) = true := by decide +kernel
theorem et1 : tab5x1.all (entX 5) = true := by decide +kernel
theorem et2 : tab5x2.all (entX 5) = true := by decide +kernel
theorem et3 : tab5x3.all (entX 5) = true := by decide +kernel
theorem et4 : tab5x4.all (entX 5) = true := by decide +kernel
theorem et5 : tab5x5.all (entX 5) = true := by decide +kernel
theorem et6 : tab5x6.all (entX 5) = true := by decide +kernel
theorem et7 : tab5x7.all (entX 5) = true := by decide +kernel
theorem et8 : tab5x8.all (entX 5) = true := by decide +kernel
theorem et9 : tab5x9.all (entX 5) = true := by decide +kernel
theorem eu0 : tab4x0.all (entX 4) = true := by decide +kernel
theorem eu1 : tab4x1.all (entX 4) = true := by decide +kernel
theorem en5 {e : FEnt} (h : e ∈ tab5) : entOk 5 (toE e) = true := by
  rw [← entX_eq]
  unfold tab5 at h
  simp only [List.mem_append] at h
  rcases h with ((((((((h | h) | h) | h) | h) | h) | h) | h) | h) | h
  · exact List.all_eq_true.mp et0 e h
  · exact List.all_eq_true.mp et1 e h
  · exact List.all_eq_true.mp et2 e h
  · exact List.all_eq_true.mp et3 e h
  · exact List.all_eq_true.mp et4 e h
  · exact List.all_eq_true.mp et5 e h
  · exact List.all_eq_true.mp et6 e h
  · exact List.all_eq_true.mp et7 e h
  · exact List.all_eq_true.mp et8 e h
  · exact List.all_eq_true.mp et9 e h
theorem en4 {e : FEnt} (h : e ∈ tab4) : entOk 4 (toE e) = true := by
  rw [← entX_eq]
  unfold tab4 at h
  simp only [List.mem_append] at h
  rcases h with h | h
  · exact List.all_eq_true.mp eu0 e h
  · exact List.all_eq_true.mp eu1 e h
theorem mem5 {a : Nat} (h : a < 5) : a ∈ D5 := by
  unfold D5
  simp only [List.mem_cons, List.not_mem_nil, or_false]; omega
theorem mem4 {a : Nat} (h : a < 4) : a ∈ D4 := by
  unfold D4
  simp only [List.mem_cons, List.not_mem_nil, or_false]; omega
theorem pk {a b : Nat} (ha : a < 5) (hb : b < 5) : chk5 a b = true := by
  match a, b, ha, hb with
  | 0, 0, _, _ => exact pk00
  | 0, 1, _, _ => exact pk01
  | 0, 2, _, _ => exact pk02
  | 0, 3, _, _ => exact pk03
  | 0, 4, _, _ => exact pk04
  | 1, 0, _, _ => exact pk10
  | 1, 1, _, _ => exact pk11
  | 1, 2, _, _ => exact pk12
  | 1, 3, _, _ => exact pk13
  | 1, 4, _, _ => exact pk14
  | 2, 0, _, _ => exact pk20
  | 2, 1, _, _ => exact pk21
  | 2, 2, _, _ => exact pk22
  | 2, 3, _, _ => exact pk23
  | 2, 4, _, _ => exact pk24
  | 3, 0, _, _ => exact pk30
  | 3, 1, _, _ => exact pk31
  | 3, 2, _, _ => exact pk32
  | 3, 3, _, _ => exact pk33
  | 3, 4, _, _ => exact pk34
  | 4, 0, _, _ => exact pk40
  | 4, 1, _, _ => exact pk41
  | 4, 2, _, _ => exact pk42
  | 4, 3, _, _ => exact pk43
  | 4, 4, _, _ => exact pk44
theorem pq {a : Nat} (ha : a < 4) : chk4 a = true := by
  match a, ha with
  | 0, _ => exact pq0
  | 1, _ => exact pq1
  | 2, _ => exact pq2
  | 3, _ => exact pq3
theorem all5 {a b c d e : Nat} (ha : a < 5) (hb : b < 5) (hc : c < 5) (hd : d < 5) (he : e < 5) : patOk tab5 [a, b, c, d, e] = true :=
  List.all_eq_true.mp (List.all_eq_true.mp (List.all_eq_true.mp (pk ha hb) c (mem5 hc)) d (mem5 hd)) e (mem5 he)
theorem all4 {a b c d : Nat} (ha : a < 4) (hb : b < 4) (hc : c < 4) (hd : d < 4) : patOk tab4 [a, b, c, d] = true :=
  List.all_eq_true.mp (List.all_eq_true.mp (List.all_eq_true.mp (pq ha) b (mem4 hb)) c (mem4 hc)) d (mem4 hd)
end Mine
end
section
set_option maxRecDepth 100000
set_option maxHeartbeats 4000000
namespace Mine
/- ranks -/
theorem countP_le {p q : Nat → Bool} : ∀ {l : List Nat}, (∀ x ∈ l, p x = true → q x = true) → l.countP p ≤ l.countP q
  | [], _ => Nat.le_refl _
  | a :: l, h => by
    rw [List.countP_cons, List.countP_cons]
    have := countP_le (l := l) fun x hx => h x (List.mem_cons_of_mem _ hx)
    have h1 := h a (List.mem_cons_self ..)
    by_cases hp : p a = true
    · rw [if_pos hp, if_pos (h1 hp)]; omega
    · rw [if_neg hp]; split <;> omega
theorem countP_lt {p q : Nat → Bool} : ∀ {l : List Nat} {z : Nat}, (∀ x ∈ l, p x = true → q x = true) → z ∈ l → p z = false → q z = true → l.countP p < l.countP q
  | a :: l, z, h, hz, h1, h2 => by
    rw [List.countP_cons, List.countP_cons]
    have hl : ∀ x ∈ l, p x = true → q x = true := fun x hx => h x (List.mem_cons_of_mem _ hx)
    rcases List.mem_cons.mp hz with rfl | hz
    · have := countP_le hl
      rw [if_neg (by rw [h1]; exact Bool.false_ne_true), if_pos h2]; omega
    · have := countP_lt hl hz h1 h2
      have h3 := h a (List.mem_cons_self ..)
      by_cases hp : p a = true
      · rw [if_pos hp, if_pos (h3 hp)]; omega
      · rw [if_neg hp]; split <;> omega
theorem blt_iff {i j : Nat} : Nat.blt i j = true ↔ i < j := ⟨fun h => Nat.le_of_ble_eq_true h, fun h => Nat.ble_eq_true_of_le h⟩
noncomputable def rk (l : List Nat) (k : Nat) : Nat := l.countP (Nat.blt · k)
noncomputable def rankL (l : List Nat) : List Nat := l.map (rk l)
theorem rk_iff {l : List Nat} {a b : Nat} (hb : b ∈ l) : rk l a ≤ rk l b ↔ a ≤ b := by
  constructor
  · intro h
    rcases Nat.lt_or_ge b a with h1 | h1
    · have := countP_lt (p := (Nat.blt · b)) (q := (Nat.blt · a)) (l := l) (z := b) (fun x _ hx => blt_iff.mpr (by have := blt_iff.mp hx; omega)) hb (by
        cases hq : Nat.blt b b with
        | false => rfl
        | true => exact absurd (blt_iff.mp hq) (Nat.lt_irrefl _)) (blt_iff.mpr h1)
      unfold rk at h; omega
    · exact h1
  · intro h
    exact countP_le fun x _ hx => blt_iff.mpr (by have := blt_iff.mp hx; omega)
theorem rk_lt {l : List Nat} {a : Nat} (ha : a ∈ l) : rk l a < l.length := by
  have := countP_lt (p := (Nat.blt · a)) (q := fun _ => true) (l := l) (z := a) (fun _ _ _ => rfl) ha (by
    cases hq : Nat.blt a a with
    | false => rfl
    | true => exact absurd (blt_iff.mp hq) (Nat.lt_irrefl _)) rfl
  rw [List.countP_true] at this
  exact this
theorem keyC_mem {l : List Nat} (h : l ≠ []) (c : Nat) : keyC l c ∈ l := by
  unfold keyC
  rw [List.getD_eq_getElem?_getD]
  cases hq : l[c - 112]? with
  | some v => exact List.mem_of_getElem? hq
  | none =>
    cases l with
    | nil => exact absurd rfl h
    | cons a l => exact List.mem_cons_self ..
theorem keyC_rank {l : List Nat} (h : l ≠ []) (c : Nat) : keyC (rankL l) c = rk l (keyC l c) := by
  unfold keyC rankL
  rw [List.getD_eq_getElem?_getD, List.getD_eq_getElem?_getD, List.getElem?_map]
  cases hq : l[c - 112]? with
  | some v => rfl
  | none =>
    cases l with
    | nil => exact absurd rfl h
    | cons a l => rfl
theorem rank_iff {l : List Nat} (h : l ≠ []) (c d : Nat) : keyC (rankL l) c ≤ keyC (rankL l) d ↔ keyC l c ≤ keyC l d := by
  rw [keyC_rank h, keyC_rank h]
  exact rk_iff (keyC_mem h d)
theorem ble_le {i j i' j' : Nat} (h : i ≤ j ↔ i' ≤ j') : Nat.ble i j = Nat.ble i' j' := by
  rw [Bool.eq_iff_iff, Nat.ble_eq, Nat.ble_eq]; exact h
theorem QK_of {l l' : List Nat} (h : ∀ c d, keyC l' c ≤ keyC l' d ↔ keyC l c ≤ keyC l d) : QK l' = QK l := by
  funext a b c
  unfold QK
  have h1 := h a c
  have h2 := h b c
  have h3 : keyC l' c < keyC l' a ↔ keyC l c < keyC l a := by have := h a c; omega
  have h4 : keyC l' c < keyC l' b ↔ keyC l c < keyC l b := by have := h b c; omega
  have e1 : ∀ x y z : Nat, Nat.min x y ≤ z ↔ (x ≤ z ∨ y ≤ z) := fun x y z => by show min x y ≤ z ↔ _; omega
  have e2 : ∀ x y z : Nat, z < Nat.max x y ↔ (z < x ∨ z < y) := fun x y z => by show z < max x y ↔ _; omega
  rw [ble_le (i' := Nat.min (keyC l a) (keyC l b)) (j' := keyC l c) (by rw [e1, e1, h1, h2])]
  congr 1
  rw [Bool.eq_iff_iff, blt_iff, blt_iff, e2, e2, h3, h4]
theorem low_of {K K' : Nat → Int} (h : ∀ c d, K' c ≤ K' d ↔ K c ≤ K d) (row : Tx) : lowT K' row = lowT K row := by
  unfold lowT
  exact List.filter_congr fun c _ => decide_eq_decide.mpr (h _ _)
theorem high_of {K K' : Nat → Int} (h : ∀ c d, K' c ≤ K' d ↔ K c ≤ K d) (row : Tx) : highT K' row = highT K row := by
  unfold highT
  exact List.filter_congr fun c _ => decide_eq_decide.mpr (by have := h c (row.getLastD 0); omega)
theorem tree_of {K K' : Nat → Int} (h : ∀ c d, K' c ≤ K' d ↔ K c ≤ K d) : ∀ k row, treeT K' k row = treeT K k row
  | 0, _ => rfl
  | k + 1, row => by unfold treeT; rw [low_of h, high_of h, tree_of h k, tree_of h k]
theorem sizes_of {K K' : Nat → Int} (h : ∀ c d, K' c ≤ K' d ↔ K c ≤ K d) : ∀ k row, sizesT K' k row = sizesT K k row
  | 0, _ => rfl
  | k + 1, row => by unfold sizesT; rw [low_of h, high_of h, sizes_of h k, sizes_of h k]
theorem rank_len (l : List Nat) : (rankL l).length = l.length := List.length_map ..
theorem pat_rank {l : List Nat} (h : l ≠ []) : pat (rankL l) = pat l := by
  have hI : ∀ c d, keyI (rankL l) c ≤ keyI (rankL l) d ↔ keyI l c ≤ keyI l d := fun c d => by
    have := rank_iff h c d
    unfold keyI; omega
  have ht : ∀ row, treeK (rankL l) row = treeK l row := fun row => by unfold treeK; rw [rank_len]; exact tree_of hI _ _
  have ht' : treeK (rankL l) = treeK l := funext ht
  unfold pat rowsK
  rw [QK_of (rank_iff h), ht', rank_len, sizes_of hI]
theorem rank_ok {l : List Nat} (h : l ≠ []) : rkOk (rankL l) = true := by
  unfold rkOk
  refine List.all_eq_true.mpr fun k hk => ?_
  obtain ⟨a, ha, rfl⟩ := List.mem_map.mp hk
  have e : (rankL l).countP (Nat.blt · (rk l a)) = rk l a := by
    unfold rankL
    rw [List.countP_map]
    refine List.countP_congr fun x hx => ?_
    show Nat.blt (rk l x) (rk l a) = true ↔ Nat.blt x a = true
    rw [blt_iff, blt_iff]
    have := rk_iff (l := l) (a := a) hx
    omega
  rw [e]; exact Nat.beq_refl _
end Mine
end
section
set_option maxRecDepth 100000
set_option maxHeartbeats 4000000
namespace Mine
theorem pat_parts {l : List Nat} {e : Ent} (h : pat l = some e) : rowsT (QK l) 20 0 [nameT l.length] = some e.1 ∧ treeT (keyI l) l.length (nameT l.length) = e.2.1 ∧ sizesT (keyI l) l.length (nameT l.length) = e.2.2 ∧ ∀ r ∈ e.1, treeT (keyI l) l.length r = e.2.1 := by
  unfold pat rowsK at h
  rw [rowsG_eq] at h
  cases hr : rowsT (QK l) 20 0 [nameT l.length] with
  | none => rw [hr] at h; cases h
  | some R =>
    rw [hr] at h
    have h' : (if (R.all fun r => treeK l r == treeK l (nameT l.length)) = true then some (R, treeK l (nameT l.length), sizesT (keyI l) l.length (nameT l.length)) else none) = some e := h
    by_cases hb : (R.all fun r => treeK l r == treeK l (nameT l.length)) = true
    · rw [if_pos hb] at h'
      cases h'
      exact ⟨rfl, rfl, rfl, fun r hm => beq_iff_eq.mp (List.all_eq_true.mp hb r hm)⟩
    · rw [if_neg hb] at h'; cases h'
theorem pat5 {l : List Nat} (h : l.length = 5) : ∃ e, entOk 5 e = true ∧ pat l = some e := by
  have h0 : l ≠ [] := fun q => by rw [q] at h; cases h
  have hlt : ∀ k ∈ rankL l, k < 5 := fun k hk => by
    obtain ⟨a, ha, rfl⟩ := List.mem_map.mp hk
    rw [← h]; exact rk_lt ha
  have hr := rank_ok h0
  have hp := pat_rank h0
  have hl := rank_len l
  rw [h] at hl
  generalize rankL l = r at *
  match r, hl with
  | [a, b, c, d, f], _ =>
    obtain ⟨e, he, hq⟩ := patOk_of (all5 (hlt a (by simp)) (hlt b (by simp)) (hlt c (by simp)) (hlt d (by simp)) (hlt f (by simp))) hr
    exact ⟨toE e, en5 he, by rw [← hp]; exact hq⟩
theorem pat4 {l : List Nat} (h : l.length = 4) : ∃ e, entOk 4 e = true ∧ pat l = some e := by
  have h0 : l ≠ [] := fun q => by rw [q] at h; cases h
  have hlt : ∀ k ∈ rankL l, k < 4 := fun k hk => by
    obtain ⟨a, ha, rfl⟩ := List.mem_map.mp hk
    rw [← h]; exact rk_lt ha
  have hr := rank_ok h0
  have hp := pat_rank h0
  have hl := rank_len l
  rw [h] at hl
  generalize rankL l = r at *
  match r, hl with
  | [a, b, c, d], _ =>
    obtain ⟨e, he, hq⟩ := patOk_of (all4 (hlt a (by simp)) (hlt b (by simp)) (hlt c (by simp)) (hlt d (by simp))) hr
    exact ⟨toE e, en4 he, by rw [← hp]; exact hq⟩
structure Ok (n : Nat) (R t : List Tx) (s : List Nat) : Prop where
  pos : R ≠ []
  few : R.length ≤ 100
  row : ∀ r ∈ R, r.length = n
  tfew : t.length ≤ 100
  sign : ∀ x ∈ t, ∃ c ∈ sgL, x = [c]
  slen : s.length = n
  ways : waysT R s n = wholeT n
  ends : endsT t (spotT n t) R = true
  hang : hangT t (spotT n t) R = true
theorem ent_ok {n : Nat} {e : Ent} (h : entOk n e = true) : Ok n e.1 e.2.1 e.2.2 := by
  unfold entOk at h
  obtain ⟨h, h8⟩ := Bool.and_eq_true_iff.mp h
  obtain ⟨h, h7⟩ := Bool.and_eq_true_iff.mp h
  obtain ⟨h, h6⟩ := Bool.and_eq_true_iff.mp h
  obtain ⟨h, h5⟩ := Bool.and_eq_true_iff.mp h
  obtain ⟨h, h4⟩ := Bool.and_eq_true_iff.mp h
  obtain ⟨h, h3⟩ := Bool.and_eq_true_iff.mp h
  obtain ⟨h1, h2⟩ := Bool.and_eq_true_iff.mp h
  unfold finF at h8
  rw [endsF_eq, endsG_eq, hangF_eq, hangG_eq] at h8
  obtain ⟨h8, h9⟩ := Bool.and_eq_true_iff.mp h8
  refine ⟨fun q => ?_, Nat.le_of_ble_eq_true h2, fun r hr => Nat.eq_of_beq_eq_true (List.all_eq_true.mp h3 r hr), Nat.le_of_ble_eq_true h4, fun x hx => ?_, Nat.eq_of_beq_eq_true h6, Nat.eq_of_beq_eq_true h7, h8, h9⟩
  · rw [q] at h1; cases h1
  · obtain ⟨c, hc, hq⟩ := List.any_eq_true.mp (List.all_eq_true.mp h5 x hx)
    exact ⟨c, hc, eqF_of hq⟩
theorem plain {l : List Nat} (h : l.length = 4 ∨ l.length = 5) : ∃ R t s, rowsT (QK l) 20 0 [nameT l.length] = some R ∧ treeT (keyI l) l.length (nameT l.length) = t ∧ sizesT (keyI l) l.length (nameT l.length) = s ∧ (∀ r ∈ R, treeT (keyI l) l.length r = t) ∧ Ok l.length R t s := by
  rcases h with h | h
  · obtain ⟨e, he, hp⟩ := pat4 h
    obtain ⟨h1, h2, h3, h4⟩ := pat_parts hp
    exact ⟨e.1, e.2.1, e.2.2, h1, h2, h3, h4, by rw [h]; exact ent_ok he⟩
  · obtain ⟨e, he, hp⟩ := pat5 h
    obtain ⟨h1, h2, h3, h4⟩ := pat_parts hp
    exact ⟨e.1, e.2.1, e.2.2, h1, h2, h3, h4, by rw [h]; exact ent_ok he⟩
end Mine
end
section
set_option maxRecDepth 100000
set_option maxHeartbeats 1000000
namespace Mine
variable {w : World} {mg mb : Str → Option Value} {n : Nat} {env : Env} {ρ : PEnv}
/- the numbers of a script -/
noncomputable abbrev iZ (l : List Int) : List AV := l.map AV.int
noncomputable def numsZ (ns : List Int) : List Int := slc ns none (some 5) ++ slc [85, 28, 55, 41] (some ((slc ns none (some 5)).length : Nat)) none
noncomputable def numsN (ns : List Int) : List Nat := (numsZ ns).map fun x => (x.fmod 96).toNat
theorem slc_map {α β : Type} (f : α → β) (l : List α) (a b : Option Int) : slc (l.map f) a b = (slc l a b).map f := by
  unfold slc
  rw [List.length_map, List.map_take, List.map_drop]
theorem nums_len (ns : List Int) : (numsN ns).length = 4 ∨ (numsN ns).length = 5 := by
  have h : (slc ns none (some 5)).length ≤ 5 := by
    unfold slc
    rw [List.length_take]
    have : cl ns.length ns.length (some 5) ≤ 5 := by simp only [cl]; rw [if_neg (by decide)]; omega
    omega
  unfold numsN numsZ
  rw [List.length_map, List.length_append]
  generalize (slc ns none (some 5)).length = m at *
  have : m = 0 ∨ m = 1 ∨ m = 2 ∨ m = 3 ∨ m = 4 ∨ m = 5 := by omega
  rcases this with rfl | rfl | rfl | rfl | rfl | rfl <;> decide
theorem nums_lt (ns : List Int) : ∀ x ∈ numsN ns, x < 96 := fun x hx => by
  obtain ⟨z, _, rfl⟩ := List.mem_map.mp hx
  have : z.fmod 96 = z % 96 := Int.fmod_eq_emod_of_nonneg z (by decide)
  rw [this]
  have := Int.emod_lt_of_pos z (b := 96) (by decide)
  omega
theorem nums_iN (ns : List Int) : (iZ (numsZ ns)).map (fun V => AV.int ((iOf V).fmod 96)) = iN (numsN ns) := by
  unfold numsN iZ iN
  rw [List.map_map, List.map_map]
  refine List.map_congr_left fun z _ => ?_
  show AV.int (z.fmod 96) = AV.int ((z.fmod 96).toNat : Nat)
  have h : z.fmod 96 = z % 96 := Int.fmod_eq_emod_of_nonneg z (by decide)
  have h2 := Int.emod_nonneg z (b := 96) (by decide)
  congr 1; omega
theorem range_iN (k : Nat) : (rangeL 0 (k : Int)).map AV.int = iN (List.range k) := by
  unfold iN rangeL
  simp
theorem EvIt.lenR (gv : GV mg mb) {d : Bool} {e : PySem.Expr} {hi : Nat} {p pos : Pos} (he : EvO PW w mg mb n env ρ e (.int (hi : Nat))) (hh : hi < 1000000) (hk : env.kindOf "range" = some .globalImplicit) (hs : starEach [e] env = [(false, eval e env)] := by rfl) :
    EvIt PW w mg mb n env ρ d (.Call (.Name "range" p) [e] [] pos) (iN (List.range hi)) := by
  rw [← range_iN]; exact EvIt.lenRange gv he hh hk hs
theorem at_N (l : List Nat) {k : Nat} (h : k < l.length) : (seqIndex? (k : Int) (iN l).length).bind ((iN l)[·]?) = some (.int (l.getD k 0 : Nat)) := by
  have e : seqIndex? (k : Int) (iN l).length = some k := by simp [seqIndex?]; omega
  rw [e]
  show (iN l)[k]? = _
  rw [List.getElem?_map, List.getD_eq_getElem?_getD, List.getElem?_eq_getElem h]; rfl
theorem name_tab : ∀ m, m < 6 → ∀ k, k < m → (nameT m)[k]? = some (112 + k) := by decide
theorem name_len {m : Nat} (h : m < 6) : (nameT m).length = m := by
  have : ∀ m, m < 6 → (nameT m).length = m := by decide
  exact this m h
theorem at_name {m k : Nat} (hm : m < 6) (h : k < m) : (seqIndex? (k : Int) (nameT m).length).bind ((nameT m)[·]?) = some (112 + k) := by
  have e : seqIndex? (k : Int) (nameT m).length = some k := by rw [name_len hm]; simp [seqIndex?]; omega
  rw [e]
  exact name_tab m hm k h
/- what the law's names hold -/
noncomputable def kOf (xs : List Nat) (k : Nat) : Nat := keyN (xs.getD k 0)
noncomputable def zA (xs : List Nat) (k : Nat) : UInt64 × UInt64 × UInt64 := (seenF ((xs.getD k 0 : Nat) : Int) (k : Nat)).getD (0, 0, 0)
noncomputable def nOf (V : AV) : Nat := (iOf V).toNat
noncomputable def kyD (V : AV) : Str := S [112 + nOf V]
noncomputable def keyD (xs : List Nat) : List (Str × AV) := (iN (List.range xs.length)).map fun V => (kyD V, AV.int (kOf xs (nOf V) : Nat))
noncomputable def seenL (xs : List Nat) : List AV := (iN (List.range xs.length)).map fun V => AV.list [.flt (zA xs (nOf V)).1, .flt (zA xs (nOf V)).2.1]
noncomputable def lightL (xs : List Nat) : List AV := (iN xs).map fun V => AV.int (lightN (nOf V) : Nat)
noncomputable def hueD (xs : List Nat) : List (Str × AV) := (iN (List.range xs.length)).map fun V => (kyD V, AV.flt (zA xs (nOf V)).1)
theorem zA_is {xs : List Nat} {k : Nat} (hx : ∀ x ∈ xs, x < 96) (hl : xs.length < 6) (hk : k < xs.length) : seenF ((xs.getD k 0 : Nat) : Int) (k : Nat) = some (zA xs k) ∧ (zA xs k).1 = hueT (kOf xs k) ∧ (Float64.cmpInt (Float64.mul (Float64.ofInt 16) (zA xs k).1) (kOf xs k : Nat) == some Ordering.eq) = true ∧ (Float64.cmpInt (Float64.mul (Float64.ofInt 8) (zA xs k).2.1) (lightN (xs.getD k 0) : Nat) == some Ordering.eq) = true := by
  obtain ⟨z, h1, h2, h3, h4⟩ := seen_all (hx _ (getD_mem hk)) (k := k) (by omega)
  have : zA xs k = z := by unfold zA; rw [h1]; rfl
  rw [this]
  exact ⟨h1, h2, h3, h4⟩
theorem kyD_nodup (m : Nat) : ((iN (List.range m)).map kyD).Nodup := by
  unfold iN
  rw [List.map_map]
  refine List.Pairwise.map _ (fun a b hab => ?_) (List.nodup_range (n := m))
  show S [112 + a] ≠ S [112 + b]
  intro q
  have := S_inj.mp q
  simp at this
  exact hab this
theorem look_D {α : Type} (f : Nat → α) : ∀ (l : List Nat) (k : Nat), k ∈ l → (l.map fun j => (S [112 + j], f j)).lookup (S [112 + k]) = some (f k)
  | [], _, h => nomatch h
  | j :: l, k, h => by
    rw [List.map_cons, List.lookup_cons]
    by_cases e : k = j
    · subst e; rw [beq_self_eq_true]
    · have hb : (S [112 + k] == S [112 + j]) = false := by
        rw [beq_eq_false_iff_ne]
        intro q
        have := S_inj.mp q
        simp at this
        exact e this
      rw [hb]
      exact look_D f l k ((List.mem_cons.mp h).resolve_left e)
theorem keyD_look {xs : List Nat} {k : Nat} (h : k < xs.length) : (keyD xs).lookup (S [112 + k]) = some (.int (kOf xs k : Nat)) := by
  have := look_D (fun j => AV.int (kOf xs j : Nat)) (List.range xs.length) k (List.mem_range.mpr h)
  unfold keyD iN
  rw [List.map_map]; exact this
theorem hueD_look {xs : List Nat} {k : Nat} (h : k < xs.length) : (hueD xs).lookup (S [112 + k]) = some (.flt (zA xs k).1) := by
  have := look_D (fun j => AV.flt (zA xs j).1) (List.range xs.length) k (List.mem_range.mpr h)
  unfold hueD iN
  rw [List.map_map]; exact this
theorem key_int (x : Nat) : (((x : Int).fdiv 16).fmod 3) = ((x / 16 % 3 : Nat) : Int) ∧ (x : Int).fmod 16 = ((x % 16 : Nat) : Int) ∧ (x : Int).fdiv 48 = ((x / 48 : Nat) : Int) := by
  have e16 : (x : Int).fmod 16 = x % 16 := Int.fmod_eq_emod_of_nonneg _ (by decide)
  have d16 : (x : Int).fdiv 16 = x / 16 := Int.fdiv_eq_ediv_of_nonneg _ (by decide)
  have d48 : (x : Int).fdiv 48 = x / 48 := Int.fdiv_eq_ediv_of_nonneg _ (by decide)
  have e3 : ((x : Int).fdiv 16).fmod 3 = ((x : Int).fdiv 16) % 3 := Int.fmod_eq_emod_of_nonneg _ (by decide)
  refine ⟨?_, ?_, ?_⟩
  · rw [e3, d16]; omega
  · rw [e16]; omega
  · rw [d48]; omega
end Mine
end
section
set_option maxRecDepth 100000
set_option maxHeartbeats 1000000
namespace Mine
variable {w : World} {mg mb : Str → Option Value} {n : Nat} {env : Env} {ρ : PEnv}
section
variable (ns : List Int) (xs : List Nat) (pm code doc : Value) (Lo ad : Addr)
noncomputable abbrev E11 : Env := E0 11 pm code doc Lo ad
noncomputable abbrev e0 (ns : List Int) : PEnv := [("script", ⟨.list (iZ ns), none⟩)]
noncomputable abbrev e1 (ns : List Int) (xs : List Nat) : PEnv := ("numbers", ⟨.list (iN xs), none⟩) :: e0 ns
noncomputable abbrev e2 (ns : List Int) (xs : List Nat) : PEnv := ("names", ⟨T (nameT xs.length), none⟩) :: e1 ns xs
noncomputable abbrev e3 (ns : List Int) (xs : List Nat) : PEnv := ("keys", ⟨.dict (keyD xs), none⟩) :: e2 ns xs
noncomputable abbrev e4 (ns : List Int) (xs : List Nat) : PEnv := ("seen", ⟨.list (seenL xs), none⟩) :: e3 ns xs
noncomputable abbrev e5 (ns : List Int) (xs : List Nat) : PEnv := ("lights", ⟨.list (lightL xs), none⟩) :: e4 ns xs
theorem st0 (gv : GV mg mb) (hn : ns.length ≤ 63) : St PW w mg mb (n + 66) (E11 pm code doc Lo ad) (e0 ns) (nth (dAt 11).body 0) (e1 ns (numsN ns)) none := by
  have hs : slc (iZ ns) none (some 5) = iZ (slc ns none (some 5)) := slc_map AV.int ns none (some 5)
  have hl : (iZ (slc ns none (some 5))).length = (slc ns none (some 5)).length := List.length_map ..
  have hb : (slc ns none (some 5)).length ≤ 63 := Nat.le_trans (slc_len_le ns _ _) hn
  have hs2 : slc (iZ [85, 28, 55, 41]) (some ((slc ns none (some 5)).length : Nat)) none = iZ (slc [85, 28, 55, 41] (some ((slc ns none (some 5)).length : Nat)) none) := slc_map AV.int _ _ _
  have hb2 : (slc [85, 28, 55, 41] (some ((slc ns none (some 5)).length : Nat)) none : List Int).length ≤ 4 := slc_len_le _ _ _
  have hq : iZ (slc ns none (some 5)) ++ iZ (slc [85, 28, 55, 41] (some ((slc ns none (some 5)).length : Nat)) none) = iZ (numsZ ns) := (List.map_append ..).symm
  have hz : (iZ (numsZ ns)).length ≤ 67 := by rw [← hq, List.length_append, hl, List.length_map]; omega
  have hlen : ((slc (iZ ns) none (some 5)).length : Int) = ((slc ns none (some 5)).length : Nat) := by rw [hs, hl]
  refine St.assign (Ev.of (Ev.comp0 (Vs := iZ (numsZ ns)) (fun V => AV.int ((iOf V).fmod 96)) (EvIt.listS (Ev.of (Ev.bin (Ev.sliceL (EvO.var rfl) EvP.none (EvP.some Ev.cint.toO) (by rw [List.length_map]; omega)).toO
    (Ev.sliceL (Vs := iZ [85, 28, 55, 41]) (Ev.list (Evs.cons Ev.cint (Evs.cons Ev.cint (Evs.cons Ev.cint (Evs.cons Ev.cint Evs.nil))))).toO (EvP.some (EvO.of (Ev.len gv (Ev.sliceL (EvO.var rfl) EvP.none (EvP.some Ev.cint.toO) (by rw [List.length_map]; omega)).toO (CallB.lenL (by rw [hs, hl]; omega)) rfl).toO (congrArg AV.int hlen))) EvP.none (by decide)).toO
    (OpB.addL (by rw [hs, hs2, hl, List.length_map]; omega))) (congrArg AV.list (by rw [hs, hs2]; exact hq)))) ⟨rfl, rfl, rfl, rfl⟩ (by omega) rfl (fun C V hV => ?_)) (congrArg AV.list (nums_iN ns))) (.inr ⟨rfl, rfl⟩)
  obtain ⟨z, _, rfl⟩ := List.mem_map.mp hV
  exact Ev.bin (EvO.var (V := .int z) rfl) Ev.cint.toO (OpB.modI (by decide))
theorem st1 (gv : GV mg mb) (hl : xs.length < 6) : St PW w mg mb (n + 66) (E11 pm code doc Lo ad) (e1 ns xs) (nth (dAt 11).body 1) (e2 ns xs) none := by
  have hll : (iN xs).length = xs.length := List.length_map ..
  have hs := slc_take [112, 113, 114, 115, 116] xs.length
  refine St.assign (Ev.of (Ev.sliceS (x := [112, 113, 114, 115, 116]) (Ev.cT (by decide +kernel)).toO EvP.none (EvP.some (EvO.of (Ev.len gv (EvO.var rfl) (CallB.lenL (by rw [hll]; omega)) rfl).toO (congrArg (fun k : Nat => AV.int (k : Nat)) hll))) (by decide)) (congrArg T hs)) (.inr ⟨rfl, rfl⟩)
theorem st2 (gv : GV mg mb) (hl : xs.length < 6) (hx : ∀ x ∈ xs, x < 96) : St PW w mg mb (n + 66) (E11 pm code doc Lo ad) (e2 ns xs) (nth (dAt 11).body 2) (e3 ns xs) none := by
  have hll : (iN xs).length = xs.length := List.length_map ..
  have hnl := name_len hl
  refine St.assign (V := .dict (keyD xs)) (Ev.dictComp (Vs := iN (List.range xs.length)) kyD (fun V => AV.int (kOf xs (nOf V) : Nat)) (EvIt.lenR gv (EvO.of (Ev.len gv (EvO.var rfl) (CallB.lenT (by rw [hnl]; omega)) rfl).toO (congrArg (fun k : Nat => AV.int (k : Nat)) hnl)) (by omega) rfl) ⟨rfl, rfl, rfl, rfl⟩ (by rw [List.length_map, List.length_range]; omega) rfl (kyD_nodup _) (fun V hV => ⟨_, .int _ 0⟩) (fun C V hV => ?_) (fun C V hV => ?_)) (.inr ⟨rfl, rfl⟩)
  · obtain ⟨k, hk, rfl⟩ := List.mem_map.mp hV
    have hk' := List.mem_range.mp hk
    exact Ev.itemS (EvO.var rfl) (EvO.var (V := .int (k : Nat)) rfl) (at_name hl hk') (by rw [hnl]; omega)
  · obtain ⟨k, hk, rfl⟩ := List.mem_map.mp hV
    have hk' := List.mem_range.mp hk
    have hi := at_N xs hk'
    have hxk := hx _ (getD_mem hk')
    obtain ⟨q1, q2, q3⟩ := key_int (xs.getD k 0)
    have e : kOf xs (nOf (AV.int (k : Nat))) = keyN (xs.getD k 0) := rfl
    rw [e]
    generalize xs.getD k 0 = x at *
    have hc : decide ((0 : Int) < ((x : Int).fdiv 16).fmod 3) = decide (x / 16 % 3 > 0) := by
      rw [q1]; exact decide_eq_decide.mpr (by omega)
    refine Ev.ifExp (c := decide (x / 16 % 3 > 0)) (Tr.of (Tr.cmp (Ev.bin (Ev.bin (Ev.itemL (EvO.var rfl) (EvO.var (V := .int (k : Nat)) rfl) hi (by rw [hll]; omega)).toO Ev.cint.toO (OpB.fdivI (by decide) (by omega) (by decide))).toO Ev.cint.toO (OpB.modI (by decide))).toO Ev.cint.toO OpC.gtI) hc) (fun h => ?_) (fun h => ?_)
    · have hk2 : keyN x = x % 16 := if_pos (of_decide_eq_true h)
      exact Ev.of (Ev.bin (Ev.itemL (EvO.var rfl) (EvO.var (V := .int (k : Nat)) rfl) hi (by rw [hll]; omega)).toO Ev.cint.toO (OpB.modI (by decide))) (by rw [hk2, q2])
    · have hk2 : keyN x = 0 := if_neg (of_decide_eq_false h)
      exact Ev.of Ev.cint (by rw [hk2]; rfl)
theorem st3 (gv : GV mg mb) (hl : xs.length < 6) (hx : ∀ x ∈ xs, x < 96) : St PW w mg mb (n + 66) (E11 pm code doc Lo ad) (e3 ns xs) (nth (dAt 11).body 3) (e4 ns xs) none := by
  have hll : (iN xs).length = xs.length := List.length_map ..
  have hnl := name_len hl
  refine St.assign (V := .list (seenL xs)) (Ev.comp0 (Vs := iN (List.range xs.length)) (fun V => AV.list [.flt (zA xs (nOf V)).1, .flt (zA xs (nOf V)).2.1]) (EvIt.lenR gv (EvO.of (Ev.len gv (EvO.var rfl) (CallB.lenT (by rw [hnl]; omega)) rfl).toO (congrArg (fun k : Nat => AV.int (k : Nat)) hnl)) (by omega) rfl) ⟨rfl, rfl, rfl, rfl⟩ (by rw [List.length_map, List.length_range]; omega) rfl (fun C V hV => ?_)) (.inr ⟨rfl, rfl⟩)
  obtain ⟨k, hk, rfl⟩ := List.mem_map.mp hV
  have hk' := List.mem_range.mp hk
  have hi := at_N xs hk'
  have hxk := hx _ (getD_mem hk')
  obtain ⟨h1, _, _, _⟩ := zA_is hx hl hk'
  have hn : nOf (AV.int (k : Nat)) = k := rfl
  rw [hn]
  generalize zA xs k = z at *
  generalize xs.getD k 0 = x at *
  exact Ev.callD gv 6 (by decide) rfl (Evs.cons (Ev.itemL (EvO.var rfl) (EvO.var (V := .int (k : Nat)) rfl) hi (by rw [hll]; omega)) (Evs.cons (Ev.var rfl) Evs.nil)) (spec6 gv (by omega) (by omega) (by omega) (by omega) h1) rfl
theorem st4 (gv : GV mg mb) (hl : xs.length < 6) (hx : ∀ x ∈ xs, x < 96) : St PW w mg mb (n + 66) (E11 pm code doc Lo ad) (e4 ns xs) (nth (dAt 11).body 4) (e5 ns xs) none := by
  have hll : (iN xs).length = xs.length := List.length_map ..
  refine St.assign (V := .list (lightL xs)) (Ev.comp0 (Vs := iN xs) (fun V => AV.int (lightN (nOf V) : Nat)) (EvIt.list (EvO.var rfl)) ⟨rfl, rfl, rfl, rfl⟩ (by omega) rfl (fun C V hV => ?_)) (.inr ⟨rfl, rfl⟩)
  obtain ⟨x, hm, rfl⟩ := List.mem_map.mp hV
  have hxk := hx x hm
  have hn : nOf (AV.int (x : Nat)) = x := rfl
  rw [hn]
  obtain ⟨q1, q2, q3⟩ := key_int x
  have hv : (1 + (x : Int).fdiv 48) * (4 - ((x : Int).fdiv 16).fmod 3) = (lightN x : Nat) := by
    rw [q1, q3]
    unfold lightN
    have : x / 16 % 3 ≤ 4 := by omega
    rw [Int.natCast_mul, Int.natCast_sub this, Int.natCast_add]; rfl
  exact Ev.of (Ev.bin (Ev.bin Ev.cint.toO (Ev.bin (EvO.var rfl) Ev.cint.toO (OpB.fdivI (by decide) (by omega) (by decide))).toO OpB.addI).toO (Ev.bin Ev.cint.toO (Ev.bin (Ev.bin (EvO.var rfl) Ev.cint.toO (OpB.fdivI (by decide) (by omega) (by decide))).toO Ev.cint.toO (OpB.modI (by decide))).toO OpB.subI).toO (OpB.mulI (by rw [q3]; omega))) (congrArg AV.int hv)
end
end Mine
end
section
set_option maxRecDepth 100000
set_option maxHeartbeats 1000000
namespace Mine
variable {w : World} {mg mb : Str → Option Value} {n : Nat} {env : Env} {ρ : PEnv}
noncomputable def fOf : AV → UInt64 | .flt x => x | _ => 0
noncomputable def pairF : AV → AV
  | .list [U, W] => .list [.flt (Float64.mul (Float64.ofInt 16) (fOf U)), .flt (Float64.mul (Float64.ofInt 8) (fOf W))]
  | _ => .none
noncomputable def askV (xs : List Nat) (V : AV) : AV := .list [.int (kOf xs (nOf V) : Nat), .int (lightN (xs.getD (nOf V) 0) : Nat)]
theorem zip_map {α : Type} (f : AV → AV → Bool) (g h : α → AV) : ∀ l : List α, (∀ x ∈ l, f (g x) (h x) = true) → zipAll f (l.map g) (l.map h) = true
  | [], _ => rfl
  | x :: l, hx => by
    show (f (g x) (h x) && zipAll f (l.map g) (l.map h)) = true
    rw [hx x (List.mem_cons_self ..), zip_map f g h l fun y hy => hx y (List.mem_cons_of_mem _ hy)]; rfl
section
variable (ns : List Int) (xs : List Nat) (pm code doc : Value) (Lo ad : Addr)
theorem look_map {xs : List Nat} (hl : xs.length < 6) : ∀ V ∈ seenL xs, ∃ U W, V = .list [U, W] := fun V hV => by
  obtain ⟨U, _, rfl⟩ := List.mem_map.mp hV
  exact ⟨_, _, rfl⟩
theorem at_light {xs : List Nat} {k : Nat} (h : k < xs.length) : (seqIndex? (k : Int) (lightL xs).length).bind ((lightL xs)[·]?) = some (.int (lightN (xs.getD k 0) : Nat)) := by
  have hl : (lightL xs).length = xs.length := by unfold lightL iN; rw [List.length_map, List.length_map]
  have e : seqIndex? (k : Int) (lightL xs).length = some k := by rw [hl]; simp [seqIndex?]; omega
  rw [e]
  show (lightL xs)[k]? = _
  unfold lightL iN
  rw [List.getElem?_map, List.getElem?_map, List.getD_eq_getElem?_getD, List.getElem?_eq_getElem h]; rfl
theorem at_seen {xs : List Nat} {k : Nat} (h : k < xs.length) : (seqIndex? (k : Int) (seenL xs).length).bind ((seenL xs)[·]?) = some (.list [.flt (zA xs k).1, .flt (zA xs k).2.1]) := by
  have hl : (seenL xs).length = xs.length := by unfold seenL iN; rw [List.length_map, List.length_map, List.length_range]
  have e : seqIndex? (k : Int) (seenL xs).length = some k := by rw [hl]; simp [seqIndex?]; omega
  rw [e]
  show (seenL xs)[k]? = _
  unfold seenL iN
  rw [List.getElem?_map, List.getElem?_map, List.getElem?_range h]; rfl
theorem seen_ask {xs : List Nat} (hl : xs.length < 6) (hx : ∀ x ∈ xs, x < 96) : zipAll eqv1 ((seenL xs).map pairF) ((iN (List.range xs.length)).map (askV xs)) = true := by
  unfold seenL
  rw [List.map_map]
  refine zip_map eqv1 _ _ _ fun V hV => ?_
  obtain ⟨k, hk, rfl⟩ := List.mem_map.mp hV
  obtain ⟨_, _, h3, h4⟩ := zA_is hx hl (List.mem_range.mp hk)
  show ((Float64.cmpInt (Float64.mul (Float64.ofInt 16) (zA xs k).1) (kOf xs k : Nat) == some Ordering.eq) && ((Float64.cmpInt (Float64.mul (Float64.ofInt 8) (zA xs k).2.1) (lightN (xs.getD k 0) : Nat) == some Ordering.eq) && true)) = true
  rw [h3, h4]; rfl
theorem flat_ask (xs : List Nat) : FlatLL ((seenL xs).map pairF) ((iN (List.range xs.length)).map (askV xs)) := fun V hV W hW => by
  obtain ⟨U, hU, rfl⟩ := List.mem_map.mp hV
  obtain ⟨U', hU', rfl⟩ := List.mem_map.mp hU
  obtain ⟨W', hW', rfl⟩ := List.mem_map.mp hW
  refine ⟨_, _, rfl, rfl, fun a ha b hb => ?_⟩
  simp only [List.mem_cons, List.not_mem_nil, or_false] at ha hb
  rcases ha with rfl | rfl <;> rcases hb with rfl | rfl <;> exact .fi _ _
theorem st5 (gv : GV mg mb) (hl : xs.length < 6) (hx : ∀ x ∈ xs, x < 96) : St PW w mg mb (n + 66) (E11 pm code doc Lo ad) (e5 ns xs) (nth (dAt 11).body 5) (e5 ns xs) none := by
  have hnl := name_len hl
  have hsl : (seenL xs).length ≤ 100 := by unfold seenL iN; rw [List.length_map, List.length_map, List.length_range]; omega
  have hll : (lightL xs).length ≤ 100 := by unfold lightL iN; rw [List.length_map, List.length_map]; omega
  have hz := seen_ask hl hx
  refine St.ifS (c := false) (Tr.of (Tr.cmp (Ev.compPair (Vs := seenL xs) pairF (EvO.var rfl) (look_map hl) ⟨rfl, rfl, rfl, rfl⟩ (by omega) rfl rfl (fun C U W hm => ?_)).toO (Ev.comp0 (Vs := iN (List.range xs.length)) (askV xs) (EvIt.lenR gv (EvO.of (Ev.len gv (EvO.var rfl) (CallB.lenT (by rw [hnl]; omega)) rfl).toO (congrArg (fun k : Nat => AV.int (k : Nat)) hnl)) (by omega) rfl) ⟨rfl, rfl, rfl, rfl⟩ (by rw [List.length_map, List.length_range]; omega) rfl (fun C V hV => ?_)).toO (OpC.neLL (flat_ask xs))) (by rw [hz]; rfl)) (fun h => by cases h) (fun _ => Sx.nil)
  · obtain ⟨V, hV, e⟩ := List.mem_map.mp hm
    cases e
    exact Ev.list (Evs.cons (Ev.bin Ev.cint.toO (EvO.var rfl) (OpB.mulIF (Nat.lt_trans (m := 1000) (by decide) (by decide +kernel)))) (Evs.cons (Ev.bin Ev.cint.toO (EvO.var rfl) (OpB.mulIF (Nat.lt_trans (m := 1000) (by decide) (by decide +kernel)))) Evs.nil))
  · obtain ⟨k, hk, rfl⟩ := List.mem_map.mp hV
    have hk' := List.mem_range.mp hk
    exact Ev.list (Evs.cons (Ev.itemD (EvO.var rfl) (Ev.itemS (EvO.var rfl) (EvO.var (V := .int (k : Nat)) rfl) (at_name hl hk') (by rw [hnl]; omega)).toO (keyD_look hk')) (Evs.cons (Ev.itemL (EvO.var rfl) (EvO.var (V := .int (k : Nat)) rfl) (at_light hk') (by omega)) Evs.nil))
noncomputable abbrev e6 (ns : List Int) (xs : List Nat) : PEnv := ("hues", ⟨.dict (hueD xs), none⟩) :: e5 ns xs
theorem st6 (gv : GV mg mb) (hl : xs.length < 6) (hx : ∀ x ∈ xs, x < 96) : St PW w mg mb (n + 66) (E11 pm code doc Lo ad) (e5 ns xs) (nth (dAt 11).body 6) (e6 ns xs) none := by
  have hnl := name_len hl
  have hsl : (seenL xs).length ≤ 100 := by unfold seenL iN; rw [List.length_map, List.length_map, List.length_range]; omega
  refine St.assignCD (Vs := iN (List.range xs.length)) kyD (fun V => AV.flt (zA xs (nOf V)).1) (EvIt.lenR gv (EvO.of (Ev.len gv (EvO.var rfl) (CallB.lenT (by rw [hnl]; omega)) rfl).toO (congrArg (fun k : Nat => AV.int (k : Nat)) hnl)) (by omega) rfl) ⟨rfl, rfl, rfl, rfl⟩ (by rw [List.length_map, List.length_range]; omega) rfl (kyD_nodup _) (fun V hV => ⟨_, .flt _ 0⟩) (fun C V hV => ?_) (fun C V hV => ?_) (.inl rfl)
  · obtain ⟨k, hk, rfl⟩ := List.mem_map.mp hV
    have hk' := List.mem_range.mp hk
    exact Ev.itemS (EvO.var rfl) (EvO.var (V := .int (k : Nat)) rfl) (at_name hl hk') (by rw [hnl]; omega)
  · obtain ⟨k, hk, rfl⟩ := List.mem_map.mp hV
    have hk' := List.mem_range.mp hk
    exact Ev.itemL (Ev.itemL (EvO.var rfl) (EvO.var (V := .int (k : Nat)) rfl) (at_seen hk') (by omega)).toO Ev.cint.toO rfl (Nat.le_of_ble_eq_true rfl)
end
end Mine
end
section
set_option maxRecDepth 100000
set_option maxHeartbeats 1000000
namespace Mine
variable {w : World} {mg mb : Str → Option Value} {n : Nat} {env : Env} {ρ : PEnv}
/- hues go as whole numbers go -/
noncomputable def cmpOk (i j : Nat) : Bool := (leF (hueT i) (hueT j) == Nat.ble i j) && (ltF (hueT i) (hueT j) == Nat.blt i j) && (isLt (hueT i) (hueT j) == Nat.blt i j) && (isGt (hueT i) (hueT j) == Nat.blt j i)
theorem cmp_tab : ((List.range 16).all fun i => (List.range 16).all fun j => cmpOk i j) = true := by decide +kernel
theorem cmp_is {i j : Nat} (hi : i < 16) (hj : j < 16) : leF (hueT i) (hueT j) = Nat.ble i j ∧ ltF (hueT i) (hueT j) = Nat.blt i j ∧ isLt (hueT i) (hueT j) = Nat.blt i j ∧ isGt (hueT i) (hueT j) = Nat.blt j i := by
  have h : cmpOk i j = true := List.all_eq_true.mp (List.all_eq_true.mp cmp_tab i (List.mem_range.mpr hi)) j (List.mem_range.mpr hj)
  unfold cmpOk at h
  obtain ⟨h, h4⟩ := bAnd h
  obtain ⟨h, h3⟩ := bAnd h
  obtain ⟨h1, h2⟩ := bAnd h
  exact ⟨beq_iff_eq.mp h1, beq_iff_eq.mp h2, beq_iff_eq.mp h3, beq_iff_eq.mp h4⟩
theorem blt_false {i j : Nat} (h : ¬ i < j) : Nat.blt i j = false := by
  cases hb : Nat.blt i j with
  | false => rfl
  | true => exact absurd (blt_iff.mp hb) h
theorem pick_lo {i j : Nat} (hi : i < 16) (hj : j < 16) : pick2 isLt (hueT i) (hueT j) = hueT (Nat.min i j) := by
  unfold pick2
  rw [(cmp_is hj hi).2.2.1]
  by_cases h : j < i
  · rw [blt_iff.mpr h, if_pos rfl]
    congr 1; show j = min i j; omega
  · rw [blt_false h, if_neg Bool.false_ne_true]
    congr 1; show i = min i j; omega
theorem pick_hi {i j : Nat} (hi : i < 16) (hj : j < 16) : pick2 isGt (hueT i) (hueT j) = hueT (Nat.max i j) := by
  unfold pick2
  rw [(cmp_is hj hi).2.2.2]
  by_cases h : i < j
  · rw [blt_iff.mpr h, if_pos rfl]
    congr 1; show j = max i j; omega
  · rw [blt_false h, if_neg Bool.false_ne_true]
    congr 1; show i = max i j; omega
noncomputable def hOf (l : List Nat) (c : Nat) : UInt64 := hueT (keyC l c)
theorem QH_QK {l : List Nat} (h0 : l ≠ []) (h : ∀ k ∈ l, k < 16) : QH (hOf l) = QK l := by
  have hk : ∀ c, keyC l c < 16 := fun c => h _ (keyC_mem h0 c)
  funext a b c
  unfold QH QK hOf
  rw [pick_lo (hk a) (hk b), pick_hi (hk a) (hk b)]
  have m1 : Nat.min (keyC l a) (keyC l b) < 16 := by show min _ _ < 16; have := hk a; omega
  have m2 : Nat.max (keyC l a) (keyC l b) < 16 := by show max _ _ < 16; have := hk a; have := hk b; omega
  rw [(cmp_is m1 (hk c)).1, (cmp_is (hk c) m2).2.1]
/- the keys' list -/
noncomputable def keysL (xs : List Nat) : List Nat := xs.map keyN
theorem keysL_len (xs : List Nat) : (keysL xs).length = xs.length := List.length_map ..
theorem keysL_lt (xs : List Nat) : ∀ k ∈ keysL xs, k < 16 := fun k hk => by
  obtain ⟨x, _, rfl⟩ := List.mem_map.mp hk
  unfold keyN
  split <;> omega
theorem keyC_at {xs : List Nat} {k : Nat} (h : k < xs.length) : keyC (keysL xs) (112 + k) = kOf xs k := by
  unfold keyC keysL kOf
  rw [List.getD_eq_getElem?_getD, List.getD_eq_getElem?_getD, Nat.add_sub_cancel_left, List.getElem?_map, List.getElem?_eq_getElem h]; rfl
theorem name_mem {m c : Nat} (hm : m < 6) (h : c ∈ nameT m) : ∃ k, k < m ∧ c = 112 + k := by
  have t : ∀ m, m < 6 → ∀ c ∈ nameT m, 112 ≤ c ∧ c < 112 + m := by decide
  obtain ⟨h1, h2⟩ := t m hm c h
  exact ⟨c - 112, by omega, by omega⟩
theorem key_look {xs : List Nat} (hl : xs.length < 6) {c : Nat} (h : c ∈ nameT xs.length) : (keyD xs).lookup (S [c]) = some (.int (keyI (keysL xs) c)) := by
  obtain ⟨k, hk, rfl⟩ := name_mem hl h
  rw [keyD_look hk]
  unfold keyI
  rw [keyC_at hk]
theorem hue_look {xs : List Nat} (hx : ∀ x ∈ xs, x < 96) (hl : xs.length < 6) {c : Nat} (h : c ∈ nameT xs.length) : (hueD xs).lookup (S [c]) = some (.flt (hOf (keysL xs) c)) := by
  obtain ⟨k, hk, rfl⟩ := name_mem hl h
  rw [hueD_look hk, (zA_is hx hl hk).2.1]
  unfold hOf
  rw [keyC_at hk]
theorem rows_ok {Q : Tst3} {f : Nat} {first : Tx} {R : List Tx} (h : rowsT Q f 0 [first] = some R) : ∀ r ∈ R, RowOk first r := by
  obtain ⟨N, _, _, hlt, _, e⟩ := rowsT_at Q first R f 0 h
  have := (rowsAt_ok Q first N fun j hj => hlt j (Nat.zero_le _) hj).1
  rw [e] at this
  exact this
theorem sizes_le (K : Nat → Int) : ∀ (k : Nat) (row : Tx), ∀ x ∈ sizesT K k row, x ≤ row.length
  | 0, _, x, h => by simp [sizesT] at h
  | k + 1, row, x, h => by
    unfold sizesT at h
    split at h
    · simp at h
    · have h3 := split_len K row
      rcases List.mem_cons.mp h with rfl | h
      · exact Nat.le_refl _
      · rcases List.mem_append.mp h with h | h
        · have := sizes_le K k _ x h; omega
        · have := sizes_le K k _ x h; omega
theorem SpecM.mono {m m' : Nat} {f : Str} {Vs Us Us' : List AV} {V : AV} (h : SpecM PW w mg mb m f Vs Us Us' V) (hm : m ≤ m') : SpecM PW w mg mb m' f Vs Us Us' V :=
  fun A X s Q E vs l k us ad e ao => h A X s Q E vs l k us ad e (ao.mono hm)
theorem flatT (xs ys : List Tx) : FlatC (xs.map T) (ys.map T) := fun V hV W hW => by
  obtain ⟨b, _, rfl⟩ := List.mem_map.mp hV
  obtain ⟨c, _, rfl⟩ := List.mem_map.mp hW
  exact .str _ _
theorem zipT : ∀ (xs : List Tx), zipAll eqv0 (xs.map T) (xs.map T) = true
  | [] => rfl
  | x :: xs => by
    show ((S x == S x) && zipAll eqv0 (xs.map T) (xs.map T)) = true
    rw [zipT xs, beq_self_eq_true]; rfl
theorem ways_le {s : List Nat} (hs : ∀ x ∈ s, x ≤ 5) (r : Nat) : ∀ i, i ≤ 5 → (List.range i).foldl (fun w k => w * s.getD k 0) r ≤ r * 5 ^ i
  | 0, _ => by simp
  | i + 1, h => by
    rw [List.range_succ, List.foldl_append]
    have h1 := ways_le hs r i (by omega)
    have h2 : s.getD i 0 ≤ 5 := by
      rw [List.getD_eq_getElem?_getD]
      cases hq : s[i]? with
      | none => exact Nat.zero_le _
      | some v => exact hs v (List.mem_of_getElem? hq)
    show List.foldl (fun w k => w * s.getD k 0) r (List.range i) * s.getD i 0 ≤ r * 5 ^ (i + 1)
    rw [Nat.pow_succ, ← Nat.mul_assoc]
    exact Nat.mul_le_mul h1 h2
end Mine
end
section
set_option maxRecDepth 100000
set_option maxHeartbeats 1000000
namespace Mine
variable {w : World} {mg mb : Str → Option Value} {n : Nat} {env : Env} {ρ : PEnv}
section
variable (ns : List Int) (xs : List Nat) (R t : List Tx) (s : List Nat) (pm code doc : Value) (Lo ad : Addr)
noncomputable abbrev e7 (ns : List Int) (xs : List Nat) (R : List Tx) : PEnv := ("rows", ⟨.list (R.map T), none⟩) :: ("sizes", ⟨.list [], some none⟩) :: e6 ns xs
theorem st7 (gv : GV mg mb) (h1 : 1 ≤ xs.length) (hl : xs.length < 6) (hx : ∀ x ∈ xs, x < 96) (hR : rowsT (QH (hOf (keysL xs))) 20 0 [nameT xs.length] = some R) : St PW w mg mb (n + 66) (E11 pm code doc Lo ad) (e6 ns xs) (nth (dAt 11).body 7) (e7 ns xs R) none := by
  have hnl := name_len hl
  refine St.tupNO (x := "rows") (y := "sizes") (Ev.callD gv 8 (by decide) rfl (Evs.cons (Ev.var rfl) (Evs.cons (Ev.var rfl) Evs.nil)) (spec8 (hOf (keysL xs)) (hueD xs) gv (first := nameT xs.length) (by rw [hnl]; omega) (by rw [hnl]; omega) (by decide) (fun c hc => hue_look hx hl hc) hR) rfl) (EvN.list Evs.nil (fun V h => nomatch h)) (.inl rfl) (.inl rfl) rfl rfl
noncomputable abbrev e8 (ns : List Int) (xs : List Nat) (R t : List Tx) (s : List Nat) : PEnv := ("tree", ⟨.list (t.map T), none⟩) :: ("sizes", ⟨.list (iN s), some none⟩) :: e7 ns xs R
theorem st8 (gv : GV mg mb) (hl : xs.length < 6) (ht : treeT (keyI (keysL xs)) xs.length (nameT xs.length) = t) (hs : sizesT (keyI (keysL xs)) xs.length (nameT xs.length) = s) : St PW w mg mb (n + 66) (E11 pm code doc Lo ad) (e7 ns xs R) (nth (dAt 11).body 8) (e8 ns xs R t s) none := by
  have hnl := name_len hl
  obtain ⟨a, hm⟩ := gv.at (k := 7) (by decide)
  replace hm : mg "_law_tree" = some (.ref a) := hm
  have sp := SpecM.mono (m' := n + 66) (spec7 (w := w) (keyI (keysL xs)) (keyD xs) gv n xs.length (nameT xs.length) [] (by rw [hnl]; exact Nat.le_refl _) (by rw [hnl]; omega) (fun V h => nomatch h) (by rw [hnl]; show 0 + _ ≤ _; omega) (fun c hc => key_look hl hc)) (by omega)
  rw [ht, hs] at sp
  exact St.assignM (EvM.call rfl hm rfl (fun V h => nomatch h) (Ev.var rfl) (Ev.var rfl) sp) (.inr ⟨rfl, rfl⟩)
end
end Mine
end
section
set_option maxRecDepth 100000
set_option maxHeartbeats 1000000
namespace Mine
variable {w : World} {mg mb : Str → Option Value} {n : Nat} {env : Env} {ρ : PEnv}
section
variable (ns : List Int) (xs : List Nat) (R t : List Tx) (s : List Nat) (pm code doc : Value) (Lo ad : Addr)
noncomputable abbrev eW (xs : List Nat) (R t : List Tx) (s : List Nat) (W H : Nat) : PEnv := [("names", ⟨T (nameT xs.length), none⟩), ("keys", ⟨.dict (keyD xs), none⟩), ("rows", ⟨.list (R.map T), none⟩), ("tree", ⟨.list (t.map T), none⟩), ("sizes", ⟨.list (iN s), some none⟩), ("ways", ⟨.int (W : Nat), none⟩), ("whole", ⟨.int (H : Nat), none⟩)]
theorem st9 (gv : GV mg mb) (hR : R.length ≤ 100) : St PW w mg mb (n + 66) (E11 pm code doc Lo ad) (e8 ns xs R t s) (nth (dAt 11).body 9) (eW xs R t s R.length 1) none := by
  have hl : (R.map T).length = R.length := List.length_map ..
  refine St.post (St.tupS (l := [("ways", .int (R.length : Nat)), ("whole", .int 1)]) (Ev.tup (Evs.cons (Ev.of (Ev.len gv (EvO.var rfl) (CallB.lenL (by rw [hl]; omega)) rfl) (congrArg (fun k : Nat => AV.int (k : Nat)) hl)) (Evs.cons Ev.cint Evs.nil))) (fun p hp => ?_) rfl) ?_
  · simp only [List.mem_cons, List.not_mem_nil, or_false] at hp
    rcases hp with rfl | rfl <;> exact .inl rfl
  · repeat (first | exact Sub.nil | refine Sub.cons rfl ?_)
theorem body10c (gv : GV mg mb) {W H k sk : Nat} (hs : s.length ≤ 100) (hi : (seqIndex? (k : Int) (iN s).length).bind ((iN s)[·]?) = some (.int (sk : Nat))) (hW : W ≤ 1000000) (hH : H ≤ 1000000) :
    Sx PW w mg mb (n + 66) (E11 pm code doc Lo ad) (("k", ⟨.int (k : Nat), none⟩) :: eW xs R t s W H) (forBody (nth (dAt 11).body 10)) (eW xs R t s (W * sk) (H * (k + 1))) none := by
  have hl : (iN s).length = s.length := List.length_map ..
  refine Sx.post (Sx.cons (St.tupS (l := [("ways", .int ((W * sk : Nat) : Int)), ("whole", .int ((H * (k + 1) : Nat) : Int))]) (Ev.tup (Evs.cons (Ev.of (Ev.bin (EvO.var rfl) (Ev.itemL (EvO.var rfl) (EvO.var (V := .int (k : Nat)) rfl) hi (by rw [hl]; omega)).toO (OpB.mulI (by omega))) (congrArg AV.int (Int.natCast_mul W sk).symm)) (Evs.cons (Ev.of (Ev.bin (EvO.var rfl) (Ev.bin (EvO.var rfl) Ev.cint.toO OpB.addI).toO (OpB.mulI (by omega))) (congrArg AV.int (by rw [Int.natCast_mul, Int.natCast_add]; rfl))) Evs.nil))) (fun p hp => ?_) rfl) Sx.nil) ?_
  · simp only [List.mem_cons, List.not_mem_nil, or_false] at hp
    rcases hp with rfl | rfl <;> exact .inl rfl
  · repeat (first | exact Sub.nil | refine Sub.cons rfl ?_)
noncomputable def waysI (R : List Tx) (s : List Nat) (i : Nat) : Nat := (List.range i).foldl (fun w k => w * s.getD k 0) R.length
noncomputable def wholeI (i : Nat) : Nat := (List.range i).foldl (fun w k => w * (k + 1)) 1
theorem waysI_succ (i : Nat) : waysI R s (i + 1) = waysI R s i * s.getD i 0 := by
  unfold waysI; rw [List.range_succ, List.foldl_append]; rfl
theorem wholeI_succ (i : Nat) : wholeI (i + 1) = wholeI i * (i + 1) := by
  unfold wholeI; rw [List.range_succ, List.foldl_append]; rfl
theorem st10 (gv : GV mg mb) (hl : xs.length < 6) (hR : R.length ≤ 100) (hsl : s.length = xs.length) (hs5 : ∀ x ∈ s, x ≤ 5) :
    St PW w mg mb (n + 66) (E11 pm code doc Lo ad) (eW xs R t s R.length 1) (nth (dAt 11).body 10) (eW xs R t s (waysT R s xs.length) (wholeT xs.length)) none := by
  have hnl := name_len hl
  have hlen : (iN (List.range xs.length)).length = xs.length := by rw [List.length_map, List.length_range]
  refine St.forC (x := "k") (Vs := iN (List.range xs.length)) (fun i => eW xs R t s (waysI R s i) (wholeI i)) xs.length (by rw [hlen]; exact Nat.le_refl _) (EvIt.lenR gv (EvO.of (Ev.len gv (EvO.var rfl) (CallB.lenT (by rw [hnl]; omega)) rfl).toO (congrArg (fun k : Nat => AV.int (k : Nat)) hnl)) (by omega) rfl) ?_ (.inl rfl) (fun i V hi hV => ?_) (.inl ⟨hlen.symm, rfl, rfl⟩)
  · show Sub (eW xs R t s R.length 1) _
    repeat (first | exact Sub.nil | refine Sub.cons rfl ?_)
  · obtain ⟨k, hk, rfl⟩ : ∃ k, (List.range xs.length)[i]? = some k ∧ AV.int (k : Nat) = V := by simpa using hV
    have hk' : k = i := by rw [List.getElem?_range hi] at hk; exact (Option.some.inj hk).symm
    subst hk'
    rw [waysI_succ, wholeI_succ]
    have hW : waysI R s k ≤ 1000000 := by
      have h1 := ways_le hs5 R.length k (by omega)
      have h2 : 5 ^ k ≤ 5 ^ 5 := Nat.pow_le_pow_right (by decide) (by omega)
      have h3 : R.length * 5 ^ k ≤ 100 * 5 ^ 5 := Nat.mul_le_mul hR h2
      show (List.range k).foldl _ _ ≤ _
      have h4 : 100 * 5 ^ 5 ≤ 1000000 := by decide
      omega
    have hH : wholeI k ≤ 1000000 := by
      have t : ∀ k, k < 6 → wholeI k ≤ 1000000 := by decide
      exact t k (by omega)
    exact body10c xs R t s pm code doc Lo ad gv (by omega) (at_N s (by omega)) hW hH
end
end Mine
end
section
set_option maxRecDepth 100000
set_option maxHeartbeats 1000000
namespace Mine
variable {w : World} {mg mb : Str → Option Value} {n : Nat} {env : Env} {ρ : PEnv}
section
variable (ns : List Int) (xs : List Nat) (R t : List Tx) (s : List Nat) (pm code doc : Value) (Lo ad : Addr)
noncomputable abbrev eX (xs : List Nat) (R t : List Tx) : PEnv := [("names", ⟨T (nameT xs.length), none⟩), ("rows", ⟨.list (R.map T), none⟩), ("tree", ⟨.list (t.map T), none⟩)]
theorem st11 (gv : GV mg mb) {W : Nat} (hl : xs.length < 6) (hR : R.length ≤ 100) (hrow : ∀ r ∈ R, RowOk (nameT xs.length) r) (ht : ∀ r ∈ R, treeT (keyI (keysL xs)) xs.length r = t) : St PW w mg mb (n + 66) (E11 pm code doc Lo ad) (eW xs R t s W W) (nth (dAt 11).body 11) (eW xs R t s W W) none := by
  have hnl := name_len hl
  obtain ⟨a, hm⟩ := gv.at (k := 7) (by decide)
  replace hm : mg "_law_tree" = some (.ref a) := hm
  have hfil : ((R.map T).filter fun _ => false) = [] := List.filter_eq_nil_iff.mpr fun _ _ h => by cases h
  refine St.ifS (c := false) (Tr.of (Tr.orC (Tr.cmp (EvO.var rfl) (EvO.var rfl) OpC.neI) (fun _ => Tr.orC (Tr.cmp (Ev.of (Ev.comp (Vs := R.map T) (fun _ => false) id (EvIt.list (EvO.var rfl)) ⟨rfl, rfl, rfl, rfl⟩ (by rw [List.length_map]; omega) rfl (fun C V hV => ?_) (fun C V hV h => by cases h)) (congrArg AV.list (congrArg (List.map id) hfil))).toO (Ev.list Evs.nil).toO (OpC.neL (fun V h => nomatch h))) (fun _ => Tr.orN))) ?_) (fun h => by cases h) (fun _ => Sx.nil)
  · obtain ⟨r, hr, rfl⟩ := List.mem_map.mp hV
    obtain ⟨r1, r2⟩ := hrow r hr
    rw [hnl] at r1
    have sp := SpecM.mono (m' := n + 66) (spec7 (w := w) (keyI (keysL xs)) (keyD xs) gv n xs.length r [] (by omega) (by omega) (fun V h => nomatch h) (by show 0 + _ ≤ _; omega) (fun c hc => key_look hl (r2 c hc))) (by omega)
    rw [ht r hr] at sp
    exact Tr.of (Tr.cmp (Ev.callNil rfl hm (Ev.var (V := T r) rfl) (Ev.var rfl) sp).toO (EvO.var rfl) (OpC.neL (flatT t t))) (by rw [zipT]; rfl)
  · have : ((W : Int) != (W : Int)) = false := by simp
    rw [this]; rfl
theorem st12 (gv : GV mg mb) {W : Nat} (hl : xs.length < 6) (htl : t.length ≤ 100) : St PW w mg mb (n + 66) (E11 pm code doc Lo ad) (eX xs R t) (nth (dAt 11).body 12) (("spots", ⟨.list (iN (spotT xs.length t)), none⟩) :: eX xs R t) none := by
  have hnl := name_len hl
  have htt : (t.map T).length = t.length := List.length_map ..
  have e : ((iN (List.range t.length)).filter fun V => (findT (nameT xs.length) (t.getD (nOf V) []) 0 (nameT xs.length).length).isSome).map id = iN (spotT xs.length t) := by
    rw [List.map_id, List.filter_map]
    unfold spotT
    rw [hnl]; rfl
  rw [← e]
  refine St.assignC (fun V => (findT (nameT xs.length) (t.getD (nOf V) []) 0 (nameT xs.length).length).isSome) id (EvIt.lenR gv (EvO.of (Ev.len gv (EvO.var rfl) (CallB.lenL (by rw [htt]; omega)) rfl).toO (congrArg (fun k : Nat => AV.int (k : Nat)) htt)) (by omega) rfl) ⟨rfl, rfl, rfl, rfl⟩ (by rw [List.length_map, List.length_range]; omega) rfl (fun C V hV => ?_) (fun C V hV _ => ?_) (.inl rfl)
  · obtain ⟨k, hk, rfl⟩ := List.mem_map.mp hV
    have hk' := List.mem_range.mp hk
    exact Tr.cmp (Ev.itemL (V := T (t.getD k [])) (EvO.var rfl) (EvO.var (V := .int (k : Nat)) rfl) (at_T t hk') (by rw [htt]; omega)).toO (EvO.var rfl) OpC.inT
  · exact Ev.var rfl
theorem st13 (gv : GV mg mb) {ks : List Nat} {m : Nat} (hkl : ks.length ≤ 100) (o : Ok m R t s) (hm1 : 1 ≤ m) (hm2 : m ≤ 20) (he : endsT t ks R = true) (hh : hangT t ks R = true) :
    St PW w mg mb (n + 66) (E11 pm code doc Lo ad) (("spots", ⟨.list (iN ks), none⟩) :: eX xs R t) (nth (dAt 11).body 13) (("spots", ⟨.list (iN ks), none⟩) :: eX xs R t) (some (.bool true)) := by
  have sx : ∀ x ∈ t, x.length = 1 := fun x hx => by obtain ⟨c, _, rfl⟩ := o.sign x hx; rfl
  have h9 : Spec PW w mg mb (n + 66) "_law_ends" [.list (t.map T), .list (iN ks), .list (R.map T)] (.bool true) := @spec9 w mg mb (n + 64) t ks R gv m hm1 hm2 o.pos o.row o.few o.tfew sx he
  have h10 : Spec PW w mg mb (n + 66) "_law_hang" [.list (t.map T), .list (iN ks), .list (R.map T)] (.bool true) := @spec10 w mg mb n t R ks gv o.tfew o.sign (fun r hr => by rw [o.row r hr]; exact hm2) o.few hkl hh
  exact St.ret (Ev.and2 (Ev.callD gv 9 (by decide) rfl (Evs.cons (Ev.var rfl) (Evs.cons (Ev.var rfl) (Evs.cons (Ev.var rfl) Evs.nil))) h9 rfl) Truth.bool (Ev.callD gv 10 (by decide) rfl (Evs.cons (Ev.var rfl) (Evs.cons (Ev.var rfl) (Evs.cons (Ev.var rfl) Evs.nil))) h10 rfl))
end
end Mine
end
section
set_option maxRecDepth 100000
set_option maxHeartbeats 1000000
namespace Mine
variable {w : World} {mg mb : Str → Option Value} {n : Nat} {env : Env} {ρ : PEnv}
theorem ok11 : DefOk (dAt 11) ["script"] := ⟨by decide, fun pm code doc vs h => by match vs, h with | [a], _ => rfl, fun k => rfl, rfl, rfl⟩
theorem body11L : (dAt 11).body = [nth (dAt 11).body 0, nth (dAt 11).body 1, nth (dAt 11).body 2, nth (dAt 11).body 3, nth (dAt 11).body 4, nth (dAt 11).body 5, nth (dAt 11).body 6, nth (dAt 11).body 7, nth (dAt 11).body 8, nth (dAt 11).body 9, nth (dAt 11).body 10, nth (dAt 11).body 11, nth (dAt 11).body 12, nth (dAt 11).body 13] := rfl
theorem spot_len (m : Nat) {t : List Tx} (h : t.length ≤ 100) : (spotT m t).length ≤ 100 := by
  unfold spotT
  have := List.length_filter_le (fun k => (findT (nameT m) (t.getD k []) 0 m).isSome) (List.range t.length)
  rw [List.length_range] at this; omega
theorem keysL_ne {xs : List Nat} (h : 1 ≤ xs.length) : keysL xs ≠ [] := fun q => by
  have := keysL_len xs
  rw [q] at this; simp at this; omega
theorem sx11 (gv : GV mg mb) {ns : List Int} (hn : ns.length ≤ 63) (pm code doc : Value) (Lo ad : Addr) : ∃ ρ', Sx PW w mg mb (n + 66) (E11 pm code doc Lo ad) (e0 ns) (dAt 11).body ρ' (some (.bool true)) := by
  have hlen := nums_len ns
  have hx := nums_lt ns
  have s0 : St PW w mg mb (n + 66) (E11 pm code doc Lo ad) (e0 ns) (nth (dAt 11).body 0) (e1 ns (numsN ns)) none := @st0 w mg mb n ns pm code doc Lo ad gv hn
  generalize numsN ns = xs at *
  have hl : xs.length < 6 := by omega
  have hl1 : 1 ≤ xs.length := by omega
  have hkl := keysL_len xs
  obtain ⟨R, t, s, h1, h2, h3, h4, o⟩ := plain (l := keysL xs) (by rw [hkl]; exact hlen)
  rw [hkl] at h1 h2 h3 h4 o
  rw [← QH_QK (keysL_ne hl1) (keysL_lt xs)] at h1
  have hrow := rows_ok h1
  have hs5 : ∀ x ∈ s, x ≤ 5 := fun x hm => by
    rw [← h3] at hm
    have := sizes_le _ _ _ x hm
    rw [name_len hl] at this; omega
  have hends := o.ends
  have hhang := o.hang
  have hkk := spot_len xs.length o.tfew
  have t1 : St PW w mg mb (n + 66) (E11 pm code doc Lo ad) (e1 ns xs) (nth (dAt 11).body 1) (e2 ns xs) none := @st1 w mg mb n ns xs pm code doc Lo ad gv hl
  have t2 : St PW w mg mb (n + 66) (E11 pm code doc Lo ad) (e2 ns xs) (nth (dAt 11).body 2) (e3 ns xs) none := @st2 w mg mb n ns xs pm code doc Lo ad gv hl hx
  have t3 : St PW w mg mb (n + 66) (E11 pm code doc Lo ad) (e3 ns xs) (nth (dAt 11).body 3) (e4 ns xs) none := @st3 w mg mb n ns xs pm code doc Lo ad gv hl hx
  have t4 : St PW w mg mb (n + 66) (E11 pm code doc Lo ad) (e4 ns xs) (nth (dAt 11).body 4) (e5 ns xs) none := @st4 w mg mb n ns xs pm code doc Lo ad gv hl hx
  have t5 : St PW w mg mb (n + 66) (E11 pm code doc Lo ad) (e5 ns xs) (nth (dAt 11).body 5) (e5 ns xs) none := @st5 w mg mb n ns xs pm code doc Lo ad gv hl hx
  have t6 : St PW w mg mb (n + 66) (E11 pm code doc Lo ad) (e5 ns xs) (nth (dAt 11).body 6) (e6 ns xs) none := @st6 w mg mb n ns xs pm code doc Lo ad gv hl hx
  have t7 : St PW w mg mb (n + 66) (E11 pm code doc Lo ad) (e6 ns xs) (nth (dAt 11).body 7) (e7 ns xs R) none := @st7 w mg mb n ns xs R pm code doc Lo ad gv hl1 hl hx h1
  have t8 : St PW w mg mb (n + 66) (E11 pm code doc Lo ad) (e7 ns xs R) (nth (dAt 11).body 8) (e8 ns xs R t s) none := @st8 w mg mb n ns xs R t s pm code doc Lo ad gv hl h2 h3
  have t9 : St PW w mg mb (n + 66) (E11 pm code doc Lo ad) (e8 ns xs R t s) (nth (dAt 11).body 9) (eW xs R t s R.length 1) none := @st9 w mg mb n ns xs R t s pm code doc Lo ad gv o.few
  have t10 : St PW w mg mb (n + 66) (E11 pm code doc Lo ad) (eW xs R t s R.length 1) (nth (dAt 11).body 10) (eW xs R t s (waysT R s xs.length) (wholeT xs.length)) none := @st10 w mg mb n xs R t s pm code doc Lo ad gv hl o.few o.slen hs5
  rw [o.ways] at t10
  have t11 : St PW w mg mb (n + 66) (E11 pm code doc Lo ad) (eW xs R t s (wholeT xs.length) (wholeT xs.length)) (nth (dAt 11).body 11) (eW xs R t s (wholeT xs.length) (wholeT xs.length)) none := @st11 w mg mb n xs R t s pm code doc Lo ad gv (wholeT xs.length) hl o.few hrow h4
  have t12 : St PW w mg mb (n + 66) (E11 pm code doc Lo ad) (eX xs R t) (nth (dAt 11).body 12) (("spots", ⟨.list (iN (spotT xs.length t)), none⟩) :: eX xs R t) none := @st12 w mg mb n xs R t pm code doc Lo ad gv 0 hl o.tfew
  have t13 : St PW w mg mb (n + 66) (E11 pm code doc Lo ad) (("spots", ⟨.list (iN (spotT xs.length t)), none⟩) :: eX xs R t) (nth (dAt 11).body 13) (("spots", ⟨.list (iN (spotT xs.length t)), none⟩) :: eX xs R t) (some (.bool true)) := @st13 w mg mb n xs R t s pm code doc Lo ad gv (spotT xs.length t) xs.length hkk o hl1 (by omega) hends hhang
  have hsub : Sub (eX xs R t) (eW xs R t s (wholeT xs.length) (wholeT xs.length)) := by
    repeat (first | exact Sub.nil | refine Sub.cons rfl ?_)
  rw [body11L]
  generalize nth (dAt 11).body 0 = b0 at *
  generalize nth (dAt 11).body 1 = b1 at *
  generalize nth (dAt 11).body 2 = b2 at *
  generalize nth (dAt 11).body 3 = b3 at *
  generalize nth (dAt 11).body 4 = b4 at *
  generalize nth (dAt 11).body 5 = b5 at *
  generalize nth (dAt 11).body 6 = b6 at *
  generalize nth (dAt 11).body 7 = b7 at *
  generalize nth (dAt 11).body 8 = b8 at *
  generalize nth (dAt 11).body 9 = b9 at *
  generalize nth (dAt 11).body 10 = b10 at *
  generalize nth (dAt 11).body 11 = b11 at *
  generalize nth (dAt 11).body 12 = b12 at *
  generalize nth (dAt 11).body 13 = b13 at *
  generalize E11 pm code doc Lo ad = ev at *
  exact ⟨_, Sx.cons s0 (Sx.cons t1 (Sx.cons t2 (Sx.cons t3 (Sx.cons t4 (Sx.cons t5 (Sx.cons t6 (Sx.cons t7 (Sx.cons t8 (Sx.cons t9 (Sx.cons t10 (Sx.cons t11 (Sx.pre hsub (Sx.cons t12 (Sx.stop t13))))))))))))))⟩
theorem spec11 (gv : GV mg mb) {ns : List Int} (hn : ns.length ≤ 63) : Spec PW w mg mb (n + 67) "law" [.list (iZ ns)] (.bool true) :=
  Spec.intro (dAt_mem (k := 11) (by decide)) rfl ok11 rfl rfl fun pm code doc Lo ad => @sx11 w mg mb n gv ns hn pm code doc Lo ad
end Mine
end
section
set_option maxRecDepth 100000
set_option maxHeartbeats 8000000


namespace Mine
theorem gl_of {mg mb : Str → Option Value} {h : Heap} {p : Program} {loose : List Str} {mean : ExcName → Option Value} (T : Top p loose mean mg mb h) (e : recsOf p = defs PW) : Gl PW mg mb h :=
  ⟨T.g, T.b, T.nolimit, fun d hd => T.fn d (by rw [e]; exact hd)⟩
theorem gv_of {mg mb : Str → Option Value} {h : Heap} {p : Program} {loose : List Str} {mean : ExcName → Option Value} (T : Top p loose mean mg mb h) (e : recsOf p = defs PW) (hv : PyProof.Rows.valOf p "ELLIPSIS_MARKER" = some (.str (Str.ofString "...")))
    (hf : ∀ x : Str, x = "len" ∨ x = "range" ∨ x = "min" ∨ x = "max" ∨ x = "int" ∨ x = "enumerate" → x ∉ startupNames ∧ x ∉ loose ∧ x ∉ (recsOf p).map (·.name) ∧ x ∉ (litsOf p).map (·.1) ∧ x ∉ (clssOf p loose).map (·.name)) : GV mg mb := by
  refine ⟨?_, fun d hd => ?_, fun x hx => ?_, ?_, ?_, ?_, ?_, ?_, ?_⟩
  · obtain ⟨v, h1, h2⟩ := T.const _ _ hv
    refine ⟨v, h1, ?_⟩
    have h3 := h2 h
    cases h3 with
    | str x t => rw [S_dots]; exact .str _ t
  · obtain ⟨a, o, pm, code, doc, h1, _⟩ := T.fn d (by rw [e]; exact hd)
    exact ⟨a, h1⟩
  · obtain ⟨h1, h2, h3, h4, h5⟩ := hf x hx
    exact T.free x h1 h2 h3 h4 h5
  all_goals (rw [T.builtins _ (by decide +kernel)]; rfl)
theorem ints_rs {w : World} {h : Heap} {vs : List Value} {ns : List Int} (hI : IntsAre vs ns) : Rs PW w [] h vs (iZ ns) := by
  induction hI with
  | nil => exact .nil
  | cons n t _ ih => exact .cons (fun _ _ hb => nomatch hb) (.sc (.int n t)) ih
theorem caller_ok : AOk 67 callerA := ⟨rfl, by decide +kernel, by decide +kernel⟩
theorem law_runs {w : World} {mg mb : Str → Option Value} {s : Shared} {vs : List Value} {ns : List Int} {l fa : Addr} {Q E : Value → Shared → Prop} {k : Nat} (gl : Gl PW mg mb s.heap) (gv : GV mg mb) (hm : mg "law" = some (.ref fa)) (hI : IntsAre vs ns) (hn : ns.length ≤ 63) (hl : s.heap.get? l = some { cls := .type "list", data := .seq vs.toArray k })
    (q : ∀ s', Ext s s' → Q (.bool true) s') : wpAny (model PW w) callerA (call (.ref fa) [.ref l]) Q E s := by
  refine (@spec11 w mg mb 0 gv ns hn callerA [] s Q E [.ref l] fa hm caller_ok gl (fun _ hb => nomatch hb) (.cons (fun _ _ hb => nomatch hb) (.list hl (ints_rs hI)) .nil) ?_).2
  intro v s' x r a
  obtain rfl := r.bool_inv
  exact q s' x
theorem law_post (as : List WData) : PySem.Challenge.rw_sl0011_01.row.claim.post as (WData.bool true) as = true := by
  show (WShape.has PySem.Challenge.rw_sl0011_01.row.records (WData.bool true) .bool && WTm.holds PySem.Challenge.rw_sl0011_01.row.records (.eq .res (.lit (.bool true))) { args := as, res := some (.bool true), after := as }) = true
  have h1 : WShape.has PySem.Challenge.rw_sl0011_01.row.records (WData.bool true) .bool = true := rfl
  rw [h1, Bool.true_and]
  unfold WTm.holds
  simp [WTm.value, same]
end Mine
end
set_option maxRecDepth 100000 in
set_option maxHeartbeats 8000000 in
theorem PySem.Challenge.cw_sl0011_01_holds : PySem.Challenge.rw_sl0011_01.Holds := by
  w_on; o_law; o_head Hook.none; (case hw => w_witness2)
  intro w s₀ s₁ mg mb G Y fa o pm cd doc dV kV ho hdat hcd hDD hmg hg args vals as hpre hlay hrd hwl hlo
  refine Ground.open G ?_
  intro T B D TE TW
  have gl := Mine.gl_of T rfl
  have gv := Mine.gv_of T rfl rfl (by
    intro x hx
    rcases hx with rfl | rfl | rfl | rfl | rfl | rfl <;> decide +kernel)
  clear G Y ho hdat hcd hDD T B D TE TW
  wrow_args hpre hlay hrd hwl hlo
  rename_i ns q1 q2 q3 q4 q5 a1 a2 l vs a3 hL ra hW r0 hI hr hlen htrue
  obtain ⟨k, hl⟩ : ∃ k, s₁.heap.get? l = some { cls := .type "list", data := .seq vs.toArray k } := by
    obtain ⟨ob, e1, e2, k, e3⟩ := hL
    cases hW with
    | list e4 _ =>
      rw [e1] at e4
      cases e4
      exact ⟨_, by rw [e1, ← e3]⟩
  refine Mine.law_runs gl gv hmg hI (by omega) hl fun s' x => ?_
  refine ⟨.inl ⟨_, .bool true, [], rfl, fun _ => rfl, .bool true, Mine.law_post _, fun _ => ⟨List.nodup_nil, fun _ h => nomatch h⟩⟩, OldK.of_keep x.kp, x.os, ?_⟩
  obtain ⟨more, h1, h2⟩ := x.gens
  rw [h2, hg]
  simpa using h1
