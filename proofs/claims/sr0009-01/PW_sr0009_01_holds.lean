import PyProof.Rows.All
import Wide.All
import OpenK.AllK
import Wide.FinOn
import PySem.Challenge.RW_sr0009_01
set_option Elab.async false
section
open PySem PySem.W PyProof.Rows PySem.Calls
set_option Elab.async false
set_option maxRecDepth 100000
namespace Mine

theorem cnt_lt {n i : Nat} (h : i < n) : n + 1 - (i + 1) < n + 1 - i := by omega
theorem at_end {n i : Nat} (h : i ≤ n) (h' : ¬ i < n) : i = n := Nat.le_antisymm h (Nat.le_of_not_lt h')

inductive Atm where
  | int (i : Int)
  | str (s : List Nat)
  deriving DecidableEq
inductive PV where
  | none
  | bool (b : Bool)
  | int (i : Int)
  | str (s : List Nat)
  | list (xs : List Atm)
  deriving DecidableEq
noncomputable def Atm.pv : Atm → PV
  | .int i => .int i
  | .str s => .str s
noncomputable def PV.atm? : PV → Option Atm
  | .int i => some (.int i)
  | .str s => some (.str s)
  | _ => Option.none
noncomputable def toStr (l : List Nat) : Str := ⟨l.toArray⟩
noncomputable def lim : Nat := 65536

/-- a text of the run: short, of signs -/
noncomputable def OkS (l : List Nat) : Prop := l.length ≤ lim ∧ ∀ c ∈ l, c < 1114112
theorem OkS.sub {l m : List Nat} (x : OkS l) (h : m.length ≤ l.length) (hm : ∀ c ∈ m, c ∈ l) : OkS m := ⟨Nat.le_trans h x.1, fun c hc => x.2 c (hm c hc)⟩
theorem OkS.take {l : List Nat} (x : OkS l) (n : Nat) : OkS (l.take n) := x.sub (by simp; omega) fun c hc => List.mem_of_mem_take hc
theorem OkS.drop {l : List Nat} (x : OkS l) (n : Nat) : OkS (l.drop n) := x.sub (by simp) fun c hc => List.mem_of_mem_drop hc
theorem OkS.append {l m : List Nat} (x : OkS l) (y : OkS m) (h : (l ++ m).length ≤ lim) : OkS (l ++ m) := ⟨h, fun c hc => (List.mem_append.mp hc).elim (x.2 c) (y.2 c)⟩
theorem OkS.of {l : List Nat} (h : (decide (l.length ≤ lim) && l.all fun c => decide (c < 1114112)) = true) : OkS l := by
  simp only [Bool.and_eq_true, decide_eq_true_eq, List.all_eq_true] at h
  exact h
inductive AIs : Value → Atm → Prop
  | int (i : Int) (t : Tok) : AIs (.int i t) (.int i)
  | str (l : List Nat) (t : Tok) (h : OkS l) : AIs (.str (toStr l) t) (.str l)
inductive AllIs : List Value → List Atm → Prop
  | nil : AllIs [] []
  | cons {v a vs as} : AIs v a → AllIs vs as → AllIs (v :: vs) (a :: as)
theorem AllIs.length {vs : List Value} {as : List Atm} (h : AllIs vs as) : vs.length = as.length := by
  induction h with
  | nil => rfl
  | cons _ _ ih => simp [ih]
theorem AllIs.append {vs ws : List Value} {as bs : List Atm} (h : AllIs vs as) (g : AllIs ws bs) : AllIs (vs ++ ws) (as ++ bs) := by
  induction h with
  | nil => exact g
  | cons a _ ih => exact .cons a ih
theorem AllIs.get {vs : List Value} {as : List Atm} (h : AllIs vs as) : ∀ {i : Nat} {a : Atm}, as[i]? = some a → ∃ v, vs[i]? = some v ∧ AIs v a := by
  induction h with
  | nil => intro i a e; simp at e
  | cons hv _ ih =>
    intro i a e
    cases i with
    | zero => simp at e; subst e; exact ⟨_, rfl, hv⟩
    | succ i => simp at e; simpa using ih e
theorem AllIs.take {vs : List Value} {as : List Atm} (h : AllIs vs as) : ∀ n, AllIs (vs.take n) (as.take n) := by
  induction h with
  | nil => intro n; simp; exact .nil
  | cons hv _ ih => intro n; cases n with
    | zero => exact .nil
    | succ n => exact .cons hv (ih n)
theorem AllIs.drop {vs : List Value} {as : List Atm} (h : AllIs vs as) : ∀ n, AllIs (vs.drop n) (as.drop n) := by
  induction h with
  | nil => intro n; simp; exact .nil
  | cons hv hr ih => intro n; cases n with
    | zero => exact .cons hv hr
    | succ n => exact ih n
theorem AllIs.set {vs : List Value} {as : List Atm} (h : AllIs vs as) {v : Value} {a : Atm} (hv : AIs v a) : ∀ n, AllIs (vs.set n v) (as.set n a) := by
  induction h with
  | nil => intro n; simp; exact .nil
  | cons hx hr ih => intro n; cases n with
    | zero => exact .cons hv hr
    | succ n => exact .cons hx (ih n)

noncomputable def LP (h : Heap) (a : Addr) (its : Array Value) : Prop := ∃ o n, h.get? a = some o ∧ o.cls = .type "list" ∧ o.data = .seq its n
theorem LP.isList {h : Heap} {a : Addr} {its : Array Value} (x : LP h a its) : h.IsList a its := let ⟨o, n, h1, h2, h4⟩ := x; ⟨o, h1, h2, n, h4⟩
inductive VIs (h : Heap) : Value → PV → Prop
  | none : VIs h .none .none
  | bool (b : Bool) : VIs h (.bool b) (.bool b)
  | int (i : Int) (t : Tok) : VIs h (.int i t) (.int i)
  | str (l : List Nat) (t : Tok) (hl : OkS l) : VIs h (.str (toStr l) t) (.str l)
  | list {a : Addr} {vs : List Value} {xs : List Atm} (hp : LP h a vs.toArray) (hx : AllIs vs xs) (hl : xs.length ≤ lim) : VIs h (.ref a) (.list xs)
theorem AIs.vis {v : Value} {a : Atm} (x : AIs v a) (h : Heap) : VIs h v a.pv := by
  cases x with
  | int i t => exact .int i t
  | str l t hl => exact .str l t hl
theorem VIs.ais {h : Heap} {v : Value} {p : PV} {a : Atm} (x : VIs h v p) (e : p.atm? = some a) : AIs v a := by
  cases x with
  | int i t => cases e; exact .int i t
  | str l t hl => cases e; exact .str l t hl
  | none => cases e
  | bool => cases e
  | list => cases e
theorem VIs.keeps {h h' : Heap} {v : Value} {p : PV} (x : VIs h v p) (hk : ∀ b o, h.get? b = some o → h'.get? b = some o) : VIs h' v p := by
  cases x with
  | none => exact .none
  | bool b => exact .bool b
  | int i t => exact .int i t
  | str l t hl => exact .str l t hl
  | list hp hx hl => obtain ⟨o, n, e, r⟩ := hp; exact .list ⟨o, n, hk _ _ e, r⟩ hx hl
theorem VIs.int_inv {h : Heap} {v : Value} {i : Int} (x : VIs h v (.int i)) : ∃ t, v = .int i t := by cases x; exact ⟨_, rfl⟩
theorem VIs.bool_inv {h : Heap} {v : Value} {b : Bool} (x : VIs h v (.bool b)) : v = .bool b := by cases x; rfl
theorem VIs.none_inv {h : Heap} {v : Value} (x : VIs h v .none) : v = .none := by cases x; rfl
theorem VIs.str_inv {h : Heap} {v : Value} {l : List Nat} (x : VIs h v (.str l)) : ∃ t, v = .str (toStr l) t ∧ OkS l := by cases x; exact ⟨_, rfl, by assumption⟩
theorem VIs.list_inv {h : Heap} {v : Value} {xs : List Atm} (x : VIs h v (.list xs)) : ∃ a vs, v = .ref a ∧ LP h a vs.toArray ∧ AllIs vs xs ∧ xs.length ≤ lim := by cases x; exact ⟨_, _, rfl, by assumption, by assumption, by assumption⟩
inductive AllV (h : Heap) : List Value → List PV → Prop
  | nil : AllV h [] []
  | cons {v p vs ps} : VIs h v p → AllV h vs ps → AllV h (v :: vs) (p :: ps)
theorem AllV.keeps {h h' : Heap} {vs : List Value} {ps : List PV} (x : AllV h vs ps) (hk : ∀ b o, h.get? b = some o → h'.get? b = some o) : AllV h' vs ps := by
  induction x with
  | nil => exact .nil
  | cons a _ ih => exact .cons (a.keeps hk) ih

/-- the run goes on: nothing old is touched -/
structure GensOk (g g' : Array GenState) : Prop where
  old : ∀ (i : Nat) (x : GenState), g[i]? = some x → g'[i]? = some x
  bare : AllBare g → AllBare g'
structure Ext (s s' : Shared) : Prop where
  keep : ∀ b o, s.heap.get? b = some o → s'.heap.get? b = some o
  os : s'.os = s.os
  gens : GensOk s.gens s'.gens
theorem GensOk.refl (g : Array GenState) : GensOk g g := ⟨fun _ _ e => e, fun e => e⟩
theorem GensOk.trans {a b c : Array GenState} (x : GensOk a b) (y : GensOk b c) : GensOk a c := ⟨fun i g e => y.old i g (x.old i g e), fun e => y.bare (x.bare e)⟩
theorem Ext.refl (s : Shared) : Ext s s := ⟨fun _ _ e => e, rfl, .refl _⟩
theorem Ext.trans {a b c : Shared} (x : Ext a b) (y : Ext b c) : Ext a c := ⟨fun i o e => y.keep i o (x.keep i o e), y.os.trans x.os, x.gens.trans y.gens⟩
theorem Ext.of {s : Shared} {h : Heap} {tk : Nat} (hk : ∀ b o, s.heap.get? b = some o → h.get? b = some o) : Ext s { s with heap := h, toks := tk } := ⟨hk, rfl, .refl _⟩
theorem Ext.tok {s : Shared} {tk : Nat} : Ext s { s with toks := tk } := .of fun _ _ e => e
theorem Ext.push {s : Shared} {o : Obj} {tk : Nat} : Ext s { s with heap := s.heap.push o, toks := tk } := .of fun _ _ e => Heap.get?_push_of_some o e
noncomputable def Fresh (s : Shared) (v : Value) : Prop := ∀ a, v = .ref a → s.heap.get? a = none
theorem Fresh.back {s s' : Shared} {v : Value} (x : Fresh s' v) (e : Ext s s') : Fresh s v := fun a h => by
  cases q : s.heap.get? a with
  | none => rfl
  | some o => have := e.keep a o q; rw [x a h] at this; cases this
theorem fresh_int {s : Shared} {i : Int} {t : Tok} : Fresh s (.int i t) := fun _ e => nomatch e
theorem fresh_str {s : Shared} {x : Str} {t : Tok} : Fresh s (.str x t) := fun _ e => nomatch e
theorem fresh_bool {s : Shared} {b : Bool} : Fresh s (.bool b) := fun _ e => nomatch e
theorem fresh_new {s : Shared} : Fresh s (.ref s.heap.objs.size) := fun a e => by
  cases e
  cases q : s.heap.get? s.heap.objs.size with
  | none => rfl
  | some o => exact absurd (Heap.lt_size q) (Nat.lt_irrefl _)
theorem AIs.fresh {v : Value} {a : Atm} (x : AIs v a) (s : Shared) : Fresh s v := fun b e => by cases x <;> cases e

/-- what a name holds, in a frame's own map or in a cell -/
noncomputable def HoldsV (env : Env) (h : Heap) (x : Str) (v : Value) : Prop :=
  (env.kindOf x = some .local ∧ ∃ m, h.Ns env.locals m ∧ m x = some v) ∨ (env.kindOf x = some .cell ∧ ∃ c, env.cells.lookup x = some c ∧ h.IsCell c (some v))
theorem HoldsV.keeps {env : Env} {h h' : Heap} {x : Str} {v : Value} (y : HoldsV env h x v) (hk : ∀ b o, h.get? b = some o → h'.get? b = some o) : HoldsV env h' x v := by
  rcases y with ⟨k, m, hn, e⟩ | ⟨k, c, hc, e⟩
  · exact .inl ⟨k, m, hn.keeps hk, e⟩
  · exact .inr ⟨k, c, hc, e.keeps hk⟩
theorem ns_uniq {h : Heap} {a : Addr} {m m' : Str → Option Value} (x : h.Ns a m) (y : h.Ns a m') (n : Str) : m n = m' n := by
  obtain ⟨o, es, ep, ho, hd, _, hf⟩ := x
  obtain ⟨o', es', ep', ho', hd', _, hf'⟩ := y
  rw [ho] at ho'; cases ho'
  rw [hd] at hd'; cases hd'
  rw [← hf n, ← hf' n]
theorem HoldsV.uniq {env : Env} {h : Heap} {x : Str} {v v' : Value} (y : HoldsV env h x v) (z : HoldsV env h x v') : v = v' := by
  rcases y with ⟨k, m, hn, e⟩ | ⟨k, c, hc, ⟨o, ho, hd⟩⟩ <;> rcases z with ⟨k', m', hn', e'⟩ | ⟨k', c', hc', ⟨o', ho', hd'⟩⟩
  · rw [ns_uniq hn hn' x, e'] at e; exact (Option.some.inj e).symm
  · rw [k] at k'; cases k'
  · rw [k] at k'; cases k'
  · rw [hc] at hc'; cases hc'
    rw [ho] at ho'; cases ho'
    rw [hd] at hd'; exact Option.some.inj (by injection hd')
theorem load_holds {M : Model} {A : Around} {E : Value → Shared → Prop} {s : Shared} {env : Env} {x : Str} {p : Pos} {v : Value} {Q : Value → Shared → Prop} (hk : env.scope.kind = .function)
    (y : HoldsV env s.heap x v) (hd : (x == ("__debug__" : Str)) = false) (h : Q v s) : wpAny M A (eval (.Name x p) env) Q E s := by
  refine wpAny_Name ?_ hd
  rcases y with ⟨k, m, hn, e⟩ | ⟨k, c, hc, e⟩
  · exact wpAny_loadName_local hk k hn e h
  · exact wpAny_loadName_cell hk k hc e h

abbrev Sg := List (Option PV)
noncomputable def getS (σ : Sg) (i : Nat) : Option PV := σ.getD i none
noncomputable def setS (σ : Sg) (i : Nat) (p : PV) : Sg := σ.set i (some p)

structure EnvOk (env : Env) (nm : List Str) (σ : Sg) (h : Heap) : Prop where
  fn : env.scope.kind = .function
  gl : env.globals = mainGlobals
  bl : env.builtins = builtinsNs
  dbg : ∀ x ∈ nm, (x == ("__debug__" : Str)) = false
  var : ∀ i p, getS σ i = some p → ∃ x v, nm[i]? = some x ∧ HoldsV env h x v ∧ VIs h v p
theorem EnvOk.keeps {env : Env} {nm : List Str} {σ : Sg} {h h' : Heap} (x : EnvOk env nm σ h) (hk : ∀ b o, h.get? b = some o → h'.get? b = some o) : EnvOk env nm σ h' :=
  ⟨x.fn, x.gl, x.bl, x.dbg, fun i p e => let ⟨n, v, a, b, c⟩ := x.var i p e; ⟨n, v, a, b.keeps hk, c.keeps hk⟩⟩

structure CtxOk (A : Around) (n : Nat) : Prop where
  handled : A.handled = none
  depth : A.depth + n ≤ 900
  units : A.units + 10 * n ≤ 9000
theorem CtxOk.le {A : Around} {n k : Nat} (x : CtxOk A n) (h : k ≤ n) : CtxOk A k := ⟨x.handled, by have := x.depth; omega, by have := x.units; omega⟩
theorem CtxOk.deeper {A : Around} {n : Nat} {env : Env} (x : CtxOk A (n + 1)) : CtxOk (A.deeper env) n := ⟨x.handled, by have := x.depth; show A.depth + 1 + n ≤ 900; omega, by have := x.units; show A.units + 3 + 10 * n ≤ 9000; omega⟩
theorem CtxOk.cLine {A : Around} {n : Nat} (x : CtxOk A n) : A.units + 500 < cLine := by have := x.units; unfold PySem.cLine; omega

noncomputable def bNames : List Str := ["len", "min", "max", "sum", "list", "range", "bytes", "iter", "next", "enumerate", "StopIteration"]
noncomputable def pat1 : Flt.PatRec := ⟨"_twin_re_1", [14, 4, 0, 1, 1, 6, 1, 16, 46, 1], 0, 0⟩
noncomputable def pat2 : Flt.PatRec := ⟨"_twin_re_2", [14, 9, 4, 1, 2, 16, 10, 16, 13, 0, 7, 7, 16, 13, 16, 10, 15, 18, 5, 16, 10, 15, 13, 11, 16, 13, 5, 5, 0, 16, 10, 1, 15, 2, 0, 1], 0, 0⟩
noncomputable def gConsts : List (Str × PyData) := [("NT_OFFSET", .int 256), ("ENDMARKER", .int 0), ("CRLF", .str "\x0d\n")]
/-- the text's own globals, as they stand at every heap of the call -/
structure GWf (D : List DefItem) (N : Nat) (mg mb : Str → Option Value) (consts : List (Str × PyData)) (objs : List (Str × (Obj → Prop))) (names : List Str) (h : Heap) : Prop where
  G : Glob N mg mb D consts objs names h
  free : ∀ x ∈ bNames, x ∉ names
  cs : ∀ p ∈ gConsts, p ∈ consts
  p1 : ∃ a, mg pat1.name = some (.ref a) ∧ Flt.IsPattern h a pat1
  p2 : ∃ a, mg pat2.name = some (.ref a) ∧ Flt.IsPattern h a pat2
noncomputable def GW (D : List DefItem) (h : Heap) : Prop := ∃ N mg mb consts objs names, GWf D N mg mb consts objs names h
theorem GW.keeps {D : List DefItem} {h h' : Heap} (x : GW D h) (hk : ∀ b o, h.get? b = some o → h'.get? b = some o) : GW D h' := by
  obtain ⟨N, mg, mb, consts, objs, names, y⟩ := x
  exact ⟨N, mg, mb, consts, objs, names, y.G.keeps hk, y.free, y.cs, let ⟨a, e, b⟩ := y.p1; ⟨a, e, b.keeps hk⟩, let ⟨a, e, b⟩ := y.p2; ⟨a, e, b.keeps hk⟩⟩
noncomputable def IsFn (h : Heap) (x : Str) (f : Addr) : Prop := ∃ mg, h.Ns mainGlobals mg ∧ mg x = some (.ref f)
theorem IsFn.keeps {h h' : Heap} {x : Str} {f : Addr} (y : IsFn h x f) (hk : ∀ b o, h.get? b = some o → h'.get? b = some o) : IsFn h' x f := let ⟨m, a, b⟩ := y; ⟨m, a.keeps hk, b⟩

section
variable {prog : Program} {w : World} {A : Around} {E : Value → Shared → Prop} {s : Shared} {env : Env} {D : List DefItem}
theorem load_builtin {x : Str} {p : Pos} {v : Value} {Q : Value → Shared → Prop} (W : GW D s.heap) (hf : env.scope.kind = .function) (hg : env.globals = mainGlobals) (hb : env.builtins = builtinsNs)
    (hk : env.kindOf x = some .globalImplicit) (hx : x ∈ bNames) (hv : bootBuiltins x = some v) (h : Q v s) (hboot : x ∉ bootMainNames := by decide) (hn : x ≠ "__name__" := by decide) (hd : (x == ("__debug__" : Str)) = false := by decide) :
    wpAny (model prog w) A (eval (.Name x p) env) Q E s := by
  obtain ⟨N, mg, mb, consts, objs, names, y⟩ := W
  exact Name_function_global hf hk (loadGlobal_builtin (hg ▸ y.G.g) (y.G.free x (y.free x hx) hboot) (hb ▸ y.G.b) ((y.G.builtins x hn).trans hv) h) hd
theorem load_def {d : DefItem} {p : Pos} {Q : Value → Shared → Prop} (W : GW D s.heap) (hf : env.scope.kind = .function) (hg : env.globals = mainGlobals)
    (hk : env.kindOf d.name = some .globalImplicit) (hD : d ∈ D) (hnd : d.params.defaults = []) (hd : (d.name == ("__debug__" : Str)) = false)
    (h : ∀ f c' o pm doc, IsFn s.heap d.name f → s.heap.get? f = some o → o.data = .func (docDef d.name d.params d.body d.scope pm (.ref c') doc) → s.heap.CodeRec (.ref c') d.name → Q (.ref f) s) :
    wpAny (model prog w) A (eval (.Name d.name p) env) Q E s := by
  obtain ⟨N, mg, mb, consts, objs, names, y⟩ := W
  obtain ⟨f, c', o, pm, doc, _, _, h3, h4, h5, h6⟩ := (y.G.made d hD).plain hnd
  exact Name_function_global hf hk (loadGlobal_global (hg ▸ y.G.g) h3 (h f c' o pm doc ⟨mg, y.G.g, h3⟩ h4 h5 h6)) hd
theorem load_gint {x : Str} {i : Int} {p : Pos} {Q : Value → Shared → Prop} (W : GW D s.heap) (hf : env.scope.kind = .function) (hg : env.globals = mainGlobals)
    (hk : env.kindOf x = some .globalImplicit) (hx : (x, PyData.int i) ∈ gConsts) (hd : (x == ("__debug__" : Str)) = false) (h : ∀ t, Q (.int i t) s) :
    wpAny (model prog w) A (eval (.Name x p) env) Q E s := by
  obtain ⟨N, mg, mb, consts, objs, names, y⟩ := W
  obtain ⟨v, hv, hdat⟩ := y.G.bound _ (y.cs _ hx)
  obtain ⟨t, rfl⟩ := hdat.int
  exact Name_function_global hf hk (loadGlobal_global (hg ▸ y.G.g) hv (h t)) hd
theorem load_gstr {x : Str} {i : Str} {p : Pos} {Q : Value → Shared → Prop} (W : GW D s.heap) (hf : env.scope.kind = .function) (hg : env.globals = mainGlobals)
    (hk : env.kindOf x = some .globalImplicit) (hx : (x, PyData.str i) ∈ gConsts) (hd : (x == ("__debug__" : Str)) = false) (h : ∀ t, Q (.str i t) s) :
    wpAny (model prog w) A (eval (.Name x p) env) Q E s := by
  obtain ⟨N, mg, mb, consts, objs, names, y⟩ := W
  obtain ⟨v, hv, hdat⟩ := y.G.bound _ (y.cs _ hx)
  obtain ⟨t, rfl⟩ := hdat.str
  exact Name_function_global hf hk (loadGlobal_global (hg ▸ y.G.g) hv (h t)) hd
end
end Mine
end
section
open PySem PySem.W PyProof.Rows PySem.Calls
set_option Elab.async false
set_option maxRecDepth 100000
namespace Mine

noncomputable def small (y : Int) : Bool := decide (0 < y) && decide (y < 4611686018427387904)
noncomputable def int2 {α : Type} (f : Int → Int → α) (a b : PV) : Option α := match a, b with
  | .int x, .int y => some (f x y)
  | _, _ => none
theorem int2_inv {α : Type} {f : Int → Int → α} {a b : PV} {r : α} (e : int2 f a b = some r) : ∃ x y, a = .int x ∧ b = .int y ∧ f x y = r := by
  cases a with
  | int x => cases b with
    | int y => exact ⟨x, y, rfl, rfl, Option.some.inj e⟩
    | _ => cases e
  | _ => cases e
noncomputable def intB (f : Int → Int → Option PV) (a b : PV) : Option PV := match a, b with
  | .int x, .int y => f x y
  | _, _ => none
theorem intB_inv {f : Int → Int → Option PV} {a b r : PV} (e : intB f a b = some r) : ∃ x y, a = .int x ∧ b = .int y ∧ f x y = some r := by
  cases a with
  | int x => cases b with
    | int y => exact ⟨x, y, rfl, rfl, e⟩
    | _ => cases e
  | _ => cases e
noncomputable def addPV (a b : PV) : Option PV := match a, b with
  | .int x, .int y => some (.int (x + y))
  | .str x, .str y => if (x ++ y).length ≤ lim then some (.str (x ++ y)) else none
  | .list x, .list y => if (x ++ y).length ≤ lim then some (.list (x ++ y)) else none
  | _, _ => none
noncomputable def mulPV (a b : PV) : Option PV := match a, b with
  | .str x, .int n => if n ≤ 60000 ∧ -60000 ≤ n ∧ x.length * n.toNat ≤ lim then some (.str (List.replicate n.toNat x).flatten) else none
  | _, _ => none
noncomputable def binPV (op : Operator) (a b : PV) : Option PV := match op with
  | .Add => addPV a b
  | .Sub => intB (fun x y => some (.int (x - y))) a b
  | .FloorDiv => intB (fun x y => if small y = true then some (.int (x.fdiv y)) else none) a b
  | .Mod => intB (fun x y => if small y = true then some (.int (x.fmod y)) else none) a b
  | .Pow => intB (fun x y => if x = 2 ∧ 0 ≤ y ∧ y ≤ 60 then some (.int (2 ^ y.toNat)) else none) a b
  | .Mult => mulPV a b
  | _ => none

theorem toStr_append (a b : List Nat) : toStr a ++ toStr b = toStr (a ++ b) := by
  unfold toStr
  apply Str.ext'
  rw [Str.cps_append]
  simp
theorem toStr_length (a : List Nat) : (toStr a).length = a.length := by
  show a.toArray.size = _
  simp
theorem toStr_inj {a b : List Nat} (h : toStr a = toStr b) : a = b := by
  have := congrArg (fun s => s.cps.toList) h
  simpa [toStr] using this
theorem lim_line : lim ≤ sizeLine := by decide
theorem lim2 {a b : Nat} (h : a + b ≤ lim) : a + b ≤ sizeLine := Nat.le_trans h lim_line

theorem noPy {x y : Int} (h : small y = true) : Builtin.divisionGoesByPylong x y = false := by
  simp only [small, Bool.and_eq_true, decide_eq_true_eq] at h
  unfold Builtin.divisionGoesByPylong
  have hy : ¬ (y == 0) = true := by simp; omega
  have hl : y.natAbs.log2 < 62 := by
    rw [Nat.log2_lt (by omega)]
    have : (2 : Nat) ^ 62 = 4611686018427387904 := by decide
    omega
  simp only [hy]
  have : ¬ (y.natAbs.log2 / 30 + 1 > 300) := by omega
  simp [this]

theorem mul_text (x : List Nat) (n : Int) : Txt.mul (toStr x) n = toStr (List.replicate n.toNat x).flatten := by
  unfold Txt.mul
  by_cases h1 : n < 1
  · rw [if_pos h1]
    have : n.toNat = 0 := by omega
    rw [this]; rfl
  · rw [if_neg h1]
    split
    · rename_i h
      simp only [Bool.or_eq_true, beq_iff_eq] at h
      rcases h with h | h
      · subst h; simp
      · rw [toStr_length] at h
        have : x = [] := List.length_eq_zero_iff.mp h
        subst this
        congr 1
        induction n.toNat with
        | zero => rfl
        | succ k ih => simp [List.replicate_succ, ← ih]
    · unfold toStr
      congr 1
      have key : ∀ (k : Nat) (acc : Array Nat), (List.replicate k x.toArray).foldl (· ++ ·) acc = acc ++ (List.replicate k x).flatten.toArray := by
        intro k
        induction k with
        | zero => intro acc; simp
        | succ k ih => intro acc; rw [List.replicate_succ, List.foldl_cons, ih, List.replicate_succ, List.flatten_cons]; simp
      rw [key]; simp

section
variable {prog : Program} {w : World} {A : Around} {E : Value → Shared → Prop} {s : Shared} {n : Nat}

theorem plainL_new {h : Heap} {its : List Value} : LP (h.push { cls := .type "list", data := .seq its.toArray }) h.objs.size its.toArray := ⟨_, _, Heap.get?_push_size _ rfl, rfl, rfl⟩
theorem vis_new {s : Shared} {vs : List Value} {xs : List Atm} {tk : Nat} (hx : AllIs vs xs) (hl : xs.length ≤ lim) :
    VIs ({ s with heap := s.heap.push { cls := .type "list", data := .seq vs.toArray }, toks := tk } : Shared).heap (.ref s.heap.objs.size) (.list xs) := .list plainL_new hx hl

theorem bin_sound {op : Operator} {a b r : PV} {va vb : Value} {Q : Value → Shared → Prop} (e : binPV op a b = some r) (ha : VIs s.heap va a) (hb : VIs s.heap vb b)
    (hQ : ∀ v s', Ext s s' → VIs s'.heap v r → Fresh s v → Q v s') : wpAny (model prog w) A (binaryOp op va vb) Q E s := by
  cases op with
  | Add =>
    change addPV a b = some r at e
    unfold addPV at e
    split at e
    · cases e; obtain ⟨t, rfl⟩ := ha.int_inv; obtain ⟨u, rfl⟩ := hb.int_inv
      exact add_int (hQ _ _ .tok (.int ..) fresh_int)
    · split at e
      · rename_i hs
        cases e; obtain ⟨t, rfl, oa⟩ := ha.str_inv; obtain ⟨u, rfl, ob⟩ := hb.str_inv
        rw [List.length_append] at hs
        refine add_str (fun t' tk => ?_) (by rw [toStr_length, toStr_length]; exact lim2 hs)
        rw [toStr_append]
        exact hQ _ _ .tok (.str _ _ (OkS.append oa ob (by rw [List.length_append]; exact hs))) fresh_str
      · cases e
    · split at e
      · rename_i hs
        cases e; obtain ⟨a, vs, rfl, hp, hx, hl⟩ := ha.list_inv; obtain ⟨b, ws, rfl, hp', hx', hl'⟩ := hb.list_inv
        obtain ⟨⟨cls, dd, data, sl⟩, k, ho, hc, hd⟩ := hp
        obtain ⟨⟨cls2, dd2, data2, sl2⟩, k2, ho2, hc2, hd2⟩ := hp'
        simp only at hc hd hc2 hd2
        subst hc hd hc2 hd2
        have e1 : vs.toArray ++ ws.toArray = (vs ++ ws).toArray := by simp
        have hsz : vs.toArray.size + ws.toArray.size ≤ sizeLine := by
          rw [List.length_append] at hs
          have := hx.length; have := hx'.length
          simp only [List.size_toArray]
          exact lim2 (by omega)
        refine concat_meets ⟨_, ho, rfl⟩ ⟨_, ho2, rfl⟩ noFill_list_add seq_list_add PySem.F.slot_list_add PySem.F.entry_list_add (PySem.F.args_list_add_2 _ _) (list_addW a b vs.toArray ws.toArray k k2 dd dd2 sl sl2 hsz) ⟨ho, ho2, ?_⟩
        rw [e1]
        exact hQ _ _ .push (vis_new (hx.append hx') hs) fresh_new
      · cases e
    · cases e
  | Sub =>
    obtain ⟨x, y, rfl, rfl, e'⟩ := intB_inv e
    clear e
    have e := e'
    clear e'
    cases e; obtain ⟨t, rfl⟩ := ha.int_inv; obtain ⟨u, rfl⟩ := hb.int_inv
    exact AutoIntOps.sub_0 (hQ _ _ .tok (.int ..) fresh_int)
  | FloorDiv =>
    obtain ⟨x, y, rfl, rfl, e'⟩ := intB_inv e
    clear e
    have e := e'
    clear e'
    split at e
    · rename_i hs
      cases e; obtain ⟨t, rfl⟩ := ha.int_inv; obtain ⟨u, rfl⟩ := hb.int_inv
      exact floordiv_int (by simp [small] at hs; omega) (hQ _ _ .tok (.int ..) fresh_int) (.inl (noPy hs))
    · cases e
  | Mod =>
    obtain ⟨x, y, rfl, rfl, e'⟩ := intB_inv e
    clear e
    have e := e'
    clear e'
    split at e
    · rename_i hs
      cases e; obtain ⟨t, rfl⟩ := ha.int_inv; obtain ⟨u, rfl⟩ := hb.int_inv
      exact mod_int' (by simp [small] at hs; omega) (hQ _ _ .tok (.int ..) fresh_int)
    · cases e
  | Pow =>
    obtain ⟨x, y, rfl, rfl, e'⟩ := intB_inv e
    clear e
    have e := e'
    clear e'
    split at e
    · rename_i hs
      obtain ⟨rfl, h0, h1⟩ := hs
      cases e; obtain ⟨t, rfl⟩ := ha.int_inv; obtain ⟨u, rfl⟩ := hb.int_inv
      by_cases hz : y = 0
      · subst hz
        exact AutoIntOps.pow_0 (by decide) (by decide) (hQ _ _ .tok (.int ..) fresh_int)
      · refine AutoIntOps.pow_4 h0 (by simpa using hz) (by decide) (by decide) ?_ (hQ _ _ .tok (.int ..) fresh_int)
        have : Builtin.Int.intBits 2 = 2 := by decide
        rw [this]
        unfold Builtin.Int.intTooBig
        have hb : bitsLine = 134217728 := by decide
        rw [hb]
        simp
        omega
    · cases e
  | Mult =>
    change mulPV a b = some r at e
    unfold mulPV at e
    split at e
    · rename_i x n
      split at e
      · rename_i hs
        obtain ⟨h1, h2, h3⟩ := hs
        cases e; obtain ⟨t, rfl, hl⟩ := ha.str_inv; obtain ⟨u, rfl⟩ := hb.int_inv
        have hlen : ∀ (k : Nat) (x : List Nat), (List.replicate k x).flatten.length = x.length * k := by
          intro k x; induction k with
          | zero => rfl
          | succ k ih => rw [List.replicate_succ, List.flatten_cons, List.length_append, ih, Nat.mul_succ]; omega
        refine SB.mul ?_ (fun t' tk => ?_)
        · refine ⟨by simp; omega, fun hn hc => ?_, fun hn hc => ?_⟩
          · rw [toStr_length]
            intro hgt
            have hpos : 0 < n := by omega
            have := Int.mul_le_of_le_ediv hpos (Int.le_refl ((2 ^ 63 - 1) / n))
            have hh : (x.length : Int) ≤ 65536 := by have hl1 := hl.1; unfold lim at hl1; omega
            have h5 : (2 ^ 63 - 1) / n ≥ 65536 := by
              apply (Int.le_ediv_iff_mul_le hpos).mpr
              have : 65536 * n ≤ 65536 * 60000 := by omega
              omega
            omega
          · rw [toStr_length]
            unfold Builtin.Str.tooLong
            have := Nat.le_trans h3 lim_line
            simp; omega
        · rw [mul_text]
          refine hQ _ _ .tok (.str _ _ ⟨by rw [hlen]; exact h3, fun c hc => ?_⟩) fresh_str
          obtain ⟨l, hl1, hl2⟩ := List.mem_flatten.mp hc
          rw [List.eq_of_mem_replicate hl1] at hl2
          exact hl.2 c hl2
      · cases e
    · cases e
  | _ => cases e
end
end Mine
end
section
open PySem PySem.W PyProof.Rows PySem.Calls
set_option Elab.async false
set_option maxRecDepth 100000
namespace Mine

noncomputable def atmD : Atm → PyData
  | .int i => .int i
  | .str l => .str (toStr l)
theorem AIs.carried {v : Value} {a : Atm} (x : AIs v a) : Carried v (atmD a) := by
  cases x with
  | int i t => exact .int i t
  | str l t h => exact .str (toStr l) t
theorem AllIs.carried {vs : List Value} {as : List Atm} (x : AllIs vs as) : CarriedAll vs (as.map atmD) := by
  induction x with
  | nil => exact .nil
  | cons a _ ih => exact .cons a.carried ih
theorem canLayAll_atm {vs : List Value} {xs : List Atm} (x : AllIs vs xs) : PyData.canLayAll0 (xs.map atmD) = true := by
  induction x with
  | nil => rfl
  | cons hv _ ih =>
    cases hv with
    | int i t => simp [PyData.canLayAll0, PyData.canLay0, atmD, ih]
    | str l t hl =>
      have : PyData.strOk (toStr l) = true := by
        unfold PyData.strOk toStr
        simp only [List.size_toArray, List.all_toArray', List.all_eq_true, decide_eq_true_eq]
        exact hl.2
      simp [PyData.canLayAll0, PyData.canLay0, atmD, ih, this]
theorem depthAll_atm : ∀ xs : List Atm, PyData.depthAll (xs.map atmD) = 0
  | [] => rfl
  | a :: r => by cases a <;> simp [PyData.depthAll, PyData.depth, atmD, depthAll_atm r]
theorem shaped_atm {vs : List Value} {xs : List Atm} (x : AllIs vs xs) : SeqAt.shaped (.list (xs.map atmD)) = true := by
  simp [SeqAt.shaped, PyData.canLay0, PyData.depth, canLayAll_atm x, depthAll_atm]
theorem eqvAll_atm : ∀ xs ys : List Atm, PyData.eqvAll (xs.map atmD) (ys.map atmD) = decide (xs = ys)
  | [], [] => by simp [PyData.eqvAll]
  | [], _ :: _ => by simp [PyData.eqvAll]
  | _ :: _, [] => by simp [PyData.eqvAll]
  | a :: r, b :: t => by
    simp only [List.map_cons, PyData.eqvAll, eqvAll_atm r t]
    have h1 : PyData.eqv (atmD a) (atmD b) = decide (a = b) := by
      cases a <;> cases b <;> simp only [atmD, PyData.eqv]
      · rename_i x y
        by_cases h : x = y
        · subst h; simp
        · simp [h]
      · simp
      · simp
      · rename_i x y
        by_cases h : x = y
        · subst h; simp
        · have : ¬ (toStr x = toStr y) := fun e => h (toStr_inj e)
          simp [h, this]
    rw [h1]
    by_cases h : a = b <;> by_cases h' : r = t <;> simp [h, h']

noncomputable def eqPV (a b : PV) : Option Bool := match a, b with
  | .int x, .int y => some (decide (x = y))
  | .str x, .str y => some (decide (x = y))
  | .list x, .list y => some (decide (x = y))
  | _, _ => none
noncomputable def isPV (a b : PV) : Option Bool := match b with
  | .none => (match a with
    | .none => some true
    | .int _ => some false
    | _ => none)
  | _ => none
noncomputable def isNPV (a b : PV) : Option Bool := match a, b with
  | .bool x, .bool y => some (x != y)
  | _, _ => none
noncomputable def notInPV (a b : PV) : Option Bool := match a, b with
  | .str [c], .str x => some (!decide (c ∈ x))
  | _, _ => none
noncomputable def cmpPV (op : CmpOp) (a b : PV) : Option Bool := match op with
  | .Eq => eqPV a b
  | .NotEq => (eqPV a b).map fun c => !c
  | .Lt => int2 (fun x y => decide (x < y)) a b
  | .LtE => int2 (fun x y => decide (x ≤ y)) a b
  | .Gt => int2 (fun x y => decide (y < x)) a b
  | .GtE => int2 (fun x y => decide (y ≤ x)) a b
  | .IsNot => isNPV a b
  | .NotIn => notInPV a b
  | .Is => isPV a b
  | .In => none

section
variable {prog : Program} {w : World} {A : Around} {E : Value → Shared → Prop} {s : Shared} {n : Nat}
theorem beq_dec {α : Type} [DecidableEq α] (a b : α) : (a == b) = decide (a = b) := by
  by_cases h : a = b <;> simp [h]
theorem cmp_sound {op : CmpOp} {a b : PV} {r : Bool} {va vb : Value} {Q : Value → Shared → Prop} (C : CtxOk A n) (e : cmpPV op a b = some r) (ha : VIs s.heap va a) (hb : VIs s.heap vb b)
    (hQ : Q (.bool r) s) : wpAny (model prog w) A (compareOp op va vb) Q E s := by
  cases op with
  | Eq =>
    change eqPV a b = some r at e
    unfold eqPV at e
    split at e
    · cases e; obtain ⟨t, rfl⟩ := ha.int_inv; obtain ⟨u, rfl⟩ := hb.int_inv
      exact eq_int (by rw [beq_dec]; exact hQ)
    · rename_i x y
      cases e; obtain ⟨t, rfl, ht⟩ := ha.str_inv; obtain ⟨u, rfl, hu⟩ := hb.str_inv
      refine eq_str ?_
      have : (toStr x == toStr y) = decide (x = y) := by
        by_cases h : x = y
        · subst h; simp
        · have : ¬ (toStr x = toStr y) := fun e => h (toStr_inj e)
          simp [h, this]
      rw [this]; exact hQ
    · cases e; obtain ⟨a, vs, rfl, hp, hx, hl⟩ := ha.list_inv; obtain ⟨b, ws, rfl, hp', hx', hl'⟩ := hb.list_inv
      refine PyProof.Rows.eq_dataH (reads_newData (LP.isList hp) hx.carried) (reads_newData (LP.isList hp') hx'.carried) (shaped_atm hx) (shaped_atm hx') (by have := C.cLine; omega) ?_
      rw [PyData.eqv, eqvAll_atm]; exact hQ
    · cases e
  | NotEq =>
    change (eqPV a b).map (fun c => !c) = some r at e
    obtain ⟨c, e', rfl⟩ := Option.map_eq_some_iff.mp e
    clear e
    have e := e'
    clear e'
    unfold eqPV at e
    split at e
    · cases e; obtain ⟨t, rfl⟩ := ha.int_inv; obtain ⟨u, rfl⟩ := hb.int_inv
      exact PyProof.Rows.ne_int (by rw [bne, beq_dec]; exact hQ)
    · rename_i x y
      cases e; obtain ⟨t, rfl, ht⟩ := ha.str_inv; obtain ⟨u, rfl, hu⟩ := hb.str_inv
      refine P.ne_str ?_
      have : ((toStr x).cps.toList != (toStr y).cps.toList) = !decide (x = y) := by
        by_cases h : x = y
        · subst h; simp
        · simp [toStr, bne, h]
      rw [this]; exact hQ
    · cases e; obtain ⟨a, vs, rfl, hp, hx, hl⟩ := ha.list_inv; obtain ⟨b, ws, rfl, hp', hx', hl'⟩ := hb.list_inv
      refine PyProof.Rows.ne_dataH (reads_newData (LP.isList hp) hx.carried) (reads_newData (LP.isList hp') hx'.carried) (shaped_atm hx) (shaped_atm hx') (by have := C.cLine; omega) ?_
      rw [PyData.eqv, eqvAll_atm]; exact hQ
    · cases e
  | Lt =>
    obtain ⟨x, y, rfl, rfl, rfl⟩ := int2_inv e
    obtain ⟨t, rfl⟩ := ha.int_inv; obtain ⟨u, rfl⟩ := hb.int_inv
    exact PyProof.Rows.lt_int hQ
  | LtE =>
    obtain ⟨x, y, rfl, rfl, rfl⟩ := int2_inv e
    obtain ⟨t, rfl⟩ := ha.int_inv; obtain ⟨u, rfl⟩ := hb.int_inv
    exact PyProof.Rows.le_int hQ
  | Gt =>
    obtain ⟨x, y, rfl, rfl, rfl⟩ := int2_inv e
    obtain ⟨t, rfl⟩ := ha.int_inv; obtain ⟨u, rfl⟩ := hb.int_inv
    exact PyProof.Rows.gt_int hQ
  | GtE =>
    obtain ⟨x, y, rfl, rfl, rfl⟩ := int2_inv e
    obtain ⟨t, rfl⟩ := ha.int_inv; obtain ⟨u, rfl⟩ := hb.int_inv
    exact PyProof.Rows.ge_int hQ
  | IsNot =>
    change isNPV a b = some r at e
    unfold isNPV at e
    split at e
    · rename_i x y
      cases e; cases ha.bool_inv; cases hb.bool_inv
      refine wpAny_isNot_plain (by rfl) ?_
      have : (!(Value.bool x == Value.bool y)) = (x != y) := by cases x <;> cases y <;> rfl
      rw [this]; exact hQ
    · cases e
  | NotIn =>
    change notInPV a b = some r at e
    unfold notInPV at e
    split at e
    · rename_i c x
      cases e; obtain ⟨t, rfl, ht⟩ := ha.str_inv; obtain ⟨u, rfl, hu⟩ := hb.str_inv
      refine P.notIn_str ?_
      have e1 : toStr [c] = ⟨#[c]⟩ := rfl
      rw [e1, StrLaws.found_one]
      have : (toStr x).cps.toList = x := by simp [toStr]
      rw [this]; exact hQ
    · cases e
  | Is =>
    change isPV a b = some r at e
    unfold isPV at e
    split at e
    · split at e
      · cases e; cases ha.none_inv; cases hb.none_inv
        exact wpAny_is_self (by rfl) hQ
      · cases e; obtain ⟨t, rfl⟩ := ha.int_inv; cases hb.none_inv
        exact wpAny_is_other (by rfl) (by intro h; cases h) hQ
      · cases e
    · cases e
  | In => cases e
end
end Mine
end
section
open PySem PySem.W PyProof.Rows PySem.Calls
set_option Elab.async false
set_option maxRecDepth 100000
namespace Mine

theorem fm_range {α : Type} (l : List α) (a : Nat) : ∀ k, a + k ≤ l.length → ((List.range k).map fun (i : Nat) => a + i).filterMap (fun i => l[i]?) = (l.drop a).take k
  | 0, _ => by simp
  | k + 1, h => by
    rw [List.range_succ, List.map_append, List.filterMap_append, fm_range l a k (by omega), List.take_add_one]
    congr 1
    have hlt : a + k < l.length := by omega
    simp [hlt]
theorem sliceRange_nat (a b : Nat) : sliceRange (a : Int) (b : Int) 1 = (List.range (b - a)).map fun (i : Nat) => a + i := by
  unfold sliceRange
  simp only [show (1 : Int) > 0 by decide, if_true]
  by_cases h : (a : Int) < b
  · simp only [h, if_true]
    have : (((b : Int) - a + 1 - 1) / 1).toNat = b - a := by rw [Int.ediv_one]; omega
    rw [this]
    apply List.map_congr_left
    intro i _
    omega
  · simp only [h, if_false]
    have : b - a = 0 := by omega
    rw [this]; rfl
theorem kms_hi_le (hi : Option Int) (n : Nat) : kms_hi hi n ≤ n := by
  unfold kms_hi
  split
  · exact Nat.le_refl _
  · split
    · omega
    · omega
theorem kms_lo_le (lo : Option Int) (n : Nat) : kms_lo lo n ≤ n := by
  unfold kms_lo
  split
  · omega
  · split
    · omega
    · omega

noncomputable def cut {α : Type} (l : List α) (lo hi : Option Int) : List α := (l.drop (kms_lo lo l.length)).take (kms_hi hi l.length - kms_lo lo l.length)
theorem cut_length_le {α : Type} (l : List α) (lo hi : Option Int) : (cut l lo hi).length ≤ l.length := by
  unfold Mine.cut
  exact Nat.le_trans (List.length_take_le' _ _) (by rw [List.length_drop]; exact Nat.sub_le _ _)
theorem OkS.cut {l : List Nat} (x : OkS l) (lo hi : Option Int) : OkS (cut l lo hi) := (x.drop _).take _
theorem AllIs.cut {vs : List Value} {xs : List Atm} (x : AllIs vs xs) (lo hi : Option Int) : AllIs (kms_pick vs lo hi) (cut xs lo hi) := by
  unfold kms_pick Mine.cut
  rw [x.length]
  exact (x.drop _).take _
theorem picked_cut (l : List Nat) (lo hi : Option Int) : (Builtin.Str.strSliceIndices lo hi 1 l.length).filterMap (l[·]?) = cut l lo hi := by
  have e : Builtin.Str.strSliceIndices lo hi 1 l.length = sliceRange (sliceBounds lo hi none l.length).1 (sliceBounds lo hi none l.length).2.1 1 := rfl
  rw [e, kms_bounds, sliceRange_nat]
  unfold cut
  by_cases h : kms_lo lo l.length ≤ kms_hi hi l.length
  · exact fm_range l _ _ (by have := kms_hi_le hi l.length; omega)
  · have : kms_hi hi l.length - kms_lo lo l.length = 0 := by omega
    rw [this]; simp

section
variable {prog : Program} {w : World} {A : Around} {E : Value → Shared → Prop} {s : Shared} {n : Nat}

theorem sliceMade_post {l : List Nat} {t : Tok} {lo hi : Option (Int × Tok)} {Q : Value → Shared → Prop} (hl : OkS l)
    (h : ∀ t' k, Q (.str (toStr (cut l (lo.map (·.1)) (hi.map (·.1)))) t') { s with toks := k }) : (sliceMade (toStr l) t lo hi none).post Q s := by
  have e0 : slicePicked (toStr l) lo hi none = Builtin.Str.strSliceIndices (lo.map (·.1)) (hi.map (·.1)) 1 l.length := by
    unfold slicePicked; rw [toStr_length]; rfl
  have e1 : ((slicePicked (toStr l) lo hi none).filterMap ((toStr l).cps[·]?)).toArray = (cut l (lo.map (·.1)) (hi.map (·.1))).toArray := by
    rw [e0, ← picked_cut]
    congr 2
    funext i
    simp [toStr]
  unfold sliceMade
  refine post_val_or_str ?_
  have key : (if (((Option.map (fun x => x.1) (none : Option (Int × Tok))).getD 1 == 1 && (slicePicked (toStr l) lo hi none).length == (toStr l).length) = true) then toStr l
      else (⟨((slicePicked (toStr l) lo hi none).filterMap ((toStr l).cps[·]?)).toArray⟩ : Str)) = toStr (cut l (lo.map (·.1)) (hi.map (·.1))) := by
    split
    · rename_i hc
      simp only [Bool.and_eq_true, beq_iff_eq] at hc
      have h2 := hc.2
      rw [e0, toStr_length] at h2
      have e : Builtin.Str.strSliceIndices (lo.map (·.1)) (hi.map (·.1)) 1 l.length = sliceRange (sliceBounds (lo.map (·.1)) (hi.map (·.1)) none l.length).1 (sliceBounds (lo.map (·.1)) (hi.map (·.1)) none l.length).2.1 1 := rfl
      rw [e, kms_bounds, sliceRange_nat, List.length_map, List.length_range] at h2
      have a1 := kms_hi_le (hi.map (·.1)) l.length
      have a2 := kms_lo_le (lo.map (·.1)) l.length
      unfold cut
      have b1 : kms_lo (lo.map (·.1)) l.length = 0 ∨ l = [] := by
        rcases Nat.eq_zero_or_pos l.length with h | h
        · exact .inr (List.length_eq_zero_iff.mp h)
        · left; omega
      rcases b1 with b1 | b1
      · rw [b1] at h2 ⊢
        rw [h2]
        simp
      · subst b1; simp
    · unfold toStr; rw [← e1]; rfl
  rw [key]
  exact ⟨by rw [toStr_length]; exact Nat.le_trans (hl.cut _ _).1 lim_line, h⟩

noncomputable def idxPV (e i : PV) : Option PV := match e, i with
  | .list xs, .int k => if -(xs.length : Int) ≤ k ∧ k < xs.length ∧ xs.length ≤ lim then (xs[(if k < 0 then k + xs.length else k).toNat]?).map Atm.pv else none
  | .str l, .int k => if 0 ≤ k ∧ k < l.length then (l[k.toNat]?).map fun c => .str [c] else none
  | _, _ => none
noncomputable def slicePV (e : PV) (lo hi : Option Int) : Option PV := match e with
  | .list xs => some (.list (cut xs lo hi))
  | .str l => some (.str (cut l lo hi))
  | _ => none

theorem slot_list : typeLookup (.type "list") "__getitem__" = pure (some (.builtin "list.__getitem__")) := slot_list_getitem.lookup
theorem slot_str : typeLookup (.type "str") "__getitem__" = pure (some (.builtin "str.__getitem__")) := F.slot_str_getitem.lookup

theorem idx_sound {e i r : PV} {ve vi : Value} {Q : Value → Shared → Prop} (h : idxPV e i = some r) (he : VIs s.heap ve e) (hi : VIs s.heap vi i)
    (hQ : ∀ v s', Ext s s' → VIs s'.heap v r → Fresh s v → Q v s') : (∃ T id, typeLookup (.type T) "__getitem__" = pure (some (.builtin id)) ∧ s.TypeIs ve T) ∧ wpAny (model prog w) A (getItem ve vi) Q E s := by
  unfold idxPV at h
  split at h
  · split at h
    · rename_i xs k hk
      obtain ⟨h1, h2, h3⟩ := hk
      obtain ⟨a, vs, rfl, hp, hx, hl⟩ := he.list_inv; obtain ⟨t, rfl⟩ := hi.int_inv
      refine ⟨⟨"list", _, slot_list, hp.isList.typeIs⟩, ?_⟩
      obtain ⟨x, hx1, hx2⟩ := Option.map_eq_some_iff.mp h
      subst hx2
      obtain ⟨v, hv1, hv2⟩ := hx.get hx1
      have hq : Q v s := hQ v s (.refl s) (hv2.vis _) (hv2.fresh s)
      have hlen := hx.length
      have : xs.length ≤ 65536 := h3
      by_cases hn : k < 0
      · rw [if_pos hn] at hv1
        refine wpAny_getItem_list_neg hp.isList hn (by simp only [List.size_toArray]; omega) (by omega) ?_ hq
        simp only [List.size_toArray, hlen]
        simpa using hv1
      · rw [if_neg hn] at hv1
        exact wpAny_getItem_list hp.isList (by omega) (by omega) (by simpa using hv1) hq
    · cases h
  · split at h
    · rename_i l k hk
      obtain ⟨t, rfl, hl⟩ := he.str_inv; obtain ⟨u, rfl⟩ := hi.int_inv
      refine ⟨⟨"str", _, slot_str, typeIs_str _ _ _⟩, ?_⟩
      obtain ⟨c, hc, rfl⟩ := Option.map_eq_some_iff.mp h
      have hlim := hl.1
      unfold lim at hlim
      have hch : Txt.charAt (toStr l) k = some c := by
        have e : seqIndex? k (toStr l).length = some k.toNat := by
          rw [toStr_length]
          unfold seqIndex?
          have h0 : ¬ k < 0 := by omega
          simp only [h0, if_false]
          have h1 : k < l.length := by omega
          simp; omega
        unfold Txt.charAt
        rw [e]
        simp [toStr]
        simpa using hc
      refine SB.getItem (by unfold fitsSsize; simp; omega) (by rw [hch]; rfl) ?_
      have : Txt.item (toStr l) k = toStr [c] := by unfold Txt.item; rw [hch]; rfl
      rw [this]
      refine hQ _ _ .tok (.str _ _ ⟨by show 1 ≤ lim; decide, ?_⟩) fresh_str
      intro d hd
      have : d = c := by simpa using hd
      subst this
      exact hl.2 _ (List.mem_of_getElem? hc)
    · cases h
  · cases h

/-- a part of a slice: none, or a number -/
noncomputable def partP : Option Int → PV
  | none => .none
  | some i => .int i
theorem slice_sound {e r : PV} {lo hi : Option Int} {ve vl vu : Value} {Q : Value → Shared → Prop} (h : slicePV e lo hi = some r) (he : VIs s.heap ve e) (hl : VIs s.heap vl (partP lo)) (hu : VIs s.heap vu (partP hi))
    (hQ : ∀ v s', Ext s s' → VIs s'.heap v r → Fresh s v → Q v s') :
    (∃ T id, typeLookup (.type T) "__getitem__" = pure (some (.builtin id)) ∧ ({ s with heap := s.heap.push { cls := .type "slice", data := .fields #[vl, vu, .none] } } : Shared).TypeIs ve T) ∧
      wpAny (model prog w) A (getItem ve (.ref s.heap.objs.size)) Q E { s with heap := s.heap.push { cls := .type "slice", data := .fields #[vl, vu, .none] } } := by
  have P : Ext s { s with heap := s.heap.push { cls := .type "slice", data := .fields #[vl, vu, .none] } } := .push
  have hlp : ∃ lp, vl = partValue lp ∧ lp.map (·.1) = lo := by
    cases lo with
    | none => cases hl; exact ⟨none, rfl, rfl⟩
    | some i => cases hl; rename_i t; exact ⟨some (i, t), rfl, rfl⟩
  have hup : ∃ up, vu = partValue up ∧ up.map (·.1) = hi := by
    cases hi with
    | none => cases hu; exact ⟨none, rfl, rfl⟩
    | some i => cases hu; rename_i t; exact ⟨some (i, t), rfl, rfl⟩
  obtain ⟨lp, rfl, rfl⟩ := hlp
  obtain ⟨up, rfl, rfl⟩ := hup
  unfold slicePV at h
  split at h
  · cases h
    rename_i xs
    obtain ⟨a, vs, rfl, hp, hx, hlx⟩ := he.list_inv
    refine ⟨⟨"list", _, slot_list, (LP.isList (let ⟨o, n, h1, r⟩ := hp; ⟨o, n, P.keep _ _ h1, r⟩)).typeIs⟩, ?_⟩
    have part : ∀ q : Option (Int × Tok), IsPart (partValue q) (q.map (·.1)) := fun q => by
      cases q with
      | none => exact .none
      | some p => exact .int _ _
    refine wpAny_getItem_list_slice (LP.isList (let ⟨o, n, h1, r⟩ := hp; ⟨o, n, P.keep _ _ h1, r⟩)) (.new ..) (part lp) (part up) .none (by simp) ?_ (by have := hx.length; simp only [List.size_toArray]; exact Nat.le_trans (by omega) lim_line)
    rw [kms_pick_eq]
    refine hQ _ _ (P.trans .push) (.list plainL_new (hx.cut _ _) (Nat.le_trans (cut_length_le _ _ _) hlx)) (Fresh.back fresh_new P)
  · cases h
    rename_i l
    obtain ⟨t, rfl, hlx⟩ := he.str_inv
    refine ⟨⟨"str", _, slot_str, typeIs_str _ _ _⟩, ?_⟩
    refine wpAny_getItem_str_slice (l := lp) (u := up) (st := none) ⟨_, Heap.get?_push_size _ rfl, rfl, rfl⟩ rfl (sliceMade_post hlx fun t' k => ?_)
    exact hQ _ _ (P.trans .tok) (.str _ _ (hlx.cut _ _)) fresh_str
  · cases h
end
end Mine
end
section
open PySem PySem.W PyProof.Rows PySem.Calls
set_option Elab.async false
set_option maxRecDepth 100000
set_option genInjectivity false
set_option genSizeOf false
namespace Mine

inductive Bi where
  | len | min | max | sum | list
  deriving DecidableEq
noncomputable def Bi.name : Bi → Str
  | .len => "len"
  | .min => "min"
  | .max => "max"
  | .sum => "sum"
  | .list => "list"

mutual
inductive X where
  | var (i : Nat) (p : Pos)
  | int (n : Int) (p : Pos)
  | neg (n : Int) (p' p : Pos)
  | str (x : String) (l : List Nat) (p : Pos)
  | bool (b : Bool) (p : Pos)
  | none (p : Pos)
  | gint (x : String) (n : Int) (p : Pos)
  | bin (op : Operator) (l r : X) (p : Pos)
  | cmp (op : CmpOp) (l r : X) (p : Pos)
  | ite (t : T) (a b : X) (p : Pos)
  | idx (e i : X) (p : Pos)
  | slo (e a : X) (ps p : Pos)
  | shi (e b : X) (ps p : Pos)
  | slh (e a b : X) (ps p : Pos)
  | disp (es : Xs) (p : Pos)
  | call (g : Nat) (e : X) (es : Xs) (pn p : Pos)
  | bi (b : Bi) (e : X) (es : Xs) (pn p : Pos)
  | join (e : X) (ps pa p : Pos)
  | split (e : X) (x : String) (l : List Nat) (ps pa p : Pos)
  | comp (elt : X) (tgt : Nat) (pt : Pos) (it : It) (caps : List Nat) (sc : Scope) (p : Pos)
  | compIf (elt : X) (tgt : Nat) (pt : Pos) (it : It) (c : T) (caps : List Nat) (sc : Scope) (p : Pos)
inductive Xs where
  | nil
  | cons (e : X) (es : Xs)
inductive T where
  | cmp (op : CmpOp) (l r : X) (p : Pos)
  | call (g : Nat) (e : X) (es : Xs) (pn p : Pos)
  | not (t : T) (p : Pos)
  | and (a b : T) (p : Pos)
  | or (a b : T) (p : Pos)
inductive It where
  | x (e : X)
  | r1 (a : X) (pn p : Pos)
  | r2 (a b : X) (pn p : Pos)
  | r3 (a b c : X) (pn p : Pos)
end

/-- the text's own tree -/
noncomputable def nmAt (nm : List Str) (i : Nat) : Str := nm.getD i Str.empty
mutual
noncomputable def X.toE (nm : List Str) (fn : Nat → Str) : X → Expr
  | .var i p => .Name (nmAt nm i) p
  | .int n p => .Constant (.int n) 0 p
  | .neg n p' p => .UnaryOp .USub (.Constant (.int n) 0 p') p
  | .str x _ p => .Constant (.str (Str.ofString x)) 0 p
  | .bool b p => .Constant (.bool b) 0 p
  | .none p => .Constant .none 0 p
  | .gint x _ p => .Name (Str.ofString x) p
  | .bin op l r p => .BinOp (l.toE nm fn) op (r.toE nm fn) p
  | .cmp op l r p => .Compare (l.toE nm fn) [op] [r.toE nm fn] p
  | .ite t a b p => .IfExp (t.toE nm fn) (a.toE nm fn) (b.toE nm fn) p
  | .idx e i p => .Subscript (e.toE nm fn) (i.toE nm fn) p
  | .slo e a ps p => .Subscript (e.toE nm fn) (.Slice (some (a.toE nm fn)) none none ps) p
  | .shi e b ps p => .Subscript (e.toE nm fn) (.Slice none (some (b.toE nm fn)) none ps) p
  | .slh e a b ps p => .Subscript (e.toE nm fn) (.Slice (some (a.toE nm fn)) (some (b.toE nm fn)) none ps) p
  | .disp es p => .List (es.toE nm fn) p
  | .call g e es pn p => .Call (.Name (fn g) pn) (e.toE nm fn :: es.toE nm fn) [] p
  | .bi b e es pn p => .Call (.Name b.name pn) (e.toE nm fn :: es.toE nm fn) [] p
  | .join e ps pa p => .Call (.Attribute (.Constant (.str (Str.ofString "")) 0 ps) (Str.ofString "join") pa) [e.toE nm fn] [] p
  | .split e x _ ps pa p => .Call (.Attribute (e.toE nm fn) (Str.ofString "split") pa) [.Constant (.str (Str.ofString x)) 0 ps] [] p
  | .comp elt tgt pt it _ sc p => .ListComp (elt.toE nm fn) [⟨.Name (nmAt nm tgt) pt, it.toE nm fn, [], 0⟩] sc p
  | .compIf elt tgt pt it c _ sc p => .ListComp (elt.toE nm fn) [⟨.Name (nmAt nm tgt) pt, it.toE nm fn, [c.toE nm fn], 0⟩] sc p
noncomputable def Xs.toE (nm : List Str) (fn : Nat → Str) : Xs → List Expr
  | .nil => []
  | .cons e es => e.toE nm fn :: es.toE nm fn
noncomputable def T.toE (nm : List Str) (fn : Nat → Str) : T → Expr
  | .cmp op l r p => .Compare (l.toE nm fn) [op] [r.toE nm fn] p
  | .call g e es pn p => .Call (.Name (fn g) pn) (e.toE nm fn :: es.toE nm fn) [] p
  | .not t p => .UnaryOp .Not (t.toE nm fn) p
  | .and a b p => .BoolOp .And [a.toE nm fn, b.toE nm fn] p
  | .or a b p => .BoolOp .Or [a.toE nm fn, b.toE nm fn] p
noncomputable def It.toE (nm : List Str) (fn : Nat → Str) : It → Expr
  | .x e => e.toE nm fn
  | .r1 a pn p => .Call (.Name "range" pn) [a.toE nm fn] [] p
  | .r2 a b pn p => .Call (.Name "range" pn) [a.toE nm fn, b.toE nm fn] [] p
  | .r3 a b c pn p => .Call (.Name "range" pn) [a.toE nm fn, b.toE nm fn, c.toE nm fn] [] p
end

/-- what the trees come to, by value -/
noncomputable def mapO {α β : Type} (f : α → Option β) : List α → Option (List β)
  | [] => some []
  | a :: r => match f a with
    | some b => match mapO f r with
      | some bs => some (b :: bs)
      | none => none
    | none => none
noncomputable def filtO {α β : Type} (c : α → Option Bool) (f : α → Option β) : List α → Option (List β)
  | [] => some []
  | a :: r => match c a with
    | some true => (match f a with
      | some b => match filtO c f r with
        | some bs => some (b :: bs)
        | none => none
      | none => none)
    | some false => filtO c f r
    | none => none
noncomputable def Atm.int? : Atm → Option Int
  | .int i => some i
  | .str _ => none
noncomputable def Atm.str? : Atm → Option (List Nat)
  | .str l => some l
  | .int _ => none
noncomputable def intsOf (xs : List Atm) : Option (List Int) := mapO Atm.int? xs
noncomputable def one1 (f : PV → Option PV) : List PV → Option PV
  | [a] => f a
  | _ => none
noncomputable def two2 (f : Int → Int → PV) : List PV → Option PV
  | [a, b] => int2 f a b
  | _ => none
theorem one1_inv {f : PV → Option PV} {ps : List PV} {r : PV} (e : one1 f ps = some r) : ∃ a, ps = [a] ∧ f a = some r := by
  cases ps with
  | nil => cases e
  | cons a q => cases q with
    | nil => exact ⟨a, rfl, e⟩
    | cons _ _ => cases e
theorem two2_inv {f : Int → Int → PV} {ps : List PV} {r : PV} (e : two2 f ps = some r) : ∃ x y, ps = [.int x, .int y] ∧ f x y = r := by
  cases ps with
  | nil => cases e
  | cons a q => cases q with
    | nil => cases e
    | cons b t => cases t with
      | nil => obtain ⟨x, y, rfl, rfl, h⟩ := int2_inv e; exact ⟨x, y, rfl, h⟩
      | cons _ _ => cases e
noncomputable def lenPV : PV → Option PV
  | .list xs => some (.int xs.length)
  | .str l => some (.int l.length)
  | _ => none
noncomputable def listPV : PV → Option PV
  | .list xs => some (.list xs)
  | _ => none
noncomputable def sumPV : PV → Option PV
  | .list xs => match intsOf xs with
    | some ns => some (.int ns.sum)
    | none => none
  | _ => none
noncomputable def biPV (b : Bi) (args : List PV) : Option PV := match b with
  | .len => one1 lenPV args
  | .min => two2 (fun a b => .int (if b < a then b else a)) args
  | .max => two2 (fun a b => .int (if b > a then b else a)) args
  | .list => one1 listPV args
  | .sum => one1 sumPV args
noncomputable def strsOf (xs : List Atm) : Option (List (List Nat)) := mapO Atm.str? xs
noncomputable def joinPV : PV → Option PV
  | .list xs => (strsOf xs).bind fun ls => if ls.flatten.length ≤ lim ∧ ls.length ≤ lim then some (.str ls.flatten) else none
  | _ => none
noncomputable def okB (l : List Nat) : Bool := decide (l.length ≤ lim) && l.all fun c => decide (c < 1114112)
noncomputable def splitPV (l : List Nat) : PV → Option PV
  | .str x => if (l.length == 0) = false ∧ (Txt.split (toStr x) (toStr l)).length ≤ lim ∧ ((Txt.split (toStr x) (toStr l)).all fun y => okB y.cps.toList) = true then
      some (.list ((Txt.split (toStr x) (toStr l)).map fun y => .str y.cps.toList)) else none
  | _ => none
noncomputable def big (x : Int) : Bool := decide (-1099511627776 ≤ x) && decide (x ≤ 1099511627776)
noncomputable def rangeA (a c : Int) (n : Nat) : List Atm := (List.range n).map fun (i : Nat) => .int (a + i * c)
noncomputable def rangePV (a b c : Int) : Option (List Atm) :=
  if big a && big b && (decide (c = 1) || decide (c = -1)) then
    let n := (if c = 1 then b - a else a - b).toNat
    if n ≤ lim then some (rangeA a c n) else none
  else none
noncomputable def itemsPV : PV → Option (List Atm)
  | .list xs => some xs
  | .str l => some (l.map fun c => .str [c])
  | _ => none
noncomputable def capS (σ : Sg) (caps : List Nat) : Sg := (List.range σ.length).map fun i => if caps.contains i then getS σ i else none
noncomputable def onlyA : Option PV → Option PV
  | some (.int i) => some (.int i)
  | some (.str l) => some (.str l)
  | _ => none
abbrev Phi := Nat → List PV → Option PV
mutual
noncomputable def X.ev (Φ : Phi) : X → Sg → Option PV
  | .var i _, σ => getS σ i
  | .int n _, _ => some (.int n)
  | .neg n _ _, _ => some (.int (-n))
  | .str _ l _, _ => some (.str l)
  | .bool b _, _ => some (.bool b)
  | .none _, _ => some .none
  | .gint _ n _, _ => some (.int n)
  | .bin op l r _, σ => match l.ev Φ σ with
    | some a => match r.ev Φ σ with
      | some b => binPV op a b
      | none => none
    | none => none
  | .cmp op l r _, σ => match l.ev Φ σ with
    | some a => match r.ev Φ σ with
      | some b => (cmpPV op a b).map .bool
      | none => none
    | none => none
  | .ite t a b _, σ => match t.ev Φ σ with
    | some true => onlyA (a.ev Φ σ)
    | some false => onlyA (b.ev Φ σ)
    | none => none
  | .idx e i _, σ => match e.ev Φ σ with
    | some a => match i.ev Φ σ with
      | some b => idxPV a b
      | none => none
    | none => none
  | .slo e a _ _, σ => match e.ev Φ σ with
    | some x => match a.ev Φ σ with
      | some (.int i) => slicePV x (some i) none
      | _ => none
    | none => none
  | .shi e b _ _, σ => match e.ev Φ σ with
    | some x => match b.ev Φ σ with
      | some (.int j) => slicePV x none (some j)
      | _ => none
    | none => none
  | .slh e a b _ _, σ => match e.ev Φ σ with
    | some x => match a.ev Φ σ with
      | some (.int i) => (match b.ev Φ σ with
        | some (.int j) => slicePV x (some i) (some j)
        | _ => none)
      | _ => none
    | none => none
  | .disp es _, σ => match es.ev Φ σ with
    | some ps => match mapO PV.atm? ps with
      | some xs => if xs.length ≤ lim then some (.list xs) else none
      | none => none
    | none => none
  | .call g e es _ _, σ => match e.ev Φ σ with
    | some a => match es.ev Φ σ with
      | some ps => Φ g (a :: ps)
      | none => none
    | none => none
  | .bi b e es _ _, σ => match e.ev Φ σ with
    | some a => match es.ev Φ σ with
      | some ps => biPV b (a :: ps)
      | none => none
    | none => none
  | .join e _ _ _, σ => match e.ev Φ σ with
    | some a => joinPV a
    | none => none
  | .split e _ l _ _ _, σ => match e.ev Φ σ with
    | some a => splitPV l a
    | none => none
  | .comp elt tgt _ it caps _ _, σ => match it.ev Φ σ with
    | some xs => match mapO (fun (a : Atm) => (elt.ev Φ (setS (capS σ caps) tgt a.pv)).bind PV.atm?) xs with
      | some ys => if ys.length ≤ lim then some (.list ys) else none
      | none => none
    | none => none
  | .compIf elt tgt _ it c caps _ _, σ => match it.ev Φ σ with
    | some xs => match filtO (fun (a : Atm) => c.ev Φ (setS (capS σ caps) tgt a.pv)) (fun (a : Atm) => (elt.ev Φ (setS (capS σ caps) tgt a.pv)).bind PV.atm?) xs with
      | some ys => if ys.length ≤ lim then some (.list ys) else none
      | none => none
    | none => none
noncomputable def Xs.ev (Φ : Phi) : Xs → Sg → Option (List PV)
  | .nil, _ => some []
  | .cons e es, σ => match e.ev Φ σ with
    | some a => match es.ev Φ σ with
      | some ps => some (a :: ps)
      | none => none
    | none => none
noncomputable def T.ev (Φ : Phi) : T → Sg → Option Bool
  | .cmp op l r _, σ => match l.ev Φ σ with
    | some a => match r.ev Φ σ with
      | some b => cmpPV op a b
      | none => none
    | none => none
  | .call g e es _ _, σ => match e.ev Φ σ with
    | some a => match es.ev Φ σ with
      | some ps => (match Φ g (a :: ps) with
        | some (.bool b) => some b
        | _ => none)
      | none => none
    | none => none
  | .not t _, σ => match t.ev Φ σ with
    | some b => some (!b)
    | none => none
  | .and a b _, σ => match a.ev Φ σ with
    | some true => b.ev Φ σ
    | some false => some false
    | none => none
  | .or a b _, σ => match a.ev Φ σ with
    | some true => some true
    | some false => b.ev Φ σ
    | none => none
noncomputable def It.ev (Φ : Phi) : It → Sg → Option (List Atm)
  | .x e, σ => match e.ev Φ σ with
    | some p => itemsPV p
    | none => none
  | .r1 a _ _, σ => match a.ev Φ σ with
    | some (.int j) => rangePV 0 j 1
    | _ => none
  | .r2 a b _ _, σ => match a.ev Φ σ with
    | some (.int i) => (match b.ev Φ σ with
      | some (.int j) => rangePV i j 1
      | _ => none)
    | _ => none
  | .r3 a b c _ _, σ => match a.ev Φ σ with
    | some (.int i) => (match b.ev Φ σ with
      | some (.int j) => (match c.ev Φ σ with
        | some (.int k) => rangePV i j k
        | _ => none)
      | _ => none)
    | _ => none
end

/-- the names' kinds, as the text's scopes say them -/
noncomputable def relabS (sc fsc : Scope) : Scope :=
  { sc with names := sc.names.map fun (n, k) => if (k == .free && fsc.kind == .function && fsc.names.lookup n == some .cell) then (n, .cell) else (n, k) }
noncomputable def compWf (nm : List Str) (fsc sc : Scope) (tgt : Nat) (caps : List Nat) : Bool :=
  sc.kind == .function && fsc.kind == .function &&
  (caps.all fun i => decide (i < nm.length) && sc.names.lookup (nmAt nm i) == some .free && fsc.names.lookup (nmAt nm i) == some .cell) &&
  (sc.names.all fun x => x.2 != .cell && (x.2 != .free || fsc.names.lookup x.1 == some .cell) && (x.2 != .local || sc.names.lookup x.1 == some .local)) &&
  (decide (tgt < nm.length) && sc.names.lookup (nmAt nm tgt) == some .local && !caps.contains tgt)
noncomputable def isG (sc : Scope) (x : Str) : Bool := sc.names.lookup x == some .globalImplicit
mutual
noncomputable def X.wf (nm : List Str) (fn : Nat → Str) : X → Scope → Bool
  | .var .., _ => true
  | .int .., _ => true
  | .neg .., _ => true
  | .str x l _, _ => decide (Str.ofString x = toStr l) && (decide (l.length ≤ lim) && l.all fun c => decide (c < 1114112))
  | .bool .., _ => true
  | .none .., _ => true
  | .gint x n _, sc => isG sc x && decide ((Str.ofString x, n) = ((Str.ofString "NT_OFFSET" : Str), (256 : Int)) ∨ (Str.ofString x, n) = ((Str.ofString "ENDMARKER" : Str), (0 : Int)))
  | .bin _ l r _, sc => l.wf nm fn sc && r.wf nm fn sc
  | .cmp op l r _, sc => l.wf nm fn sc && r.wf nm fn sc && !behindInMarks op (r.toE nm fn)
  | .ite t a b _, sc => t.wf nm fn sc && a.wf nm fn sc && b.wf nm fn sc
  | .idx e i _, sc => e.wf nm fn sc && i.wf nm fn sc
  | .slo e a _ _, sc => e.wf nm fn sc && a.wf nm fn sc
  | .shi e b _ _, sc => e.wf nm fn sc && b.wf nm fn sc
  | .slh e a b _ _, sc => e.wf nm fn sc && a.wf nm fn sc && b.wf nm fn sc
  | .disp es _, sc => es.wf nm fn sc
  | .call g e es _ _, sc => isG sc (fn g) && e.wf nm fn sc && es.wf nm fn sc
  | .bi b e es _ _, sc => isG sc b.name && e.wf nm fn sc && es.wf nm fn sc
  | .join e _ pa p, sc => e.wf nm fn sc && pa.endLine == p.line
  | .split e x l _ pa p, sc => e.wf nm fn sc && pa.endLine == p.line && decide (Str.ofString x = toStr l) && (decide (l.length ≤ lim) && l.all fun c => decide (c < 1114112))
  | .comp elt tgt _ it caps sc _, fsc => compWf nm fsc sc tgt caps && it.wf nm fn fsc && elt.wf nm fn (relabS sc fsc)
  | .compIf elt tgt _ it c caps sc _, fsc => compWf nm fsc sc tgt caps && it.wf nm fn fsc && elt.wf nm fn (relabS sc fsc) && c.wf nm fn (relabS sc fsc)
noncomputable def Xs.wf (nm : List Str) (fn : Nat → Str) : Xs → Scope → Bool
  | .nil, _ => true
  | .cons e es, sc => e.wf nm fn sc && es.wf nm fn sc
noncomputable def T.wf (nm : List Str) (fn : Nat → Str) : T → Scope → Bool
  | .cmp op l r _, sc => l.wf nm fn sc && r.wf nm fn sc && !behindInMarks op (r.toE nm fn)
  | .call g e es _ _, sc => isG sc (fn g) && e.wf nm fn sc && es.wf nm fn sc
  | .not t _, sc => t.wf nm fn sc
  | .and a b _, sc => a.wf nm fn sc && b.wf nm fn sc
  | .or a b _, sc => a.wf nm fn sc && b.wf nm fn sc
noncomputable def It.wf (nm : List Str) (fn : Nat → Str) : It → Scope → Bool
  | .x e, sc => e.wf nm fn sc
  | .r1 a _ _, sc => isG sc "range" && a.wf nm fn sc
  | .r2 a b _ _, sc => isG sc "range" && a.wf nm fn sc && b.wf nm fn sc
  | .r3 a b c _ _, sc => isG sc "range" && a.wf nm fn sc && b.wf nm fn sc && c.wf nm fn sc
end
theorem X.wf_str {nm : List Str} {fn : Nat → Str} : ∀ x l u1 sc0, X.wf nm fn (.str x l u1) sc0 = (decide (Str.ofString x = toStr l) && (decide (l.length ≤ lim) && l.all fun c => decide (c < 1114112))) := by intros; rfl
theorem X.wf_gint {nm : List Str} {fn : Nat → Str} : ∀ x n u1 sc, X.wf nm fn (.gint x n u1) sc = (isG sc x && decide ((Str.ofString x, n) = ((Str.ofString "NT_OFFSET" : Str), (256 : Int)) ∨ (Str.ofString x, n) = ((Str.ofString "ENDMARKER" : Str), (0 : Int)))) := by intros; rfl
theorem X.wf_bin {nm : List Str} {fn : Nat → Str} : ∀ u1 l r u2 sc, X.wf nm fn (.bin u1 l r u2) sc = (l.wf nm fn sc && r.wf nm fn sc) := by intros; rfl
theorem X.wf_cmp {nm : List Str} {fn : Nat → Str} : ∀ op l r u1 sc, X.wf nm fn (.cmp op l r u1) sc = (l.wf nm fn sc && r.wf nm fn sc && !behindInMarks op (r.toE nm fn)) := by intros; rfl
theorem X.wf_ite {nm : List Str} {fn : Nat → Str} : ∀ t a b u1 sc, X.wf nm fn (.ite t a b u1) sc = (t.wf nm fn sc && a.wf nm fn sc && b.wf nm fn sc) := by intros; rfl
theorem X.wf_idx {nm : List Str} {fn : Nat → Str} : ∀ e i u1 sc, X.wf nm fn (.idx e i u1) sc = (e.wf nm fn sc && i.wf nm fn sc) := by intros; rfl
theorem X.wf_slo {nm : List Str} {fn : Nat → Str} : ∀ e a u1 u2 sc, X.wf nm fn (.slo e a u1 u2) sc = (e.wf nm fn sc && a.wf nm fn sc) := by intros; rfl
theorem X.wf_shi {nm : List Str} {fn : Nat → Str} : ∀ e b u1 u2 sc, X.wf nm fn (.shi e b u1 u2) sc = (e.wf nm fn sc && b.wf nm fn sc) := by intros; rfl
theorem X.wf_slh {nm : List Str} {fn : Nat → Str} : ∀ e a b u1 u2 sc, X.wf nm fn (.slh e a b u1 u2) sc = (e.wf nm fn sc && a.wf nm fn sc && b.wf nm fn sc) := by intros; rfl
theorem X.wf_disp {nm : List Str} {fn : Nat → Str} : ∀ es u1 sc, X.wf nm fn (.disp es u1) sc = (es.wf nm fn sc) := by intros; rfl
theorem X.wf_call {nm : List Str} {fn : Nat → Str} : ∀ g e es u1 u2 sc, X.wf nm fn (.call g e es u1 u2) sc = (isG sc (fn g) && e.wf nm fn sc && es.wf nm fn sc) := by intros; rfl
theorem X.wf_bi {nm : List Str} {fn : Nat → Str} : ∀ b e es u1 u2 sc, X.wf nm fn (.bi b e es u1 u2) sc = (isG sc b.name && e.wf nm fn sc && es.wf nm fn sc) := by intros; rfl
theorem X.wf_join {nm : List Str} {fn : Nat → Str} : ∀ e u1 pa p sc, X.wf nm fn (.join e u1 pa p) sc = (e.wf nm fn sc && pa.endLine == p.line) := by intros; rfl
theorem X.wf_split {nm : List Str} {fn : Nat → Str} : ∀ e x l u1 pa p sc, X.wf nm fn (.split e x l u1 pa p) sc = (e.wf nm fn sc && pa.endLine == p.line && decide (Str.ofString x = toStr l) && (decide (l.length ≤ lim) && l.all fun c => decide (c < 1114112))) := by intros; rfl
theorem X.wf_comp {nm : List Str} {fn : Nat → Str} : ∀ elt tgt u1 it caps sc u2 fsc, X.wf nm fn (.comp elt tgt u1 it caps sc u2) fsc = (compWf nm fsc sc tgt caps && it.wf nm fn fsc && elt.wf nm fn (relabS sc fsc)) := by intros; rfl
theorem X.wf_compIf {nm : List Str} {fn : Nat → Str} : ∀ elt tgt u1 it c caps sc u2 fsc, X.wf nm fn (.compIf elt tgt u1 it c caps sc u2) fsc = (compWf nm fsc sc tgt caps && it.wf nm fn fsc && elt.wf nm fn (relabS sc fsc) && c.wf nm fn (relabS sc fsc)) := by intros; rfl
theorem Xs.wf_cons {nm : List Str} {fn : Nat → Str} : ∀ e es sc, Xs.wf nm fn (.cons e es) sc = (e.wf nm fn sc && es.wf nm fn sc) := by intros; rfl
theorem T.wf_cmp {nm : List Str} {fn : Nat → Str} : ∀ op l r u1 sc, T.wf nm fn (.cmp op l r u1) sc = (l.wf nm fn sc && r.wf nm fn sc && !behindInMarks op (r.toE nm fn)) := by intros; rfl
theorem T.wf_call {nm : List Str} {fn : Nat → Str} : ∀ g e es u1 u2 sc, T.wf nm fn (.call g e es u1 u2) sc = (isG sc (fn g) && e.wf nm fn sc && es.wf nm fn sc) := by intros; rfl
theorem T.wf_not {nm : List Str} {fn : Nat → Str} : ∀ t u1 sc, T.wf nm fn (.not t u1) sc = (t.wf nm fn sc) := by intros; rfl
theorem T.wf_and {nm : List Str} {fn : Nat → Str} : ∀ a b u1 sc, T.wf nm fn (.and a b u1) sc = (a.wf nm fn sc && b.wf nm fn sc) := by intros; rfl
theorem T.wf_or {nm : List Str} {fn : Nat → Str} : ∀ a b u1 sc, T.wf nm fn (.or a b u1) sc = (a.wf nm fn sc && b.wf nm fn sc) := by intros; rfl
theorem It.wf_x {nm : List Str} {fn : Nat → Str} : ∀ e sc, It.wf nm fn (.x e) sc = (e.wf nm fn sc) := by intros; rfl
theorem It.wf_r1 {nm : List Str} {fn : Nat → Str} : ∀ a u1 u2 sc, It.wf nm fn (.r1 a u1 u2) sc = (isG sc "range" && a.wf nm fn sc) := by intros; rfl
theorem It.wf_r2 {nm : List Str} {fn : Nat → Str} : ∀ a b u1 u2 sc, It.wf nm fn (.r2 a b u1 u2) sc = (isG sc "range" && a.wf nm fn sc && b.wf nm fn sc) := by intros; rfl
theorem It.wf_r3 {nm : List Str} {fn : Nat → Str} : ∀ a b c u1 u2 sc, It.wf nm fn (.r3 a b c u1 u2) sc = (isG sc "range" && a.wf nm fn sc && b.wf nm fn sc && c.wf nm fn sc) := by intros; rfl
end Mine
end
section
open PySem PySem.W PyProof.Rows PySem.Calls
set_option Elab.async false
set_option maxRecDepth 100000
namespace Mine

theorem getS_set (σ : Sg) (t i : Nat) (p : PV) : getS (setS σ t p) i = if i = t ∧ t < σ.length then some p else getS σ i := by
  unfold getS setS
  rw [List.getD_eq_getElem?_getD, List.getD_eq_getElem?_getD, List.getElem?_set]
  by_cases h : t = i
  · subst h
    by_cases h2 : t < σ.length
    · simp [h2]
    · simp [h2]
  · have : ¬ i = t := fun e => h e.symm
    simp [h, this]
theorem capS_length (σ : Sg) (caps : List Nat) : (capS σ caps).length = σ.length := by simp [capS]
theorem getS_cap {σ : Sg} {caps : List Nat} {i : Nat} {p : PV} (h : getS (capS σ caps) i = some p) : i ∈ caps ∧ getS σ i = some p := by
  unfold getS capS at h
  rw [List.getD_eq_getElem?_getD, List.getElem?_map] at h
  by_cases hi : i < σ.length
  · rw [List.getElem?_range hi] at h
    simp only [Option.map_some, Option.getD_some] at h
    split at h
    · rename_i hc
      exact ⟨by simpa using hc, h⟩
    · cases h
  · rw [List.getElem?_eq_none (by simpa using hi)] at h
    cases h

/-- the state of the run, as an expression meets it -/
structure CS (n : Nat) (D : List DefItem) (A : Around) (env : Env) (nm : List Str) (σ : Sg) (s : Shared) : Prop where
  ctx : CtxOk A n
  gw : GW D s.heap
  cells : ∀ x, env.kindOf x = some .cell → ∃ c, env.cells.lookup x = some c
  ok : EnvOk env nm σ s.heap
theorem CS.ext {n : Nat} {D : List DefItem} {A : Around} {env : Env} {nm : List Str} {σ : Sg} {s s' : Shared} (C : CS n D A env nm σ s) (e : Ext s s') : CS n D A env nm σ s' :=
  ⟨C.ctx, C.gw.keeps e.keep, C.cells, C.ok.keeps e.keep⟩

inductive IterOk (prog : Program) (w : World) (env : Env) (nm : List Str) (s s₂ : Shared) (itv : Value) (xs : List Atm) (src : Option Nat) : Prop
  | mk (I : Addr) (fp wr : List Addr) (P : Nat → Value → Prop) (St : Nat → Heap → Prop) (e : itv = .ref I) (W : ∀ A' : Around, A'.handled = none → Walks prog w A' I fp wr xs.length P St) (hst : St 0 s₂.heap) (hfp : ∀ b ∈ fp, ∃ o, s₂.heap.get? b = some o)
    (hwr : ∀ b ∈ wr, s.heap.get? b = none) (hP : ∀ i v, i < xs.length → P i v → ∃ a, xs[i]? = some a ∧ AIs v a) (hE : Ext s s₂) (hsrc : ∀ b ∈ fp, s.heap.get? b = none ∨ ∃ i x, src = some i ∧ nm[i]? = some x ∧ HoldsV env s.heap x (.ref b))
    (hex : ∀ i h, St i h → ∀ b ∈ fp, ∃ o, h.get? b = some o) : IterOk prog w env nm s s₂ itv xs src

theorem closure_go {env : Env} : ∀ (names : List (Str × NameKind)) (acc : List (Str × Addr)), (∀ x ∈ names, x.2 = .free → ∃ c, env.cells.lookup x.1 = some c) → (∀ n c, acc.lookup n = some c → env.cells.lookup n = some c) →
    ∃ cl, (forIn names acc (fun (x : Str × NameKind) (cs : List (Str × Addr)) => if (x.2 == .free) = true then (do let a ← cellOf env x.1; pure (ForInStep.yield ((x.1, a) :: cs))) else pure (ForInStep.yield cs)) : Sem (List (Str × Addr))) = pure cl ∧
      (∀ n c, cl.lookup n = some c → env.cells.lookup n = some c) ∧ (∀ x ∈ names, x.2 = .free → (cl.lookup x.1).isSome = true) ∧ (∀ n, (acc.lookup n).isSome = true → (cl.lookup n).isSome = true)
  | [], acc, _, h => ⟨acc, by rw [List.forIn_nil], h, (fun x hx => by cases hx), fun _ e => e⟩
  | x :: r, acc, hf, h => by
    rw [List.forIn_cons]
    by_cases hk : x.2 = .free
    · obtain ⟨c, hc⟩ := hf x List.mem_cons_self hk
      have e1 : cellOf env x.1 = pure c := by unfold cellOf; rw [hc]
      obtain ⟨cl, e2, h1, h2, h3⟩ := closure_go r ((x.1, c) :: acc) (fun y hy => hf y (List.mem_cons_of_mem _ hy)) (fun n d hd => by
        rw [List.lookup_cons] at hd
        cases hb : n == x.1 with
        | true => rw [hb] at hd; cases hd; rw [beq_iff_eq.mp hb]; exact hc
        | false => rw [hb] at hd; exact h n d hd)
      refine ⟨cl, ?_, h1, fun y hy he => ?_, fun n hn => h3 n ?_⟩
      · rw [hk, e1]
        simpa using e2
      · rcases List.mem_cons.mp hy with rfl | hy
        · exact h3 y.1 (by rw [List.lookup_cons]; simp)
        · exact h2 y hy he
      · rw [List.lookup_cons]
        cases n == x.1 <;> simp_all
    · obtain ⟨cl, e2, h1, h2, h3⟩ := closure_go r acc (fun y hy => hf y (List.mem_cons_of_mem _ hy)) h
      refine ⟨cl, ?_, h1, fun y hy he => ?_, h3⟩
      · have : (x.2 == NameKind.free) = false := by simpa using hk
        rw [this]
        simpa using e2
      · rcases List.mem_cons.mp hy with rfl | hy
        · exact absurd he hk
        · exact h2 y hy he
theorem closure_eq {env : Env} {sc : Scope} (hf : ∀ x ∈ sc.names, x.2 = .free → ∃ c, env.cells.lookup x.1 = some c) :
    ∃ cl, closureFor sc env = pure cl ∧ (∀ n c, cl.lookup n = some c → env.cells.lookup n = some c) ∧ (∀ x ∈ sc.names, x.2 = .free → (cl.lookup x.1).isSome = true) := by
  obtain ⟨cl, e, h1, h2, _⟩ := closure_go sc.names [] hf (fun _ _ h => nomatch h)
  refine ⟨cl, ?_, h1, h2⟩
  unfold closureFor
  simp only [bind_pure]
  exact e
theorem lookup_mem {names : List (Str × NameKind)} {x : Str} {k : NameKind} (h : names.lookup x = some k) : (x, k) ∈ names := by
  induction names with
  | nil => cases h
  | cons y r ih =>
    obtain ⟨n, k'⟩ := y
    rw [List.lookup_cons] at h
    cases hb : x == n with
    | true => rw [hb] at h; cases h; rw [beq_iff_eq.mp hb]; exact List.mem_cons_self
    | false => rw [hb] at h; exact List.mem_cons_of_mem _ (ih h)
theorem relab_cell {sc fsc : Scope} {x : Str} (h1 : sc.names.lookup x = some .free) (h2 : fsc.names.lookup x = some .cell) (h3 : fsc.kind = .function) : (relabS sc fsc).names.lookup x = some .cell := by
  unfold relabS
  dsimp only
  generalize sc.names = names at h1
  induction names with
  | nil => cases h1
  | cons y r ih =>
    obtain ⟨n, k⟩ := y
    rw [List.map_cons]
    by_cases hx : x = n
    · subst hx
      rw [List.lookup_cons] at h1
      simp at h1
      subst h1
      simp [h2, h3]
    · have hb : (x == n) = false := by simpa using hx
      rw [List.lookup_cons, hb] at h1
      have ih' := ih h1
      show List.lookup x ((if _ then (n, NameKind.cell) else (n, k)) :: _) = _
      split <;> (rw [List.lookup_cons, hb]; exact ih')
theorem relab_local {sc : Scope} {env : Env} {x : Str} (h1 : sc.names.lookup x = some .local) : (relabS sc env.scope).names.lookup x = some .local := lookup_relabel_local (env := env) h1

theorem compWf_facts {nm : List Str} {fsc sc : Scope} {tgt : Nat} {caps : List Nat} (h : compWf nm fsc sc tgt caps = true) :
    sc.kind = .function ∧ fsc.kind = .function ∧ (∀ i ∈ caps, i < nm.length ∧ sc.names.lookup (nmAt nm i) = some .free ∧ fsc.names.lookup (nmAt nm i) = some .cell) ∧
    (∀ x ∈ sc.names, x.2 ≠ .cell ∧ (x.2 = .free → fsc.names.lookup x.1 = some .cell) ∧ (x.2 = .local → sc.names.lookup x.1 = some .local)) ∧ tgt < nm.length ∧ sc.names.lookup (nmAt nm tgt) = some .local ∧ tgt ∉ caps := by
  unfold compWf at h
  simp only [Bool.and_eq_true, beq_iff_eq, List.all_eq_true, decide_eq_true_eq, bne_iff_ne, ne_eq, Bool.or_eq_true, Bool.not_eq_true', List.contains_eq_mem, decide_eq_false_iff_not] at h
  obtain ⟨⟨⟨⟨h1, h2⟩, h3⟩, h4⟩, ⟨h5, h6⟩, h7⟩ := h
  refine ⟨h1, h2, fun i hi => ⟨(h3 i hi).1.1, (h3 i hi).1.2, (h3 i hi).2⟩, fun x hx => ⟨(h4 x hx).1.1, fun e => ?_, fun e => ?_⟩, h5, h6, h7⟩
  · rcases (h4 x hx).1.2 with q | q
    · exact absurd e q
    · exact q
  · rcases (h4 x hx).2 with q | q
    · exact absurd e q
    · exact q
theorem nmAt_get {nm : List Str} {i : Nat} (h : i < nm.length) : nm[i]? = some (nmAt nm i) := by
  unfold nmAt
  rw [List.getD_eq_getElem?_getD]
  simp [h]

section
variable {prog : Program} {w : World} {A : Around} {E : Value → Shared → Prop} {s : Shared} {n : Nat} {D : List DefItem} {env : Env} {nm : List Str} {σ : Sg}

theorem comp_use {use : Option (Value → Sem Unit)} {elt iterE : Expr} {ifs : List Expr} {px p : Pos} {sc : Scope} {caps : List Nat} {tgt : Nat} {xs ys : List Atm} {c : Atm → Option Bool} {f : Atm → Option Atm} {src : Option Nat} {Q : Value → Shared → Prop}
    (wf : compWf nm env.scope sc tgt caps = true) (C : CS n D A env nm σ s)
    (hiter : ∀ Q : Value → Shared → Prop, (∀ itv s₂, IterOk prog w env nm s s₂ itv xs src → Q itv s₂) → wpAny (model prog w) A (eval iterE env) (fun xv s₁ => wpAny (model prog w) A (pyIter xv) Q E s₁) E s)
    (hy : filtO c f xs = some ys) (hlen : ys.length ≤ lim)
    (htest : ∀ (a : Atm) (b : Bool) (cenv : Env) (s' : Shared) (Q : Bool → Shared → Prop) (E' : Value → Shared → Prop), c a = some b → cenv.scope = relabS sc env.scope → CS n D A cenv nm (setS (capS σ caps) tgt a.pv) s' → (∀ s'', Ext s' s'' → Q b s'') →
      wpAny (model prog w) A (forIn ifs true fun c r => if r = true then do let ok ← isTrue c cenv (eval c cenv); pure (ForInStep.yield ok) else pure (ForInStep.yield r)) Q E' s')
    (helt : ∀ (a b : Atm) (cenv : Env) (s' : Shared) (Q : Value → Shared → Prop) (E' : Value → Shared → Prop), f a = some b → cenv.scope = relabS sc env.scope → CS n D A cenv nm (setS (capS σ caps) tgt a.pv) s' → (∀ v s'', Ext s' s'' → AIs v b → Q v s'') →
      wpAny (model prog w) A (eval elt cenv) Q E' s')
    (hQ : ∀ acc L s' m, Ext s s' → VIs s'.heap (.ref acc) (.list ys) → s.heap.get? acc = none → s.heap.get? L = none → acc ≠ L → s'.heap.Ns L m → compPost (model prog w) A E use Q (.ref acc) L (.ok .next) s') (hs : ∀ x, foldedSetIterable iterE env x = pure x) :
    wpAny (model prog w) A (comprehension (.ListComp elt [⟨.Name (nmAt nm tgt) px, iterE, ifs, 0⟩] sc p) sc env (firstIterPos [⟨.Name (nmAt nm tgt) px, iterE, ifs, 0⟩] p) (newList []) false (eval iterE env) use) Q E s := by
  obtain ⟨hk, hfk, hcap, hnames, htgt, hloc, htc⟩ := compWf_facts wf
  have hcells : ∀ x ∈ sc.names, x.2 = .free → ∃ c, env.cells.lookup x.1 = some c := fun x hx e => C.cells x.1 ((hnames x hx).2.1 e)
  obtain ⟨cl, hcl, hcl1, hcl2⟩ := closure_eq hcells
  refine wpAny_comprehension_free (cl := cl) rfl hs hcl hk (fun x hx => (hnames x hx).2.2) ?_
  refine hiter _ fun itv s₂ hI => ?_
  obtain ⟨I, fp, wr, P, St, rfl, W, hst, hfp, hwr, hP, hE, hsrc, _⟩ := hI
  have W' := W A C.ctx.handled
  refine wpAny_newList ?_ (by decide)
  refine wpAny_newFunctionEnv (fun x hx => (hnames x hx).1) (fun _ h => nomatch h) (fun h' hn hsb => ?_) hk
  -- the comprehension's own frame and list
  have hacc : s₂.heap.get? s₂.heap.objs.size = none := fresh_new _ rfl
  have hE3 : Ext s₂ { s₂ with heap := h' } := ⟨fun b o e => by
    have e1 : (s₂.heap.push { cls := .type "list", data := .seq #[] }).get? b = some o := Heap.get?_push_of_some _ e
    have e2 : ((s₂.heap.push { cls := .type "list", data := .seq #[] }).push { cls := .type "dict", data := .dict #[] }).get? b = some o := Heap.get?_push_of_some _ e1
    exact (hsb.2 b (Nat.ne_of_lt (Heap.lt_size e1))).trans e2, rfl, .refl _⟩
  have hCn : (s₂.heap.push { cls := .type "list", data := .seq #[] }).get? (s₂.heap.push { cls := .type "list", data := .seq #[] }).objs.size = none := by
    cases q : (s₂.heap.push { cls := .type "list", data := .seq #[] }).get? (s₂.heap.push { cls := .type "list", data := .seq #[] }).objs.size with
    | none => rfl
    | some o => exact absurd (Heap.lt_size q) (Nat.lt_irrefl _)
  have haccL : h'.PlainList s₂.heap.objs.size #[] := ⟨0, by
    have e1 : (s₂.heap.push { cls := .type "list", data := .seq #[] }).get? s₂.heap.objs.size = some { cls := .type "list", data := .seq #[] } := Heap.get?_push_size _ rfl
    have e2 := Heap.get?_push_of_some (h := s₂.heap.push { cls := .type "list", data := .seq #[] }) { cls := .type "dict", data := .dict #[] } e1
    exact (hsb.2 _ (Nat.ne_of_lt (Heap.lt_size e1))).trans e2⟩
  have hCs₂ : s₂.heap.get? (s₂.heap.push { cls := .type "list", data := .seq #[] }).objs.size = none := by
    cases q : s₂.heap.get? (s₂.heap.push { cls := .type "list", data := .seq #[] }).objs.size with
    | none => rfl
    | some o => rw [Heap.get?_push_of_some _ q] at hCn; cases hCn
  have hneC : s₂.heap.objs.size ≠ (s₂.heap.push { cls := .type "list", data := .seq #[] }).objs.size := by rw [Heap.size_push]; omega
  generalize hCdef : (s₂.heap.push { cls := .type "list", data := .seq #[] }).objs.size = L at *
  generalize hAdef : s₂.heap.objs.size = acc at *
  have hsacc : s.heap.get? acc = none := by
    cases q : s.heap.get? acc with
    | none => rfl
    | some o => have := hE.keep _ _ q; rw [hacc] at this; cases this
  have hsL : s.heap.get? L = none := by
    cases q : s.heap.get? L with
    | none => rfl
    | some o => have := hE.keep _ _ q; rw [hCs₂] at this; cases this
  have hfpacc : acc ∉ fp := fun h => by obtain ⟨o, ho⟩ := hfp acc h; rw [hacc] at ho; cases ho
  have hfpL : L ∉ fp := fun h => by obtain ⟨o, ho⟩ := hfp L h; rw [hCs₂] at ho; cases ho
  -- the loop
  let cenv : Env := { scope := relabel sc env, locals := L, globals := env.globals, cells := cl, qual := env.qual, func := none, code := env.code, frame := env.frame, builtins := env.builtins }
  have hsc : cenv.scope = relabS sc env.scope := rfl
  let Inv : Nat → Shared → Prop := fun i s' => Ext s s' ∧ St i s'.heap ∧ (∃ m, s'.heap.Ns L m) ∧ ∃ vs ys1 ys2, s'.heap.PlainList acc vs ∧ AllIs vs.toList ys1 ∧ filtO c f (xs.drop i) = some ys2 ∧ ys = ys1 ++ ys2
  have key : ∀ s₅ : Shared, Inv 0 s₅ → codeAny (model prog w) A (.compLoop (.ListComp elt [⟨.Name (nmAt nm tgt) px, iterE, ifs, 0⟩] sc p) 0 (.ref I) (.ref acc) cenv)
      (compPost (model prog w) A E use Q (.ref acc) cenv.locals) s₅ := by
    intro s₅ h5
    refine codeAny_compLoop_tests (fun k s' => ∃ i, i ≤ xs.length ∧ k = xs.length + 1 - i ∧ Inv i s') ?_ (xs.length + 1) ⟨0, Nat.zero_le _, rfl, h5⟩
    rintro k s' ⟨i, hi, rfl, hEx, hSt, ⟨m, hNs⟩, vs, ys1, ys2, hvs, hA, hf, hys⟩
    by_cases hlt : i < xs.length
    · refine W'.item i s' _ _ hlt hSt fun v h₁ tk hPv hSt₁ hk₁ => ?_
      obtain ⟨a, ha, hva⟩ := hP i v hlt hPv
      have hdrop : xs.drop i = a :: xs.drop (i + 1) := by
        rw [List.drop_eq_getElem_cons hlt]
        have : xs[i] = a := by rw [List.getElem?_eq_getElem hlt] at ha; exact Option.some.inj ha
        rw [this]
      have hNs₁ : h₁.Ns L m := let ⟨o, es, ep, ho, r⟩ := hNs; ⟨o, es, ep, hk₁ _ _ (fun hw => hfpL (W'.sub _ hw)) ho, r⟩
      have hvs₁ : h₁.PlainList acc vs := let ⟨q, hq⟩ := hvs; ⟨q, hk₁ _ _ (fun hw => hfpacc (W'.sub _ hw)) hq⟩
      have hEx₁ : ∀ b o, s.heap.get? b = some o → h₁.get? b = some o := fun b o e => hk₁ b o (fun hw => by rw [hwr b hw] at e; cases e) (hEx.keep b o e)
      refine wpAny_assign_Name (wpAny_storeName_local (env := cenv) (relab_local (env := env) hloc) hNs₁ (fun h₂ hn₂ hs₂ => ?_) (by
        show (((relabel sc env).kind == .class) || ((relabel sc env).kind == .module && _)) = false
        have : (relabel sc env).kind = .function := hk
        rw [this]; rfl))
      have hEx₂ : Ext s { s' with heap := h₂, toks := tk + 1 } := ⟨fun b o e => (hs₂.2 b (fun q => by rw [q, hsL] at e; cases e)).trans (hEx₁ b o e), hEx.os, hEx.gens⟩
      have hSt₂ : St (i + 1) h₂ := W'.frame _ _ _ hSt₁ fun b hb o e => (hs₂.2 b fun q => hfpL ((show b = L from q) ▸ hb)).trans e
      have hvs₂ : h₂.PlainList acc vs := let ⟨q, hq⟩ := hvs₁; ⟨q, (hs₂.2 _ hneC).trans hq⟩
      have C₂ : CS n D A cenv nm (setS (capS σ caps) tgt a.pv) { s' with heap := h₂, toks := tk + 1 } := by
        refine ⟨C.ctx, C.gw.keeps hEx₂.keep, fun x hx => ?_, ⟨hk, C.ok.gl, C.ok.bl, C.ok.dbg, fun j q hq => ?_⟩⟩
        rotate_left
        · rw [getS_set] at hq
          split at hq
          · rename_i hc
            obtain ⟨rfl, _⟩ := hc
            cases hq
            exact ⟨_, v, nmAt_get htgt, .inl ⟨relab_local (env := env) hloc, _, hn₂, by simp⟩, hva.vis _⟩
          · obtain ⟨hj, hq'⟩ := getS_cap hq
            obtain ⟨x, u, hx, hh, hu⟩ := C.ok.var j q hq'
            obtain ⟨hjl, hj1, hj2⟩ := hcap j hj
            have hxe : x = nmAt nm j := by rw [nmAt_get hjl] at hx; exact (Option.some.inj hx).symm
            subst hxe
            refine ⟨_, u, hx, ?_, hu.keeps hEx₂.keep⟩
            rcases hh with ⟨q1, _⟩ | ⟨_, cc, hcc, hcell⟩
            · have : env.kindOf (nmAt nm j) = some .cell := hj2
              rw [this] at q1; cases q1
            · refine .inr ⟨relab_cell hj1 hj2 hfk, cc, ?_, hcell.keeps hEx₂.keep⟩
              have := hcl2 (nmAt nm j, .free) (lookup_mem hj1) rfl
              obtain ⟨c', hc'⟩ := Option.isSome_iff_exists.mp this
              have h2 := hcl1 _ _ hc'
              rw [hcc] at h2; cases h2
              exact hc'
        · have hx' : (relabS sc env.scope).names.lookup x = some .cell := hx
          have hm := lookup_mem hx'
          unfold relabS at hm
          obtain ⟨⟨n', k'⟩, hm1, hm2⟩ := List.mem_map.mp hm
          by_cases hc : (k' == NameKind.free && env.scope.kind == ScopeKind.function && List.lookup n' env.scope.names == some NameKind.cell) = true
          · have hm3 : (n', NameKind.cell) = (x, NameKind.cell) := by
              have : (if (k' == NameKind.free && env.scope.kind == ScopeKind.function && List.lookup n' env.scope.names == some NameKind.cell) = true then (n', NameKind.cell) else (n', k')) = (x, NameKind.cell) := hm2
              rw [if_pos hc] at this
              exact this
            cases hm3
            simp only [Bool.and_eq_true, beq_iff_eq] at hc
            exact Option.isSome_iff_exists.mp (hcl2 _ hm1 hc.1.1)
          · have hm3 : (n', k') = (x, NameKind.cell) := by
              have : (if (k' == NameKind.free && env.scope.kind == ScopeKind.function && List.lookup n' env.scope.names == some NameKind.cell) = true then (n', NameKind.cell) else (n', k')) = (x, NameKind.cell) := hm2
              rw [if_neg hc] at this
              exact this
            cases hm3
            exact absurd rfl (hnames _ hm1).1
      rw [hdrop] at hf
      unfold filtO at hf
      -- the tests
      cases hca : c a with
      | none => rw [hca] at hf; cases hf
      | some b =>
        refine htest a b cenv _ _ _ hca hsc C₂ fun s₃ hE₃ => ?_
        cases b with
        | false =>
          rw [hca] at hf
          simp only [Bool.false_eq_true, if_false]
          refine ⟨xs.length + 1 - (i + 1), cnt_lt hlt, i + 1, hlt, rfl, hEx₂.trans hE₃, W'.frame _ _ _ hSt₂ fun b _ o e => hE₃.keep b o e, ⟨_, hn₂.keeps hE₃.keep⟩, vs, ys1, ys2, let ⟨q, hq⟩ := hvs₂; ⟨q, hE₃.keep _ _ hq⟩, hA, hf, hys⟩
        | true =>
          rw [hca] at hf
          simp only [if_true]
          cases hfa : f a with
          | none => rw [hfa] at hf; cases hf
          | some y =>
            rw [hfa] at hf
            dsimp only at hf
            cases hfr : filtO c f (xs.drop (i + 1)) with
            | none => rw [hfr] at hf; cases hf
            | some yr =>
              rw [hfr] at hf
              cases hf
              refine helt a y cenv _ _ _ hfa hsc (C₂.ext hE₃) fun u s₄ hE₄ hu => ?_
              have hvs₄ : s₄.heap.PlainList acc vs := let ⟨q, hq⟩ := hvs₂; ⟨q, hE₄.keep _ _ (hE₃.keep _ _ hq)⟩
              have hsz : vs.size ≤ sizeLine := by
                have h1 := hA.length
                rw [hys, List.length_append] at hlen
                have h2 : vs.toList.length = vs.size := Array.length_toList
                exact Nat.le_trans (by omega) lim_line
              refine wpAny_list_append_plain hvs₄ (fun h₅ hp₅ hs₅ => ?_) hsz
              have hE₂₄ := hE₃.trans hE₄
              refine ⟨xs.length + 1 - (i + 1), cnt_lt hlt, i + 1, hlt, rfl, ?_, ?_, ?_, vs.push u, ys1 ++ [y], yr, hp₅, ?_, hfr, by rw [hys, List.append_assoc]; rfl⟩
              · have := hEx₂.trans hE₂₄
                exact ⟨fun b o e => (hs₅.2 b (fun q => by rw [q, hsacc] at e; cases e)).trans (this.keep b o e), this.os, this.gens⟩
              · exact W'.frame _ _ _ hSt₂ fun b hb o e => (hs₅.2 b (fun q => hfpacc (q ▸ hb))).trans (hE₂₄.keep b o e)
              · have : s₄.heap.Ns L _ := hn₂.keeps hE₂₄.keep
                exact ⟨_, this.sameBut hs₅ (fun q => hneC q.symm)⟩
              · rw [Array.toList_push]
                exact hA.append (.cons hu .nil)
    · have hin : i = xs.length := at_end hi hlt
      subst hin
      refine W'.done s' _ _ hSt fun h₁ tk hk₁ => ?_
      have hNs₁ : h₁.Ns L m := let ⟨o, es, ep, ho, r⟩ := hNs; ⟨o, es, ep, hk₁ _ _ (fun hw => hfpL (W'.sub _ hw)) ho, r⟩
      have hvs₁ : h₁.PlainList acc vs := let ⟨q, hq⟩ := hvs; ⟨q, hk₁ _ _ (fun hw => hfpacc (W'.sub _ hw)) hq⟩
      have hEx₁ : ∀ b o, s.heap.get? b = some o → h₁.get? b = some o := fun b o e => hk₁ b o (fun hw => by rw [hwr b hw] at e; cases e) (hEx.keep b o e)
      rw [List.drop_length] at hf
      cases hf
      rw [List.append_nil] at hys
      subst hys
      obtain ⟨q, hq⟩ := hvs₁
      exact hQ acc L _ m ⟨hEx₁, hEx.os, hEx.gens⟩ (.list (vs := vs.toList) ⟨_, q, hq, rfl, by simp⟩ hA hlen) hsacc hsL hneC hNs₁
  have base : Inv 0 { s₂ with heap := h' } := by
    refine ⟨hE.trans hE3, W'.frame _ _ _ hst fun b hb o e => hE3.keep b o e, ⟨_, hn⟩, #[], [], ys, haccL, .nil, by rw [List.drop_zero]; exact hy, rfl⟩
  refine codeAny_compStart_list ?_ ?_
  · exact key _ base
  · refine W'.self 0 _ _ _ base.2.1 ?_
    exact key _ base
theorem comp_core {elt iterE : Expr} {ifs : List Expr} {px p : Pos} {sc : Scope} {caps : List Nat} {tgt : Nat} {xs ys : List Atm} {c : Atm → Option Bool} {f : Atm → Option Atm} {src : Option Nat} {Q : Value → Shared → Prop}
    (wf : compWf nm env.scope sc tgt caps = true) (C : CS n D A env nm σ s)
    (hiter : ∀ Q : Value → Shared → Prop, (∀ itv s₂, IterOk prog w env nm s s₂ itv xs src → Q itv s₂) → wpAny (model prog w) A (eval iterE env) (fun xv s₁ => wpAny (model prog w) A (pyIter xv) Q E s₁) E s)
    (hy : filtO c f xs = some ys) (hlen : ys.length ≤ lim)
    (htest : ∀ (a : Atm) (b : Bool) (cenv : Env) (s' : Shared) (Q : Bool → Shared → Prop) (E' : Value → Shared → Prop), c a = some b → cenv.scope = relabS sc env.scope → CS n D A cenv nm (setS (capS σ caps) tgt a.pv) s' → (∀ s'', Ext s' s'' → Q b s'') →
      wpAny (model prog w) A (forIn ifs true fun c r => if r = true then do let ok ← isTrue c cenv (eval c cenv); pure (ForInStep.yield ok) else pure (ForInStep.yield r)) Q E' s')
    (helt : ∀ (a b : Atm) (cenv : Env) (s' : Shared) (Q : Value → Shared → Prop) (E' : Value → Shared → Prop), f a = some b → cenv.scope = relabS sc env.scope → CS n D A cenv nm (setS (capS σ caps) tgt a.pv) s' → (∀ v s'', Ext s' s'' → AIs v b → Q v s'') →
      wpAny (model prog w) A (eval elt cenv) Q E' s')
    (hQ : ∀ v s', Ext s s' → VIs s'.heap v (.list ys) → Fresh s v → Q v s') (hs : ∀ x, foldedSetIterable iterE env x = pure x) :
    wpAny (model prog w) A (eval (.ListComp elt [⟨.Name (nmAt nm tgt) px, iterE, ifs, 0⟩] sc p) env) Q E s := by
  rw [eval_ListComp]
  refine comp_use (use := none) wf C hiter hy hlen htest helt (fun acc L s' m hE hv hacc hL hne hn => ?_) hs
  refine ⟨m, hn, fun h₂ hs₂ => ?_⟩
  refine hQ _ _ ⟨fun b o e => (hs₂.2 b (fun q => by rw [q, hL] at e; cases e)).trans (hE.keep b o e), hE.os, hE.gens⟩ ?_ (fun b e => by cases e; exact hacc)
  cases hv with
  | list hp hx hl => obtain ⟨o, n, ho, r⟩ := hp; exact .list ⟨o, n, (hs₂.2 _ hne).trans ho, r⟩ hx hl
end
end Mine
end
section
open PySem PySem.W PyProof.Rows PySem.Calls PySem.Builtin PySem.Builtin.Str
set_option Elab.async false
set_option maxRecDepth 100000
namespace Mine

theorem okB_iff {l : List Nat} (h : okB l = true) : OkS l := OkS.of h
theorem AllIs.ints {vs : List Value} {xs : List Atm} (x : AllIs vs xs) : ∀ {ns : List Int}, intsOf xs = some ns → IntsAre vs ns := by
  induction x with
  | nil => intro ns h; cases h; exact .nil
  | cons hv _ ih =>
    intro ns h
    unfold intsOf mapO at h
    cases hv with
    | int i t =>
      simp only [Atm.int?] at h
      split at h
      · rename_i bs hb
        cases h
        exact .cons i t (ih hb)
      · cases h
    | str l t hl => simp only [Atm.int?] at h; cases h
theorem AllIs.strs {vs : List Value} {xs : List Atm} (x : AllIs vs xs) : ∀ {ls : List (List Nat)}, strsOf xs = some ls → StrsAre vs (ls.map toStr) ∧ ∀ l ∈ ls, OkS l := by
  induction x with
  | nil => intro ns h; cases h; exact ⟨.nil, fun _ h => nomatch h⟩
  | cons hv _ ih =>
    intro ns h
    unfold strsOf mapO at h
    cases hv with
    | int i t => simp only [Atm.str?] at h; cases h
    | str l t hl =>
      simp only [Atm.str?] at h
      split at h
      · rename_i bs hb
        cases h
        obtain ⟨h1, h2⟩ := ih hb
        exact ⟨.cons _ t h1, fun m hm => by
          rcases List.mem_cons.mp hm with rfl | hm
          · exact hl
          · exact h2 m hm⟩
      · cases h
theorem AllIs.getV {vs : List Value} {xs : List Atm} (x : AllIs vs xs) : ∀ {i : Nat} {v : Value}, vs[i]? = some v → ∃ a, xs[i]? = some a ∧ AIs v a := by
  induction x with
  | nil => intro i v e; simp at e
  | cons hv _ ih =>
    intro i v e
    cases i with
    | zero => simp at e; subst e; exact ⟨_, rfl, hv⟩
    | succ i => simp at e; simpa using ih e
theorem AllV.one {h : Heap} {vs : List Value} {p : PV} (x : AllV h vs [p]) : ∃ v, vs = [v] ∧ VIs h v p := by
  cases x with
  | cons a b => cases b; exact ⟨_, rfl, a⟩
theorem AllV.two {h : Heap} {vs : List Value} {p q : PV} (x : AllV h vs [p, q]) : ∃ v u, vs = [v, u] ∧ VIs h v p ∧ VIs h u q := by
  cases x with
  | cons a b =>
    cases b with
    | cons c d => cases d; exact ⟨_, _, rfl, a, c⟩
theorem join_empty (ls : List (List Nat)) : Txt.join (Str.ofString "") (ls.map toStr) = toStr ls.flatten := by
  have he : (Str.ofString "").cps = #[] := by decide +kernel
  unfold Txt.join Builtin.Str.glued
  rw [he]
  cases ls with
  | nil => rfl
  | cons l r =>
    simp only [List.map_cons, List.drop_one, List.tail_cons, List.headD_cons, List.flatten_cons]
    have key : ∀ (r : List (List Nat)) (acc : Array Nat), (r.map toStr).foldl (fun acc p => acc ++ #[] ++ p.cps) acc = acc ++ r.flatten.toArray := by
      intro r
      induction r with
      | nil => intro acc; simp
      | cons a b ih => intro acc; rw [List.map_cons, List.foldl_cons, ih]; simp [toStr]
    rw [key]
    simp [toStr]

section
variable {prog : Program} {w : World} {A : Around} {E : Value → Shared → Prop} {s : Shared} {n : Nat} {D : List DefItem} {env : Env} {nm : List Str} {σ : Sg}

noncomputable def Bi.val : Bi → Value
  | .len => .builtin "len"
  | .min => .builtin "min"
  | .max => .builtin "max"
  | .sum => .builtin "sum"
  | .list => .type "list"
theorem bi_sound {b : Bi} {ps : List PV} {vs : List Value} {r : PV} {Q : Value → Shared → Prop} (C : CtxOk A n) (e : biPV b ps = some r) (hv : AllV s.heap vs ps)
    (hQ : ∀ v s', Ext s s' → VIs s'.heap v r → Fresh s v → Q v s') : wpAny (model prog w) A (call b.val vs) Q E s := by
  cases b with
  | len =>
    obtain ⟨q, rfl, e'⟩ := one1_inv e
    clear e
    have e := e'
    clear e'
    unfold lenPV at e
    split at e
    · cases e
      obtain ⟨v, rfl, h1⟩ := hv.one
      obtain ⟨a', vs, rfl, hp, hx, hl⟩ := h1.list_inv
      have hlen := hx.length
      have hl' : _ ≤ 65536 := hl
      refine len_list hp.isList (by simp only [List.size_toArray]; omega) ?_
      simp only [List.size_toArray, hlen]
      exact hQ _ _ .tok (.int ..) fresh_int
    · cases e
      obtain ⟨v, rfl, h1⟩ := hv.one
      obtain ⟨t, rfl, hl⟩ := h1.str_inv
      have hl' : _ ≤ 65536 := hl.1
      refine P.len_str (by rw [toStr_length]; omega) ?_
      rw [toStr_length]
      exact hQ _ _ .tok (.int ..) fresh_int
    · cases e
  | min =>
    obtain ⟨a, b, rfl, rfl⟩ := two2_inv e
    obtain ⟨v, v', rfl, h1, h3⟩ := hv.two
    obtain ⟨t, rfl⟩ := h1.int_inv; obtain ⟨u, rfl⟩ := h3.int_inv
    refine min_two_ints C.handled fun h' tk hk => ?_
    have := fun v => hQ v { s with heap := h', toks := tk } (.of hk)
    by_cases hc : b < a
    · rw [if_pos hc]; rw [if_pos hc] at this; exact this _ (.int ..) fresh_int
    · rw [if_neg hc]; rw [if_neg hc] at this; exact this _ (.int ..) fresh_int
  | max =>
    obtain ⟨a, b, rfl, rfl⟩ := two2_inv e
    obtain ⟨v, v', rfl, h1, h3⟩ := hv.two
    obtain ⟨t, rfl⟩ := h1.int_inv; obtain ⟨u, rfl⟩ := h3.int_inv
    refine max_two_ints C.handled fun h' tk hk => ?_
    have := fun v => hQ v { s with heap := h', toks := tk } (.of hk)
    by_cases hc : b > a
    · rw [if_pos hc]; rw [if_pos hc] at this; exact this _ (.int ..) fresh_int
    · rw [if_neg hc]; rw [if_neg hc] at this; exact this _ (.int ..) fresh_int
  | list =>
    obtain ⟨q, rfl, e'⟩ := one1_inv e
    clear e
    have e := e'
    clear e'
    unfold listPV at e
    split at e
    · cases e
      obtain ⟨v, rfl, h1⟩ := hv.one
      obtain ⟨a', vs, rfl, hp, hx, hl⟩ := h1.list_inv
      obtain ⟨o, k, ho, hc, hd⟩ := hp
      refine call_list_seq _ (.inl rfl) ho hc hd (fun h' c' hk hD => ?_) (by have := hx.length; simp only [List.size_toArray]; exact Nat.le_trans (by omega) lim_line)
      exact hQ _ _ (.of (tk := s.toks) hk) (.list ⟨_, _, hD, rfl, rfl⟩ hx hl) fresh_new
    · cases e
  | sum =>
    obtain ⟨q, rfl, e'⟩ := one1_inv e
    clear e
    have e := e'
    clear e'
    unfold sumPV at e
    split at e
    · split at e
      · rename_i ns hns
        cases e
        obtain ⟨v, rfl, h1⟩ := hv.one
        obtain ⟨a', vs, rfl, hp, hx, hl⟩ := h1.list_inv
        have hi := hx.ints hns
        have hlst := hp.isList
        obtain ⟨xs, hxs⟩ := hi.allInts.items
        have hn : numsOf (List.toArray _).toList = ns := hi.numsOf
        rw [hxs] at hlst hn
        rw [nums_intItems] at hn
        refine sum_intListG C.handled hlst fun h' tk t' hk => ?_
        have h3 : preSum (numAt xs) xs.size = ns.sum := by
          rw [preSum_eq, List.take_of_length_le (by simp), hn]
        rw [h3]
        exact hQ _ _ (.of hk) (.int ..) fresh_int
      · cases e
    · cases e

theorem join_sound {a r : PV} {v : Value} {t : Tok} {Q : Value → Shared → Prop} (e : joinPV a = some r) (hv : VIs s.heap v a)
    (hQ : ∀ v s', Ext s s' → VIs s'.heap v r → Fresh s v → Q v s') : wpAny (model prog w) A (call (.builtin "str.join") [.str (Str.ofString "") t, v]) Q E s := by
  unfold joinPV at e
  split at e
  · rename_i xs
    obtain ⟨ls, hls, e⟩ := Option.bind_eq_some_iff.mp e
    split at e
    · rename_i hc
      cases e
      obtain ⟨a', vs, rfl, hp, hx, hl⟩ := hv.list_inv
      obtain ⟨h1, h2⟩ := hx.strs hls
      have hsum : ∀ ls : List (List Nat), ((ls.map toStr).map (·.length)).sum = ls.flatten.length := by
        intro ls
        induction ls with
        | nil => rfl
        | cons a b ih => rw [List.map_cons, List.map_cons, List.sum_cons, ih, toStr_length, List.flatten_cons, List.length_append]
      refine join_list hp.isList h1 ?_ fun t' k => ?_
      · rw [hsum]
        have : (Str.ofString "").length = 0 := by decide +kernel
        rw [this]
        have := hc.1; unfold lim at this; omega
      · rw [join_empty]
        refine hQ _ _ .tok (.str _ _ ⟨hc.1, fun c hcm => ?_⟩) fresh_str
        obtain ⟨l, hl1, hl2⟩ := List.mem_flatten.mp hcm
        exact (h2 l hl1).2 c hl2
    · cases e
  · cases e

theorem split_sound {a r : PV} {l : List Nat} {v : Value} {u : Tok} {Q : Value → Shared → Prop} (e : splitPV l a = some r) (hv : VIs s.heap v a)
    (hQ : ∀ v s', Ext s s' → VIs s'.heap v r → Fresh s v → Q v s') : wpAny (model prog w) A (call (.builtin "str.split") [v, .str (toStr l) u]) Q E s := by
  unfold splitPV at e
  split at e
  · rename_i x
    split at e
    · rename_i hc
      obtain ⟨hc1, hc2, hc3⟩ := hc
      cases e
      obtain ⟨t, rfl, hx⟩ := hv.str_inv
      have hy : ((toStr l).length == 0) = false := by rw [toStr_length]; exact hc1
      have hxl : (toStr x).length ≤ 65536 := by rw [toStr_length]; exact hx.1
      have hn : (partsBetween (toStr x) (occurrences (toStr x) (toStr l) 0 (toStr x).length ((toStr x).length + 1)) (toStr l).length).length ≤ sizeLine := by
        have e1 := StrLaws.occ_length_le (toStr x) (toStr l) 0 (toStr x).length ((toStr x).length + 1)
        rw [length_partsBetween]
        have : sizeLine = 16777216 := by decide
        omega
      have key : ∀ (ps : List (Str × Tok)) (tk : Nat), ps.map (·.1) = Txt.split (toStr x) (toStr l) →
          Q (.ref s.heap.objs.size) { s with heap := s.heap.push { cls := .type "list", data := .seq (strValues ps).toArray }, toks := tk } := by
        intro ps tk hps
        refine hQ _ _ .push (vis_new (vs := strValues ps) ?_ (by rw [List.length_map]; exact hc2)) fresh_new
        rw [← hps] at hc3 ⊢
        clear hps hc2
        induction ps with
        | nil => exact .nil
        | cons p r ih =>
          simp only [List.map_cons, List.all_cons, Bool.and_eq_true] at hc3
          have hp1 : p.1 = toStr p.1.cps.toList := by unfold toStr; cases p.1; simp
          refine .cons ?_ (ih hc3.2)
          show AIs (.str p.1 p.2) (.str p.1.cps.toList)
          conv => lhs; rw [hp1]
          exact .str _ _ (okB_iff hc3.1)
      cases h1 : (decide ((toStr x).length < (toStr l).length) || decide (Builtin.Str.strKind (toStr x) < Builtin.Str.strKind (toStr l)))
      · cases hf : (occurrences (toStr x) (toStr l) 0 (toStr x).length ((toStr x).length + 1)).isEmpty
        · refine call_meets F.slot_str_split (typeIs_str _ _ _) F.entry_str_split (F.args_str_split_2 _ _) (meets_str_split_sep (toStr x) (toStr l) t u h1 hy hf (Nat.le_trans hxl (by decide)) hn) ?_
          show wants Q E _ { s with toks := _, heap := s.heap.push { cls := .type "list", data := .seq (strsFrom s.toks (partsBetween (toStr x) (occurrences (toStr x) (toStr l) 0 (toStr x).length ((toStr x).length + 1)) (toStr l).length)).toArray } }
          rw [strsFrom_eq]
          exact key _ _ ((numbered_texts _ _).trans ((if_neg (ne_true_of_eq_false h1)).trans (if_neg (ne_true_of_eq_false hf))).symm)
        · exact call_meets F.slot_str_split (typeIs_str _ _ _) F.entry_str_split (F.args_str_split_2 _ _) (meets_str_split_not_found (toStr x) (toStr l) t u h1 hy hf)
            (key [(toStr x, t)] s.toks ((if_neg (ne_true_of_eq_false h1)).trans (if_pos hf)).symm)
      · exact call_meets F.slot_str_split (typeIs_str _ _ _) F.entry_str_split (F.args_str_split_2 _ _) (meets_str_split_cannot_occur (toStr x) (toStr l) t u h1)
          (key [(toStr x, t)] s.toks (if_pos h1).symm)
    · cases e
  · cases e

theorem iter_pv {s₁ : Shared} {p : PV} {v : Value} {xs : List Atm} {src : Option Nat} {Q : Value → Shared → Prop} (e : itemsPV p = some xs) (hE : Ext s s₁) (hv : VIs s₁.heap v p)
    (hsrc : ∀ a, v = .ref a → s.heap.get? a = none ∨ ∃ i x, src = some i ∧ nm[i]? = some x ∧ HoldsV env s.heap x (.ref a))
    (hQ : ∀ itv s₂, IterOk prog w env nm s s₂ itv xs src → Q itv s₂) : wpAny (model prog w) A (pyIter v) Q E s₁ := by
  unfold itemsPV at e
  split at e
  · cases e
    obtain ⟨a, vs, rfl, hp, hx, hl⟩ := hv.list_inv
    have hlst := hp.isList
    have hlen : vs.toArray.size = xs.length := by rw [List.size_toArray, hx.length]
    have hne : a ≠ s₁.heap.objs.size := Nat.ne_of_lt (let ⟨_, ho, _⟩ := hlst; Heap.lt_size ho)
    refine wpAny_pyIter_list hlst (hQ _ _ ?_)
    refine ⟨s₁.heap.objs.size, [s₁.heap.objs.size, a], [s₁.heap.objs.size], fun i v => vs.toArray[i]? = some v, fun i h => h.IsListIter s₁.heap.objs.size a i ∧ h.IsList a vs.toArray, rfl, fun A' hh => by have W := Walks.list (prog := prog) (w := w) hh s₁.heap.objs.size a hne vs.toArray; rw [hlen] at W; exact W,
      ⟨⟨_, Heap.get?_push_size _ rfl, rfl, rfl⟩, let ⟨o, ho, r⟩ := hlst; ⟨o, Heap.get?_push_of_some _ ho, r⟩⟩, fun b hb => ?_, fun b hb => ?_, fun i v _ hi => ?_, hE.trans .push, fun b hb => ?_, fun i h hst b hb => ?_⟩
    · rcases List.mem_cons.mp hb with rfl | hb
      · exact ⟨_, Heap.get?_push_size _ rfl⟩
      · rw [List.mem_singleton.mp hb]
        obtain ⟨o, ho, _⟩ := hlst
        exact ⟨o, Heap.get?_push_of_some _ ho⟩
    · rw [List.mem_singleton.mp hb]
      exact (Fresh.back fresh_new hE) _ rfl
    · exact hx.getV (by simpa using hi)
    · rcases List.mem_cons.mp hb with rfl | hb
      · exact .inl ((Fresh.back fresh_new hE) _ rfl)
      · rw [List.mem_singleton.mp hb]; exact hsrc a rfl
    · rcases List.mem_cons.mp hb with rfl | hb
      · obtain ⟨o, ho, _⟩ := hst.1; exact ⟨o, ho⟩
      · rw [List.mem_singleton.mp hb]
        obtain ⟨o, ho, _⟩ := hst.2; exact ⟨o, ho⟩
  · cases e
    rename_i l
    obtain ⟨t, rfl, hl⟩ := hv.str_inv
    have key : ∀ (ob : Obj) (St : Nat → Heap → Prop), ob.isFreed = false → (∀ A' : Around, A'.handled = none → Walks prog w A' s₁.heap.objs.size [s₁.heap.objs.size] [s₁.heap.objs.size] (toStr l).cps.size (SignAt (toStr l)) St) → St 0 (s₁.heap.push ob) → (∀ i h, St i h → ∃ o, h.get? s₁.heap.objs.size = some o) →
        Q (.ref s₁.heap.objs.size) { s₁ with heap := s₁.heap.push ob } := by
      intro ob St hob W hst hex
      refine hQ _ _ ?_
      have hsz : (toStr l).cps.size = (l.map fun c => Atm.str [c]).length := by simp [toStr]
      refine ⟨_, _, _, _, St, rfl, fun A' hh => by have W' := W A' hh; rw [hsz] at W'; exact W', hst, fun b hb => ?_, fun b hb => ?_, fun i v _ hi => ?_, hE.trans .push, fun b hb => ?_, fun i h hs b hb => by rw [List.mem_singleton.mp hb]; exact hex i h hs⟩
      · rw [List.mem_singleton.mp hb]
        exact ⟨ob, Heap.get?_push_size _ hob⟩
      · rw [List.mem_singleton.mp hb]
        exact (Fresh.back fresh_new hE) _ rfl
      · obtain ⟨c, u, hc, rfl⟩ := hi
        have hc' : l[i]? = some c := by simpa [toStr] using hc
        refine ⟨.str [c], by simp [hc'], .str [c] u ⟨by show 1 ≤ lim; decide, fun d hd => ?_⟩⟩
        have : d = c := by simpa using hd
        subst this
        exact hl.2 _ (List.mem_of_getElem? hc')
      · rw [List.mem_singleton.mp hb]
        exact .inl ((Fresh.back fresh_new hE) _ rfl)
    cases ha : (toStr l).cps.all (· < 128)
    · exact wpAny_pyIter_wide ha (key _ _ rfl (fun A' hA => Walks.strWide hA _ _ t) ⟨_, Heap.get?_push_size _ rfl, rfl, rfl⟩ fun i h hs => let ⟨o, ho, _⟩ := hs; ⟨o, ho⟩)
    · exact wpAny_pyIter_ascii ha (key _ _ rfl (fun A' hA => Walks.strAscii hA _ _ t) ⟨_, Heap.get?_push_size _ rfl, rfl, rfl⟩ fun i h hs => let ⟨o, ho, _⟩ := hs; ⟨o, ho⟩)
  · cases e
end
end Mine
end
section
open PySem PySem.W PyProof.Rows PySem.Calls PySem.Builtin PySem.Builtin.Str
set_option Elab.async false
set_option maxRecDepth 100000
namespace Mine

section
variable {prog : Program} {w : World} {A : Around} {E : Value → Shared → Prop} {s : Shared} {n : Nat} {D : List DefItem} {env : Env} {nm : List Str} {σ : Sg} {fn : Nat → Str} {Φ : Phi}

theorem big_bounds {x : Int} (h : big x = true) : -1099511627776 ≤ x ∧ x ≤ 1099511627776 := by
  simpa [big] using h
theorem iter_range {s₁ : Shared} {a b c : Int} {r : Addr} {t u v : Tok} {xs : List Atm} {src : Option Nat} {Q : Value → Shared → Prop} (e : rangePV a b c = some xs) (hE : Ext s s₁) (hr : IsRange s₁.heap r a b c t u v)
    (hQ : ∀ itv s₂, IterOk prog w env nm s s₂ itv xs src → Q itv s₂) : wpAny (model prog w) A (pyIter (.ref r)) Q E s₁ := by
  unfold rangePV at e
  split at e
  · rename_i hc
    simp only [Bool.and_eq_true, Bool.or_eq_true, decide_eq_true_eq] at hc
    obtain ⟨⟨ha, hb⟩, hcc⟩ := hc
    obtain ⟨a1, a2⟩ := big_bounds ha
    obtain ⟨b1, b2⟩ := big_bounds hb
    dsimp only at e
    by_cases hn : (if c = 1 then b - a else a - b).toNat ≤ lim
    · rw [if_pos hn] at e
      cases e
      have hsize : Builtin.Range.rangeSize a b c = (((if c = 1 then b - a else a - b).toNat : Nat) : Int) := by
        unfold Builtin.Range.rangeSize
        rcases hcc with rfl | rfl
        · simp only [show (1 : Int) > 0 by decide, if_true, Int.ediv_one]
          split <;> omega
        · simp only [show ¬ ((-1 : Int) > 0) by decide, if_false, show ¬ ((-1 : Int) = 1) by decide, Int.neg_neg, Int.ediv_one]
          split <;> omega
      have hsm : Builtin.Range.small a b c = true := by
        have hl : (if c = 1 then b - a else a - b).toNat ≤ 65536 := hn
        unfold Builtin.Range.small
        rw [hsize]
        generalize (if c = 1 then b - a else a - b).toNat = k at *
        simp only [Builtin.Range.rangeFitsLong, Bool.and_eq_true, Bool.or_eq_true, decide_eq_true_eq, beq_iff_eq]
        rcases hcc with rfl | rfl <;> simp <;> omega
      refine wpAny_pyIter_range hr hsm (hQ _ _ ?_)
      rw [hsize]
      generalize (if c = 1 then b - a else a - b).toNat = k at *
      have hk : (rangeA a c k).length = k := by simp [rangeA]
      refine ⟨s₁.heap.objs.size, [s₁.heap.objs.size], [s₁.heap.objs.size], fun i v => ∃ t, v = Value.int (a + i * c) t, fun i h => IsRangeIter h s₁.heap.objs.size (a + i * c) ((k : Int) - i) c, rfl, fun A' hh => ?_, ?_, fun b hb => ?_, fun b hb => ?_, fun i v hi hv => ?_, hE.trans .push, fun b hb => ?_, fun i h hst b hb => ?_⟩
      · rw [hk]
        exact Walks.range hh _ a c k
      · have h1 : a + ((0 : Nat) : Int) * c = a := by simp
        have h2 : (k : Int) - ((0 : Nat) : Int) = k := by simp
        show IsRangeIter _ _ _ _ _
        rw [h1, h2]
        exact Heap.get?_push_size _ rfl
      · rw [List.mem_singleton.mp hb]
        exact ⟨_, Heap.get?_push_size _ rfl⟩
      · rw [List.mem_singleton.mp hb]
        exact (Fresh.back fresh_new hE) _ rfl
      · obtain ⟨t, rfl⟩ := hv
        rw [hk] at hi
        exact ⟨.int (a + i * c), by simp [rangeA, hi], .int _ t⟩
      · rw [List.mem_singleton.mp hb]
        exact .inl ((Fresh.back fresh_new hE) _ rfl)
      · rw [List.mem_singleton.mp hb]
        exact ⟨_, hst⟩
    · rw [if_neg hn] at e
      cases e
  · cases e

theorem star_cons (x : X) (r : List Expr) : starEach (x.toE nm fn :: r) env = (false, eval (x.toE nm fn) env) :: starEach r env := by
  cases x <;> rfl
theorem plain_star {p : Pos} : ∀ es : Xs, (backTo p (starEach (es.toE nm fn) env)).any (·.1) = false
  | .nil => rfl
  | .cons e es => by
    have := plain_star es (p := p)
    show (backTo p (starEach (e.toE nm fn :: es.toE nm fn) env)).any (·.1) = false
    rw [star_cons]
    show (false || (backTo p (starEach (es.toE nm fn) env)).any (·.1)) = false
    rw [this]; rfl
theorem folded_it (it : It) : ∀ x, foldedSetIterable (it.toE nm fn) env x = pure x := by
  intro v
  cases it with
  | x e => cases e <;> rfl
  | r1 => rfl
  | r2 => rfl
  | r3 => rfl
theorem sub_plain (x : X) (o i : Value) : subscripted (x.toE nm fn) false o i = operate [o, i] (getItem o i) := by
  cases x <;> rfl
theorem attr_split (x : X) (whole : Sem Value) : attributeBase (x.toE nm fn) (Str.ofString "split") env whole = whole := by
  cases x <;> rfl
theorem wpAny_Sub {value slice : Expr} {p : Pos} {Q : Value → Shared → Prop}
    (h : wpAny (model prog w) A (eval value env) (fun o s₁ => wpAny (model prog w) A (eval slice env) (fun i s₂ => (∃ T id, typeLookup (.type T) "__getitem__" = pure (some (.builtin id)) ∧ s₂.TypeIs o T) ∧ wpAny (model prog w) A (getItem o i) Q E s₂) E s₁) E s)
    (hs : ∀ o i, subscripted slice false o i = operate [o, i] (getItem o i) ∨ subscripted slice false o i = operate [i, o] (getItem o i)) :
    wpAny (model prog w) A (eval (.Subscript value slice p) env) Q E s := by
  rw [eval_Subscript]
  refine wpAny_bind (wpAny_mono h (fun o s₁ h₁ => wpAny_bind (wpAny_holding (wpAny_mono h₁ (fun i s₂ h₂ => wpAny_bind (wpAny_standAt ?_)) fun _ _ x => x))) fun _ _ x => x)
  obtain ⟨⟨T, id, hl, hT⟩, hg⟩ := h₂
  have fin : ∀ l, wpAny (model prog w) A (operate l (getItem o i)) (fun r s₃ => wpAny (model prog w) A (letTemporaryGo value o r >>= fun _ => pure r) Q E s₃) E s₂ := fun l =>
    wpAny_operating (wpAny_mono hg (fun r s₃ h₃ => wpAny_bind (wpAny_letTemporaryGo (wpAny_pure h₃))) fun _ _ x => x)
  have fin' : wpAny (model prog w) A (subscripted slice false o i) (fun r s₃ => wpAny (model prog w) A (letTemporaryGo value o r >>= fun _ => pure r) Q E s₃) E s₂ := by
    rcases hs o i with e | e <;> (rw [e]; exact fin _)
  first
    | (refine wpAny_bind ?_
       rw [getitemInPython_of_ne hT.not_modules]
       refine wpAny_bind (wpAny_specialOf hT hl ?_)
       first
         | exact wpAny_pure (wpAny_bind fin')
         | exact wpAny_bind (wpAny_pure (wpAny_bind fin'))
         | exact wpAny_bind fin')
    | (refine wpAny_bind (wpAny_specialOf hT hl ?_)
       first
         | exact wpAny_bind (wpAny_pure (wpAny_bind fin'))
         | exact wpAny_bind fin')
end
end Mine
end
section
open PySem PySem.W PyProof.Rows PySem.Calls PySem.Builtin PySem.Builtin.Str
set_option Elab.async false
set_option maxRecDepth 100000
namespace Mine

noncomputable def X.isVar : X → Bool
  | .var .. => true
  | _ => false

/-- a def of the text gives back, by value, r -/
noncomputable def FnOk (prog : Program) (w : World) (D : List DefItem) (n : Nat) (x : Str) (args : List PV) (r : PV) : Prop :=
  (∃ d ∈ D, d.name = x ∧ d.params.defaults = [] ∧ (d.name == ("__debug__" : Str)) = false) ∧
  ∀ (A : Around) (s : Shared) (f : Addr) (vals : List Value) (Q : Value → Shared → Prop) (E : Value → Shared → Prop), CtxOk A n → GW D s.heap → IsFn s.heap x f → AllV s.heap vals args →
    (∀ v s', Ext s s' → VIs s'.heap v r → Fresh s v → Q v s') → wpAny (model prog w) A (call (.ref f) vals) Q E s
noncomputable def PhiOk (prog : Program) (w : World) (D : List DefItem) (n : Nat) (fn : Nat → Str) (Φ : Phi) : Prop := ∀ g args r, Φ g args = some r → FnOk prog w D n (fn g) args r

section
variable {prog : Program} {w : World} {A : Around} {n : Nat} {D : List DefItem} {nm : List Str} {fn : Nat → Str} {Φ : Phi}

noncomputable def XSound (prog : Program) (w : World) (A : Around) (n : Nat) (D : List DefItem) (nm : List Str) (fn : Nat → Str) (Φ : Phi) (x : X) : Prop :=
  ∀ (env : Env) (σ : Sg) (s : Shared) (p : PV) (Q : Value → Shared → Prop) (E : Value → Shared → Prop), x.ev Φ σ = some p → x.wf nm fn env.scope = true → CS n D A env nm σ s →
    (∀ v s', Ext s s' → VIs s'.heap v p → (x.isVar = false → Fresh s v) → Q v s') → wpAny (model prog w) A (eval (x.toE nm fn) env) Q E s
noncomputable def XsSound (prog : Program) (w : World) (A : Around) (n : Nat) (D : List DefItem) (nm : List Str) (fn : Nat → Str) (Φ : Phi) (es : Xs) : Prop :=
  ∀ (env : Env) (σ : Sg) (s : Shared) (ps : List PV) (pos : Pos) (Q : List Value → Shared → Prop) (E : Value → Shared → Prop), es.ev Φ σ = some ps → es.wf nm fn env.scope = true → CS n D A env nm σ s →
    (∀ vs s', Ext s s' → AllV s'.heap vs ps → Q vs s') → wpAny (model prog w) A (spliced (backTo pos (starEach (es.toE nm fn) env))) Q E s
noncomputable def TSound (prog : Program) (w : World) (A : Around) (n : Nat) (D : List DefItem) (nm : List Str) (fn : Nat → Str) (Φ : Phi) (t : T) : Prop :=
  ∀ (env : Env) (σ : Sg) (s : Shared) (b : Bool) (Q : Bool → Shared → Prop) (E : Value → Shared → Prop), t.ev Φ σ = some b → t.wf nm fn env.scope = true → CS n D A env nm σ s →
    (∀ s', Ext s s' → Q b s') → wpAny (model prog w) A (isTrue (t.toE nm fn) env (eval (t.toE nm fn) env)) Q E s
noncomputable def It.src : It → Option Nat
  | .x (.var i _) => some i
  | _ => none
noncomputable def ItSound (prog : Program) (w : World) (A : Around) (n : Nat) (D : List DefItem) (nm : List Str) (fn : Nat → Str) (Φ : Phi) (it : It) : Prop :=
  ∀ (env : Env) (σ : Sg) (s : Shared) (xs : List Atm) (Q : Value → Shared → Prop) (E : Value → Shared → Prop), it.ev Φ σ = some xs → it.wf nm fn env.scope = true → CS n D A env nm σ s →
    (∀ itv s₂, IterOk prog w env nm s s₂ itv xs it.src → Q itv s₂) → wpAny (model prog w) A (eval (it.toE nm fn) env) (fun xv s₁ => wpAny (model prog w) A (pyIter xv) Q E s₁) E s

theorem isG_iff {sc : Scope} {x : Str} (h : isG sc x = true) : sc.names.lookup x = some .globalImplicit := by simpa [isG] using h

theorem var_sound (i : Nat) (p : Pos) : XSound prog w A n D nm fn Φ (.var i p) := by
  intro env σ s q Q E e _ C hQ
  obtain ⟨x, v, hx, hh, hv⟩ := C.ok.var i q e
  have : nmAt nm i = x := by unfold nmAt; rw [List.getD_eq_getElem?_getD, hx]; rfl
  show wpAny _ _ (eval (.Name (nmAt nm i) p) env) _ _ _
  rw [this]
  exact load_holds C.ok.fn hh (C.ok.dbg x (List.mem_of_getElem? hx)) (hQ v s (.refl s) hv (fun h => nomatch h))

theorem call_sound (hΦ : PhiOk prog w D n fn Φ) {g : Nat} {e : X} {es : Xs} (he : XSound prog w A n D nm fn Φ e) (hes : XsSound prog w A n D nm fn Φ es)
    {env : Env} {σ : Sg} {s : Shared} {a r : PV} {ps : List PV} {pn p : Pos} {Q : Value → Shared → Prop} {E : Value → Shared → Prop} (h1 : e.ev Φ σ = some a) (h2 : es.ev Φ σ = some ps) (h3 : Φ g (a :: ps) = some r)
    (w1 : isG env.scope (fn g) = true) (w2 : e.wf nm fn env.scope = true) (w3 : es.wf nm fn env.scope = true) (C : CS n D A env nm σ s)
    (hQ : ∀ v s', Ext s s' → VIs s'.heap v r → Fresh s v → Q v s') : wpAny (model prog w) A (eval (.Call (.Name (fn g) pn) (e.toE nm fn :: es.toE nm fn) [] p) env) Q E s := by
  obtain ⟨⟨d, hD, hn, hdef, hdbg⟩, hf⟩ := hΦ g _ r h3
  refine wpAny_Call_NameR ?_
  rw [← hn] at w1 ⊢
  refine load_def C.gw C.ok.fn C.ok.gl (isG_iff w1) hD hdef hdbg fun f c' o pm doc hfn ho hdat _ => ?_
  refine callWith_def hdat ?_ (star_cons e _)
  refine args_cons (he env σ s a _ _ h1 w2 C fun v s₁ hE₁ hv _ => ?_) (star_cons e _)
  refine hes env σ s₁ ps p _ _ h2 w3 (C.ext hE₁) fun vs s₂ hE₂ hvs => ?_
  have hE := hE₁.trans hE₂
  refine ⟨hE.keep _ _ ho, ?_⟩
  exact hf A s₂ f (v :: vs) Q E C.ctx (C.gw.keeps hE.keep) ((hn ▸ hfn : IsFn s.heap (fn g) f).keeps hE.keep) (.cons (hv.keeps hE₂.keep) hvs) fun u s₃ hE₃ hu hfr => hQ u s₃ (hE.trans hE₃) hu (hfr.back hE)

theorem mapO_filtO {α β : Type} (f : α → Option β) : ∀ xs : List α, filtO (fun _ => some true) f xs = mapO f xs
  | [] => rfl
  | a :: r => by
    unfold filtO mapO
    rw [mapO_filtO f r]
theorem AllV.atms {h : Heap} {vs : List Value} {ps : List PV} (x : AllV h vs ps) : ∀ {xs : List Atm}, mapO PV.atm? ps = some xs → AllIs vs xs := by
  induction x with
  | nil => intro xs e; cases e; exact .nil
  | cons hv _ ih =>
    intro xs e
    unfold mapO at e
    split at e
    · rename_i b hb
      split at e
      · rename_i bs hbs
        cases e
        exact .cons (hv.ais hb) (ih hbs)
      · cases e
    · cases e
theorem boot_of (b : Bi) : bootBuiltins b.name = some b.val := by cases b <;> decide +kernel
theorem bi_in (b : Bi) : b.name ∈ bNames := by cases b <;> decide +kernel
theorem bi_boot (b : Bi) : b.name ∉ bootMainNames := by cases b <;> decide +kernel
theorem bi_nm (b : Bi) : b.name ≠ "__name__" := by cases b <;> decide +kernel
theorem bi_dbg (b : Bi) : (b.name == ("__debug__" : Str)) = false := by cases b <;> decide +kernel
theorem range_in : (Str.ofString "range") ∈ bNames := by decide +kernel
theorem evalPart_some' {e : Expr} {env : Env} {Q : Value → Shared → Prop} {E : Value → Shared → Prop} {s : Shared} (h : wpAny (model prog w) A (eval e env) Q E s) : wpAny (model prog w) A (evalPart (some e) env) Q E s := by
  rw [evalPart_some]; exact h
theorem wpAny_SliceE {lower upper : Option Expr} {p : Pos} {env : Env} {Q : Value → Shared → Prop} {E : Value → Shared → Prop} {s : Shared}
    (h : wpAny (model prog w) A (evalPart lower env) (fun vl s₁ => wpAny (model prog w) A (evalPart upper env) (fun vu s₂ =>
      Q (.ref s₂.heap.objs.size) { s₂ with heap := s₂.heap.push { cls := .type "slice", data := .fields #[vl, vu, .none] } }) E s₁) E s) : wpAny (model prog w) A (eval (.Slice lower upper none p) env) Q E s := by
  refine wpAny_Slice (wpAny_mono h (fun vl s₁ h₁ => wpAny_mono h₁ (fun vu s₂ h₂ => ?_) fun _ _ e => e) fun _ _ e => e)
  rw [evalPart_none]
  exact wpAny_pure h₂

theorem onlyA_some {o : Option PV} {p : PV} (h : onlyA o = some p) : o = some p ∧ ∃ a, p.atm? = some a := by
  unfold onlyA at h
  split at h
  · cases h; exact ⟨rfl, _, rfl⟩
  · cases h; exact ⟨rfl, _, rfl⟩
  · cases h
theorem onlyA_fresh {o : Option PV} {p : PV} {hp : Heap} {v : Value} {s : Shared} (h : onlyA o = some p) (hv : VIs hp v p) : Fresh s v :=
  let ⟨_, _, ha⟩ := onlyA_some h; (hv.ais ha).fresh s

mutual
theorem X.sound (hΦ : PhiOk prog w D n fn Φ) : ∀ x : X, XSound prog w A n D nm fn Φ x
  | .var i p => var_sound i p
  | .int k p => by
    intro env σ s q Q E e _ C hQ
    cases e
    exact wpAny_Constant_int (hQ _ _ .tok (.int ..) fun _ => fresh_int)
  | .neg k p' p => by
    intro env σ s q Q E e _ C hQ
    cases e
    refine wpAny_UnaryOp (wpAny_Constant_int ?_)
    exact neg_int (hQ _ _ (Ext.trans .tok .tok) (.int ..) fun _ => fresh_int)
  | .str x l p => by
    intro env σ s q Q E e wf C hQ
    cases e
    simp only [X.wf_str, Bool.and_eq_true] at wf
    have hx : Str.ofString x = toStr l := of_decide_eq_true wf.1
    show wpAny _ _ (eval (.Constant (.str (Str.ofString x)) 0 p) env) _ _ _
    rw [hx]
    refine wpAny_Constant_str ?_
    exact hQ _ _ .tok (.str _ _ (OkS.of (by simpa using wf.2))) fun _ => fresh_str
  | .bool b p => by
    intro env σ s q Q E e _ C hQ
    cases e
    exact wpAny_Constant_bool (hQ _ _ (.refl _) (.bool _) fun _ => fresh_bool)
  | .none p => by
    intro env σ s q Q E e _ C hQ
    cases e
    exact wpAny_Constant_none (hQ _ _ (.refl _) .none fun _ _ e => nomatch e)
  | .gint x k p => by
    intro env σ s q Q E e wf C hQ
    cases e
    simp only [X.wf_gint, Bool.and_eq_true] at wf
    have hx := of_decide_eq_true wf.2
    refine load_gint C.gw C.ok.fn C.ok.gl (isG_iff wf.1) ?_ ?_ (i := k) fun t => hQ _ _ (.refl _) (.int ..) fun _ => fresh_int
    · rcases hx with hx | hx
      · injection hx with h1 h2
        rw [h1, h2]; exact List.mem_cons_self
      · injection hx with h1 h2
        rw [h1, h2]; exact List.mem_cons_of_mem _ List.mem_cons_self
    · rcases hx with hx | hx <;> (injection hx with h1 h2; rw [h1]; decide +kernel)
  | .bin op l r p => by
    intro env σ s q Q E e wf C hQ
    simp only [X.wf_bin, Bool.and_eq_true] at wf
    unfold X.ev at e
    split at e
    · rename_i a ha
      split at e
      · rename_i b hb
        refine wpAny_BinOp (X.sound hΦ l env σ s a _ _ ha wf.1 C fun va s₁ hE₁ hva _ => X.sound hΦ r env σ s₁ b _ _ hb wf.2 (C.ext hE₁) fun vb s₂ hE₂ hvb _ => ?_)
        have hE := hE₁.trans hE₂
        exact bin_sound e (hva.keeps hE₂.keep) hvb fun v s₃ hE₃ hv hf => hQ v s₃ (hE.trans hE₃) hv fun _ => hf.back hE
      · cases e
    · cases e
  | .cmp op l r p => by
    intro env σ s q Q E e wf C hQ
    simp only [X.wf_cmp, Bool.and_eq_true, Bool.not_eq_true'] at wf
    unfold X.ev at e
    split at e
    · rename_i a ha
      split at e
      · rename_i b hb
        obtain ⟨k, hk, rfl⟩ := Option.map_eq_some_iff.mp e
        refine wpAny_Compare1 (X.sound hΦ l env σ s a _ _ ha wf.1.1 C fun va s₁ hE₁ hva _ => X.sound hΦ r env σ s₁ b _ _ hb wf.1.2 (C.ext hE₁) fun vb s₂ hE₂ hvb _ => ?_) wf.2
        exact cmp_sound C.ctx hk (hva.keeps hE₂.keep) hvb (hQ _ _ (hE₁.trans hE₂) (.bool _) fun _ => fresh_bool)
      · cases e
    · cases e
  | .ite t a b p => by
    intro env σ s q Q E e wf C hQ
    simp only [X.wf_ite, Bool.and_eq_true] at wf
    unfold X.ev at e
    split at e
    · rename_i ht
      refine wpAny_IfExp (T.sound hΦ t env σ s true _ _ ht wf.1.1 C fun s₁ hE₁ => ?_)
      rw [if_pos rfl]
      exact X.sound hΦ a env σ s₁ q _ _ (onlyA_some e).1 wf.1.2 (C.ext hE₁) fun v s₂ hE₂ hv hf => hQ v s₂ (hE₁.trans hE₂) hv fun _ => onlyA_fresh e hv
    · rename_i ht
      refine wpAny_IfExp (T.sound hΦ t env σ s false _ _ ht wf.1.1 C fun s₁ hE₁ => ?_)
      rw [if_neg Bool.false_ne_true]
      exact X.sound hΦ b env σ s₁ q _ _ (onlyA_some e).1 wf.2 (C.ext hE₁) fun v s₂ hE₂ hv hf => hQ v s₂ (hE₁.trans hE₂) hv fun _ => onlyA_fresh e hv
    · cases e
  | .idx e i p => by
    intro env σ s q Q E h wf C hQ
    simp only [X.wf_idx, Bool.and_eq_true] at wf
    unfold X.ev at h
    split at h
    · rename_i a ha
      split at h
      · rename_i b hb
        refine wpAny_Sub (X.sound hΦ e env σ s a _ _ ha wf.1 C fun va s₁ hE₁ hva _ => X.sound hΦ i env σ s₁ b _ _ hb wf.2 (C.ext hE₁) fun vb s₂ hE₂ hvb _ => ?_) fun o j => .inl (sub_plain i o j)
        have hE := hE₁.trans hE₂
        exact idx_sound h (hva.keeps hE₂.keep) hvb fun v s₃ hE₃ hv hf => hQ v s₃ (hE.trans hE₃) hv fun _ => hf.back hE
      · cases h
    · cases h
  | .slo e a ps p => by
    intro env σ s q Q E h wf C hQ
    simp only [X.wf_slo, Bool.and_eq_true] at wf
    unfold X.ev at h
    split at h
    · rename_i x hx
      split at h
      · rename_i i hi
        refine wpAny_Sub (X.sound hΦ e env σ s x _ _ hx wf.1 C fun va s₁ hE₁ hva _ => wpAny_SliceE (evalPart_some' (X.sound hΦ a env σ s₁ _ _ _ hi wf.2 (C.ext hE₁) fun vb s₂ hE₂ hvb _ => by
          rw [evalPart_none]
          refine wpAny_pure ?_
          have hE := hE₁.trans hE₂
          exact slice_sound h (hva.keeps hE₂.keep) hvb .none fun v s₃ hE₃ hv hf => hQ v s₃ (hE.trans hE₃) hv fun _ => hf.back hE))) fun o j => .inr rfl
      · cases h
    · cases h
  | .shi e b ps p => by
    intro env σ s q Q E h wf C hQ
    simp only [X.wf_shi, Bool.and_eq_true] at wf
    unfold X.ev at h
    split at h
    · rename_i x hx
      split at h
      · rename_i i hi
        refine wpAny_Sub (X.sound hΦ e env σ s x _ _ hx wf.1 C fun va s₁ hE₁ hva _ => wpAny_SliceE (by
          rw [evalPart_none]
          refine wpAny_pure (evalPart_some' (X.sound hΦ b env σ s₁ _ _ _ hi wf.2 (C.ext hE₁) fun vb s₂ hE₂ hvb _ => ?_))
          have hE := hE₁.trans hE₂
          exact slice_sound h (hva.keeps hE₂.keep) .none hvb fun v s₃ hE₃ hv hf => hQ v s₃ (hE.trans hE₃) hv fun _ => hf.back hE)) fun o j => .inr rfl
      · cases h
    · cases h
  | .slh e a b ps p => by
    intro env σ s q Q E h wf C hQ
    simp only [X.wf_slh, Bool.and_eq_true] at wf
    unfold X.ev at h
    split at h
    · rename_i x hx
      split at h
      · rename_i i hi
        split at h
        · rename_i j hj
          refine wpAny_Sub (X.sound hΦ e env σ s x _ _ hx wf.1.1 C fun va s₁ hE₁ hva _ => wpAny_SliceE (evalPart_some' (X.sound hΦ a env σ s₁ _ _ _ hi wf.1.2 (C.ext hE₁) fun vb s₂ hE₂ hvb _ =>
            evalPart_some' (X.sound hΦ b env σ s₂ _ _ _ hj wf.2 (C.ext (hE₁.trans hE₂)) fun vc s₃ hE₃ hvc _ => by
              have hE := (hE₁.trans hE₂).trans hE₃
              exact slice_sound h (hva.keeps (hE₂.trans hE₃).keep) (hvb.keeps hE₃.keep) hvc fun v s₄ hE₄ hv hf => hQ v s₄ (hE.trans hE₄) hv fun _ => hf.back hE)))) fun o j => .inr rfl
        · cases h
      · cases h
    · cases h
  | .disp es p => by
    intro env σ s q Q E h wf C hQ
    unfold X.ev at h
    split at h
    · rename_i ps hps
      split at h
      · rename_i xs hxs
        split at h
        · rename_i hl
          cases h
          refine wpAny_List (Xs.sound hΦ es env σ s ps p _ _ hps wf C fun vs s₁ hE₁ hvs => ?_)
          have hA := hvs.atms hxs
          exact ⟨by rw [hA.length]; exact Nat.le_trans hl lim_line, hQ _ _ (hE₁.trans .push) (vis_new (tk := s₁.toks) hA hl) fun _ => fresh_new.back hE₁⟩
        · cases h
      · cases h
    · cases h
  | .call g e es pn p => by
    intro env σ s q Q E h wf C hQ
    simp only [X.wf_call, Bool.and_eq_true] at wf
    unfold X.ev at h
    split at h
    · rename_i a ha
      split at h
      · rename_i ps hps
        exact call_sound hΦ (X.sound hΦ e) (Xs.sound hΦ es) ha hps h wf.1.1 wf.1.2 wf.2 C fun v s' hE hv hf => hQ v s' hE hv fun _ => hf
      · cases h
    · cases h
  | .bi b e es pn p => by
    intro env σ s q Q E h wf C hQ
    simp only [X.wf_bi, Bool.and_eq_true] at wf
    unfold X.ev at h
    split at h
    · rename_i a ha
      split at h
      · rename_i ps hps
        refine wpAny_Call_NameR ?_
        refine load_builtin C.gw C.ok.fn C.ok.gl C.ok.bl (isG_iff wf.1.1) (bi_in b) (boot_of b) ?_ (bi_boot b) (bi_nm b) (bi_dbg b)
        have key : ∀ (Q' : List Value → Shared → Prop), (∀ vs s₂, Ext s s₂ → AllV s₂.heap vs (a :: ps) → Q' vs s₂) → wpAny (model prog w) A (spliced (backTo p (starEach (e.toE nm fn :: es.toE nm fn) env))) Q' E s := fun Q' hq =>
          args_cons (X.sound hΦ e env σ s a _ _ ha wf.1.2 C fun v s₁ hE₁ hv _ => Xs.sound hΦ es env σ s₁ ps p _ _ hps wf.2 (C.ext hE₁) fun vs s₂ hE₂ hvs => hq _ _ (hE₁.trans hE₂) (.cons (hv.keeps hE₂.keep) hvs)) (star_cons e _)
        have fin : ∀ vs s₂, Ext s s₂ → AllV s₂.heap vs (a :: ps) → wpAny (model prog w) A (call b.val vs) Q E s₂ := fun vs s₂ hE hvs =>
          bi_sound C.ctx h hvs fun v s₃ hE₃ hv hf => hQ v s₃ (hE.trans hE₃) hv fun _ => hf.back hE
        cases b with
        | list => exact callWith_type1 (key _ fin) (star_cons e _) (plain_star es)
        | len => exact callWith_builtin1 (key _ fin) (star_cons e _) (plain_star es)
        | min => exact callWith_builtin1 (key _ fin) (star_cons e _) (plain_star es)
        | max => exact callWith_builtin1 (key _ fin) (star_cons e _) (plain_star es)
        | sum => exact callWith_builtin1 (key _ fin) (star_cons e _) (plain_star es)
      · cases h
    · cases h
  | .join e ps pa p => by
    intro env σ s q Q E h wf C hQ
    simp only [X.wf_join, Bool.and_eq_true] at wf
    unfold X.ev at h
    split at h
    · rename_i a ha
      refine wpAny_Call_method rfl ?_ wf.2 F.plainAttrs_str F.slot_str_join F.type_str_join ?_
      · have : starEach [e.toE nm fn] env = [(false, eval (e.toE nm fn) env)] := star_cons e []
        rw [this]; rfl
      · refine wpAny_Constant_str ⟨typeIs_str _ _ _, (fun _ h => by cases h), ?_⟩
        refine callWith_method1 ?_ (star_cons e _)
        refine args_cons (X.sound hΦ e env σ _ a _ _ ha wf.1 (C.ext .tok) fun v s₁ hE₁ hv _ => args_nil ?_) (star_cons e _)
        exact join_sound h hv fun v s₂ hE₂ hv hf => hQ v s₂ ((Ext.tok.trans hE₁).trans hE₂) hv fun _ => hf.back (Ext.tok.trans hE₁)
    · cases h
  | .split e x l ps pa p => by
    intro env σ s q Q E h wf C hQ
    simp only [X.wf_split, Bool.and_eq_true] at wf
    unfold X.ev at h
    split at h
    · rename_i a ha
      have hx : Str.ofString x = toStr l := of_decide_eq_true wf.1.2
      refine wpAny_Call_method (attr_split e _) rfl wf.1.1.2 F.plainAttrs_str F.slot_str_split F.type_str_split ?_
      refine X.sound hΦ e env σ s a _ _ ha wf.1.1.1 C fun v s₁ hE₁ hv _ => ?_
      have hstr : ∃ l' t, v = .str (toStr l') t := by
        cases hv with
        | str l' t _ => exact ⟨l', t, rfl⟩
        | _ => simp [splitPV] at h
      obtain ⟨l', t, rfl⟩ := hstr
      refine ⟨typeIs_str _ _ _, (fun _ h => by cases h), ?_⟩
      refine callWith_method1 ?_ rfl
      refine args_cons ?_ rfl
      rw [hx]
      refine wpAny_Constant_str (args_nil ?_)
      exact split_sound h (hv.keeps (Ext.tok (tk := s₁.toks + 1)).keep) fun v s₂ hE₂ hv hf => hQ v s₂ ((hE₁.trans .tok).trans hE₂) hv fun _ => hf.back (hE₁.trans .tok)
    · cases h
  | .comp elt tgt pt it caps sc p => by
    intro env σ s q Q E h wf C hQ
    simp only [X.wf_comp, Bool.and_eq_true] at wf
    unfold X.ev at h
    split at h
    · rename_i xs hxs
      split at h
      · rename_i ys hys
        split at h
        · rename_i hl
          cases h
          refine comp_core (c := fun _ => some true) (f := fun (a : Atm) => (elt.ev Φ (setS (capS σ caps) tgt a.pv)).bind PV.atm?) (src := it.src) wf.1.1 C (fun Q hq => It.sound hΦ it env σ s xs Q E hxs wf.1.2 C hq) (by rw [mapO_filtO]; exact hys) hl ?_ ?_ (fun v s' hE hv hf => hQ v s' hE hv fun _ => hf) (folded_it it)
          · intro a b cenv s' Q' E' hb _ _ hq
            cases hb
            exact wpAny_tests_nil (hq s' (.refl _))
          · intro a b cenv s' Q' E' hb hsc C' hq
            obtain ⟨u, hu, hub⟩ := Option.bind_eq_some_iff.mp hb
            exact X.sound hΦ elt cenv _ s' u _ _ hu (by rw [hsc]; exact wf.2) C' fun v s'' hE hv _ => hq v s'' hE (hv.ais hub)
        · cases h
      · cases h
    · cases h
  | .compIf elt tgt pt it c caps sc p => by
    intro env σ s q Q E h wf C hQ
    simp only [X.wf_compIf, Bool.and_eq_true] at wf
    unfold X.ev at h
    split at h
    · rename_i xs hxs
      split at h
      · rename_i ys hys
        split at h
        · rename_i hl
          cases h
          refine comp_core (src := it.src) wf.1.1.1 C (fun Q hq => It.sound hΦ it env σ s xs Q E hxs wf.1.1.2 C hq) hys hl ?_ ?_ (fun v s' hE hv hf => hQ v s' hE hv fun _ => hf) (folded_it it)
          · intro a b cenv s' Q' E' hb hsc C' hq
            exact wpAny_tests_one (T.sound hΦ c cenv _ s' b _ _ hb (by rw [hsc]; exact wf.2) C' hq)
          · intro a b cenv s' Q' E' hb hsc C' hq
            obtain ⟨u, hu, hub⟩ := Option.bind_eq_some_iff.mp hb
            exact X.sound hΦ elt cenv _ s' u _ _ hu (by rw [hsc]; exact wf.1.2) C' fun v s'' hE hv _ => hq v s'' hE (hv.ais hub)
        · cases h
      · cases h
    · cases h
theorem Xs.sound (hΦ : PhiOk prog w D n fn Φ) : ∀ es : Xs, XsSound prog w A n D nm fn Φ es
  | .nil => by
    intro env σ s ps pos Q E h _ C hQ
    cases h
    exact args_nil (hQ _ _ (.refl _) .nil)
  | .cons e es => by
    intro env σ s ps pos Q E h wf C hQ
    simp only [Xs.wf_cons, Bool.and_eq_true] at wf
    unfold Xs.ev at h
    split at h
    · rename_i a ha
      split at h
      · rename_i ps hps
        cases h
        exact args_cons (X.sound hΦ e env σ s a _ _ ha wf.1 C fun v s₁ hE₁ hv _ => Xs.sound hΦ es env σ s₁ ps pos _ _ hps wf.2 (C.ext hE₁) fun vs s₂ hE₂ hvs => hQ _ _ (hE₁.trans hE₂) (.cons (hv.keeps hE₂.keep) hvs)) (star_cons e _)
      · cases h
    · cases h
theorem T.sound (hΦ : PhiOk prog w D n fn Φ) : ∀ t : T, TSound prog w A n D nm fn Φ t
  | .cmp op l r p => by
    intro env σ s q Q E e wf C hQ
    simp only [T.wf_cmp, Bool.and_eq_true, Bool.not_eq_true'] at wf
    unfold T.ev at e
    split at e
    · rename_i a ha
      split at e
      · rename_i b hb
        refine wpAny_isTrue_Compare1 (X.sound hΦ l env σ s a _ _ ha wf.1.1 C fun va s₁ hE₁ hva _ => X.sound hΦ r env σ s₁ b _ _ hb wf.1.2 (C.ext hE₁) fun vb s₂ hE₂ hvb _ => ?_) wf.2
        exact cmp_sound C.ctx e (hva.keeps hE₂.keep) hvb (wpAny_truthy_bool (hQ _ (hE₁.trans hE₂)))
      · cases e
    · cases e
  | .call g e es pn p => by
    intro env σ s q Q E h wf C hQ
    simp only [T.wf_call, Bool.and_eq_true] at wf
    unfold T.ev at h
    split at h
    · rename_i a ha
      split at h
      · rename_i ps hps
        split at h
        · rename_i b hb
          cases h
          refine wpAny_isTrue_value ?_ rfl
          refine call_sound hΦ (X.sound hΦ e) (Xs.sound hΦ es) ha hps hb wf.1.1 wf.1.2 wf.2 C fun v s' hE hv _ => ?_
          cases hv
          exact wpAny_truthy_bool (hQ _ hE)
        · cases h
      · cases h
    · cases h
  | .not t p => by
    intro env σ s q Q E h wf C hQ
    unfold T.ev at h
    split at h
    · rename_i b hb
      cases h
      exact wpAny_isTrue_Not (T.sound hΦ t env σ s b _ _ hb wf C fun s' hE => hQ s' hE)
    · cases h
  | .and a b p => by
    intro env σ s q Q E h wf C hQ
    simp only [T.wf_and, Bool.and_eq_true] at wf
    unfold T.ev at h
    refine wpAny_isTrue_BoolOp (wpAny_allTrue_And_cons ?_)
    split at h
    · rename_i ha
      refine T.sound hΦ a env σ s true _ _ ha wf.1 C fun s₁ hE₁ => ?_
      rw [if_pos rfl]
      refine wpAny_allTrue_And_cons (T.sound hΦ b env σ s₁ q _ _ h wf.2 (C.ext hE₁) fun s₂ hE₂ => ?_)
      cases q with
      | true => rw [if_pos rfl]; exact wpAny_allTrue_And_nil (hQ _ (hE₁.trans hE₂))
      | false => rw [if_neg Bool.false_ne_true]; exact hQ _ (hE₁.trans hE₂)
    · rename_i ha
      cases h
      refine T.sound hΦ a env σ s false _ _ ha wf.1 C fun s₁ hE₁ => ?_
      rw [if_neg Bool.false_ne_true]
      exact hQ _ hE₁
    · cases h
  | .or a b p => by
    intro env σ s q Q E h wf C hQ
    simp only [T.wf_or, Bool.and_eq_true] at wf
    unfold T.ev at h
    refine wpAny_isTrue_BoolOp (wpAny_allTrue_Or_cons ?_)
    split at h
    · rename_i ha
      cases h
      refine T.sound hΦ a env σ s true _ _ ha wf.1 C fun s₁ hE₁ => ?_
      rw [if_pos rfl]
      exact hQ _ hE₁
    · rename_i ha
      refine T.sound hΦ a env σ s false _ _ ha wf.1 C fun s₁ hE₁ => ?_
      rw [if_neg Bool.false_ne_true]
      refine wpAny_allTrue_Or_cons (T.sound hΦ b env σ s₁ q _ _ h wf.2 (C.ext hE₁) fun s₂ hE₂ => ?_)
      cases q with
      | true => rw [if_pos rfl]; exact hQ _ (hE₁.trans hE₂)
      | false => rw [if_neg Bool.false_ne_true]; exact wpAny_allTrue_Or_nil (hQ _ (hE₁.trans hE₂))
    · cases h
theorem It.sound (hΦ : PhiOk prog w D n fn Φ) : ∀ it : It, ItSound prog w A n D nm fn Φ it
  | .x e => by
    intro env σ s xs Q E h wf C hQ
    unfold It.ev at h
    split at h
    · rename_i p hp
      have key : e.isVar = false → wpAny (model prog w) A (eval (e.toE nm fn) env) (fun xv s₁ => wpAny (model prog w) A (pyIter xv) Q E s₁) E s := fun hv0 =>
        X.sound hΦ e env σ s p _ _ hp wf C fun v s₁ hE₁ hv hf => iter_pv h hE₁ hv (fun a ha => .inl (hf hv0 a ha)) hQ
      cases e with
      | var i pp =>
        obtain ⟨x, v, hx, hh, hv⟩ := C.ok.var i p hp
        have hnm : nmAt nm i = x := by unfold nmAt; rw [List.getD_eq_getElem?_getD, hx]; rfl
        show wpAny _ _ (eval (.Name (nmAt nm i) pp) env) _ _ _
        rw [hnm]
        refine load_holds C.ok.fn hh (C.ok.dbg x (List.mem_of_getElem? hx)) ?_
        exact iter_pv h (.refl s) hv (fun a ha => .inr ⟨i, x, rfl, hx, ha ▸ hh⟩) hQ
      | _ => exact key rfl
    · cases h
  | .r1 a pn p => by
    intro env σ s xs Q E h wf C hQ
    simp only [It.wf_r1, Bool.and_eq_true] at wf
    unfold It.ev at h
    split at h
    · rename_i j hj
      refine wpAny_Call_NameR (load_builtin C.gw C.ok.fn C.ok.gl C.ok.bl (isG_iff wf.1) range_in boot_range ?_)
      refine callWith_type1 ?_ (star_cons a _)
      refine args_cons (X.sound hΦ a env σ s _ _ _ hj wf.2 C fun v s₁ hE₁ hv _ => args_nil ?_) (star_cons a _)
      cases hv
      exact call_range_1 (iter_range h (hE₁.trans .push) (IsRange.new ..) hQ)
    · cases h
  | .r2 a b pn p => by
    intro env σ s xs Q E h wf C hQ
    simp only [It.wf_r2, Bool.and_eq_true] at wf
    unfold It.ev at h
    split at h
    · rename_i i hi
      split at h
      · rename_i j hj
        refine wpAny_Call_NameR (load_builtin C.gw C.ok.fn C.ok.gl C.ok.bl (isG_iff wf.1.1) range_in boot_range ?_)
        refine callWith_type1 ?_ (star_cons a _) (plain_star (.cons b .nil))
        refine args_cons (X.sound hΦ a env σ s _ _ _ hi wf.1.2 C fun v s₁ hE₁ hv _ => ?_) (star_cons a _)
        refine args_cons (X.sound hΦ b env σ s₁ _ _ _ hj wf.2 (C.ext hE₁) fun v' s₂ hE₂ hv' _ => args_nil ?_) (star_cons b _)
        cases hv; cases hv'
        exact call_range_2 (iter_range h ((hE₁.trans hE₂).trans .push) (IsRange.new ..) hQ)
      · cases h
    · cases h
  | .r3 a b c pn p => by
    intro env σ s xs Q E h wf C hQ
    simp only [It.wf_r3, Bool.and_eq_true] at wf
    unfold It.ev at h
    split at h
    · rename_i i hi
      split at h
      · rename_i j hj
        split at h
        · rename_i k hk
          refine wpAny_Call_NameR (load_builtin C.gw C.ok.fn C.ok.gl C.ok.bl (isG_iff wf.1.1.1) range_in boot_range ?_)
          refine callWith_type1 ?_ (star_cons a _) (plain_star (.cons b (.cons c .nil)))
          refine args_cons (X.sound hΦ a env σ s _ _ _ hi wf.1.1.2 C fun v s₁ hE₁ hv _ => ?_) (star_cons a _)
          refine args_cons (X.sound hΦ b env σ s₁ _ _ _ hj wf.1.2 (C.ext hE₁) fun v' s₂ hE₂ hv' _ => ?_) (star_cons b _)
          refine args_cons (X.sound hΦ c env σ s₂ _ _ _ hk wf.2 (C.ext (hE₁.trans hE₂)) fun v'' s₃ hE₃ hv'' _ => args_nil ?_) (star_cons c _)
          cases hv; cases hv'; cases hv''
          have hcc : k = 1 ∨ k = -1 := by
            unfold rangePV at h
            split at h
            · rename_i hc
              simp only [Bool.and_eq_true, Bool.or_eq_true, decide_eq_true_eq] at hc
              exact hc.2
            · cases h
          refine call_range_3 (by omega) (iter_range h (((hE₁.trans hE₂).trans hE₃).trans .push) (IsRange.new ..) hQ) (.inl ?_)
          have : ∀ x : Int, Builtin.divisionGoesByPylong x k = false := by
            intro x
            rcases hcc with rfl | rfl <;> (unfold Builtin.divisionGoesByPylong; simp; intro h; exfalso; revert h; decide)
          exact this _
        · cases h
      · cases h
    · cases h
end
end
end Mine
end
section
open PySem PySem.W PyProof.Rows PySem.Calls
set_option Elab.async false
set_option maxRecDepth 100000
namespace Mine

noncomputable def cellAddr (env : Env) (b : Addr) : Prop := ∃ x, env.kindOf x = some .cell ∧ env.cells.lookup x = some b
noncomputable def Own (env : Env) (nm : List Str) (O : List Nat) (h : Heap) (b : Addr) : Prop := ∃ i ∈ O, HoldsV env h (nmAt nm i) (.ref b)

noncomputable def SeqO (o : Obj) : Prop := ∃ its n, o.data = .seq its n
/-- the state of a call, between its statements -/
structure FR (n : Nat) (D : List DefItem) (A : Around) (env : Env) (nm : List Str) (O Mx : List Nat) (s₀ : Shared) (σ : Sg) (s : Shared) : Prop where
  ctx : CtxOk A n
  gw : GW D s₀.heap
  base : Ext s₀ s
  lns : ∃ m, s.heap.Ns env.locals m
  lnew : s₀.heap.get? env.locals = none
  cell : ∀ x, env.kindOf x = some .cell → ∃ c o, env.cells.lookup x = some c ∧ s.heap.IsCell c o ∧ s₀.heap.get? c = none
  apart : ∀ x y c, env.cells.lookup x = some c → env.cells.lookup y = some c → x = y
  nodup : ∀ i j, i < nm.length → j < nm.length → nmAt nm i = nmAt nm j → i = j
  len : σ.length = nm.length
  ok : EnvOk env nm σ s.heap
  liveS : ∀ x a, HoldsV env s.heap x (.ref a) → ∃ o, s.heap.get? a = some o ∧ SeqO o
  own : ∀ i ∈ O, ∀ a, HoldsV env s.heap (nmAt nm i) (.ref a) → s₀.heap.get? a = none ∧ ∀ y, HoldsV env s.heap y (.ref a) → y = nmAt nm i
  plain : ∀ i ∈ Mx, ∀ a, HoldsV env s.heap (nmAt nm i) (.ref a) → ∃ its, s.heap.PlainList a its
  sub : ∀ i ∈ Mx, i ∈ O
  inb : ∀ i ∈ O, i < nm.length

structure Eff (env : Env) (nm : List Str) (O : List Nat) (s s' : Shared) : Prop where
  keep : ∀ b o, s.heap.get? b = some o → b ≠ env.locals → ¬ cellAddr env b → ¬ Own env nm O s.heap b → s'.heap.get? b = some o ∧ ¬ Own env nm O s'.heap b
  quiet : ∀ b o, s.heap.get? b = some o → b ≠ env.locals → ¬ cellAddr env b → (∀ y, ¬ HoldsV env s.heap y (.ref b)) → ∀ y, ¬ HoldsV env s'.heap y (.ref b)
  gens : ∀ (i : Nat) (x : GenState), s.gens[i]? = some x → s'.gens[i]? = some x
theorem Eff.trans {env : Env} {nm : List Str} {O : List Nat} {a b c : Shared} (x : Eff env nm O a b) (y : Eff env nm O b c) : Eff env nm O a c :=
  ⟨fun i o e h1 h2 h3 => let ⟨p, q⟩ := x.keep i o e h1 h2 h3; y.keep i o p h1 h2 q,
   fun i o e h1 h2 h3 => y.quiet i o (x.keep i o e h1 h2 (fun ⟨j, _, hj⟩ => h3 _ hj)).1 h1 h2 (x.quiet i o e h1 h2 h3), fun i g e => y.gens i g (x.gens i g e)⟩
theorem Eff.refl {env : Env} {nm : List Str} {O : List Nat} {a : Shared} : Eff env nm O a a := ⟨fun _ _ e _ _ h => ⟨e, h⟩, fun _ _ _ _ _ h => h, fun _ _ e => e⟩

theorem HoldsV.same {env : Env} {h h' : Heap} {x : Str} {v : Value} (hL : h'.get? env.locals = h.get? env.locals) (hC : ∀ b, cellAddr env b → h'.get? b = h.get? b) (y : HoldsV env h' x v) : HoldsV env h x v := by
  rcases y with ⟨k, m, hn, e⟩ | ⟨k, c, hc, ⟨o, ho, hd⟩⟩
  · exact .inl ⟨k, m, hn.at' (fun o ho => by rw [← hL]; exact ho), e⟩
  · exact .inr ⟨k, c, hc, o, by rw [← hC c ⟨x, k, hc⟩]; exact ho, hd⟩
theorem HoldsV.same_iff {env : Env} {h h' : Heap} {x : Str} {v : Value} (hL : h'.get? env.locals = h.get? env.locals) (hC : ∀ b, cellAddr env b → h'.get? b = h.get? b) : HoldsV env h' x v ↔ HoldsV env h x v :=
  ⟨HoldsV.same hL hC, HoldsV.same hL.symm fun b hb => (hC b hb).symm⟩

section
variable {n : Nat} {D : List DefItem} {A : Around} {env : Env} {nm : List Str} {O Mx : List Nat} {s₀ s s' : Shared} {σ : Sg}

theorem FR.live (F : FR n D A env nm O Mx s₀ σ s) (x : Str) (a : Addr) (h : HoldsV env s.heap x (.ref a)) : ∃ o, s.heap.get? a = some o := let ⟨o, ho, _⟩ := F.liveS x a h; ⟨o, ho⟩
theorem FR.cs (F : FR n D A env nm O Mx s₀ σ s) : CS n D A env nm σ s :=
  ⟨F.ctx, F.gw.keeps F.base.keep, fun x hx => let ⟨c, _, hc, _⟩ := F.cell x hx; ⟨c, hc⟩, F.ok⟩
theorem FR.lget (F : FR n D A env nm O Mx s₀ σ s) : ∃ o, s.heap.get? env.locals = some o := let ⟨_, o, _, _, ho, _⟩ := F.lns; ⟨o, ho⟩
theorem FR.cget (F : FR n D A env nm O Mx s₀ σ s) {b : Addr} (h : cellAddr env b) : ∃ o, s.heap.get? b = some o := by
  obtain ⟨x, hk, hc⟩ := h
  obtain ⟨c, o, hc', ⟨ob, ho, _⟩, _⟩ := F.cell x hk
  rw [hc] at hc'; cases hc'
  exact ⟨ob, ho⟩
theorem FR.cnew (F : FR n D A env nm O Mx s₀ σ s) {b : Addr} (h : cellAddr env b) : s₀.heap.get? b = none := by
  obtain ⟨x, hk, hc⟩ := h
  obtain ⟨c, o, hc', _, h⟩ := F.cell x hk
  rw [hc] at hc'; cases hc'
  exact h
theorem FR.lp_ne (F : FR n D A env nm O Mx s₀ σ s) {a : Addr} {vs : Array Value} (h : LP s.heap a vs) : a ≠ env.locals ∧ ¬ cellAddr env a := by
  obtain ⟨o, k, ho, _, hd⟩ := h
  refine ⟨fun q => ?_, fun ⟨x, hk, hc⟩ => ?_⟩
  · obtain ⟨m, o', es, ep, ho', hd', _⟩ := F.lns
    rw [q, ho'] at ho; cases ho
    rw [hd'] at hd; cases hd
  · obtain ⟨c, o', hc', ⟨ob, hob, hdd⟩, _⟩ := F.cell x hk
    rw [hc] at hc'; cases hc'
    rw [hob] at ho; cases ho
    rw [hdd] at hd; cases hd
theorem FR.plain_ne (F : FR n D A env nm O Mx s₀ σ s) {a : Addr} {vs : Array Value} (h : s.heap.PlainList a vs) : a ≠ env.locals ∧ ¬ cellAddr env a := let ⟨k, hk⟩ := h; F.lp_ne (vs := vs) ⟨_, k, hk, rfl, rfl⟩

/-- what leaves the frame's own map and cells alone leaves the names' values alone -/
theorem FR.holds_of (F : FR n D A env nm O Mx s₀ σ s) {h' : Heap} (hk : ∀ b o, (b = env.locals ∨ cellAddr env b) → s.heap.get? b = some o → h'.get? b = some o) (y : Str) (u : Value) : HoldsV env h' y u ↔ HoldsV env s.heap y u := by
  refine HoldsV.same_iff ?_ fun b hb => ?_
  · obtain ⟨o, ho⟩ := F.lget
    rw [ho, hk _ _ (.inl rfl) ho]
  · obtain ⟨o, ho⟩ := F.cget hb
    rw [ho, hk _ _ (.inr hb) ho]
theorem FR.holds_ext (F : FR n D A env nm O Mx s₀ σ s) (e : Ext s s') (y : Str) (u : Value) : HoldsV env s'.heap y u ↔ HoldsV env s.heap y u := F.holds_of (fun b o _ h => e.keep b o h) y u

/-- a change away from all that the frame holds -/
theorem FR.away' (F : FR n D A env nm O Mx s₀ σ s) {wr : List Addr} {h' : Heap} {os} {gens} {dd} {tk : Nat} (hk : ∀ b o, s.heap.get? b = some o → (b ∉ wr ∨ (SeqO o ∧ ∃ y, HoldsV env s.heap y (.ref b))) → h'.get? b = some o)
    (hw : ∀ b ∈ wr, s₀.heap.get? b = none ∧ b ≠ env.locals ∧ ¬ cellAddr env b) (hos : os = s.os) (hg : GensOk s₀.gens gens) :
    FR n D A env nm O Mx s₀ σ { heap := h', gens := gens, drawn := dd, toks := tk, os := os } ∧ ∀ y u, HoldsV env h' y u ↔ HoldsV env s.heap y u := by
  have hL : env.locals ∉ wr := fun h => (hw _ h).2.1 rfl
  have hC : ∀ b, cellAddr env b → b ∉ wr := fun b hb h => (hw _ h).2.2 hb
  have H : ∀ y u, HoldsV env h' y u ↔ HoldsV env s.heap y u := F.holds_of fun b o hb e => by
    rcases hb with rfl | hb
    · exact hk _ _ e (.inl hL)
    · exact hk _ _ e (.inl (hC b hb))
  refine ⟨⟨F.ctx, F.gw, ⟨fun b o e => hk b o (F.base.keep b o e) (.inl fun h => by rw [(hw b h).1] at e; cases e), hos.trans F.base.os, hg⟩, ?_, F.lnew, fun x hx => ?_, F.apart, F.nodup, F.len,
    ⟨F.ok.fn, F.ok.gl, F.ok.bl, F.ok.dbg, fun i p e => ?_⟩, fun x a h => ?_, fun i hi a h => ?_, fun i hi a h => ?_, F.sub, F.inb⟩, H⟩
  · obtain ⟨m, hm⟩ := F.lns
    exact ⟨m, hm.at' fun o e => hk _ o e (.inl hL)⟩
  · obtain ⟨c, o, h1, ⟨ob, h2, h3⟩, h4⟩ := F.cell x hx
    exact ⟨c, o, h1, ⟨ob, hk _ _ h2 (.inl (hC c ⟨x, hx, h1⟩)), h3⟩, h4⟩
  · obtain ⟨x, v, h1, h2, h3⟩ := F.ok.var i p e
    refine ⟨x, v, h1, (H x v).mpr h2, ?_⟩
    cases h3 with
    | none => exact .none
    | bool b => exact .bool b
    | int i t => exact .int i t
    | str l t hl => exact .str l t hl
    | list hp hx hl =>
      obtain ⟨o, k, ho, hc, hd⟩ := hp
      exact .list ⟨o, k, hk _ _ ho (.inr ⟨⟨_, _, hd⟩, x, h2⟩), hc, hd⟩ hx hl
  · have h2 := (H x _).mp h
    obtain ⟨o, ho, hs⟩ := F.liveS x a h2
    exact ⟨o, hk _ _ ho (.inr ⟨hs, x, h2⟩), hs⟩
  · have h2 := (H _ _).mp h
    exact ⟨(F.own i hi a h2).1, fun y hy => (F.own i hi a h2).2 y ((H _ _).mp hy)⟩
  · have h2 := (H _ _).mp h
    obtain ⟨its, k, ho⟩ := F.plain i hi a h2
    exact ⟨its, k, hk _ _ ho (.inr ⟨⟨_, _, rfl⟩, _, h2⟩)⟩
theorem FR.away (F : FR n D A env nm O Mx s₀ σ s) {wr : List Addr} {h' : Heap} {os} {gens} {dd} {tk : Nat} (hk : ∀ b o, b ∉ wr → s.heap.get? b = some o → h'.get? b = some o)
    (hw : ∀ b ∈ wr, s₀.heap.get? b = none ∧ b ≠ env.locals ∧ ¬ cellAddr env b ∧ ∀ y, ¬ HoldsV env s.heap y (.ref b)) (hos : os = s.os) (hg : GensOk s₀.gens gens) :
    FR n D A env nm O Mx s₀ σ { heap := h', gens := gens, drawn := dd, toks := tk, os := os } ∧ ∀ y u, HoldsV env h' y u ↔ HoldsV env s.heap y u :=
  F.away' (wr := wr) (fun b o e h => by
    by_cases hb : b ∈ wr
    · rcases h with h | ⟨_, y, hy⟩
      · exact absurd hb h
      · exact absurd hy ((hw b hb).2.2.2 y)
    · exact hk b o hb e) (fun b hb => ⟨(hw b hb).1, (hw b hb).2.1, (hw b hb).2.2.1⟩) hos hg
theorem FR.ext (F : FR n D A env nm O Mx s₀ σ s) (e : Ext s s') : FR n D A env nm O Mx s₀ σ s' :=
  (F.away (wr := []) (h' := s'.heap) (os := s'.os) (gens := s'.gens) (dd := s'.drawn) (tk := s'.toks) (fun b o _ h => e.keep b o h) (fun b h => by cases h) e.os (F.base.gens.trans e.gens)).1
theorem FR.eff (F : FR n D A env nm O Mx s₀ σ s) (e : Ext s s') : Eff env nm O s s' :=
  ⟨fun b o h _ _ h3 => ⟨e.keep b o h, fun ⟨i, hi, hh⟩ => h3 ⟨i, hi, (F.holds_ext e _ _).mp hh⟩⟩, fun b o h _ _ h3 y hy => h3 y ((F.holds_ext e _ _).mp hy), e.gens.old⟩

theorem vis_but {h h' : Heap} {t : Addr} {v : Value} {p : PV} (x : VIs h v p) (hs : Heap.SameBut t h h') (ht : ∀ a vs, LP h a vs → a ≠ t) : VIs h' v p := by
  cases x with
  | none => exact .none
  | bool b => exact .bool b
  | int i t => exact .int i t
  | str l t hl => exact .str l t hl
  | list hp hx hl =>
    have hne := ht _ _ hp
    obtain ⟨o, k, ho, r⟩ := hp
    exact .list ⟨o, k, (hs.2 _ hne).trans ho, r⟩ hx hl

structure Stored (env : Env) (nm : List Str) (x : Nat) (v : Value) (s₂ s₃ : Shared) : Prop where
  keep : ∀ b o, b ≠ env.locals → ¬ cellAddr env b → s₂.heap.get? b = some o → s₃.heap.get? b = some o
  who : ∀ y a, HoldsV env s₃.heap y (.ref a) → (y = nmAt nm x ∧ v = .ref a) ∨ HoldsV env s₂.heap y (.ref a)

theorem FR.stored {s₁ s₂ : Shared} {v : Value} {p : PV} {x : Nat} {h₃ : Heap} {t : Addr} {tk : Nat} (F : FR n D A env nm O Mx s₀ σ s₁) (e : Ext s₁ s₂) (hv : VIs s₂.heap v p) (hf : Fresh s₁ v) (hx : x < nm.length)
    (hM : x ∈ Mx → ∀ a, v = .ref a → ∃ its, s₂.heap.PlainList a its) (hs : Heap.SameBut t s₂.heap h₃) (ht : t = env.locals ∨ cellAddr env t)
    (H : ∀ y u, HoldsV env h₃ y u ↔ (y = nmAt nm x ∧ u = v) ∨ (y ≠ nmAt nm x ∧ HoldsV env s₂.heap y u))
    (lns : ∃ m, h₃.Ns env.locals m) (cell : ∀ x, env.kindOf x = some .cell → ∃ c o, env.cells.lookup x = some c ∧ h₃.IsCell c o) :
    FR n D A env nm O Mx s₀ (setS σ x p) { s₂ with heap := h₃, toks := tk } ∧ Eff env nm O s₁ { s₂ with heap := h₃, toks := tk } := by
  have F₂ := F.ext e
  have hne : ∀ a vs, LP s₂.heap a vs → a ≠ t := fun a vs h q => by
    have := F₂.lp_ne h
    rcases ht with rfl | ht
    · exact this.1 q
    · exact this.2 (q ▸ ht)
  have htn : s₀.heap.get? t = none := by
    rcases ht with rfl | ht
    · exact F.lnew
    · exact F.cnew ht
  have htg : ∃ o, s₁.heap.get? t = some o := by
    rcases ht with rfl | ht
    · exact F.lget
    · exact F.cget ht
  have hvr : ∀ a, v = .ref a → ∃ vs, LP s₂.heap a vs := fun a h => by
    subst h
    cases hv with
    | list hp _ _ => exact ⟨_, hp⟩
  have old : ∀ y a, HoldsV env s₂.heap y (.ref a) → ∃ o, s₁.heap.get? a = some o := fun y a h => F.live y a ((F.holds_ext e y _).mp h)
  refine ⟨⟨F.ctx, F.gw, ⟨fun b o h => ?_, e.os.trans F.base.os, F.base.gens.trans e.gens⟩, lns, F.lnew, fun y hy => ?_, F.apart, F.nodup, by simpa [setS] using F.len, ⟨F.ok.fn, F.ok.gl, F.ok.bl, F.ok.dbg, fun i q hq => ?_⟩, fun y a h => ?_, fun i hi a h => ?_, fun i hi a h => ?_, F.sub, F.inb⟩, ⟨fun b o h h1 h2 h3 => ⟨?_, fun ⟨i, hi, hh⟩ => ?_⟩, fun b o h h1 h2 h3 y hy => ?_, e.gens.old⟩⟩
  · exact (hs.2 b fun q => by rw [q, htn] at h; cases h).trans (e.keep _ _ (F.base.keep b o h))
  · obtain ⟨c, o, h1, h2⟩ := cell y hy
    exact ⟨c, o, h1, h2, F.cnew ⟨y, hy, h1⟩⟩
  · rw [getS_set] at hq
    by_cases hc : i = x ∧ x < σ.length
    · rw [if_pos hc] at hq
      cases hq
      obtain ⟨rfl, _⟩ := hc
      exact ⟨_, v, nmAt_get hx, (H _ _).mpr (.inl ⟨rfl, rfl⟩), vis_but hv hs hne⟩
    · rw [if_neg hc] at hq
      have hix : i ≠ x := fun h => hc ⟨h, by rw [F.len]; exact hx⟩
      obtain ⟨y, u, h1, h2, h3⟩ := F₂.ok.var i q hq
      have hil : i < nm.length := by
        have := List.getElem?_eq_some_iff.mp h1
        exact this.1
      have hyx : y ≠ nmAt nm x := fun h => by
        rw [nmAt_get hil] at h1
        exact hix (F.nodup i x hil hx ((Option.some.inj h1).trans h))
      exact ⟨y, u, h1, (H _ _).mpr (.inr ⟨hyx, h2⟩), vis_but h3 hs hne⟩
  · rcases (H _ _).mp h with ⟨_, hr⟩ | ⟨_, hr⟩
    · obtain ⟨vs, hlp⟩ := hvr a hr.symm
      have hlp' := hlp
      obtain ⟨o, k, ho, _, hd⟩ := hlp'
      exact ⟨o, (hs.2 a (hne a vs hlp)).trans ho, _, _, hd⟩
    · obtain ⟨o, ho, hsq⟩ := F₂.liveS y a hr
      have hat : a ≠ t := fun q => by
        obtain ⟨its, kk, hd⟩ := hsq
        rcases ht with rfl | ht
        · obtain ⟨m, o', es, ep, ho', hd', _⟩ := F₂.lns
          rw [← q, ho] at ho'; cases ho'
          rw [hd'] at hd; cases hd
        · obtain ⟨z, hk, hc⟩ := ht
          obtain ⟨c, o', hc', ⟨ob, hob, hdd⟩, _⟩ := F₂.cell z hk
          rw [hc] at hc'; cases hc'
          rw [← q, ho] at hob; cases hob
          rw [hdd] at hd; cases hd
      exact ⟨o, (hs.2 a hat).trans ho, hsq⟩
  · rcases (H _ _).mp h with ⟨hi1, hr⟩ | ⟨hi1, hr⟩
    · refine ⟨?_, fun y hy => ?_⟩
      · cases q : s₀.heap.get? a with
        | none => rfl
        | some o => have := F.base.keep _ _ q; rw [hf a hr.symm] at this; cases this
      · rcases (H _ _).mp hy with ⟨h5, _⟩ | ⟨_, h5⟩
        · exact h5.trans hi1.symm
        · obtain ⟨o, ho⟩ := old y a h5
          rw [hf a hr.symm] at ho; cases ho
    · have h2 := F₂.own i hi a hr
      refine ⟨h2.1, fun y hy => ?_⟩
      rcases (H _ _).mp hy with ⟨_, h5⟩ | ⟨_, h5⟩
      · obtain ⟨o, ho⟩ := old _ a hr
        rw [hf a h5.symm] at ho; cases ho
      · exact h2.2 y h5
  · have hpl : ∃ its, s₂.heap.PlainList a its := by
      rcases (H _ _).mp h with ⟨hi1, hr⟩ | ⟨hi1, hr⟩
      · have := F.nodup i x (F.inb i (F.sub i hi)) hx hi1
        exact hM (this ▸ hi) a hr.symm
      · exact F₂.plain i hi a hr
    obtain ⟨its, hits⟩ := hpl
    have hne2 := hne a its (let ⟨k, hk⟩ := hits; ⟨_, k, hk, rfl, rfl⟩)
    obtain ⟨k, hk⟩ := hits
    exact ⟨its, k, (hs.2 a hne2).trans hk⟩
  · exact (hs.2 b fun q => by rcases ht with rfl | ht; exact h1 q; exact h2 (q ▸ ht)).trans (e.keep _ _ h)
  · rcases (H _ _).mp hh with ⟨_, hr⟩ | ⟨_, hr⟩
    · rw [hf b hr.symm] at h; cases h
    · exact h3 ⟨i, hi, (F.holds_ext e _ _).mp hr⟩
  · rcases (H _ _).mp hy with ⟨_, hr⟩ | ⟨_, hr⟩
    · rw [hf b hr.symm] at h; cases h
    · exact h3 y ((F.holds_ext e _ _).mp hr)
end
end Mine
end
section
open PySem PySem.W PyProof.Rows PySem.Calls
set_option Elab.async false
set_option maxRecDepth 100000
namespace Mine

section
variable {n : Nat} {D : List DefItem} {A : Around} {env : Env} {nm : List Str} {O Mx : List Nat} {s₀ s s' : Shared} {σ : Sg}

theorem FR.store {M : Model} {s₁ s₂ : Shared} {v : Value} {p : PV} {x : Nat} {Q : Unit → Shared → Prop} {E : Value → Shared → Prop} (F : FR n D A env nm O Mx s₀ σ s₁) (e : Ext s₁ s₂) (hv : VIs s₂.heap v p) (hf : Fresh s₁ v) (hx : x < nm.length)
    (hk : env.kindOf (nmAt nm x) = some .local ∨ env.kindOf (nmAt nm x) = some .cell)
    (hM : x ∈ Mx → ∀ a, v = .ref a → ∃ its, s₂.heap.PlainList a its)
    (hQ : ∀ s₃, FR n D A env nm O Mx s₀ (setS σ x p) s₃ → Eff env nm O s₁ s₃ → Stored env nm x v s₂ s₃ → Q () s₃) : wpAny M A (storeName env (nmAt nm x) v) Q E s₂ := by
  have F₂ := F.ext e
  have hfn := F.ok.fn
  rcases hk with hk | hk
  · obtain ⟨m, hm⟩ := F₂.lns
    refine wpAny_storeName_local hk hm (fun h' hn hs => ?_) (by rw [hfn]; rfl)
    have hC : ∀ b, cellAddr env b → h'.get? b = s₂.heap.get? b := fun b hb => hs.2 b fun q => by
      obtain ⟨z, hz, hc⟩ := hb
      obtain ⟨c, o', hc', ⟨ob, hob, hdd⟩, _⟩ := F₂.cell z hz
      rw [hc] at hc'; cases hc'
      obtain ⟨o2, es, ep, ho2, hd2, _⟩ := hm
      rw [q, ho2] at hob; cases hob
      rw [hd2] at hdd; cases hdd
    have H : ∀ y u, HoldsV env h' y u ↔ (y = nmAt nm x ∧ u = v) ∨ (y ≠ nmAt nm x ∧ HoldsV env s₂.heap y u) := by
      intro y u
      constructor
      · rintro (⟨k, m', hm', hu⟩ | ⟨k, c, hc, hcell⟩)
        · have := ns_uniq hm' hn y
          rw [hu] at this
          by_cases hy : y = nmAt nm x
          · rw [if_pos hy] at this
            exact .inl ⟨hy, Option.some.inj this⟩
          · rw [if_neg hy] at this
            exact .inr ⟨hy, .inl ⟨k, m, hm, this.symm⟩⟩
        · have hy : y ≠ nmAt nm x := fun h => by rw [h, hk] at k; cases k
          obtain ⟨o, ho, hd⟩ := hcell
          exact .inr ⟨hy, .inr ⟨k, c, hc, o, (hC c ⟨y, k, hc⟩) ▸ ho, hd⟩⟩
      · rintro (⟨rfl, rfl⟩ | ⟨hy, ⟨k, m', hm', hu⟩ | ⟨k, c, hc, o, ho, hd⟩⟩)
        · exact .inl ⟨hk, _, hn, by simp⟩
        · refine .inl ⟨k, _, hn, ?_⟩
          have := ns_uniq hm' hm y
          simp only [hy, if_false]
          rw [← this]; exact hu
        · exact .inr ⟨k, c, hc, o, (hC c ⟨y, k, hc⟩).trans ho, hd⟩
    obtain ⟨hF, hE⟩ := F.stored (tk := s₂.toks + 1) e hv hf hx hM hs (.inl rfl) H ⟨_, hn⟩ (fun y hy => by
      obtain ⟨c, o, h1, ⟨ob, h2, h3⟩, _⟩ := F₂.cell y hy
      exact ⟨c, o, h1, ob, (hC c ⟨y, hy, h1⟩).trans h2, h3⟩)
    refine hQ _ hF hE ⟨fun b o h1 h2 h3 => (hs.2 b h1).trans h3, fun y a hy => ?_⟩
    rcases (H _ _).mp hy with ⟨h1, h2⟩ | ⟨_, h2⟩
    · exact .inl ⟨h1, h2.symm⟩
    · exact .inr h2
  · obtain ⟨c, o, hc, hcell, hcn⟩ := F₂.cell _ hk
    refine wpAny_storeName_cell hfn hk hc hcell fun h' hn hs => ?_
    obtain ⟨m, hm⟩ := F₂.lns
    have hLc : env.locals ≠ c := fun q => by
      obtain ⟨ob, hob, hdd⟩ := hcell
      obtain ⟨o2, es, ep, ho2, hd2, _⟩ := hm
      rw [← q, ho2] at hob; cases hob
      rw [hd2] at hdd; cases hdd
    have hm' : h'.Ns env.locals m := hm.at' fun o ho => (hs.2 _ hLc).trans ho
    have ap : ∀ y d, env.cells.lookup y = some d → y ≠ nmAt nm x → d ≠ c := fun y d hd hy q => hy (F.apart _ _ c (q ▸ hd) hc)
    have H : ∀ y u, HoldsV env h' y u ↔ (y = nmAt nm x ∧ u = v) ∨ (y ≠ nmAt nm x ∧ HoldsV env s₂.heap y u) := by
      intro y u
      constructor
      · intro hy
        by_cases hyx : y = nmAt nm x
        · refine .inl ⟨hyx, ?_⟩
          exact HoldsV.uniq hy (.inr ⟨hyx ▸ hk, c, hyx ▸ hc, hn⟩)
        · refine .inr ⟨hyx, ?_⟩
          rcases hy with ⟨k, m2, hm2, hu⟩ | ⟨k, d, hd, ob, ho, hdd⟩
          · have := ns_uniq hm2 hm' y
            exact .inl ⟨k, m, hm, by rw [← this]; exact hu⟩
          · exact .inr ⟨k, d, hd, ob, (hs.2 d (ap y d hd hyx)) ▸ ho, hdd⟩
      · rintro (⟨rfl, rfl⟩ | ⟨hy, ⟨k, m2, hm2, hu⟩ | ⟨k, d, hd, ob, ho, hdd⟩⟩)
        · exact .inr ⟨hk, c, hc, hn⟩
        · refine .inl ⟨k, m, hm', ?_⟩
          have := ns_uniq hm2 hm y
          rw [← this]; exact hu
        · exact .inr ⟨k, d, hd, ob, (hs.2 d (ap y d hd hy)).trans ho, hdd⟩
    obtain ⟨hF, hE⟩ := F.stored (tk := s₂.toks) e hv hf hx hM hs (.inr ⟨_, hk, hc⟩) H ⟨_, hm'⟩ (fun y hy => by
      obtain ⟨d, o, h1, ⟨ob, h2, h3⟩, _⟩ := F₂.cell y hy
      by_cases hyx : y = nmAt nm x
      · exact ⟨c, some v, hyx ▸ hc, hn⟩
      · exact ⟨d, o, h1, ob, (hs.2 d (ap y d h1 hyx)).trans h2, h3⟩)
    refine hQ _ hF hE ⟨fun b o h1 h2 h3 => (hs.2 b fun q => h2 ⟨_, hk, q ▸ hc⟩).trans h3, fun y a hy => ?_⟩
    rcases (H _ _).mp hy with ⟨h1, h2⟩ | ⟨_, h2⟩
    · exact .inl ⟨h1, h2.symm⟩
    · exact .inr h2

/-- a list of the frame's own is changed in place -/
theorem FR.mutate {x : Nat} {a : Addr} {h' : Heap} {ws : List Value} {ys : List Atm} {its' : Array Value} {tk : Nat} (F : FR n D A env nm O Mx s₀ σ s) (hxM : x ∈ Mx) (hold : HoldsV env s.heap (nmAt nm x) (.ref a))
    (hs : Heap.SameBut a s.heap h') (hp : h'.PlainList a its') (hw : its' = ws.toArray) (hA : AllIs ws ys) (hl : ys.length ≤ lim) :
    FR n D A env nm O Mx s₀ (setS σ x (.list ys)) { s with heap := h', toks := tk } ∧ Eff env nm O s { s with heap := h', toks := tk } := by
  subst hw
  have hxO := F.sub x hxM
  have hx := F.inb x hxO
  obtain ⟨its, hits⟩ := F.plain x hxM a hold
  obtain ⟨hn1, hn2⟩ := F.plain_ne hits
  obtain ⟨ho1, ho2⟩ := F.own x hxO a hold
  have kp : ∀ b o, b ≠ a → s.heap.get? b = some o → h'.get? b = some o := fun b o hb e => (hs.2 b hb).trans e
  have H : ∀ y u, HoldsV env h' y u ↔ HoldsV env s.heap y u := F.holds_of fun b o hb e => kp b o (fun q => by
    rcases hb with rfl | hb
    · exact hn1 q.symm
    · exact hn2 (q ▸ hb)) e
  refine ⟨⟨F.ctx, F.gw, ⟨fun b o h => kp b o (fun q => by rw [q, ho1] at h; cases h) (F.base.keep b o h), F.base.os, F.base.gens⟩, ?_, F.lnew, fun y hy => ?_, F.apart, F.nodup, by simpa [setS] using F.len, ⟨F.ok.fn, F.ok.gl, F.ok.bl, F.ok.dbg, fun i q hq => ?_⟩,
    fun y b h => ?_, fun i hi b h => ?_, fun i hi b h => ?_, F.sub, F.inb⟩, ⟨fun b o h h1 h2 h3 => ⟨kp b o (fun q => h3 ⟨x, hxO, q ▸ hold⟩) h, fun ⟨i, hi, hh⟩ => h3 ⟨i, hi, (H _ _).mp hh⟩⟩, fun b o _ _ _ h3 y hy => h3 y ((H _ _).mp hy), fun _ _ e => e⟩⟩
  · obtain ⟨m, hm⟩ := F.lns
    exact ⟨m, hm.at' fun o e => kp _ o (Ne.symm hn1) e⟩
  · obtain ⟨c, o, h1, ⟨ob, h2, h3⟩, h4⟩ := F.cell y hy
    exact ⟨c, o, h1, ⟨ob, kp _ _ (fun q => hn2 (q ▸ ⟨y, hy, h1⟩)) h2, h3⟩, h4⟩
  · rw [getS_set] at hq
    by_cases hc : i = x ∧ x < σ.length
    · rw [if_pos hc] at hq
      cases hq
      obtain ⟨rfl, _⟩ := hc
      exact ⟨_, .ref a, nmAt_get hx, (H _ _).mpr hold, .list (let ⟨k, hk⟩ := hp; ⟨_, k, hk, rfl, rfl⟩) hA hl⟩
    · rw [if_neg hc] at hq
      have hix : i ≠ x := fun h => hc ⟨h, by rw [F.len]; exact hx⟩
      obtain ⟨y, u, h1, h2, h3⟩ := F.ok.var i q hq
      have hil : i < nm.length := (List.getElem?_eq_some_iff.mp h1).1
      have hyx : y ≠ nmAt nm x := fun h => by
        rw [nmAt_get hil] at h1
        exact hix (F.nodup i x hil hx ((Option.some.inj h1).trans h))
      refine ⟨y, u, h1, (H _ _).mpr h2, ?_⟩
      cases h3 with
      | none => exact .none
      | bool b => exact .bool b
      | int i t => exact .int i t
      | str l t hl => exact .str l t hl
      | list hp' hx' hl' =>
        obtain ⟨o, k, ho, r⟩ := hp'
        exact .list ⟨o, k, kp _ _ (fun q => hyx (ho2 y (q ▸ h2))) ho, r⟩ hx' hl'
  · obtain ⟨o, ho, hsq⟩ := F.liveS y b ((H _ _).mp h)
    by_cases hba : b = a
    · obtain ⟨k, hk⟩ := hp
      exact ⟨_, hba ▸ hk, _, _, rfl⟩
    · exact ⟨o, kp _ _ hba ho, hsq⟩
  · have h2 := (H _ _).mp h
    exact ⟨(F.own i hi b h2).1, fun y hy => (F.own i hi b h2).2 y ((H _ _).mp hy)⟩
  · have h2 := (H _ _).mp h
    by_cases hba : b = a
    · exact ⟨_, hba ▸ hp⟩
    · obtain ⟨its, k, ho⟩ := F.plain i hi b h2
      exact ⟨its, k, kp _ _ hba ho⟩
end

theorem plain_set {h : Heap} {a : Addr} {its : Array Value} {k : Nat} (f : Array Value → Array Value) (e : h.get? a = some { cls := .type "list", data := .seq its k }) : (h.update a (Obj.mapSeq f)).PlainList a (f its) :=
  ⟨_, Heap.get?_update_self _ e rfl⟩
theorem getS_lt {σ : Sg} {i : Nat} {p : PV} (h : getS σ i = some p) : i < σ.length := by
  unfold getS at h
  rw [List.getD_eq_getElem?_getD] at h
  by_cases hi : i < σ.length
  · exact hi
  · rw [List.getElem?_eq_none (by omega)] at h; cases h

noncomputable def augAdd (a b : PV) : Option PV := match a, b with
  | .int x, .int y => some (.int (x + y))
  | .str x, .str y => if (x ++ y).length ≤ lim then some (.str (x ++ y)) else none
  | _, _ => none
noncomputable def augPV (op : Operator) (a b : PV) : Option PV := match op with
  | .Add => augAdd a b
  | .Sub => intB (fun x y => some (.int (x - y))) a b
  | .FloorDiv => intB (fun x y => if small y = true then some (.int (x.fdiv y)) else none) a b
  | _ => none
section
variable {prog : Program} {w : World} {A : Around} {E : Value → Shared → Prop} {s : Shared}
theorem aug_sound {op : Operator} {a b r : PV} {va vb : Value} {Q : Value → Shared → Prop} (e : augPV op a b = some r) (ha : VIs s.heap va a) (hb : VIs s.heap vb b)
    (hQ : ∀ v s', Ext s s' → VIs s'.heap v r → Fresh s v → (∃ c, r.atm? = some c) → Q v s') : wpAny (model prog w) A (inplaceOp op va vb) Q E s := by
  cases op with
  | Add =>
    change augAdd a b = some r at e
    unfold augAdd at e
    split at e
    · cases e; obtain ⟨t, rfl⟩ := ha.int_inv; obtain ⟨u, rfl⟩ := hb.int_inv
      exact PyProof.Rows.iadd_int (hQ _ _ .tok (.int ..) fresh_int ⟨_, rfl⟩)
    · split at e
      · rename_i hs
        cases e; obtain ⟨t, rfl, oa⟩ := ha.str_inv; obtain ⟨u, rfl, ob⟩ := hb.str_inv
        rw [List.length_append] at hs
        refine PyProof.Rows.iadd_str (fun t' tk => ?_) (by rw [toStr_length, toStr_length]; exact lim2 hs)
        rw [toStr_append]
        exact hQ _ _ .tok (.str _ _ (OkS.append oa ob (by rw [List.length_append]; exact hs))) fresh_str ⟨_, rfl⟩
      · cases e
    · cases e
  | Sub =>
    obtain ⟨x, y, rfl, rfl, e'⟩ := intB_inv e
    cases e'; obtain ⟨t, rfl⟩ := ha.int_inv; obtain ⟨u, rfl⟩ := hb.int_inv
    exact PyProof.Rows.isub_int (hQ _ _ .tok (.int ..) fresh_int ⟨_, rfl⟩)
  | FloorDiv =>
    obtain ⟨x, y, rfl, rfl, e'⟩ := intB_inv e
    split at e'
    · rename_i hs
      cases e'; obtain ⟨t, rfl⟩ := ha.int_inv; obtain ⟨u, rfl⟩ := hb.int_inv
      exact ifloordiv_int (by simp [small] at hs; omega) (hQ _ _ .tok (.int ..) fresh_int ⟨_, rfl⟩) (.inl (noPy hs))
    · cases e'
  | _ => cases e
end
end Mine
end
section
open PySem PySem.W PyProof.Rows PySem.Calls
set_option Elab.async false
set_option maxRecDepth 100000
namespace Mine

/-- what the text's generator hands out -/
noncomputable def escPairs : Nat → Bool → List Nat → List (Nat × List Nat)
  | j, b, [] => if b then [(j - 1, [92])] else []
  | j, b, c :: r => if b then (j, [92, c]) :: escPairs (j + 1) false r else if c = 92 then escPairs (j + 1) true r else (j, [c]) :: escPairs (j + 1) false r

structure NK (own : List Addr) (g : Nat) (s s' : Shared) : Prop where
  keep : ∀ b o, (b ∉ own ∨ SeqO o) → s.heap.get? b = some o → s'.heap.get? b = some o
  os : s'.os = s.os
  gens : ∀ (i : Nat) (x : GenState), i ≠ g → s.gens[i]? = some x → s'.gens[i]? = some x
  bare : AllBare s.gens → AllBare s'.gens
noncomputable def Stable (own : List Addr) (H : Heap → Prop) : Prop := ∃ own' : List Addr, (∀ b ∈ own', b ∈ own) ∧ (∀ h h', H h → (∀ b ∈ own', ∀ o, h.get? b = some o → h'.get? b = some o) → H h') ∧ ∀ h, H h → ∀ b ∈ own', ∃ o, h.get? b = some o ∧ ¬ SeqO o

/-- the text's globals, away from what a generator owns -/
noncomputable def GWB (D : List DefItem) (own : List Addr) (h : Heap) : Prop := ∃ hb : Heap, GW D hb ∧ (∀ b ∈ own, hb.get? b = none) ∧ ∀ b o, hb.get? b = some o → h.get? b = some o
theorem GWB.gw {D : List DefItem} {own : List Addr} {h : Heap} (x : GWB D own h) : GW D h := let ⟨_, a, _, c⟩ := x; a.keeps c
theorem GWB.keeps {D : List DefItem} {own : List Addr} {h h' : Heap} (x : GWB D own h) (hk : ∀ b o, b ∉ own → h.get? b = some o → h'.get? b = some o) : GWB D own h' :=
  let ⟨hb, a, b, c⟩ := x; ⟨hb, a, b, fun i o e => hk i o (fun hm => by rw [b i hm] at e; cases e) (c i o e)⟩

/-- a generator object that has these pairs left -/
noncomputable def GNext (prog : Program) (w : World) (A : Around) (D : List DefItem) (ga g : Nat) (own : List Addr) : List (Nat × List Nat) → GenState → (Heap → Prop) → Prop
  | [], gs, H => ∀ (s : Shared) (Q : Option Value → Shared → Prop) (E : Value → Shared → Prop), H s.heap → GWB D own s.heap → s.heap.IsGen ga g → s.gens[g]? = some gs → (∀ s', NK own g s s' → Q none s') →
      wpAny (model prog w) A (pyNext (.ref ga)) Q E s
  | p :: rest, gs, H => ∀ (s : Shared) (Q : Option Value → Shared → Prop) (E : Value → Shared → Prop), H s.heap → GWB D own s.heap → s.heap.IsGen ga g → s.gens[g]? = some gs →
      (∀ T v₀ v₁ s' gs' H', NK own g s s' → s'.heap.IsTuple T #[v₀, v₁] → AIs v₀ (.int p.1) → AIs v₁ (.str p.2) → s'.gens[g]? = some gs' → H' s'.heap → Stable own H' → GNext prog w A D ga g own rest gs' H' → Q (some (.ref T)) s') →
      wpAny (model prog w) A (pyNext (.ref ga)) Q E s

/-- the def makes such an object -/
noncomputable def GenFnOk (prog : Program) (w : World) (D : List DefItem) (n : Nat) (x : Str) : Prop :=
  (∃ d ∈ D, d.name = x ∧ d.params.defaults = [] ∧ (d.name == ("__debug__" : Str)) = false) ∧
  ∀ (A : Around) (s : Shared) (f : Addr) (v : Value) (l : List Nat) (Q : Value → Shared → Prop) (E : Value → Shared → Prop), CtxOk A n → GW D s.heap → IsFn s.heap x f → AIs v (.str l) →
    (∀ s' ga g own gs H, Ext s s' → s'.heap.IsGen ga g → s'.gens[g]? = some gs → s.gens[g]? = none → s.heap.get? ga = none → ga ∉ own → (∀ b ∈ own, s.heap.get? b = none) → H s'.heap → GNext prog w A D ga g own (escPairs 0 false l) gs H → Q (.ref ga) s') →
    wpAny (model prog w) A (call (.ref f) [v]) Q E s
end Mine
end
section
open PySem PySem.W PyProof.Rows PySem.Calls PySem.Builtin PySem.Builtin.Str
set_option Elab.async false
set_option maxRecDepth 100000
set_option genInjectivity false
set_option genSizeOf false
namespace Mine

mutual
inductive S where
  | assign (x : Nat) (px : Pos) (e : X) (p : Pos)
  | assignC (x : Nat) (px : Pos) (e : X) (p : Pos)
  | assignA (x : Nat) (px : Pos) (e : X) (p : Pos)
  | setIdx (x : Nat) (px : Pos) (i : X) (ps : Pos) (e : X) (p : Pos)
  | augVar (x : Nat) (px : Pos) (op : Operator) (e : X) (p : Pos)
  | augIdx (x : Nat) (px : Pos) (i : X) (ps : Pos) (op : Operator) (e : X) (p : Pos)
  | append (x : Nat) (px : Pos) (e : X) (pa pc p : Pos)
  | pop (y : Nat) (py : Pos) (x : Nat) (px : Pos) (pa pc p : Pos)
  | ifs (t : T) (a b : Ss) (p : Pos)
  | while (t : T) (b : Ss) (p : Pos)
  | for (x : Nat) (px : Pos) (it : It) (b : Ss) (p : Pos)
  | forGen (x : Nat) (px : Pos) (y : Nat) (py pt : Pos) (e : X) (pn pc : Pos) (b : Ss) (p : Pos)
  | ret (e : X) (p : Pos)
  | retA (e : X) (p : Pos)
inductive Ss where
  | nil
  | cons (s : S) (r : Ss)
end
mutual
noncomputable def S.toS (nm : List Str) (fn : Nat → Str) : S → Stmt
  | .assign x px e p => .Assign [.Name (nmAt nm x) px] (e.toE nm fn) p
  | .assignC x px e p => .Assign [.Name (nmAt nm x) px] (e.toE nm fn) p
  | .assignA x px e p => .Assign [.Name (nmAt nm x) px] (e.toE nm fn) p
  | .setIdx x px i ps e p => .Assign [.Subscript (.Name (nmAt nm x) px) (i.toE nm fn) ps] (e.toE nm fn) p
  | .augVar x px op e p => .AugAssign (.Name (nmAt nm x) px) op (e.toE nm fn) p
  | .augIdx x px i ps op e p => .AugAssign (.Subscript (.Name (nmAt nm x) px) (i.toE nm fn) ps) op (e.toE nm fn) p
  | .append x px e pa pc p => .Expr (.Call (.Attribute (.Name (nmAt nm x) px) (Str.ofString "append") pa) [e.toE nm fn] [] pc) p
  | .pop y py x px pa pc p => .Assign [.Name (nmAt nm y) py] (.Call (.Attribute (.Name (nmAt nm x) px) (Str.ofString "pop") pa) [] [] pc) p
  | .ifs t a b p => .If (t.toE nm fn) (a.toS nm fn) (b.toS nm fn) p
  | .while t b p => .While (t.toE nm fn) (b.toS nm fn) [] p
  | .for x px it b p => .For (.Name (nmAt nm x) px) (it.toE nm fn) (b.toS nm fn) [] p
  | .forGen x px y py pt e pn pc b p => .For (.Tuple [.Name (nmAt nm x) px, .Name (nmAt nm y) py] 0 pt) (.Call (.Name (fn 0) pn) [e.toE nm fn] [] pc) (b.toS nm fn) [] p
  | .ret e p => .Return (some (e.toE nm fn)) p
  | .retA e p => .Return (some (e.toE nm fn)) p
noncomputable def Ss.toS (nm : List Str) (fn : Nat → Str) : Ss → List Stmt
  | .nil => []
  | .cons s r => s.toS nm fn :: r.toS nm fn
end

inductive Res where
  | next (σ : Sg)
  | ret (p : PV)
  deriving DecidableEq
noncomputable def loopW (t : Sg → Option Bool) (b : Sg → Option Res) : Nat → Sg → Option Res
  | 0, _ => none
  | n + 1, σ => match t σ with
    | some false => some (.next σ)
    | some true => (match b σ with
      | some (.next σ') => loopW t b n σ'
      | some (.ret p) => some (.ret p)
      | none => none)
    | none => none
noncomputable def loopF (x : Nat) (b : Sg → Option Res) : List Atm → Sg → Option Res
  | [], σ => some (.next σ)
  | a :: r, σ => match b (setS σ x a.pv) with
    | some (.next σ') => loopF x b r σ'
    | some (.ret p) => some (.ret p)
    | none => none
noncomputable def loopG (x y : Nat) (b : Sg → Option Res) : List (Nat × List Nat) → Sg → Option Res
  | [], σ => some (.next σ)
  | a :: r, σ => match b (setS (setS σ x (.int a.1)) y (.str a.2)) with
    | some (.next σ') => loopG x y b r σ'
    | some (.ret p) => some (.ret p)
    | none => none
noncomputable def onlyF : Option PV → Option PV
  | some (.list _) => none
  | o => o
mutual
noncomputable def S.ev (Φ : Phi) (fuel : Nat) : S → Sg → Option Res
  | .assign x _ e _, σ => match e.ev Φ σ with
    | some p => some (.next (setS σ x p))
    | none => none
  | .assignC x _ e _, σ => match e.ev Φ σ with
    | some p => some (.next (setS σ x p))
    | none => none
  | .assignA x _ e _, σ => match onlyF (e.ev Φ σ) with
    | some p => some (.next (setS σ x p))
    | none => none
  | .setIdx x _ i _ e _, σ => match e.ev Φ σ with
    | some v => (match getS σ x with
      | some (.list xs) => (match i.ev Φ σ with
        | some (.int k) => (match v.atm? with
          | some a => if 0 ≤ k ∧ k < xs.length then some (.next (setS σ x (.list (xs.set k.toNat a)))) else none
          | none => none)
        | _ => none)
      | _ => none)
    | none => none
  | .augVar x _ op e _, σ => match getS σ x with
    | some o => (match e.ev Φ σ with
      | some v => (match augPV op o v with
        | some r => some (.next (setS σ x r))
        | none => none)
      | none => none)
    | none => none
  | .augIdx x _ i _ op e _, σ => match getS σ x with
    | some (.list xs) => (match i.ev Φ σ with
      | some (.int k) => if 0 ≤ k ∧ k < xs.length then (match xs[k.toNat]? with
        | some o => (match e.ev Φ σ with
          | some v => (match augPV op o.pv v with
            | some r => (match r.atm? with
              | some a => some (.next (setS σ x (.list (xs.set k.toNat a))))
              | none => none)
            | none => none)
          | none => none)
        | none => none) else none
      | _ => none)
    | _ => none
  | .append x _ e _ _ _, σ => match getS σ x with
    | some (.list xs) => (match e.ev Φ σ with
      | some v => (match v.atm? with
        | some a => if xs.length + 1 ≤ lim then some (.next (setS σ x (.list (xs ++ [a])))) else none
        | none => none)
      | none => none)
    | _ => none
  | .pop y _ x _ _ _ _, σ => match getS σ x with
    | some (.list xs) => (match xs[xs.length - 1]? with
      | some a => some (.next (setS (setS σ x (.list (xs.take (xs.length - 1)))) y a.pv))
      | none => none)
    | _ => none
  | .ifs t a b _, σ => match t.ev Φ σ with
    | some true => a.ev Φ fuel σ
    | some false => b.ev Φ fuel σ
    | none => none
  | .while t b _, σ => loopW (fun σ => t.ev Φ σ) (fun σ => b.ev Φ fuel σ) fuel σ
  | .for x _ it b _, σ => match it.ev Φ σ with
    | some xs => loopF x (fun σ => b.ev Φ fuel σ) xs σ
    | none => none
  | .forGen x _ y _ _ e _ _ b _, σ => match e.ev Φ σ with
    | some (.str l) => loopG x y (fun σ => b.ev Φ fuel σ) (escPairs 0 false l) σ
    | _ => none
  | .ret e _, σ => match e.ev Φ σ with
    | some p => some (.ret p)
    | none => none
  | .retA e _, σ => match onlyA (e.ev Φ σ) with
    | some p => some (.ret p)
    | none => none
noncomputable def Ss.ev (Φ : Phi) (fuel : Nat) : Ss → Sg → Option Res
  | .nil, σ => some (.next σ)
  | .cons s r, σ => match s.ev Φ fuel σ with
    | some (.next σ') => r.ev Φ fuel σ'
    | some (.ret p) => some (.ret p)
    | none => none
end

noncomputable def kLC (nm : List Str) (sc : Scope) (x : Nat) : Bool := decide (x < nm.length) && (sc.names.lookup (nmAt nm x) == some .local || sc.names.lookup (nmAt nm x) == some .cell)
noncomputable def X.isComp : X → Bool
  | .comp .. => true
  | .compIf .. => true
  | _ => false
noncomputable def X.makes : X → Bool
  | .disp .. => true
  | .bi .list .. => true
  | _ => false
noncomputable def X.src : X → Option Nat
  | .var i _ => some i
  | _ => Option.none
noncomputable def X.compNames : X → List (Str × NameKind)
  | .comp _ _ _ _ _ sc _ => sc.names
  | .compIf _ _ _ _ _ _ sc _ => sc.names
  | _ => []
noncomputable def X.cpos : X → Pos
  | .comp _ _ _ _ _ _ p => p
  | .compIf _ _ _ _ _ _ _ p => p
  | _ => ⟨0, 0, 0, 0⟩
mutual
noncomputable def S.wf (nm : List Str) (fn : Nat → Str) (O Mx : List Nat) : S → Scope → Bool
  | .assign x _ e _, sc => kLC nm sc x && !e.isVar && e.wf nm fn sc && (!e.isComp || sc.names.lookup (nmAt nm x) == some .cell) && (!Mx.contains x || e.makes)
  | .assignC x px e _, sc => kLC nm sc x && e.wf nm fn sc && e.isComp && sc.names.lookup (nmAt nm x) == some .local && px.line == e.cpos.line && !(e.compNames.any fun (n, k) => n == nmAt nm x && (k == .local || k == .cell)) && !Mx.contains x
  | .assignA x _ e _, sc => kLC nm sc x && e.wf nm fn sc && !e.isComp && !Mx.contains x
  | .setIdx x _ i _ e _, sc => kLC nm sc x && Mx.contains x && i.wf nm fn sc && e.wf nm fn sc
  | .augVar x _ _ e _, sc => kLC nm sc x && !Mx.contains x && e.wf nm fn sc
  | .augIdx x _ i _ _ e _, sc => kLC nm sc x && Mx.contains x && i.wf nm fn sc && e.wf nm fn sc
  | .append x _ e pa pc _, sc => kLC nm sc x && Mx.contains x && e.wf nm fn sc && pa.endLine == pc.line
  | .pop y _ x _ pa pc _, sc => kLC nm sc x && Mx.contains x && kLC nm sc y && !Mx.contains y && pa.endLine == pc.line
  | .ifs t a b _, sc => t.wf nm fn sc && a.wf nm fn O Mx sc && b.wf nm fn O Mx sc
  | .while t b _, sc => t.wf nm fn sc && b.wf nm fn O Mx sc
  | .for x _ it b _, sc => kLC nm sc x && !Mx.contains x && it.wf nm fn sc && b.wf nm fn O Mx sc && (match it.src with | some i => !O.contains i | none => true)
  | .forGen x _ y _ _ e _ _ b _, sc => kLC nm sc x && !Mx.contains x && kLC nm sc y && !Mx.contains y && isG sc (fn 0) && e.wf nm fn sc && b.wf nm fn O Mx sc
  | .ret e _, sc => e.wf nm fn sc && (match e.src with | some i => O.contains i | none => true)
  | .retA e _, sc => e.wf nm fn sc
noncomputable def Ss.wf (nm : List Str) (fn : Nat → Str) (O Mx : List Nat) : Ss → Scope → Bool
  | .nil, _ => true
  | .cons s r, sc => s.wf nm fn O Mx sc && r.wf nm fn O Mx sc
end

theorem S.wf_assign {nm : List Str} {fn : Nat → Str} {O Mx : List Nat} : ∀ x u1 e u2 sc, S.wf nm fn O Mx (.assign x u1 e u2) sc = (kLC nm sc x && !e.isVar && e.wf nm fn sc && (!e.isComp || sc.names.lookup (nmAt nm x) == some .cell) && (!Mx.contains x || e.makes)) := by intros; rfl
theorem S.wf_assignC {nm : List Str} {fn : Nat → Str} {O Mx : List Nat} : ∀ x px e u1 sc, S.wf nm fn O Mx (.assignC x px e u1) sc = (kLC nm sc x && e.wf nm fn sc && e.isComp && sc.names.lookup (nmAt nm x) == some .local && px.line == e.cpos.line && !(e.compNames.any fun (n, k) => n == nmAt nm x && (k == .local || k == .cell)) && !Mx.contains x) := by intros; rfl
theorem S.wf_assignA {nm : List Str} {fn : Nat → Str} {O Mx : List Nat} : ∀ x u1 e u2 sc, S.wf nm fn O Mx (.assignA x u1 e u2) sc = (kLC nm sc x && e.wf nm fn sc && !e.isComp && !Mx.contains x) := by intros; rfl
theorem S.wf_setIdx {nm : List Str} {fn : Nat → Str} {O Mx : List Nat} : ∀ x u1 i u2 e u3 sc, S.wf nm fn O Mx (.setIdx x u1 i u2 e u3) sc = (kLC nm sc x && Mx.contains x && i.wf nm fn sc && e.wf nm fn sc) := by intros; rfl
theorem S.wf_augVar {nm : List Str} {fn : Nat → Str} {O Mx : List Nat} : ∀ x u1 u2 e u3 sc, S.wf nm fn O Mx (.augVar x u1 u2 e u3) sc = (kLC nm sc x && !Mx.contains x && e.wf nm fn sc) := by intros; rfl
theorem S.wf_augIdx {nm : List Str} {fn : Nat → Str} {O Mx : List Nat} : ∀ x u1 i u2 u3 e u4 sc, S.wf nm fn O Mx (.augIdx x u1 i u2 u3 e u4) sc = (kLC nm sc x && Mx.contains x && i.wf nm fn sc && e.wf nm fn sc) := by intros; rfl
theorem S.wf_append {nm : List Str} {fn : Nat → Str} {O Mx : List Nat} : ∀ x u1 e pa pc u2 sc, S.wf nm fn O Mx (.append x u1 e pa pc u2) sc = (kLC nm sc x && Mx.contains x && e.wf nm fn sc && pa.endLine == pc.line) := by intros; rfl
theorem S.wf_pop {nm : List Str} {fn : Nat → Str} {O Mx : List Nat} : ∀ y u1 x u2 pa pc u3 sc, S.wf nm fn O Mx (.pop y u1 x u2 pa pc u3) sc = (kLC nm sc x && Mx.contains x && kLC nm sc y && !Mx.contains y && pa.endLine == pc.line) := by intros; rfl
theorem S.wf_ifs {nm : List Str} {fn : Nat → Str} {O Mx : List Nat} : ∀ t a b u1 sc, S.wf nm fn O Mx (.ifs t a b u1) sc = (t.wf nm fn sc && a.wf nm fn O Mx sc && b.wf nm fn O Mx sc) := by intros; rfl
theorem S.wf_while {nm : List Str} {fn : Nat → Str} {O Mx : List Nat} : ∀ t b u1 sc, S.wf nm fn O Mx (.while t b u1) sc = (t.wf nm fn sc && b.wf nm fn O Mx sc) := by intros; rfl
theorem S.wf_for {nm : List Str} {fn : Nat → Str} {O Mx : List Nat} : ∀ x u1 it b u2 sc, S.wf nm fn O Mx (.for x u1 it b u2) sc = (kLC nm sc x && !Mx.contains x && it.wf nm fn sc && b.wf nm fn O Mx sc && (match it.src with | some i => !O.contains i | none => true)) := by intros; rfl
theorem S.wf_forGen {nm : List Str} {fn : Nat → Str} {O Mx : List Nat} : ∀ x u1 y u2 u3 e u4 u5 b u6 sc, S.wf nm fn O Mx (.forGen x u1 y u2 u3 e u4 u5 b u6) sc = (kLC nm sc x && !Mx.contains x && kLC nm sc y && !Mx.contains y && isG sc (fn 0) && e.wf nm fn sc && b.wf nm fn O Mx sc) := by intros; rfl
theorem S.wf_ret {nm : List Str} {fn : Nat → Str} {O Mx : List Nat} : ∀ e u1 sc, S.wf nm fn O Mx (.ret e u1) sc = (e.wf nm fn sc && (match e.src with | some i => O.contains i | none => true)) := by intros; rfl
theorem S.wf_retA {nm : List Str} {fn : Nat → Str} {O Mx : List Nat} : ∀ e u1 sc, S.wf nm fn O Mx (.retA e u1) sc = (e.wf nm fn sc) := by intros; rfl
theorem Ss.wf_cons {nm : List Str} {fn : Nat → Str} {O Mx : List Nat} : ∀ s r sc, Ss.wf nm fn O Mx (.cons s r) sc = (s.wf nm fn O Mx sc && r.wf nm fn O Mx sc) := by intros; rfl

section
variable {prog : Program} {w : World} {A : Around} {n : Nat} {D : List DefItem} {nm : List Str} {fn : Nat → Str} {Φ : Phi} {env : Env} {O Mx : List Nat} {s₀ s : Shared} {σ : Sg}

noncomputable def OutOk (n : Nat) (D : List DefItem) (A : Around) (env : Env) (nm : List Str) (O Mx : List Nat) (s₀ s : Shared) : Res → Flow → Shared → Prop
  | .next σ', f, s' => f = .next ∧ FR n D A env nm O Mx s₀ σ' s' ∧ Eff env nm O s s'
  | .ret p, f, s' => ∃ v, f = .ret v ∧ Ext s₀ s' ∧ VIs s'.heap v p ∧ Fresh s₀ v
theorem OutOk.before {s s₁ : Shared} {r : Res} {f : Flow} {s' : Shared} (x : OutOk n D A env nm O Mx s₀ s₁ r f s') (e : Eff env nm O s s₁) : OutOk n D A env nm O Mx s₀ s r f s' := by
  cases r with
  | next σ => exact ⟨x.1, x.2.1, e.trans x.2.2⟩
  | ret p => exact x

theorem kLC_iff {sc : Scope} {x : Nat} (h : kLC nm sc x = true) : x < nm.length ∧ (sc.names.lookup (nmAt nm x) = some .local ∨ sc.names.lookup (nmAt nm x) = some .cell) := by
  unfold kLC at h
  simp only [Bool.and_eq_true, decide_eq_true_eq, Bool.or_eq_true, beq_iff_eq] at h
  exact h
theorem swaps_false {e : X} {x : Str} {px p : Pos} (h : e.isComp = false ∨ env.scope.names.lookup x = some .cell) : swapsWith (e.toE nm fn) (some (.Name x px)) p.line env = pure false := by
  have hc : (env.kindOf x == some NameKind.local) = false ∨ e.isComp = false := by
    rcases h with h | h
    · exact .inr h
    · left
      have : env.kindOf x = some .cell := h
      rw [this]; rfl
  cases e with
  | comp elt tgt pt it caps sc p' =>
    rcases hc with hc | hc
    · show (pure (env.blockKind == .function && env.kindOf x == some .local && _ && _) : Sem Bool) = pure false
      rw [hc]; simp
    · cases hc
  | compIf elt tgt pt it c caps sc p' =>
    rcases hc with hc | hc
    · show (pure (env.blockKind == .function && env.kindOf x == some .local && _ && _) : Sem Bool) = pure false
      rw [hc]; simp
    · cases hc
  | _ => rfl
theorem swaps_sub {e : X} {o i : Expr} {px p : Pos} : swapsWith (e.toE nm fn) (some (.Subscript o i px)) p.line env = pure false := by
  cases e <;> rfl
theorem notInteractive (h : env.scope.kind = .function) : interactive env = false := by
  unfold interactive; rw [h]; rfl

theorem bi_list_exact {ps : List PV} {vs : List Value} {r : PV} {Q : Value → Shared → Prop} {E : Value → Shared → Prop} (e : biPV .list ps = some r) (hv : AllV s.heap vs ps)
    (hQ : ∀ v s', Ext s s' → VIs s'.heap v r → Fresh s v → (∀ a, v = .ref a → ∃ its, s'.heap.PlainList a its) → Q v s') : wpAny (model prog w) A (call (Bi.val .list) vs) Q E s := by
  obtain ⟨q, rfl, e'⟩ := one1_inv (f := listPV) e
  unfold listPV at e'
  split at e'
  · cases e'
    obtain ⟨v, rfl, h1⟩ := hv.one
    obtain ⟨a', vs, rfl, hp, hx, hl⟩ := h1.list_inv
    obtain ⟨o, k, ho, hc, hd⟩ := hp
    refine call_list_seq _ (.inl rfl) ho hc hd (fun h' c' hk hD => ?_) (by have := hx.length; simp only [List.size_toArray]; exact Nat.le_trans (by omega) lim_line)
    exact hQ _ _ (.of (tk := s.toks) hk) (.list ⟨_, _, hD, rfl, rfl⟩ hx hl) fresh_new fun a ha => by cases ha; exact ⟨_, _, hD⟩
  · cases e'

/-- a display or a copy is a plain list -/
theorem makes_sound (hΦ : PhiOk prog w D n fn Φ) {e : X} {p : PV} {Q : Value → Shared → Prop} {E : Value → Shared → Prop} (hm : e.makes = true) (h : e.ev Φ σ = some p) (wf : e.wf nm fn env.scope = true) (C : CS n D A env nm σ s)
    (hQ : ∀ v s', Ext s s' → VIs s'.heap v p → Fresh s v → (∀ a, v = .ref a → ∃ its, s'.heap.PlainList a its) → Q v s') : wpAny (model prog w) A (eval (e.toE nm fn) env) Q E s := by
  cases e with
  | disp es pp =>
    unfold X.ev at h
    split at h
    · rename_i ps hps
      split at h
      · rename_i xs hxs
        split at h
        · rename_i hl
          cases h
          refine wpAny_List (Xs.sound hΦ es env σ s ps pp _ _ hps wf C fun vs s₁ hE₁ hvs => ?_)
          have hA := hvs.atms hxs
          exact ⟨by rw [hA.length]; exact Nat.le_trans hl lim_line, hQ _ _ (hE₁.trans .push) (vis_new (tk := s₁.toks) hA hl) (fresh_new.back hE₁) fun a ha => by cases ha; exact ⟨_, _, Heap.get?_push_size _ rfl⟩⟩
        · cases h
      · cases h
    · cases h
  | bi b x es pn pp =>
    cases b with
    | list =>
      simp only [X.wf_bi, Bool.and_eq_true] at wf
      unfold X.ev at h
      split at h
      · rename_i a ha
        split at h
        · rename_i ps hps
          refine wpAny_Call_NameR ?_
          refine load_builtin C.gw C.ok.fn C.ok.gl C.ok.bl (isG_iff wf.1.1) (bi_in .list) (boot_of .list) ?_ (bi_boot .list) (bi_nm .list) (bi_dbg .list)
          refine callWith_type1 ?_ (star_cons x _) (plain_star es)
          refine args_cons (X.sound hΦ x env σ s a _ _ ha wf.1.2 C fun v s₁ hE₁ hv _ => Xs.sound hΦ es env σ s₁ ps pp _ _ hps wf.2 (C.ext hE₁) fun vs s₂ hE₂ hvs => ?_) (star_cons x _)
          have hE := hE₁.trans hE₂
          exact bi_list_exact h (.cons (hv.keeps hE₂.keep) hvs) fun v s₃ hE₃ hv hf hp => hQ v s₃ (hE.trans hE₃) hv (hf.back hE) hp
        · cases h
      · cases h
    | _ => cases hm
  | _ => cases hm

/-- the value of an own list's name -/
theorem FR.listAt {x : Nat} {xs : List Atm} (F : FR n D A env nm O Mx s₀ σ s) (hxM : x ∈ Mx) (hg : getS σ x = some (.list xs)) :
    ∃ a k vs, HoldsV env s.heap (nmAt nm x) (.ref a) ∧ s.heap.get? a = some { cls := .type "list", data := .seq vs.toArray k } ∧ AllIs vs xs ∧ xs.length ≤ lim := by
  obtain ⟨y, v, h1, h2, h3⟩ := F.ok.var x _ hg
  have hy : y = nmAt nm x := by
    have hl := (List.getElem?_eq_some_iff.mp h1).1
    rw [nmAt_get hl] at h1
    exact (Option.some.inj h1).symm
  subst hy
  cases h3 with
  | list hp hx hl =>
    rename_i a vs
    obtain ⟨its, k, hk⟩ := F.plain x hxM a h2
    obtain ⟨o, k', ho, hc, hd⟩ := hp
    rw [hk] at ho; cases ho
    cases hd
    exact ⟨a, k, vs, h2, hk, hx, hl⟩
theorem FR.load {M : Model} {E : Value → Shared → Prop} {x : Nat} {v : Value} {p : Pos} {Q : Value → Shared → Prop} (F : FR n D A env nm O Mx s₀ σ s) (hx : x < nm.length) (hh : HoldsV env s.heap (nmAt nm x) v) (h : Q v s) :
    wpAny M A (eval (.Name (nmAt nm x) p) env) Q E s := load_holds F.ok.fn hh (F.ok.dbg _ (List.mem_of_getElem? (nmAt_get hx))) h
theorem FR.loadName {M : Model} {E : Value → Shared → Prop} {x : Nat} {q : PV} {Q : Value → Shared → Prop} (F : FR n D A env nm O Mx s₀ σ s) (hg : getS σ x = some q) (h : ∀ v, VIs s.heap v q → Q v s) :
    wpAny M A (PySem.loadName env (nmAt nm x)) Q E s := by
  obtain ⟨y, v, h1, h2, h3⟩ := F.ok.var x _ hg
  have hy : y = nmAt nm x := by
    have hl := (List.getElem?_eq_some_iff.mp h1).1
    rw [nmAt_get hl] at h1
    exact (Option.some.inj h1).symm
  subst hy
  rcases h2 with ⟨k, m, hn, e⟩ | ⟨k, c, hc, e⟩
  · exact wpAny_loadName_local F.ok.fn k hn e (h v h3)
  · exact wpAny_loadName_cell F.ok.fn k hc e (h v h3)

theorem AllIs.push {vs : List Value} {xs : List Atm} {v : Value} {a : Atm} (h : AllIs vs xs) (g : AIs v a) : AllIs (vs ++ [v]) (xs ++ [a]) := h.append (.cons g .nil)
end
end Mine
end
section
open PySem PySem.W PyProof.Rows PySem.Calls PySem.Builtin PySem.Builtin.Str
set_option Elab.async false
set_option maxRecDepth 100000
namespace Mine

section
variable {prog : Program} {w : World} {A : Around} {n : Nat} {D : List DefItem} {nm : List Str} {fn : Nat → Str} {Φ : Phi} {env : Env} {O Mx : List Nat} {s₀ s : Shared} {σ : Sg}

theorem comp_then {L acc : Addr} {m : Str → Option Value} {s' : Shared} {x : Nat} {px : Pos} {ys : List Atm} {Qf : Shared → Prop} {E : Value → Shared → Prop} (F : FR n D A env nm O Mx s₀ σ s) (hx : x < nm.length)
    (hk : env.kindOf (nmAt nm x) = some .local ∨ env.kindOf (nmAt nm x) = some .cell) (hM : x ∉ Mx) (hE : Ext s s') (hv : VIs s'.heap (.ref acc) (.list ys)) (ha : s.heap.get? acc = none) (hL : s.heap.get? L = none) (hne : acc ≠ L) (hm : s'.heap.Ns L m)
    (hQ : ∀ s'', FR n D A env nm O Mx s₀ (setS σ x (.list ys)) s'' → Eff env nm O s s'' → Qf s'') :
    compPost (model prog w) A E (some (assign (.Name (nmAt nm x) px) env)) (fun _ s'' => Qf s'') (.ref acc) L (.ok .next) s' := by
  show wpAny _ A (assign (.Name (nmAt nm x) px) env (.ref acc)) _ E s'
  refine wpAny_assign_Name (F.store hE hv (fun a e => by cases e; exact ha) hx hk (fun h => absurd h hM) fun s₃ F₃ E₃ St => ?_)
  have hLl : L ≠ env.locals := fun q => by obtain ⟨o, ho⟩ := F.lget; rw [← q, hL] at ho; cases ho
  have hLc : ¬ cellAddr env L := fun q => by obtain ⟨o, ho⟩ := F.cget q; rw [hL] at ho; cases ho
  refine ⟨m, hm.at' fun o ho => St.keep _ _ hLl hLc ho, fun h' hs => ?_⟩
  have nohold : ∀ y, ¬ HoldsV env s₃.heap y (.ref L) := fun y hy => by
    rcases St.who y L hy with ⟨_, q⟩ | q
    · cases q; exact hne rfl
    · obtain ⟨o, ho⟩ := F.live y L ((F.holds_ext hE y _).mp q)
      rw [hL] at ho; cases ho
  have hL0 : s₀.heap.get? L = none := by
    cases q : s₀.heap.get? L with
    | none => rfl
    | some o => have := F.base.keep _ _ q; rw [hL] at this; cases this
  obtain ⟨F₄, H⟩ := F₃.away (wr := [L]) (h' := h') (os := s₃.os) (gens := s₃.gens) (dd := s₃.drawn) (tk := s₃.toks) (fun b o hb e => (hs.2 b fun q => hb (by simp [q])).trans e)
    (fun b hb => by rw [List.mem_singleton.mp hb]; exact ⟨hL0, hLl, hLc, nohold⟩) rfl F₃.base.gens
  refine hQ _ F₄ ⟨fun b o h h1 h2 h3 => ?_, fun b o h h1 h2 h3 y hy => E₃.quiet b o h h1 h2 h3 y ((H _ _).mp hy), E₃.gens⟩
  obtain ⟨p, q⟩ := E₃.keep b o h h1 h2 h3
  exact ⟨(hs.2 b fun q => by rw [q, hL] at h; cases h).trans p, fun ⟨i, hi, hh⟩ => q ⟨i, hi, (H _ _).mp hh⟩⟩

noncomputable def BSound (prog : Program) (w : World) (A : Around) (n : Nat) (D : List DefItem) (nm : List Str) (env : Env) (O Mx : List Nat) (s₀ : Shared) (body : List Stmt) (bf : Sg → Option Res) : Prop :=
  ∀ (σ : Sg) (s : Shared) (r : Res) (Q : Flow → Shared → Prop) (E : Value → Shared → Prop), bf σ = some r → FR n D A env nm O Mx s₀ σ s → (∀ f s', OutOk n D A env nm O Mx s₀ s r f s' → Q f s') → wpAny (model prog w) A (execs body env) Q E s

theorem for_sound (hΦ : PhiOk prog w D n fn Φ) {x : Nat} {px p : Pos} {it : It} {body : List Stmt} {bf : Sg → Option Res} {xs : List Atm} {r : Res} {Q : Flow → Shared → Prop} {E : Value → Shared → Prop}
    (hb : BSound prog w A n D nm env O Mx s₀ body bf) (hit : it.ev Φ σ = some xs) (hr : loopF x bf xs σ = some r) (hx : x < nm.length) (hk : env.kindOf (nmAt nm x) = some .local ∨ env.kindOf (nmAt nm x) = some .cell) (hM : x ∉ Mx)
    (wf : it.wf nm fn env.scope = true) (hsrc : ∀ i, it.src = some i → i ∉ O) (F : FR n D A env nm O Mx s₀ σ s) (hQ : ∀ f s', OutOk n D A env nm O Mx s₀ s r f s' → Q f s') :
    wpAny (model prog w) A (exec (.For (.Name (nmAt nm x) px) (it.toE nm fn) body [] p) env) Q E s := by
  refine wpAny_For (It.sound hΦ it env σ s xs _ _ hit wf F.cs fun itv s₂ hI => ?_) (folded_it it)
  obtain ⟨I, fp, wr, P, St, rfl, W, hst, hfp, hwr, hP, hE, hfps, hex⟩ := hI
  have W' := W A F.ctx.handled
  have F₂ := F.ext hE
  have fresh_ok : ∀ b, s.heap.get? b = none → b ≠ env.locals ∧ ¬ cellAddr env b ∧ ∀ y, ¬ HoldsV env s₂.heap y (.ref b) := fun b hb => by
    refine ⟨fun q => ?_, fun q => ?_, fun y hy => ?_⟩
    · obtain ⟨o, ho⟩ := F.lget; rw [← q, hb] at ho; cases ho
    · obtain ⟨o, ho⟩ := F.cget q; rw [hb] at ho; cases ho
    · obtain ⟨o, ho⟩ := F.live y b ((F.holds_ext hE y _).mp hy)
      rw [hb] at ho; cases ho
  have fpok : ∀ b ∈ fp, b ≠ env.locals ∧ ¬ cellAddr env b ∧ ¬ Own env nm O s₂.heap b := fun b hb' => by
    rcases hfps b hb' with hn | ⟨i, y, hi, hy, hh⟩
    · obtain ⟨h1, h2, h3⟩ := fresh_ok b hn
      exact ⟨h1, h2, fun ⟨j, _, hj⟩ => h3 _ hj⟩
    · have hiO := hsrc i hi
      have hil : i < nm.length := (List.getElem?_eq_some_iff.mp hy).1
      have hyn : y = nmAt nm i := by rw [nmAt_get hil] at hy; exact (Option.some.inj hy).symm
      subst hyn
      have hit' : ∃ q, getS σ i = some q ∧ itemsPV q = some xs := by
        cases it with
        | x e =>
          cases e with
          | var j pp =>
            cases hi
            unfold It.ev at hit
            split at hit
            · rename_i q hq
              exact ⟨q, hq, hit⟩
            · cases hit
          | _ => cases hi
        | _ => cases hi
      obtain ⟨q, hq, hitm⟩ := hit'
      obtain ⟨z, v, h1, h2, h3⟩ := F.ok.var i q hq
      rw [nmAt_get hil] at h1; cases h1
      have := HoldsV.uniq h2 hh
      subst this
      cases h3 with
      | list hp _ _ =>
        obtain ⟨n1, n2⟩ := F.lp_ne hp
        refine ⟨n1, n2, fun ⟨j, hj, hjh⟩ => ?_⟩
        have h5 := (F.own j hj b ((F.holds_ext hE _ _).mp hjh)).2 _ hh
        exact hiO (F.nodup i j hil (F.inb j hj) h5 ▸ hj)
  have wr0 : ∀ b ∈ wr, s₀.heap.get? b = none := fun b hb' => by
    cases q : s₀.heap.get? b with
    | none => rfl
    | some o => have := F.base.keep _ _ q; rw [hwr b hb'] at this; cases this
  let Inv : Nat → Sg → Shared → Prop := fun i σ' s' => FR n D A env nm O Mx s₀ σ' s' ∧ Eff env nm O s s' ∧ St i s'.heap ∧ (∀ b ∈ fp, ¬ Own env nm O s'.heap b) ∧ (∀ b ∈ wr, ∀ y, ¬ HoldsV env s'.heap y (.ref b)) ∧ loopF x bf (xs.drop i) σ' = some r
  -- the iterator's own step
  have stepI : ∀ (i : Nat) (σ' : Sg) (s' : Shared) (h₁ : Heap) (tk : Nat), Inv i σ' s' → (∀ b o, b ∉ wr → s'.heap.get? b = some o → h₁.get? b = some o) →
      FR n D A env nm O Mx s₀ σ' { s' with heap := h₁, toks := tk } ∧ Eff env nm O s { s' with heap := h₁, toks := tk } ∧ (∀ b ∈ fp, ¬ Own env nm O h₁ b) ∧ (∀ b ∈ wr, ∀ y, ¬ HoldsV env h₁ y (.ref b)) := by
    intro i σ' s' h₁ tk hInv hk₁
    obtain ⟨F', E', hSt, hfo, hwo, hl⟩ := hInv
    obtain ⟨F₃, H⟩ := F'.away (wr := wr) (h' := h₁) (os := s'.os) (gens := s'.gens) (dd := s'.drawn) (tk := tk) hk₁ (fun b hb' => ⟨wr0 b hb', (fpok b (W'.sub b hb')).1, (fpok b (W'.sub b hb')).2.1, hwo b hb'⟩) rfl F'.base.gens
    refine ⟨F₃, ⟨fun b o h h1 h2 h3 => ?_, fun b o h h1 h2 h3 y hy => E'.quiet b o h h1 h2 h3 y ((H _ _).mp hy), E'.gens⟩, fun b hb' ⟨j, hj, hh⟩ => hfo b hb' ⟨j, hj, (H _ _).mp hh⟩, fun b hb' y hy => hwo b hb' y ((H _ _).mp hy)⟩
    obtain ⟨p, q⟩ := E'.keep b o h h1 h2 h3
    exact ⟨hk₁ b o (fun hw => by rw [hwr b hw] at h; cases h) p, fun ⟨j, hj, hh⟩ => q ⟨j, hj, (H _ _).mp hh⟩⟩
  refine codeAny_forLoop (fun k s' => ∃ i σ', i ≤ xs.length ∧ k = xs.length + 1 - i ∧ Inv i σ' s') ?_ (xs.length + 1) ⟨0, σ, Nat.zero_le _, rfl, F₂, F.eff hE, hst, fun b hb' => (fpok b hb').2.2, fun b hb' => (fresh_ok b (hwr b hb')).2.2, by rw [List.drop_zero]; exact hr⟩
  rintro k s' ⟨i, σ', hi, rfl, hInv⟩
  have hSt := hInv.2.2.1
  have hl := hInv.2.2.2.2.2
  by_cases hlt : i < xs.length
  · refine W'.item i s' _ _ hlt hSt fun v h₁ tk hPv hSt₁ hk₁ => ?_
    obtain ⟨a, ha, hva⟩ := hP i v hlt hPv
    have hdrop : xs.drop i = a :: xs.drop (i + 1) := by
      rw [List.drop_eq_getElem_cons hlt]
      have : xs[i] = a := by rw [List.getElem?_eq_getElem hlt] at ha; exact Option.some.inj ha
      rw [this]
    obtain ⟨F₃, E₃, hfo, hwo⟩ := stepI i σ' s' h₁ tk hInv hk₁
    refine wpAny_assign_Name (F₃.store (.refl _) (hva.vis _) (hva.fresh _) hx hk (fun h => absurd h hM) fun s₄ F₄ E₄ _ => ?_)
    rw [hdrop] at hl
    unfold loopF at hl
    split at hl
    · rename_i σ'' hbf
      refine hb _ s₄ _ _ _ hbf F₄ fun f s₅ hO => ?_
      obtain ⟨rfl, F₅, E₅⟩ := hO
      have E₄₅ := E₄.trans E₅
      refine ⟨xs.length + 1 - (i + 1), cnt_lt hlt, i + 1, σ'', hlt, rfl, F₅, E₃.trans E₄₅, ?_, fun b hb' => ?_, fun b hb' => ?_, hl⟩
      · exact W'.frame _ _ _ hSt₁ fun b hb' o e => (E₄₅.keep b o e (fpok b hb').1 (fpok b hb').2.1 (hfo b hb')).1
      · obtain ⟨o, ho⟩ := hex _ _ hSt₁ b hb'
        exact (E₄₅.keep b o ho (fpok b hb').1 (fpok b hb').2.1 (hfo b hb')).2
      · have hb2 := W'.sub b hb'
        obtain ⟨o, ho⟩ := hex _ _ hSt₁ b hb2
        exact E₄₅.quiet b o ho (fpok b hb2).1 (fpok b hb2).2.1 (hwo b hb')
    · rename_i p hbf
      cases hl
      refine hb _ s₄ _ _ _ hbf F₄ fun f s₅ hO => ?_
      obtain ⟨v', rfl, hO⟩ := hO
      exact hQ _ _ ⟨v', rfl, hO⟩
    · cases hl
  · have hin : i = xs.length := at_end hi hlt
    subst hin
    refine W'.done s' _ _ hSt fun h₁ tk hk₁ => wpAny_execs_nil ?_
    obtain ⟨F₃, E₃, _, _⟩ := stepI _ σ' s' h₁ tk hInv hk₁
    rw [List.drop_length] at hl
    cases hl
    exact hQ _ _ ⟨rfl, F₃, E₃⟩

theorem while_sound (hΦ : PhiOk prog w D n fn Φ) {t : T} {p : Pos} {body : List Stmt} {bf : Sg → Option Res} {fuel : Nat} {r : Res} {Q : Flow → Shared → Prop} {E : Value → Shared → Prop}
    (hb : BSound prog w A n D nm env O Mx s₀ body bf) (hr : loopW (fun σ => t.ev Φ σ) bf fuel σ = some r) (wf : t.wf nm fn env.scope = true) (F : FR n D A env nm O Mx s₀ σ s) (hQ : ∀ f s', OutOk n D A env nm O Mx s₀ s r f s' → Q f s') :
    wpAny (model prog w) A (exec (.While (t.toE nm fn) body [] p) env) Q E s := by
  refine wpAny_While (codeAny_whileLoop (fun k s' => ∃ σ', FR n D A env nm O Mx s₀ σ' s' ∧ Eff env nm O s s' ∧ loopW (fun σ => t.ev Φ σ) bf k σ' = some r) ?_ fuel ⟨σ, F, .refl, hr⟩)
  rintro k s' ⟨σ', F', E', hl⟩
  cases k with
  | zero => cases hl
  | succ k =>
    unfold loopW at hl
    split at hl
    · rename_i ht
      cases hl
      refine T.sound hΦ t env σ' s' false _ _ ht wf F'.cs fun s₁ hE => ?_
      rw [if_neg Bool.false_ne_true]
      exact wpAny_execs_nil (hQ _ _ ⟨rfl, F'.ext hE, E'.trans (F'.eff hE)⟩)
    · rename_i ht
      refine T.sound hΦ t env σ' s' true _ _ ht wf F'.cs fun s₁ hE => ?_
      rw [if_pos rfl]
      split at hl
      · rename_i σ'' hbf
        refine hb _ s₁ _ _ _ hbf (F'.ext hE) fun f s₅ hO => ?_
        obtain ⟨rfl, F₅, E₅⟩ := hO
        exact ⟨k, Nat.lt_succ_self k, σ'', F₅, (E'.trans (F'.eff hE)).trans E₅, hl⟩
      · rename_i p hbf
        cases hl
        refine hb _ s₁ _ _ _ hbf (F'.ext hE) fun f s₅ hO => ?_
        obtain ⟨v', rfl, hO⟩ := hO
        exact hQ _ _ ⟨v', rfl, hO⟩
      · cases hl
    · cases hl

theorem swaps_true {e : X} {x : Str} {px p : Pos} (hfn : env.scope.kind = .function) (h : e.isComp = true) (hk : env.scope.names.lookup x = some .local) (hl : (px.line == e.cpos.line) = true) (hn : (e.compNames.any fun (n, k) => n == x && (k == .local || k == .cell)) = false) :
    swapsWith (e.toE nm fn) (some (.Name x px)) p.line env = pure true := by
  have hb : (env.blockKind == ScopeKind.function) = true := by
    unfold Env.blockKind
    rw [hfn]; rfl
  have hk' : (env.kindOf x == some NameKind.local) = true := by
    have : env.kindOf x = some .local := hk
    rw [this]; rfl
  cases e with
  | comp elt tgt pt it caps sc p' =>
    show (pure (env.blockKind == .function && env.kindOf x == some .local && px.line == p'.line && !(sc.names.any fun (n, k) => n == x && (k == .local || k == .cell))) : Sem Bool) = pure true
    have h1 : (px.line == p'.line) = true := hl
    have h2 : (sc.names.any fun (n, k) => n == x && (k == .local || k == .cell)) = false := hn
    rw [hb, hk', h1, h2]; rfl
  | compIf elt tgt pt it c caps sc p' =>
    show (pure (env.blockKind == .function && env.kindOf x == some .local && px.line == p'.line && !(sc.names.any fun (n, k) => n == x && (k == .local || k == .cell))) : Sem Bool) = pure true
    have h1 : (px.line == p'.line) = true := hl
    have h2 : (sc.names.any fun (n, k) => n == x && (k == .local || k == .cell)) = false := hn
    rw [hb, hk', h1, h2]; rfl
  | _ => cases h

theorem assignC_sound (hΦ : PhiOk prog w D n fn Φ) {x : Nat} {px p : Pos} {e : X} {q : PV} {Q : Flow → Shared → Prop} {E : Value → Shared → Prop} (h : e.ev Φ σ = some q) (hx : x < nm.length) (hk : env.scope.names.lookup (nmAt nm x) = some .local)
    (wf : e.wf nm fn env.scope = true) (hc : e.isComp = true) (hl : (px.line == e.cpos.line) = true) (hn : (e.compNames.any fun (n, k) => n == nmAt nm x && (k == .local || k == .cell)) = false) (hM : x ∉ Mx) (F : FR n D A env nm O Mx s₀ σ s)
    (hQ : ∀ s', FR n D A env nm O Mx s₀ (setS σ x q) s' → Eff env nm O s s' → Q .next s') : wpAny (model prog w) A (exec (.Assign [.Name (nmAt nm x) px] (e.toE nm fn) p) env) Q E s := by
  rw [exec_Assign_Name_used _ _ _ _ (swaps_true F.ok.fn hc hk hl hn)]
  refine wpAny_bind (wpAny_standAt (wpAny_bind ?_))
  have C := F.cs
  cases e with
  | comp elt tgt pt it caps sc pp =>
    simp only [X.wf_comp, Bool.and_eq_true] at wf
    unfold X.ev at h
    split at h
    · rename_i xs hxs
      split at h
      · rename_i ys hys
        split at h
        · rename_i hl
          cases h
          show wpAny _ A (do let _ ← comprehension (.ListComp (elt.toE nm fn) [⟨.Name (nmAt nm tgt) pt, it.toE nm fn, [], 0⟩] sc pp) sc env _ (newList []) false (eval (it.toE nm fn) env) (some (assign (.Name (nmAt nm x) px) env))) _ _ s
          refine wpAny_bind (wpAny_mono (comp_use (Q := fun _ s' => Q .next s') (c := fun _ => some true) (f := fun (a : Atm) => (elt.ev Φ (setS (capS σ caps) tgt a.pv)).bind PV.atm?) (src := it.src) wf.1.1 C (fun Q hq => It.sound hΦ it env σ s xs Q E hxs wf.1.2 C hq) (by rw [mapO_filtO]; exact hys) hl ?_ ?_
            (fun acc L s' m hE hv ha hL hne hm => comp_then F hx (.inl hk) hM hE hv ha hL hne hm hQ) (folded_it it)) (fun _ s' hq => wpAny_pure (wpAny_pure hq)) fun _ _ e => e)
          · intro a b cenv s' Q' E' hb _ _ hq
            cases hb
            exact wpAny_tests_nil (hq s' (.refl _))
          · intro a b cenv s' Q' E' hb hsc C' hq
            obtain ⟨u, hu, hub⟩ := Option.bind_eq_some_iff.mp hb
            exact X.sound hΦ elt cenv _ s' u _ _ hu (by rw [hsc]; exact wf.2) C' fun v s'' hE hv _ => hq v s'' hE (hv.ais hub)
        · cases h
      · cases h
    · cases h
  | compIf elt tgt pt it c caps sc pp =>
    simp only [X.wf_compIf, Bool.and_eq_true] at wf
    unfold X.ev at h
    split at h
    · rename_i xs hxs
      split at h
      · rename_i ys hys
        split at h
        · rename_i hl
          cases h
          show wpAny _ A (do let _ ← comprehension (.ListComp (elt.toE nm fn) [⟨.Name (nmAt nm tgt) pt, it.toE nm fn, [c.toE nm fn], 0⟩] sc pp) sc env _ (newList []) false (eval (it.toE nm fn) env) (some (assign (.Name (nmAt nm x) px) env))) _ _ s
          refine wpAny_bind (wpAny_mono (comp_use (Q := fun _ s' => Q .next s') (src := it.src) wf.1.1.1 C (fun Q hq => It.sound hΦ it env σ s xs Q E hxs wf.1.1.2 C hq) hys hl ?_ ?_
            (fun acc L s' m hE hv ha hL hne hm => comp_then F hx (.inl hk) hM hE hv ha hL hne hm hQ) (folded_it it)) (fun _ s' hq => wpAny_pure (wpAny_pure hq)) fun _ _ e => e)
          · intro a b cenv s' Q' E' hb hsc C' hq
            exact wpAny_tests_one (T.sound hΦ c cenv _ s' b _ _ hb (by rw [hsc]; exact wf.2) C' hq)
          · intro a b cenv s' Q' E' hb hsc C' hq
            obtain ⟨u, hu, hub⟩ := Option.bind_eq_some_iff.mp hb
            exact X.sound hΦ elt cenv _ s' u _ _ hu (by rw [hsc]; exact wf.1.2) C' fun v s'' hE hv _ => hq v s'' hE (hv.ais hub)
        · cases h
      · cases h
    · cases h
  | _ => cases hc

theorem letOwned_gen {ga g T : Nat} {elts : List Expr} {k : Nat} {pt : Pos} {Q : Unit → Shared → Prop} {E : Value → Shared → Prop} (hg : s.heap.IsGen ga g) (hQ : Q () s) : wpAny (model prog w) A (letOwnedTupleGo (.Tuple elts k pt) (.ref ga) (.ref T)) Q E s := by
  obtain ⟨o, n1, n2, ho, hc, hd, _⟩ := hg
  unfold letOwnedTupleGo
  refine wpAny_bind (wpAny_load ho ?_)
  rw [hc, hd]
  have hno : (["enumerate", "zip", "dict_itemiterator", "dict_reverseitemiterator", "odict_iterator", "itertools.zip_longest", "itertools.pairwise"].contains "generator") = false := by decide
  dsimp only
  rw [hno, Bool.false_and, if_neg Bool.false_ne_true]
  exact wpAny_pure hQ

theorem forGen_sound (hΦ : PhiOk prog w D n fn Φ) (hG : GenFnOk prog w D n (fn 0)) {x y : Nat} {px py pt pn pc p : Pos} {e : X} {body : List Stmt} {bf : Sg → Option Res} {l : List Nat} {r : Res} {Q : Flow → Shared → Prop} {E : Value → Shared → Prop}
    (hb : BSound prog w A n D nm env O Mx s₀ body bf) (he : e.ev Φ σ = some (.str l)) (hr : loopG x y bf (escPairs 0 false l) σ = some r) (hx : x < nm.length) (hk : env.kindOf (nmAt nm x) = some .local ∨ env.kindOf (nmAt nm x) = some .cell) (hM : x ∉ Mx)
    (hy : y < nm.length) (hky : env.kindOf (nmAt nm y) = some .local ∨ env.kindOf (nmAt nm y) = some .cell) (hMy : y ∉ Mx)
    (wg : isG env.scope (fn 0) = true) (wf : e.wf nm fn env.scope = true) (F : FR n D A env nm O Mx s₀ σ s) (hQ : ∀ f s', OutOk n D A env nm O Mx s₀ s r f s' → Q f s') :
    wpAny (model prog w) A (exec (.For (.Tuple [.Name (nmAt nm x) px, .Name (nmAt nm y) py] 0 pt) (.Call (.Name (fn 0) pn) [e.toE nm fn] [] pc) body [] p) env) Q E s := by
  refine wpAny_For ?_ (fun _ => rfl)
  obtain ⟨⟨d, hD, hn, hdef, hdbg⟩, hf⟩ := hG
  have C := F.cs
  refine wpAny_Call_NameR ?_
  rw [← hn] at wg ⊢
  refine load_def C.gw C.ok.fn C.ok.gl (isG_iff wg) hD hdef hdbg fun f c' o pm doc hfn ho hdat _ => ?_
  refine callWith_def hdat ?_ (star_cons e _)
  refine args_cons (X.sound hΦ e env σ s _ _ _ he wf C fun v s₁ hE₁ hv _ => args_nil ?_) (star_cons e _)
  refine ⟨hE₁.keep _ _ ho, ?_⟩
  refine hf A s₁ f v l _ E C.ctx (C.gw.keeps hE₁.keep) ((hn ▸ hfn : IsFn s.heap (fn 0) f).keeps hE₁.keep) (hv.ais rfl) fun s₂ ga g own gs H hE₂ hgen hgs hgnew hganew hgaown hownnew hH hN => ?_
  have hE := hE₁.trans hE₂
  refine wpAny_pyIter_gen hgen ?_
  have F₂ := F.ext hE
  have none_back : ∀ b, s₁.heap.get? b = none → s.heap.get? b = none := fun b hb => by
    cases q : s.heap.get? b with
    | none => rfl
    | some o => have := hE₁.keep _ _ q; rw [hb] at this; cases this
  have none_base : ∀ b, s₁.heap.get? b = none → s₀.heap.get? b = none := fun b hb => by
    cases q : s₀.heap.get? b with
    | none => rfl
    | some o => have := F.base.keep _ _ q; rw [none_back b hb] at this; cases this
  have g0 : s₀.gens[g]? = none := by
    cases q : s₀.gens[g]? with
    | none => rfl
    | some o => have := hE₁.gens.old _ _ (F.base.gens.old _ _ q); rw [hgnew] at this; cases this
  have fresh_ok : ∀ b, s₁.heap.get? b = none → b ≠ env.locals ∧ ¬ cellAddr env b ∧ ∀ y, ¬ HoldsV env s₂.heap y (.ref b) := fun b hb => by
    have hb' := none_back b hb
    refine ⟨fun q => ?_, fun q => ?_, fun y hy => ?_⟩
    · obtain ⟨o, ho⟩ := F.lget; rw [← q, hb'] at ho; cases ho
    · obtain ⟨o, ho⟩ := F.cget q; rw [hb'] at ho; cases ho
    · obtain ⟨o, ho⟩ := F.live y b ((F.holds_ext hE y _).mp hy)
      rw [hb'] at ho; cases ho
  let Inv : List (Nat × List Nat) → Sg → Shared → Prop := fun ps σ' s' => FR n D A env nm O Mx s₀ σ' s' ∧ Eff env nm O s s' ∧ s'.heap.IsGen ga g ∧ (∃ gs H, s'.gens[g]? = some gs ∧ H s'.heap ∧ GNext prog w A D ga g own ps gs H) ∧
    loopG x y bf ps σ' = some r
  have after : ∀ (σ' : Sg) (s' s'' : Shared), FR n D A env nm O Mx s₀ σ' s' → Eff env nm O s s' → NK own g s' s'' → FR n D A env nm O Mx s₀ σ' s'' ∧ Eff env nm O s s'' := by
    intro σ' s' s'' F' E' K
    obtain ⟨F₃, HH⟩ := F'.away' (wr := own) (h' := s''.heap) (os := s''.os) (gens := s''.gens) (dd := s''.drawn) (tk := s''.toks) (fun b o e h => K.keep b o (h.imp id fun h => h.1) e)
      (fun b hb' => ⟨none_base b (hownnew b hb'), (fresh_ok b (hownnew b hb')).1, (fresh_ok b (hownnew b hb')).2.1⟩) K.os
      ⟨fun i z hz => K.gens i z (fun q => by rw [q, g0] at hz; cases hz) (F'.base.gens.old i z hz), fun hb => K.bare (F'.base.gens.bare hb)⟩
    refine ⟨F₃, ⟨fun b o h h1 h2 h3 => ?_, fun b o h h1 h2 h3 y hy => E'.quiet b o h h1 h2 h3 y ((HH _ _).mp hy), fun i z hz => ?_⟩⟩
    · obtain ⟨p, q⟩ := E'.keep b o h h1 h2 h3
      exact ⟨K.keep b o (.inl fun hw => by rw [none_back b (hownnew b hw)] at h; cases h) p, fun ⟨j, hj, hh⟩ => q ⟨j, hj, (HH _ _).mp hh⟩⟩
    · exact K.gens i z (fun q => by
        have := hE₁.gens.old _ _ hz
        rw [q, hgnew] at this; cases this) (E'.gens i z hz)
  refine codeAny_forLoop_any (fun k s' => ∃ ps σ', k = ps.length + 1 ∧ Inv ps σ' s') ?_ _ ⟨_, σ, rfl, F₂, F.eff hE, hgen, ⟨gs, H, hgs, hH, hN⟩, hr⟩
  rintro k s' ⟨ps, σ', rfl, F', E', hgen', ⟨gs', H', hgs', hH', hN'⟩, hl⟩
  cases ps with
  | nil =>
    refine hN' s' _ _ hH' ⟨s₀.heap, F.gw, fun b hb' => none_base b (hownnew b hb'), F'.base.keep⟩ hgen' hgs' fun s'' K => wpAny_execs_nil ?_
    obtain ⟨F₃, E₃⟩ := after σ' s' s'' F' E' K
    cases hl
    exact hQ _ _ ⟨rfl, F₃, E₃⟩
  | cons pr rest =>
    refine hN' s' _ _ hH' ⟨s₀.heap, F.gw, fun b hb' => none_base b (hownnew b hb'), F'.base.keep⟩ hgen' hgs' fun T v₀ v₁ s'' gs'' H'' K hT h0 h1 hgs'' hH'' hst hN'' => ?_
    obtain ⟨F₃, E₃⟩ := after σ' s' s'' F' E' K
    have hgen'' : s''.heap.IsGen ga g := by
      obtain ⟨ob, n1, n2, hob, rr⟩ := hgen'
      exact ⟨ob, n1, n2, K.keep _ _ (.inl hgaown) hob, rr⟩
    refine letOwned_gen hgen'' ?_
    refine wpAny_assign_Tuple F.ctx.handled hT rfl rfl fun h₃ hx₃ => ?_
    have hX : Ext s'' { s'' with heap := h₃ } := ⟨fun b o e => hx₃ b o (Nat.ne_of_lt (Heap.lt_size e)) e, rfl, .refl _⟩
    show wpAny _ A (do holding [v₁] (assign (.Name (nmAt nm x) px) env v₀); do holding [] (assign (.Name (nmAt nm y) py) env v₁); pure ()) _ _ _
    refine wpAny_bind (wpAny_holding (wpAny_assign_Name (F₃.store hX (h0.vis _) (h0.fresh _) hx hk (fun h => absurd h hM) fun s₄ F₄ E₄ _ => ?_)))
    refine wpAny_bind (wpAny_holding (wpAny_assign_Name (F₄.store (.refl _) (h1.vis _) (h1.fresh _) hy hky (fun h => absurd h hMy) fun s₅ F₅ E₅ _ => wpAny_pure ?_)))
    have E₃₅ := E₄.trans E₅
    unfold loopG at hl
    split at hl
    · rename_i σ'' hbf
      refine hb _ s₅ _ _ _ hbf F₅ fun f s₆ hO => ?_
      obtain ⟨rfl, F₆, E₆⟩ := hO
      have E₃₆ := E₃₅.trans E₆
      have notOwn : ∀ b o, s''.heap.get? b = some o → ¬ SeqO o → ¬ Own env nm O s''.heap b := fun b o ho hns ⟨j, _, hj⟩ => by
        obtain ⟨o2, ho2, hsq⟩ := F₃.liveS _ _ hj
        rw [ho] at ho2; cases ho2
        exact hns hsq
      obtain ⟨own', hsub, hst1, hst2⟩ := hst
      obtain ⟨ob, n1, n2, hob, hcls, hdat, rr⟩ := hgen''
      have hgaNS : ¬ SeqO ob := fun ⟨its, kk, hd⟩ => by rw [hdat] at hd; cases hd
      refine ⟨rest.length + 1, by simp, rest, σ'', rfl, F₆, E₃.trans E₃₆, ⟨ob, n1, n2, (E₃₆.keep ga ob hob (fresh_ok ga hganew).1 (fresh_ok ga hganew).2.1 (notOwn ga ob hob hgaNS)).1, hcls, hdat, rr⟩,
        ⟨gs'', H'', E₃₆.gens _ _ hgs'', hst1 _ _ hH'' fun b hb' o e => ?_, hN''⟩, hl⟩
      obtain ⟨o2, ho2, hns⟩ := hst2 _ hH'' b hb'
      rw [e] at ho2; cases ho2
      exact (E₃₆.keep b o e (fresh_ok b (hownnew b (hsub b hb'))).1 (fresh_ok b (hownnew b (hsub b hb'))).2.1 (notOwn b o e hns)).1
    · rename_i q hbf
      cases hl
      refine hb _ s₅ _ _ _ hbf F₅ fun f s₆ hO => ?_
      obtain ⟨v', rfl, hO⟩ := hO
      exact hQ _ _ ⟨v', rfl, hO⟩
    · cases hl
end
end Mine
end
section
open PySem PySem.W PyProof.Rows PySem.Calls PySem.Builtin PySem.Builtin.Str
set_option Elab.async false
set_option maxRecDepth 100000
namespace Mine

section
variable {prog : Program} {w : World} {A : Around} {n : Nat} {D : List DefItem} {nm : List Str} {fn : Nat → Str} {Φ : Phi} {env : Env} {O Mx : List Nat} {s₀ s : Shared} {σ : Sg}

theorem not_mem_of {x : Nat} {l : List Nat} (h : (!l.contains x) = true) : x ∉ l := by simpa using h
theorem mem_of {x : Nat} {l : List Nat} (h : l.contains x = true) : x ∈ l := by simpa using h

noncomputable def SSound (prog : Program) (w : World) (A : Around) (n : Nat) (D : List DefItem) (nm : List Str) (fn : Nat → Str) (Φ : Phi) (fuel : Nat) (env : Env) (O Mx : List Nat) (s₀ : Shared) (st : S) : Prop :=
  ∀ (σ : Sg) (s : Shared) (r : Res) (Q : Flow → Shared → Prop) (E : Value → Shared → Prop), st.ev Φ fuel σ = some r → st.wf nm fn O Mx env.scope = true → FR n D A env nm O Mx s₀ σ s →
    (∀ f s', OutOk n D A env nm O Mx s₀ s r f s' → Q f s') → wpAny (model prog w) A (exec (st.toS nm fn) env) Q E s

/-- an own list's store at a place -/
theorem setAt {x : Nat} {a k : Nat} {vs : List Value} {xs : List Atm} {j : Int} {t : Tok} {v : Value} {y : Atm} {Q : Unit → Shared → Prop} {E : Value → Shared → Prop} (F : FR n D A env nm O Mx s₀ σ s) (hxM : x ∈ Mx) (hold : HoldsV env s.heap (nmAt nm x) (.ref a))
    (ho : s.heap.get? a = some { cls := .type "list", data := .seq vs.toArray k }) (hA : AllIs vs xs) (hl : xs.length ≤ lim) (hj : 0 ≤ j ∧ j < xs.length) (hv : AIs v y)
    (hQ : ∀ s', FR n D A env nm O Mx s₀ (setS σ x (.list (xs.set j.toNat y))) s' → Eff env nm O s s' → Q () s') : wpAny (model prog w) A (setItem (.ref a) (.int j t) v) Q E s := by
  have hlen := hA.length
  have hl' : xs.length ≤ 65536 := hl
  refine ki_setAt ho hj.1 (by omega) (by simp only [List.size_toArray]; omega) ?_
  have hp := plain_set (fun its => its.setIfInBounds j.toNat v) ho
  obtain ⟨h1, h2⟩ := F.mutate (tk := s.toks) hxM hold (Heap.SameBut.update ..) hp (by simp) (hA.set hv j.toNat) (by rw [List.length_set]; exact hl)
  exact hQ _ h1 h2

theorem pop_arr {vs : List Value} : vs.toArray.eraseIdxIfInBounds (vs.toArray.size - 1) = (vs.take (vs.length - 1)).toArray := by
  apply Array.toList_inj.mp
  simp only [List.size_toArray]
  rcases Nat.eq_zero_or_pos vs.length with h | h
  · have : vs = [] := List.length_eq_zero_iff.mp h
    subst this
    rfl
  · rw [List.eraseIdxIfInBounds_toArray]
    simp only []
    rw [← List.dropLast_eq_take]
    exact List.eraseIdx_length_sub_one

theorem onlyF_some {o : Option PV} {p : PV} (h : onlyF o = some p) : o = some p ∧ ∀ xs, p ≠ .list xs := by
  unfold onlyF at h
  split at h
  · cases h
  · rename_i hne
    refine ⟨h, fun xs e => ?_⟩
    subst e
    exact hne _ h
mutual
theorem S.sound (hΦ : PhiOk prog w D n fn Φ) (hG : GenFnOk prog w D n (fn 0)) {fuel : Nat} : ∀ st : S, SSound prog w A n D nm fn Φ fuel env O Mx s₀ st
  | .assign x px e p => by
    intro σ s r Q E h wf F hQ
    simp only [S.wf_assign, Bool.and_eq_true] at wf
    obtain ⟨⟨⟨⟨w1, w2⟩, w3⟩, w4⟩, w5⟩ := wf
    obtain ⟨hx, hk⟩ := kLC_iff w1
    have hnv : e.isVar = false := by simpa using w2
    unfold S.ev at h
    split at h
    · rename_i q hq
      cases h
      have hsw : swapsWith (e.toE nm fn) (some (.Name (nmAt nm x) px)) p.line env = pure false := swaps_false (by
        cases hc : e.isComp with
        | false => exact .inl rfl
        | true => rw [hc] at w4; simp at w4; exact .inr w4)
      refine wpAny_Assign_Name ?_ hsw
      by_cases hM : x ∈ Mx
      · have hm : e.makes = true := by simpa [hM] using w5
        exact makes_sound hΦ hm hq w3 F.cs fun v s₁ hE hv hf hp => F.store hE hv hf hx hk (fun _ => hp) fun s₃ F₃ E₃ _ => hQ _ _ ⟨rfl, F₃, E₃⟩
      · exact X.sound hΦ e env σ s q _ _ hq w3 F.cs fun v s₁ hE hv hf => F.store hE hv (hf hnv) hx hk (fun h => absurd h hM) fun s₃ F₃ E₃ _ => hQ _ _ ⟨rfl, F₃, E₃⟩
    · cases h
  | .assignC x px e p => by
    intro σ s r Q E h wf F hQ
    simp only [S.wf_assignC, Bool.and_eq_true] at wf
    obtain ⟨⟨⟨⟨⟨⟨w1, w2⟩, w3⟩, w4⟩, w5⟩, w6⟩, w7⟩ := wf
    obtain ⟨hx, _⟩ := kLC_iff w1
    unfold S.ev at h
    split at h
    · rename_i q hq
      cases h
      exact assignC_sound hΦ hq hx (by simpa using w4) w2 w3 w5 (by simpa using w6) (not_mem_of w7) F fun s' F' E' => hQ _ _ ⟨rfl, F', E'⟩
    · cases h
  | .assignA x px e p => by
    intro σ s r Q E h wf F hQ
    simp only [S.wf_assignA, Bool.and_eq_true] at wf
    obtain ⟨⟨⟨w1, w2⟩, w3⟩, w4⟩ := wf
    obtain ⟨hx, hk⟩ := kLC_iff w1
    unfold S.ev at h
    split at h
    · rename_i q hq
      cases h
      obtain ⟨h1, h2⟩ := onlyF_some hq
      refine wpAny_Assign_Name ?_ (swaps_false (.inl (by simpa using w3)))
      exact X.sound hΦ e env σ s q _ _ h1 w2 F.cs fun v s₁ hE hv _ => F.store hE hv (fun a ha => by
        subst ha
        cases hv with
        | list hp hx hl => exact absurd rfl (h2 _)) hx hk (fun h => absurd h (not_mem_of w4)) fun s₃ F₃ E₃ _ => hQ _ _ ⟨rfl, F₃, E₃⟩
    · cases h
  | .setIdx x px i ps e p => by
    intro σ s r Q E h wf F hQ
    simp only [S.wf_setIdx, Bool.and_eq_true] at wf
    obtain ⟨⟨⟨w1, w2⟩, w3⟩, w4⟩ := wf
    obtain ⟨hx, hk⟩ := kLC_iff w1
    have hM := mem_of w2
    unfold S.ev at h
    split at h
    · rename_i v hv
      split at h
      · rename_i xs hxs
        split at h
        · rename_i k hk'
          split at h
          · rename_i a ha
            split at h
            · rename_i hb
              cases h
              refine wpAny_Assign_Subscript ?_ swaps_sub
              refine X.sound hΦ e env σ s v _ _ hv w4 F.cs fun va s₁ hE₁ hva _ => ?_
              have F₁ := F.ext hE₁
              obtain ⟨ad, kk, vs, hold, ho, hA, hl⟩ := F₁.listAt hM hxs
              refine F₁.load hx hold ?_
              refine X.sound hΦ i env σ s₁ _ _ _ hk' w3 F₁.cs fun vi s₂ hE₂ hvi _ => ?_
              cases hvi
              have F₂ := F₁.ext hE₂
              refine setAt F₂ hM ((F₁.holds_ext hE₂ _ _).mpr hold) (hE₂.keep _ _ ho) hA hl hb ((hva.keeps hE₂.keep).ais ha) fun s₃ F₃ E₃ => ?_
              exact hQ _ _ ⟨rfl, F₃, (F.eff (hE₁.trans hE₂)).trans E₃⟩
            · cases h
          · cases h
        · cases h
      · cases h
    · cases h
  | .augVar x px op e p => by
    intro σ s r Q E h wf F hQ
    simp only [S.wf_augVar, Bool.and_eq_true] at wf
    obtain ⟨⟨w1, w2⟩, w3⟩ := wf
    obtain ⟨hx, hk⟩ := kLC_iff w1
    have hM := not_mem_of w2
    unfold S.ev at h
    split at h
    · rename_i o ho
      split at h
      · rename_i v hv
        split at h
        · rename_i q hq
          cases h
          refine wpAny_AugAssign_Name (F.loadName ho fun vo hvo => ?_)
          refine X.sound hΦ e env σ s v _ _ hv w3 F.cs fun va s₁ hE₁ hva _ => ?_
          refine aug_sound hq (hvo.keeps hE₁.keep) hva fun u s₂ hE₂ hu hfr _ => ?_
          have hE := hE₁.trans hE₂
          exact F.store hE hu (hfr.back hE₁) hx hk (fun h => absurd h hM) fun s₃ F₃ E₃ _ => hQ _ _ ⟨rfl, F₃, E₃⟩
        · cases h
      · cases h
    · cases h
  | .augIdx x px i ps op e p => by
    intro σ s r Q E h wf F hQ
    simp only [S.wf_augIdx, Bool.and_eq_true] at wf
    obtain ⟨⟨⟨w1, w2⟩, w3⟩, w4⟩ := wf
    obtain ⟨hx, hk⟩ := kLC_iff w1
    have hM := mem_of w2
    unfold S.ev at h
    split at h
    · rename_i xs hxs
      split at h
      · rename_i k hk'
        split at h
        · rename_i hb
          split at h
          · rename_i o ho
            split at h
            · rename_i v hv
              split at h
              · rename_i q hq
                split at h
                · rename_i a ha
                  cases h
                  refine wpAny_AugAssign_Subscript_any ?_ ?_
                  · obtain ⟨ad, kk, vs, hold, hob, hA, hl⟩ := F.listAt hM hxs
                    refine F.load hx hold ?_
                    refine X.sound hΦ i env σ s _ _ _ hk' w3 F.cs fun vi s₁ hE₁ hvi _ => ?_
                    cases hvi
                    obtain ⟨vo, hvo, hvo2⟩ := hA.get ho
                    have hl' : xs.length ≤ 65536 := hl
                    refine wpAny_getItem_list (items := vs.toArray) ⟨_, hE₁.keep _ _ hob, rfl, _, rfl⟩ hb.1 (by omega) (by simpa using hvo) ?_
                    refine X.sound hΦ e env σ s₁ v _ _ hv w4 (F.ext hE₁).cs fun va s₂ hE₂ hva _ => ?_
                    refine aug_sound hq (hvo2.vis _) hva fun u s₃ hE₃ hu hfr hat => ?_
                    have hE := (hE₁.trans hE₂).trans hE₃
                    refine setAt (F.ext hE) hM ((F.holds_ext hE _ _).mpr hold) (hE.keep _ _ hob) hA hl hb (hu.ais ha) fun s₃ F₃ E₃ => ?_
                    exact hQ _ _ ⟨rfl, F₃, (F.eff hE).trans E₃⟩
                  · intro ov iv new
                    cases i <;> rfl
                · cases h
              · cases h
            · cases h
          · cases h
        · cases h
      · cases h
    · cases h
  | .append x px e pa pc p => by
    intro σ s r Q E h wf F hQ
    simp only [S.wf_append, Bool.and_eq_true] at wf
    obtain ⟨⟨⟨w1, w2⟩, w3⟩, w4⟩ := wf
    obtain ⟨hx, hk⟩ := kLC_iff w1
    have hM := mem_of w2
    unfold S.ev at h
    split at h
    · rename_i xs hxs
      split at h
      · rename_i v hv
        split at h
        · rename_i a ha
          split at h
          · rename_i hb
            cases h
            refine wpAny_Expr ?_ (notInteractive F.ok.fn) rfl
            have htrees : backTo pc (starEach [e.toE nm fn] env) = [(false, eval (e.toE nm fn) env)] := by
              have : starEach [e.toE nm fn] env = [(false, eval (e.toE nm fn) env)] := star_cons e []
              rw [this]; rfl
            refine wpAny_Call_append rfl ?_ w4 htrees ?_
            · rw [htrees]; rfl
            obtain ⟨ad, kk, vs, hold, hob, hA, hl⟩ := F.listAt hM hxs
            refine F.load hx hold ⟨ad, vs.toArray, rfl, ⟨_, kk, hob, rfl, rfl, rfl⟩, ?_⟩
            refine X.sound hΦ e env σ s _ _ _ hv w3 F.cs fun vi s₁ hE₁ hvi _ => ?_
            have hlen := hA.length
            refine wpAny_list_append_plain (items := vs.toArray) ⟨kk, hE₁.keep _ _ hob⟩ (fun h' hp hs => ?_) (by simp only [List.size_toArray]; exact Nat.le_trans (by omega) lim_line)
            have hai := hvi.ais ha
            obtain ⟨h1, h2⟩ := (F.ext hE₁).mutate (tk := s₁.toks) (ws := vs ++ [vi]) hM ((F.holds_ext hE₁ _ _).mpr hold) hs hp (by simp) (hA.push hai) (by rw [List.length_append]; exact hb)
            exact hQ _ _ ⟨rfl, h1, (F.eff hE₁).trans h2⟩
          · cases h
        · cases h
      · cases h
    · cases h
  | .pop y py x px pa pc p => by
    intro σ s r Q E h wf F hQ
    simp only [S.wf_pop, Bool.and_eq_true] at wf
    obtain ⟨⟨⟨⟨w1, w2⟩, w3⟩, w4⟩, w5⟩ := wf
    obtain ⟨hx, hk⟩ := kLC_iff w1
    obtain ⟨hy, hky⟩ := kLC_iff w3
    have hM := mem_of w2
    have hMy := not_mem_of w4
    unfold S.ev at h
    split at h
    · rename_i xs hxs
      split at h
      · rename_i a ha
        cases h
        refine wpAny_Assign_Name ?_ rfl
        refine wpAny_Call_method rfl rfl w5 PySem.F.plainAttrs_list PySem.F.slot_list_pop PySem.F.type_list_pop ?_
        obtain ⟨ad, kk, vs, hold, hob, hA, hl⟩ := F.listAt hM hxs
        refine F.load hx hold ⟨⟨_, hob, rfl⟩, (fun b hb => by cases hb; exact ⟨_, hob, rfl⟩), ?_⟩
        obtain ⟨v, hv, hva⟩ := hA.get ha
        have hlen := hA.length
        refine P.pop_list (items := vs.toArray) (n := kk) (y := v) hob (by simp only [List.size_toArray]; rw [hlen]; simpa using hv) ?_ (by simp only [List.size_toArray]; exact Nat.le_trans (by omega) lim_line)
        have hp := plain_set (fun its => its.eraseIdxIfInBounds (vs.toArray.size - 1)) hob
        obtain ⟨F₁, E₁⟩ := F.mutate (tk := s.toks) (ws := vs.take (xs.length - 1)) hM hold (Heap.SameBut.update ..) hp (by rw [← hlen]; exact pop_arr) (hA.take _) (by rw [List.length_take]; omega)
        exact F₁.store (.refl _) (hva.vis _) (hva.fresh _) hy hky (fun h => absurd h hMy) fun s₃ F₃ E₃ _ => hQ _ _ ⟨rfl, F₃, E₁.trans E₃⟩
      · cases h
    · cases h
  | .ifs t a b p => by
    intro σ s r Q E h wf F hQ
    simp only [S.wf_ifs, Bool.and_eq_true] at wf
    unfold S.ev at h
    split at h
    · rename_i ht
      refine wpAny_If (T.sound hΦ t env σ s true _ _ ht wf.1.1 F.cs fun s₁ hE₁ => ?_)
      rw [if_pos rfl]
      exact Ss.sound hΦ hG a σ s₁ r Q E h wf.1.2 (F.ext hE₁) fun f s' hO => hQ f s' (hO.before (F.eff hE₁))
    · rename_i ht
      refine wpAny_If (T.sound hΦ t env σ s false _ _ ht wf.1.1 F.cs fun s₁ hE₁ => ?_)
      rw [if_neg Bool.false_ne_true]
      exact Ss.sound hΦ hG b σ s₁ r Q E h wf.2 (F.ext hE₁) fun f s' hO => hQ f s' (hO.before (F.eff hE₁))
    · cases h
  | .while t b p => by
    intro σ s r Q E h wf F hQ
    simp only [S.wf_while, Bool.and_eq_true] at wf
    exact while_sound hΦ (bf := fun σ => b.ev Φ fuel σ) (fun σ s r Q E h F hQ => Ss.sound hΦ hG b σ s r Q E h wf.2 F hQ) h wf.1 F hQ
  | .for x px it b p => by
    intro σ s r Q E h wf F hQ
    simp only [S.wf_for, Bool.and_eq_true] at wf
    obtain ⟨⟨⟨⟨w1, w2⟩, w3⟩, w4⟩, w5⟩ := wf
    obtain ⟨hx, hk⟩ := kLC_iff w1
    unfold S.ev at h
    split at h
    · rename_i xs hxs
      refine for_sound hΦ (bf := fun σ => b.ev Φ fuel σ) (fun σ s r Q E h F hQ => Ss.sound hΦ hG b σ s r Q E h w4 F hQ) hxs h hx hk (not_mem_of w2) w3 (fun i hi => ?_) F hQ
      rw [hi] at w5
      exact not_mem_of w5
    · cases h
  | .forGen x px y py pt e pn pc b p => by
    intro σ s r Q E h wf F hQ
    simp only [S.wf_forGen, Bool.and_eq_true] at wf
    obtain ⟨⟨⟨⟨⟨⟨w1, w2⟩, w3⟩, w4⟩, w5⟩, w6⟩, w7⟩ := wf
    obtain ⟨hx, hk⟩ := kLC_iff w1
    obtain ⟨hy, hky⟩ := kLC_iff w3
    unfold S.ev at h
    split at h
    · rename_i l hl
      exact forGen_sound hΦ hG (bf := fun σ => b.ev Φ fuel σ) (fun σ s r Q E h F hQ => Ss.sound hΦ hG b σ s r Q E h w7 F hQ) hl h hx hk (not_mem_of w2) hy hky (not_mem_of w4) w5 w6 F hQ
    · cases h
  | .ret e p => by
    intro σ s r Q E h wf F hQ
    simp only [S.wf_ret, Bool.and_eq_true] at wf
    unfold S.ev at h
    split at h
    · rename_i q hq
      cases h
      refine wpAny_Return_some ?_
      have key : e.isVar = false → wpAny (model prog w) A (eval (e.toE nm fn) env) (fun v => Q (.ret v)) E s := fun hnv =>
        X.sound hΦ e env σ s q _ _ hq wf.1 F.cs fun v s₁ hE hv hf => hQ _ _ ⟨v, rfl, F.base.trans hE, hv, (hf hnv).back F.base⟩
      cases e with
      | var i pp =>
        have hiO : i ∈ O := mem_of wf.2
        obtain ⟨y, v, h1, h2, h3⟩ := F.ok.var i _ hq
        have hil := F.inb i hiO
        rw [nmAt_get hil] at h1; cases h1
        refine F.load hil h2 (hQ _ _ ⟨v, rfl, F.base, h3, fun a ha => ?_⟩)
        subst ha
        exact (F.own i hiO a h2).1
      | _ => exact key rfl
    · cases h
  | .retA e p => by
    intro σ s r Q E h wf F hQ
    unfold S.ev at h
    split at h
    · rename_i q hq
      cases h
      exact wpAny_Return_some (X.sound hΦ e env σ s q _ _ (onlyA_some hq).1 wf F.cs fun v s₁ hE hv _ => hQ _ _ ⟨v, rfl, F.base.trans hE, hv, onlyA_fresh hq hv⟩)
    · cases h
theorem Ss.sound (hΦ : PhiOk prog w D n fn Φ) (hG : GenFnOk prog w D n (fn 0)) {fuel : Nat} : ∀ (st : Ss) (σ : Sg) (s : Shared) (r : Res) (Q : Flow → Shared → Prop) (E : Value → Shared → Prop), st.ev Φ fuel σ = some r → st.wf nm fn O Mx env.scope = true → FR n D A env nm O Mx s₀ σ s →
    (∀ f s', OutOk n D A env nm O Mx s₀ s r f s' → Q f s') → wpAny (model prog w) A (execs (st.toS nm fn) env) Q E s
  | .nil => by
    intro σ s r Q E h wf F hQ
    cases h
    exact wpAny_execs_nil (hQ _ _ ⟨rfl, F, .refl⟩)
  | .cons st rest => by
    intro σ s r Q E h wf F hQ
    simp only [Ss.wf_cons, Bool.and_eq_true] at wf
    unfold Ss.ev at h
    refine wpAny_execs_cons ?_
    split at h
    · rename_i σ' hst
      refine S.sound hΦ hG st σ s _ _ _ hst wf.1 F fun f s₁ hO => ?_
      obtain ⟨rfl, F₁, E₁⟩ := hO
      exact Ss.sound hΦ hG rest σ' s₁ r Q E h wf.2 F₁ fun f s' hO => hQ f s' (hO.before E₁)
    · rename_i p hst
      cases h
      refine S.sound hΦ hG st σ s _ _ _ hst wf.1 F fun f s₁ hO => ?_
      obtain ⟨v, rfl, hO⟩ := hO
      exact hQ _ _ ⟨v, rfl, hO⟩
    · cases h
end
end
end Mine
end
section
open PySem PySem.W PyProof.Rows PySem.Calls PySem.Builtin PySem.Builtin.Str
set_option Elab.async false
set_option maxRecDepth 100000
namespace Mine

theorem len_succ {α : Type} {l : List α} {n : Nat} (h : l.length = n + 1) : ∃ a t, l = a :: t ∧ t.length = n := by
  cases l with
  | nil => cases h
  | cons a t => exact ⟨a, t, rfl, Nat.succ.inj h⟩
theorem one_of {α : Type} {l : List α} (h : l.length = 1) : ∃ a, l = [a] := by
  obtain ⟨a, t, rfl, h1⟩ := len_succ h
  cases List.length_eq_zero_iff.mp h1
  exact ⟨a, rfl⟩
theorem two_of {α : Type} {l : List α} (h : l.length = 2) : ∃ a b, l = [a, b] := by
  obtain ⟨a, t, rfl, h1⟩ := len_succ h
  obtain ⟨b, rfl⟩ := one_of h1
  exact ⟨a, b, rfl⟩
theorem four_of {α : Type} {l : List α} (h : l.length = 4) : ∃ a b c d, l = [a, b, c, d] := by
  obtain ⟨a, t1, rfl, h1⟩ := len_succ h
  obtain ⟨b, t2, rfl, h2⟩ := len_succ h1
  obtain ⟨c, d, rfl⟩ := two_of h2
  exact ⟨a, b, c, d, rfl⟩
theorem five {α : Type} {l : List α} (h : l.length = 5) : ∃ a b c d e, l = [a, b, c, d, e] := by
  obtain ⟨a, t1, rfl, h1⟩ := len_succ h
  obtain ⟨b, t2, rfl, h2⟩ := len_succ h1
  obtain ⟨c, t3, rfl, h3⟩ := len_succ h2
  obtain ⟨d, t4, rfl, h4⟩ := len_succ h3
  obtain ⟨e, t5, rfl, h5⟩ := len_succ h4
  cases List.length_eq_zero_iff.mp h5
  exact ⟨a, b, c, d, e, rfl⟩
theorem six {α : Type} {l : List α} (h : l.length = 6) : ∃ a b c d e f, l = [a, b, c, d, e, f] := by
  obtain ⟨a, t, rfl, h1⟩ := len_succ h
  obtain ⟨b, c, d, e, f, rfl⟩ := five h1
  exact ⟨a, b, c, d, e, f, rfl⟩
theorem seven {α : Type} {l : List α} (h : l.length = 7) : ∃ a b c d e f g, l = [a, b, c, d, e, f, g] := by
  obtain ⟨a, t, rfl, h1⟩ := len_succ h
  obtain ⟨b, c, d, e, f, g, rfl⟩ := six h1
  exact ⟨a, b, c, d, e, f, g, rfl⟩
theorem ten {α : Type} {l : List α} (h : l.length = 10) : ∃ a b c d e f g h i j, l = [a, b, c, d, e, f, g, h, i, j] := by
  obtain ⟨a, t1, rfl, h1⟩ := len_succ h
  obtain ⟨b, t2, rfl, h2⟩ := len_succ h1
  obtain ⟨c, t3, rfl, h3⟩ := len_succ h2
  obtain ⟨d, e, f, g, h', i, j, rfl⟩ := seven h3
  exact ⟨a, b, c, d, e, f, g, h', i, j, rfl⟩

theorem cellsFrom_has : ∀ (names : List (Str × NameKind)) (n : Nat) (acc : List (Str × Addr)) (y : Str), (names.lookup y = some .cell ∨ (acc.lookup y).isSome = true) → ((cellsFrom n names acc).lookup y).isSome = true
  | [], n, acc, y, h => by
    rcases h with h | h
    · cases h
    · exact h
  | (name, kind) :: r, n, acc, y, h => by
    unfold cellsFrom
    by_cases hk : (kind == NameKind.cell) = true
    · rw [if_pos hk]
      refine cellsFrom_has r _ _ y ?_
      by_cases hy : (y == name) = true
      · right; rw [List.lookup_cons, hy]; rfl
      · have hy' : (y == name) = false := by simpa using hy
        rcases h with h | h
        · rw [List.lookup_cons, hy'] at h
          exact .inl h
        · right; rw [List.lookup_cons, hy']; exact h
    · rw [if_neg hk]
      refine cellsFrom_has r _ _ y ?_
      rcases h with h | h
      · left
        rw [List.lookup_cons] at h
        cases hy : y == name with
        | true => rw [hy] at h; cases h; exact absurd rfl hk
        | false => rw [hy] at h; exact h
      · exact .inr h
theorem lookup_none_of {β : Type} {l : List (Str × β)} {y : Str} (h : y ∉ l.map (·.1)) : l.lookup y = none := by
  induction l with
  | nil => rfl
  | cons a r ih =>
    obtain ⟨k, v⟩ := a
    simp only [List.map_cons, List.mem_cons, not_or] at h
    rw [List.lookup_cons]
    have : (y == k) = false := by simpa using h.1
    rw [this]
    exact ih h.2
theorem bindL_eq {k : Str → Option NameKind} : ∀ (binds : List (Str × Value)) (m : Str → Option Value) (y : Str), (binds.map (·.1)).Nodup → bindL k binds m y = if k y = some .local then (binds.lookup y).or (m y) else m y
  | [], m, y, _ => by unfold bindL; simp
  | (n, v) :: r, m, y, h => by
    simp only [List.map_cons, List.nodup_cons] at h
    unfold bindL
    rw [bindL_eq r _ y h.2, List.lookup_cons]
    by_cases hy : y = n
    · subst hy
      have : (y == y) = true := by simp
      rw [this, lookup_none_of h.1]
      by_cases hk : k y = some .local
      · simp [hk]
      · simp [hk]
    · have : (y == n) = false := by simpa using hy
      rw [this]
      by_cases hk : k n = some .local
      · simp [hk, hy]
      · simp [hk]
theorem bindC_eq {k : Str → Option NameKind} : ∀ (binds : List (Str × Value)) (m : Str → Option Value) (y : Str), (binds.map (·.1)).Nodup → bindC k binds m y = if k y = some .local then m y else (binds.lookup y).or (m y)
  | [], m, y, _ => by unfold bindC; simp
  | (n, v) :: r, m, y, h => by
    simp only [List.map_cons, List.nodup_cons] at h
    unfold bindC
    rw [bindC_eq r _ y h.2, List.lookup_cons]
    by_cases hy : y = n
    · subst hy
      have : (y == y) = true := by simp
      rw [this, lookup_none_of h.1]
      by_cases hk : k y = some .local
      · simp [hk]
      · simp [hk]
    · have : (y == n) = false := by simpa using hy
      rw [this]
      by_cases hk : k n = some .local
      · simp [hk]
      · simp [hk, hy]

noncomputable def FnWf (nm : List Str) (O Mx : List Nat) (sc : Scope) (np : Nat) : Bool :=
  sc.kind == .function && !sc.isGenerator && !sc.isCoroutine && decide nm.Nodup && (nm.all fun x => !(x == ("__debug__" : Str))) && (O.all fun i => decide (np ≤ i) && decide (i < nm.length)) && (Mx.all fun i => O.contains i) &&
  ((nm.take np).all fun x => sc.names.lookup x == some .local || sc.names.lookup x == some .cell) && decide (np ≤ nm.length)
structure FnWfOk (nm : List Str) (O Mx : List Nat) (sc : Scope) (np : Nat) : Prop where
  kind : sc.kind = .function
  gen : sc.isGenerator = false
  co : sc.isCoroutine = false
  nodup : nm.Nodup
  dbg : ∀ x ∈ nm, (x == ("__debug__" : Str)) = false
  own : ∀ i ∈ O, np ≤ i ∧ i < nm.length
  sub : ∀ i ∈ Mx, i ∈ O
  kinds : ∀ x ∈ nm.take np, sc.names.lookup x = some .local ∨ sc.names.lookup x = some .cell
  np : np ≤ nm.length
theorem FnWf.ok {nm : List Str} {O Mx : List Nat} {sc : Scope} {np : Nat} (h : FnWf nm O Mx sc np = true) : FnWfOk nm O Mx sc np := by
  unfold FnWf at h
  simp only [Bool.and_eq_true, beq_iff_eq, Bool.not_eq_true', decide_eq_true_eq, List.all_eq_true, Bool.or_eq_true, List.contains_eq_mem] at h
  obtain ⟨⟨⟨⟨⟨⟨⟨⟨h1, h2⟩, h3⟩, h4⟩, h5⟩, h6⟩, h7⟩, h8⟩, h9⟩ := h
  exact ⟨h1, h2, h3, h4, h5, h6, h7, h8, h9⟩

noncomputable def sg0 (args : List PV) (len : Nat) : Sg := args.map some ++ List.replicate (len - args.length) none

section
variable {prog : Program} {w : World} {A : Around} {n : Nat} {D : List DefItem} {nm : List Str} {fn : Nat → Str} {Φ : Phi} {O Mx : List Nat} {s : Shared}

theorem AllV.length {h : Heap} {vs : List Value} {ps : List PV} (x : AllV h vs ps) : vs.length = ps.length := by
  induction x with
  | nil => rfl
  | cons _ _ ih => simp [ih]
theorem AllV.get {h : Heap} {vs : List Value} {ps : List PV} (x : AllV h vs ps) : ∀ {i : Nat} {p : PV}, ps[i]? = some p → ∃ v, vs[i]? = some v ∧ VIs h v p := by
  induction x with
  | nil => intro i p e; simp at e
  | cons hv _ ih =>
    intro i p e
    cases i with
    | zero => simp at e; subst e; exact ⟨_, rfl, hv⟩
    | succ i => simp at e; simpa using ih e
theorem AllV.live {h : Heap} {vs : List Value} {ps : List PV} (x : AllV h vs ps) {a : Addr} (hm : Value.ref a ∈ vs) : ∃ o, h.get? a = some o ∧ SeqO o := by
  induction x with
  | nil => cases hm
  | cons hv _ ih =>
    rcases List.mem_cons.mp hm with e | hm
    · subst e
      cases hv with
      | list hp _ _ => obtain ⟨o, _, ho, _, hd⟩ := hp; exact ⟨o, ho, _, _, hd⟩
    · exact ih hm
theorem lookup_zip {ks : List Str} {vs : List Value} (hn : ks.Nodup) : ∀ {i : Nat} {k : Str} {v : Value}, ks[i]? = some k → vs[i]? = some v → (ks.zip vs).lookup k = some v := by
  induction ks generalizing vs with
  | nil => intro i k v h; simp at h
  | cons a r ih =>
    intro i k v h1 h2
    cases vs with
    | nil => simp at h2
    | cons b t =>
      rw [List.zip_cons_cons, List.lookup_cons]
      cases i with
      | zero => simp at h1 h2; subst h1 h2; simp
      | succ i =>
        simp at h1 h2
        have hne : k ≠ a := fun e => (List.nodup_cons.mp hn).1 (e ▸ List.mem_of_getElem? h1)
        have : (k == a) = false := by simpa using hne
        rw [this]
        exact ih (List.nodup_cons.mp hn).2 h1 h2

/-- the frame, as the body of a def finds it -/
theorem frame0 {d : DefItem} {np : Nat} {args : List PV} {vals : List Value} {h₁ : Heap} {tk : Nat} {a : Addr} {cd : Value} (W : FnWfOk nm O Mx d.scope np) (hlen : args.length = np) (C : CtxOk A (n + 1)) (G : GW D s.heap) (hv : AllV s.heap vals args)
    (F : Fr s.heap s.heap.objs.size h₁ (bindL (envOfC d.name d.scope s.heap.objs.size a cd).kindOf ((nm.take np).zip vals) fun _ => none))
    (X : Cl s.heap.objs.size (cellsFrom (s.heap.objs.size + 1) d.scope.names []) h₁ (bindC (envOfC d.name d.scope s.heap.objs.size a cd).kindOf ((nm.take np).zip vals) fun _ => none)) :
    FR n D (A.deeper (envOfC d.name d.scope s.heap.objs.size a cd)) (envOfC d.name d.scope s.heap.objs.size a cd) nm O Mx s (sg0 args nm.length) { s with heap := h₁, toks := tk } := by
  generalize henv : envOfC d.name d.scope s.heap.objs.size a cd = env at *
  have hsc : env.scope = d.scope := by rw [← henv]; rfl
  have hloc : env.locals = s.heap.objs.size := by rw [← henv]; rfl
  have hcl : env.cells = cellsFrom (s.heap.objs.size + 1) d.scope.names [] := by rw [← henv]; rfl
  have hnd : (((nm.take np).zip vals).map (·.1)).Nodup := by
    have hsub : (((nm.take np).zip vals).map (·.1)).Sublist (nm.take np) := by
      have : ∀ (ks : List Str) (vs : List Value), ((ks.zip vs).map (·.1)).Sublist ks := by
        intro ks
        induction ks with
        | nil => intro vs; simp
        | cons x r ih => intro vs; cases vs with
          | nil => simp
          | cons b t => simp only [List.zip_cons_cons, List.map_cons]; exact (ih t).cons_cons x
      exact this _ _
    exact List.Nodup.sublist (hsub.trans (List.take_sublist _ _)) W.nodup
  have hNs : h₁.Ns env.locals (bindL env.kindOf ((nm.take np).zip vals) fun _ => none) := by rw [hloc]; exact F.ns
  have H : ∀ y v, HoldsV env h₁ y v → ((nm.take np).zip vals).lookup y = some v := by
    intro y v hh
    rcases hh with ⟨k, m, hm, e⟩ | ⟨k, c, hc, hcell⟩
    · have h1 := ns_uniq hm hNs y
      rw [e, bindL_eq _ _ _ hnd, if_pos k] at h1
      simpa using h1.symm
    · rw [hcl] at hc
      have h2 := X.cell y c hc
      obtain ⟨o, ho, hd⟩ := hcell
      obtain ⟨o', ho', hd'⟩ := h2
      rw [ho] at ho'; cases ho'
      rw [hd] at hd'
      have h3 : some v = bindC env.kindOf ((nm.take np).zip vals) (fun _ => none) y := by injection hd'
      rw [bindC_eq _ _ _ hnd, if_neg (by rw [k]; intro q; cases q)] at h3
      simpa using h3.symm
  have Hn : ∀ y v, HoldsV env h₁ y v → y ∈ nm.take np ∧ v ∈ vals := fun y v hh => by
    have := mem_of_lookup (H y v hh)
    exact ⟨(List.of_mem_zip this).1, (List.of_mem_zip this).2⟩
  have Hc : ∀ y v, ((nm.take np).zip vals).lookup y = some v → HoldsV env h₁ y v := by
    intro y v hh
    have hm := (List.of_mem_zip (mem_of_lookup hh)).1
    rcases W.kinds y hm with hk | hk
    · have hk' : env.kindOf y = some .local := by unfold Env.kindOf; rw [hsc]; exact hk
      refine .inl ⟨hk', _, hNs, ?_⟩
      rw [bindL_eq _ _ _ hnd, if_pos hk', hh]; rfl
    · have hk' : env.kindOf y = some .cell := by unfold Env.kindOf; rw [hsc]; exact hk
      obtain ⟨c, hc⟩ := Option.isSome_iff_exists.mp (cellsFrom_has d.scope.names (s.heap.objs.size + 1) [] y (.inl hk))
      refine .inr ⟨hk', c, by rw [hcl]; exact hc, ?_⟩
      have h2 := X.cell y c hc
      rw [bindC_eq _ _ _ hnd, if_neg (by rw [hk']; intro q; cases q), hh] at h2
      exact h2
  have nmget : ∀ i, i < nm.length → nm[i]? = some (nmAt nm i) := fun i hi => nmAt_get hi
  have inj : ∀ i j, i < nm.length → j < nm.length → nmAt nm i = nmAt nm j → i = j := fun i j hi hj e => by
    have h1 := nmget i hi
    have h2 := nmget j hj
    rw [← e] at h2
    exact (List.getElem?_inj hi W.nodup).mp (h1.trans h2.symm)
  have notown : ∀ i ∈ O, ∀ v, ¬ HoldsV env h₁ (nmAt nm i) v := fun i hi v hh => by
    obtain ⟨h1, h2⟩ := W.own i hi
    obtain ⟨j, hj, e⟩ := List.mem_iff_getElem.mp (Hn _ _ hh).1
    rw [List.getElem_take] at e
    rw [List.length_take] at hj
    have e2 : nmAt nm j = nmAt nm i := by
      have := nmget j (by omega)
      rw [List.getElem?_eq_getElem (by omega)] at this
      exact (Option.some.inj this).symm.trans e
    have := inj j i (by omega) h2 e2
    omega
  have hfresh : ∀ b, s.heap.objs.size ≤ b → s.heap.get? b = none := fun b hb => by
    cases q : s.heap.get? b with
    | none => rfl
    | some o => exact absurd (Heap.lt_size q) (Nat.not_lt.mpr hb)
  refine ⟨C.deeper, G, ⟨F.keep, rfl, .refl _⟩, ⟨_, hNs⟩, by rw [hloc]; exact hfresh _ (Nat.le_refl _), fun x hx => ?_, fun x y c hx hy => ?_, inj, ?_, ⟨?_, ?_, ?_, W.dbg, fun i p e => ?_⟩, fun x b hh => ?_, fun i hi b hh => absurd hh (notown i hi _), fun i hi b hh => absurd hh (notown i (W.sub i hi) _), W.sub, fun i hi => (W.own i hi).2⟩
  · have hk : d.scope.names.lookup x = some .cell := by
      have : env.scope.names.lookup x = some .cell := hx
      rw [hsc] at this; exact this
    obtain ⟨c, hc⟩ := Option.isSome_iff_exists.mp (cellsFrom_has d.scope.names (s.heap.objs.size + 1) [] x (.inl hk))
    exact ⟨c, _, by rw [hcl]; exact hc, X.cell x c hc, hfresh c (Nat.le_of_lt (X.above x c (mem_of_lookup hc)))⟩
  · rw [hcl] at hx hy
    exact name_of_addr X.apart (mem_of_lookup hx) (mem_of_lookup hy)
  · unfold sg0
    have := W.np
    simp only [List.length_append, List.length_map, List.length_replicate]
    omega
  · rw [hsc]; exact W.kind
  · rw [← henv]; rfl
  · rw [← henv]; rfl
  · unfold getS sg0 at e
    rw [List.getD_eq_getElem?_getD] at e
    by_cases hi : i < args.length
    · rw [List.getElem?_append_left (by simpa using hi), List.getElem?_map, List.getElem?_eq_getElem hi] at e
      simp at e
      obtain ⟨v, hv1, hv2⟩ := hv.get (i := i) (p := p) (by rw [List.getElem?_eq_getElem hi, e])
      have hnp := W.np
      refine ⟨_, v, nmget i (by omega), Hc _ _ (lookup_zip (List.Nodup.sublist (List.take_sublist _ _) W.nodup) (i := i) ?_ hv1), hv2.keeps F.keep⟩
      rw [List.getElem?_take, if_pos (by omega)]
      exact nmget i (by omega)
    · exfalso
      rw [List.getElem?_append_right (by simpa using hi), List.getElem?_replicate] at e
      split at e <;> cases e
  · obtain ⟨o, ho, hsq⟩ := hv.live (Hn _ _ hh).2
    exact ⟨o, F.keep _ _ ho, hsq⟩

/-- a def of the text answers as its tree is reckoned -/
theorem fnOk_of {d : DefItem} {np fuel : Nat} {body : Ss} {args : List PV} {r : PV} (hΦ : PhiOk prog w D n fn Φ) (hG : GenFnOk prog w D n (fn 0)) (hD : d ∈ D) (hdef : d.params.defaults = []) (hdbg : (d.name == ("__debug__" : Str)) = false) (hbody : d.body = body.toS nm fn)
    (hwf : body.wf nm fn O Mx d.scope = true) (hW : FnWf nm O Mx d.scope np = true)
    (hbind : ∀ pm cd doc vals, vals.length = np → bindArgs (docDef d.name d.params d.body d.scope pm cd doc) ⟨vals, []⟩ = pure ((nm.take np).zip vals))
    (hlen : args.length = np) (hev : body.ev Φ fuel (sg0 args nm.length) = some (.ret r)) : FnOk prog w D (n + 1) d.name args r := by
  have W := FnWf.ok hW
  refine ⟨⟨d, hD, rfl, hdef, hdbg⟩, fun A s f vals Q E C G hf hv hQ => ?_⟩
  obtain ⟨N, mg, mb, consts, objs, names, y⟩ := id G
  obtain ⟨f', c', o, pm, doc, _, _, h3, h4, h5, h6⟩ := (y.G.made d hD).plain hdef
  obtain ⟨mg', hm1, hm2⟩ := hf
  have hff : f = f' := by
    have := ns_uniq hm1 y.G.g d.name
    rw [hm2, h3] at this
    cases this; rfl
  subst hff
  refine wpAny_call ?_
  refine call_cells (binds := (nm.take np).zip vals) (by have := C.depth; unfold recursionLimit; omega) h4 h5 y.G.nolimit h6 (hbind _ _ _ _ (hv.length.trans hlen)) ?_ (fun h₁ tk F X => ?_) W.co W.gen W.kind
  · intro x hx
    have hm := (List.of_mem_zip (a := x.1) (b := x.2) hx).1
    rcases W.kinds x.1 hm with hk | hk
    · exact .inl hk
    · exact .inr ⟨hk, cellsFrom_has _ _ _ _ (.inl hk)⟩
  · have F0 := frame0 (n := n) (tk := tk) W hlen C G hv F X
    rw [hbody]
    refine Ss.sound hΦ hG body _ _ _ _ _ hev hwf F0 fun fl s' hO => ?_
    obtain ⟨v, rfl, hE, hv', hfr⟩ := hO
    exact hQ v s' hE hv' hfr
end
end Mine
end
section
open PySem PySem.W PyProof.Rows PySem.Calls PySem.Builtin PySem.Builtin.Str
set_option Elab.async false
set_option maxRecDepth 100000
namespace Mine
noncomputable def D0 : List DefItem := (recsOf PySem.Challenge.pw_sr0009_01).map itemOf
noncomputable def fnN (i : Nat) : Str := (["_iter_escaped_chars", "_strip_quoted_realnames", "_check_parenthesis", "_parse_varint", "quotedata", "ISTERMINAL", "ISEOF", "_law_numbers", "_law_octets", "_law_read", "_law_word", "_law_heights", "_law_built", "_law_stretched", "_law_turns", "_law_turns_back", "_law_is_below", "_law_walk"] : List Str).getD i Str.empty
noncomputable def nm_strip_quoted_realnames : List Str := ["addr", "start", "open_pos", "result", "pos", "ch"]
noncomputable def f_strip_quoted_realnames : Ss :=
  (.cons
  (.ifs (.cmp .NotIn (.str "\"" [34] ⟨17,7,17,10⟩) (.var 0 ⟨17,18,17,22⟩) ⟨17,7,17,22⟩) (.cons
    (.retA (.var 0 ⟨18,15,18,19⟩) ⟨18,8,18,19⟩)
    .nil) .nil ⟨17,4,18,19⟩)
  (.cons
  (.assign 1 ⟨19,4,19,9⟩ (.int (0) ⟨19,12,19,13⟩) ⟨19,4,19,13⟩)
  (.cons
  (.assign 2 ⟨20,4,20,12⟩ (.none ⟨20,15,20,19⟩) ⟨20,4,20,19⟩)
  (.cons
  (.assign 3 ⟨21,4,21,10⟩ (.disp .nil ⟨21,13,21,15⟩) ⟨21,4,21,15⟩)
  (.cons
  (.forGen 4 ⟨22,8,22,11⟩ 5 ⟨22,13,22,15⟩ ⟨22,8,22,15⟩ (.var 0 ⟨22,39,22,43⟩) ⟨22,19,22,38⟩ ⟨22,19,22,44⟩ (.cons
    (.ifs (.cmp .Eq (.var 5 ⟨23,11,23,13⟩) (.str "\"" [34] ⟨23,17,23,20⟩) ⟨23,11,23,20⟩) (.cons
      (.ifs (.cmp .Is (.var 2 ⟨24,15,24,23⟩) (.none ⟨24,27,24,31⟩) ⟨24,15,24,31⟩) (.cons
        (.assignA 2 ⟨25,16,25,24⟩ (.var 4 ⟨25,27,25,30⟩) ⟨25,16,25,30⟩)
        .nil) (.cons
        (.ifs (.cmp .NotEq (.var 1 ⟨27,19,27,24⟩) (.var 2 ⟨27,28,27,36⟩) ⟨27,19,27,36⟩) (.cons
          (.append 3 ⟨28,20,28,26⟩ (.slh (.var 0 ⟨28,34,28,38⟩) (.var 1 ⟨28,39,28,44⟩) (.var 2 ⟨28,45,28,53⟩) ⟨28,39,28,53⟩ ⟨28,34,28,54⟩) ⟨28,20,28,33⟩ ⟨28,20,28,55⟩ ⟨28,20,28,55⟩)
          .nil) .nil ⟨27,16,28,55⟩)
        (.cons
        (.assign 1 ⟨29,16,29,21⟩ (.bin .Add (.var 4 ⟨29,24,29,27⟩) (.int (1) ⟨29,30,29,31⟩) ⟨29,24,29,31⟩) ⟨29,16,29,31⟩)
        (.cons
        (.assign 2 ⟨30,16,30,24⟩ (.none ⟨30,27,30,31⟩) ⟨30,16,30,31⟩)
        .nil))) ⟨24,12,30,31⟩)
      .nil) .nil ⟨23,8,30,31⟩)
    .nil) ⟨22,4,30,31⟩)
  (.cons
  (.ifs (.cmp .Lt (.var 1 ⟨31,7,31,12⟩) (.bi .len (.var 0 ⟨31,19,31,23⟩) .nil ⟨31,15,31,18⟩ ⟨31,15,31,24⟩) ⟨31,7,31,24⟩) (.cons
    (.append 3 ⟨32,8,32,14⟩ (.slo (.var 0 ⟨32,22,32,26⟩) (.var 1 ⟨32,27,32,32⟩) ⟨32,27,32,33⟩ ⟨32,22,32,34⟩) ⟨32,8,32,21⟩ ⟨32,8,32,35⟩ ⟨32,8,32,35⟩)
    .nil) .nil ⟨31,4,32,35⟩)
  (.cons
  (.ret (.join (.var 3 ⟨33,19,33,25⟩) ⟨33,11,33,13⟩ ⟨33,11,33,18⟩ ⟨33,11,33,26⟩) ⟨33,4,33,26⟩)
  .nil)))))))
noncomputable def sc_strip_quoted_realnames : Scope := ⟨.function, [("addr", .local), ("start", .local), ("open_pos", .local), ("result", .local), ("pos", .local), ("ch", .local), ("_iter_escaped_chars", .globalImplicit), ("len", .globalImplicit)], false, false, []⟩
noncomputable def d_strip_quoted_realnames : DefItem := ⟨"_strip_quoted_realnames", ⟨[], [⟨"addr", none, ⟨16,28,16,32⟩⟩], none, [], [], none, []⟩, f_strip_quoted_realnames.toS nm_strip_quoted_realnames fnN, sc_strip_quoted_realnames, ⟨16,0,33,26⟩⟩

noncomputable def nm_check_parenthesis : List Str := ["addr", "opens", "pos", "ch"]
noncomputable def f_check_parenthesis : Ss :=
  (.cons
  (.assign 0 ⟨35,4,35,8⟩ (.call 1 (.var 0 ⟨35,35,35,39⟩) .nil ⟨35,11,35,34⟩ ⟨35,11,35,40⟩) ⟨35,4,35,40⟩)
  (.cons
  (.assign 1 ⟨36,4,36,9⟩ (.int (0) ⟨36,12,36,13⟩) ⟨36,4,36,13⟩)
  (.cons
  (.forGen 2 ⟨37,8,37,11⟩ 3 ⟨37,13,37,15⟩ ⟨37,8,37,15⟩ (.var 0 ⟨37,39,37,43⟩) ⟨37,19,37,38⟩ ⟨37,19,37,44⟩ (.cons
    (.ifs (.cmp .Eq (.var 3 ⟨38,11,38,13⟩) (.str "(" [40] ⟨38,17,38,20⟩) ⟨38,11,38,20⟩) (.cons
      (.augVar 1 ⟨39,12,39,17⟩ .Add (.int (1) ⟨39,21,39,22⟩) ⟨39,12,39,22⟩)
      .nil) (.cons
      (.ifs (.cmp .Eq (.var 3 ⟨40,13,40,15⟩) (.str ")" [41] ⟨40,19,40,22⟩) ⟨40,13,40,22⟩) (.cons
        (.augVar 1 ⟨41,12,41,17⟩ .Sub (.int (1) ⟨41,21,41,22⟩) ⟨41,12,41,22⟩)
        (.cons
        (.ifs (.cmp .Lt (.var 1 ⟨42,15,42,20⟩) (.int (0) ⟨42,23,42,24⟩) ⟨42,15,42,24⟩) (.cons
          (.ret (.bool false ⟨43,23,43,28⟩) ⟨43,16,43,28⟩)
          .nil) .nil ⟨42,12,43,28⟩)
        .nil)) .nil ⟨40,8,43,28⟩)
      .nil) ⟨38,8,43,28⟩)
    .nil) ⟨37,4,43,28⟩)
  (.cons
  (.ret (.cmp .Eq (.var 1 ⟨44,11,44,16⟩) (.int (0) ⟨44,20,44,21⟩) ⟨44,11,44,21⟩) ⟨44,4,44,21⟩)
  .nil))))
noncomputable def sc_check_parenthesis : Scope := ⟨.function, [("addr", .local), ("opens", .local), ("pos", .local), ("ch", .local), ("_strip_quoted_realnames", .globalImplicit), ("_iter_escaped_chars", .globalImplicit)], false, false, []⟩
noncomputable def d_check_parenthesis : DefItem := ⟨"_check_parenthesis", ⟨[], [⟨"addr", none, ⟨34,23,34,27⟩⟩], none, [], [], none, []⟩, f_check_parenthesis.toS nm_check_parenthesis fnN, sc_check_parenthesis, ⟨34,0,44,21⟩⟩

noncomputable def nm_ISTERMINAL : List Str := ["x"]
noncomputable def f_ISTERMINAL : Ss :=
  (.cons
  (.ret (.cmp .Lt (.var 0 ⟨64,11,64,12⟩) (.gint "NT_OFFSET" 256 ⟨64,15,64,24⟩) ⟨64,11,64,24⟩) ⟨64,4,64,24⟩)
  .nil)
noncomputable def sc_ISTERMINAL : Scope := ⟨.function, [("x", .local), ("NT_OFFSET", .globalImplicit)], false, false, []⟩
noncomputable def d_ISTERMINAL : DefItem := ⟨"ISTERMINAL", ⟨[], [⟨"x", none, ⟨63,15,63,16⟩⟩], none, [], [], none, []⟩, f_ISTERMINAL.toS nm_ISTERMINAL fnN, sc_ISTERMINAL, ⟨63,0,64,24⟩⟩

noncomputable def nm_ISEOF : List Str := ["x"]
noncomputable def f_ISEOF : Ss :=
  (.cons
  (.ret (.cmp .Eq (.var 0 ⟨66,11,66,12⟩) (.gint "ENDMARKER" 0 ⟨66,16,66,25⟩) ⟨66,11,66,25⟩) ⟨66,4,66,25⟩)
  .nil)
noncomputable def sc_ISEOF : Scope := ⟨.function, [("x", .local), ("ENDMARKER", .globalImplicit)], false, false, []⟩
noncomputable def d_ISEOF : DefItem := ⟨"ISEOF", ⟨[], [⟨"x", none, ⟨65,10,65,11⟩⟩], none, [], [], none, []⟩, f_ISEOF.toS nm_ISEOF fnN, sc_ISEOF, ⟨65,0,66,25⟩⟩

noncomputable def nm_law_numbers : List Str := ["script", "numbers", "k"]
noncomputable def f_law_numbers : Ss :=
  (.cons
  (.assign 1 ⟨69,4,69,11⟩ (.disp (.cons (.int (1154) ⟨69,15,69,19⟩) (.cons (.int (1032) ⟨69,21,69,25⟩) (.cons (.int (5) ⟨69,27,69,28⟩) (.cons (.int (2) ⟨69,30,69,31⟩) (.cons (.int (1) ⟨69,33,69,34⟩) (.cons (.int (70) ⟨69,36,69,38⟩) (.cons (.int (6) ⟨69,40,69,41⟩) .nil))))))) ⟨69,14,69,42⟩) ⟨69,4,69,42⟩)
  (.cons
  (.for 2 ⟨70,8,70,9⟩ (.r1 (.bi .min (.bi .len (.var 0 ⟨70,27,70,33⟩) .nil ⟨70,23,70,26⟩ ⟨70,23,70,34⟩) (.cons (.int (63) ⟨70,36,70,38⟩) .nil) ⟨70,19,70,22⟩ ⟨70,19,70,39⟩) ⟨70,13,70,18⟩ ⟨70,13,70,40⟩) (.cons
    (.augIdx 1 ⟨71,8,71,15⟩ (.bin .Mod (.var 2 ⟨71,16,71,17⟩) (.int (7) ⟨71,20,71,21⟩) ⟨71,16,71,21⟩) ⟨71,8,71,22⟩ .Add (.bin .Mod (.idx (.var 0 ⟨71,26,71,32⟩) (.var 2 ⟨71,33,71,34⟩) ⟨71,26,71,35⟩) (.int (1000000) ⟨71,38,71,45⟩) ⟨71,26,71,45⟩) ⟨71,8,71,45⟩)
    .nil) ⟨70,4,71,45⟩)
  (.cons
  (.ret (.var 1 ⟨72,11,72,18⟩) ⟨72,4,72,18⟩)
  .nil)))
noncomputable def sc_law_numbers : Scope := ⟨.function, [("script", .local), ("numbers", .local), ("k", .local), ("range", .globalImplicit), ("min", .globalImplicit), ("len", .globalImplicit)], false, false, []⟩
noncomputable def d_law_numbers : DefItem := ⟨"_law_numbers", ⟨[], [⟨"script", none, ⟨68,17,68,23⟩⟩], none, [], [], none, []⟩, f_law_numbers.toS nm_law_numbers fnN, sc_law_numbers, ⟨68,0,72,18⟩⟩

noncomputable def nm_law_octets : List Str := ["number", "octets"]
noncomputable def f_law_octets : Ss :=
  (.cons
  (.assign 1 ⟨74,4,74,10⟩ (.disp (.cons (.bin .Add (.bin .Mod (.var 0 ⟨74,14,74,20⟩) (.int (64) ⟨74,23,74,25⟩) ⟨74,14,74,25⟩) (.int (128) ⟨74,28,74,31⟩) ⟨74,14,74,31⟩) .nil) ⟨74,13,74,32⟩) ⟨74,4,74,32⟩)
  (.cons
  (.augVar 0 ⟨75,4,75,10⟩ .FloorDiv (.int (64) ⟨75,15,75,17⟩) ⟨75,4,75,17⟩)
  (.cons
  (.while (.cmp .Gt (.var 0 ⟨76,10,76,16⟩) (.int (0) ⟨76,19,76,20⟩) ⟨76,10,76,20⟩) (.cons
    (.assign 1 ⟨77,8,77,14⟩ (.bin .Add (.disp (.cons (.bin .Add (.bin .Mod (.var 0 ⟨77,18,77,24⟩) (.int (64) ⟨77,27,77,29⟩) ⟨77,18,77,29⟩) (.int (64) ⟨77,32,77,34⟩) ⟨77,18,77,34⟩) .nil) ⟨77,17,77,35⟩) (.var 1 ⟨77,38,77,44⟩) ⟨77,17,77,44⟩) ⟨77,8,77,44⟩)
    (.cons
    (.augVar 0 ⟨78,8,78,14⟩ .FloorDiv (.int (64) ⟨78,19,78,21⟩) ⟨78,8,78,21⟩)
    .nil)) ⟨76,4,78,21⟩)
  (.cons
  (.ret (.var 1 ⟨79,11,79,17⟩) ⟨79,4,79,17⟩)
  .nil))))
noncomputable def sc_law_octets : Scope := ⟨.function, [("number", .local), ("octets", .local)], false, false, []⟩
noncomputable def d_law_octets : DefItem := ⟨"_law_octets", ⟨[], [⟨"number", none, ⟨73,16,73,22⟩⟩], none, [], [], none, []⟩, f_law_octets.toS nm_law_octets fnN, sc_law_octets, ⟨73,0,79,17⟩⟩

noncomputable def nm_law_word : List Str := ["number", "word", "depth", "k"]
noncomputable def f_law_word : Ss :=
  (.cons
  (.assign 1 ⟨91,4,91,8⟩ (.str "" [] ⟨91,11,91,13⟩) ⟨91,4,91,13⟩)
  (.cons
  (.assign 2 ⟨92,4,92,9⟩ (.int (0) ⟨92,12,92,13⟩) ⟨92,4,92,13⟩)
  (.cons
  (.for 3 ⟨93,8,93,9⟩ (.r1 (.int (10) ⟨93,19,93,21⟩) ⟨93,13,93,18⟩ ⟨93,13,93,22⟩) (.cons
    (.ifs (.or (.cmp .Eq (.var 2 ⟨94,11,94,16⟩) (.int (0) ⟨94,20,94,21⟩) ⟨94,11,94,21⟩) (.and (.cmp .Eq (.bin .Mod (.var 0 ⟨94,26,94,32⟩) (.int (2) ⟨94,35,94,36⟩) ⟨94,26,94,36⟩) (.int (1) ⟨94,40,94,41⟩) ⟨94,26,94,41⟩) (.cmp .Lt (.bin .Add (.var 3 ⟨94,46,94,47⟩) (.var 2 ⟨94,50,94,55⟩) ⟨94,46,94,55⟩) (.int (10) ⟨94,58,94,60⟩) ⟨94,46,94,60⟩) ⟨94,26,94,60⟩) ⟨94,11,94,61⟩) (.cons
      (.augVar 1 ⟨95,12,95,16⟩ .Add (.str "(" [40] ⟨95,20,95,23⟩) ⟨95,12,95,23⟩)
      (.cons
      (.augVar 2 ⟨96,12,96,17⟩ .Add (.int (1) ⟨96,21,96,22⟩) ⟨96,12,96,22⟩)
      .nil)) (.cons
      (.augVar 1 ⟨98,12,98,16⟩ .Add (.str ")" [41] ⟨98,20,98,23⟩) ⟨98,12,98,23⟩)
      (.cons
      (.augVar 2 ⟨99,12,99,17⟩ .Sub (.int (1) ⟨99,21,99,22⟩) ⟨99,12,99,22⟩)
      .nil)) ⟨94,8,99,22⟩)
    (.cons
    (.augVar 0 ⟨100,8,100,14⟩ .FloorDiv (.int (2) ⟨100,19,100,20⟩) ⟨100,8,100,20⟩)
    .nil)) ⟨93,4,100,20⟩)
  (.cons
  (.retA (.var 1 ⟨101,11,101,15⟩) ⟨101,4,101,15⟩)
  .nil))))
noncomputable def sc_law_word : Scope := ⟨.function, [("number", .local), ("word", .local), ("depth", .local), ("k", .local), ("range", .globalImplicit)], false, false, []⟩
noncomputable def d_law_word : DefItem := ⟨"_law_word", ⟨[], [⟨"number", none, ⟨90,14,90,20⟩⟩], none, [], [], none, []⟩, f_law_word.toS nm_law_word fnN, sc_law_word, ⟨90,0,101,15⟩⟩

noncomputable def nm_law_heights : List Str := ["word", "found", "opened", "sign", "k"]
noncomputable def f_law_heights : Ss :=
  (.cons
  (.assign 1 ⟨103,4,103,9⟩ (.disp .nil ⟨103,12,103,14⟩) ⟨103,4,103,14⟩)
  (.cons
  (.assign 2 ⟨104,4,104,10⟩ (.disp .nil ⟨104,13,104,15⟩) ⟨104,4,104,15⟩)
  (.cons
  (.for 3 ⟨105,8,105,12⟩ (.x (.var 0 ⟨105,16,105,20⟩)) (.cons
    (.ifs (.cmp .Eq (.var 3 ⟨106,11,106,15⟩) (.str "(" [40] ⟨106,19,106,22⟩) ⟨106,11,106,22⟩) (.cons
      (.append 2 ⟨107,12,107,18⟩ (.bi .len (.var 1 ⟨107,30,107,35⟩) .nil ⟨107,26,107,29⟩ ⟨107,26,107,36⟩) ⟨107,12,107,25⟩ ⟨107,12,107,37⟩ ⟨107,12,107,37⟩)
      (.cons
      (.append 1 ⟨108,12,108,17⟩ (.int (0) ⟨108,25,108,26⟩) ⟨108,12,108,24⟩ ⟨108,12,108,27⟩ ⟨108,12,108,27⟩)
      .nil)) (.cons
      (.pop 4 ⟨110,12,110,13⟩ 2 ⟨110,16,110,22⟩ ⟨110,16,110,26⟩ ⟨110,16,110,28⟩ ⟨110,12,110,28⟩)
      (.cons
      (.setIdx 1 ⟨111,12,111,17⟩ (.var 4 ⟨111,18,111,19⟩) ⟨111,12,111,20⟩ (.bin .Sub (.bin .Sub (.bi .len (.var 1 ⟨111,27,111,32⟩) .nil ⟨111,23,111,26⟩ ⟨111,23,111,33⟩) (.int (1) ⟨111,36,111,37⟩) ⟨111,23,111,37⟩) (.var 4 ⟨111,40,111,41⟩) ⟨111,23,111,41⟩) ⟨111,12,111,41⟩)
      .nil)) ⟨106,8,111,41⟩)
    .nil) ⟨105,4,111,41⟩)
  (.cons
  (.ret (.var 1 ⟨112,11,112,16⟩) ⟨112,4,112,16⟩)
  .nil))))
noncomputable def sc_law_heights : Scope := ⟨.function, [("word", .local), ("found", .local), ("opened", .local), ("sign", .local), ("k", .local), ("len", .globalImplicit)], false, false, []⟩
noncomputable def d_law_heights : DefItem := ⟨"_law_heights", ⟨[], [⟨"word", none, ⟨102,17,102,21⟩⟩], none, [], [], none, []⟩, f_law_heights.toS nm_law_heights fnN, sc_law_heights, ⟨102,0,112,16⟩⟩

noncomputable def nm_law_built : List Str := ["heights", "word", "left", "height", "one"]
noncomputable def f_law_built : Ss :=
  (.cons
  (.assign 1 ⟨114,4,114,8⟩ (.str "" [] ⟨114,11,114,13⟩) ⟨114,4,114,13⟩)
  (.cons
  (.assign 2 ⟨115,4,115,8⟩ (.disp .nil ⟨115,11,115,13⟩) ⟨115,4,115,13⟩)
  (.cons
  (.for 3 ⟨116,8,116,14⟩ (.x (.var 0 ⟨116,18,116,25⟩)) (.cons
    (.augVar 1 ⟨117,8,117,12⟩ .Add (.str "(" [40] ⟨117,16,117,19⟩) ⟨117,8,117,19⟩)
    (.cons
    (.assign 2 ⟨118,8,118,12⟩ (.bin .Add (.comp (.bin .Sub (.var 4 ⟨118,16,118,19⟩) (.int (1) ⟨118,22,118,23⟩) ⟨118,16,118,23⟩) 4 ⟨118,28,118,31⟩ (.x (.var 2 ⟨118,35,118,39⟩)) [] ⟨.function, [(".0", .local), ("one", .local)], false, false, []⟩ ⟨118,15,118,40⟩) (.disp (.cons (.var 3 ⟨118,44,118,50⟩) .nil) ⟨118,43,118,51⟩) ⟨118,15,118,51⟩) ⟨118,8,118,51⟩)
    (.cons
    (.while (.and (.cmp .NotEq (.var 2 ⟨119,14,119,18⟩) (.disp .nil ⟨119,22,119,24⟩) ⟨119,14,119,24⟩) (.cmp .Eq (.idx (.var 2 ⟨119,29,119,33⟩) (.neg 1 ⟨119,35,119,36⟩ ⟨119,34,119,36⟩) ⟨119,29,119,37⟩) (.int (0) ⟨119,41,119,42⟩) ⟨119,29,119,42⟩) ⟨119,14,119,42⟩) (.cons
      (.augVar 1 ⟨120,12,120,16⟩ .Add (.str ")" [41] ⟨120,20,120,23⟩) ⟨120,12,120,23⟩)
      (.cons
      (.assign 2 ⟨121,12,121,16⟩ (.shi (.var 2 ⟨121,19,121,23⟩) (.neg 1 ⟨121,26,121,27⟩ ⟨121,25,121,27⟩) ⟨121,24,121,27⟩ ⟨121,19,121,28⟩) ⟨121,12,121,28⟩)
      .nil)) ⟨119,8,121,28⟩)
    .nil))) ⟨116,4,121,28⟩)
  (.cons
  (.retA (.var 1 ⟨122,11,122,15⟩) ⟨122,4,122,15⟩)
  .nil))))
noncomputable def sc_law_built : Scope := ⟨.function, [("heights", .local), ("word", .local), ("left", .local), ("height", .local)], false, false, [("fast", (.str "heights")), ("fast", (.str "word")), ("fast", (.str "left")), ("fast", (.str "height")), ("fast", (.str "one"))]⟩
noncomputable def d_law_built : DefItem := ⟨"_law_built", ⟨[], [⟨"heights", none, ⟨113,15,113,22⟩⟩], none, [], [], none, []⟩, f_law_built.toS nm_law_built fnN, sc_law_built, ⟨113,0,122,15⟩⟩

noncomputable def nm_law_stretched : List Str := ["heights", "found", "k", "reach", "at"]
noncomputable def f_law_stretched : Ss :=
  (.cons
  (.assign 1 ⟨124,4,124,9⟩ (.bi .list (.var 0 ⟨124,17,124,24⟩) .nil ⟨124,12,124,16⟩ ⟨124,12,124,25⟩) ⟨124,4,124,25⟩)
  (.cons
  (.for 2 ⟨125,8,125,9⟩ (.r3 (.bin .Sub (.bi .len (.var 1 ⟨125,23,125,28⟩) .nil ⟨125,19,125,22⟩ ⟨125,19,125,29⟩) (.int (1) ⟨125,32,125,33⟩) ⟨125,19,125,33⟩) (.neg 1 ⟨125,36,125,37⟩ ⟨125,35,125,37⟩) (.neg 1 ⟨125,40,125,41⟩ ⟨125,39,125,41⟩) ⟨125,13,125,18⟩ ⟨125,13,125,42⟩) (.cons
    (.assign 3 ⟨126,8,126,13⟩ (.bin .Add (.var 2 ⟨126,16,126,17⟩) (.idx (.var 1 ⟨126,20,126,25⟩) (.var 2 ⟨126,26,126,27⟩) ⟨126,20,126,28⟩) ⟨126,16,126,28⟩) ⟨126,8,126,28⟩)
    (.cons
    (.assign 4 ⟨127,8,127,10⟩ (.bin .Add (.var 2 ⟨127,13,127,14⟩) (.int (1) ⟨127,17,127,18⟩) ⟨127,13,127,18⟩) ⟨127,8,127,18⟩)
    (.cons
    (.while (.cmp .LtE (.var 4 ⟨128,14,128,16⟩) (.var 3 ⟨128,20,128,25⟩) ⟨128,14,128,25⟩) (.cons
      (.assign 3 ⟨129,12,129,17⟩ (.bi .max (.var 3 ⟨129,24,129,29⟩) (.cons (.bin .Add (.var 4 ⟨129,31,129,33⟩) (.idx (.var 1 ⟨129,36,129,41⟩) (.var 4 ⟨129,42,129,44⟩) ⟨129,36,129,45⟩) ⟨129,31,129,45⟩) .nil) ⟨129,20,129,23⟩ ⟨129,20,129,46⟩) ⟨129,12,129,46⟩)
      (.cons
      (.augVar 4 ⟨130,12,130,14⟩ .Add (.int (1) ⟨130,18,130,19⟩) ⟨130,12,130,19⟩)
      .nil)) ⟨128,8,130,19⟩)
    (.cons
    (.setIdx 1 ⟨131,8,131,13⟩ (.var 2 ⟨131,14,131,15⟩) ⟨131,8,131,16⟩ (.bin .Sub (.var 3 ⟨131,19,131,24⟩) (.var 2 ⟨131,27,131,28⟩) ⟨131,19,131,28⟩) ⟨131,8,131,28⟩)
    .nil)))) ⟨125,4,131,28⟩)
  (.cons
  (.ret (.var 1 ⟨132,11,132,16⟩) ⟨132,4,132,16⟩)
  .nil)))
noncomputable def sc_law_stretched : Scope := ⟨.function, [("heights", .local), ("found", .local), ("k", .local), ("reach", .local), ("at", .local), ("list", .globalImplicit), ("range", .globalImplicit), ("len", .globalImplicit), ("max", .globalImplicit)], false, false, []⟩
noncomputable def d_law_stretched : DefItem := ⟨"_law_stretched", ⟨[], [⟨"heights", none, ⟨123,19,123,26⟩⟩], none, [], [], none, []⟩, f_law_stretched.toS nm_law_stretched fnN, sc_law_stretched, ⟨123,0,132,16⟩⟩

noncomputable def nm_law_turns : List Str := ["word", "rider", "found", "place", "behind"]
noncomputable def f_law_turns : Ss :=
  (.cons
  (.assign 2 ⟨134,4,134,9⟩ (.disp .nil ⟨134,12,134,14⟩) ⟨134,4,134,14⟩)
  (.cons
  (.for 3 ⟨135,8,135,13⟩ (.r2 (.int (1) ⟨135,23,135,24⟩) (.bin .Sub (.bi .len (.var 0 ⟨135,30,135,34⟩) .nil ⟨135,26,135,29⟩ ⟨135,26,135,35⟩) (.int (2) ⟨135,38,135,39⟩) ⟨135,26,135,39⟩) ⟨135,17,135,22⟩ ⟨135,17,135,40⟩) (.cons
    (.ifs (.cmp .Eq (.slh (.var 0 ⟨136,11,136,15⟩) (.var 3 ⟨136,16,136,21⟩) (.bin .Add (.var 3 ⟨136,22,136,27⟩) (.int (2) ⟨136,30,136,31⟩) ⟨136,22,136,31⟩) ⟨136,16,136,31⟩ ⟨136,11,136,32⟩) (.str ")(" [41, 40] ⟨136,36,136,40⟩) ⟨136,11,136,40⟩) (.cons
      (.assign 4 ⟨137,12,137,18⟩ (.bin .Add (.var 3 ⟨137,21,137,26⟩) (.int (3) ⟨137,29,137,30⟩) ⟨137,21,137,30⟩) ⟨137,12,137,30⟩)
      (.cons
      (.while (.and (.cmp .Lt (.var 4 ⟨138,18,138,24⟩) (.bi .len (.var 0 ⟨138,31,138,35⟩) .nil ⟨138,27,138,30⟩ ⟨138,27,138,36⟩) ⟨138,18,138,36⟩) (.not (.call 2 (.bin .Add (.var 1 ⟨138,65,138,70⟩) (.slh (.var 0 ⟨138,73,138,77⟩) (.bin .Add (.var 3 ⟨138,78,138,83⟩) (.int (1) ⟨138,86,138,87⟩) ⟨138,78,138,87⟩) (.var 4 ⟨138,88,138,94⟩) ⟨138,78,138,94⟩ ⟨138,73,138,95⟩) ⟨138,65,138,95⟩) .nil ⟨138,46,138,64⟩ ⟨138,46,138,96⟩) ⟨138,42,138,96⟩) ⟨138,18,138,97⟩) (.cons
        (.augVar 4 ⟨139,16,139,22⟩ .Add (.int (2) ⟨139,26,139,27⟩) ⟨139,16,139,27⟩)
        .nil) ⟨138,12,139,27⟩)
      (.cons
      (.append 2 ⟨140,12,140,17⟩ (.bin .Add (.bin .Add (.bin .Add (.shi (.var 0 ⟨140,25,140,29⟩) (.var 3 ⟨140,31,140,36⟩) ⟨140,30,140,36⟩ ⟨140,25,140,37⟩) (.slh (.var 0 ⟨140,40,140,44⟩) (.bin .Add (.var 3 ⟨140,45,140,50⟩) (.int (1) ⟨140,53,140,54⟩) ⟨140,45,140,54⟩) (.var 4 ⟨140,55,140,61⟩) ⟨140,45,140,61⟩ ⟨140,40,140,62⟩) ⟨140,25,140,62⟩) (.str ")" [41] ⟨140,65,140,68⟩) ⟨140,25,140,68⟩) (.slo (.var 0 ⟨140,71,140,75⟩) (.var 4 ⟨140,76,140,82⟩) ⟨140,76,140,83⟩ ⟨140,71,140,84⟩) ⟨140,25,140,84⟩) ⟨140,12,140,24⟩ ⟨140,12,140,85⟩ ⟨140,12,140,85⟩)
      .nil))) .nil ⟨136,8,140,85⟩)
    .nil) ⟨135,4,140,85⟩)
  (.cons
  (.ret (.var 2 ⟨141,11,141,16⟩) ⟨141,4,141,16⟩)
  .nil)))
noncomputable def sc_law_turns : Scope := ⟨.function, [("word", .local), ("rider", .local), ("found", .local), ("place", .local), ("behind", .local), ("range", .globalImplicit), ("len", .globalImplicit), ("_check_parenthesis", .globalImplicit)], false, false, []⟩
noncomputable def d_law_turns : DefItem := ⟨"_law_turns", ⟨[], [⟨"word", none, ⟨133,15,133,19⟩⟩, ⟨"rider", none, ⟨133,21,133,26⟩⟩], none, [], [], none, []⟩, f_law_turns.toS nm_law_turns fnN, sc_law_turns, ⟨133,0,141,16⟩⟩

noncomputable def nm_law_turns_back : List Str := ["word", "rider", "found", "place", "first"]
noncomputable def f_law_turns_back : Ss :=
  (.cons
  (.assign 2 ⟨143,4,143,9⟩ (.disp .nil ⟨143,12,143,14⟩) ⟨143,4,143,14⟩)
  (.cons
  (.for 3 ⟨144,8,144,13⟩ (.r2 (.int (2) ⟨144,23,144,24⟩) (.bi .len (.var 0 ⟨144,30,144,34⟩) .nil ⟨144,26,144,29⟩ ⟨144,26,144,35⟩) ⟨144,17,144,22⟩ ⟨144,17,144,36⟩) (.cons
    (.ifs (.cmp .Eq (.slh (.var 0 ⟨145,11,145,15⟩) (.bin .Sub (.var 3 ⟨145,16,145,21⟩) (.int (1) ⟨145,24,145,25⟩) ⟨145,16,145,25⟩) (.bin .Add (.var 3 ⟨145,26,145,31⟩) (.int (1) ⟨145,34,145,35⟩) ⟨145,26,145,35⟩) ⟨145,16,145,35⟩ ⟨145,11,145,36⟩) (.str "))" [41, 41] ⟨145,40,145,44⟩) ⟨145,11,145,44⟩) (.cons
      (.assign 4 ⟨146,12,146,17⟩ (.bin .Sub (.var 3 ⟨146,20,146,25⟩) (.int (2) ⟨146,28,146,29⟩) ⟨146,20,146,29⟩) ⟨146,12,146,29⟩)
      (.cons
      (.while (.and (.cmp .Gt (.var 4 ⟨147,18,147,23⟩) (.int (0) ⟨147,26,147,27⟩) ⟨147,18,147,27⟩) (.not (.call 2 (.bin .Add (.var 1 ⟨147,56,147,61⟩) (.slh (.var 0 ⟨147,64,147,68⟩) (.var 4 ⟨147,69,147,74⟩) (.var 3 ⟨147,75,147,80⟩) ⟨147,69,147,80⟩ ⟨147,64,147,81⟩) ⟨147,56,147,81⟩) .nil ⟨147,37,147,55⟩ ⟨147,37,147,82⟩) ⟨147,33,147,82⟩) ⟨147,18,147,83⟩) (.cons
        (.augVar 4 ⟨148,16,148,21⟩ .Sub (.int (2) ⟨148,25,148,26⟩) ⟨148,16,148,26⟩)
        .nil) ⟨147,12,148,26⟩)
      (.cons
      (.append 2 ⟨149,12,149,17⟩ (.bin .Add (.bin .Add (.bin .Add (.shi (.var 0 ⟨149,25,149,29⟩) (.var 4 ⟨149,31,149,36⟩) ⟨149,30,149,36⟩ ⟨149,25,149,37⟩) (.str ")" [41] ⟨149,40,149,43⟩) ⟨149,25,149,43⟩) (.slh (.var 0 ⟨149,46,149,50⟩) (.var 4 ⟨149,51,149,56⟩) (.var 3 ⟨149,57,149,62⟩) ⟨149,51,149,62⟩ ⟨149,46,149,63⟩) ⟨149,25,149,63⟩) (.slo (.var 0 ⟨149,66,149,70⟩) (.bin .Add (.var 3 ⟨149,71,149,76⟩) (.int (1) ⟨149,79,149,80⟩) ⟨149,71,149,80⟩) ⟨149,71,149,81⟩ ⟨149,66,149,82⟩) ⟨149,25,149,82⟩) ⟨149,12,149,24⟩ ⟨149,12,149,83⟩ ⟨149,12,149,83⟩)
      .nil))) .nil ⟨145,8,149,83⟩)
    .nil) ⟨144,4,149,83⟩)
  (.cons
  (.ret (.var 2 ⟨150,11,150,16⟩) ⟨150,4,150,16⟩)
  .nil)))
noncomputable def sc_law_turns_back : Scope := ⟨.function, [("word", .local), ("rider", .local), ("found", .local), ("place", .local), ("first", .local), ("range", .globalImplicit), ("len", .globalImplicit), ("_check_parenthesis", .globalImplicit)], false, false, []⟩
noncomputable def d_law_turns_back : DefItem := ⟨"_law_turns_back", ⟨[], [⟨"word", none, ⟨142,20,142,24⟩⟩, ⟨"rider", none, ⟨142,26,142,31⟩⟩], none, [], [], none, []⟩, f_law_turns_back.toS nm_law_turns_back fnN, sc_law_turns_back, ⟨142,0,150,16⟩⟩

noncomputable def nm_law_is_below : List Str := ["heights", "goal", "k"]
noncomputable def f_law_is_below : Ss :=
  (.cons
  (.ret (.cmp .Eq (.compIf (.var 2 ⟨152,12,152,13⟩) 2 ⟨152,18,152,19⟩ (.r1 (.bi .len (.var 1 ⟨152,33,152,37⟩) .nil ⟨152,29,152,32⟩ ⟨152,29,152,38⟩) ⟨152,23,152,28⟩ ⟨152,23,152,39⟩) (.call 5 (.bin .Sub (.bin .Add (.gint "NT_OFFSET" 256 ⟨152,54,152,63⟩) (.idx (.var 1 ⟨152,66,152,70⟩) (.var 2 ⟨152,71,152,72⟩) ⟨152,66,152,73⟩) ⟨152,54,152,73⟩) (.idx (.var 0 ⟨152,76,152,83⟩) (.var 2 ⟨152,84,152,85⟩) ⟨152,76,152,86⟩) ⟨152,54,152,86⟩) .nil ⟨152,43,152,53⟩ ⟨152,43,152,87⟩) [1, 0] ⟨.function, [(".0", .local), ("k", .local), ("ISTERMINAL", .globalImplicit), ("NT_OFFSET", .globalImplicit), ("goal", .free), ("heights", .free)], false, false, []⟩ ⟨152,11,152,88⟩) (.disp .nil ⟨152,92,152,94⟩) ⟨152,11,152,94⟩) ⟨152,4,152,94⟩)
  .nil)
noncomputable def sc_law_is_below : Scope := ⟨.function, [("heights", .cell), ("goal", .cell), ("range", .globalImplicit), ("len", .globalImplicit)], false, false, [("fast", (.str "heights")), ("fast", (.str "goal")), ("fast", (.str "k"))]⟩
noncomputable def d_law_is_below : DefItem := ⟨"_law_is_below", ⟨[], [⟨"heights", none, ⟨151,18,151,25⟩⟩, ⟨"goal", none, ⟨151,27,151,31⟩⟩], none, [], [], none, []⟩, f_law_is_below.toS nm_law_is_below fnN, sc_law_is_below, ⟨151,0,152,94⟩⟩

noncomputable def nm_law_walk : List Str := ["word", "goal", "choice", "rider", "count", "free", "one"]
noncomputable def f_law_walk : Ss :=
  (.cons
  (.assign 4 ⟨154,4,154,9⟩ (.int (0) ⟨154,12,154,13⟩) ⟨154,4,154,13⟩)
  (.cons
  (.while (.not (.call 6 (.bin .Sub (.bi .sum (.var 1 ⟨155,24,155,28⟩) .nil ⟨155,20,155,23⟩ ⟨155,20,155,29⟩) (.bi .sum (.call 11 (.var 0 ⟨155,49,155,53⟩) .nil ⟨155,36,155,48⟩ ⟨155,36,155,54⟩) .nil ⟨155,32,155,35⟩ ⟨155,32,155,55⟩) ⟨155,20,155,55⟩) .nil ⟨155,14,155,19⟩ ⟨155,14,155,56⟩) ⟨155,10,155,56⟩) (.cons
    (.assignC 5 ⟨156,8,156,12⟩ (.compIf (.var 6 ⟨156,16,156,19⟩) 6 ⟨156,24,156,27⟩ (.x (.call 14 (.var 0 ⟨156,42,156,46⟩) (.cons (.var 3 ⟨156,48,156,53⟩) .nil) ⟨156,31,156,41⟩ ⟨156,31,156,54⟩)) (.call 16 (.call 11 (.var 6 ⟨156,85,156,88⟩) .nil ⟨156,72,156,84⟩ ⟨156,72,156,89⟩) (.cons (.var 1 ⟨156,91,156,95⟩) .nil) ⟨156,58,156,71⟩ ⟨156,58,156,96⟩) [1] ⟨.function, [(".0", .local), ("one", .local), ("_law_is_below", .globalImplicit), ("_law_heights", .globalImplicit), ("goal", .free)], false, false, []⟩ ⟨156,15,156,97⟩) ⟨156,8,156,97⟩)
    (.cons
    (.ifs (.cmp .Eq (.var 5 ⟨157,11,157,15⟩) (.disp .nil ⟨157,19,157,21⟩) ⟨157,11,157,21⟩) (.cons
      (.retA (.var 0 ⟨158,19,158,23⟩) ⟨158,12,158,23⟩)
      .nil) .nil ⟨157,8,158,23⟩)
    (.cons
    (.assign 0 ⟨159,8,159,12⟩ (.idx (.var 5 ⟨159,15,159,19⟩) (.bin .Mod (.bin .FloorDiv (.var 2 ⟨159,20,159,26⟩) (.bin .Pow (.int (2) ⟨159,30,159,31⟩) (.var 4 ⟨159,35,159,40⟩) ⟨159,30,159,40⟩) ⟨159,20,159,40⟩) (.bi .len (.var 5 ⟨159,47,159,51⟩) .nil ⟨159,43,159,46⟩ ⟨159,43,159,52⟩) ⟨159,20,159,52⟩) ⟨159,15,159,53⟩) ⟨159,8,159,53⟩)
    (.cons
    (.augVar 4 ⟨160,8,160,13⟩ .Add (.int (1) ⟨160,17,160,18⟩) ⟨160,8,160,18⟩)
    .nil)))) ⟨155,4,160,18⟩)
  (.cons
  (.retA (.var 0 ⟨161,11,161,15⟩) ⟨161,4,161,15⟩)
  .nil)))
noncomputable def sc_law_walk : Scope := ⟨.function, [("word", .local), ("goal", .cell), ("choice", .local), ("rider", .local), ("count", .local), ("free", .local), ("ISEOF", .globalImplicit), ("sum", .globalImplicit), ("_law_heights", .globalImplicit), ("_law_turns", .globalImplicit), ("len", .globalImplicit)], false, false, [("fast", (.str "word")), ("fast", (.str "goal")), ("fast", (.str "choice")), ("fast", (.str "rider")), ("fast", (.str "count")), ("fast", (.str "one")), ("fast", (.str "free"))]⟩
noncomputable def d_law_walk : DefItem := ⟨"_law_walk", ⟨[], [⟨"word", none, ⟨153,14,153,18⟩⟩, ⟨"goal", none, ⟨153,20,153,24⟩⟩, ⟨"choice", none, ⟨153,26,153,32⟩⟩, ⟨"rider", none, ⟨153,34,153,39⟩⟩], none, [], [], none, []⟩, f_law_walk.toS nm_law_walk fnN, sc_law_walk, ⟨153,0,161,15⟩⟩

noncomputable def nm_law : List Str := ["script", "numbers", "found", "manner", "rider", "times", "here", "there", "drawn", "mail", "turn", "heights", "some", "others", "floor", "roof", "above", "one", "k", "height", "row"]
noncomputable def f_law : Ss :=
  (.cons
  (.assign 1 ⟨163,4,163,11⟩ (.call 7 (.var 0 ⟨163,27,163,33⟩) .nil ⟨163,14,163,26⟩ ⟨163,14,163,34⟩) ⟨163,4,163,34⟩)
  (.cons
  (.assign 2 ⟨164,4,164,9⟩ (.call 9 (.shi (.var 1 ⟨164,22,164,29⟩) (.int (6) ⟨164,31,164,32⟩) ⟨164,30,164,32⟩ ⟨164,22,164,33⟩) .nil ⟨164,12,164,21⟩ ⟨164,12,164,34⟩) ⟨164,4,164,34⟩)
  (.cons
  (.ifs (.cmp .NotEq (.var 2 ⟨165,7,165,12⟩) (.shi (.var 1 ⟨165,16,165,23⟩) (.int (6) ⟨165,25,165,26⟩) ⟨165,24,165,26⟩ ⟨165,16,165,27⟩) ⟨165,7,165,27⟩) (.cons
    (.ret (.bool false ⟨166,15,166,20⟩) ⟨166,8,166,20⟩)
    .nil) .nil ⟨165,4,166,20⟩)
  (.cons
  (.assign 3 ⟨167,4,167,10⟩ (.idx (.var 1 ⟨167,13,167,20⟩) (.int (6) ⟨167,21,167,22⟩) ⟨167,13,167,23⟩) ⟨167,4,167,23⟩)
  (.cons
  (.assign 4 ⟨168,4,168,9⟩ (.idx (.disp (.cons (.str "" [] ⟨168,13,168,15⟩) (.cons (.str "\\(" [92, 40] ⟨168,17,168,22⟩) (.cons (.str "\")\"" [34, 41, 34] ⟨168,24,168,29⟩) (.cons (.str "\\\\" [92, 92] ⟨168,31,168,37⟩) .nil)))) ⟨168,12,168,38⟩) (.bin .Mod (.var 3 ⟨168,39,168,45⟩) (.int (4) ⟨168,48,168,49⟩) ⟨168,39,168,49⟩) ⟨168,12,168,50⟩) ⟨168,4,168,50⟩)
  (.cons
  (.assign 5 ⟨169,4,169,9⟩ (.bin .Add (.int (1) ⟨169,12,169,13⟩) (.bin .Mod (.bin .FloorDiv (.var 3 ⟨169,16,169,22⟩) (.int (4) ⟨169,26,169,27⟩) ⟨169,16,169,27⟩) (.int (3) ⟨169,30,169,31⟩) ⟨169,16,169,31⟩) ⟨169,12,169,31⟩) ⟨169,4,169,31⟩)
  (.cons
  (.assign 6 ⟨170,4,170,8⟩ (.call 10 (.idx (.var 2 ⟨170,21,170,26⟩) (.int (0) ⟨170,27,170,28⟩) ⟨170,21,170,29⟩) .nil ⟨170,11,170,20⟩ ⟨170,11,170,30⟩) ⟨170,4,170,30⟩)
  (.cons
  (.assign 7 ⟨171,4,171,9⟩ (.call 10 (.idx (.var 2 ⟨171,22,171,27⟩) (.int (1) ⟨171,28,171,29⟩) ⟨171,22,171,30⟩) .nil ⟨171,12,171,21⟩ ⟨171,12,171,31⟩) ⟨171,4,171,31⟩)
  (.cons
  (.assign 8 ⟨172,4,172,9⟩ (.bin .Add (.call 11 (.var 6 ⟨172,25,172,29⟩) .nil ⟨172,12,172,24⟩ ⟨172,12,172,30⟩) (.call 11 (.var 7 ⟨172,46,172,51⟩) .nil ⟨172,33,172,45⟩ ⟨172,33,172,52⟩) ⟨172,12,172,52⟩) ⟨172,4,172,52⟩)
  (.cons
  (.assign 9 ⟨173,4,173,8⟩ (.join (.comp (.bin .Add (.bin .Add (.bin .Mult (.str "." [46] ⟨173,20,173,23⟩) (.idx (.var 8 ⟨173,26,173,31⟩) (.var 18 ⟨173,32,173,33⟩) ⟨173,26,173,34⟩) ⟨173,20,173,34⟩) (.str "(" [40] ⟨173,37,173,40⟩) ⟨173,20,173,40⟩) (.idx (.disp (.cons (.str "\n" [10] ⟨173,44,173,48⟩) (.cons (.str "\x0d\n" [13, 10] ⟨173,50,173,56⟩) (.cons (.str "\x0d" [13] ⟨173,58,173,62⟩) .nil))) ⟨173,43,173,63⟩) (.bin .Mod (.bin .Add (.bin .FloorDiv (.var 3 ⟨173,65,173,71⟩) (.int (12) ⟨173,75,173,77⟩) ⟨173,65,173,77⟩) (.var 18 ⟨173,80,173,81⟩) ⟨173,65,173,81⟩) (.int (3) ⟨173,85,173,86⟩) ⟨173,64,173,86⟩) ⟨173,43,173,87⟩) ⟨173,20,173,87⟩) 18 ⟨173,92,173,93⟩ (.r1 (.int (10) ⟨173,103,173,105⟩) ⟨173,97,173,102⟩ ⟨173,97,173,106⟩) [8, 3] ⟨.function, [(".0", .local), ("k", .local), ("drawn", .free), ("manner", .free)], false, false, []⟩ ⟨173,19,173,107⟩) ⟨173,11,173,13⟩ ⟨173,11,173,18⟩ ⟨173,11,173,108⟩) ⟨173,4,173,108⟩)
  (.cons
  (.for 10 ⟨174,8,174,12⟩ (.r1 (.var 5 ⟨174,22,174,27⟩) ⟨174,16,174,21⟩ ⟨174,16,174,28⟩) (.cons
    (.assign 9 ⟨175,8,175,12⟩ (.call 4 (.var 9 ⟨175,25,175,29⟩) .nil ⟨175,15,175,24⟩ ⟨175,15,175,30⟩) ⟨175,8,175,30⟩)
    .nil) ⟨174,4,175,30⟩)
  (.cons
  (.ifs (.cmp .NotEq (.var 9 ⟨176,7,176,11⟩) (.join (.comp (.bin .Add (.bin .Mult (.str "." [46] ⟨176,24,176,27⟩) (.ite (.cmp .Gt (.var 19 ⟨176,49,176,55⟩) (.int (0) ⟨176,58,176,59⟩) ⟨176,49,176,59⟩) (.bin .Add (.var 19 ⟨176,31,176,37⟩) (.var 5 ⟨176,40,176,45⟩) ⟨176,31,176,45⟩) (.int (0) ⟨176,65,176,66⟩) ⟨176,31,176,66⟩) ⟨176,24,176,67⟩) (.str "(\x0d\n" [40, 13, 10] ⟨176,70,176,77⟩) ⟨176,24,176,77⟩) 19 ⟨176,82,176,88⟩ (.x (.var 8 ⟨176,92,176,97⟩)) [5] ⟨.function, [(".0", .local), ("height", .local), ("times", .free)], false, false, []⟩ ⟨176,23,176,98⟩) ⟨176,15,176,17⟩ ⟨176,15,176,22⟩ ⟨176,15,176,99⟩) ⟨176,7,176,99⟩) (.cons
    (.ret (.bool false ⟨177,15,177,20⟩) ⟨177,8,177,20⟩)
    .nil) .nil ⟨176,4,177,20⟩)
  (.cons
  (.assignC 11 ⟨178,4,178,11⟩ (.comp (.bi .max (.bin .Sub (.bin .Sub (.bi .len (.var 20 ⟨178,23,178,26⟩) .nil ⟨178,19,178,22⟩ ⟨178,19,178,27⟩) (.int (1) ⟨178,30,178,31⟩) ⟨178,19,178,31⟩) (.var 5 ⟨178,34,178,39⟩) ⟨178,19,178,39⟩) (.cons (.int (0) ⟨178,41,178,42⟩) .nil) ⟨178,15,178,18⟩ ⟨178,15,178,43⟩) 20 ⟨178,48,178,51⟩ (.x (.shi (.split (.var 9 ⟨178,55,178,59⟩) "\x0d\n" [13, 10] ⟨178,66,178,72⟩ ⟨178,55,178,65⟩ ⟨178,55,178,73⟩) (.neg 1 ⟨178,76,178,77⟩ ⟨178,75,178,77⟩) ⟨178,74,178,77⟩ ⟨178,55,178,78⟩)) [5] ⟨.function, [(".0", .local), ("row", .local), ("max", .globalImplicit), ("len", .globalImplicit), ("times", .free)], false, false, []⟩ ⟨178,14,178,79⟩) ⟨178,4,178,79⟩)
  (.cons
  (.assign 12 ⟨179,4,179,8⟩ (.shi (.var 11 ⟨179,11,179,18⟩) (.int (5) ⟨179,20,179,21⟩) ⟨179,19,179,21⟩ ⟨179,11,179,22⟩) ⟨179,4,179,22⟩)
  (.cons
  (.assign 13 ⟨180,4,180,10⟩ (.slo (.var 11 ⟨180,13,180,20⟩) (.int (5) ⟨180,21,180,22⟩) ⟨180,21,180,23⟩ ⟨180,13,180,24⟩) ⟨180,4,180,24⟩)
  (.cons
  (.assign 14 ⟨181,4,181,9⟩ (.call 12 (.comp (.bi .min (.idx (.var 12 ⟨181,28,181,32⟩) (.var 18 ⟨181,33,181,34⟩) ⟨181,28,181,35⟩) (.cons (.idx (.var 13 ⟨181,37,181,43⟩) (.var 18 ⟨181,44,181,45⟩) ⟨181,37,181,46⟩) .nil) ⟨181,24,181,27⟩ ⟨181,24,181,47⟩) 18 ⟨181,52,181,53⟩ (.r1 (.int (5) ⟨181,63,181,64⟩) ⟨181,57,181,62⟩ ⟨181,57,181,65⟩) [13, 12] ⟨.function, [(".0", .local), ("k", .local), ("min", .globalImplicit), ("others", .free), ("some", .free)], false, false, []⟩ ⟨181,23,181,66⟩) .nil ⟨181,12,181,22⟩ ⟨181,12,181,67⟩) ⟨181,4,181,67⟩)
  (.cons
  (.assign 15 ⟨182,4,182,8⟩ (.call 12 (.call 13 (.comp (.bi .max (.idx (.var 12 ⟨182,42,182,46⟩) (.var 18 ⟨182,47,182,48⟩) ⟨182,42,182,49⟩) (.cons (.idx (.var 13 ⟨182,51,182,57⟩) (.var 18 ⟨182,58,182,59⟩) ⟨182,51,182,60⟩) .nil) ⟨182,38,182,41⟩ ⟨182,38,182,61⟩) 18 ⟨182,66,182,67⟩ (.r1 (.int (5) ⟨182,77,182,78⟩) ⟨182,71,182,76⟩ ⟨182,71,182,79⟩) [13, 12] ⟨.function, [(".0", .local), ("k", .local), ("max", .globalImplicit), ("others", .free), ("some", .free)], false, false, []⟩ ⟨182,37,182,80⟩) .nil ⟨182,22,182,36⟩ ⟨182,22,182,81⟩) .nil ⟨182,11,182,21⟩ ⟨182,11,182,82⟩) ⟨182,4,182,82⟩)
  (.cons
  (.assign 16 ⟨183,4,183,9⟩ (.call 11 (.var 15 ⟨183,25,183,29⟩) .nil ⟨183,12,183,24⟩ ⟨183,12,183,30⟩) ⟨183,4,183,30⟩)
  (.cons
  (.for 17 ⟨184,8,184,11⟩ (.x (.disp (.cons (.var 6 ⟨184,16,184,20⟩) (.cons (.var 7 ⟨184,22,184,27⟩) (.cons (.var 14 ⟨184,29,184,34⟩) (.cons (.var 15 ⟨184,36,184,40⟩) .nil)))) ⟨184,15,184,41⟩)) (.cons
    (.ifs (.or (.cmp .IsNot (.call 2 (.bin .Add (.var 4 ⟨185,30,185,35⟩) (.var 17 ⟨185,38,185,41⟩) ⟨185,30,185,41⟩) .nil ⟨185,11,185,29⟩ ⟨185,11,185,42⟩) (.bool true ⟨185,50,185,54⟩) ⟨185,11,185,54⟩) (.cmp .IsNot (.call 2 (.bin .Add (.bin .Add (.var 4 ⟨185,77,185,82⟩) (.slo (.var 17 ⟨185,85,185,88⟩) (.int (1) ⟨185,89,185,90⟩) ⟨185,89,185,91⟩ ⟨185,85,185,92⟩) ⟨185,77,185,92⟩) (.idx (.var 17 ⟨185,95,185,98⟩) (.int (0) ⟨185,99,185,100⟩) ⟨185,95,185,101⟩) ⟨185,77,185,101⟩) .nil ⟨185,58,185,76⟩ ⟨185,58,185,102⟩) (.bool false ⟨185,110,185,115⟩) ⟨185,58,185,115⟩) ⟨185,11,185,115⟩) (.cons
      (.ret (.bool false ⟨186,19,186,24⟩) ⟨186,12,186,24⟩)
      .nil) .nil ⟨185,8,186,24⟩)
    (.cons
    (.ifs (.cmp .IsNot (.call 2 (.bin .Add (.var 4 ⟨187,30,187,35⟩) (.shi (.var 17 ⟨187,38,187,41⟩) (.neg 1 ⟨187,44,187,45⟩ ⟨187,43,187,45⟩) ⟨187,42,187,45⟩ ⟨187,38,187,46⟩) ⟨187,30,187,46⟩) .nil ⟨187,11,187,29⟩ ⟨187,11,187,47⟩) (.bool false ⟨187,55,187,60⟩) ⟨187,11,187,60⟩) (.cons
      (.ret (.bool false ⟨188,19,188,24⟩) ⟨188,12,188,24⟩)
      .nil) .nil ⟨187,8,188,24⟩)
    .nil)) ⟨184,4,188,24⟩)
  (.cons
  (.ifs (.or (.cmp .NotEq (.call 17 (.var 14 ⟨189,17,189,22⟩) (.cons (.var 12 ⟨189,24,189,28⟩) (.cons (.idx (.var 2 ⟨189,30,189,35⟩) (.int (2) ⟨189,36,189,37⟩) ⟨189,30,189,38⟩) (.cons (.var 4 ⟨189,40,189,45⟩) .nil))) ⟨189,7,189,16⟩ ⟨189,7,189,46⟩) (.var 6 ⟨189,50,189,54⟩) ⟨189,7,189,54⟩) (.cmp .NotEq (.call 17 (.var 14 ⟨189,68,189,73⟩) (.cons (.var 13 ⟨189,75,189,81⟩) (.cons (.idx (.var 2 ⟨189,83,189,88⟩) (.int (3) ⟨189,89,189,90⟩) ⟨189,83,189,91⟩) (.cons (.var 4 ⟨189,93,189,98⟩) .nil))) ⟨189,58,189,67⟩ ⟨189,58,189,99⟩) (.var 7 ⟨189,103,189,108⟩) ⟨189,58,189,108⟩) ⟨189,7,189,108⟩) (.cons
    (.ret (.bool false ⟨190,15,190,20⟩) ⟨190,8,190,20⟩)
    .nil) .nil ⟨189,4,190,20⟩)
  (.cons
  (.ifs (.or (.cmp .NotEq (.call 17 (.var 6 ⟨191,17,191,21⟩) (.cons (.var 16 ⟨191,23,191,28⟩) (.cons (.idx (.var 2 ⟨191,30,191,35⟩) (.int (4) ⟨191,36,191,37⟩) ⟨191,30,191,38⟩) (.cons (.var 4 ⟨191,40,191,45⟩) .nil))) ⟨191,7,191,16⟩ ⟨191,7,191,46⟩) (.var 15 ⟨191,50,191,54⟩) ⟨191,7,191,54⟩) (.cmp .NotEq (.call 17 (.var 7 ⟨191,68,191,73⟩) (.cons (.var 16 ⟨191,75,191,80⟩) (.cons (.idx (.var 2 ⟨191,82,191,87⟩) (.int (5) ⟨191,88,191,89⟩) ⟨191,82,191,90⟩) (.cons (.var 4 ⟨191,92,191,97⟩) .nil))) ⟨191,58,191,67⟩ ⟨191,58,191,98⟩) (.var 15 ⟨191,102,191,106⟩) ⟨191,58,191,106⟩) ⟨191,7,191,106⟩) (.cons
    (.ret (.bool false ⟨192,15,192,20⟩) ⟨192,8,192,20⟩)
    .nil) .nil ⟨191,4,192,20⟩)
  (.cons
  (.for 17 ⟨193,8,193,11⟩ (.x (.call 14 (.var 14 ⟨193,26,193,31⟩) (.cons (.var 4 ⟨193,33,193,38⟩) .nil) ⟨193,15,193,25⟩ ⟨193,15,193,39⟩)) (.cons
    (.ifs (.and (.call 16 (.call 11 (.var 17 ⟨194,38,194,41⟩) .nil ⟨194,25,194,37⟩ ⟨194,25,194,42⟩) (.cons (.var 12 ⟨194,44,194,48⟩) .nil) ⟨194,11,194,24⟩ ⟨194,11,194,49⟩) (.call 16 (.call 11 (.var 17 ⟨194,81,194,84⟩) .nil ⟨194,68,194,80⟩ ⟨194,68,194,85⟩) (.cons (.var 13 ⟨194,87,194,93⟩) .nil) ⟨194,54,194,67⟩ ⟨194,54,194,94⟩) ⟨194,11,194,94⟩) (.cons
      (.ret (.bool false ⟨195,19,195,24⟩) ⟨195,12,195,24⟩)
      .nil) .nil ⟨194,8,195,24⟩)
    .nil) ⟨193,4,195,24⟩)
  (.cons
  (.for 17 ⟨196,8,196,11⟩ (.x (.call 15 (.var 15 ⟨196,31,196,35⟩) (.cons (.var 4 ⟨196,37,196,42⟩) .nil) ⟨196,15,196,30⟩ ⟨196,15,196,43⟩)) (.cons
    (.ifs (.and (.call 16 (.var 12 ⟨197,25,197,29⟩) (.cons (.call 11 (.var 17 ⟨197,44,197,47⟩) .nil ⟨197,31,197,43⟩ ⟨197,31,197,48⟩) .nil) ⟨197,11,197,24⟩ ⟨197,11,197,49⟩) (.call 16 (.var 13 ⟨197,68,197,74⟩) (.cons (.call 11 (.var 17 ⟨197,89,197,92⟩) .nil ⟨197,76,197,88⟩ ⟨197,76,197,93⟩) .nil) ⟨197,54,197,67⟩ ⟨197,54,197,94⟩) ⟨197,11,197,94⟩) (.cons
      (.ret (.bool false ⟨198,19,198,24⟩) ⟨198,12,198,24⟩)
      .nil) .nil ⟨197,8,198,24⟩)
    .nil) ⟨196,4,198,24⟩)
  (.cons
  (.ret (.bool true ⟨199,11,199,15⟩) ⟨199,4,199,15⟩)
  .nil))))))))))))))))))))))))
noncomputable def sc_law : Scope := ⟨.function, [("script", .local), ("numbers", .local), ("found", .local), ("manner", .cell), ("rider", .local), ("times", .cell), ("here", .local), ("there", .local), ("drawn", .cell), ("mail", .local), ("turn", .local), ("heights", .local), ("some", .cell), ("others", .cell), ("floor", .local), ("roof", .local), ("above", .local), ("one", .local), ("_law_numbers", .globalImplicit), ("_law_read", .globalImplicit), ("_law_word", .globalImplicit), ("_law_heights", .globalImplicit), ("range", .globalImplicit), ("quotedata", .globalImplicit), ("_law_built", .globalImplicit), ("_law_stretched", .globalImplicit), ("_check_parenthesis", .globalImplicit), ("_law_walk", .globalImplicit), ("_law_turns", .globalImplicit), ("_law_is_below", .globalImplicit), ("_law_turns_back", .globalImplicit)], false, false, [("fast", (.str "script")), ("fast", (.str "numbers")), ("fast", (.str "found")), ("fast", (.str "manner")), ("fast", (.str "rider")), ("fast", (.str "times")), ("fast", (.str "here")), ("fast", (.str "there")), ("fast", (.str "drawn")), ("fast", (.str "k")), ("fast", (.str "mail")), ("fast", (.str "turn")), ("fast", (.str "height")), ("fast", (.str "row")), ("fast", (.str "heights")), ("fast", (.str "some")), ("fast", (.str "others")), ("fast", (.str "floor")), ("fast", (.str "roof")), ("fast", (.str "above")), ("fast", (.str "one"))]⟩
noncomputable def d_law : DefItem := ⟨"law", ⟨[], [⟨"script", none, ⟨162,8,162,14⟩⟩], none, [], [], none, []⟩, f_law.toS nm_law fnN, sc_law, ⟨162,0,199,15⟩⟩

theorem in_strip_quoted_realnames : d_strip_quoted_realnames ∈ D0 := List.mem_of_getElem? (i := 1) (by with_unfolding_all rfl)
theorem wf_strip_quoted_realnames : f_strip_quoted_realnames.wf nm_strip_quoted_realnames fnN [3] [3] d_strip_quoted_realnames.scope = true := by decide +kernel
theorem fw_strip_quoted_realnames : FnWf nm_strip_quoted_realnames [3] [3] d_strip_quoted_realnames.scope 1 = true := by decide +kernel
theorem bind_strip_quoted_realnames (pm cd doc : Value) : ∀ vals : List Value, vals.length = 1 → bindArgs (docDef d_strip_quoted_realnames.name d_strip_quoted_realnames.params d_strip_quoted_realnames.body d_strip_quoted_realnames.scope pm cd doc) ⟨vals, []⟩ = pure ((nm_strip_quoted_realnames.take 1).zip vals) := by
  intro vals h
  obtain ⟨v0, rfl⟩ := one_of h
  rfl

theorem in_check_parenthesis : d_check_parenthesis ∈ D0 := List.mem_of_getElem? (i := 2) (by with_unfolding_all rfl)
theorem wf_check_parenthesis : f_check_parenthesis.wf nm_check_parenthesis fnN [] [] d_check_parenthesis.scope = true := by decide +kernel
theorem fw_check_parenthesis : FnWf nm_check_parenthesis [] [] d_check_parenthesis.scope 1 = true := by decide +kernel
theorem bind_check_parenthesis (pm cd doc : Value) : ∀ vals : List Value, vals.length = 1 → bindArgs (docDef d_check_parenthesis.name d_check_parenthesis.params d_check_parenthesis.body d_check_parenthesis.scope pm cd doc) ⟨vals, []⟩ = pure ((nm_check_parenthesis.take 1).zip vals) := by
  intro vals h
  obtain ⟨v0, rfl⟩ := one_of h
  rfl

theorem in_ISTERMINAL : d_ISTERMINAL ∈ D0 := List.mem_of_getElem? (i := 5) (by with_unfolding_all rfl)
theorem wf_ISTERMINAL : f_ISTERMINAL.wf nm_ISTERMINAL fnN [] [] d_ISTERMINAL.scope = true := by decide +kernel
theorem fw_ISTERMINAL : FnWf nm_ISTERMINAL [] [] d_ISTERMINAL.scope 1 = true := by decide +kernel
theorem bind_ISTERMINAL (pm cd doc : Value) : ∀ vals : List Value, vals.length = 1 → bindArgs (docDef d_ISTERMINAL.name d_ISTERMINAL.params d_ISTERMINAL.body d_ISTERMINAL.scope pm cd doc) ⟨vals, []⟩ = pure ((nm_ISTERMINAL.take 1).zip vals) := by
  intro vals h
  obtain ⟨v0, rfl⟩ := one_of h
  rfl

theorem in_ISEOF : d_ISEOF ∈ D0 := List.mem_of_getElem? (i := 6) (by with_unfolding_all rfl)
theorem wf_ISEOF : f_ISEOF.wf nm_ISEOF fnN [] [] d_ISEOF.scope = true := by decide +kernel
theorem fw_ISEOF : FnWf nm_ISEOF [] [] d_ISEOF.scope 1 = true := by decide +kernel
theorem bind_ISEOF (pm cd doc : Value) : ∀ vals : List Value, vals.length = 1 → bindArgs (docDef d_ISEOF.name d_ISEOF.params d_ISEOF.body d_ISEOF.scope pm cd doc) ⟨vals, []⟩ = pure ((nm_ISEOF.take 1).zip vals) := by
  intro vals h
  obtain ⟨v0, rfl⟩ := one_of h
  rfl

theorem in_law_numbers : d_law_numbers ∈ D0 := List.mem_of_getElem? (i := 7) (by with_unfolding_all rfl)
theorem wf_law_numbers : f_law_numbers.wf nm_law_numbers fnN [1] [1] d_law_numbers.scope = true := by decide +kernel
theorem fw_law_numbers : FnWf nm_law_numbers [1] [1] d_law_numbers.scope 1 = true := by decide +kernel
theorem bind_law_numbers (pm cd doc : Value) : ∀ vals : List Value, vals.length = 1 → bindArgs (docDef d_law_numbers.name d_law_numbers.params d_law_numbers.body d_law_numbers.scope pm cd doc) ⟨vals, []⟩ = pure ((nm_law_numbers.take 1).zip vals) := by
  intro vals h
  obtain ⟨v0, rfl⟩ := one_of h
  rfl

theorem in_law_octets : d_law_octets ∈ D0 := List.mem_of_getElem? (i := 8) (by with_unfolding_all rfl)
theorem wf_law_octets : f_law_octets.wf nm_law_octets fnN [1] [] d_law_octets.scope = true := by decide +kernel
theorem fw_law_octets : FnWf nm_law_octets [1] [] d_law_octets.scope 1 = true := by decide +kernel
theorem bind_law_octets (pm cd doc : Value) : ∀ vals : List Value, vals.length = 1 → bindArgs (docDef d_law_octets.name d_law_octets.params d_law_octets.body d_law_octets.scope pm cd doc) ⟨vals, []⟩ = pure ((nm_law_octets.take 1).zip vals) := by
  intro vals h
  obtain ⟨v0, rfl⟩ := one_of h
  rfl

theorem in_law_word : d_law_word ∈ D0 := List.mem_of_getElem? (i := 10) (by with_unfolding_all rfl)
theorem wf_law_word : f_law_word.wf nm_law_word fnN [] [] d_law_word.scope = true := by decide +kernel
theorem fw_law_word : FnWf nm_law_word [] [] d_law_word.scope 1 = true := by decide +kernel
theorem bind_law_word (pm cd doc : Value) : ∀ vals : List Value, vals.length = 1 → bindArgs (docDef d_law_word.name d_law_word.params d_law_word.body d_law_word.scope pm cd doc) ⟨vals, []⟩ = pure ((nm_law_word.take 1).zip vals) := by
  intro vals h
  obtain ⟨v0, rfl⟩ := one_of h
  rfl

theorem in_law_heights : d_law_heights ∈ D0 := List.mem_of_getElem? (i := 11) (by with_unfolding_all rfl)
theorem wf_law_heights : f_law_heights.wf nm_law_heights fnN [1, 2] [1, 2] d_law_heights.scope = true := by decide +kernel
theorem fw_law_heights : FnWf nm_law_heights [1, 2] [1, 2] d_law_heights.scope 1 = true := by decide +kernel
theorem bind_law_heights (pm cd doc : Value) : ∀ vals : List Value, vals.length = 1 → bindArgs (docDef d_law_heights.name d_law_heights.params d_law_heights.body d_law_heights.scope pm cd doc) ⟨vals, []⟩ = pure ((nm_law_heights.take 1).zip vals) := by
  intro vals h
  obtain ⟨v0, rfl⟩ := one_of h
  rfl

theorem in_law_built : d_law_built ∈ D0 := List.mem_of_getElem? (i := 12) (by with_unfolding_all rfl)
theorem wf_law_built : f_law_built.wf nm_law_built fnN [] [] d_law_built.scope = true := by decide +kernel
theorem fw_law_built : FnWf nm_law_built [] [] d_law_built.scope 1 = true := by decide +kernel
theorem bind_law_built (pm cd doc : Value) : ∀ vals : List Value, vals.length = 1 → bindArgs (docDef d_law_built.name d_law_built.params d_law_built.body d_law_built.scope pm cd doc) ⟨vals, []⟩ = pure ((nm_law_built.take 1).zip vals) := by
  intro vals h
  obtain ⟨v0, rfl⟩ := one_of h
  rfl

theorem in_law_stretched : d_law_stretched ∈ D0 := List.mem_of_getElem? (i := 13) (by with_unfolding_all rfl)
theorem wf_law_stretched : f_law_stretched.wf nm_law_stretched fnN [1] [1] d_law_stretched.scope = true := by decide +kernel
theorem fw_law_stretched : FnWf nm_law_stretched [1] [1] d_law_stretched.scope 1 = true := by decide +kernel
theorem bind_law_stretched (pm cd doc : Value) : ∀ vals : List Value, vals.length = 1 → bindArgs (docDef d_law_stretched.name d_law_stretched.params d_law_stretched.body d_law_stretched.scope pm cd doc) ⟨vals, []⟩ = pure ((nm_law_stretched.take 1).zip vals) := by
  intro vals h
  obtain ⟨v0, rfl⟩ := one_of h
  rfl

theorem in_law_turns : d_law_turns ∈ D0 := List.mem_of_getElem? (i := 14) (by with_unfolding_all rfl)
theorem wf_law_turns : f_law_turns.wf nm_law_turns fnN [2] [2] d_law_turns.scope = true := by decide +kernel
theorem fw_law_turns : FnWf nm_law_turns [2] [2] d_law_turns.scope 2 = true := by decide +kernel
theorem bind_law_turns (pm cd doc : Value) : ∀ vals : List Value, vals.length = 2 → bindArgs (docDef d_law_turns.name d_law_turns.params d_law_turns.body d_law_turns.scope pm cd doc) ⟨vals, []⟩ = pure ((nm_law_turns.take 2).zip vals) := by
  intro vals h
  obtain ⟨v0, v1, rfl⟩ := two_of h
  rfl

theorem in_law_turns_back : d_law_turns_back ∈ D0 := List.mem_of_getElem? (i := 15) (by with_unfolding_all rfl)
theorem wf_law_turns_back : f_law_turns_back.wf nm_law_turns_back fnN [2] [2] d_law_turns_back.scope = true := by decide +kernel
theorem fw_law_turns_back : FnWf nm_law_turns_back [2] [2] d_law_turns_back.scope 2 = true := by decide +kernel
theorem bind_law_turns_back (pm cd doc : Value) : ∀ vals : List Value, vals.length = 2 → bindArgs (docDef d_law_turns_back.name d_law_turns_back.params d_law_turns_back.body d_law_turns_back.scope pm cd doc) ⟨vals, []⟩ = pure ((nm_law_turns_back.take 2).zip vals) := by
  intro vals h
  obtain ⟨v0, v1, rfl⟩ := two_of h
  rfl

theorem in_law_is_below : d_law_is_below ∈ D0 := List.mem_of_getElem? (i := 16) (by with_unfolding_all rfl)
theorem wf_law_is_below : f_law_is_below.wf nm_law_is_below fnN [] [] d_law_is_below.scope = true := by decide +kernel
theorem fw_law_is_below : FnWf nm_law_is_below [] [] d_law_is_below.scope 2 = true := by decide +kernel
theorem bind_law_is_below (pm cd doc : Value) : ∀ vals : List Value, vals.length = 2 → bindArgs (docDef d_law_is_below.name d_law_is_below.params d_law_is_below.body d_law_is_below.scope pm cd doc) ⟨vals, []⟩ = pure ((nm_law_is_below.take 2).zip vals) := by
  intro vals h
  obtain ⟨v0, v1, rfl⟩ := two_of h
  rfl

theorem in_law_walk : d_law_walk ∈ D0 := List.mem_of_getElem? (i := 17) (by with_unfolding_all rfl)
theorem wf_law_walk : f_law_walk.wf nm_law_walk fnN [] [] d_law_walk.scope = true := by decide +kernel
theorem fw_law_walk : FnWf nm_law_walk [] [] d_law_walk.scope 4 = true := by decide +kernel
theorem bind_law_walk (pm cd doc : Value) : ∀ vals : List Value, vals.length = 4 → bindArgs (docDef d_law_walk.name d_law_walk.params d_law_walk.body d_law_walk.scope pm cd doc) ⟨vals, []⟩ = pure ((nm_law_walk.take 4).zip vals) := by
  intro vals h
  obtain ⟨v0, v1, v2, v3, rfl⟩ := four_of h
  rfl

theorem in_law : d_law ∈ D0 := List.mem_of_getElem? (i := 18) (by with_unfolding_all rfl)
theorem wf_law : f_law.wf nm_law fnN [] [] d_law.scope = true := by decide +kernel
theorem fw_law : FnWf nm_law [] [] d_law.scope 1 = true := by decide +kernel
theorem bind_law (pm cd doc : Value) : ∀ vals : List Value, vals.length = 1 → bindArgs (docDef d_law.name d_law.params d_law.body d_law.scope pm cd doc) ⟨vals, []⟩ = pure ((nm_law.take 1).zip vals) := by
  intro vals h
  obtain ⟨v0, rfl⟩ := one_of h
  rfl
end Mine
end
section
open PySem PySem.W PyProof.Rows PySem.Calls PySem.Builtin PySem.Builtin.Str
set_option Elab.async false
set_option maxRecDepth 100000
namespace Mine
section
variable {M : Model} {A : Around} {R : GenEnd} {Y : Protocol} {n : Nat} {s₀ : Shared} {c : Code} {fs : List Frame} {s : Shared} {env : Env}
  {K : Flow → Sem Fin} {H : Value → Sem Fin} {gd : Bool → Bool} {lv : List Value → List Value}

theorem seg_plain {st : Stmt} (h : wpAny M (A.over c fs) (exec st env) (fun f s' => Seg M A R Y n s₀ c (K f) fs s') (fun x s' => Seg M A R Y n s₀ c (H x) fs s') s) :
    Seg M A R Y n s₀ c ((exec st env).wrap K H gd lv) fs s := seg_wrap h

theorem seg_If {test : Expr} {body orelse : List Stmt} {pos : Pos}
    (h : wpAny M (A.over c fs) (isTrue test env (eval test env)) (fun b s' => if b = true then Seg M A R Y n s₀ c ((execs body env).wrap K H gd lv) fs s' else Seg M A R Y n s₀ c ((execs orelse env).wrap K H gd lv) fs s') (fun x s' => Seg M A R Y n s₀ c (H x) fs s') s) :
    Seg M A R Y n s₀ c ((exec (.If test body orelse pos) env).wrap K H gd lv) fs s := by
  rw [exec_If]
  show Seg M A R Y n s₀ c (.at pos fun _ => ((isTrue test env (eval test env) >>= fun b => if b = true then execs body env else execs orelse env)).wrap K H gd lv) fs s
  refine seg_at ?_
  rw [Sem.bind_eq_wrap', Sem.wrap_wrap]
  refine seg_wrap (wpAny_mono h (fun b s' hb => ?_) fun _ _ x => x)
  cases b with
  | true => rw [if_pos rfl] at hb; exact hb
  | false => rw [if_neg Bool.false_ne_true] at hb; exact hb

theorem seg_For {target iter : Expr} {body orelse : List Stmt} {pos : Pos}
    (h : wpAny M (A.over c fs) (eval iter env) (fun x s₁ => wpAny M (A.over c fs) (pyIter x) (fun it s₂ => ∀ p, Seg M A R Y n s₀ (.forLoop target it body orelse env) (M.den (.forLoop target it body orelse env))
      (.ret (fun r => ((match r with | .ok f => (.pure f : Sem Flow) | .error e => .raise e).onRaise fun (x : Value) => do
        if (← field x 1) == Value.none then unsupported "frame.own-activation:exception-without-traceback"
        setFlight x env.frame).wrap K H gd lv) none (gd false) (lv []) c p [] :: fs) s₂) (fun x s' => Seg M A R Y n s₀ c (H x) fs s') s₁) (fun x s' => Seg M A R Y n s₀ c (H x) fs s') s)
    (hs : ∀ x, foldedSetIterable iter env x = pure x := by intro _; rfl) :
    Seg M A R Y n s₀ c ((exec (.For target iter body orelse pos) env).wrap K H gd lv) fs s := by
  rw [exec_For]
  have e : (do
      standAt pos
      let x ← foldedSetIterable iter env (← eval iter env)
      standAt iter.pos
      runOwn (.forLoop target (← holding [x] (pyIter x)) body orelse env) env) = (do
      let it ← (do
        standAt pos
        let x ← foldedSetIterable iter env (← eval iter env)
        standAt iter.pos
        holding [x] (pyIter x))
      runOwn (.forLoop target it body orelse env) env) := by
    simp only [LawfulMonad.bind_assoc]
  rw [e, Sem.bind_eq_wrap', Sem.wrap_wrap]
  refine seg_wrap ?_
  refine wpAny_bind (wpAny_standAt (wpAny_bind (wpAny_mono h (fun x s₁ h₁ => ?_) fun _ _ x => x)))
  refine wpAny_bind (wpAny_of_eq (hs x) (wpAny_bind (wpAny_standAt (wpAny_holding (wpAny_mono h₁ (fun it s₂ h₂ => ?_) fun _ _ x => x)))))
  exact seg_call h₂
end

section
variable {prog : Program} {w : World} {A : Around} {R : GenEnd} {Y : Protocol} {n : Nat} {s₀ : Shared} {fs : List Frame} {s : Shared} {env : Env}

theorem seg_block {body : List Stmt}
    (h : Seg (model prog w) A R Y n s₀ (.block body env) ((execs body env).wrap (fun f => .pure (.done f)) (fun e => (do noteFrame e env; theTreesLotGoes e : Sem Unit).wrap (fun _ => .raise e) .raise id id) id id) fs s) :
    Seg (model prog w) A R Y n s₀ (.block body env) ((model prog w).den (.block body env)) fs s := by
  show Seg _ A R Y n s₀ _ (do return Fin.done (← (execs body env).onRaise (fun x => do noteFrame x env; theTreesLotGoes x))) fs s
  rw [Sem.onRaise_eq_wrap, Sem.bind_eq_wrap', Sem.wrap_wrap]
  rw [Sem.wrap_congr (execs body env) _ _ (K' := fun f => (.pure (.done f) : Sem Fin)) (H' := (fun e => (do noteFrame e env; theTreesLotGoes e : Sem Unit).wrap (fun _ => .raise e) .raise id id))
        (fun f => by rfl)
        (fun e => by rw [Sem.bind_eq_wrap, Sem.wrap_wrap]; rfl)]
  exact h

theorem seg_forLoop {target : Expr} {it : Value} {body orelse : List Stmt}
    (h : wpAny (model prog w) (A.over (.forLoop target it body orelse env) fs) (pyNext it) (fun r s₁ => match r with
        | none => Seg (model prog w) A R Y n s₀ (.block orelse env) ((model prog w).den (.block orelse env)) fs s₁
        | some v => wpAny (model prog w) (A.over (.forLoop target it body orelse env) fs) (letOwnedTupleGo target it v) (fun _ s₂ =>
            wpAny (model prog w) (A.over (.forLoop target it body orelse env) fs) (assign target env v) (fun _ s₃ =>
              Seg (model prog w) A R Y n s₀ (.forLoop target it body orelse env) ((execs body env).wrap (fun f => match f with
                | .next | .cont => .pure (.again (.forLoop target it body orelse env))
                | .brk => .pure (.done .next)
                | .ret v => .pure (.done (.ret v))) (fun e => (do noteFrame e env; theTreesLotGoes e : Sem Unit).wrap (fun _ => .raise e) .raise id id) id id) fs s₃) (fun _ _ => False) s₂) (fun _ _ => False) s₁)
      (fun _ _ => False) s) (hq : (Code.block orelse env).quiet = true) :
    Seg (model prog w) A R Y n s₀ (.forLoop target it body orelse env) ((model prog w).den (.forLoop target it body orelse env)) fs s := by
  show Seg _ A R Y n s₀ _ ((forTurn target it body orelse env).onRaise (fun x => do noteFrame x env; theTreesLotGoes x)) fs s
  unfold forTurn
  rw [Sem.onRaise_eq_wrap, Sem.bind_eq_wrap', Sem.wrap_wrap]
  refine seg_wrap (wpAny_standAt ?_)
  show Seg _ A R Y n s₀ _ (Sem.wrap _ _ _ _ (_ >>= fun r => _)) fs s
  rw [Sem.bind_eq_wrap', Sem.wrap_wrap]
  refine seg_wrap (wpAny_onRaise (wpAny_mono h (fun r s₁ hr => ?_) fun _ _ x => x.elim))
  cases r with
  | none => exact seg_again hq hr
  | some v =>
    show Seg _ A R Y n s₀ _ (Sem.wrap _ _ _ _ (letOwnedTupleGo target it v >>= fun _ => _)) fs s₁
    rw [Sem.bind_eq_wrap', Sem.wrap_wrap]
    refine seg_wrap (wpAny_mono hr (fun _ s₂ h₂ => ?_) fun _ _ x => x.elim)
    show Seg _ A R Y n s₀ _ (Sem.wrap _ _ _ _ (assign target env v >>= fun _ => _)) fs s₂
    rw [Sem.bind_eq_wrap', Sem.wrap_wrap]
    refine seg_wrap (wpAny_mono h₂ (fun _ s₃ h₃ => ?_) fun _ _ x => x.elim)
    show Seg _ A R Y n s₀ _ (Sem.wrap _ _ _ _ (execs body env >>= fun f => _)) fs s₃
    rw [Sem.bind_eq_wrap', Sem.wrap_wrap]
    rw [Sem.wrap_congr (execs body env) _ _ (K' := fun f => match f with
            | .next | .cont => .pure (.again (.forLoop target it body orelse env))
            | .brk => .pure (.done .next)
            | .ret v => .pure (.done (.ret v))) (H' := (fun e => (do noteFrame e env; theTreesLotGoes e : Sem Unit).wrap (fun _ => .raise e) .raise id id))
        (fun f => by cases f <;> rfl)
        (fun e => by first | exact Sem.bind_eq_wrap _ _ | (show (do noteFrame e env; theTreesLotGoes e : Sem Unit).bind (fun _ => .raise e) = _; rw [Sem.bind_eq_wrap]))]
    exact h₃
end
end Mine
end
section
open PySem PySem.W PyProof.Rows PySem.Calls PySem.Builtin PySem.Builtin.Str
set_option Elab.async false
set_option maxRecDepth 100000
namespace Mine

/-- between two halts of a generator -/
structure KB (own : List Addr) (s s' : Shared) : Prop where
  keep : ∀ b o, (b ∉ own ∨ SeqO o) → s.heap.get? b = some o → s'.heap.get? b = some o
  os : s'.os = s.os
  gens : GensOk s.gens s'.gens
theorem KB.refl {own : List Addr} {s : Shared} : KB own s s := ⟨fun _ _ _ e => e, rfl, .refl _⟩
theorem KB.gwb {D : List DefItem} {own : List Addr} {s s' : Shared} (x : KB own s s') (W : GWB D own s.heap) : GWB D own s'.heap := W.keeps fun b o h e => x.keep b o (.inl h) e
theorem KB.trans {own : List Addr} {a b c : Shared} (x : KB own a b) (y : KB own b c) : KB own a c := ⟨fun i o h e => y.keep i o h (x.keep i o h e), y.os.trans x.os, x.gens.trans y.gens⟩
theorem KB.ext {own : List Addr} {a b : Shared} (x : Ext a b) : KB own a b := ⟨fun i o _ e => x.keep i o e, x.os, x.gens⟩

noncomputable def REnd (own : List Addr) : GenEnd := fun n s₀ r s₁ => r = .ok (.ret .none) ∧ (n = 0 ∧ KB own s₀ s₁)
noncomputable def YP (D : List DefItem) (own : List Addr) (all : List (Nat × List Nat)) : Protocol := fun m s₀ v s₁ kap =>
  ∃ p rest H, (∃ pre, all = pre ++ p :: rest) ∧ rest.length = m ∧ KB own s₀ s₁ ∧ (∃ T v₀ v₁, v = .ref T ∧ s₁.heap.IsTuple T #[v₀, v₁] ∧ AIs v₀ (.int (p : Nat × List Nat).1) ∧ AIs v₁ (.str p.2)) ∧ H s₁.heap ∧ Stable own H ∧ GWB D own s₁.heap ∧
    ∀ s'' : Shared, H s''.heap → GWB D own s''.heap → kap (.send .none) s''

section
variable {prog : Program} {w : World} {A : Around} {E : Value → Shared → Prop} {s : Shared} {D : List DefItem}

theorem next_gen {a : Addr} {g n : Nat} {gs : GenState} {R : GenEnd} {P : Nat → Shared → Shared → Prop} {Y : Protocol} {Q : Option Value → Shared → Prop} (hR : ∀ n s₀ r s₁, R n s₀ r s₁ → r = .ok (.ret .none) ∧ P n s₀ s₁) (hh : A.handled = none) (hl : s.heap.NoLimit) (hroom : A.depth < recursionLimit)
    (hg : s.heap.IsGen a g) (hgs : s.gens[g]? = some gs) (hgo : gs.Goes (model prog w) A.in1 R Y n (.send .none) (s.setGen g .running))
    (hY : ∀ v s₁ gs', gs'.bare = true → Y (n - 1) (s.setGen g .running) v s₁ (fun r' s'' => match n with
        | 0 => False
        | m + 1 => gs'.Goes (model prog w) A.in1 R Y m r' s'') → Q (some v) (s₁.setGen g gs'))
    (hP : ∀ s₁, P n (s.setGen g .running) s₁ → ∀ h', (∀ b o, s₁.heap.get? b = some o → h'.get? b = some o) → Q none { s₁.setGen g .finished with heap := h' }) :
    wpAny (model prog w) A (pyNext (.ref a)) Q E s := by
  unfold pyNext
  refine wpAny_bind (wpAny_attempt (wpAny_callSpecial?_slot (name := Str.ofString "__next__") hg.typeIs slot_gen_next
    (wpAny_call_entry slot_gen_next hg.typeIs entry_gen_next ?_ (args_gen_next _))))
  show wpAny _ _ (Builtin.Generator.genWake (.ref a) (.send .none)) _ _ s
  unfold Builtin.Generator.genWake
  refine wpAny_bind (wpAny_holding (wpAny_genNumber hg (wpAny_bind (wpAny_genState hgs ?_))))
  cases gs with
  | running => exact hgo.elim
  | finished => exact hgo.elim
  | _ =>
    refine wpAny_bind (wpAny_roomToWake hl hroom ?_)
    show wpAny _ _ (.resume g (.send .none) [] _) _ _ s
    refine wpAny_resumeQ hgs hgo (fun x s₁ hx => ?_) (fun v s₁ gs' hb hv => wpAny_pure ⟨v, rfl, wpAny_pure (hY v s₁ gs' hb hv)⟩)
    obtain ⟨rfl, hp⟩ := hR _ _ _ _ hx
    show wpAny _ A.in1 (newExc (.type "StopIteration") [] >>= _) _ _ _
    refine wpAny_bind ?_
    simp only [newExc, newTuple, raiseNew]
    refine wpAny_bind (wpAny_newObj_type (wpAny_bind (m := firstArgMember _ _) (wpAny_of_eq (a := Value.none) (by first | rfl | (simp only [firstArgMember]; rfl)) (wpAny_newObj_type ?_ (by size_fits)))) (by size_fits))
    refine wpAny_bind (wpAny_bind (wpAny_handled ?_))
    rw [show A.in1.handled = none from hh]
    refine wpAny_throw (wpAny_bind (wpAny_isInstance (T := "StopIteration") (b := true) ⟨_, Heap.get?_push_size _ rfl, rfl⟩ isSubtype_stop ?_))
    exact wpAny_pure (hP s₁ hp _ fun b o hb => Heap.get?_push_of_some _ (Heap.get?_push_of_some _ hb))

theorem bare_set {gens : Array GenState} {g : Nat} {x : GenState} (h : AllBare gens) (hx : x.bare = true) : AllBare (gens.setIfInBounds g x) := by
  intro y hy
  rcases Array.mem_or_eq_of_mem_setIfInBounds hy with h1 | h1
  · exact h y h1
  · rw [h1]; exact hx
theorem set_other {gens : Array GenState} {g i : Nat} {x y : GenState} (hi : i ≠ g) (h : gens[i]? = some y) : (gens.setIfInBounds g x)[i]? = some y := by
  rw [Array.getElem?_setIfInBounds_ne (Ne.symm hi)]; exact h
theorem set_self {gens : Array GenState} {g : Nat} {x y : GenState} (h : gens[g]? = some y) : (gens.setIfInBounds g x)[g]? = some x := by
  have hlt : g < gens.size := (Array.getElem?_eq_some_iff.mp h).1
  rw [Array.getElem?_setIfInBounds_self_of_lt hlt]

theorem NK.of {own : List Addr} {g : Nat} {s s₁ : Shared} {gs x : GenState} {h' : Heap} (hgs : s.gens[g]? = some gs) (K : KB own (s.setGen g .running) s₁) (hx : x.bare = true) (hk : ∀ b o, s₁.heap.get? b = some o → h'.get? b = some o) :
    NK own g s { s₁.setGen g x with heap := h' } := by
  refine ⟨fun b o hb e => hk b o (K.keep b o hb e), K.os, fun i y hi e => ?_, fun hb => ?_⟩
  · exact set_other hi (K.gens.old i y (set_other hi e))
  · exact bare_set (K.gens.bare (bare_set hb rfl)) hx
theorem gets_of {own : List Addr} {g : Nat} {s s₁ : Shared} {gs x : GenState} (hgs : s.gens[g]? = some gs) (K : KB own (s.setGen g .running) s₁) : (s₁.setGen g x).gens[g]? = some x :=
  set_self (K.gens.old g .running (set_self hgs))

theorem gnext_of {ga g : Nat} {own : List Addr} {all : List (Nat × List Nat)} {n : Nat} : ∀ (ps : List (Nat × List Nat)) (gs : GenState) (H : Heap → Prop), (∃ pre, all = pre ++ ps) → CtxOk A n →
    (∀ s : Shared, H s.heap → GWB D own s.heap → gs.Goes (model prog w) A.in1 (REnd own) (YP D own all) ps.length (.send .none) s) → GNext prog w A D ga g own ps gs H
  | [], gs, H, hpre, C, hgo => by
    intro s Q E hH W hg hgs hQ
    obtain ⟨N, mg, mb, consts, objs, names, y⟩ := W.gw
    refine next_gen (P := fun n s₀ s₁ => n = 0 ∧ KB own s₀ s₁) (fun _ _ _ _ h => h) C.handled y.G.nolimit (by have := C.depth; unfold recursionLimit; omega) hg hgs (hgo _ hH W) ?_ ?_
    · rintro v s₁ gs' _ ⟨p, rest, H', _, _, _, _, h1, _, h2, h3⟩
      exact (h3 s₁ h1 h2).elim
    · rintro s₁ ⟨_, K⟩ h' hk
      exact hQ _ (NK.of hgs K rfl hk)
  | p :: rest, gs, H, hpre, C, hgo => by
    intro s Q E hH W hg hgs hQ
    obtain ⟨N, mg, mb, consts, objs, names, y⟩ := W.gw
    refine next_gen (P := fun n s₀ s₁ => n = 0 ∧ KB own s₀ s₁) (fun _ _ _ _ h => h) C.handled y.G.nolimit (by have := C.depth; unfold recursionLimit; omega) hg hgs (hgo _ hH W) ?_ ?_
    · rintro v s₁ gs' hb ⟨p', rest', H', ⟨pre', hp'⟩, hlen, K, ⟨T, v₀, v₁, rfl, hT, h0, h1⟩, hH', hst, hW', hk⟩
      obtain ⟨pre, hp⟩ := hpre
      have hlen' : rest'.length = rest.length := by simpa using hlen
      have heq : pre = pre' ∧ p :: rest = p' :: rest' := List.append_inj' (hp.symm.trans hp') (by simp [hlen'])
      obtain ⟨h5, h6⟩ := heq
      cases h6
      refine hQ T v₀ v₁ _ gs' H' (NK.of (h' := s₁.heap) hgs K hb fun _ _ e => e) hT h0 h1 (gets_of hgs K) hH' hst ?_
      exact gnext_of rest gs' H' ⟨pre ++ [p], by rw [hp, List.append_assoc]; rfl⟩ C hk
    · rintro s₁ ⟨h, _⟩
      cases h
end
end Mine
end
section
open PySem PySem.W PyProof.Rows PySem.Calls PySem.Builtin PySem.Builtin.Str
set_option Elab.async false
set_option maxRecDepth 100000
namespace Mine

noncomputable def nmG : List Str := ["addr", "pos", "escape", "ch"]
noncomputable def scG : Scope := ⟨.function, [("addr", .local), ("pos", .local), ("escape", .local), ("ch", .local), ("enumerate", .globalImplicit)], true, false, []⟩
noncomputable def yPair (a b : Expr) (pt py p : Pos) : Stmt := .Expr (.Yield (some (.Tuple [a, b] 0 pt)) py) p
noncomputable def vG (i : Nat) (p : Pos) : Expr := .Name (nmAt nmG i) p
noncomputable def gTarget : Expr := .Tuple [vG 1 ⟨6,8,6,11⟩, vG 3 ⟨6,13,6,15⟩] 0 ⟨6,8,6,15⟩
noncomputable def xEsc : X := .bin .Add (.str "\\" [92] ⟨8,24,8,28⟩) (.var 3 ⟨8,31,8,33⟩) ⟨8,24,8,33⟩
noncomputable def gY1 : Stmt := yPair (vG 1 ⟨8,19,8,22⟩) (xEsc.toE nmG fnN) ⟨8,18,8,34⟩ ⟨8,12,8,34⟩ ⟨8,12,8,34⟩
noncomputable def setG (i : Nat) (e : X) (px p : Pos) : Stmt := .Assign [.Name (nmAt nmG i) px] (e.toE nmG fnN) p
noncomputable def gF1 : Stmt := setG 2 (.bool false ⟨9,21,9,26⟩) ⟨9,12,9,18⟩ ⟨9,12,9,26⟩
noncomputable def tBs : T := .cmp .Eq (.var 3 ⟨10,13,10,15⟩) (.str "\\" [92] ⟨10,19,10,23⟩) ⟨10,13,10,23⟩
noncomputable def gT1 : Stmt := setG 2 (.bool true ⟨11,21,11,25⟩) ⟨11,12,11,18⟩ ⟨11,12,11,25⟩
noncomputable def xCh : X := .var 3 ⟨13,24,13,26⟩
noncomputable def gY2 : Stmt := yPair (vG 1 ⟨13,19,13,22⟩) (xCh.toE nmG fnN) ⟨13,18,13,27⟩ ⟨13,12,13,27⟩ ⟨13,12,13,27⟩
noncomputable def gIf2 : Stmt := .If (tBs.toE nmG fnN) [gT1] [gY2] ⟨10,8,13,27⟩
noncomputable def gIf1 : Stmt := .If (vG 2 ⟨7,11,7,17⟩) [gY1, gF1] [gIf2] ⟨7,8,13,27⟩
noncomputable def gIter : Expr := .Call (.Name "enumerate" ⟨6,19,6,28⟩) [vG 0 ⟨6,29,6,33⟩] [] ⟨6,19,6,34⟩
noncomputable def gFor : Stmt := .For gTarget gIter [gIf1] [] ⟨6,4,13,27⟩
noncomputable def xBs : X := .str "\\" [92] ⟨15,20,15,24⟩
noncomputable def gY3 : Stmt := yPair (vG 1 ⟨15,15,15,18⟩) (xBs.toE nmG fnN) ⟨15,14,15,25⟩ ⟨15,8,15,25⟩ ⟨15,8,15,25⟩
noncomputable def gIf3 : Stmt := .If (vG 2 ⟨14,7,14,13⟩) [gY3] [] ⟨14,4,15,25⟩
noncomputable def gBody : List Stmt := [setG 1 (.int 0 ⟨4,10,4,11⟩) ⟨4,4,4,7⟩ ⟨4,4,4,11⟩, setG 2 (.bool false ⟨5,13,5,18⟩) ⟨5,4,5,10⟩ ⟨5,4,5,18⟩, gFor, gIf3]
noncomputable def dG : DefItem := ⟨"_iter_escaped_chars", ⟨[], [⟨"addr", none, ⟨3,24,3,28⟩⟩], none, [], [], none, []⟩, gBody, scG, ⟨3,0,15,25⟩⟩
theorem in_G : dG ∈ D0 := List.mem_of_getElem? (i := 0) (by with_unfolding_all rfl)

noncomputable def gEnv (f : Addr) (cd : Value) (L : Addr) : Env := { scope := scG, locals := L, globals := mainGlobals, cells := [], qual := dG.name ++ ".<locals>.", func := some f, code := cd, frame := some L, builtins := builtinsNs }

noncomputable def flatP (p : PV) : Prop := ∀ xs, p ≠ .list xs
theorem VIs.flat {h h' : Heap} {v : Value} {p : PV} (x : VIs h v p) (f : flatP p) : VIs h' v p := by
  cases x with
  | none => exact .none
  | bool b => exact .bool b
  | int i t => exact .int i t
  | str l t hl => exact .str l t hl
  | list hp hx hl => exact absurd rfl (f _)
noncomputable def GS (L : Addr) (σ : Sg) (h : Heap) : Prop := ∃ m, h.Ns L m ∧ ∀ i p, getS σ i = some p → i < 4 ∧ flatP p ∧ ∃ v, m (nmAt nmG i) = some v ∧ VIs h v p
theorem GS.at {L : Addr} {σ : Sg} {h h' : Heap} (x : GS L σ h) (hk : ∀ o, h.get? L = some o → h'.get? L = some o) : GS L σ h' := by
  obtain ⟨m, hm, hp⟩ := x
  exact ⟨m, hm.at' hk, fun i p e => let ⟨h1, h2, v, h3, h4⟩ := hp i p e; ⟨h1, h2, v, h3, h4.flat h2⟩⟩
theorem nmG_local (f : Addr) (cd : Value) (L : Addr) : ∀ i, i < 4 → (gEnv f cd L).kindOf (nmAt nmG i) = some .local ∧ nmG[i]? = some (nmAt nmG i)
  | 0, _ => ⟨by with_unfolding_all rfl, rfl⟩
  | 1, _ => ⟨by with_unfolding_all rfl, rfl⟩
  | 2, _ => ⟨by with_unfolding_all rfl, rfl⟩
  | 3, _ => ⟨by with_unfolding_all rfl, rfl⟩
  | n + 4, h => absurd h (by omega)
theorem GS.env {f L : Addr} {cd : Value} {σ : Sg} {h : Heap} (x : GS L σ h) : EnvOk (gEnv f cd L) nmG σ h := by
  obtain ⟨m, hm, hp⟩ := x
  refine ⟨rfl, rfl, rfl, by decide +kernel, fun i p e => ?_⟩
  obtain ⟨h1, h2, v, h3, h4⟩ := hp i p e
  exact ⟨_, v, (nmG_local f cd L i h1).2, .inl ⟨(nmG_local f cd L i h1).1, m, hm, h3⟩, h4⟩
theorem GS.cs {n : Nat} {D : List DefItem} {A : Around} {f L : Addr} {cd : Value} {σ : Sg} {s : Shared} (x : GS L σ s.heap) (C : CtxOk A n) (W : GW D s.heap) : CS n D A (gEnv f cd L) nmG σ s :=
  ⟨C, W, fun y hy => by
    have : scG.names.lookup y = some .cell := hy
    have h2 := lookup_mem this
    have h3 : ∀ z ∈ scG.names, z.2 ≠ .cell := by decide +kernel
    exact absurd rfl (h3 _ h2), x.env⟩
theorem nmG_inj0 : ∀ i : Fin 4, ∀ j : Fin 4, nmAt nmG i.1 = nmAt nmG j.1 → i.1 = j.1 := by decide +kernel
theorem nmG_inj (i j : Nat) (hi : i < 4) (hj : j < 4) : nmAt nmG i = nmAt nmG j → i = j := nmG_inj0 ⟨i, hi⟩ ⟨j, hj⟩
theorem GS.store {M : Model} {A : Around} {E : Value → Shared → Prop} {s : Shared} {f L : Addr} {cd : Value} {σ : Sg} {i : Nat} {v : Value} {p : PV} {Q : Unit → Shared → Prop} (x : GS L σ s.heap) (hi : i < 4) (hv : VIs s.heap v p) (hf : flatP p)
    (h : ∀ h', GS L (setS σ i p) h' → Heap.SameBut L s.heap h' → Q () { s with heap := h', toks := s.toks + 1 }) : wpAny M A (storeName (gEnv f cd L) (nmAt nmG i) v) Q E s := by
  obtain ⟨m, hm, hp⟩ := x
  refine wpAny_storeName_local (nmG_local f cd L i hi).1 hm (fun h' hn hs => h h' ⟨_, hn, fun j q hq => ?_⟩ hs) rfl
  rw [getS_set] at hq
  split at hq
  · rename_i hc
    cases hq
    obtain ⟨rfl, _⟩ := hc
    exact ⟨hi, hf, v, by simp, hv.flat hf⟩
  · rename_i hc
    obtain ⟨h1, h2, u, h3, h4⟩ := hp j q hq
    by_cases hji : j = i
    · subst hji
      exact absurd ⟨rfl, getS_lt hq⟩ hc
    · have : nmAt nmG j ≠ nmAt nmG i := fun e => hji (nmG_inj j i h1 hi e)
      exact ⟨h1, h2, u, by simp [this, h3], h4.flat h2⟩

theorem drawsU {prog : Program} {w : World} {A : Around} (hh : A.handled = none) (it : Addr) (x : Str) (t : Tok) :
    Draws prog w A it [it] x.cps.size (fun i v => ∃ c u, x.cps[i]? = some c ∧ v = .str ⟨#[c]⟩ u) (fun i h => h.IsStrIter it (strIterType x) x t i) := by
  unfold strIterType
  cases h : x.cps.all (· < 128)
  · exact Draws.strWide hh it x t
  · exact Draws.strAscii hh it x t

theorem ctx_gen {A : Around} {n : Nat} {c c' : Code} {p : Pos} {k : Result → Sem Fin} (C : CtxOk A (n + 2)) (hc : c.weight ≤ 1) (hu : c.cUnits ≤ 6) (hc' : c'.weight ≤ 1) (hu' : c'.cUnits ≤ 6) (fs : List Frame) (hfs : fs = [] ∨ fs = [.ret k none false [] c' p []]) : CtxOk (A.in1.over c fs) n := by
  have h1 := C.depth
  have h2 := C.units
  rcases hfs with rfl | rfl
  · refine ⟨C.handled, ?_, ?_⟩
    · show A.depth + 0 + c.weight + n ≤ 900
      omega
    · show A.units + 1 + 0 + c.cUnits + 10 * n ≤ 9000
      omega
  · refine ⟨?_, ?_, ?_⟩
    · show (markOver none A.handled A.handled) = none
      exact C.handled
    · show A.depth + (c'.weight + 0) + c.weight + n ≤ 900
      omega
    · show A.units + 1 + (c'.cUnits + 0) + c.cUnits + 10 * n ≤ 9000
      omega
end Mine
end
section
open PySem PySem.W PyProof.Rows PySem.Calls PySem.Builtin PySem.Builtin.Str
set_option Elab.async false
set_option maxRecDepth 100000
namespace Mine

noncomputable def Φz : Phi := fun _ _ => none
theorem phi_z (prog : Program) (w : World) (D : List DefItem) (n : Nat) : PhiOk prog w D n fnN Φz := fun _ _ _ h => by cases h
noncomputable def EI (K : Addr) (x : Str) (t : Tok) (j : Nat) (h : Heap) : Prop := (∃ old, IsEnum h (K + 1) K j old) ∧ h.IsStrIter K (strIterType x) x t j
theorem EI.at {K : Addr} {x : Str} {t : Tok} {j : Nat} {h h' : Heap} (e : EI K x t j h) (h1 : ∀ o, h.get? (K + 1) = some o → h'.get? (K + 1) = some o) (h2 : ∀ o, h.get? K = some o → h'.get? K = some o) : EI K x t j h' := by
  obtain ⟨⟨old, he⟩, o, ho, r⟩ := e
  exact ⟨⟨old, h1 _ he⟩, o, h2 _ ho, r⟩

section
variable {prog : Program} {w : World} {A : Around} {n : Nat} {D : List DefItem} {f L K : Addr} {cd : Value} {x : Str} {t : Tok} {l : List Nat} {all : List (Nat × List Nat)}

theorem y_pair {c : Code} {fs : List Frame} {e : X} {σ : Sg} {s₀ s : Shared} {p1 pt py p : Pos} {j m : Nat} {tt : List Nat} {rest : List (Nat × List Nat)} {Hs : Heap → Prop} {Kf : Flow → Sem Fin} {H : Value → Sem Fin} {lv : List Value → List Value}
    (C : CtxOk (A.in1.over c fs) n) (hfs : splitAtGen fs = none) (hfg : fs.any Frame.guarded = false) (hG : GS L σ s.heap) (h1 : getS σ 1 = some (.int j)) (he : e.ev Φz σ = some (.str tt)) (wf : e.wf nmG fnN scG = true)
    (hall : ∃ pre, all = pre ++ (j, tt) :: rest) (hm : rest.length = m) (hK : KB [L, K + 1, K] s₀ s) (W : GWB D [L, K + 1, K] s.heap) (hst : Stable [L, K + 1, K] Hs) (hHs : ∀ s', Ext s s' → Hs s'.heap)
    (hc : ∀ s'' : Shared, Hs s''.heap → GWB D [L, K + 1, K] s''.heap → Seg (model prog w) A.in1 (REnd [L, K + 1, K]) (YP D [L, K + 1, K] all) m s'' c (Kf .next) fs s'') :
    Seg (model prog w) A.in1 (REnd [L, K + 1, K]) (YP D [L, K + 1, K] all) (m + 1) s₀ c ((exec (yPair (vG 1 p1) (e.toE nmG fnN) pt py p) (gEnv f cd L)).wrap Kf H id lv) fs s := by
  refine seg_Expr_Yield hfs rfl hfg ?_
  refine wpAny_Tuple (args_cons ?_)
  obtain ⟨y, v, hy, hh, hv⟩ := (hG.env (f := f) (cd := cd)).var 1 _ h1
  have hy' : y = nmAt nmG 1 := by
    have : nmG[1]? = some (nmAt nmG 1) := rfl
    rw [this] at hy; exact (Option.some.inj hy).symm
  subst hy'
  refine load_holds rfl hh (by decide +kernel) ?_
  refine args_cons (X.sound (phi_z prog w D n) e _ σ s _ _ _ he wf (hG.cs C W.gw) fun u s₁ hE hu _ => args_nil ?_) (star_cons e [])
  refine ⟨by show 2 ≤ sizeLine; decide, fun kap hk => ?_⟩
  have hE' : Ext s { s₁ with heap := s₁.heap.push { cls := .type "tuple", data := .seq [v, u].toArray } } := hE.trans (.push (tk := s₁.toks))
  exact ⟨(j, tt), rest, Hs, hall, hm, hK.trans (.ext hE'), ⟨_, v, u, rfl, ⟨_, Heap.get?_push_size _ rfl, rfl, _, rfl⟩, hv.ais rfl, hu.ais rfl⟩, hHs _ hE', hst, W.keeps fun b o _ e => hE'.keep b o e, fun s'' a b => hk .none s'' (hc s'' a b)⟩

theorem frame_ns {σ : Sg} {h : Heap} (x : GS L σ h) : ∃ o, h.get? L = some o ∧ ¬ SeqO o := by
  obtain ⟨m, ⟨o, es, ep, ho, hd, _⟩, _⟩ := x
  exact ⟨o, ho, fun ⟨its, k, h⟩ => by rw [hd] at h; cases h⟩
theorem ei_ns {j : Nat} {h : Heap} (x : EI K x t j h) : (∃ o, h.get? (K + 1) = some o ∧ ¬ SeqO o) ∧ ∃ o, h.get? K = some o ∧ ¬ SeqO o := by
  obtain ⟨⟨old, he⟩, o, ho, hc, hd⟩ := x
  exact ⟨⟨_, he, fun ⟨its, k, h⟩ => by cases h⟩, o, ho, fun ⟨its, k, h⟩ => by rw [hd] at h; cases h⟩
theorem stableGE {σ : Sg} {j : Nat} : Stable [L, K + 1, K] (fun h => GS L σ h ∧ EI K x t j h) := by
  refine ⟨[L, K + 1, K], fun _ h => h, fun h h' hh hk => ⟨hh.1.at fun o e => hk L (by simp) o e, hh.2.at (fun o e => hk (K + 1) (by simp) o e) (fun o e => hk K (by simp) o e)⟩, fun h hh b hb => ?_⟩
  simp only [List.mem_cons, List.not_mem_nil, or_false] at hb
  rcases hb with rfl | rfl | rfl
  · exact frame_ns hh.1
  · exact (ei_ns hh.2).1
  · exact (ei_ns hh.2).2

theorem seg_claim {k : Result → Sem Fin} {pp : Pos} (C : CtxOk A (n + 2)) (hx : x = toStr l) (hl : OkS l) (hLK : L < K)
    (hend : ∀ (b : Bool) (j : Nat) (σ : Sg) (s₀ s : Shared), getS σ 2 = some (.bool b) → (b = true → getS σ 1 = some (.int ((j - 1 : Nat) : Int))) → GS L σ s.heap → KB [L, K + 1, K] s₀ s → GWB D [L, K + 1, K] s.heap → (∃ pre, all = pre ++ escPairs j b []) →
      Seg (model prog w) A.in1 (REnd [L, K + 1, K]) (YP D [L, K + 1, K] all) (escPairs j b []).length s₀ (.func gBody (gEnv f cd L)) (k (.ok .next)) [] s) :
    ∀ (r : List Nat) (j : Nat) (b : Bool) (σ : Sg) (s₀ s : Shared), (∃ pre, l = pre ++ r ∧ pre.length = j) → σ.length = 4 → getS σ 2 = some (.bool b) → (b = true → getS σ 1 = some (.int ((j - 1 : Nat) : Int))) → GS L σ s.heap → EI K x t j s.heap → KB [L, K + 1, K] s₀ s → GWB D [L, K + 1, K] s.heap →
      (∃ pre, all = pre ++ escPairs j b r) →
      Seg (model prog w) A.in1 (REnd [L, K + 1, K]) (YP D [L, K + 1, K] all) (escPairs j b r).length s₀ (.forLoop gTarget (.ref (K + 1)) [gIf1] [] (gEnv f cd L)) ((model prog w).den (.forLoop gTarget (.ref (K + 1)) [gIf1] [] (gEnv f cd L)))
        [.ret k none false [] (.func gBody (gEnv f cd L)) pp []] s := by
  have hsz : x.cps.size = l.length := by rw [hx]; simp [toStr]
  have hK1 : (K + 1 : Nat) ≠ K := Nat.succ_ne_self _
  have CF : CtxOk (A.in1.over (.forLoop gTarget (.ref (K + 1)) [gIf1] [] (gEnv f cd L)) [.ret k none false [] (.func gBody (gEnv f cd L)) pp []]) n :=
    ctx_gen (k := k) (p := pp) (c' := .func gBody (gEnv f cd L)) C (by show (0 : Nat) ≤ 1; decide) (by show (0 : Nat) ≤ 6; decide) (by show (1 : Nat) ≤ 1; decide) (by show (3 : Nat) ≤ 6; decide) _ (.inr rfl)
  have WT := WalksT.enumerateD (drawsU (prog := prog) (w := w) (A := (A.in1.over (.forLoop gTarget (.ref (K + 1)) [gIf1] [] (gEnv f cd L)) [.ret k none false [] (.func gBody (gEnv f cd L)) pp []]).in1) CF.handled K x t) (K + 1) hK1 (by simp) (by simp)
  -- a step of the iterator alone
  have kb_it : ∀ (s : Shared) (h' : Heap) (tk : Nat) (j : Nat), EI K x t j s.heap → (∀ b o, b ∉ [K + 1, K] → s.heap.get? b = some o → h'.get? b = some o) → KB [L, K + 1, K] s { s with heap := h', toks := tk } := by
    intro s h' tk j hE hk
    refine ⟨fun b o hb e => hk b o (fun hm => ?_) e, rfl, .refl _⟩
    rcases hb with hb | hb
    · exact hb (List.mem_cons_of_mem _ hm)
    · obtain ⟨⟨o1, e1, n1⟩, o2, e2, n2⟩ := ei_ns hE
      simp only [List.mem_cons, List.not_mem_nil, or_false] at hm
      rcases hm with rfl | rfl
      · rw [e] at e1; cases e1; exact n1 hb
      · rw [e] at e2; cases e2; exact n2 hb
  intro r
  induction r with
  | nil =>
    intro j b σ s₀ s hpre hlen h2 h1 hG hE hK W hall
    obtain ⟨pre, hp, hj⟩ := hpre
    have hjl : x.cps.size = j := by rw [hsz, hp, List.append_nil, hj]
    refine seg_forLoop ?_ (by rfl)
    refine WT.done s _ _ (hjl ▸ hE) fun h' tk hk => ?_
    refine seg_block (seg_execs_nil (seg_leaf (.ok .next) ?_))
    have hKB := kb_it s h' tk j hE hk
    refine hend b j σ s₀ _ h2 h1 (hG.at fun o e => ?_) (hK.trans hKB) (hKB.gwb W) hall
    exact hk L o (by
      simp only [List.mem_cons, List.not_mem_nil, or_false, not_or]
      exact ⟨Nat.ne_of_lt (Nat.lt_succ_of_lt hLK), Nat.ne_of_lt hLK⟩) e
  | cons c r ih =>
    intro j b σ s₀ s hpre hlen h2 h1 hG hE hK W hall
    obtain ⟨pre, hp, hj⟩ := hpre
    have hcj : x.cps[j]? = some c := by
      rw [hx]
      have : l[j]? = some c := by rw [hp, List.getElem?_append_right (by omega), hj]; simp
      simpa [toStr] using this
    have hlt : j < x.cps.size := by rw [hsz, hp, List.length_append, hj]; simp
    have hcs : OkS [c] := ⟨by show 1 ≤ lim; decide, fun d hd => by
      have : d = c := by simpa using hd
      subst this
      exact hl.2 _ (by rw [hp]; simp)⟩
    have hnext : ∃ pre', l = pre' ++ r ∧ pre'.length = j + 1 := ⟨pre ++ [c], by rw [hp, List.append_assoc]; rfl, by simp [hj]⟩
    have Lni : L ∉ [K + 1, K] := by
      simp only [List.mem_cons, List.not_mem_nil, or_false, not_or]
      exact ⟨Nat.ne_of_lt (Nat.lt_succ_of_lt hLK), Nat.ne_of_lt hLK⟩
    refine seg_forLoop ?_ (by rfl)
    refine WT.item j s _ _ hlt hE fun T vals h' tk hPt hTs hT hMid hk => ?_
    obtain ⟨tj, v, ⟨c', u, hc', rfl⟩, rfl⟩ := hPt
    rw [hcj] at hc'; cases hc'
    have hKB := kb_it s h' tk j hE hk
    have hG1 : GS L σ h' := hG.at fun o e => hk L o Lni e
    refine WT.go _ _ _ j T { s with heap := h', toks := tk } _ _ hMid fun h'' hSt hk2 => ?_
    have hTni := WT.apart j T h' hMid
    have hT2 : h''.IsTuple T #[.int j tj, .str ⟨#[c]⟩ u] := by
      obtain ⟨o, ho, rr⟩ := hT
      exact ⟨o, hk2 _ _ hTni ho, rr⟩
    have hE2 : EI K x t (j + 1) h'' := hSt
    have hG2 : GS L σ h'' := hG1.at fun o e => hk2 L o Lni e
    obtain ⟨oe, hoe, _⟩ := (ei_ns hE).1
    obtain ⟨ok, hok, _⟩ := (ei_ns hE).2
    have hKB2 : KB [L, K + 1, K] s { s with heap := h'', toks := tk } := by
      refine ⟨fun b o hb e => ?_, rfl, .refl _⟩
      have hne : b ∉ [K + 1, K] := fun hm => by
        rcases hb with hb | hb
        · exact hb (List.mem_cons_of_mem _ hm)
        · obtain ⟨⟨o1, e1, n1⟩, o2, e2, n2⟩ := ei_ns hE
          simp only [List.mem_cons, List.not_mem_nil, or_false] at hm
          rcases hm with rfl | rfl
          · rw [e] at e1; cases e1; exact n1 hb
          · rw [e] at e2; cases e2; exact n2 hb
      exact hk2 b o hne (hk b o hne e)
    refine wpAny_assign_Tuple CF.handled hT2 rfl rfl fun h₃ hx₃ => ?_
    have kp3 : ∀ b o, h''.get? b = some o → h₃.get? b = some o := fun b o e => hx₃ b o (Nat.ne_of_lt (Heap.lt_size e)) e
    have hG3 : GS L σ h₃ := hG2.at fun o e => kp3 _ _ e
    have hE3 : EI K x t (j + 1) h₃ := hE2.at (fun o e => kp3 _ _ e) (fun o e => kp3 _ _ e)
    show wpAny _ _ (do holding [.str ⟨#[c]⟩ u] (assign (.Name (nmAt nmG 1) ⟨6,8,6,11⟩) (gEnv f cd L) (.int j tj)); do holding [] (assign (.Name (nmAt nmG 3) ⟨6,13,6,15⟩) (gEnv f cd L) (.str ⟨#[c]⟩ u)); pure ()) _ _ _
    refine wpAny_bind (wpAny_holding (wpAny_assign_Name (GS.store (s := { s with heap := h₃, toks := tk }) hG3 (by decide) (p := .int (j : Int)) (.int ..) (fun _ e => by cases e) fun h₄ hG4 hs4 => ?_)))
    refine wpAny_bind (wpAny_holding (wpAny_assign_Name (GS.store (s := { s with heap := h₄, toks := tk + 1 }) hG4 (by decide) (p := .str [c]) (.str [c] u hcs) (fun _ e => by cases e) fun h₅ hG5 hs5 => wpAny_pure ?_)))
    have LneK1 : K + 1 ≠ L := fun q => Lni (by simp [q])
    have LneK : K ≠ L := fun q => Lni (by simp [q])
    have hE5 : EI K x t (j + 1) h₅ := hE3.at (fun o e => (hs5.2 _ LneK1).trans ((hs4.2 _ LneK1).trans e)) (fun o e => (hs5.2 _ LneK).trans ((hs4.2 _ LneK).trans e))
    obtain ⟨oL, hoL, hLns⟩ := frame_ns hG3
    have hKB5 : KB [L, K + 1, K] s { s with heap := h₅, toks := tk + 1 + 1 } := hKB2.trans ⟨fun b o hb e => by
      have e3 : h₃.get? b = some o := kp3 b o e
      have hbL : b ≠ L := fun q => by
        rcases hb with hb | hb
        · exact hb (by simp [q])
        · rw [q, hoL] at e3; cases e3; exact hLns hb
      exact (hs5.2 b hbL).trans ((hs4.2 b hbL).trans e3), rfl, .refl _⟩
    generalize hσ1 : setS (setS σ 1 (.int (j : Int))) 3 (.str [c]) = σ1 at *
    have hlen1 : σ1.length = 4 := by rw [← hσ1]; simp [setS, hlen]
    have hlen' : ∀ (i : Nat) (q : PV), (setS σ i q).length = 4 := fun i q => by simp [setS, hlen]
    have g1 : getS σ1 1 = some (.int (j : Int)) := by rw [← hσ1, getS_set, if_neg (fun h => absurd h.1 (by decide)), getS_set, if_pos ⟨rfl, by omega⟩]
    have g2 : getS σ1 2 = some (.bool b) := by rw [← hσ1, getS_set, if_neg (fun h => absurd h.1 (by decide)), getS_set, if_neg (fun h => absurd h.1 (by decide))]; exact h2
    have g3 : getS σ1 3 = some (.str [c]) := by rw [← hσ1, getS_set, if_pos ⟨rfl, by rw [hlen']; decide⟩]
    have hs5K : KB [L, K + 1, K] s₀ { s with heap := h₅, toks := tk + 1 + 1 } := hK.trans hKB5
    have hW5 := hKB5.gwb W
    -- the next turn
    have again : ∀ (b' : Bool) (σ' : Sg) (s₀' s' : Shared), σ'.length = 4 → getS σ' 2 = some (.bool b') → (b' = true → getS σ' 1 = some (.int (j : Int))) → GS L σ' s'.heap → EI K x t (j + 1) s'.heap → KB [L, K + 1, K] s₀' s' → GWB D [L, K + 1, K] s'.heap → (∃ pre, all = pre ++ escPairs (j + 1) b' r) →
        Seg (model prog w) A.in1 (REnd [L, K + 1, K]) (YP D [L, K + 1, K] all) (escPairs (j + 1) b' r).length s₀' (.forLoop gTarget (.ref (K + 1)) [gIf1] [] (gEnv f cd L)) (.pure (.again (.forLoop gTarget (.ref (K + 1)) [gIf1] [] (gEnv f cd L))))
          [.ret k none false [] (.func gBody (gEnv f cd L)) pp []] s' := fun b' σ' s₀' s' a1 a2 a3 a4 a5 a6 a7 a8 =>
      seg_again (by rfl) (ih (j + 1) b' σ' s₀' s' hnext a1 a2 (fun hb => by rw [Nat.add_sub_cancel]; exact a3 hb) a4 a5 a6 a7 a8)
    -- a flag is set, then the next turn
    have setFlag : ∀ (b' : Bool) (e : X) (px p : Pos) (s₀' s' : Shared) (H : Value → Sem Fin) (lv : List Value → List Value) (K' : Flow → Sem Fin), (K' .next = .pure (.again (.forLoop gTarget (.ref (K + 1)) [gIf1] [] (gEnv f cd L)))) → (∃ pb, e = .bool b' pb) → GS L σ1 s'.heap → EI K x t (j + 1) s'.heap → KB [L, K + 1, K] s₀' s' → GWB D [L, K + 1, K] s'.heap → (∃ pre, all = pre ++ escPairs (j + 1) b' r) →
        Seg (model prog w) A.in1 (REnd [L, K + 1, K]) (YP D [L, K + 1, K] all) (escPairs (j + 1) b' r).length s₀' (.forLoop gTarget (.ref (K + 1)) [gIf1] [] (gEnv f cd L)) ((execs [setG 2 e p px] (gEnv f cd L)).wrap K' H id lv)
          [.ret k none false [] (.func gBody (gEnv f cd L)) pp []] s' := by
      intro b' e px p s₀' s' H lv K' hK' he a4 a5 a6 a7 a8
      obtain ⟨pb, rfl⟩ := he
      refine seg_execs_cons (seg_plain (wpAny_Assign_Name (wpAny_Constant_bool (GS.store a4 (by decide) (p := .bool b') (.bool b') (fun _ e => by cases e) fun h₆ hG6 hs6 => ?_)) rfl))
      refine seg_execs_nil ?_
      rw [hK']
      obtain ⟨oL', hoL', hLns'⟩ := frame_ns a4
      have hKB6 : KB [L, K + 1, K] s' { s' with heap := h₆, toks := s'.toks + 1 } := ⟨fun b o hb e => by
        have hbL : b ≠ L := fun q => by
          rcases hb with hb | hb
          · exact hb (by simp [q])
          · rw [q, hoL'] at e; cases e; exact hLns' hb
        exact (hs6.2 b hbL).trans e, rfl, .refl _⟩
      refine again b' _ s₀' _ (by simp [setS, hlen1]) (by simp [getS_set, hlen1]) (fun _ => by simp [getS_set, g1]) hG6 (a5.at (fun o e => (hs6.2 _ LneK1).trans e) (fun o e => (hs6.2 _ LneK).trans e)) (a6.trans hKB6) (hKB6.gwb a7) a8
    have stab := stableGE (L := L) (K := K) (x := x) (t := t) (σ := σ1) (j := j + 1)
    have hHs : ∀ s', Ext { s with heap := h₅, toks := tk + 1 + 1 } s' → GS L σ1 s'.heap ∧ EI K x t (j + 1) s'.heap := fun s' hE' => ⟨hG5.at fun o e => hE'.keep _ _ e, hE5.at (fun o e => hE'.keep _ _ e) (fun o e => hE'.keep _ _ e)⟩
    refine seg_execs_cons (seg_If (wpAny_isTrue_value ?_ rfl))
    obtain ⟨yy, vv, hyy, hhh, hvv⟩ := (hG5.env (f := f) (cd := cd)).var 2 _ g2
    have hyy' : yy = nmAt nmG 2 := by
      have : nmG[2]? = some (nmAt nmG 2) := rfl
      rw [this] at hyy; exact (Option.some.inj hyy).symm
    subst hyy'
    refine load_holds rfl hhh (by decide +kernel) ?_
    cases hvv
    refine wpAny_truthy_bool ?_
    cases b with
    | true =>
      rw [if_pos rfl]
      have hesc : escPairs j true (c :: r) = (j, [92, c]) :: escPairs (j + 1) false r := by simp [escPairs]
      rw [hesc] at hall ⊢
      obtain ⟨pre', hall'⟩ := hall
      refine seg_execs_cons (y_pair (e := xEsc) (σ := σ1) (rest := escPairs (j + 1) false r) CF rfl rfl hG5 g1 ?_ (by decide +kernel) ⟨pre', hall'⟩ rfl hs5K hW5 stab hHs fun s'' hH'' hW'' => ?_)
      · show X.ev Φz xEsc σ1 = _
        simp only [xEsc, X.ev, g3, binPV, addPV]
        rfl
      · exact setFlag false _ _ _ s'' s'' _ _ _ rfl ⟨_, rfl⟩ hH''.1 hH''.2 .refl hW'' ⟨pre' ++ [(j, [92, c])], by rw [hall', List.append_assoc]; rfl⟩
    | false =>
      rw [if_neg Bool.false_ne_true]
      refine seg_execs_cons (seg_If (Mine.T.sound (phi_z prog w D n) tBs (gEnv f cd L) σ1 _ (decide (c = 92)) _ _ ?_ (by show tBs.wf nmG fnN scG = true; decide +kernel) (hG5.cs CF hW5.gw) fun s6 hE6 => ?_))
      · simp only [tBs, Mine.T.ev, X.ev, g3, cmpPV, eqPV]
        simp
      have hG6 := (hHs s6 hE6).1
      have hE6' := (hHs s6 hE6).2
      have hs6K : KB [L, K + 1, K] s₀ s6 := hs5K.trans (.ext hE6)
      have hW6 : GWB D [L, K + 1, K] s6.heap := hW5.keeps fun b o _ e => hE6.keep b o e
      by_cases hc92 : c = 92
      · rw [if_pos (by simpa using hc92)]
        have hesc : escPairs j false (c :: r) = escPairs (j + 1) true r := by simp [escPairs, hc92]
        rw [hesc] at hall ⊢
        exact setFlag true _ _ _ s₀ s6 _ _ _ rfl ⟨_, rfl⟩ hG6 hE6' hs6K hW6 hall
      · rw [if_neg (by simpa using hc92)]
        have hesc : escPairs j false (c :: r) = (j, [c]) :: escPairs (j + 1) false r := by simp [escPairs, hc92]
        rw [hesc] at hall ⊢
        obtain ⟨pre', hall'⟩ := hall
        refine seg_execs_cons (y_pair (e := xCh) (σ := σ1) (rest := escPairs (j + 1) false r) CF rfl rfl hG6 g1 g3 (by decide +kernel) ⟨pre', hall'⟩ rfl hs6K hW6 stab (fun s' hE' => hHs s' (hE6.trans hE')) fun s'' hH'' hW'' => ?_)
        refine seg_execs_nil ?_
        exact again false σ1 s'' s'' hlen1 g2 (fun h => by cases h) hH''.1 hH''.2 .refl hW'' ⟨pre' ++ [(j, [c])], by rw [hall', List.append_assoc]; rfl⟩
end
end Mine
end
section
open PySem PySem.W PyProof.Rows PySem.Calls PySem.Builtin PySem.Builtin.Str
set_option Elab.async false
set_option maxRecDepth 100000
namespace Mine

theorem kb_L {own : List Addr} {L : Addr} {s : Shared} {h' : Heap} {tk : Nat} (hL : L ∈ own) (hn : ∃ o, s.heap.get? L = some o ∧ ¬ SeqO o) (hs : Heap.SameBut L s.heap h') : KB own s { s with heap := h', toks := tk } :=
  ⟨fun b o hb e => by
    have hbL : b ≠ L := fun q => by
      rcases hb with hb | hb
      · exact hb (q ▸ hL)
      · obtain ⟨o', ho', hn'⟩ := hn
        rw [q, ho'] at e; cases e; exact hn' hb
    exact (hs.2 b hbL).trans e, rfl, .refl _⟩

section
variable {prog : Program} {w : World} {n : Nat} {D : List DefItem}

theorem seg_gen {A : Around} {f L K : Addr} {cd v : Value} {l : List Nat} {s : Shared} (C : CtxOk A (n + 2)) (hl : OkS l) (hLK : L < K) (hsz : s.heap.objs.size = K) (hG : GS L [some (.str l), none, none, none] s.heap) (W : GWB D [L, K + 1, K] s.heap) :
    Seg (model prog w) A.in1 (REnd [L, K + 1, K]) (YP D [L, K + 1, K] (escPairs 0 false l)) (escPairs 0 false l).length s (.func gBody (gEnv f cd L)) ((model prog w).den (.func gBody (gEnv f cd L))) [] s := by
  have LneK1 : K + 1 ≠ L := Nat.ne_of_gt (Nat.lt_succ_of_lt hLK)
  have LneK : K ≠ L := Nat.ne_of_gt hLK
  refine seg_func (seg_execs_cons (seg_plain (wpAny_Assign_Name (wpAny_Constant_int (GS.store (s := { s with toks := s.toks + 1 }) hG (by decide) (p := .int 0) (.int ..) (fun _ e => by cases e) fun h₁ hG₁ hs₁ => ?_)) rfl)))
  refine seg_execs_cons (seg_plain (wpAny_Assign_Name (wpAny_Constant_bool (GS.store (s := { s with heap := h₁, toks := s.toks + 1 + 1 }) hG₁ (by decide) (p := .bool false) (.bool false) (fun _ e => by cases e) fun h₂ hG₂ hs₂ => ?_)) rfl))
  have hKB₁ : KB [L, K + 1, K] s { s with heap := h₁, toks := s.toks + 1 + 1 } := kb_L (by simp) (frame_ns hG) hs₁
  have hKB₂ : KB [L, K + 1, K] s { s with heap := h₂, toks := s.toks + 1 + 1 + 1 } := hKB₁.trans (kb_L (s := { s with heap := h₁, toks := s.toks + 1 + 1 }) (by simp) (frame_ns hG₁) hs₂)
  have hsz₂ : h₂.objs.size = K := hs₂.1.trans (hs₁.1.trans hsz)
  have W₂ := hKB₂.gwb W
  refine seg_execs_cons (seg_For ?_ (fun _ => rfl))
  refine wpAny_Call_NameR (load_builtin W₂.gw rfl rfl rfl (by with_unfolding_all rfl) (by decide +kernel) PyProof.Rows.boot_enumerate ?_ (by decide +kernel) (by decide +kernel) (by decide +kernel))
  refine callWith_type1 (args_cons ?_)
  obtain ⟨yy, vv, hyy, hhh, hvv⟩ := (hG₂.env (f := f) (cd := cd)).var 0 (.str l) rfl
  have hyy' : yy = nmAt nmG 0 := by
    have : nmG[0]? = some (nmAt nmG 0) := rfl
    rw [this] at hyy; exact (Option.some.inj hyy).symm
  subst hyy'
  refine load_holds rfl hhh (by decide +kernel) (args_nil ?_)
  cases hvv
  rename_i ta _
  refine call_enumerate_str fun h₃ he hit hsz₃ hk₃ => ?_
  have hsz' : ({ s with heap := h₂, toks := s.toks + 1 + 1 + 1 } : Shared).heap.objs.size = K := hsz₂
  rw [hsz'] at he hit ⊢
  refine wpAny_pyIter_enum he fun pp => ?_
  have hG₃ : GS L (setS (setS [some (.str l), none, none, none] 1 (.int 0)) 2 (.bool false)) h₃ := hG₂.at fun o e => hk₃ _ _ e
  have hKB₃ : KB [L, K + 1, K] s { s with heap := h₃, toks := s.toks + 1 + 1 + 1 } := hKB₂.trans ⟨fun b o _ e => hk₃ b o e, rfl, .refl _⟩
  refine seg_claim (x := toStr l) (t := ta) (l := l) C rfl hl hLK ?_ l 0 false _ s _ ⟨[], rfl, rfl⟩ rfl rfl (fun h => by cases h) hG₃ ⟨⟨.none, he⟩, hit⟩ hKB₃ (hKB₃.gwb W) ⟨[], rfl⟩
  intro b j σ s₀ s' h2 h1 hG' hK' W' hall
  have CF : CtxOk (A.in1.over (.func gBody (gEnv f cd L)) []) n := ctx_gen (k := fun _ => .pure (.done .next)) (p := pp) (c' := .func gBody (gEnv f cd L)) C (by show (1 : Nat) ≤ 1; decide) (by show (3 : Nat) ≤ 6; decide) (by show (1 : Nat) ≤ 1; decide) (by show (3 : Nat) ≤ 6; decide) _ (.inl rfl)
  show Seg _ _ _ _ _ _ _ ((execs [gIf3] (gEnv f cd L)).wrap _ _ _ _) [] s'
  refine seg_execs_cons (seg_If (wpAny_isTrue_value ?_ rfl))
  obtain ⟨yy, vv, hyy, hhh, hvv⟩ := (hG'.env (f := f) (cd := cd)).var 2 _ h2
  have hyy' : yy = nmAt nmG 2 := by
    have : nmG[2]? = some (nmAt nmG 2) := rfl
    rw [this] at hyy; exact (Option.some.inj hyy).symm
  subst hyy'
  refine load_holds rfl hhh (by decide +kernel) ?_
  cases hvv
  refine wpAny_truthy_bool ?_
  cases b with
  | true =>
    rw [if_pos rfl]
    have hesc : escPairs j true [] = [(j - 1, [92])] := by simp [escPairs]
    rw [hesc] at hall ⊢
    refine seg_execs_cons (y_pair (e := xBs) (σ := σ) (rest := []) (Hs := fun h => GS L σ h) CF rfl rfl hG' (h1 rfl) rfl (by decide +kernel) hall rfl hK' W' ⟨[L], (fun b hb => by simp at hb; simp [hb]), (fun h h' hh hk => hh.at fun o e => hk L (by simp) o e), (fun h hh b hb => by simp at hb; subst hb; exact frame_ns hh)⟩ (fun s'' hE => hG'.at fun o e => hE.keep _ _ e) fun s'' _ _ => ?_)
    refine seg_execs_nil (seg_execs_nil ?_)
    exact seg_end (.ok (.ret .none)) ⟨rfl, rfl, .refl⟩
  | false =>
    rw [if_neg Bool.false_ne_true]
    refine seg_execs_nil (seg_execs_nil ?_)
    exact seg_end (.ok (.ret .none)) ⟨rfl, rfl, hK'⟩

theorem genFnOk (hD : dG ∈ D) : GenFnOk prog w D (n + 2) (fnN 0) := by
  refine ⟨⟨dG, hD, rfl, rfl, by decide +kernel⟩, fun A s f v l Q E C G hf hv hQ => ?_⟩
  obtain ⟨N, mg, mb, consts, objs, names, y⟩ := id G
  obtain ⟨f', c', o, pm, doc, _, _, h3, h4, h5, h6⟩ := (y.G.made dG hD).plain rfl
  obtain ⟨mg', hm1, hm2⟩ := hf
  have hff : f = f' := by
    have := ns_uniq hm1 y.G.g dG.name
    rw [show mg' dG.name = some (.ref f) from hm2, h3] at this
    cases this; rfl
  subst hff
  refine wpAny_call (codeAny_call_generator (by have := C.depth; unfold recursionLimit; omega) h4 h5 rfl rfl rfl h6 ?_)
  refine wpAny_of_eq (a := [(nmAt nmG 0, v)]) rfl ?_
  refine wpAny_newFunctionEnv (show ∀ x ∈ scG.names, x.2 ≠ .cell by decide +kernel) (by intro z hz; simp at hz; subst hz; rfl) (fun h' hn hs => ?_) rfl
  have hk : ∀ b o, s.heap.get? b = some o → h'.get? b = some o := fun b o e => (hs.2 b (Nat.ne_of_lt (Heap.lt_size e))).trans (Heap.get?_push_of_some _ e)
  refine ⟨y.G.nolimit.keeps hk, ?_⟩
  have hsz : h'.objs.size = s.heap.objs.size + 1 := by rw [hs.1, Heap.size_push]
  have none_ge : ∀ b, s.heap.objs.size ≤ b → s.heap.get? b = none := fun b hb => Heap.get?_none_of_le hb
  have hE : Ext s { s with gens := s.gens.push (.fresh (.func gBody (gEnv f (.ref c') s.heap.objs.size))), toks := s.toks + 1 + 1 + 1, heap := h'.push { cls := .type "generator", data := .fields #[.int s.gens.size 0, .str dG.name (s.toks + 1), .str dG.name (s.toks + 1 + 1)] } } := by
    refine ⟨fun b o e => Heap.get?_push_of_some _ (hk b o e), rfl, fun i z e => ?_, fun hb => AllBare.push hb rfl⟩
    have hlt := (Array.getElem?_eq_some_iff.mp e).1
    show (s.gens.push _)[i]? = _
    rw [Array.getElem?_push_lt hlt]
    exact (Array.getElem?_eq_getElem hlt).symm.trans e
  have hG0 : GS s.heap.objs.size [some (.str l), none, none, none] h' := by
    refine ⟨_, hn, fun i p e => ?_⟩
    have hi : i = 0 ∧ p = .str l := by
      match i with
      | 0 => simp [getS] at e; exact ⟨rfl, e.symm⟩
      | 1 => simp [getS] at e
      | 2 => simp [getS] at e
      | 3 => simp [getS] at e
      | k + 4 => simp [getS] at e
    obtain ⟨rfl, rfl⟩ := hi
    exact ⟨by decide, (fun _ e => nomatch e), v, by simp, hv.vis _⟩
  have hlOk : OkS l := by cases hv; assumption
  refine hQ _ h'.objs.size s.gens.size [s.heap.objs.size, s.heap.objs.size + 2 + 1, s.heap.objs.size + 2] (.fresh (.func gBody (gEnv f (.ref c') s.heap.objs.size)))
    (fun h => h.objs.size = s.heap.objs.size + 2 ∧ GS s.heap.objs.size [some (.str l), none, none, none] h) hE ⟨_, _, _, Heap.get?_push_size _ rfl, rfl, rfl, rfl⟩ (Array.getElem?_push_size ..) (by simp) (none_ge _ (by rw [hsz]; exact Nat.le_succ _)) ?_ ?_ ⟨?_, ?_⟩ ?_
  · rw [hsz]
    simp only [List.mem_cons, List.not_mem_nil, or_false, not_or]
    exact ⟨Nat.succ_ne_self _, Nat.ne_of_lt (by omega), Nat.ne_of_lt (by omega)⟩
  · intro b hb
    simp only [List.mem_cons, List.not_mem_nil, or_false] at hb
    rcases hb with rfl | rfl | rfl
    · exact none_ge _ (Nat.le_refl _)
    · exact none_ge _ (Nat.le_add_right _ 3)
    · exact none_ge _ (Nat.le_add_right _ 2)
  · show (h'.push _).objs.size = _
    rw [Heap.size_push, hsz]
  · exact hG0.at fun o e => Heap.get?_push_of_some _ e
  · refine gnext_of _ _ _ ⟨[], rfl⟩ C fun s' hH hW => ⟨rfl, ?_⟩
    exact seg_gen (v := v) C hlOk (Nat.lt_succ_of_lt (Nat.lt_succ_self _)) hH.1 hH.2 hW
end
end Mine
end
section
open PySem PySem.Sre
set_option Elab.async false
set_option maxRecDepth 100000
namespace Mine

theorem runFor_succ (n : Nat) (m : Sre.M) : Sre.M.runFor (n + 1) m = if m.outcome.isSome = true then m else Sre.M.runFor n m.step := rfl
theorem runFor_add (a b : Nat) : ∀ (m : Sre.M), Sre.M.runFor (a + b) m = Sre.M.runFor b (Sre.M.runFor a m) := by
  induction a with
  | zero => intro m; rw [Nat.zero_add]; rfl
  | succ a ih =>
    intro m
    rw [Nat.succ_add, runFor_succ, runFor_succ]
    by_cases h : m.outcome.isSome = true
    · rw [if_pos h, if_pos h]
      cases b with
      | zero => rfl
      | succ b => rw [runFor_succ, if_pos h]
    · rw [if_neg h, if_neg h]
      exact ih m.step
theorem runFor_done {m : Sre.M} (h : m.outcome.isSome = true) : ∀ n, Sre.M.runFor n m = m
  | 0 => rfl
  | n + 1 => by rw [runFor_succ, if_pos h]
/-- the machine comes to a halt -/
noncomputable def Halts (m m' : Sre.M) (k : Nat) : Prop := Sre.M.runFor k m = m' ∧ m'.outcome.isSome = true
theorem Halts.zero {m : Sre.M} (h : m.outcome.isSome = true) : Halts m m 0 := ⟨rfl, h⟩
theorem Halts.step {m m₁ m' : Sre.M} {k : Nat} (hm : m.outcome = none) (e : m.step = m₁) (h : Halts m₁ m' k) : Halts m m' (k + 1) := by
  refine ⟨?_, h.2⟩
  rw [runFor_succ, if_neg (by rw [hm]; simp), e]
  exact h.1
theorem Halts.le {m m' : Sre.M} {k n : Nat} (h : Halts m m' k) (hn : k ≤ n) : Sre.M.runFor n m = m' := by
  obtain ⟨d, rfl⟩ := Nat.le.dest hn
  rw [runFor_add, h.1, runFor_done h.2]

noncomputable def code1 : Array Nat := #[14, 4, 0, 1, 1, 6, 1, 16, 46, 1]
noncomputable def code2 : Array Nat := #[14, 9, 4, 1, 2, 16, 10, 16, 13, 0, 7, 7, 16, 13, 16, 10, 15, 18, 5, 16, 10, 15, 13, 11, 16, 13, 5, 5, 0, 16, 10, 1, 15, 2, 0, 1]

/-- the first pattern's machine, at a place of the text and of the code -/
noncomputable def A1 (T : Array Nat) (s p pc : Nat) (first : Bool) (sn : Seen) (ans : Option Bool) : Sre.M :=
  { code := code1, text := T, lim := T.size, start := s, lastStart := T.size, pc := pc, pos := p, handed := s, outermost := first, marks := #[], frames := [{ wait := .nextStart, pc := 5, pos := s, outermost := first }], weight := 1, seen := sn, answer := ans }
noncomputable def bol (T : Array Nat) (p : Nat) : Bool := p == 0 || T.getD (p - 1) 0 == 10

theorem a1_at {T : Array Nat} {s : Nat} {f : Bool} {sn : Seen} : ∃ sn', (A1 T s s 5 f sn none).step = if bol T s = true then A1 T s s 7 f sn' none else A1 T s s 5 f sn' (some false) := ⟨_, by
  show (if bol T s = true then _ else _) = _
  rfl⟩
theorem a1_lit {T : Array Nat} {s : Nat} {f : Bool} {sn : Seen} (hp : s < T.size) (h : (T.getD s 0 == 46) = true) : ∃ sn', (A1 T s s 7 f sn none).step = A1 T s (s + 1) 9 f sn' none := ⟨_, by
  show (if s ≥ T.size then _ else _) = _
  rw [if_neg (by omega)]
  show (match (Except.ok ((T.getD s 0 == 46), _) : Except String (Bool × Seen)) with | .error why => _ | .ok (false, seen) => _ | .ok (true, seen) => _) = _
  rw [h]; rfl⟩
theorem a1_not {T : Array Nat} {s : Nat} {f : Bool} {sn : Seen} (hp : s < T.size) (h : (T.getD s 0 == 46) = false) : ∃ sn', (A1 T s s 7 f sn none).step = A1 T s s 7 f sn' (some false) := ⟨_, by
  show (if s ≥ T.size then _ else _) = _
  rw [if_neg (by omega)]
  show (match (Except.ok ((T.getD s 0 == 46), _) : Except String (Bool × Seen)) with | .error why => _ | .ok (false, seen) => _ | .ok (true, seen) => _) = _
  rw [h]; rfl⟩
theorem a1_end {T : Array Nat} {s : Nat} {f : Bool} {sn : Seen} (hp : ¬ s < T.size) : ∃ sn', (A1 T s s 7 f sn none).step = A1 T s s 7 f sn' (some false) := ⟨_, by
  show (if s ≥ T.size then _ else _) = _
  rw [if_pos (by omega)]
  rfl⟩
theorem a1_ok {T : Array Nat} {s p : Nat} {f : Bool} {sn : Seen} : ∃ sn', (A1 T s p 9 f sn none).step = { A1 T s p 9 f sn' (some true) with handed := p } := ⟨_, by
  show (if (f && ((false && p != T.size) || (false && p == s))) = true then _ else _) = _
  rw [if_neg (by simp)]
  rfl⟩
theorem a1_back {T : Array Nat} {s p pc : Nat} {f : Bool} {sn : Seen} : (A1 T s p pc f sn (some false)).step = if s < T.size then A1 T (s + 1) (s + 1) 5 false sn none else { A1 T s s 5 f sn (some false) with frames := [], weight := 0 } := by
  show (if s < T.size then _ else _) = _
  rfl
/-- where the first pattern's next match stands -/
noncomputable def ok1 (T : Array Nat) (p : Nat) : Bool := decide (p < T.size) && bol T p && T.getD p 0 == 46
noncomputable def find1 (T : Array Nat) : Nat → Nat → Option Nat
  | 0, _ => none
  | n + 1, p => if ok1 T p then some p else find1 T n (p + 1)
theorem halts1 {T : Array Nat} : ∀ (n s : Nat) (f : Bool) (sn : Seen), s ≤ T.size → T.size - s = n → ∃ k m', k ≤ 4 * n + 4 ∧ Halts (A1 T s s 5 f sn none) m' k ∧
    (match find1 T n s with | some b => (match m'.outcome with | some .matched => m'.start = b ∧ m'.handed = b + 1 | _ => False) | none => (match m'.outcome with | some .failed => True | _ => False)) := by
  intro n
  have fail_tail : ∀ (n s : Nat) (f : Bool) (sn sn' : Seen) (p pc : Nat), (∀ (s : Nat) (f : Bool) (sn : Seen), s ≤ T.size → T.size - s = n → ∃ k m', k ≤ 4 * n + 4 ∧ Halts (A1 T s s 5 f sn none) m' k ∧
    (match find1 T n s with | some b => (match m'.outcome with | some .matched => m'.start = b ∧ m'.handed = b + 1 | _ => False) | none => (match m'.outcome with | some .failed => True | _ => False))) → T.size - s = n + 1 →
      ∃ k m', k ≤ 4 * n + 5 ∧ Halts (A1 T s p pc f sn' (some false)) m' k ∧ (match find1 T n (s + 1) with | some b => (match m'.outcome with | some .matched => m'.start = b ∧ m'.handed = b + 1 | _ => False) | none => (match m'.outcome with | some .failed => True | _ => False)) := by
    intro n s f sn sn' p pc ih hs
    obtain ⟨k, m', hk, hh, hr⟩ := ih (s + 1) false sn' (by omega) (by omega)
    exact ⟨k + 1, m', by omega, .step rfl (a1_back.trans (if_pos (by omega))) hh, hr⟩
  induction n with
  | zero =>
    intro s f sn hs hn
    have hp : ¬ s < T.size := by omega
    have fin : ∀ (p pc : Nat) (sn' : Seen), Halts (A1 T s p pc f sn' (some false)) _ 2 := fun p pc sn' => .step rfl (a1_back.trans (if_neg hp)) (.step rfl rfl (.zero rfl))
    obtain ⟨sn1, h1⟩ := a1_at (T := T) (s := s) (f := f) (sn := sn)
    by_cases hb : bol T s = true
    · rw [if_pos hb] at h1
      obtain ⟨sn2, h2⟩ := a1_end (T := T) (f := f) (sn := sn1) hp
      exact ⟨_, _, by decide, .step rfl h1 (.step rfl h2 (fin _ _ _)), trivial⟩
    · rw [if_neg hb] at h1
      exact ⟨_, _, by decide, .step rfl h1 (fin _ _ _), trivial⟩
  | succ n ih =>
    intro s f sn hs hn
    have hp : s < T.size := by omega
    obtain ⟨sn1, h1⟩ := a1_at (T := T) (s := s) (f := f) (sn := sn)
    unfold find1
    by_cases hb : bol T s = true
    · rw [if_pos hb] at h1
      cases hl : (T.getD s 0 == 46) with
      | true =>
        have hok : ok1 T s = true := by simp only [ok1, hb, hl, hp, decide_true, Bool.and_self]
        rw [if_pos hok]
        obtain ⟨sn2, h2⟩ := a1_lit (T := T) (f := f) (sn := sn1) hp hl
        obtain ⟨sn3, h3⟩ := a1_ok (T := T) (s := s) (p := s + 1) (f := f) (sn := sn2)
        refine ⟨_, _, ?_, .step rfl h1 (.step rfl h2 (.step rfl h3 (.step rfl rfl (.step rfl rfl (.zero rfl))))), rfl, rfl⟩
        omega
      | false =>
        have hok : ¬ ok1 T s = true := by unfold ok1; rw [hl, Bool.and_false]; exact Bool.false_ne_true
        rw [if_neg hok]
        obtain ⟨sn2, h2⟩ := a1_not (T := T) (f := f) (sn := sn1) hp hl
        obtain ⟨k, m', hk, hh, hr⟩ := fail_tail n s f sn sn2 s 7 ih hn
        exact ⟨_, m', by omega, .step rfl h1 (.step rfl h2 hh), hr⟩
    · rw [if_neg hb] at h1
      have hok : ¬ ok1 T s = true := by simp [ok1, hb]
      rw [if_neg hok]
      obtain ⟨k, m', hk, hh, hr⟩ := fail_tail n s f sn sn1 s 5 ih hn
      exact ⟨_, m', by omega, .step rfl h1 hh, hr⟩
end Mine
end
section
open PySem PySem.Sre
set_option Elab.async false
set_option maxRecDepth 100000
namespace Mine

/-- the second pattern's machine -/
noncomputable def S2 (T : Array Nat) (s p pc : Nat) (out : Bool) (hd : Nat) (fr : List Sre.Frame) (w : Nat) (sn : Seen) (ans : Option Bool) : Sre.M :=
  { code := code2, text := T, lim := T.size, start := s, lastStart := T.size, pc := pc, pos := p, handed := hd, outermost := out, marks := #[], frames := fr, weight := w, seen := sn, answer := ans }
section
variable {T : Array Nat} {s p pc ch hd w : Nat} {out : Bool} {fr : List Sre.Frame} {sn : Seen}
theorem lit2_ok (hpc : (pc = 12 ∧ ch = 13) ∨ (pc = 14 ∧ ch = 10) ∨ (pc = 19 ∧ ch = 10) ∨ (pc = 24 ∧ ch = 13) ∨ (pc = 29 ∧ ch = 10)) (hp : p < T.size) (h : (T.getD p 0 == ch) = true) : ∃ sn', (S2 T s p pc out hd fr w sn none).step = S2 T s (p + 1) (pc + 2) out hd fr w sn' none := by
  rcases hpc with ⟨rfl, rfl⟩ | ⟨rfl, rfl⟩ | ⟨rfl, rfl⟩ | ⟨rfl, rfl⟩ | ⟨rfl, rfl⟩ <;> exact ⟨_, by
    show (if p ≥ T.size then _ else _) = _
    rw [if_neg (by omega)]
    first
      | (show (match (Except.ok ((T.getD p 0 == 13), _) : Except String (Bool × Seen)) with | .error why => _ | .ok (false, seen) => _ | .ok (true, seen) => _) = _
         rw [h]; rfl)
      | (show (match (Except.ok ((T.getD p 0 == 10), _) : Except String (Bool × Seen)) with | .error why => _ | .ok (false, seen) => _ | .ok (true, seen) => _) = _
         rw [h]; rfl)⟩
theorem lit2_no (hpc : (pc = 12 ∧ ch = 13) ∨ (pc = 14 ∧ ch = 10) ∨ (pc = 19 ∧ ch = 10) ∨ (pc = 24 ∧ ch = 13) ∨ (pc = 29 ∧ ch = 10)) (h : ¬ p < T.size ∨ (T.getD p 0 == ch) = false) : ∃ sn', (S2 T s p pc out hd fr w sn none).step = S2 T s p pc out hd fr w sn' (some false) := by
  by_cases hp : p < T.size
  · have h := h.resolve_left (fun q => q hp)
    rcases hpc with ⟨rfl, rfl⟩ | ⟨rfl, rfl⟩ | ⟨rfl, rfl⟩ | ⟨rfl, rfl⟩ | ⟨rfl, rfl⟩ <;> exact ⟨_, by
      show (if p ≥ T.size then _ else _) = _
      rw [if_neg (by omega)]
      first
        | (show (match (Except.ok ((T.getD p 0 == 13), _) : Except String (Bool × Seen)) with | .error why => _ | .ok (false, seen) => _ | .ok (true, seen) => _) = _
           rw [h]; rfl)
        | (show (match (Except.ok ((T.getD p 0 == 10), _) : Except String (Bool × Seen)) with | .error why => _ | .ok (false, seen) => _ | .ok (true, seen) => _) = _
           rw [h]; rfl)⟩
  · rcases hpc with ⟨rfl, rfl⟩ | ⟨rfl, rfl⟩ | ⟨rfl, rfl⟩ | ⟨rfl, rfl⟩ | ⟨rfl, rfl⟩ <;> exact ⟨_, by
      show (if p ≥ T.size then _ else _) = _
      rw [if_pos (by omega)]
      rfl⟩
noncomputable def nS (s : Nat) (f : Bool) : Sre.Frame := { wait := .nextStart, pc := 10, pos := s, outermost := f }
noncomputable def nB (s alt : Nat) (f : Bool) : Sre.Frame := { wait := .nextBranch, pc := alt, pos := s, outermost := f, kept := { lastmark := -1, lastindex := -1, whole := false, marks := #[] } }
theorem br2 {f : Bool} : ∃ sn', (S2 T s s 10 f s [nS s f] 1 sn none).step = S2 T s s 12 f s [nB s 11 f, nS s f] 2 sn' none := ⟨_, rfl⟩
theorem alt2a {f : Bool} {p' pc' : Nat} {o : Bool} : (S2 T s p' pc' o hd [nB s 11 f, nS s f] 2 sn (some false)).step = S2 T s s 19 f s [nB s 18 f, nS s f] 2 sn none := rfl
theorem alt2b {f : Bool} {p' pc' : Nat} {o : Bool} : (S2 T s p' pc' o hd [nB s 18 f, nS s f] 2 sn (some false)).step = S2 T s s 24 f s [nB s 23 f, nS s f] 2 sn none := rfl
theorem jump2 (hpc : pc = 16 ∨ pc = 21 ∨ pc = 32) : ∃ sn', (S2 T s p pc out hd fr w sn none).step = S2 T s p 35 out hd fr w sn' none := by
  rcases hpc with rfl | rfl | rfl <;> exact ⟨_, rfl⟩
theorem succ2 : ∃ sn', (S2 T s p 35 out hd fr w sn none).step = S2 T s p 35 out p fr w sn' (some true) := ⟨_, by
  show (if (out && ((false && p != T.size) || (false && p == s))) = true then _ else _) = _
  rw [if_neg (by simp)]
  rfl⟩
theorem not2 {f : Bool} {fr' : List Sre.Frame} : ∃ sn' K, (S2 T s p 26 f hd fr' 2 sn none).step = S2 T s p 29 false p ({ wait := .lookNot, pc := 26, pos := p, outermost := f, kept := K } :: fr') 3 sn' none ∧ K.marks = #[] ∧ K.whole = false ∧ K.lastmark = -1 ∧ K.lastindex = -1 := ⟨_, _, rfl, rfl, rfl, rfl, rfl⟩
theorem back2 {f : Bool} {p' pc' : Nat} {o : Bool} {fr' : List Sre.Frame} {K : Sre.Kept} (h1 : K.marks = #[]) (h2 : K.whole = false) (h3 : K.lastmark = -1) (h4 : K.lastindex = -1) :
    (S2 T s p' pc' o hd ({ wait := .lookNot, pc := 26, pos := p, outermost := f, kept := K } :: fr') 3 sn (some false)).step = S2 T s p 32 f hd fr' 2 sn none := by
  obtain ⟨a, b, c, d⟩ := K
  simp only at h1 h2 h3 h4
  subst h1 h2 h3 h4
  rfl
theorem fin2 {f : Bool} {alt p' pc' : Nat} {o : Bool} : ∃ m', Halts (S2 T s p' pc' o hd [nB s alt f, nS s f] 2 sn (some true)) m' 3 ∧ (match m'.outcome with | some .matched => m'.start = s ∧ m'.handed = hd | _ => False) :=
  ⟨_, .step rfl rfl (.step rfl rfl (.step rfl rfl (.zero rfl))), rfl, rfl⟩
end
noncomputable def end2 (T : Array Nat) (s : Nat) : Nat := if T.getD s 0 = 13 ∧ s + 1 < T.size ∧ T.getD (s + 1) 0 = 10 then s + 2 else s + 1
theorem halts2 {T : Array Nat} {s : Nat} {f : Bool} {sn : Seen} (hp : s < T.size) (hc : T.getD s 0 = 10 ∨ T.getD s 0 = 13) :
    ∃ k m', k ≤ 20 ∧ Halts (S2 T s s 10 f s [nS s f] 1 sn none) m' k ∧ (match m'.outcome with | some .matched => m'.start = s ∧ m'.handed = end2 T s | _ => False) := by
  obtain ⟨s1, h1⟩ := br2 (T := T) (s := s) (sn := sn) (f := f)
  by_cases hc13 : T.getD s 0 = 13
  · obtain ⟨s2, h2⟩ := lit2_ok (T := T) (s := s) (p := s) (pc := 12) (ch := 13) (out := f) (hd := s) (fr := [nB s 11 f, nS s f]) (w := 2) (sn := s1) (by simp) hp (by rw [hc13]; rfl)
    by_cases hn : s + 1 < T.size ∧ T.getD (s + 1) 0 = 10
    · have he : end2 T s = s + 2 := by unfold end2; rw [if_pos ⟨hc13, hn⟩]
      obtain ⟨s3, h3⟩ := lit2_ok (T := T) (s := s) (p := s + 1) (pc := 14) (ch := 10) (out := f) (hd := s) (fr := [nB s 11 f, nS s f]) (w := 2) (sn := s2) (by simp) hn.1 (by rw [hn.2]; rfl)
      obtain ⟨s4, h4⟩ := jump2 (T := T) (s := s) (p := s + 1 + 1) (pc := 16) (out := f) (hd := s) (fr := [nB s 11 f, nS s f]) (w := 2) (sn := s3) (by simp)
      obtain ⟨s5, h5⟩ := succ2 (T := T) (s := s) (p := s + 1 + 1) (out := f) (hd := s) (fr := [nB s 11 f, nS s f]) (w := 2) (sn := s4)
      obtain ⟨m', h6, h7⟩ := fin2 (T := T) (s := s) (hd := s + 1 + 1) (sn := s5) (f := f) (alt := 11) (p' := s + 1 + 1) (pc' := 35) (o := f)
      exact ⟨_, m', by decide, .step rfl h1 (.step rfl h2 (.step rfl h3 (.step rfl h4 (.step rfl h5 h6)))), by rw [he]; exact h7⟩
    · have he : end2 T s = s + 1 := by unfold end2; rw [if_neg (fun q => hn q.2)]
      have hn' : ¬ s + 1 < T.size ∨ (T.getD (s + 1) 0 == 10) = false := by
        by_cases q : s + 1 < T.size
        · right
          have : ¬ T.getD (s + 1) 0 = 10 := fun e => hn ⟨q, e⟩
          simpa using this
        · exact .inl q
      have hn10 : (T.getD s 0 == 10) = false := by rw [hc13]; rfl
      obtain ⟨s3, h3⟩ := lit2_no (T := T) (s := s) (p := s + 1) (pc := 14) (ch := 10) (out := f) (hd := s) (fr := [nB s 11 f, nS s f]) (w := 2) (sn := s2) (by simp) hn'
      obtain ⟨s4, h4⟩ := lit2_no (T := T) (s := s) (p := s) (pc := 19) (ch := 10) (out := f) (hd := s) (fr := [nB s 18 f, nS s f]) (w := 2) (sn := s3) (by simp) (.inr hn10)
      obtain ⟨s5, h5⟩ := lit2_ok (T := T) (s := s) (p := s) (pc := 24) (ch := 13) (out := f) (hd := s) (fr := [nB s 23 f, nS s f]) (w := 2) (sn := s4) (by simp) hp (by rw [hc13]; rfl)
      obtain ⟨s6, K, h6, k1, k2, k3, k4⟩ := not2 (T := T) (s := s) (p := s + 1) (f := f) (hd := s) (fr' := [nB s 23 f, nS s f]) (sn := s5)
      obtain ⟨s7, h7⟩ := lit2_no (T := T) (s := s) (p := s + 1) (pc := 29) (ch := 10) (out := false) (hd := s + 1) (fr := { wait := .lookNot, pc := 26, pos := s + 1, outermost := f, kept := K } :: [nB s 23 f, nS s f]) (w := 3) (sn := s6) (by simp) hn'
      obtain ⟨s8, h8⟩ := jump2 (T := T) (s := s) (p := s + 1) (pc := 32) (out := f) (hd := s + 1) (fr := [nB s 23 f, nS s f]) (w := 2) (sn := s7) (by simp)
      obtain ⟨s9, h9⟩ := succ2 (T := T) (s := s) (p := s + 1) (out := f) (hd := s + 1) (fr := [nB s 23 f, nS s f]) (w := 2) (sn := s8)
      obtain ⟨m', h10, h11⟩ := fin2 (T := T) (s := s) (hd := s + 1) (sn := s9) (f := f) (alt := 23) (p' := s + 1) (pc' := 35) (o := f)
      exact ⟨_, m', by decide, .step rfl h1 (.step rfl h2 (.step rfl h3 (.step rfl alt2a (.step rfl h4 (.step rfl alt2b (.step rfl h5 (.step rfl h6 (.step rfl h7 (.step rfl (back2 k1 k2 k3 k4) (.step rfl h8 (.step rfl h9 h10))))))))))), by rw [he]; exact h11⟩
  · have hc10 : T.getD s 0 = 10 := hc.resolve_right hc13
    have he : end2 T s = s + 1 := by unfold end2; rw [if_neg (fun q => hc13 q.1)]
    obtain ⟨s2, h2⟩ := lit2_no (T := T) (s := s) (p := s) (pc := 12) (ch := 13) (out := f) (hd := s) (fr := [nB s 11 f, nS s f]) (w := 2) (sn := s1) (by simp) (.inr (by rw [hc10]; rfl))
    obtain ⟨s3, h3⟩ := lit2_ok (T := T) (s := s) (p := s) (pc := 19) (ch := 10) (out := f) (hd := s) (fr := [nB s 18 f, nS s f]) (w := 2) (sn := s2) (by simp) hp (by rw [hc10]; rfl)
    obtain ⟨s4, h4⟩ := jump2 (T := T) (s := s) (p := s + 1) (pc := 21) (out := f) (hd := s) (fr := [nB s 18 f, nS s f]) (w := 2) (sn := s3) (by simp)
    obtain ⟨s5, h5⟩ := succ2 (T := T) (s := s) (p := s + 1) (out := f) (hd := s) (fr := [nB s 18 f, nS s f]) (w := 2) (sn := s4)
    obtain ⟨m', h6, h7⟩ := fin2 (T := T) (s := s) (hd := s + 1) (sn := s5) (f := f) (alt := 18) (p' := s + 1) (pc' := 35) (o := f)
    exact ⟨_, m', by decide, .step rfl h1 (.step rfl h2 (.step rfl alt2a (.step rfl h3 (.step rfl h4 (.step rfl h5 h6))))), by rw [he]; exact h7⟩
end Mine
end
section
open PySem PySem.W PyProof.Rows PySem.Calls PySem.Builtin PySem.Builtin.Str PySem.Builtin.Re
set_option Elab.async false
set_option maxRecDepth 100000
namespace Mine

noncomputable def isNl (c : Nat) : Bool := c == 10 || c == 13
noncomputable def find2 (T : Array Nat) : Nat → Nat → Option Nat
  | 0, _ => none
  | n + 1, p => if p < T.size then (if isNl (T.getD p 0) then some p else find2 T n (p + 1)) else none
theorem inSet2 {c : Nat} {sn : Sre.Seen} : ∃ sn', Sre.inSet code2 c code2.size 5 true sn = .ok (isNl c, sn') := by
  cases h : (c == 10) with
  | true => exact ⟨_, by
      show (if (c == 10) = true then _ else _) = _
      rw [h, if_pos rfl]
      show _ = Except.ok (c == 10 || c == 13, _)
      rw [h]; rfl⟩
  | false =>
    cases h2 : (c == 13) with
    | true => exact ⟨_, by
        show (if (c == 10) = true then _ else (if (c == 13) = true then _ else _)) = _
        rw [h, if_neg Bool.false_ne_true, h2, if_pos rfl]
        show _ = Except.ok (c == 10 || c == 13, _)
        rw [h, h2]; rfl⟩
    | false => exact ⟨_, by
        show (if (c == 10) = true then _ else (if (c == 13) = true then _ else _)) = _
        rw [h, if_neg Bool.false_ne_true, h2, if_neg Bool.false_ne_true]
        show _ = Except.ok (c == 10 || c == 13, _)
        rw [h, h2]; rfl⟩
theorem admitted2 {m : Sre.M} {T : Array Nat} (hc : m.code = code2) (ht : m.text = T) (hl : m.lim = T.size) : ∀ (fuel s : Nat) (sn : Sre.Seen), ∃ sn', Sre.M.admitted m fuel s sn = .ok (find2 T fuel s, sn')
  | 0, s, sn => ⟨_, rfl⟩
  | fuel + 1, s, sn => by
    unfold Sre.M.admitted find2
    rw [hl, hc, ht]
    by_cases hs : s < T.size
    · rw [if_neg (by omega), if_pos hs]
      obtain ⟨sn', h⟩ := inSet2 (c := T.getD s 0) (sn := sn)
      rw [h]
      cases hn : isNl (T.getD s 0) with
      | true => exact ⟨_, rfl⟩
      | false => exact admitted2 hc ht hl fuel (s + 1) sn'
    · rw [if_pos (by omega), if_neg hs]
      exact ⟨_, rfl⟩

/-- what a search from a place comes to -/
noncomputable def Found (code T : Array Nat) (s : Nat) (r : Option (Nat × Nat)) : Prop := ∃ k m', k ≤ 4 * T.size + 40 ∧ Halts (Sre.forSearch code T 0 s T.size false) m' k ∧
  (match r with | some (b, e) => (match m'.outcome with | some .matched => m'.start = b ∧ m'.handed = e | _ => False) | none => (match m'.outcome with | some .failed => True | _ => False))

theorem say_halts {m : Sre.M} (ho : m.outcome = none) (hf : m.frames = []) : ∃ m', Halts (Sre.M.say m false) m' 1 ∧ (match m'.outcome with | some .failed => True | _ => False) := by
  refine ⟨(Sre.M.say m false).step, .step ho rfl (.zero ?_), ?_⟩
  · unfold Sre.M.step Sre.M.say
    simp only [ho, hf]
    rfl
  · unfold Sre.M.step Sre.M.say
    simp only [ho, hf]
    trivial
theorem find2_some {T : Array Nat} {b : Nat} : ∀ (n p : Nat), find2 T n p = some b → p ≤ b ∧ b < T.size ∧ isNl (T.getD b 0) = true
  | 0, p, h => by cases h
  | n + 1, p, h => by
    rw [find2] at h
    by_cases h1 : p < T.size
    · rw [if_pos h1] at h
      cases h2 : isNl (T.getD p 0) with
      | true => rw [h2] at h; cases h; exact ⟨Nat.le_refl _, h1, h2⟩
      | false =>
        rw [h2] at h
        obtain ⟨a, b, c⟩ := find2_some n (p + 1) h
        exact ⟨by omega, b, c⟩
    · rw [if_neg h1] at h; cases h
theorem found1 {T : Array Nat} {s : Nat} : Found code1 T s ((find1 T (T.size - s) s).map fun b => (b, b + 1)) := by
  by_cases hs : s < T.size
  · have e : Sre.forSearch code1 T 0 s T.size false = A1 T s s 5 true (({} : Sre.Seen).add 14) none := by
      show (if (decide (s > T.size) || decide (T.size - s < 1)) = true then _ else _) = _
      rw [if_neg (by simp; omega)]
      rfl
    obtain ⟨k, m', hk, hh, hr⟩ := halts1 (T := T) (T.size - s) s true (({} : Sre.Seen).add 14) (by omega) rfl
    refine ⟨k, m', by omega, e ▸ hh, ?_⟩
    cases hf : find1 T (T.size - s) s with
    | none => rw [hf] at hr; exact hr
    | some b => rw [hf] at hr; exact hr
  · have hz : T.size - s = 0 := by omega
    have e : ∃ m, Sre.forSearch code1 T 0 s T.size false = Sre.M.say m false ∧ m.outcome = none ∧ m.frames = [] := ⟨_, by
      show (if (decide (s > T.size) || decide (T.size - s < 1)) = true then _ else _) = _
      rw [if_pos (by simp; omega)], rfl, rfl⟩
    obtain ⟨m, he, ho, hf⟩ := e
    obtain ⟨m', h1, h2⟩ := say_halts ho hf
    refine ⟨1, m', by omega, he ▸ h1, ?_⟩
    rw [hz]; exact h2
theorem found2 {T : Array Nat} {s : Nat} : Found code2 T s ((find2 T (T.size + 1 - s) s).map fun b => (b, end2 T b)) := by
  by_cases hs : s < T.size
  · have e : ∃ m, Sre.forSearch code2 T 0 s T.size false = Sre.M.attemptFrom m s true ∧ m.code = code2 ∧ m.text = T ∧ m.lim = T.size ∧ m = { code := code2, text := T, lim := T.size, start := s, lastStart := T.size, pc := 10, pos := s, handed := s, marks := #[], seen := m.seen } := ⟨_, by
      show (if (decide (s > T.size) || decide (T.size - s < 1)) = true then _ else _) = _
      rw [if_neg (by simp; omega)], rfl, rfl, rfl, rfl⟩
    obtain ⟨m, he, hc, ht, hl, hm⟩ := e
    obtain ⟨sn', ha⟩ := admitted2 hc ht hl (T.size + 1 - s) s m.seen
    have hfs : m.hasFirstSet = true := by rw [hm]; rfl
    have ha' : Sre.M.admitted m (m.lim + 1 - s) s m.seen = .ok (find2 T (T.size + 1 - s) s, sn') := hl.symm ▸ ha
    have hgo : Sre.M.attemptFrom m s true = match find2 T (T.size + 1 - s) s with
        | some b => Sre.M.attemptAt { m with mustAdvance := false, seen := sn' } b true
        | none => Sre.M.say { m with seen := sn' } false := by
      unfold Sre.M.attemptFrom
      rw [hfs]
      simp only [Bool.not_true, Bool.false_eq_true, if_false]
      rw [ha']
      cases find2 T (T.size + 1 - s) s <;> rfl
    unfold Found
    rw [he, hgo]
    cases hf : find2 T (T.size + 1 - s) s with
    | none =>
      obtain ⟨m', h1, h2⟩ := say_halts (m := { m with seen := sn' }) (by rw [hm]) (by rw [hm])
      exact ⟨1, m', by omega, h1, h2⟩
    | some b =>
      obtain ⟨_, hb1, hb2⟩ := find2_some _ _ hf
      have hnl : T.getD b 0 = 10 ∨ T.getD b 0 = 13 := by
        unfold isNl at hb2
        simpa only [Bool.or_eq_true, beq_iff_eq] using hb2
      obtain ⟨k, m', hk, hh, hr⟩ := halts2 (T := T) (s := b) (f := true) (sn := sn') hb1 hnl
      refine ⟨k, m', by omega, ?_, hr⟩
      have : Sre.M.attemptAt { m with mustAdvance := false, seen := sn' } b true = S2 T b b 10 true b [nS b true] 1 sn' none := by rw [hm]; rfl
      show Halts (Sre.M.attemptAt { m with mustAdvance := false, seen := sn' } b true) m' k
      rw [this]; exact hh
  · have hz : find2 T (T.size + 1 - s) s = none := by
      cases T.size + 1 - s with
      | zero => rfl
      | succ n => unfold find2; rw [if_neg hs]
    have e : ∃ m, Sre.forSearch code2 T 0 s T.size false = Sre.M.say m false ∧ m.outcome = none ∧ m.frames = [] := ⟨_, by
      show (if (decide (s > T.size) || decide (T.size - s < 1)) = true then _ else _) = _
      rw [if_pos (by simp; omega)], rfl, rfl⟩
    obtain ⟨m, he, ho, hf⟩ := e
    obtain ⟨m', h1, h2⟩ := say_halts ho hf
    refine ⟨1, m', by omega, he ▸ h1, ?_⟩
    rw [hz]; exact h2

section
variable {M : Model} {A : Around} {E : Value → Shared → Prop} {s : Shared}
theorem drive {Q : Sre.M → Shared → Prop} : ∀ (turns : Nat) (m m' : Sre.M) (k : Nat), Halts m m' k → k ≤ 4 * turns → 1 ≤ turns → Q m' s → wpAny M A (reDrive turns m) Q E s
  | 0, _, _, _, _, _, h1, _ => absurd h1 (by decide)
  | turns + 1, m, m', k, hh, hk, _, hQ => by
    unfold reDrive
    show wpAny M A (if (Sre.M.runFor 4 m).outcome.isSome = true then pure (Sre.M.runFor 4 m) else _) Q E s
    by_cases h4 : (Sre.M.runFor 4 m).outcome.isSome = true
    · rw [if_pos h4]
      have : Sre.M.runFor 4 m = m' := by
        by_cases hk4 : k ≤ 4
        · exact hh.le hk4
        · have e : k = 4 + (k - 4) := by omega
          have h2 := hh.1
          rw [e, runFor_add, runFor_done h4] at h2
          exact h2
      rw [this]
      exact wpAny_pure hQ
    · rw [if_neg h4]
      have hk4 : 4 < k := by
        apply Nat.lt_of_not_le
        intro hle
        exact h4 (by rw [hh.le hle]; exact hh.2)
      refine wpAny_bind (wpAny_rule (drive turns _ m' (k - 4) ⟨?_, hh.2⟩ (by omega) (by omega) hQ))
      have e : k = 4 + (k - 4) := by omega
      have h2 := hh.1
      rw [e, runFor_add] at h2
      exact h2
theorem rules_ok {l : List Nat} {b : Nat → Bool} {tag : Nat → String} {Q : PUnit → Shared → Prop} (h : Q ⟨⟩ s) : wpAny M A (forIn l PUnit.unit fun i (_ : PUnit) => if b i = true then (do rule (tag i); pure (ForInStep.yield PUnit.unit)) else pure (ForInStep.yield PUnit.unit)) Q E s := by
  induction l with
  | nil => rw [List.forIn_nil]; exact wpAny_pure h
  | cons x r ih =>
    rw [List.forIn_cons]
    cases b x with
    | true => exact wpAny_bind (wpAny_bind (wpAny_rule (wpAny_pure ih)))
    | false => exact wpAny_bind (wpAny_pure ih)
theorem next_found {code T : Array Nat} {t : ReTarget} {start : Nat} {r : Option (Nat × Nat)} {Q : Option Sre.M → Shared → Prop} (hc : t.code = code) (hT : t.text = T) (hg : t.groups = 0) (hl : t.lim = T.size) (hsz : T.size ≤ 1000000) (hf : Found code T start r)
    (h : ∀ m, (r = none ∧ m = none) ∨ (∃ b e x, r = some (b, e) ∧ m = some x ∧ x.start = b ∧ x.handed = e) → Q m s) : wpAny M A (reNextFound t start false) Q E s := by
  obtain ⟨k, m', hk, hh, hr⟩ := hf
  unfold reNextFound reRunToEnd
  rw [hc, hT, hg, hl]
  refine wpAny_bind (drive _ _ m' k hh ?_ (by decide) ?_)
  · have : (1 : Nat) * 4000040 ≤ 4 * 2 ^ 64 := by decide
    omega
  refine wpAny_bind (rules_ok ?_)
  cases ho : m'.outcome with
  | none => have := hh.2; rw [ho] at this; cases this
  | some o =>
    cases o with
    | matched =>
      cases r with
      | none => rw [ho] at hr; exact hr.elim
      | some be =>
        rw [ho] at hr
        exact wpAny_pure (h _ (.inr ⟨be.1, be.2, m', rfl, rfl, hr.1, hr.2⟩))
    | failed =>
      cases r with
      | none => exact wpAny_pure (h _ (.inl ⟨rfl, rfl⟩))
      | some be => rw [ho] at hr; exact hr.elim
    | stuck why =>
      cases r with
      | none => rw [ho] at hr; exact hr.elim
      | some be => rw [ho] at hr; exact hr.elim
end
end Mine
end
section
open PySem PySem.W PyProof.Rows PySem.Calls PySem.Builtin PySem.Builtin.Str PySem.Builtin.Re
set_option Elab.async false
set_option maxRecDepth 100000
namespace Mine
theorem pa_pat : PlainAttrs "re.Pattern" :=
  ⟨⟨"object.__getattribute__", by rw [typeLookup_type, builtinLookup_eq_fast]; kernel_rfl, by decide +kernel⟩, by rw [typeLookup_type, builtinLookup_eq_fast]; kernel_rfl⟩
theorem slot_pat_sub : Slot "re.Pattern" "sub" "re.Pattern.sub" :=
  .of (owner := "re.Pattern") (n := "sub") (by rw [typeLookup_type, builtinLookup_eq_fast]; kernel_rfl) (by decide +kernel) (by decide +kernel) (by decide +kernel)
    (by first | exact .inl (by decide +kernel) | exact .inr (by decide +kernel)) (by rw [isSubtype_type]; kernel_rfl)
theorem type_pat_sub : typeOf (.builtin "re.Pattern.sub") = pure (.type "method_descriptor") := by show builtinType _ = _; rw [builtinType_eq_fast]; kernel_rfl
theorem entry_pat_sub : entryFor table "re.Pattern.sub" = some Builtin.«re.Pattern.sub» := entryFor_of_tree (by kernel_rfl)
theorem entry_pat_loop : entryFor table "re.Pattern.sub.loop" = some Builtin.«re.Pattern.sub.loop» := entryFor_of_tree (by kernel_rfl)
theorem args_pat_sub (a b c : Value) : argsOk "re.Pattern.sub" ⟨[a, b, c], []⟩ := by unfold argsOk; kernel_rfl
theorem str_nocall : typeLookup (.type "str") "__call__" = pure none := by rw [typeLookup_type, builtinLookup_eq_fast]; kernel_rfl
theorem named_sub (r s : Value) : reNamed "re.Pattern.sub" "sub" ["repl", "string", "count"] 2 [r, s] [] = pure [some r, some s, none] := by kernel_rfl
theorem code1_eq : pat1.code.toArray = code1 := rfl
theorem code2_eq : pat2.code.toArray = code2 := rfl
end Mine
end
section
open PySem PySem.W PyProof.Rows PySem.Calls PySem.Builtin PySem.Builtin.Str PySem.Builtin.Re
set_option Elab.async false
set_option maxRecDepth 100000
namespace Mine

noncomputable def subPieces (nx : Nat → Option (Nat × Nat)) (repl l : List Nat) : Nat → Nat → List (List Nat)
  | 0, _ => []
  | n + 1, p => match nx p with
    | some (b, e) => (if p < b then [(l.take b).drop p] else []) ++ [repl] ++ subPieces nx repl l n e
    | none => if p < l.length then [l.drop p] else []

section
variable {prog : Program} {w : World} {A : Around} {s : Shared}

theorem whole_target {M : Model} {E : Value → Shared → Prop} {pat : Addr} {r : Flt.PatRec} {l : List Nat} {t : Tok} {Q : ReTarget → Shared → Prop} (hp : Flt.IsPattern s.heap pat r) (hk : r.kind = 0) (hg : r.groups = 0)
    (h : ∀ tt : ReTarget, tt.code = r.code.toArray → tt.text = l.toArray → tt.kind = 0 → tt.groups = 0 → tt.lim = l.length → Q tt s) : wpAny M A (reWholeTarget (.ref pat) (.str (toStr l) t)) Q E s := by
  obtain ⟨fs, T, ws, n, h1, h2, h3, h4, h5, h6⟩ := hp
  unfold reWholeTarget
  refine wpAny_bind (wpAny_fieldsOf h1 rfl ?_)
  have e : reTextOf (.str (toStr l) t) = pure (l.toArray, 0) := rfl
  refine wpAny_bind (wpAny_of_eq e ?_)
  dsimp only
  rw [h4, hk]
  refine wpAny_bind (wpAny_of_eq (a := ()) rfl ?_)
  rw [h2]
  unfold reRawItems
  refine wpAny_bind (wpAny_bind (wpAny_seqItems h5 rfl (wpAny_pure (wpAny_pure ?_))))
  refine h _ ?_ rfl rfl (by show reRawNat _ = 0; rw [h3, hg]) (by simp)
  show (Array.map _ (Array.map _ ws)) = _
  rw [← h6]

theorem slice_str {M : Model} {E : Value → Shared → Prop} {l : List Nat} {b e : Nat} {Q : Value → Shared → Prop} (hl : OkS l) (h : ∀ tk, Q (.str (toStr ((l.take e).drop b)) tk) { s with toks := s.toks + 1 }) : wpAny M A (reSlice l.toArray 0 b e) Q E s := by
  show wpAny M A (mkStr ⟨l.toArray.extract b e⟩) Q E s
  have e1 : (⟨l.toArray.extract b e⟩ : Str) = toStr ((l.take e).drop b) := by
    unfold toStr
    congr 1
    apply Array.toList_inj.mp
    rw [Array.toList_extract]
    simp [List.extract_eq_take_drop, List.drop_take]
  rw [e1]
  refine wpAny_mkStr (h _) ?_
  rw [toStr_length]
  have : ((l.take e).drop b).length ≤ l.length := by simp; omega
  exact Nat.le_trans this (Nat.le_trans hl.1 lim_line)

theorem strs_push {P : Addr} {vs : List Value} {done : List (List Nat)} {v : Value} {x : List Nat} {M : Model} {E : Value → Shared → Prop} {Q : Unit → Shared → Prop} (hp : s.heap.PlainList P vs.toArray) (hv : AllIs vs (done.map .str)) (hx : AIs v (.str x)) (hl : done.length ≤ lim)
    (h : ∀ h' vs', h'.PlainList P vs'.toArray → AllIs vs' ((done ++ [x]).map .str) → Heap.SameBut P s.heap h' → Q () { s with heap := h' }) : wpAny M A (updateSeq P (·.push v)) Q E s := by
  obtain ⟨n, ho⟩ := hp
  have hlen := hv.length
  refine wpAny_updateSeq ho rfl ?_ (by simp only [List.size_toArray]; rw [hlen, List.length_map]; exact Nat.le_trans hl lim_line) (by
    simp only [Array.size_push, List.size_toArray]; rw [hlen, List.length_map]; exact Nat.succ_le_succ (Nat.le_trans hl lim_line))
  refine h _ (vs ++ [v]) ?_ ?_ (Heap.SameBut.update ..)
  · have := plain_set (fun its => its.push v) ho
    simpa using this
  · rw [List.map_append]; exact hv.append (.cons hx .nil)

theorem strs_all : ∀ ls : List (List Nat), strsOf (ls.map .str) = some ls
  | [] => rfl
  | a :: r => by
    have := strs_all r
    unfold strsOf at this ⊢
    simp only [List.map_cons, mapO, Atm.str?, this]
theorem den_builtin (id : String) (args : Args) : (model prog w).den (.builtin id args) = (match entryFor table id with | some b => b args | none => unsupported ((withoutEnding? id "#data").getD id)) := rfl
theorem den_loop (args : Args) : (model prog w).den (.builtin "re.Pattern.sub.loop" args) = Builtin.«re.Pattern.sub.loop» args := by
  rw [den_builtin, entry_pat_loop]
theorem sub_loop {code : Array Nat} {pat P : Addr} {r : Flt.PatRec} {l repl : List Nat} {t tr : Tok} {nx : Nat → Option (Nat × Nat)} {R : Result → Shared → Prop} {s₀ : Shared}
    (hk : r.kind = 0) (hg : r.groups = 0) (hc : r.code.toArray = code) (hl : OkS l) (hr : OkS repl) (hf : ∀ p, Found code l.toArray p (nx p)) (hnx : ∀ p b e, nx p = some (b, e) → p ≤ b ∧ b < e ∧ e ≤ l.length) (hpat : Flt.IsPattern s₀.heap pat r) (hP : s₀.heap.get? P = none) :
    ∀ (n p : Nat) (k : Int) (s : Shared) (vs : List Value) (done : List (List Nat)), p ≤ l.length → l.length + 1 - p ≤ n → Ext s₀ s → s.heap.PlainList P vs.toArray → AllIs vs (done.map .str) → (∀ x ∈ done, OkS x) → (done ++ subPieces nx repl l n p).length ≤ lim → (done ++ subPieces nx repl l n p).flatten.length ≤ lim →
      (∀ v s', Ext s₀ s' → VIs s'.heap v (.str (done ++ subPieces nx repl l n p).flatten) → R (.ok (.ret v)) s') →
      codeAny (model prog w) A (.builtin "re.Pattern.sub.loop" ⟨[.ref pat, .str (toStr l) t, .str (toStr repl) tr, rawInt 0, rawInt 0, rawInt k, rawInt p, rawInt p, .bool false, .ref P, .bool false], []⟩) R s := by
  intro n
  induction n with
  | zero => intro p k s vs done hp hn; omega
  | succ n ih =>
    intro p k s vs done hp hn hE hL hA hD hlim hflat hR
    refine codeAny_of_tree ?_
    rw [den_loop]
    unfold Builtin.«re.Pattern.sub.loop»
    refine wpAny_bind (whole_target (hpat.keeps hE.keep) hk hg fun tt h1 h2 h3 h4 h5 => ?_)
    obtain ⟨pattern, string, code', text, kind, groups, pos, lim'⟩ := tt
    simp only at h1 h2 h3 h4 h5
    subst h2 h3 h4 h5
    show wpAny _ _ (reLiteralCannotBeTurned (.str (toStr repl) tr) >>= _) _ _ s
    refine wpAny_bind (wpAny_of_eq (a := ()) rfl ?_)
    show wpAny _ _ (reNextFound _ p false >>= _) _ _ s
    refine wpAny_bind (next_found (T := l.toArray) (h1.trans hc) rfl rfl (by simp) (by
      have h9 : l.length ≤ 65536 := hl.1
      simp only [List.size_toArray]; omega) (hf p) fun m hm => ?_)
    have hlimd : done.length ≤ lim := by rw [List.length_append] at hlim; omega
    rcases hm with ⟨hn1, rfl⟩ | ⟨b, e, x, hn1, rfl, hxs, hxh⟩
    · -- the end: join
      have fin : ∀ (done' : List (List Nat)) (vs' : List Value) (s' : Shared) (jp : Unit → Sem PySem.Fin), (jp = fun _ => do
              let joiner ← reSlice l.toArray 0 0 0
              let __do_lift ← seqItems? (Value.ref P)
              if (__do_lift.getD #[]).isEmpty = true then do
                  let text ← pure joiner
                  ret text
                else do
                  let text ← call (Value.builtin (if ((0 : Nat) == 0) = true then "str.join" else "bytes.join")) [joiner, Value.ref P]
                  ret text) → Ext s₀ s' → s'.heap.PlainList P vs'.toArray → AllIs vs' (done'.map .str) → done' = done ++ subPieces nx repl l (n + 1) p →
          wpAny (model prog w) (A.under (.builtin "re.Pattern.sub.loop" ⟨[.ref pat, .str (toStr l) t, .str (toStr repl) tr, rawInt 0, rawInt 0, rawInt k, rawInt p, rawInt p, .bool false, .ref P, .bool false], []⟩)) (jp ())
            (fun fin s' => match fin with | .done f => R (.ok f) s' | .again c' => c'.quiet = true ∧ codeAny (model prog w) A c' R s') (fun e s' => R (.error e) s') s' := by
        intro done' vs' s' jp hjp hE' hL' hA' hd'
        subst hjp
        refine wpAny_bind (slice_str hl fun tk => ?_)
        have hE'' : Ext s' { s' with toks := s'.toks + 1 } := .tok
        obtain ⟨kk, hob⟩ := id hL'
        refine wpAny_bind (wpAny_seqItems (s := { s' with toks := s'.toks + 1 }) hob rfl ?_)
        have hA'' : AllIs vs'.toArray.toList (done'.map .str) := hA'
        have hlen := hA'.length
        rw [List.length_map] at hlen
        by_cases hemp : (((some vs'.toArray : Option (Array Value)).getD #[]).isEmpty) = true
        · rw [if_pos hemp]
          have h0 : vs' = [] := by simpa using hemp
          have hd0 : done' = [] := by
            rw [h0] at hlen
            exact List.length_eq_zero_iff.mp hlen.symm
          refine wpAny_bind (wpAny_pure (wpAny_pure ?_))
          refine hR _ _ (hE'.trans hE'') ?_
          rw [← hd', hd0]
          have : toStr ((l.take 0).drop 0) = toStr [] := by simp
          rw [this]
          exact .str [] tk ⟨by decide, fun c hc => by cases hc⟩
        · rw [if_neg hemp]
          have hj : joinPV (.list (done'.map .str)) = some (.str done'.flatten) := by
            show (strsOf (done'.map .str)).bind _ = _
            rw [strs_all]
            simp only [Option.bind_some]
            rw [if_pos ⟨by rw [hd']; exact hflat, by rw [hd']; exact hlim⟩]
          refine wpAny_bind ?_
          have e0 : toStr ((l.take 0).drop 0) = Str.ofString "" := by rw [List.take_zero]; rfl
          rw [e0]
          show wpAny _ _ (call (.builtin "str.join") [.str (Str.ofString "") tk, .ref P]) _ _ _
          refine join_sound hj (.list (vs := vs') ⟨_, kk, hob, rfl, rfl⟩ hA' (by rw [List.length_map, hd']; exact hlim)) fun v s'' hEj hvj _ => wpAny_pure ?_
          exact hR v s'' ((hE'.trans hE'').trans hEj) (hd' ▸ hvj)
      have hsp : subPieces nx repl l (n + 1) p = if p < l.length then [l.drop p] else [] := by
        rw [subPieces, hn1]
      show wpAny _ _ (if p < l.length then _ else _) _ _ s
      by_cases hpl : p < l.length
      · rw [if_pos hpl]
        refine wpAny_bind (slice_str hl fun tk => ?_)
        have e1 : (l.take l.length).drop p = l.drop p := by rw [List.take_length]
        have hdrop : OkS ((l.take l.length).drop p) := (hl.take _).drop p
        refine wpAny_bind (strs_push (s := { s with toks := s.toks + 1 }) hL hA (.str ((l.take l.length).drop p) tk hdrop) hlimd fun h' vs' hL' hA' hs' => ?_)
        refine fin (done ++ [(l.take l.length).drop p]) vs' _ _ rfl ?_ hL' hA' (by rw [hsp, if_pos hpl, e1])
        exact ⟨fun i o he => (hs'.2 i fun q => by rw [q, hP] at he; cases he).trans (hE.keep _ _ he), hE.os, hE.gens⟩
      · rw [if_neg hpl]
        exact fin done vs s _ rfl hE hL hA (by rw [hsp, if_neg hpl, List.append_nil])
    · obtain ⟨hb1, hb2, hb3⟩ := hnx p b e hn1
      have hsp : subPieces nx repl l (n + 1) p = (if p < b then [(l.take b).drop p] else []) ++ [repl] ++ subPieces nx repl l n e := by
        rw [subPieces, hn1]
      have go : ∀ (done' : List (List Nat)) (vs' : List Value) (s' : Shared), Ext s₀ s' → s'.heap.PlainList P vs'.toArray → AllIs vs' (done'.map .str) → (∀ y ∈ done', OkS y) → done' ++ [repl] ++ subPieces nx repl l n e = done ++ subPieces nx repl l (n + 1) p →
          wpAny (model prog w) (A.under (.builtin "re.Pattern.sub.loop" ⟨[.ref pat, .str (toStr l) t, .str (toStr repl) tr, rawInt 0, rawInt 0, rawInt k, rawInt p, rawInt p, .bool false, .ref P, .bool false], []⟩))
            (do updateSeq P (·.push (.str (toStr repl) tr)); again (.builtin "re.Pattern.sub.loop" ⟨[.ref pat, .str (toStr l) t, .str (toStr repl) tr, rawInt 0, rawInt 0, rawInt (k + 1), rawInt x.handed, rawInt x.handed, .bool (x.handed == b), .ref P, .bool false], []⟩))
            (fun fin s' => match fin with | .done f => R (.ok f) s' | .again c' => c'.quiet = true ∧ codeAny (model prog w) A c' R s') (fun e s' => R (.error e) s') s' := by
        intro done' vs' s' hE' hL' hA' hD' hd'
        have hlen' : done'.length ≤ lim := by
          rw [← hd', List.length_append, List.length_append] at hlim; omega
        refine wpAny_bind (strs_push hL' hA' (.str repl tr hr) hlen' fun h' vs'' hL'' hA'' hs' => wpAny_pure ?_)
        refine ⟨Code.quiet_builtin _ (by decide +kernel), ?_⟩
        have hne : (x.handed == b) = false := by rw [hxh]; simp; omega
        rw [hne, hxh]
        refine ih e (k + 1) _ vs'' (done' ++ [repl]) (by omega) (by omega) ⟨fun i o he => (hs'.2 i fun q => by rw [q, hP] at he; cases he).trans (hE'.keep _ _ he), hE'.os, hE'.gens⟩ hL'' hA'' ?_ (by rw [hd']; exact hlim) (by rw [hd']; exact hflat) (by rw [hd']; exact hR)
        intro y hy
        rcases List.mem_append.mp hy with hy | hy
        · exact hD' y hy
        · rw [List.mem_singleton.mp hy]; exact hr
      have hit : (Value.str (toStr repl) tr != Value.none) = true := rfl
      show wpAny _ _ (if p < x.start then _ else _) _ _ s
      rw [hxs]
      by_cases hpb : p < b
      · rw [if_pos hpb]
        refine wpAny_bind (slice_str hl fun tk => ?_)
        have hslice : OkS ((l.take b).drop p) := (hl.take b).drop p
        refine wpAny_bind (strs_push (s := { s with toks := s.toks + 1 }) hL hA (.str _ tk hslice) hlimd fun h' vs' hL' hA' hs' => ?_)
        show wpAny _ _ (if (Value.str (toStr repl) tr != Value.none) = true then (updateSeq P (·.push (.str (toStr repl) tr)) >>= fun _ => again _) else _) _ _ _
        rw [if_pos hit]
        refine go (done ++ [(l.take b).drop p]) vs' { s with heap := h', toks := s.toks + 1 } ⟨fun i o he => (hs'.2 i fun q => by rw [q, hP] at he; cases he).trans (hE.keep _ _ he), hE.os, hE.gens⟩ hL' hA' ?_ (by rw [hsp, if_pos hpb]; simp)
        intro y hy
        rcases List.mem_append.mp hy with hy | hy
        · exact hD y hy
        · rw [List.mem_singleton.mp hy]; exact hslice
      · rw [if_neg hpb]
        show wpAny _ _ (if (Value.str (toStr repl) tr != Value.none) = true then (updateSeq P (·.push (.str (toStr repl) tr)) >>= fun _ => again _) else _) _ _ _
        rw [if_pos hit]
        exact go done vs s hE hL hA hD (by rw [hsp, if_neg hpb]; simp)
end
end Mine
end
section
open PySem PySem.W PyProof.Rows PySem.Calls PySem.Builtin PySem.Builtin.Str PySem.Builtin.Re
set_option Elab.async false
set_option maxRecDepth 100000
namespace Mine

/-- the text with each row's end a return and a feed -/
noncomputable def normF : Bool → List Nat → List Nat
  | _, [] => []
  | b, c :: r => if c = 10 then (if b then normF false r else 13 :: 10 :: normF false r) else if c = 13 then 13 :: 10 :: normF true r else c :: normF false r
/-- the text with a dot more ahead of each row that opens with one -/
noncomputable def dotsF : Bool → List Nat → List Nat
  | _, [] => []
  | b, c :: r => if b && c == 46 then 46 :: 46 :: dotsF false r else c :: dotsF (c == 10) r

theorem seg_step {l : List Nat} {f : Nat → List Nat} {b : Nat} (hb : b ≤ l.length) : ∀ (d p : Nat), b - p = d → p ≤ b → (∀ i, p ≤ i → i < b → f i = l.getD i 0 :: f (i + 1)) → f p = (l.take b).drop p ++ f b
  | 0, p, hd, hp, _ => by
    have : p = b := by omega
    subst this
    rw [List.drop_take]; simp
  | d + 1, p, hd, hp, h => by
    have hlt : p < b := by omega
    rw [h p (Nat.le_refl _) hlt, seg_step hb d (p + 1) (by omega) (by omega) fun i h1 h2 => h i (by omega) h2]
    have hpl : p < (l.take b).length := by rw [List.length_take]; omega
    rw [List.drop_eq_getElem_cons hpl]
    have : (l.take b)[p] = l.getD p 0 := by
      rw [List.getElem_take, List.getD_eq_getElem?_getD, List.getElem?_eq_getElem (by omega)]; rfl
    rw [this]; rfl
theorem arr_getD (l : List Nat) (i : Nat) : l.toArray.getD i 0 = l.getD i 0 := by
  simp [Array.getD, List.getD_eq_getElem?_getD]
  split
  · rename_i h; rw [List.getElem?_eq_getElem h]; rfl
  · rename_i h; rw [List.getElem?_eq_none (by omega)]; rfl
theorem drop_cons {l : List Nat} {i : Nat} (h : i < l.length) : l.drop i = l.getD i 0 :: l.drop (i + 1) := by
  rw [List.drop_eq_getElem_cons h, List.getD_eq_getElem?_getD, List.getElem?_eq_getElem h]; rfl

theorem find2_none {T : Array Nat} : ∀ (n p : Nat), find2 T n p = none → T.size ≤ p + n → ∀ i, p ≤ i → i < T.size → isNl (T.getD i 0) = false
  | 0, p, _, h, i, h1, h2 => by omega
  | n + 1, p, e, h, i, h1, h2 => by
    rw [find2] at e
    rw [if_pos (by omega)] at e
    cases hn : isNl (T.getD p 0) with
    | true => rw [hn] at e; cases e
    | false =>
      rw [hn] at e
      by_cases hi : i = p
      · subst hi; exact hn
      · exact find2_none n (p + 1) e (by omega) i (by omega) h2
theorem find2_before {T : Array Nat} {b : Nat} : ∀ (n p : Nat), find2 T n p = some b → ∀ i, p ≤ i → i < b → isNl (T.getD i 0) = false
  | 0, p, h => by cases h
  | n + 1, p, h => by
    intro i h1 h2
    rw [find2] at h
    by_cases hp : p < T.size
    · rw [if_pos hp] at h
      cases hn : isNl (T.getD p 0) with
      | true => rw [hn] at h; cases h; omega
      | false =>
        rw [hn] at h
        by_cases hi : i = p
        · subst hi; exact hn
        · exact find2_before n (p + 1) h i (by omega) h2
    · rw [if_neg hp] at h; cases h
theorem find1_none {T : Array Nat} : ∀ (n p : Nat), find1 T n p = none → T.size ≤ p + n → ∀ i, p ≤ i → i < T.size → ok1 T i = false
  | 0, p, _, h, i, h1, h2 => by omega
  | n + 1, p, e, h, i, h1, h2 => by
    rw [find1] at e
    cases hn : ok1 T p with
    | true => rw [hn] at e; cases e
    | false =>
      rw [hn] at e
      by_cases hi : i = p
      · subst hi; exact hn
      · exact find1_none n (p + 1) e (by omega) i (by omega) h2
theorem find1_some {T : Array Nat} {b : Nat} : ∀ (n p : Nat), find1 T n p = some b → p ≤ b ∧ ok1 T b = true ∧ ∀ i, p ≤ i → i < b → ok1 T i = false
  | 0, p, h => by cases h
  | n + 1, p, h => by
    rw [find1] at h
    cases hn : ok1 T p with
    | true => rw [hn] at h; cases h; exact ⟨Nat.le_refl _, hn, fun i h1 h2 => by omega⟩
    | false =>
      rw [hn] at h
      obtain ⟨h1, h2, h3⟩ := find1_some n (p + 1) h
      refine ⟨by omega, h2, fun i h4 h5 => ?_⟩
      by_cases hi : i = p
      · subst hi; exact hn
      · exact h3 i (by omega) h5

noncomputable def nx1 (l : List Nat) (p : Nat) : Option (Nat × Nat) := (find1 l.toArray (l.toArray.size - p) p).map fun b => (b, b + 1)
noncomputable def nx2 (l : List Nat) (p : Nat) : Option (Nat × Nat) := (find2 l.toArray (l.toArray.size + 1 - p) p).map fun b => (b, end2 l.toArray b)
theorem nx1_ok {l : List Nat} {p b e : Nat} (h : nx1 l p = some (b, e)) : p ≤ b ∧ b < e ∧ e ≤ l.length := by
  obtain ⟨x, hx, he⟩ := Option.map_eq_some_iff.mp h
  cases he
  obtain ⟨h1, h2, _⟩ := find1_some _ _ hx
  have : b < l.toArray.size := by
    unfold ok1 at h2
    simp only [Bool.and_eq_true, decide_eq_true_eq] at h2
    exact h2.1.1
  simp only [List.size_toArray] at this
  omega
theorem nx2_ok {l : List Nat} {p b e : Nat} (h : nx2 l p = some (b, e)) : p ≤ b ∧ b < e ∧ e ≤ l.length := by
  obtain ⟨x, hx, he⟩ := Option.map_eq_some_iff.mp h
  cases he
  obtain ⟨h1, h2, _⟩ := find2_some _ _ hx
  simp only [List.size_toArray] at h2
  unfold end2
  split
  · rename_i hc
    have := hc.2.1
    simp only [List.size_toArray] at this
    omega
  · omega
theorem pieces_len {nx : Nat → Option (Nat × Nat)} {repl l : List Nat} (h : ∀ p b e, nx p = some (b, e) → p ≤ b ∧ b < e ∧ e ≤ l.length) : ∀ (n p : Nat), p ≤ l.length → (subPieces nx repl l n p).length ≤ 2 * (l.length - p) + 1
  | 0, p, _ => by simp [subPieces]
  | n + 1, p, hp => by
    rw [subPieces]
    cases hn : nx p with
    | none =>
      dsimp only
      split <;> simp
    | some be =>
      obtain ⟨b, e⟩ := be
      obtain ⟨h1, h2, h3⟩ := h p b e hn
      have ih := pieces_len h n e h3 (repl := repl)
      dsimp only
      split
      · simp only [List.length_append, List.length_cons, List.length_nil]; omega
      · simp only [List.length_append, List.length_cons, List.length_nil]; omega
theorem norm_sub {l : List Nat} : ∀ (n p : Nat), p ≤ l.length → l.length + 1 - p ≤ n → (subPieces (nx2 l) [13, 10] l n p).flatten = normF false (l.drop p)
  | 0, p, hp, hn => by omega
  | n + 1, p, hp, hn => by
    have stepf : ∀ i, i < l.length → isNl (l.getD i 0) = false → normF false (l.drop i) = l.getD i 0 :: normF false (l.drop (i + 1)) := by
      intro i hi hnl
      rw [drop_cons hi, normF]
      unfold isNl at hnl
      simp only [Bool.or_eq_false_iff, beq_eq_false_iff_ne] at hnl
      rw [if_neg hnl.1, if_neg hnl.2]
    rw [subPieces]
    cases hf : find2 l.toArray (l.toArray.size + 1 - p) p with
    | none =>
      have h0 : nx2 l p = none := by unfold nx2; rw [hf]; rfl
      rw [h0]
      dsimp only
      have hall := find2_none _ _ hf (by omega)
      have := seg_step (l := l) (f := fun i => normF false (l.drop i)) (b := l.length) (Nat.le_refl _) _ p rfl hp fun i h1 h2 => stepf i h2 (by rw [← arr_getD]; exact hall i h1 (by simpa using h2))
      rw [this]
      simp only [List.take_length, List.drop_length]
      have hnil : normF false [] = [] := rfl
      rw [hnil, List.append_nil]
      by_cases hpl : p < l.length
      · rw [if_pos hpl]; simp
      · rw [if_neg hpl, List.drop_of_length_le (by omega)]; rfl
    | some b =>
      obtain ⟨h1, h2, h3⟩ := find2_some _ _ hf
      simp only [List.size_toArray] at h2
      have hbef := find2_before _ _ hf
      have h0 : nx2 l p = some (b, end2 l.toArray b) := by unfold nx2; rw [hf]; rfl
      obtain ⟨g1, g2, g3⟩ := nx2_ok h0
      rw [h0]
      dsimp only
      have hseg := seg_step (l := l) (f := fun i => normF false (l.drop i)) (b := b) (by omega) _ p rfl h1 fun i q1 q2 => stepf i (by omega) (by rw [← arr_getD]; exact hbef i q1 q2)
      rw [hseg, List.flatten_append, List.flatten_append, norm_sub n _ g3 (by omega)]
      have hpre : (if p < b then [(l.take b).drop p] else []).flatten = (l.take b).drop p := by
        by_cases hpb : p < b
        · rw [if_pos hpb]; simp
        · rw [if_neg hpb, List.drop_of_length_le (by rw [List.length_take]; omega)]; rfl
      rw [hpre, List.append_assoc]
      congr 1
      show [13, 10] ++ normF false (l.drop (end2 l.toArray b)) = normF false (l.drop b)
      rw [drop_cons h2, normF]
      rw [arr_getD] at h3
      unfold end2
      rw [arr_getD, arr_getD]
      by_cases hc : l.getD b 0 = 10
      · rw [if_pos hc, if_neg (fun q => by rw [hc] at q; exact absurd q.1 (by decide))]
        rfl
      · have hc13 : l.getD b 0 = 13 := by
          unfold isNl at h3
          simp only [Bool.or_eq_true, beq_iff_eq] at h3
          exact h3.resolve_left hc
        rw [if_neg hc, if_pos hc13]
        by_cases hnx : b + 1 < l.length ∧ l.getD (b + 1) 0 = 10
        · rw [if_pos ⟨hc13, by simpa using hnx.1, hnx.2⟩, drop_cons hnx.1, normF, if_pos hnx.2, if_pos rfl]
          rfl
        · rw [if_neg (fun q => hnx ⟨by simpa using q.2.1, q.2.2⟩)]
          by_cases hlt : b + 1 < l.length
          · have hne : ¬ l.getD (b + 1) 0 = 10 := fun q => hnx ⟨hlt, q⟩
            rw [drop_cons hlt, normF, normF, if_neg hne, if_neg hne]
            rfl
          · rw [List.drop_of_length_le (by omega)]; rfl
theorem dots_sub {l : List Nat} : ∀ (n p : Nat), p ≤ l.length → l.length + 1 - p ≤ n → (subPieces (nx1 l) [46, 46] l n p).flatten = dotsF (bol l.toArray p) (l.drop p)
  | 0, p, hp, hn => by omega
  | n + 1, p, hp, hn => by
    have bolS : ∀ i, i < l.length → bol l.toArray (i + 1) = (l.getD i 0 == 10) := by
      intro i _
      unfold bol
      rw [Nat.add_sub_cancel, arr_getD]
      simp
    have stepf : ∀ i, i < l.length → ok1 l.toArray i = false → dotsF (bol l.toArray i) (l.drop i) = l.getD i 0 :: dotsF (bol l.toArray (i + 1)) (l.drop (i + 1)) := by
      intro i hi hok
      rw [drop_cons hi, dotsF, bolS i hi]
      unfold ok1 at hok
      rw [arr_getD] at hok
      have : (bol l.toArray i && l.getD i 0 == 46) = false := by
        simp only [List.size_toArray, decide_eq_true hi, Bool.true_and] at hok
        exact hok
      rw [this]
      rfl
    rw [subPieces]
    cases hf : find1 l.toArray (l.toArray.size - p) p with
    | none =>
      have h0 : nx1 l p = none := by unfold nx1; rw [hf]; rfl
      rw [h0]
      dsimp only
      have hall := find1_none _ _ hf (by omega)
      have := seg_step (l := l) (f := fun i => dotsF (bol l.toArray i) (l.drop i)) (b := l.length) (Nat.le_refl _) _ p rfl hp fun i h1 h2 => stepf i h2 (hall i h1 (by simpa using h2))
      rw [this]
      simp only [List.take_length, List.drop_length]
      have hnil : dotsF (bol l.toArray l.length) [] = [] := rfl
      rw [hnil, List.append_nil]
      by_cases hpl : p < l.length
      · rw [if_pos hpl]; simp
      · rw [if_neg hpl, List.drop_of_length_le (by omega)]; rfl
    | some b =>
      obtain ⟨h1, h2, h3⟩ := find1_some _ _ hf
      have h0 : nx1 l p = some (b, b + 1) := by unfold nx1; rw [hf]; rfl
      obtain ⟨g1, g2, g3⟩ := nx1_ok h0
      rw [h0]
      dsimp only
      have hseg := seg_step (l := l) (f := fun i => dotsF (bol l.toArray i) (l.drop i)) (b := b) (by omega) _ p rfl h1 fun i q1 q2 => stepf i (by omega) (h3 i q1 q2)
      rw [hseg, List.flatten_append, List.flatten_append, dots_sub n _ g3 (by omega)]
      have hpre : (if p < b then [(l.take b).drop p] else []).flatten = (l.take b).drop p := by
        by_cases hpb : p < b
        · rw [if_pos hpb]; simp
        · rw [if_neg hpb, List.drop_of_length_le (by rw [List.length_take]; omega)]; rfl
      rw [hpre, List.append_assoc]
      congr 1
      have hbl : b < l.length := by omega
      show [46, 46] ++ dotsF (bol l.toArray (b + 1)) (l.drop (b + 1)) = dotsF (bol l.toArray b) (l.drop b)
      rw [drop_cons hbl, dotsF, bolS b hbl]
      unfold ok1 at h2
      rw [arr_getD] at h2
      simp only [Bool.and_eq_true] at h2
      have h46 : l.getD b 0 = 46 := by simpa using h2.2
      rw [h46, h2.1.2]
      rfl
theorem norm_len : ∀ (b : Bool) (l : List Nat), (normF b l).length ≤ 2 * l.length
  | _, [] => by simp [normF]
  | b, c :: r => by
    have h1 := norm_len false r
    have h2 := norm_len true r
    rw [normF]
    split
    · split <;> simp only [List.length_cons] <;> omega
    · split <;> simp only [List.length_cons] <;> omega
theorem dots_len : ∀ (b : Bool) (l : List Nat), (dotsF b l).length ≤ 2 * l.length
  | _, [] => by simp [dotsF]
  | b, c :: r => by
    have h1 := dots_len false r
    have h2 := dots_len (c == 10) r
    rw [dotsF]
    split <;> simp only [List.length_cons] <;> omega
end Mine
end
section
open PySem PySem.W PyProof.Rows PySem.Calls PySem.Builtin PySem.Builtin.Str PySem.Builtin.Re
set_option Elab.async false
set_option maxRecDepth 100000
namespace Mine
section
variable {prog : Program} {w : World} {A : Around} {E : Value → Shared → Prop} {s : Shared}
theorem sub_call {code : Array Nat} {pat : Addr} {r : Flt.PatRec} {l repl : List Nat} {t tr : Tok} {nx : Nat → Option (Nat × Nat)} {Q : Value → Shared → Prop}
    (hk : r.kind = 0) (hg : r.groups = 0) (hc : r.code.toArray = code) (hl : OkS l) (hr : OkS repl) (hr92 : (toStr repl).cps.contains 92 = false) (hf : ∀ p, Found code l.toArray p (nx p)) (hnx : ∀ p b e, nx p = some (b, e) → p ≤ b ∧ b < e ∧ e ≤ l.length) (hpat : Flt.IsPattern s.heap pat r)
    (hlim : (subPieces nx repl l (l.length + 1) 0).length ≤ lim) (hflat : (subPieces nx repl l (l.length + 1) 0).flatten.length ≤ lim)
    (hQ : ∀ v s', Ext s s' → VIs s'.heap v (.str (subPieces nx repl l (l.length + 1) 0).flatten) → Q v s') :
    wpAny (model prog w) A (call (.builtin "re.Pattern.sub") [.ref pat, .str (toStr repl) tr, .str (toStr l) t]) Q E s := by
  have hT : s.TypeIs (.ref pat) "re.Pattern" := by
    obtain ⟨fs, T, ws, n, h1, _⟩ := hpat
    exact ⟨_, h1, rfl⟩
  refine wpAny_call (codeAny_call_builtin slot_pat_sub.plain entry_pat_sub (slot_pat_sub.check _ _ _ _ _ _ _ _ hT (args_pat_sub _ _ _) ?_))
  show wpAny _ _ (reSubstitute "re.Pattern.sub" "sub" false _) _ _ s
  unfold reSubstitute
  refine wpAny_bind (wpAny_of_eq (named_sub _ _) ?_)
  dsimp only
  refine wpAny_bind (wpAny_pure ?_)
  refine wpAny_bind (wpAny_specialOf (typeIs_str _ _ _) str_nocall ?_)
  show wpAny _ _ (if (!(toStr repl).cps.contains 92) = true then (pure (Value.str (toStr repl) tr, 0) >>= fun x => _) else _) _ _ s
  rw [hr92, if_pos (by rfl)]
  show wpAny _ _ (holding [.str (toStr repl) tr] (reWholeTarget (.ref pat) (.str (toStr l) t)) >>= _) _ _ s
  refine wpAny_bind (wpAny_holding (whole_target hpat hk hg fun tt _ _ _ _ _ => ?_))
  show wpAny _ _ (newList [] >>= fun p => again _) _ _ s
  refine wpAny_bind (wpAny_newList ?_ (by decide))
  refine wpAny_pure ⟨Code.quiet_builtin _ (by decide +kernel), ?_⟩
  have hP : s.heap.get? s.heap.objs.size = none := fresh_new _ rfl
  refine sub_loop (s₀ := s) hk hg hc hl hr hf hnx hpat hP (l.length + 1) 0 0 { s with heap := s.heap.push { cls := .type "list", data := .seq [].toArray } } [] [] (Nat.zero_le _) (by omega) (.push (tk := s.toks)) ⟨0, Heap.get?_push_size _ rfl⟩ .nil (fun x hx => by cases hx) (by simpa using hlim) (by simpa using hflat) fun v s' hE hv => ?_
  exact hQ v s' hE (by simpa using hv)

theorem contains_92_1 : (toStr [46, 46]).cps.contains 92 = false := by decide +kernel
theorem contains_92_2 : (toStr [13, 10]).cps.contains 92 = false := by decide +kernel
theorem sub1_call {pat : Addr} {l : List Nat} {t tr : Tok} {Q : Value → Shared → Prop} (hl : OkS l) (hlen : l.length ≤ 30000) (hpat : Flt.IsPattern s.heap pat pat1)
    (hQ : ∀ v s', Ext s s' → VIs s'.heap v (.str (dotsF true l)) → Q v s') : wpAny (model prog w) A (call (.builtin "re.Pattern.sub") [.ref pat, .str (toStr [46, 46]) tr, .str (toStr l) t]) Q E s := by
  have hd : (subPieces (nx1 l) [46, 46] l (l.length + 1) 0).flatten = dotsF true l := dots_sub _ 0 (Nat.zero_le _) (by omega)
  refine sub_call (code := code1) (nx := nx1 l) rfl rfl code1_eq hl ⟨by decide, by decide⟩ contains_92_1 (fun p => by
    have := found1 (T := l.toArray) (s := p)
    exact this) (fun p b e h => nx1_ok h) hpat ?_ ?_ fun v s' hE hv => hQ v s' hE (hd ▸ hv)
  · have := pieces_len (nx := nx1 l) (repl := [46, 46]) (l := l) (fun p b e h => nx1_ok h) (l.length + 1) 0 (Nat.zero_le _)
    unfold lim; omega
  · rw [hd]
    have := dots_len true l
    unfold lim; omega
theorem sub2_call {pat : Addr} {l : List Nat} {t tr : Tok} {Q : Value → Shared → Prop} (hl : OkS l) (hlen : l.length ≤ 30000) (hpat : Flt.IsPattern s.heap pat pat2)
    (hQ : ∀ v s', Ext s s' → VIs s'.heap v (.str (normF false l)) → Q v s') : wpAny (model prog w) A (call (.builtin "re.Pattern.sub") [.ref pat, .str (toStr [13, 10]) tr, .str (toStr l) t]) Q E s := by
  have hd : (subPieces (nx2 l) [13, 10] l (l.length + 1) 0).flatten = normF false l := norm_sub _ 0 (Nat.zero_le _) (by omega)
  refine sub_call (code := code2) (nx := nx2 l) rfl rfl code2_eq hl ⟨by decide, by decide⟩ contains_92_2 (fun p => by
    have := found2 (T := l.toArray) (s := p)
    exact this) (fun p b e h => nx2_ok h) hpat ?_ ?_ fun v s' hE hv => hQ v s' hE (hd ▸ hv)
  · have := pieces_len (nx := nx2 l) (repl := [13, 10]) (l := l) (fun p b e h => nx2_ok h) (l.length + 1) 0 (Nat.zero_le _)
    unfold lim; omega
  · rw [hd]
    have := norm_len false l
    unfold lim; omega
end
end Mine
end
section
open PySem PySem.W PyProof.Rows PySem.Calls PySem.Builtin PySem.Builtin.Str PySem.Builtin.Re
set_option Elab.async false
set_option maxRecDepth 100000
namespace Mine
section
variable {prog : Program} {w : World} {A : Around} {n : Nat} {D : List DefItem} {nm : List Str} {O Mx : List Nat} {s : Shared}
/-- a def of the text whose body is walked by hand -/
theorem fnOk_hand {d : DefItem} {np : Nat} {args : List PV} {r : PV} (hD : d ∈ D) (hdef : d.params.defaults = []) (hdbg : (d.name == ("__debug__" : Str)) = false) (hW : FnWf nm O Mx d.scope np = true)
    (hbind : ∀ pm cd doc vals, vals.length = np → bindArgs (docDef d.name d.params d.body d.scope pm cd doc) ⟨vals, []⟩ = pure ((nm.take np).zip vals))
    (hlen : args.length = np)
    (hwalk : ∀ (A : Around) (env : Env) (s₀ s : Shared) (Q : Flow → Shared → Prop) (E : Value → Shared → Prop), FR n D A env nm O Mx s₀ (sg0 args nm.length) s → env.scope = d.scope → (∀ v s', Ext s₀ s' → VIs s'.heap v r → Fresh s₀ v → Q (.ret v) s') → wpAny (model prog w) A (execs d.body env) Q E s) :
    FnOk prog w D (n + 1) d.name args r := by
  have W := FnWf.ok hW
  refine ⟨⟨d, hD, rfl, hdef, hdbg⟩, fun A s f vals Q E C G hf hv hQ => ?_⟩
  obtain ⟨N, mg, mb, consts, objs, names, y⟩ := id G
  obtain ⟨f', c', o, pm, doc, _, _, h3, h4, h5, h6⟩ := (y.G.made d hD).plain hdef
  obtain ⟨mg', hm1, hm2⟩ := hf
  have hff : f = f' := by
    have := ns_uniq hm1 y.G.g d.name
    rw [hm2, h3] at this
    cases this; rfl
  subst hff
  refine wpAny_call ?_
  refine call_cells (binds := (nm.take np).zip vals) (by have := C.depth; unfold recursionLimit; omega) h4 h5 y.G.nolimit h6 (hbind _ _ _ _ (hv.length.trans hlen)) ?_ (fun h₁ tk F X => ?_) W.co W.gen W.kind
  · intro x hx
    have hm := (List.of_mem_zip (a := x.1) (b := x.2) hx).1
    rcases W.kinds x.1 hm with hk | hk
    · exact .inl hk
    · exact .inr ⟨hk, cellsFrom_has _ _ _ _ (.inl hk)⟩
  · have F0 := frame0 (n := n) (tk := tk) W hlen C G hv F X
    exact hwalk _ _ s _ _ _ F0 rfl fun v s' hE hv' hfr => hQ v s' hE hv' hfr
theorem load_pat {env : Env} {p : Pos} {r : Flt.PatRec} {Q : Value → Shared → Prop} {E : Value → Shared → Prop} (W : GW D s.heap) (hr : r = pat1 ∨ r = pat2) (hf : env.scope.kind = .function) (hg : env.globals = mainGlobals)
    (hk : env.kindOf r.name = some .globalImplicit) (hd : (r.name == ("__debug__" : Str)) = false) (h : ∀ a, Flt.IsPattern s.heap a r → Q (.ref a) s) : wpAny (model prog w) A (eval (.Name r.name p) env) Q E s := by
  obtain ⟨N, mg, mb, consts, objs, names, y⟩ := W
  have : ∃ a, mg r.name = some (.ref a) ∧ Flt.IsPattern s.heap a r := by
    rcases hr with rfl | rfl
    · exact y.p1
    · exact y.p2
  obtain ⟨a, h1, h2⟩ := this
  exact Name_function_global hf hk (loadGlobal_global (hg ▸ y.G.g) h1 (h a h2)) hd
end

noncomputable def nmQ : List Str := ["data"]
noncomputable def scQ : Scope := ⟨.function, [("data", .local), ("_twin_re_1", .globalImplicit), ("_twin_re_2", .globalImplicit), ("CRLF", .globalImplicit)], false, false, []⟩
noncomputable def xDots : X := .str ".." [46, 46] ⟨59,26,59,30⟩
noncomputable def xData : X := .var 0 ⟨59,53,59,57⟩
noncomputable def eInner : Expr := .Call (.Attribute (.Name pat2.name ⟨59,32,59,42⟩) (Str.ofString "sub") ⟨59,32,59,46⟩) [.Name "CRLF" ⟨59,47,59,51⟩, xData.toE nmQ fnN] [] ⟨59,32,59,58⟩
noncomputable def eOuter : Expr := .Call (.Attribute (.Name pat1.name ⟨59,11,59,21⟩) (Str.ofString "sub") ⟨59,11,59,25⟩) [xDots.toE nmQ fnN, eInner] [] ⟨59,11,59,59⟩
noncomputable def dQ : DefItem := ⟨"quotedata", ⟨[], [⟨"data", none, ⟨58,14,58,18⟩⟩], none, [], [], none, []⟩, [.Return (some eOuter) ⟨59,4,59,59⟩], scQ, ⟨58,0,59,59⟩⟩
theorem in_Q : dQ ∈ D0 := List.mem_of_getElem? (i := 4) (by with_unfolding_all rfl)
theorem fw_Q : FnWf nmQ [] [] dQ.scope 1 = true := by decide +kernel
theorem bind_Q (pm cd doc : Value) : ∀ vals : List Value, vals.length = 1 → bindArgs (docDef dQ.name dQ.params dQ.body dQ.scope pm cd doc) ⟨vals, []⟩ = pure ((nmQ.take 1).zip vals) := by
  intro vals h
  obtain ⟨v0, rfl⟩ := one_of h
  rfl

theorem dots_ok {b : Bool} {l : List Nat} (h : ∀ c ∈ l, c < 1114112) : ∀ c ∈ dotsF b l, c < 1114112 := by
  induction l generalizing b with
  | nil => intro c hc; cases hc
  | cons a r ih =>
    intro c hc
    rw [dotsF] at hc
    have ha := h a List.mem_cons_self
    have hr : ∀ c ∈ r, c < 1114112 := fun c hc => h c (List.mem_cons_of_mem _ hc)
    split at hc
    · rcases List.mem_cons.mp hc with rfl | hc
      · decide
      · rcases List.mem_cons.mp hc with rfl | hc
        · decide
        · exact ih hr c hc
    · rcases List.mem_cons.mp hc with rfl | hc
      · exact ha
      · exact ih hr c hc
theorem norm_ok {b : Bool} {l : List Nat} (h : ∀ c ∈ l, c < 1114112) : ∀ c ∈ normF b l, c < 1114112 := by
  induction l generalizing b with
  | nil => intro c hc; cases hc
  | cons a r ih =>
    intro c hc
    rw [normF] at hc
    have ha := h a List.mem_cons_self
    have hr : ∀ c ∈ r, c < 1114112 := fun c hc => h c (List.mem_cons_of_mem _ hc)
    have two : ∀ (b' : Bool), c ∈ 13 :: 10 :: normF b' r → c < 1114112 := fun b' hc => by
      rcases List.mem_cons.mp hc with rfl | hc
      · decide
      · rcases List.mem_cons.mp hc with rfl | hc
        · decide
        · exact ih hr c hc
    split at hc
    · split at hc
      · exact ih hr c hc
      · exact two _ hc
    · split at hc
      · exact two _ hc
      · rcases List.mem_cons.mp hc with rfl | hc
        · exact ha
        · exact ih hr c hc

noncomputable def quotePV : PV → Option PV
  | .str l => if l.length ≤ 10000 then some (.str (dotsF true (normF false l))) else none
  | _ => none
theorem quote_ok {prog : Program} {w : World} {D : List DefItem} {n : Nat} {a r : PV} (hD : dQ ∈ D) (h : quotePV a = some r) : FnOk prog w D (n + 1) dQ.name [a] r := by
  refine fnOk_hand (nm := nmQ) (O := []) (Mx := []) hD rfl (by decide +kernel) fw_Q bind_Q rfl fun A env s₀ s Q E F hsc hQ => ?_
  unfold quotePV at h
  split at h
  · rename_i l
    split at h
    · rename_i hlen
      cases h
      have C := F.cs
      have hsk : ∀ x, env.kindOf x = scQ.names.lookup x := fun x => by unfold Env.kindOf; rw [hsc]; rfl
      refine wpAny_execs_cons (wpAny_Return_some ?_)
      refine wpAny_Call_method (T := "re.Pattern") rfl rfl (by decide +kernel) pa_pat slot_pat_sub type_pat_sub ?_
      refine load_pat C.gw (.inl rfl) C.ok.fn C.ok.gl ((hsk _).trans (by decide +kernel)) (by decide +kernel) fun p1 hp1 => ?_
      have hp1' := hp1
      obtain ⟨fs, T, ws, k, g1, _⟩ := hp1'
      refine ⟨⟨_, g1, rfl⟩, (fun b hb => by cases hb; exact ⟨_, g1, rfl⟩), ?_⟩
      refine callWith_method1 ?_ rfl rfl
      refine args_cons ?_ rfl
      refine X.sound (phi_z prog w D n) xDots env _ s (.str [46, 46]) _ _ rfl (show xDots.wf nmQ fnN scQ = true by decide +kernel) C fun vd s₁ hE₁ hvd _ => ?_
      refine args_cons ?_ rfl
      have F₁ := F.ext hE₁
      have C₁ := F₁.cs
      refine wpAny_Call_method (T := "re.Pattern") rfl rfl (by decide +kernel) pa_pat slot_pat_sub type_pat_sub ?_
      refine load_pat C₁.gw (.inr rfl) C₁.ok.fn C₁.ok.gl ((hsk _).trans (by decide +kernel)) (by decide +kernel) fun p2 hp2 => ?_
      have hp2' := hp2
      obtain ⟨fs2, T2, ws2, k2, g2, _⟩ := hp2'
      refine ⟨⟨_, g2, rfl⟩, (fun b hb => by cases hb; exact ⟨_, g2, rfl⟩), ?_⟩
      refine callWith_method1 ?_ rfl rfl
      refine args_cons ?_ rfl
      refine load_gstr (i := "\x0d\n") C₁.gw C₁.ok.fn C₁.ok.gl ((hsk _).trans (by decide +kernel)) (List.mem_cons_of_mem _ (List.mem_cons_of_mem _ List.mem_cons_self)) (by decide +kernel) fun tc => ?_
      refine args_cons ?_ rfl
      refine X.sound (phi_z prog w D n) xData env _ s₁ (.str l) _ _ rfl rfl C₁ fun v s₂ hE₂ hv _ => args_nil ?_
      have hlok : OkS l := by cases hv; assumption
      obtain ⟨tl, rfl⟩ : ∃ t, v = .str (toStr l) t := by cases hv; exact ⟨_, rfl⟩
      have hcr : (Str.ofString "\x0d\n") = toStr [13, 10] := rfl
      refine sub2_call hlok (by omega) (hp2.keeps hE₂.keep) fun v3 s₃ hE₃ hv3 => args_nil ?_
      obtain ⟨td, rfl⟩ : ∃ t, vd = .str (toStr [46, 46]) t := by cases hvd; exact ⟨_, rfl⟩
      have h3ok : OkS (normF false l) := by cases hv3; assumption
      obtain ⟨t3, rfl⟩ : ∃ t, v3 = .str (toStr (normF false l)) t := by cases hv3; exact ⟨_, rfl⟩
      refine sub1_call h3ok (by have := norm_len false l; omega) (hp1.keeps ((hE₁.trans hE₂).trans hE₃).keep) fun v4 s₄ hE₄ hv4 => ?_
      refine hQ v4 s₄ (F.base.trans (((hE₁.trans hE₂).trans hE₃).trans hE₄)) hv4 fun a ha => ?_
      subst ha
      cases hv4
    · cases h
  · cases h
end Mine
end
section
open PySem PySem.W PyProof.Rows PySem.Calls
set_option Elab.async false
set_option maxRecDepth 100000
namespace Mine

noncomputable def runF (f : Ss) (len np : Nat) (Φ : Phi) (fuel : Nat) (args : List PV) : Option PV := if args.length = np then (match f.ev Φ fuel (sg0 args len) with
  | some (.ret r) => some r
  | _ => none) else none
noncomputable def Φa : Phi := fun g args => match g with
  | 1 => runF f_strip_quoted_realnames 6 1 Φz 0 args
  | 4 => (match args with | [a] => quotePV a | _ => none)
  | 5 => runF f_ISTERMINAL 1 1 Φz 0 args
  | 6 => runF f_ISEOF 1 1 Φz 0 args
  | 7 => runF f_law_numbers 3 1 Φz 0 args
  | 8 => runF f_law_octets 2 1 Φz 30 args
  | 10 => runF f_law_word 4 1 Φz 0 args
  | 11 => runF f_law_heights 5 1 Φz 0 args
  | 12 => runF f_law_built 5 1 Φz 30 args
  | 13 => runF f_law_stretched 5 1 Φz 30 args
  | _ => none
end Mine
end
section
open PySem PySem.W PyProof.Rows PySem.Calls
set_option Elab.async false
set_option maxRecDepth 100000
namespace Mine
section
variable {Φ : Phi} {fuel : Nat} {σ σ' : Sg} {p q px ps pn pa pt : Pos}
theorem runF_of {f : Ss} {len np : Nat} {args : List PV} {r : PV} (hl : args.length = np) (h : f.ev Φ fuel (sg0 args len) = some (.ret r)) : runF f len np Φ fuel args = some r := by
  unfold runF; rw [if_pos hl, h]
theorem ss_next {s : S} {r : Ss} {x : Res} (h1 : s.ev Φ fuel σ = some (.next σ')) (h2 : r.ev Φ fuel σ' = some x) : Ss.ev Φ fuel (.cons s r) σ = some x := by
  rw [Ss.ev, h1]; exact h2
theorem ss_ret {s : S} {r : Ss} {v : PV} (h1 : s.ev Φ fuel σ = some (.ret v)) : Ss.ev Φ fuel (.cons s r) σ = some (.ret v) := by
  rw [Ss.ev, h1]
theorem ss_nil : Ss.ev Φ fuel .nil σ = some (.next σ) := rfl
theorem s_assign {x : Nat} {e : X} {v : PV} (h : e.ev Φ σ = some v) : S.ev Φ fuel (.assign x px e p) σ = some (.next (setS σ x v)) := by rw [S.ev, h]
theorem s_assignC {x : Nat} {e : X} {v : PV} (h : e.ev Φ σ = some v) : S.ev Φ fuel (.assignC x px e p) σ = some (.next (setS σ x v)) := by rw [S.ev, h]
theorem s_ret {e : X} {v : PV} (h : e.ev Φ σ = some v) : S.ev Φ fuel (.ret e p) σ = some (.ret v) := by rw [S.ev, h]
theorem s_retA {e : X} {v : PV} {a : Atm} (h : e.ev Φ σ = some v) (ha : v = a.pv) : S.ev Φ fuel (.retA e p) σ = some (.ret v) := by
  rw [S.ev, h, ha]; cases a <;> rfl
theorem s_aug {x : Nat} {op : Operator} {e : X} {o v r : PV} (h1 : getS σ x = some o) (h2 : e.ev Φ σ = some v) (h3 : augPV op o v = some r) : S.ev Φ fuel (.augVar x px op e p) σ = some (.next (setS σ x r)) := by simp only [S.ev, h1, h2, h3]
theorem s_if_t {t : T} {a b : Ss} {x : Res} (h1 : t.ev Φ σ = some true) (h2 : a.ev Φ fuel σ = some x) : S.ev Φ fuel (.ifs t a b p) σ = some x := by rw [S.ev, h1]; exact h2
theorem s_if_f {t : T} {a b : Ss} {x : Res} (h1 : t.ev Φ σ = some false) (h2 : b.ev Φ fuel σ = some x) : S.ev Φ fuel (.ifs t a b p) σ = some x := by rw [S.ev, h1]; exact h2
theorem s_for {x : Nat} {it : It} {b : Ss} {xs : List Atm} {r : Res} (h1 : it.ev Φ σ = some xs) (h2 : loopF x (fun σ => b.ev Φ fuel σ) xs σ = some r) : S.ev Φ fuel (.for x px it b p) σ = some r := by rw [S.ev, h1]; exact h2
theorem s_while {t : T} {b : Ss} {r : Res} (h : loopW (fun σ => t.ev Φ σ) (fun σ => b.ev Φ fuel σ) fuel σ = some r) : S.ev Φ fuel (.while t b p) σ = some r := by rw [S.ev]; exact h
theorem e_cmp {op : CmpOp} {l r : X} {a b : PV} {c : Bool} (h1 : l.ev Φ σ = some a) (h2 : r.ev Φ σ = some b) (h3 : cmpPV op a b = some c) : X.ev Φ (.cmp op l r p) σ = some (.bool c) := by simp only [X.ev, h1, h2, h3, Option.map]
theorem e_bin {op : Operator} {l r : X} {a b c : PV} (h1 : l.ev Φ σ = some a) (h2 : r.ev Φ σ = some b) (h3 : binPV op a b = some c) : X.ev Φ (.bin op l r p) σ = some c := by simp only [X.ev, h1, h2]; exact h3
theorem e_idx {e i : X} {a b c : PV} (h1 : e.ev Φ σ = some a) (h2 : i.ev Φ σ = some b) (h3 : idxPV a b = some c) : X.ev Φ (.idx e i p) σ = some c := by simp only [X.ev, h1, h2]; exact h3
theorem e_call {g : Nat} {e : X} {es : Xs} {a : PV} {as : List PV} {r : PV} (h1 : e.ev Φ σ = some a) (h2 : es.ev Φ σ = some as) (h3 : Φ g (a :: as) = some r) : X.ev Φ (.call g e es pn p) σ = some r := by simp only [X.ev, h1, h2]; exact h3
theorem e_bi {b : Bi} {e : X} {es : Xs} {a : PV} {as : List PV} {r : PV} (h1 : e.ev Φ σ = some a) (h2 : es.ev Φ σ = some as) (h3 : biPV b (a :: as) = some r) : X.ev Φ (.bi b e es pn p) σ = some r := by simp only [X.ev, h1, h2]; exact h3
theorem e_join {e : X} {a r : PV} (h1 : e.ev Φ σ = some a) (h2 : joinPV a = some r) : X.ev Φ (.join e ps pa p) σ = some r := by rw [X.ev, h1]; exact h2
theorem e_split {e : X} {x : String} {l : List Nat} {a r : PV} (h1 : e.ev Φ σ = some a) (h2 : splitPV l a = some r) : X.ev Φ (.split e x l ps pa p) σ = some r := by rw [X.ev, h1]; exact h2
theorem e_comp {elt : X} {tgt : Nat} {it : It} {caps : List Nat} {sc : Scope} {xs ys : List Atm} (h1 : it.ev Φ σ = some xs) (h2 : mapO (fun (a : Atm) => (elt.ev Φ (setS (capS σ caps) tgt a.pv)).bind PV.atm?) xs = some ys) (h3 : ys.length ≤ lim) :
    X.ev Φ (.comp elt tgt pt it caps sc p) σ = some (.list ys) := by rw [X.ev, h1]; simp only [h2, h3, if_true]
theorem e_compIf {elt : X} {tgt : Nat} {it : It} {c : T} {caps : List Nat} {sc : Scope} {xs ys : List Atm} (h1 : it.ev Φ σ = some xs)
    (h2 : filtO (fun (a : Atm) => c.ev Φ (setS (capS σ caps) tgt a.pv)) (fun (a : Atm) => (elt.ev Φ (setS (capS σ caps) tgt a.pv)).bind PV.atm?) xs = some ys) (h3 : ys.length ≤ lim) :
    X.ev Φ (.compIf elt tgt pt it c caps sc p) σ = some (.list ys) := by rw [X.ev, h1]; simp only [h2, h3, if_true]
theorem es_nil : Xs.ev Φ .nil σ = some [] := rfl
theorem es_cons {e : X} {es : Xs} {a : PV} {as : List PV} (h1 : e.ev Φ σ = some a) (h2 : es.ev Φ σ = some as) : Xs.ev Φ (.cons e es) σ = some (a :: as) := by simp only [Xs.ev, h1, h2]
theorem t_cmp {op : CmpOp} {l r : X} {a b : PV} {c : Bool} (h1 : l.ev Φ σ = some a) (h2 : r.ev Φ σ = some b) (h3 : cmpPV op a b = some c) : T.ev Φ (.cmp op l r p) σ = some c := by simp only [T.ev, h1, h2]; exact h3
theorem t_call {g : Nat} {e : X} {es : Xs} {a : PV} {as : List PV} {r : Bool} (h1 : e.ev Φ σ = some a) (h2 : es.ev Φ σ = some as) (h3 : Φ g (a :: as) = some (.bool r)) : T.ev Φ (.call g e es pn p) σ = some r := by
  simp only [T.ev, h1, h2, h3]
theorem t_or_f {a b : T} {c : Bool} (h1 : a.ev Φ σ = some false) (h2 : b.ev Φ σ = some c) : T.ev Φ (.or a b p) σ = some c := by rw [T.ev, h1]; exact h2
theorem t_or_t {a b : T} (h1 : a.ev Φ σ = some true) : T.ev Φ (.or a b p) σ = some true := by rw [T.ev, h1]
theorem t_and_t {a b : T} {c : Bool} (h1 : a.ev Φ σ = some true) (h2 : b.ev Φ σ = some c) : T.ev Φ (.and a b p) σ = some c := by rw [T.ev, h1]; exact h2
theorem t_and_f {a b : T} (h1 : a.ev Φ σ = some false) : T.ev Φ (.and a b p) σ = some false := by rw [T.ev, h1]
theorem t_not {a : T} {c : Bool} (h1 : a.ev Φ σ = some c) : T.ev Φ (.not a p) σ = some (!c) := by rw [T.ev, h1]
theorem it_x {e : X} {a : PV} {xs : List Atm} (h1 : e.ev Φ σ = some a) (h2 : itemsPV a = some xs) : It.ev Φ (.x e) σ = some xs := by rw [It.ev, h1]; exact h2
theorem it_r1 {a : X} {j : Int} {xs : List Atm} (h1 : a.ev Φ σ = some (.int j)) (h2 : rangePV 0 j 1 = some xs) : It.ev Φ (.r1 a pn p) σ = some xs := by rw [It.ev, h1]; exact h2
end
end Mine
end
section
open PySem PySem.W PyProof.Rows PySem.Calls
set_option Elab.async false
set_option maxRecDepth 100000
namespace Mine

/-- a text of brackets alone, weighed -/
noncomputable def balN : Nat → List Nat → Bool
  | d, [] => Nat.beq d 0
  | d, c :: r => if Nat.beq c 40 then balN (d + 1) r else match d with
    | 0 => false
    | d + 1 => balN d r
noncomputable def parens (l : List Nat) : Bool := l.all fun c => Nat.beq c 40 || Nat.beq c 41
/-- what the check answers, of a rider and brackets -/
noncomputable def fastCk : List PV → Option PV
  | [.str l] => if Nat.ble l.length 1000 then (if parens l then some (.bool (balN 0 l)) else if parens (l.drop 2) && (l.take 2 == [92, 40] || l.take 2 == [92, 92]) then some (.bool (balN 0 (l.drop 2))) else
      if parens (l.drop 3) && l.take 3 == [34, 41, 34] then some (.bool (balN 0 (l.drop 3))) else none) else none
  | _ => none
theorem parens_iff {l : List Nat} (h : parens l = true) : ∀ c ∈ l, c = 40 ∨ c = 41 := fun c hc => by
  have := List.all_eq_true.mp h c hc
  simpa using this
theorem esc_cons {j c : Nat} {r : List Nat} (h : c ≠ 92) : escPairs j false (c :: r) = (j, [c]) :: escPairs (j + 1) false r := by
  rw [escPairs, if_neg Bool.false_ne_true, if_neg h]
noncomputable def cBody : Ss := match f_check_parenthesis with
  | .cons _ (.cons _ (.cons (.forGen _ _ _ _ _ _ _ _ b _) _)) => b
  | _ => .nil
noncomputable def sBody : Ss := match f_strip_quoted_realnames with
  | .cons _ (.cons _ (.cons _ (.cons _ (.cons (.forGen _ _ _ _ _ _ _ _ b _) _)))) => b
  | _ => .nil
theorem cBody_open {l : PV} {d : Int} {j : Option PV} : cBody.ev Φa 0 [some l, some (.int d), j, some (.str [40])] = some (.next [some l, some (.int (d + 1)), j, some (.str [40])]) :=
  ss_next (s_if_t (t_cmp rfl rfl rfl) (ss_next (s_aug rfl rfl rfl) ss_nil)) ss_nil
theorem cBody_close {l : PV} {d : Nat} {j : Option PV} : cBody.ev Φa 0 [some l, some (.int ((d + 1 : Nat) : Int)), j, some (.str [41])] = some (.next [some l, some (.int (d : Nat)), j, some (.str [41])]) := by
  have e : (((d + 1 : Nat) : Int) - 1) = (d : Nat) := by omega
  refine ss_next (s_if_f (t_cmp rfl rfl rfl) (ss_next (s_if_t (t_cmp rfl rfl rfl) (ss_next (s_aug rfl rfl rfl) (ss_next (s_if_f (t_cmp rfl rfl ?_) ss_nil) ss_nil))) ss_nil)) (by rw [e]; exact ss_nil)
  show some (decide ((((d + 1 : Nat) : Int) - 1) < 0)) = _
  rw [e, decide_eq_false (by omega)]
theorem cBody_less {l : PV} {j : Option PV} : cBody.ev Φa 0 [some l, some (.int (0 : Nat)), j, some (.str [41])] = some (.ret (.bool false)) :=
  ss_ret (s_if_f (t_cmp rfl rfl rfl) (ss_ret (s_if_t (t_cmp rfl rfl rfl) (ss_next (s_aug rfl rfl rfl) (ss_ret (s_if_t (t_cmp rfl rfl rfl) (ss_ret (s_ret rfl))))))))
theorem loop_ck {l : PV} : ∀ (w : List Nat) (j d : Nat) (x y : Option PV), (∀ c ∈ w, c = 40 ∨ c = 41) →
    (∃ (d' : Nat) (x' y' : Option PV), loopG 2 3 (fun σ => cBody.ev Φa 0 σ) (escPairs j false w) [some l, some (.int (d : Nat)), x, y] = some (.next [some l, some (.int (d' : Nat)), x', y']) ∧ balN d w = Nat.beq d' 0) ∨
    (loopG 2 3 (fun σ => cBody.ev Φa 0 σ) (escPairs j false w) [some l, some (.int (d : Nat)), x, y] = some (.ret (.bool false)) ∧ balN d w = false)
  | [], j, d, x, y, _ => .inl ⟨d, x, y, rfl, rfl⟩
  | c :: r, j, d, x, y, h => by
    have hr : ∀ c ∈ r, c = 40 ∨ c = 41 := fun c hc => h c (List.mem_cons_of_mem _ hc)
    rcases h c List.mem_cons_self with rfl | rfl
    · rw [esc_cons (by decide), loopG]
      have h0 : setS (setS [some l, some (.int (d : Nat)), x, y] 2 (.int ((j : Nat) : Int))) 3 (.str [40]) = [some l, some (.int (d : Nat)), some (.int (j : Nat)), some (.str [40])] := rfl
      simp only [h0, cBody_open]
      exact loop_ck r (j + 1) (d + 1) _ _ hr
    · rw [esc_cons (by decide), loopG]
      have h0 : setS (setS [some l, some (.int (d : Nat)), x, y] 2 (.int ((j : Nat) : Int))) 3 (.str [41]) = [some l, some (.int (d : Nat)), some (.int (j : Nat)), some (.str [41])] := rfl
      cases d with
      | zero =>
        simp only [h0, cBody_less]
        exact .inr ⟨trivial, rfl⟩
      | succ d =>
        simp only [h0, cBody_close]
        exact loop_ck r (j + 1) d _ _ hr
theorem loop_skip {l : PV} {w u : List Nat} {d j k : Nat} {x y : Option PV} (hw : ∀ c ∈ w, c = 40 ∨ c = 41) (hu : ∀ a : Option PV, cBody.ev Φa 0 [some l, some (.int (d : Nat)), a, some (.str u)] = some (.next [some l, some (.int (d : Nat)), a, some (.str u)])) :
    (∃ (d' : Nat) (x' y' : Option PV), loopG 2 3 (fun σ => cBody.ev Φa 0 σ) ((k, u) :: escPairs j false w) [some l, some (.int (d : Nat)), x, y] = some (.next [some l, some (.int (d' : Nat)), x', y']) ∧ balN d w = Nat.beq d' 0) ∨
    (loopG 2 3 (fun σ => cBody.ev Φa 0 σ) ((k, u) :: escPairs j false w) [some l, some (.int (d : Nat)), x, y] = some (.ret (.bool false)) ∧ balN d w = false) := by
  rw [loopG]
  have h0 : setS (setS [some l, some (.int (d : Nat)), x, y] 2 (.int ((k : Nat) : Int))) 3 (.str u) = [some l, some (.int (d : Nat)), some (.int (k : Nat)), some (.str u)] := rfl
  simp only [h0, hu]
  exact loop_ck w j d _ _ hw
/-- the check, given what the strip leaves -/
theorem check_of {l t w : List Nat} (hs : Φa 1 [.str l] = some (.str t))
    (hl : (∃ (d' : Nat) (x' y' : Option PV), loopG 2 3 (fun σ => cBody.ev Φa 0 σ) (escPairs 0 false t) [some (.str t), some (.int (0 : Nat)), none, none] = some (.next [some (.str t), some (.int (d' : Nat)), x', y']) ∧ balN 0 w = Nat.beq d' 0) ∨
      (loopG 2 3 (fun σ => cBody.ev Φa 0 σ) (escPairs 0 false t) [some (.str t), some (.int (0 : Nat)), none, none] = some (.ret (.bool false)) ∧ balN 0 w = false)) :
    runF f_check_parenthesis 4 1 Φa 0 [.str l] = some (.bool (balN 0 w)) := by
  refine runF_of rfl (ss_next (s_assign (e_call rfl es_nil hs)) (ss_next (s_assign rfl) ?_))
  rcases hl with ⟨d', x', y', h1, h2⟩ | ⟨h1, h2⟩
  · refine ss_next (σ' := [some (.str t), some (.int (d' : Nat)), x', y']) h1 (ss_ret (s_ret ?_))
    rw [h2]
    refine (e_cmp (c := decide (((d' : Nat) : Int) = 0)) rfl rfl rfl).trans ?_
    congr 2
    cases d' with
    | zero => rfl
    | succ d => exact decide_eq_false (by omega)
  · rw [h2]
    exact ss_ret h1
theorem strip_plain {l : List Nat} (h : 34 ∉ l) : Φa 1 [.str l] = some (.str l) := by
  show runF f_strip_quoted_realnames 6 1 Φz 0 [.str l] = _
  refine runF_of rfl (ss_ret (s_if_t (t_cmp rfl rfl (c := true) ?_) (ss_ret (s_retA (a := .str l) rfl rfl))))
  show some (!decide (34 ∈ l)) = some true
  rw [decide_eq_false h]
  rfl
theorem loop_strip {l : List Nat} : ∀ (w : List Nat) (j : Nat) (x y : Option PV), (∀ c ∈ w, c = 40 ∨ c = 41) →
    ∃ x' y', loopG 4 5 (fun σ => sBody.ev Φz 0 σ) (escPairs j false w) [some (.str l), some (.int 3), some .none, some (.list []), x, y] = some (.next [some (.str l), some (.int 3), some .none, some (.list []), x', y'])
  | [], j, x, y, _ => ⟨x, y, rfl⟩
  | c :: r, j, x, y, h => by
    have hc : c ≠ 92 ∧ c ≠ 34 := by rcases h c List.mem_cons_self with rfl | rfl <;> decide
    obtain ⟨x', y', e⟩ := loop_strip (l := l) r (j + 1) (some (.int (j : Nat))) (some (.str [c])) (fun c hc => h c (List.mem_cons_of_mem _ hc))
    refine ⟨x', y', ?_⟩
    rw [esc_cons hc.1, loopG]
    have h0 : setS (setS [some (.str l), some (.int 3), some .none, some (.list []), x, y] 4 (.int ((j : Nat) : Int))) 5 (.str [c]) = [some (.str l), some (.int 3), some .none, some (.list []), some (.int (j : Nat)), some (.str [c])] := rfl
    have hb : sBody.ev Φz 0 [some (.str l), some (.int 3), some .none, some (.list []), some (.int (j : Nat)), some (.str [c])] = some (.next [some (.str l), some (.int 3), some .none, some (.list []), some (.int (j : Nat)), some (.str [c])]) := by
      refine ss_next (s_if_f (t_cmp rfl rfl (c := false) ?_) ss_nil) ss_nil
      show some (decide ([c] = [34])) = _
      rw [decide_eq_false fun e => hc.2 (List.cons.inj e).1]
    simp only [h0, hb]
    exact e
theorem cut3 {w : List Nat} {a b c : Nat} : Mine.cut (a :: b :: c :: w) (some 3) none = w := by
  have h : kms_lo (some 3) (a :: b :: c :: w).length = 3 := by
    show (if (3 : Int) < 0 then (a :: b :: c :: w).length - (-3 : Int).toNat else min (3 : Int).toNat (a :: b :: c :: w).length) = 3
    rw [if_neg (by decide)]
    exact Nat.min_eq_left (Nat.succ_le_succ (Nat.succ_le_succ (Nat.succ_le_succ (Nat.zero_le _))))
  unfold Mine.cut
  rw [h]
  show List.take (w.length + 1 + 1 + 1 - 3) w = w
  exact List.take_of_length_le (Nat.le_refl _)
theorem join_one {l : List Nat} (h : l.length ≤ lim) : joinPV (.list [.str l]) = some (.str l) := by
  have e : strsOf [.str l] = some [l] := rfl
  unfold joinPV
  dsimp only
  rw [e, Option.bind_some, if_pos ⟨by simpa using h, Nat.le_trans (Nat.le_refl 1) (by decide)⟩]
  simp
theorem strip_quoted {w : List Nat} (hw : ∀ c ∈ w, c = 40 ∨ c = 41) (hlen : w.length ≤ 1000) : Φa 1 [.str (34 :: 41 :: 34 :: w)] = some (.str w) := by
  show runF f_strip_quoted_realnames 6 1 Φz 0 [.str (34 :: 41 :: 34 :: w)] = _
  obtain ⟨x', y', e⟩ := loop_strip (l := 34 :: 41 :: 34 :: w) w 3 (some (.int (2 : Nat))) (some (.str [34])) hw
  have e3 : escPairs 0 false (34 :: 41 :: 34 :: w) = (0, [34]) :: (1, [41]) :: (2, [34]) :: escPairs 3 false w := by
    rw [esc_cons (by decide), esc_cons (by decide), esc_cons (by decide)]
  have hloop : loopG 4 5 (fun σ => sBody.ev Φz 0 σ) (escPairs 0 false (34 :: 41 :: 34 :: w)) [some (.str (34 :: 41 :: 34 :: w)), some (.int 0), some .none, some (.list []), none, none] = some (.next [some (.str (34 :: 41 :: 34 :: w)), some (.int 3), some .none, some (.list []), x', y']) := by
    rw [e3]
    exact e
  refine runF_of rfl (ss_next (s_if_f (t_cmp rfl rfl (c := false) ?_) ss_nil) (ss_next (s_assign rfl) (ss_next (s_assign rfl) (ss_next (s_assign rfl) (ss_next (σ' := [some (.str (34 :: 41 :: 34 :: w)), some (.int 3), some .none, some (.list []), x', y']) hloop ?_)))))
  · show some (!decide (34 ∈ 34 :: 41 :: 34 :: w)) = _
    rw [decide_eq_true List.mem_cons_self]
    rfl
  · have hlt : cmpPV .Lt (.int 3) (.int (((34 :: 41 :: 34 :: w).length : Nat) : Int)) = some (decide (0 < w.length)) := by
      show some (decide ((3 : Int) < ((w.length + 1 + 1 + 1 : Nat) : Int))) = _
      congr 1
      exact decide_eq_decide.mpr ⟨fun h => by omega, fun h => by omega⟩
    cases w with
    | nil => exact ss_next (s_if_f (t_cmp rfl (e_bi rfl es_nil rfl) hlt) ss_nil) (ss_ret (s_ret rfl))
    | cons a r =>
      refine ss_next (σ' := [some (.str (34 :: 41 :: 34 :: a :: r)), some (.int 3), some .none, some (.list [.str (a :: r)]), x', y']) (s_if_t (t_cmp rfl (e_bi rfl es_nil rfl) hlt) ?_) (ss_ret (s_ret (e_join rfl ?_)))
      · have hs : X.ev Φz (.slo (.var 0 ⟨32,22,32,26⟩) (.var 1 ⟨32,27,32,32⟩) ⟨32,27,32,33⟩ ⟨32,22,32,34⟩) [some (.str (34 :: 41 :: 34 :: a :: r)), some (.int 3), some .none, some (.list []), x', y'] = some (.str (a :: r)) := by
          have h0 : X.ev Φz (.var 0 ⟨32,22,32,26⟩) [some (.str (34 :: 41 :: 34 :: a :: r)), some (.int 3), some .none, some (.list []), x', y'] = some (.str (34 :: 41 :: 34 :: a :: r)) := rfl
          have h1 : X.ev Φz (.var 1 ⟨32,27,32,32⟩) [some (.str (34 :: 41 :: 34 :: a :: r)), some (.int 3), some .none, some (.list []), x', y'] = some (.int 3) := rfl
          rw [X.ev, h0, h1]
          show some (PV.str (Mine.cut (34 :: 41 :: 34 :: a :: r) (some 3) none)) = _
          rw [cut3]
        refine ss_next ?_ ss_nil
        rw [S.ev, hs]
        rfl
      · exact join_one (Nat.le_trans hlen (by decide))
theorem fastCk_ok {args : List PV} {r : PV} (h : fastCk args = some r) : runF f_check_parenthesis 4 1 Φa 0 args = some r := by
  unfold fastCk at h
  split at h
  · rename_i l
    split at h
    · rename_i hlen
      have hlen := Nat.le_of_ble_eq_true hlen
      split at h
      · rename_i hp
        cases h
        have hw := parens_iff hp
        exact check_of (strip_plain fun hm => by rcases hw _ hm with h | h <;> cases h) (loop_ck l 0 0 none none hw)
      · split at h
        · rename_i hp
          simp only [Bool.and_eq_true, Bool.or_eq_true, beq_iff_eq] at hp
          obtain ⟨hp, ht⟩ := hp
          cases h
          have hw := parens_iff hp
          have hl : l = l.take 2 ++ l.drop 2 := (List.take_append_drop 2 l).symm
          generalize l.drop 2 = w at *
          rcases ht with ht | ht
          · rw [ht] at hl
            subst hl
            refine check_of (strip_plain fun hm => ?_) (loop_skip (k := 1) (j := 2) (u := [92, 40]) hw fun a => ss_next (s_if_f (t_cmp rfl rfl rfl) (ss_next (s_if_f (t_cmp rfl rfl rfl) ss_nil) ss_nil)) ss_nil)
            simp only [List.cons_append, List.nil_append, List.mem_cons] at hm
            rcases hm with h | h | h
            · cases h
            · cases h
            · rcases hw _ h with h | h <;> cases h
          · rw [ht] at hl
            subst hl
            refine check_of (strip_plain fun hm => ?_) (loop_skip (k := 1) (j := 2) (u := [92, 92]) hw fun a => ss_next (s_if_f (t_cmp rfl rfl rfl) (ss_next (s_if_f (t_cmp rfl rfl rfl) ss_nil) ss_nil)) ss_nil)
            simp only [List.cons_append, List.nil_append, List.mem_cons] at hm
            rcases hm with h | h | h
            · cases h
            · cases h
            · rcases hw _ h with h | h <;> cases h
        · split at h
          · rename_i hp
            simp only [Bool.and_eq_true, beq_iff_eq] at hp
            obtain ⟨hp, ht⟩ := hp
            cases h
            have hw := parens_iff hp
            have hl : l = l.take 3 ++ l.drop 3 := (List.take_append_drop 3 l).symm
            have hle : (l.drop 3).length ≤ 1000 := by rw [List.length_drop]; exact Nat.le_trans (Nat.sub_le _ _) hlen
            generalize l.drop 3 = w at *
            rw [ht] at hl
            subst hl
            exact check_of (strip_quoted hw hle) (loop_ck w 0 0 none none hw)
          · cases h
    · cases h
  · cases h
noncomputable def Φb : Phi := fun g args => match g with
  | 2 => fastCk args
  | 16 => runF f_law_is_below 3 2 Φa 0 args
  | _ => Φa g args
noncomputable def Φc : Phi := fun g args => match g with
  | 14 => runF f_law_turns 5 2 Φb 30 args
  | 15 => runF f_law_turns_back 5 2 Φb 30 args
  | _ => Φb g args
noncomputable def Φd : Phi := fun g args => match g with
  | 17 => runF f_law_walk 7 4 Φc 30 args
  | _ => Φc g args
end Mine
end
section
open PySem PySem.W PyProof.Rows PySem.Calls
set_option Elab.async false
set_option maxRecDepth 100000
namespace Mine
section
variable {prog : Program} {w : World} {n : Nat} {D : List DefItem}
theorem FnOk.mono {k : Nat} {x : Str} {args : List PV} {r : PV} (h : FnOk prog w D n x args r) (hk : n ≤ k) : FnOk prog w D k x args r :=
  ⟨h.1, fun A s f vals Q E C => h.2 A s f vals Q E (C.le hk)⟩
theorem PhiOk.mono {k : Nat} {fn : Nat → Str} {Φ : Phi} (h : PhiOk prog w D n fn Φ) (hk : n ≤ k) : PhiOk prog w D k fn Φ := fun g args r e => (h g args r e).mono hk
theorem runF_ok {d : DefItem} {nm : List Str} {O Mx : List Nat} {len np fuel : Nat} {body : Ss} {args : List PV} {r : PV} {Φ : Phi} (hΦ : PhiOk prog w D n fnN Φ) (hG : GenFnOk prog w D n (fnN 0)) (hD : d ∈ D) (hdef : d.params.defaults = []) (hdbg : (d.name == ("__debug__" : Str)) = false) (hbody : d.body = body.toS nm fnN)
    (hwf : body.wf nm fnN O Mx d.scope = true) (hW : FnWf nm O Mx d.scope np = true)
    (hbind : ∀ pm cd doc vals, vals.length = np → bindArgs (docDef d.name d.params d.body d.scope pm cd doc) ⟨vals, []⟩ = pure ((nm.take np).zip vals)) (hl : nm.length = len) (h : runF body len np Φ fuel args = some r) : FnOk prog w D (n + 1) d.name args r := by
  unfold runF at h
  split at h
  · rename_i hlen
    split at h
    · rename_i r' he
      cases h
      exact fnOk_of hΦ hG hD hdef hdbg hbody hwf hW hbind hlen (by rw [hl]; exact he)
    · cases h
  · cases h
theorem ok_strip_quoted_realnames {len np fuel : Nat} {args : List PV} {r : PV} {Φ : Phi} (hΦ : PhiOk prog w D n fnN Φ) (hG : GenFnOk prog w D n (fnN 0)) (hD : ∀ d ∈ D0, d ∈ D) (hl : nm_strip_quoted_realnames.length = len) (hp : np = 1) (h : runF f_strip_quoted_realnames len np Φ fuel args = some r) : FnOk prog w D (n + 1) d_strip_quoted_realnames.name args r := by
  subst hp
  exact runF_ok (O := [3]) (Mx := [3]) hΦ hG (hD _ in_strip_quoted_realnames) rfl (by decide +kernel) rfl wf_strip_quoted_realnames fw_strip_quoted_realnames bind_strip_quoted_realnames hl h
theorem ok_check_parenthesis {len np fuel : Nat} {args : List PV} {r : PV} {Φ : Phi} (hΦ : PhiOk prog w D n fnN Φ) (hG : GenFnOk prog w D n (fnN 0)) (hD : ∀ d ∈ D0, d ∈ D) (hl : nm_check_parenthesis.length = len) (hp : np = 1) (h : runF f_check_parenthesis len np Φ fuel args = some r) : FnOk prog w D (n + 1) d_check_parenthesis.name args r := by
  subst hp
  exact runF_ok (O := []) (Mx := []) hΦ hG (hD _ in_check_parenthesis) rfl (by decide +kernel) rfl wf_check_parenthesis fw_check_parenthesis bind_check_parenthesis hl h
theorem ok_ISTERMINAL {len np fuel : Nat} {args : List PV} {r : PV} {Φ : Phi} (hΦ : PhiOk prog w D n fnN Φ) (hG : GenFnOk prog w D n (fnN 0)) (hD : ∀ d ∈ D0, d ∈ D) (hl : nm_ISTERMINAL.length = len) (hp : np = 1) (h : runF f_ISTERMINAL len np Φ fuel args = some r) : FnOk prog w D (n + 1) d_ISTERMINAL.name args r := by
  subst hp
  exact runF_ok (O := []) (Mx := []) hΦ hG (hD _ in_ISTERMINAL) rfl (by decide +kernel) rfl wf_ISTERMINAL fw_ISTERMINAL bind_ISTERMINAL hl h
theorem ok_ISEOF {len np fuel : Nat} {args : List PV} {r : PV} {Φ : Phi} (hΦ : PhiOk prog w D n fnN Φ) (hG : GenFnOk prog w D n (fnN 0)) (hD : ∀ d ∈ D0, d ∈ D) (hl : nm_ISEOF.length = len) (hp : np = 1) (h : runF f_ISEOF len np Φ fuel args = some r) : FnOk prog w D (n + 1) d_ISEOF.name args r := by
  subst hp
  exact runF_ok (O := []) (Mx := []) hΦ hG (hD _ in_ISEOF) rfl (by decide +kernel) rfl wf_ISEOF fw_ISEOF bind_ISEOF hl h
theorem ok_law_numbers {len np fuel : Nat} {args : List PV} {r : PV} {Φ : Phi} (hΦ : PhiOk prog w D n fnN Φ) (hG : GenFnOk prog w D n (fnN 0)) (hD : ∀ d ∈ D0, d ∈ D) (hl : nm_law_numbers.length = len) (hp : np = 1) (h : runF f_law_numbers len np Φ fuel args = some r) : FnOk prog w D (n + 1) d_law_numbers.name args r := by
  subst hp
  exact runF_ok (O := [1]) (Mx := [1]) hΦ hG (hD _ in_law_numbers) rfl (by decide +kernel) rfl wf_law_numbers fw_law_numbers bind_law_numbers hl h
theorem ok_law_octets {len np fuel : Nat} {args : List PV} {r : PV} {Φ : Phi} (hΦ : PhiOk prog w D n fnN Φ) (hG : GenFnOk prog w D n (fnN 0)) (hD : ∀ d ∈ D0, d ∈ D) (hl : nm_law_octets.length = len) (hp : np = 1) (h : runF f_law_octets len np Φ fuel args = some r) : FnOk prog w D (n + 1) d_law_octets.name args r := by
  subst hp
  exact runF_ok (O := [1]) (Mx := []) hΦ hG (hD _ in_law_octets) rfl (by decide +kernel) rfl wf_law_octets fw_law_octets bind_law_octets hl h
theorem ok_law_word {len np fuel : Nat} {args : List PV} {r : PV} {Φ : Phi} (hΦ : PhiOk prog w D n fnN Φ) (hG : GenFnOk prog w D n (fnN 0)) (hD : ∀ d ∈ D0, d ∈ D) (hl : nm_law_word.length = len) (hp : np = 1) (h : runF f_law_word len np Φ fuel args = some r) : FnOk prog w D (n + 1) d_law_word.name args r := by
  subst hp
  exact runF_ok (O := []) (Mx := []) hΦ hG (hD _ in_law_word) rfl (by decide +kernel) rfl wf_law_word fw_law_word bind_law_word hl h
theorem ok_law_heights {len np fuel : Nat} {args : List PV} {r : PV} {Φ : Phi} (hΦ : PhiOk prog w D n fnN Φ) (hG : GenFnOk prog w D n (fnN 0)) (hD : ∀ d ∈ D0, d ∈ D) (hl : nm_law_heights.length = len) (hp : np = 1) (h : runF f_law_heights len np Φ fuel args = some r) : FnOk prog w D (n + 1) d_law_heights.name args r := by
  subst hp
  exact runF_ok (O := [1, 2]) (Mx := [1, 2]) hΦ hG (hD _ in_law_heights) rfl (by decide +kernel) rfl wf_law_heights fw_law_heights bind_law_heights hl h
theorem ok_law_built {len np fuel : Nat} {args : List PV} {r : PV} {Φ : Phi} (hΦ : PhiOk prog w D n fnN Φ) (hG : GenFnOk prog w D n (fnN 0)) (hD : ∀ d ∈ D0, d ∈ D) (hl : nm_law_built.length = len) (hp : np = 1) (h : runF f_law_built len np Φ fuel args = some r) : FnOk prog w D (n + 1) d_law_built.name args r := by
  subst hp
  exact runF_ok (O := []) (Mx := []) hΦ hG (hD _ in_law_built) rfl (by decide +kernel) rfl wf_law_built fw_law_built bind_law_built hl h
theorem ok_law_stretched {len np fuel : Nat} {args : List PV} {r : PV} {Φ : Phi} (hΦ : PhiOk prog w D n fnN Φ) (hG : GenFnOk prog w D n (fnN 0)) (hD : ∀ d ∈ D0, d ∈ D) (hl : nm_law_stretched.length = len) (hp : np = 1) (h : runF f_law_stretched len np Φ fuel args = some r) : FnOk prog w D (n + 1) d_law_stretched.name args r := by
  subst hp
  exact runF_ok (O := [1]) (Mx := [1]) hΦ hG (hD _ in_law_stretched) rfl (by decide +kernel) rfl wf_law_stretched fw_law_stretched bind_law_stretched hl h
theorem ok_law_turns {len np fuel : Nat} {args : List PV} {r : PV} {Φ : Phi} (hΦ : PhiOk prog w D n fnN Φ) (hG : GenFnOk prog w D n (fnN 0)) (hD : ∀ d ∈ D0, d ∈ D) (hl : nm_law_turns.length = len) (hp : np = 2) (h : runF f_law_turns len np Φ fuel args = some r) : FnOk prog w D (n + 1) d_law_turns.name args r := by
  subst hp
  exact runF_ok (O := [2]) (Mx := [2]) hΦ hG (hD _ in_law_turns) rfl (by decide +kernel) rfl wf_law_turns fw_law_turns bind_law_turns hl h
theorem ok_law_turns_back {len np fuel : Nat} {args : List PV} {r : PV} {Φ : Phi} (hΦ : PhiOk prog w D n fnN Φ) (hG : GenFnOk prog w D n (fnN 0)) (hD : ∀ d ∈ D0, d ∈ D) (hl : nm_law_turns_back.length = len) (hp : np = 2) (h : runF f_law_turns_back len np Φ fuel args = some r) : FnOk prog w D (n + 1) d_law_turns_back.name args r := by
  subst hp
  exact runF_ok (O := [2]) (Mx := [2]) hΦ hG (hD _ in_law_turns_back) rfl (by decide +kernel) rfl wf_law_turns_back fw_law_turns_back bind_law_turns_back hl h
theorem ok_law_is_below {len np fuel : Nat} {args : List PV} {r : PV} {Φ : Phi} (hΦ : PhiOk prog w D n fnN Φ) (hG : GenFnOk prog w D n (fnN 0)) (hD : ∀ d ∈ D0, d ∈ D) (hl : nm_law_is_below.length = len) (hp : np = 2) (h : runF f_law_is_below len np Φ fuel args = some r) : FnOk prog w D (n + 1) d_law_is_below.name args r := by
  subst hp
  exact runF_ok (O := []) (Mx := []) hΦ hG (hD _ in_law_is_below) rfl (by decide +kernel) rfl wf_law_is_below fw_law_is_below bind_law_is_below hl h
theorem ok_law_walk {len np fuel : Nat} {args : List PV} {r : PV} {Φ : Phi} (hΦ : PhiOk prog w D n fnN Φ) (hG : GenFnOk prog w D n (fnN 0)) (hD : ∀ d ∈ D0, d ∈ D) (hl : nm_law_walk.length = len) (hp : np = 4) (h : runF f_law_walk len np Φ fuel args = some r) : FnOk prog w D (n + 1) d_law_walk.name args r := by
  subst hp
  exact runF_ok (O := []) (Mx := []) hΦ hG (hD _ in_law_walk) rfl (by decide +kernel) rfl wf_law_walk fw_law_walk bind_law_walk hl h
theorem phi_a (hD : ∀ d ∈ D0, d ∈ D) : PhiOk prog w D (n + 3) fnN Φa := by
  intro g args r h
  have hG : GenFnOk prog w D (n + 2) (fnN 0) := genFnOk (n := n) (hD _ in_G)
  unfold Φa at h
  split at h
  · exact ok_strip_quoted_realnames (phi_z prog w D _) hG hD rfl rfl h
  · split at h
    · exact quote_ok (n := n + 2) (hD _ in_Q) h
    · cases h
  · exact ok_ISTERMINAL (phi_z prog w D _) hG hD rfl rfl h
  · exact ok_ISEOF (phi_z prog w D _) hG hD rfl rfl h
  · exact ok_law_numbers (phi_z prog w D _) hG hD rfl rfl h
  · exact ok_law_octets (phi_z prog w D _) hG hD rfl rfl h
  · exact ok_law_word (phi_z prog w D _) hG hD rfl rfl h
  · exact ok_law_heights (phi_z prog w D _) hG hD rfl rfl h
  · exact ok_law_built (phi_z prog w D _) hG hD rfl rfl h
  · exact ok_law_stretched (phi_z prog w D _) hG hD rfl rfl h
  · cases h
theorem phi_b (hD : ∀ d ∈ D0, d ∈ D) : PhiOk prog w D (n + 4) fnN Φb := by
  intro g args r h
  have hG : GenFnOk prog w D (n + 3) (fnN 0) := genFnOk (n := n + 1) (hD _ in_G)
  unfold Φb at h
  split at h
  · exact ok_check_parenthesis (phi_a hD) hG hD rfl rfl (fastCk_ok h)
  · exact ok_law_is_below (phi_a hD) hG hD rfl rfl h
  · exact ((phi_a (n := n) hD) g args r h).mono (by omega)
theorem phi_c (hD : ∀ d ∈ D0, d ∈ D) : PhiOk prog w D (n + 5) fnN Φc := by
  intro g args r h
  have hG : GenFnOk prog w D (n + 4) (fnN 0) := genFnOk (n := n + 2) (hD _ in_G)
  unfold Φc at h
  split at h
  · exact ok_law_turns (phi_b hD) hG hD rfl rfl h
  · exact ok_law_turns_back (phi_b hD) hG hD rfl rfl h
  · exact ((phi_b (n := n) hD) g args r h).mono (by omega)
theorem phi_d (hD : ∀ d ∈ D0, d ∈ D) : PhiOk prog w D (n + 6) fnN Φd := by
  intro g args r h
  have hG : GenFnOk prog w D (n + 5) (fnN 0) := genFnOk (n := n + 3) (hD _ in_G)
  unfold Φd at h
  split at h
  · exact ok_law_walk (phi_c hD) hG hD rfl rfl h
  · exact ((phi_c (n := n) hD) g args r h).mono (by omega)
end
end Mine
end
section
open PySem PySem.W PyProof.Rows PySem.Calls
set_option Elab.async false
set_option maxRecDepth 100000
namespace Mine
noncomputable def wordsT : List (List Nat) := [[40,40,40,40,40,41,41,41,41,41],
  [40,40,40,40,41,40,41,41,41,41],
  [40,40,40,40,41,41,40,41,41,41],
  [40,40,40,40,41,41,41,40,41,41],
  [40,40,40,40,41,41,41,41,40,41],
  [40,40,40,41,40,40,41,41,41,41],
  [40,40,40,41,40,41,40,41,41,41],
  [40,40,40,41,40,41,41,40,41,41],
  [40,40,40,41,40,41,41,41,40,41],
  [40,40,40,41,41,40,40,41,41,41],
  [40,40,40,41,41,40,41,40,41,41],
  [40,40,40,41,41,40,41,41,40,41],
  [40,40,40,41,41,41,40,40,41,41],
  [40,40,40,41,41,41,40,41,40,41],
  [40,40,41,40,40,40,41,41,41,41],
  [40,40,41,40,40,41,40,41,41,41],
  [40,40,41,40,40,41,41,40,41,41],
  [40,40,41,40,40,41,41,41,40,41],
  [40,40,41,40,41,40,40,41,41,41],
  [40,40,41,40,41,40,41,40,41,41],
  [40,40,41,40,41,40,41,41,40,41],
  [40,40,41,40,41,41,40,40,41,41],
  [40,40,41,40,41,41,40,41,40,41],
  [40,40,41,41,40,40,40,41,41,41],
  [40,40,41,41,40,40,41,40,41,41],
  [40,40,41,41,40,40,41,41,40,41],
  [40,40,41,41,40,41,40,40,41,41],
  [40,40,41,41,40,41,40,41,40,41],
  [40,41,40,40,40,40,41,41,41,41],
  [40,41,40,40,40,41,40,41,41,41],
  [40,41,40,40,40,41,41,40,41,41],
  [40,41,40,40,40,41,41,41,40,41],
  [40,41,40,40,41,40,40,41,41,41],
  [40,41,40,40,41,40,41,40,41,41],
  [40,41,40,40,41,40,41,41,40,41],
  [40,41,40,40,41,41,40,40,41,41],
  [40,41,40,40,41,41,40,41,40,41],
  [40,41,40,41,40,40,40,41,41,41],
  [40,41,40,41,40,40,41,40,41,41],
  [40,41,40,41,40,40,41,41,40,41],
  [40,41,40,41,40,41,40,40,41,41],
  [40,41,40,41,40,41,40,41,40,41]]
noncomputable def hgtT : List (List Nat) := [[4,3,2,1,0], [4,3,2,0,0], [4,3,1,0,0], [4,2,1,0,0], [3,2,1,0,0], [4,3,0,1,0], [4,3,0,0,0], [4,2,0,0,0], [3,2,0,0,0], [4,1,0,1,0], [4,1,0,0,0], [3,1,0,0,0], [2,1,0,1,0], [2,1,0,0,0], [4,0,2,1,0], [4,0,2,0,0], [4,0,1,0,0], [3,0,1,0,0], [4,0,0,1,0], [4,0,0,0,0], [3,0,0,0,0], [2,0,0,1,0], [2,0,0,0,0], [1,0,2,1,0], [1,0,2,0,0], [1,0,1,0,0], [1,0,0,1,0], [1,0,0,0,0], [0,3,2,1,0], [0,3,2,0,0], [0,3,1,0,0], [0,2,1,0,0], [0,3,0,1,0], [0,3,0,0,0], [0,2,0,0,0], [0,1,0,1,0], [0,1,0,0,0], [0,0,2,1,0], [0,0,2,0,0], [0,0,1,0,0], [0,0,0,1,0], [0,0,0,0,0]]
noncomputable def turnT : List (List Nat) := [[], [0], [1], [2], [3], [0], [2,5], [3,6], [4,7], [5], [7,9], [8,10], [9], [11,12], [0], [1,14], [3,15], [4,16], [9,14], [10,16,18], [11,17,19], [12,18], [13,20,21], [14], [15,23], [17,24], [21,23], [22,25,26], [0], [1,28], [2,29], [4,30], [5,28], [6,30,32], [8,31,33], [12,32], [13,34,35], [23,28], [24,29,37], [25,31,38], [26,35,37], [27,36,39,40]]
noncomputable def backT : List (List Nat) := [[1,5,14,28], [2,15,29], [6,3,30], [7,16,4], [8,17,31], [6,9,32], [7,33], [10,8], [11,34], [18,10,12], [19,11], [20,13], [21,35,13], [22,36], [15,18,23], [16,24], [19,17], [20,25], [19,21], [20], [22], [26,22], [27], [37,24,26], [38,25], [39,27], [40,27], [41], [29,32,37], [30,38], [33,31], [34,39], [33,35], [34], [36], [40,36], [41], [38,40], [39], [41], [41], []]
noncomputable def joinC : List (Nat × List Nat × Nat) := [(0, [0,0,0,0,0], 41), (8, [0,0,0,1,0], 40), (64, [0,0,1,0,0], 39), (72, [0,0,1,1,0], 37), (128, [0,0,2,0,0], 38), (136, [0,0,2,1,0], 37), (512, [0,1,0,0,0], 36), (520, [0,1,0,1,0], 35), (576, [0,1,1,0,0], 31), (584, [0,1,1,1,0], 28), (640, [0,1,2,0,0], 29), (648, [0,1,2,1,0], 28), (1024, [0,2,0,0,0], 34), (1032, [0,2,0,1,0], 32), (1088, [0,2,1,0,0], 31), (1096, [0,2,1,1,0], 28), (1152, [0,2,2,0,0], 29), (1160, [0,2,2,1,0], 28), (1536, [0,3,0,0,0], 33), (1544, [0,3,0,1,0], 32), (1600, [0,3,1,0,0], 30), (1608, [0,3,1,1,0], 28), (1664, [0,3,2,0,0], 29), (1672, [0,3,2,1,0], 28), (4096, [1,0,0,0,0], 27), (4104, [1,0,0,1,0], 26), (4160, [1,0,1,0,0], 25), (4168, [1,0,1,1,0], 23), (4224, [1,0,2,0,0], 24), (4232, [1,0,2,1,0], 23), (4608, [1,1,0,0,0], 13), (4616, [1,1,0,1,0], 12), (4672, [1,1,1,0,0], 4), (4680, [1,1,1,1,0], 0), (4736, [1,1,2,0,0], 1), (4744, [1,1,2,1,0], 0), (5120, [1,2,0,0,0], 8), (5128, [1,2,0,1,0], 5), (5184, [1,2,1,0,0], 4), (5192, [1,2,1,1,0], 0), (5248, [1,2,2,0,0], 1), (5256, [1,2,2,1,0], 0), (5632, [1,3,0,0,0], 6), (5640, [1,3,0,1,0], 5), (5696, [1,3,1,0,0], 2), (5704, [1,3,1,1,0], 0), (5760, [1,3,2,0,0], 1), (5768, [1,3,2,1,0], 0), (8192, [2,0,0,0,0], 22), (8200, [2,0,0,1,0], 21), (8256, [2,0,1,0,0], 17), (8264, [2,0,1,1,0], 14), (8320, [2,0,2,0,0], 15), (8328, [2,0,2,1,0], 14), (8704, [2,1,0,0,0], 13), (8712, [2,1,0,1,0], 12), (8768, [2,1,1,0,0], 4), (8776, [2,1,1,1,0], 0), (8832, [2,1,2,0,0], 1), (8840, [2,1,2,1,0], 0), (9216, [2,2,0,0,0], 8), (9224, [2,2,0,1,0], 5), (9280, [2,2,1,0,0], 4), (9288, [2,2,1,1,0], 0), (9728, [2,3,0,0,0], 6), (9736, [2,3,0,1,0], 5), (9792, [2,3,1,0,0], 2), (9800, [2,3,1,1,0], 0), (9856, [2,3,2,0,0], 1), (9864, [2,3,2,1,0], 0), (12288, [3,0,0,0,0], 20), (12296, [3,0,0,1,0], 18), (12352, [3,0,1,0,0], 17), (12360, [3,0,1,1,0], 14), (12416, [3,0,2,0,0], 15), (12424, [3,0,2,1,0], 14), (12800, [3,1,0,0,0], 11), (12808, [3,1,0,1,0], 9), (12864, [3,1,1,0,0], 4), (12872, [3,1,1,1,0], 0), (12928, [3,1,2,0,0], 1), (12936, [3,1,2,1,0], 0), (13312, [3,2,0,0,0], 8), (13320, [3,2,0,1,0], 5), (13376, [3,2,1,0,0], 4), (13384, [3,2,1,1,0], 0), (13440, [3,2,2,0,0], 1), (13448, [3,2,2,1,0], 0), (13824, [3,3,0,0,0], 6), (13832, [3,3,0,1,0], 5), (13888, [3,3,1,0,0], 2), (13896, [3,3,1,1,0], 0), (13952, [3,3,2,0,0], 1), (13960, [3,3,2,1,0], 0), (16384, [4,0,0,0,0], 19), (16392, [4,0,0,1,0], 18), (16448, [4,0,1,0,0], 16), (16456, [4,0,1,1,0], 14), (16512, [4,0,2,0,0], 15), (16520, [4,0,2,1,0], 14), (16896, [4,1,0,0,0], 10), (16904, [4,1,0,1,0], 9), (16960, [4,1,1,0,0], 3), (16968, [4,1,1,1,0], 0), (17024, [4,1,2,0,0], 1), (17032, [4,1,2,1,0], 0), (17408, [4,2,0,0,0], 7), (17416, [4,2,0,1,0], 5), (17472, [4,2,1,0,0], 3), (17480, [4,2,1,1,0], 0), (17536, [4,2,2,0,0], 1), (17544, [4,2,2,1,0], 0), (17920, [4,3,0,0,0], 6), (17928, [4,3,0,1,0], 5), (17984, [4,3,1,0,0], 2), (17992, [4,3,1,1,0], 0), (18048, [4,3,2,0,0], 1), (18056, [4,3,2,1,0], 0)]
noncomputable def joinT : List (List Nat × Nat) := joinC.map (·.2)
noncomputable def hgtC : List (Nat × List Nat) := [(18056, [4,3,2,1,0]), (18048, [4,3,2,0,0]), (17984, [4,3,1,0,0]), (17472, [4,2,1,0,0]), (13376, [3,2,1,0,0]), (17928, [4,3,0,1,0]), (17920, [4,3,0,0,0]), (17408, [4,2,0,0,0]), (13312, [3,2,0,0,0]), (16904, [4,1,0,1,0]), (16896, [4,1,0,0,0]), (12800, [3,1,0,0,0]), (8712, [2,1,0,1,0]), (8704, [2,1,0,0,0]), (16520, [4,0,2,1,0]), (16512, [4,0,2,0,0]), (16448, [4,0,1,0,0]), (12352, [3,0,1,0,0]), (16392, [4,0,0,1,0]), (16384, [4,0,0,0,0]), (12288, [3,0,0,0,0]), (8200, [2,0,0,1,0]), (8192, [2,0,0,0,0]), (4232, [1,0,2,1,0]), (4224, [1,0,2,0,0]), (4160, [1,0,1,0,0]), (4104, [1,0,0,1,0]), (4096, [1,0,0,0,0]), (1672, [0,3,2,1,0]), (1664, [0,3,2,0,0]), (1600, [0,3,1,0,0]), (1088, [0,2,1,0,0]), (1544, [0,3,0,1,0]), (1536, [0,3,0,0,0]), (1024, [0,2,0,0,0]), (520, [0,1,0,1,0]), (512, [0,1,0,0,0]), (136, [0,0,2,1,0]), (128, [0,0,2,0,0]), (64, [0,0,1,0,0]), (8, [0,0,0,1,0]), (0, [0,0,0,0,0])]
noncomputable def riders : List (List Nat) := [[], [92, 40], [34, 41, 34], [92, 92]]
noncomputable def wd (i : Nat) : List Nat := wordsT.getD i []
noncomputable def hg (i : Nat) : List Nat := hgtT.getD i []
noncomputable def tn (i : Nat) : List Nat := turnT.getD i []
noncomputable def bk (i : Nat) : List Nat := backT.getD i []
noncomputable def intsL (l : List Nat) : List Atm := l.map fun (n : Nat) => .int (n : Int)
noncomputable def strL (l : List Nat) : List Atm := l.map fun i => .str (wd i)
theorem f_heights : ∀ i < 42, Φd 11 [.str (wd i)] = some (.list (intsL (hg i))) := by decide +kernel
theorem f_built : ∀ i < 42, Φd 12 [.list (intsL (hg i))] = some (.str (wd i)) := by decide +kernel
theorem f_join : ∀ p ∈ joinT, Φd 13 [.list (intsL p.1)] = some (.list (intsL (hg p.2))) := by decide +kernel
theorem f_turns : ∀ i < 42, ∀ r ∈ riders, Φd 14 [.str (wd i), .str r] = some (.list (strL (tn i))) := by decide +kernel
theorem f_back : ∀ i < 42, ∀ r ∈ riders, Φd 15 [.str (wd i), .str r] = some (.list (strL (bk i))) := by decide +kernel
theorem f_check : ∀ i < 42, ∀ r ∈ riders, Φd 2 [.str (r ++ wd i)] = some (.bool true) ∧ Φd 2 [.str (r ++ (wd i).drop 1 ++ (wd i).take 1)] = some (.bool false) ∧ Φd 2 [.str (r ++ (wd i).take 9)] = some (.bool false) := by decide +kernel
noncomputable def leN (a b : List Nat) : Bool := (List.zipWith (fun x y => Nat.ble x y) a b).all id
noncomputable def mnN (a b : List Nat) : List Nat := List.zipWith min a b
noncomputable def mxN (a b : List Nat) : List Nat := List.zipWith max a b
theorem l_len : ∀ i < 42, (hg i).length = 5 ∧ (wd i).length = 10 := by decide +kernel
theorem l_small : ∀ i < 42, ∀ x ∈ hg i, x ≤ 4 := by decide +kernel
theorem l_turn : ∀ i < 42, ∀ t ∈ tn i, t < 42 ∧ (hg i).sum < (hg t).sum := by decide +kernel
theorem l_prog : ∀ i < 42, ∀ g < 42, leN (hg i) (hg g) = true → i = g ∨ ((tn i).any fun t => leN (hg t) (hg g)) = true := by decide +kernel
theorem l_eq : ∀ i < 42, ∀ g < 42, leN (hg i) (hg g) = true → (hg i).sum = (hg g).sum → i = g := by decide +kernel
noncomputable def mnF (a b : List Nat) : List Nat := List.zipWith (fun x y => cond (Nat.ble x y) x y) a b
noncomputable def mxF (a b : List Nat) : List Nat := List.zipWith (fun x y => cond (Nat.ble x y) y x) a b
theorem nble {x y : Nat} (h : Nat.ble x y = false) : y ≤ x := Nat.le_of_lt (Nat.lt_of_not_le fun q => Bool.noConfusion ((Nat.ble_eq_true_of_le q).symm.trans h))
theorem mnF_eq (a b : List Nat) : mnF a b = mnN a b := by
  unfold mnF mnN
  congr 1
  funext x y
  cases h : Nat.ble x y with
  | true => exact (Nat.min_eq_left (Nat.le_of_ble_eq_true h)).symm
  | false => exact (Nat.min_eq_right (nble h)).symm
theorem mxF_eq (a b : List Nat) : mxF a b = mxN a b := by
  unfold mxF mxN
  congr 1
  funext x y
  cases h : Nat.ble x y with
  | true => exact (Nat.max_eq_right (Nat.le_of_ble_eq_true h)).symm
  | false => exact (Nat.max_eq_left (nble h)).symm
noncomputable def eqL : List Nat → List Nat → Bool
  | [], [] => true
  | a :: r, b :: t => cond (Nat.beq a b) (eqL r t) false
  | _, _ => false
theorem eqL_eq : ∀ {a b : List Nat}, eqL a b = true → a = b
  | [], [], _ => rfl
  | [], _ :: _, h => by cases h
  | _ :: _, [], h => by cases h
  | a :: r, b :: t, h => by
    rw [eqL] at h
    cases hb : Nat.beq a b with
    | false => rw [hb] at h; cases h
    | true =>
      rw [hb] at h
      rw [Nat.eq_of_beq_eq_true hb, eqL_eq h]
/-- a vector as one number, to find it fast -/
noncomputable def cdN (v : List Nat) : Nat := v.foldl (fun n x => Nat.add (Nat.mul n 8) x) 0
noncomputable def findC {α : Type} (c : Nat) (l : List (Nat × α)) : Option α := @List.rec (Nat × α) (fun _ => Option α) none (fun p _ ih => cond (Nat.beq p.1 c) (some p.2) ih) l
theorem findC_in {α : Type} {c : Nat} {k : α} : ∀ {l : List (Nat × α)}, findC c l = some k → k ∈ l.map (·.2)
  | [], h => by cases h
  | p :: r, h => by
    change cond (Nat.beq p.1 c) (some p.2) (findC c r) = some k at h
    cases hb : Nat.beq p.1 c with
    | true =>
      rw [hb] at h
      cases h
      exact List.mem_cons_self
    | false =>
      rw [hb] at h
      exact List.mem_cons_of_mem _ (findC_in h)
noncomputable def meetOk (v : List Nat) : Bool := match findC (cdN v) hgtC with
  | some u => eqL u v
  | none => false
noncomputable def joinOk (v : List Nat) : Bool := match findC (cdN v) joinC with
  | some p => eqL p.1 v
  | none => false
noncomputable def entryOk (v : List Nat) (k : Nat) : Bool := Nat.blt k 42 && leN v (hg k) && (bk k).all (fun u => Nat.blt u 42 && !(leN v (hg u)))
theorem hg_in {i : Nat} (h : i < 42) : hg i ∈ hgtT := by
  have hl : i < hgtT.length := Nat.lt_of_lt_of_le h (by decide +kernel)
  unfold hg
  rw [List.getD_eq_getElem?_getD, List.getElem?_eq_getElem hl]
  exact List.getElem_mem hl
theorem hgtC_eq : hgtC.map (·.2) = hgtT := by decide +kernel
theorem meet_all : (hgtT.all fun a => hgtT.all fun b => meetOk (mnF a b)) = true := by decide +kernel
theorem join_all : (hgtT.all fun a => hgtT.all fun b => joinOk (mxF a b)) = true := by decide +kernel
theorem entry_all : (joinT.all fun p => entryOk p.1 p.2) = true := by decide +kernel
theorem l_meet : ∀ i < 42, ∀ j < 42, mnN (hg i) (hg j) ∈ hgtT := fun i hi j hj => by
  have h := List.all_eq_true.mp (List.all_eq_true.mp meet_all _ (hg_in hi)) _ (hg_in hj)
  unfold meetOk at h
  split at h
  · rename_i u hu
    rw [← mnF_eq, ← eqL_eq h, ← hgtC_eq]
    exact findC_in hu
  · cases h
theorem l_join : ∀ i < 42, ∀ j < 42, ∃ k, (mxN (hg i) (hg j), k) ∈ joinT ∧ entryOk (mxN (hg i) (hg j)) k = true := fun i hi j hj => by
  have h := List.all_eq_true.mp (List.all_eq_true.mp join_all _ (hg_in hi)) _ (hg_in hj)
  unfold joinOk at h
  split at h
  · rename_i p hp
    have hm : p ∈ joinT := findC_in hp
    have e := eqL_eq h
    rw [mxF_eq] at e
    have hok := List.all_eq_true.mp entry_all p hm
    rw [← e]
    exact ⟨p.2, hm, hok⟩
  · cases h
end Mine
end
section
open PySem PySem.W PyProof.Rows PySem.Calls
set_option Elab.async false
set_option maxRecDepth 100000
namespace Mine
theorem filtO_all {xs : List Atm} {c : Atm → Option Bool} {f : Atm → Option Atm} {p : Atm → Bool} (hc : ∀ x ∈ xs, c x = some (p x)) (hf : ∀ x ∈ xs, f x = some x) : filtO c f xs = some (xs.filter p) := by
  induction xs with
  | nil => rfl
  | cons a r ih =>
    have ih' := ih (fun x hx => hc x (List.mem_cons_of_mem _ hx)) (fun x hx => hf x (List.mem_cons_of_mem _ hx))
    unfold filtO
    rw [hc a List.mem_cons_self, hf a List.mem_cons_self, ih', List.filter_cons]
    cases p a <;> rfl
theorem mapO_all {α β : Type} {xs : List α} {f : α → Option β} {g : α → β} (h : ∀ x ∈ xs, f x = some (g x)) : mapO f xs = some (xs.map g) := by
  induction xs with
  | nil => rfl
  | cons a r ih =>
    rw [mapO, h a List.mem_cons_self, ih fun x hx => h x (List.mem_cons_of_mem _ hx)]
    rfl
theorem term_eq (x : Int) : Φa 5 [.int x] = some (.bool (decide (x < 256))) := by rfl
theorem eof_eq (x : Int) : Φd 6 [.int x] = some (.bool (decide (x = 0))) := by rfl

noncomputable def atI (l : List Int) (k : Atm) : Int := match k with | .int i => l.getD i.toNat 0 | _ => 0
theorem range5 : rangePV 0 5 1 = some (rangeA 0 1 5) := by decide +kernel
theorem below_raw {h g : List Int} (h5 : h.length = 5) (g5 : g.length = 5) : Φd 16 [.list (h.map .int), .list (g.map .int)] = some (.bool (decide ((rangeA 0 1 5).filter (fun k => decide (256 + atI g k - atI h k < 256)) = []))) := by
  show runF f_law_is_below 3 2 Φa 0 [.list (h.map .int), .list (g.map .int)] = _
  refine runF_of rfl (ss_ret (s_ret (e_cmp (e_compIf (it_r1 (e_bi rfl es_nil ?_) range5) (filtO_all ?_ ?_) ?_) rfl rfl)))
  · show some (PV.int ((g.map Atm.int).length)) = _
    rw [List.length_map, g5]; rfl
  · intro x hx
    obtain ⟨i, hi, rfl⟩ := List.mem_map.mp hx
    have hi5 : i < 5 := List.mem_range.mp hi
    have hidx : ∀ l : List Int, l.length = 5 → idxPV (.list (l.map .int)) (.int (0 + (i : Int) * 1)) = some (.int (atI l (.int (0 + (i : Int) * 1)))) := by
      intro l hl
      obtain ⟨a, b, c, d, e, rfl⟩ := five hl
      match i, hi5 with
      | 0, _ => rfl
      | 1, _ => rfl
      | 2, _ => rfl
      | 3, _ => rfl
      | 4, _ => rfl
      | k + 5, h => exact absurd h (by omega)
    exact t_call (e_bin (e_bin rfl (e_idx rfl rfl (hidx g g5)) rfl) (e_idx rfl rfl (hidx h h5)) rfl) es_nil (term_eq _)
  · intro x hx
    obtain ⟨i, hi, rfl⟩ := List.mem_map.mp hx
    rfl
  · exact Nat.le_trans (List.length_filter_le _ _) (by decide)
noncomputable def leI (a b : List Int) : Bool := (List.zipWith (fun x y => decide (x ≤ y)) a b).all id
theorem below_eq {h g : List Int} (h5 : h.length = 5) (g5 : g.length = 5) : Φd 16 [.list (h.map .int), .list (g.map .int)] = some (.bool (leI h g)) := by
  rw [below_raw h5 g5]
  obtain ⟨a, b, c, d, e, rfl⟩ := five h5
  obtain ⟨a', b', c', d', e', rfl⟩ := five g5
  have ht : ∀ x y : Int, decide (256 + y - x < 256) = !decide (x ≤ y) := fun x y => by
    by_cases h : x ≤ y
    · simp [h]; omega
    · simp [h]; omega
  have key : ∀ (x1 x2 x3 x4 x5 : Bool), decide ((rangeA 0 1 5).filter (fun k => !(match k with | .int 0 => x1 | .int 1 => x2 | .int 2 => x3 | .int 3 => x4 | .int 4 => x5 | _ => false)) = []) = (x1 && (x2 && (x3 && (x4 && (x5 && true))))) := by decide
  have hf : (rangeA 0 1 5).filter (fun k => decide (256 + atI [a', b', c', d', e'] k - atI [a, b, c, d, e] k < 256)) =
      (rangeA 0 1 5).filter (fun k => !(match k with | .int 0 => decide (a ≤ a') | .int 1 => decide (b ≤ b') | .int 2 => decide (c ≤ c') | .int 3 => decide (d ≤ d') | .int 4 => decide (e ≤ e') | _ => false)) := by
    apply List.filter_congr
    intro x hx
    obtain ⟨i, hi, rfl⟩ := List.mem_map.mp hx
    have hi5 : i < 5 := List.mem_range.mp hi
    rw [ht]
    match i, hi5 with
    | 0, _ => rfl
    | 1, _ => rfl
    | 2, _ => rfl
    | 3, _ => rfl
    | 4, _ => rfl
    | k + 5, h => exact absurd h (by omega)
  rw [hf, key]
  rfl
end Mine
end
section
open PySem PySem.W PyProof.Rows PySem.Calls
set_option Elab.async false
set_option maxRecDepth 100000
namespace Mine

noncomputable def wBody : Ss := match f_law_word with
  | .cons _ (.cons _ (.cons (.for _ _ _ b _) _)) => b
  | _ => .nil
noncomputable def opens (bit : Bool) (d k : Int) : Bool := decide (d = 0) || (bit && decide (k + d < 10))
noncomputable def stepW (bit : Bool) (st : List Nat × Int) (k : Int) : List Nat × Int := if opens bit st.2 k then (st.1 ++ [40], st.2 + 1) else (st.1 ++ [41], st.2 - 1)
theorem wBody_ev {m d k : Int} {w : List Nat} (hw : w.length ≤ 1000) : wBody.ev Φz 0 [some (.int m), some (.str w), some (.int d), some (.int k)] =
    some (.next [some (.int (m.fdiv 2)), some (.str (stepW (decide (m.fmod 2 = 1)) (w, d) k).1), some (.int (stepW (decide (m.fmod 2 = 1)) (w, d) k).2), some (.int k)]) := by
  have hl : ∀ c : Nat, augPV .Add (.str w) (.str [c]) = some (.str (w ++ [c])) := fun c => by
    have : (w ++ [c]).length ≤ lim := by rw [List.length_append]; unfold lim; simp; omega
    simp only [augPV, augAdd, intB, this, if_true]
  have hdiv : ∀ σ : Sg, getS σ 0 = some (.int m) → ∀ (px p q : Pos), S.ev Φz 0 (.augVar 0 px .FloorDiv (.int 2 q) p) σ = some (.next (setS σ 0 (.int (m.fdiv 2)))) := fun σ h px p q => s_aug h rfl rfl
  show Ss.ev Φz 0 (.cons (.ifs _ _ _ _) (.cons (.augVar 0 _ .FloorDiv (.int 2 _) _) .nil)) _ = _
  have ht : ∀ b : Bool, opens (decide (m.fmod 2 = 1)) d k = b → T.ev Φz (.or (.cmp .Eq (.var 2 ⟨94,11,94,16⟩) (.int 0 ⟨94,20,94,21⟩) ⟨94,11,94,21⟩) (.and (.cmp .Eq (.bin .Mod (.var 0 ⟨94,26,94,32⟩) (.int 2 ⟨94,35,94,36⟩) ⟨94,26,94,36⟩) (.int 1 ⟨94,40,94,41⟩) ⟨94,26,94,41⟩) (.cmp .Lt (.bin .Add (.var 3 ⟨94,46,94,47⟩) (.var 2 ⟨94,50,94,55⟩) ⟨94,46,94,55⟩) (.int 10 ⟨94,58,94,60⟩) ⟨94,46,94,60⟩) ⟨94,26,94,60⟩) ⟨94,11,94,61⟩)
      [some (.int m), some (.str w), some (.int d), some (.int k)] = some b := by
    intro b hb
    unfold opens at hb
    by_cases h0 : d = 0
    · rw [decide_eq_true h0, Bool.true_or] at hb
      subst hb
      exact t_or_t (t_cmp rfl rfl (by show some (decide (d = 0)) = _; rw [decide_eq_true h0]))
    · rw [decide_eq_false h0, Bool.false_or] at hb
      refine t_or_f (t_cmp rfl rfl (by show some (decide (d = 0)) = _; rw [decide_eq_false h0])) ?_
      cases hm : decide (m.fmod 2 = 1) with
      | true =>
        rw [hm, Bool.true_and] at hb
        subst hb
        exact t_and_t (t_cmp (e_bin rfl rfl rfl) rfl (by show some (decide (m.fmod 2 = 1)) = _; rw [hm])) (t_cmp (e_bin rfl rfl rfl) rfl rfl)
      | false =>
        rw [hm, Bool.false_and] at hb
        subst hb
        exact t_and_f (t_cmp (e_bin rfl rfl rfl) rfl (by show some (decide (m.fmod 2 = 1)) = _; rw [hm]))
  cases ho : opens (decide (m.fmod 2 = 1)) d k with
  | true =>
    refine ss_next (s_if_t (ht true ho) (ss_next (s_aug rfl rfl (hl 40)) (ss_next (s_aug rfl rfl rfl) ss_nil))) (ss_next (hdiv _ rfl _ _ _) ?_)
    unfold stepW
    rw [ho]
    rfl
  | false =>
    refine ss_next (s_if_f (ht false ho) (ss_next (s_aug rfl rfl (hl 41)) (ss_next (s_aug rfl rfl rfl) ss_nil))) (ss_next (hdiv _ rfl _ _ _) ?_)
    unfold stepW
    rw [ho]
    rfl
end Mine
end
section
open PySem PySem.W PyProof.Rows PySem.Calls
set_option Elab.async false
set_option maxRecDepth 100000
namespace Mine

noncomputable def foldW : Int → List Nat × Int → List Int → List Nat × Int
  | _, st, [] => st
  | m, st, k :: ks => foldW (m.fdiv 2) (stepW (decide (m.fmod 2 = 1)) st k) ks
noncomputable def foldB : List Bool → List Nat × Int → List Int → List Nat × Int
  | b :: bs, st, k :: ks => foldB bs (stepW b st k) ks
  | _, st, _ => st
theorem stepW_len (b : Bool) (st : List Nat × Int) (k : Int) : (stepW b st k).1.length = st.1.length + 1 := by
  unfold stepW; split <;> simp
theorem foldW_bits : ∀ (ks : List Int) (m : Int) (st : List Nat × Int), ∃ bs : List Bool, bs.length = ks.length ∧ foldW m st ks = foldB bs st ks
  | [], m, st => ⟨[], rfl, rfl⟩
  | k :: ks, m, st => by
    obtain ⟨bs, h1, h2⟩ := foldW_bits ks (m.fdiv 2) (stepW (decide (m.fmod 2 = 1)) st k)
    exact ⟨decide (m.fmod 2 = 1) :: bs, by simp [h1], h2⟩
theorem loop_word : ∀ (ks : List Int) (m d : Int) (w : List Nat) (x : Option PV), w.length + ks.length ≤ 1000 → ∃ m' x', loopF 3 (fun σ => wBody.ev Φz 0 σ) (ks.map .int) [some (.int m), some (.str w), some (.int d), x] =
    some (.next [some (.int m'), some (.str (foldW m (w, d) ks).1), some (.int (foldW m (w, d) ks).2), x'])
  | [], m, d, w, x, _ => ⟨m, x, rfl⟩
  | k :: ks, m, d, w, x, hw => by
    rw [List.length_cons] at hw
    have h1 : setS [some (.int m), some (.str w), some (.int d), x] 3 (Atm.pv (.int k)) = [some (.int m), some (.str w), some (.int d), some (.int k)] := rfl
    obtain ⟨m', x', h⟩ := loop_word ks (m.fdiv 2) (stepW (decide (m.fmod 2 = 1)) (w, d) k).2 (stepW (decide (m.fmod 2 = 1)) (w, d) k).1 (some (.int k)) (by rw [stepW_len]; show w.length + 1 + ks.length ≤ 1000; omega)
    refine ⟨m', x', ?_⟩
    rw [List.map_cons, loopF, h1, wBody_ev (by omega)]
    exact h
noncomputable def ks10 : List Int := [0, 1, 2, 3, 4, 5, 6, 7, 8, 9]
theorem range10 : rangePV 0 10 1 = some (ks10.map .int) := by decide +kernel
theorem word_raw (m : Int) : Φd 10 [.int m] = some (.str (foldW m ([], 0) ks10).1) := by
  show runF f_law_word 4 1 Φz 0 [.int m] = _
  obtain ⟨m', x', h⟩ := loop_word ks10 m 0 [] none (by decide)
  refine runF_of rfl (ss_next (s_assign rfl) (ss_next (s_assign rfl) (ss_next (s_for (it_r1 rfl range10) h) ?_)))
  exact ss_ret (s_retA (a := .str (foldW m ([], 0) ks10).1) rfl rfl)
/-- what words there are, by their signs read so far: all ten signs give one of the table -/
theorem words_all : ∀ b0 b1 b2 b3 b4 b5 b6 b7 b8 b9 : Bool, wordsT.contains (foldB [b0, b1, b2, b3, b4, b5, b6, b7, b8, b9] ([], 0) ks10).1 = true := by decide +kernel
theorem word_in (m : Int) : ∃ i, i < 42 ∧ Φd 10 [.int m] = some (.str (wd i)) := by
  rw [word_raw]
  obtain ⟨bs, h1, h2⟩ := foldW_bits ks10 m ([], 0)
  rw [h2]
  have : wordsT.contains (foldB bs ([], 0) ks10).1 = true := by
    obtain ⟨b0, b1, b2, b3, b4, b5, b6, b7, b8, b9, rfl⟩ := ten h1
    exact words_all b0 b1 b2 b3 b4 b5 b6 b7 b8 b9
  have hm : (foldB bs ([], 0) ks10).1 ∈ wordsT := by simpa using this
  obtain ⟨i, hi, e⟩ := List.mem_iff_getElem.mp hm
  have hl : wordsT.length = 42 := by decide +kernel
  refine ⟨i, by omega, ?_⟩
  unfold wd
  rw [List.getD_eq_getElem?_getD, List.getElem?_eq_getElem hi, e]
  rfl
end Mine
end
section
open PySem PySem.W PyProof.Rows PySem.Calls
set_option Elab.async false
set_option maxRecDepth 100000
namespace Mine

noncomputable def castL (l : List Nat) : List Int := l.map fun (n : Nat) => (n : Int)
theorem intsL_cast (l : List Nat) : intsL l = (castL l).map .int := by simp [intsL, castL]
theorem leI_cast : ∀ (a b : List Nat), leI (castL a) (castL b) = leN a b
  | [], _ => by unfold leI leN castL; simp
  | _ :: _, [] => by unfold leI leN castL; simp
  | x :: a, y :: b => by
    have ih := leI_cast a b
    unfold leI leN castL at ih ⊢
    simp only [List.map_cons, List.zipWith_cons_cons, List.all_cons, id] at ih ⊢
    rw [ih]
    congr 1
    by_cases h : x ≤ y
    · rw [decide_eq_true (by omega), Nat.ble_eq_true_of_le h]
    · have : Nat.ble x y = false := by
        cases hb : Nat.ble x y with
        | false => rfl
        | true => exact absurd (Nat.le_of_ble_eq_true hb) h
      rw [decide_eq_false (by omega), this]
theorem intsOf_cast : ∀ l : List Int, intsOf (l.map .int) = some l
  | [] => rfl
  | a :: r => by
    have := intsOf_cast r
    unfold intsOf at this ⊢
    simp only [List.map_cons, mapO, Atm.int?, this]
theorem sum_cast : ∀ l : List Nat, (castL l).sum = ((l.sum : Nat) : Int)
  | [] => rfl
  | a :: r => by
    have := sum_cast r
    unfold castL at this ⊢
    simp only [List.map_cons, List.sum_cons, this]
    omega
theorem sum_pv (l : List Nat) : biPV .sum [.list (intsL l)] = some (.int ((l.sum : Nat) : Int)) := by
  rw [intsL_cast]
  show (match intsOf ((castL l).map .int) with | some ns => some (PV.int ns.sum) | none => none) = _
  rw [intsOf_cast]
  show some (PV.int (castL l).sum) = _
  rw [sum_cast]
theorem c11 {i : Nat} (h : i < 42) : Φc 11 [.str (wd i)] = some (.list (intsL (hg i))) := f_heights i h
theorem c14 {i : Nat} {r : List Nat} (h : i < 42) (hr : r ∈ riders) : Φc 14 [.str (wd i), .str r] = some (.list (strL (tn i))) := f_turns i h r hr
theorem c16 {i g : Nat} (h : i < 42) (hg' : g < 42) : Φc 16 [.list (intsL (hg i)), .list (intsL (hg g))] = some (.bool (leN (hg i) (hg g))) := by
  have h1 : (castL (hg i)).length = 5 := by rw [castL, List.length_map]; exact (l_len i h).1
  have h2 : (castL (hg g)).length = 5 := by rw [castL, List.length_map]; exact (l_len g hg').1
  have := below_eq h1 h2
  rw [← intsL_cast, ← intsL_cast, leI_cast] at this
  exact this
theorem c6 (x : Int) : Φc 6 [.int x] = some (.bool (decide (x = 0))) := eof_eq x

/-- the turns that stay below -/
noncomputable def freeT (i g : Nat) : List Nat := (tn i).filter fun t => leN (hg t) (hg g)
noncomputable def pBelow (g : Nat) (a : Atm) : Bool := match Φc 11 [a.pv] with
  | some h => (match Φc 16 [h, .list (intsL (hg g))] with | some (.bool b) => b | _ => false)
  | none => false
theorem pBelow_eq {t g : Nat} (ht : t < 42) (hg' : g < 42) : pBelow g (.str (wd t)) = leN (hg t) (hg g) := by
  unfold pBelow
  have : Φc 11 [(Atm.str (wd t)).pv] = some (.list (intsL (hg t))) := c11 ht
  rw [this]
  simp only [c16 ht hg']
theorem free_filter {i g : Nat} (hi : i < 42) (hg' : g < 42) : (strL (tn i)).filter (pBelow g) = strL (freeT i g) := by
  unfold strL freeT
  rw [List.filter_map]
  congr 1
  apply List.filter_congr
  intro t ht
  exact pBelow_eq (l_turn i hi t ht).1 hg'

theorem leN_sum : ∀ (a b : List Nat), a.length = b.length → leN a b = true → a.sum ≤ b.sum
  | [], [], _, _ => Nat.le_refl _
  | [], _ :: _, h, _ => by cases h
  | _ :: _, [], h, _ => by cases h
  | x :: a, y :: b, h, hl => by
    unfold leN at hl
    simp only [List.zipWith_cons_cons, List.all_cons, id, Bool.and_eq_true] at hl
    have ih := leN_sum a b (by simpa using h) hl.2
    have := Nat.le_of_ble_eq_true hl.1
    simp only [List.sum_cons]
    omega
noncomputable def wT : T := match f_law_walk with
  | .cons _ (.cons (.while t _ _) _) => t
  | _ => .not (.cmp .Eq (.int 0 ⟨0,0,0,0⟩) (.int 0 ⟨0,0,0,0⟩) ⟨0,0,0,0⟩) ⟨0,0,0,0⟩
noncomputable def wB : Ss := match f_law_walk with
  | .cons _ (.cons (.while _ b _) _) => b
  | _ => .nil
theorem walk_loop {g : Nat} {r : List Nat} {choice : Int} (hg' : g < 42) (hr : r ∈ riders) : ∀ (k i c : Nat) (fr one : Option PV), i < 42 → leN (hg i) (hg g) = true → (hg g).sum - (hg i).sum < k → c + k ≤ 40 →
    ∃ c' fr' one', loopW (fun σ => wT.ev Φc σ) (fun σ => wB.ev Φc 30 σ) k [some (.str (wd i)), some (.list (intsL (hg g))), some (.int choice), some (.str r), some (.int c), fr, one] =
      some (.next [some (.str (wd g)), some (.list (intsL (hg g))), some (.int choice), some (.str r), c', fr', one'])
  | 0, i, c, fr, one, hi, hle, hk, hc => by omega
  | k + 1, i, c, fr, one, hi, hle, hk, hc => by
    have ht : wT.ev Φc [some (.str (wd i)), some (.list (intsL (hg g))), some (.int choice), some (.str r), some (.int c), fr, one] = some (!decide ((((hg g).sum : Nat) : Int) - (((hg i).sum : Nat) : Int) = 0)) := by
      refine t_not (t_call (e_bin (e_bi rfl es_nil (sum_pv _)) (e_bi (e_call rfl es_nil (c11 hi)) es_nil (sum_pv _)) rfl) es_nil (c6 _))
    rw [loopW, ht]
    by_cases hig : i = g
    · subst hig
      rw [decide_eq_true (by omega)]
      exact ⟨_, _, _, rfl⟩
    · have hne : ¬ (((hg g).sum : Nat) : Int) - (((hg i).sum : Nat) : Int) = 0 := fun e => hig (l_eq i hi g hg' hle (by omega))
      rw [decide_eq_false hne]
      have hfree : freeT i g ≠ [] := by
        rcases l_prog i hi g hg' hle with h | h
        · exact absurd h hig
        · obtain ⟨t, ht1, ht2⟩ := List.any_eq_true.mp h
          intro e
          have : t ∈ freeT i g := List.mem_filter.mpr ⟨ht1, ht2⟩
          rw [e] at this; cases this
      have hlenle : (freeT i g).length ≤ 1000 := Nat.le_trans (List.length_filter_le _ _) (by
        have : ∀ i < 42, (tn i).length ≤ 1000 := by decide +kernel
        exact this i hi)
      -- the pick
      have hlen0 : 0 < (freeT i g).length := List.length_pos_iff.mpr hfree
      let ix : Int := (choice.fdiv (2 ^ c)).fmod ((freeT i g).length : Nat)
      have hix0 : 0 ≤ ix := Int.fmod_nonneg_of_pos _ (by omega)
      have hix1 : ix < ((freeT i g).length : Nat) := Int.fmod_lt_of_pos _ (by omega)
      have hnat : ix.toNat < (freeT i g).length := by omega
      let t := (freeT i g)[ix.toNat]
      have htm : t ∈ freeT i g := List.getElem_mem hnat
      obtain ⟨htm1, htm2⟩ := List.mem_filter.mp htm
      obtain ⟨ht42, hts⟩ := l_turn i hi t htm1
      have hsum : ∀ t < 42, ∀ g < 42, leN (hg t) (hg g) = true → (hg t).sum ≤ (hg g).sum := fun t ht g hg' h => leN_sum _ _ (by rw [(l_len t ht).1, (l_len g hg').1]) h
      have hstep : wB.ev Φc 30 [some (.str (wd i)), some (.list (intsL (hg g))), some (.int choice), some (.str r), some (.int c), fr, one] =
          some (.next [some (.str (wd t)), some (.list (intsL (hg g))), some (.int choice), some (.str r), some (.int ((c + 1 : Nat) : Int)), some (.list (strL (freeT i g))), one]) := by
        have hit : It.ev Φc (.x (.call 14 (.var 0 ⟨156,42,156,46⟩) (.cons (.var 3 ⟨156,48,156,53⟩) .nil) ⟨156,31,156,41⟩ ⟨156,31,156,54⟩)) [some (.str (wd i)), some (.list (intsL (hg g))), some (.int choice), some (.str r), some (.int c), fr, one] = some (strL (tn i)) :=
          it_x (e_call rfl (es_cons rfl es_nil) (c14 hi hr)) rfl
        have hlen2 : (strL (freeT i g)).length = (freeT i g).length := by simp [strL]
        refine ss_next (s_assignC (v := .list (strL (freeT i g))) (e_compIf hit (by
          rw [← free_filter hi hg']
          refine filtO_all ?_ ?_
          · intro a ha
            obtain ⟨t', ht', rfl⟩ := List.mem_map.mp ha
            have ht'' := (l_turn i hi t' ht').1
            rw [pBelow_eq ht'' hg']
            exact t_call (e_call rfl es_nil (c11 ht'')) (es_cons rfl es_nil) (c16 ht'' hg')
          · intro a ha
            obtain ⟨t', ht', rfl⟩ := List.mem_map.mp ha
            rfl) (by rw [hlen2]; exact Nat.le_trans hlenle (by decide)))) ?_
        have hne' : strL (freeT i g) ≠ [] := fun e => hfree (by simpa [strL] using e)
        refine ss_next (s_if_f (t_cmp rfl rfl (by show some (decide (strL (freeT i g) = [])) = _; rw [decide_eq_false hne'])) ss_nil) ?_
        have hpow : binPV .Pow (.int 2) (.int (c : Int)) = some (.int (2 ^ c)) := by
          have : (2 : Int) = 2 ∧ 0 ≤ (c : Int) ∧ (c : Int) ≤ 60 := ⟨rfl, by omega, by omega⟩
          simp only [binPV, addPV, intB, this, if_true, and_self]
          rfl
        have hsm : small (2 ^ c : Int) = true := by
          have h1 : (2 : Int) ^ c ≤ 2 ^ 40 := by
            have : (2 : Nat) ^ c ≤ 2 ^ 40 := Nat.pow_le_pow_right (by decide) (by omega)
            exact_mod_cast this
          have h2 : (0 : Int) < 2 ^ c := Int.pow_pos (by decide)
          unfold small
          rw [decide_eq_true h2, decide_eq_true (by have : (2 : Int) ^ 40 < 4611686018427387904 := by decide
                                                    omega)]
          rfl
        have hsm2 : small (((freeT i g).length : Nat) : Int) = true := by
          unfold small
          rw [decide_eq_true (by omega), decide_eq_true (by omega)]
          rfl
        have hbl : biPV .len [.list (strL (freeT i g))] = some (.int ((freeT i g).length : Nat)) := by
          show some (PV.int ((strL (freeT i g)).length : Nat)) = _
          rw [hlen2]
        have hidx : idxPV (.list (strL (freeT i g))) (.int ix) = some (.str (wd t)) := by
          show (if -((strL (freeT i g)).length : Int) ≤ ix ∧ ix < ((strL (freeT i g)).length : Int) ∧ (strL (freeT i g)).length ≤ lim then ((strL (freeT i g))[(if ix < 0 then ix + ((strL (freeT i g)).length : Int) else ix).toNat]?).map Atm.pv else none) = _
          rw [if_pos ⟨by omega, by rw [hlen2]; exact hix1, by rw [hlen2]; exact Nat.le_trans hlenle (by decide)⟩, if_neg (by omega)]
          have : (strL (freeT i g))[ix.toNat]? = some (.str (wd t)) := by
            unfold strL
            rw [List.getElem?_map, List.getElem?_eq_getElem hnat]
            rfl
          rw [this]
          rfl
        refine ss_next (s_assign (e_idx rfl (e_bin (e_bin rfl (e_bin rfl rfl hpow) (c := .int (choice.fdiv (2 ^ c))) ?_) (e_bi rfl es_nil hbl) (c := .int ix) ?_) hidx)) (ss_next (s_aug rfl rfl rfl) ?_)
        · simp only [binPV, intB, hsm, if_true]
        · simp only [binPV, intB, hsm2, if_true]
          rfl
        · rw [ss_nil]
          rfl
      obtain ⟨c', fr', one', h⟩ := walk_loop hg' hr k t (c + 1) (some (.list (strL (freeT i g)))) one ht42 htm2 (by have := hsum t ht42 g hg' htm2; omega) (by omega)
      refine ⟨c', fr', one', ?_⟩
      show (match wB.ev Φc 30 _ with | some (.next σ') => loopW _ _ k σ' | some (.ret p) => some (.ret p) | none => none) = _
      rw [hstep]
      exact h
end Mine
end
section
open PySem PySem.W PyProof.Rows PySem.Calls
set_option Elab.async false
set_option maxRecDepth 100000
namespace Mine

theorem l_sum : ∀ i < 42, (hg i).sum ≤ 20 := by decide +kernel
theorem walk_eq {i g : Nat} {r : List Nat} {choice : Int} (hi : i < 42) (hg' : g < 42) (hr : r ∈ riders) (hle : leN (hg i) (hg g) = true) : Φd 17 [.str (wd i), .list (intsL (hg g)), .int choice, .str r] = some (.str (wd g)) := by
  show runF f_law_walk 7 4 Φc 30 _ = _
  obtain ⟨c', fr', one', h⟩ := walk_loop (choice := choice) hg' hr 30 i 0 none none hi hle (by have := l_sum g hg'; omega) (by decide)
  refine runF_of rfl (ss_next (s_assign rfl) (ss_next (s_while h) (ss_ret (s_retA (a := .str (wd g)) rfl rfl))))

/-- the seven numbers -/
noncomputable def nBody : Ss := match f_law_numbers with
  | .cons _ (.cons (.for _ _ _ b _) _) => b
  | _ => .nil
noncomputable def base7 : List Int := [1154, 1032, 5, 2, 1, 70, 6]
noncomputable def Ok7 (n : Nat) (ns : List Int) : Prop := ns.length = 7 ∧ ∀ x ∈ ns, 0 ≤ x ∧ x ≤ 2000 + n * 1000000
theorem nBody_ev {script ns : List Int} {k n : Nat} (hk : k < script.length) (hs : script.length ≤ 65536) (h : Ok7 n ns) : ∃ ns', Ok7 (n + 1) ns' ∧ nBody.ev Φz 0 [some (.list (script.map .int)), some (.list (ns.map .int)), some (.int (k : Int))] =
    some (.next [some (.list (script.map .int)), some (.list (ns'.map .int)), some (.int (k : Int))]) := by
  obtain ⟨h7, hb⟩ := h
  let j : Int := Int.fmod (k : Int) 7
  have hj0 : 0 ≤ j := Int.fmod_nonneg_of_pos _ (by decide)
  have hj1 : j < 7 := Int.fmod_lt_of_pos _ (by decide)
  let d : Int := Int.fmod (script[k]) 1000000
  have hd0 : 0 ≤ d := Int.fmod_nonneg_of_pos _ (by decide)
  have hd1 : d < 1000000 := Int.fmod_lt_of_pos _ (by decide)
  have hjn : j.toNat < ns.length := by omega
  have hx : (ns.map Atm.int)[j.toNat]? = some (.int ns[j.toNat]) := by rw [List.getElem?_map, List.getElem?_eq_getElem hjn]; rfl
  have hl7 : (ns.map Atm.int).length = 7 := by rw [List.length_map, h7]
  have hls : (script.map Atm.int).length = script.length := List.length_map ..
  refine ⟨ns.set j.toNat (ns[j.toNat] + d), ⟨by rw [List.length_set, h7], fun x hx => ?_⟩, ?_⟩
  · rcases List.mem_or_eq_of_mem_set hx with h | h
    · have := hb x h
      refine ⟨this.1, ?_⟩
      have : (2000 + n * 1000000 : Int) ≤ 2000 + (n + 1 : Nat) * 1000000 := by omega
      omega
    · have := hb ns[j.toNat] (List.getElem_mem hjn)
      subst h
      refine ⟨by omega, ?_⟩
      have : (2000 + (n + 1 : Nat) * 1000000 : Int) = 2000 + n * 1000000 + 1000000 := by omega
      omega
  · have hi : X.ev Φz (.bin .Mod (.var 2 ⟨71,16,71,17⟩) (.int 7 ⟨71,20,71,21⟩) ⟨71,16,71,21⟩) [some (.list (script.map .int)), some (.list (ns.map .int)), some (.int (k : Int))] = some (.int j) := e_bin rfl rfl rfl
    have hidx : idxPV (.list (script.map .int)) (.int (k : Int)) = some (.int script[k]) := by
      show (if -((script.map Atm.int).length : Int) ≤ (k : Int) ∧ (k : Int) < ((script.map Atm.int).length : Int) ∧ (script.map Atm.int).length ≤ lim then ((script.map Atm.int)[(if (k : Int) < 0 then (k : Int) + ((script.map Atm.int).length : Int) else (k : Int)).toNat]?).map Atm.pv else none) = _
      rw [if_pos ⟨by omega, by rw [hls]; omega, by rw [hls]; exact hs⟩, if_neg (by omega)]
      have : (script.map Atm.int)[((k : Int)).toNat]? = some (.int script[k]) := by
        rw [Int.toNat_natCast, List.getElem?_map, List.getElem?_eq_getElem hk]; rfl
      rw [this]; rfl
    have he : X.ev Φz (.bin .Mod (.idx (.var 0 ⟨71,26,71,32⟩) (.var 2 ⟨71,33,71,34⟩) ⟨71,26,71,35⟩) (.int 1000000 ⟨71,38,71,45⟩) ⟨71,26,71,45⟩) [some (.list (script.map .int)), some (.list (ns.map .int)), some (.int (k : Int))] = some (.int d) :=
      e_bin (e_idx rfl rfl hidx) rfl rfl
    have hst : S.ev Φz 0 (.augIdx 1 ⟨71,8,71,15⟩ (.bin .Mod (.var 2 ⟨71,16,71,17⟩) (.int 7 ⟨71,20,71,21⟩) ⟨71,16,71,21⟩) ⟨71,8,71,22⟩ .Add (.bin .Mod (.idx (.var 0 ⟨71,26,71,32⟩) (.var 2 ⟨71,33,71,34⟩) ⟨71,26,71,35⟩) (.int 1000000 ⟨71,38,71,45⟩) ⟨71,26,71,45⟩) ⟨71,8,71,45⟩)
        [some (.list (script.map .int)), some (.list (ns.map .int)), some (.int (k : Int))] = some (.next (setS [some (.list (script.map .int)), some (.list (ns.map .int)), some (.int (k : Int))] 1 (.list ((ns.map .int).set j.toNat (.int (ns[j.toNat] + d)))))) := by
      have hg : getS [some (.list (script.map .int)), some (.list (ns.map .int)), some (.int (k : Int))] 1 = some (.list (ns.map .int)) := rfl
      rw [S.ev, hg]
      simp only [hi]
      rw [if_pos ⟨hj0, by rw [hl7]; exact hj1⟩]
      simp only [hx, he]
      rfl
    refine ss_next hst ?_
    rw [ss_nil, List.map_set]
    rfl
theorem loop_numbers {script : List Int} (hs : script.length ≤ 65536) : ∀ (ks : List Nat) (ns : List Int) (n : Nat) (x : Option PV), (∀ k ∈ ks, k < script.length) → Ok7 n ns → ∃ ns' x', Ok7 (n + ks.length) ns' ∧
    loopF 2 (fun σ => nBody.ev Φz 0 σ) (ks.map fun (k : Nat) => .int (k : Int)) [some (.list (script.map .int)), some (.list (ns.map .int)), x] = some (.next [some (.list (script.map .int)), some (.list (ns'.map .int)), x'])
  | [], ns, n, x, _, h => ⟨ns, x, h, rfl⟩
  | k :: ks, ns, n, x, hk, h => by
    obtain ⟨ns1, h1, e1⟩ := nBody_ev (hk k List.mem_cons_self) hs h
    obtain ⟨ns', x', h2, e2⟩ := loop_numbers hs ks ns1 (n + 1) (some (.int (k : Int))) (fun k' h' => hk k' (List.mem_cons_of_mem _ h')) h1
    refine ⟨ns', x', by rw [List.length_cons]; have : n + (ks.length + 1) = n + 1 + ks.length := by omega
                        rw [this]; exact h2, ?_⟩
    have h0 : setS [some (.list (script.map .int)), some (.list (ns.map .int)), x] 2 (Atm.pv (.int (k : Int))) = [some (.list (script.map .int)), some (.list (ns.map .int)), some (.int (k : Int))] := rfl
    rw [List.map_cons, loopF, h0, e1]
    exact e2
theorem numbers_eq {script : List Int} (hs : script.length ≤ 63) : ∃ ns : List Int, ns.length = 7 ∧ (∀ x ∈ ns, 0 ≤ x ∧ x ≤ 100000000) ∧ Φd 7 [.list (script.map .int)] = some (.list (ns.map .int)) := by
  have hb : Ok7 0 base7 := ⟨rfl, by decide⟩
  obtain ⟨ns, x', h, e⟩ := loop_numbers (script := script) (by omega) (List.range script.length) base7 0 none (fun k hk => List.mem_range.mp hk) hb
  refine ⟨ns, h.1, fun x hx => ?_, ?_⟩
  · have := h.2 x hx
    rw [List.length_range] at this
    refine ⟨this.1, ?_⟩
    have : ((0 + script.length : Nat) : Int) ≤ 63 := by omega
    omega
  · have e7 : ∀ a : List PV, Φd 7 a = runF f_law_numbers 3 1 Φz 0 a := fun _ => rfl
    rw [e7]
    have hmin : biPV .min [.int ((script.map Atm.int).length : Nat), .int 63] = some (.int (script.length : Int)) := by
      rw [List.length_map]
      show some (PV.int (if (63 : Int) < (script.length : Int) then 63 else (script.length : Int))) = _
      rw [if_neg (by omega)]
    have hr : rangePV 0 (script.length : Int) 1 = some ((List.range script.length).map fun (k : Nat) => .int (k : Int)) := by
      unfold rangePV big
      rw [if_pos (by simp; omega)]
      have : ((script.length : Int) - 0).toNat = script.length := by omega
      simp only [if_true, this]
      rw [if_pos (by unfold lim; omega)]
      unfold rangeA
      congr 1
      apply List.map_congr_left
      intro k _
      congr 1
      omega
    refine runF_of rfl (ss_next (s_assign rfl) (ss_next (s_for (it_r1 (e_bi (e_bi rfl es_nil rfl) (es_cons rfl es_nil) hmin) hr) e) (ss_ret (s_ret rfl))))
end Mine
end
section
open PySem PySem.W PyProof.Rows PySem.Calls
set_option Elab.async false
set_option maxRecDepth 100000
namespace Mine

/-- a row of the mail: dots, a bracket, an end -/
noncomputable def rowT (d : Nat) (e : List Nat) : List Nat := List.replicate d 46 ++ [40] ++ e
noncomputable def eols : List (List Nat) := [[10], [13, 10], [13]]
noncomputable def noFeed : List Nat → Bool
  | [] => true
  | c :: _ => !(c == 10)
theorem norm_dots : ∀ (d : Nat) (r : List Nat), normF false (List.replicate d 46 ++ r) = List.replicate d 46 ++ normF false r
  | 0, r => rfl
  | d + 1, r => by
    rw [List.replicate_succ, List.cons_append, normF, if_neg (by decide), if_neg (by decide), norm_dots d r]; rfl
theorem norm_true {r : List Nat} (h : noFeed r = true) : normF true r = normF false r := by
  cases r with
  | nil => rfl
  | cons c r =>
    have hc : ¬ c = 10 := by simpa [noFeed] using h
    rw [normF, normF, if_neg hc, if_neg hc]
theorem norm_row {d : Nat} {e r : List Nat} (he : e ∈ eols) (hr : noFeed r = true) : normF false (rowT d e ++ r) = rowT d [13, 10] ++ normF false r := by
  unfold rowT
  rw [List.append_assoc, List.append_assoc, norm_dots, List.append_assoc, List.append_assoc]
  congr 1
  show normF false (40 :: (e ++ r)) = 40 :: ([13, 10] ++ normF false r)
  rw [normF, if_neg (by decide), if_neg (by decide)]
  congr 1
  simp only [eols, List.mem_cons, List.not_mem_nil, or_false] at he
  rcases he with rfl | rfl | rfl
  · show normF false (10 :: r) = _
    rw [normF, if_pos rfl]; rfl
  · show normF false (13 :: 10 :: r) = _
    rw [normF, if_neg (by decide), if_pos rfl, normF, if_pos rfl]; rfl
  · show normF false (13 :: r) = _
    rw [normF, if_neg (by decide), if_pos rfl, norm_true hr]; rfl
noncomputable def rowsT : List (Nat × List Nat) → List Nat
  | [] => []
  | p :: r => rowT p.1 p.2 ++ rowsT r
theorem rows_noFeed : ∀ rs : List (Nat × List Nat), noFeed (rowsT rs) = true
  | [] => rfl
  | (0, e) :: r => rfl
  | (d + 1, e) :: r => by
    show noFeed (List.replicate (d + 1) 46 ++ [40] ++ e ++ rowsT r) = true
    rw [List.replicate_succ]; rfl
theorem norm_rows : ∀ rs : List (Nat × List Nat), (∀ p ∈ rs, p.2 ∈ eols) → normF false (rowsT rs) = rowsT (rs.map fun p => (p.1, [13, 10]))
  | [], _ => rfl
  | p :: r, h => by
    show normF false (rowT p.1 p.2 ++ rowsT r) = rowT p.1 [13, 10] ++ rowsT (r.map _)
    rw [norm_row (h p List.mem_cons_self) (rows_noFeed r), norm_rows r fun q hq => h q (List.mem_cons_of_mem _ hq)]
noncomputable def moreDot (d : Nat) : Nat := if d = 0 then 0 else d + 1
theorem dots_plain : ∀ (d : Nat) (r : List Nat), dotsF false (List.replicate d 46 ++ r) = List.replicate d 46 ++ dotsF false r
  | 0, r => rfl
  | d + 1, r => by
    rw [List.replicate_succ, List.cons_append, dotsF]
    show 46 :: dotsF (46 == 10) _ = _
    have : ((46 : Nat) == 10) = false := rfl
    rw [this, dots_plain d r]; rfl
theorem dots_tail (b : Bool) (r : List Nat) : dotsF b (40 :: 13 :: 10 :: r) = 40 :: 13 :: 10 :: dotsF true r := by
  cases b <;> rfl
theorem dots_row {d : Nat} {r : List Nat} : dotsF true (rowT d [13, 10] ++ r) = rowT (moreDot d) [13, 10] ++ dotsF true r := by
  unfold rowT moreDot
  cases d with
  | zero => rfl
  | succ d =>
    rw [if_neg (by omega), List.append_assoc, List.append_assoc, List.replicate_succ, List.cons_append, dotsF]
    show 46 :: 46 :: dotsF false (List.replicate d 46 ++ (40 :: 13 :: 10 :: r)) = _
    rw [dots_plain, dots_tail]
    simp [List.replicate_succ]
theorem dots_rows : ∀ ds : List Nat, dotsF true (rowsT (ds.map fun d => (d, [13, 10]))) = rowsT (ds.map fun d => (moreDot d, [13, 10]))
  | [] => rfl
  | d :: r => by
    show dotsF true (rowT d [13, 10] ++ rowsT (r.map _)) = rowT (moreDot d) [13, 10] ++ rowsT (r.map _)
    rw [dots_row, dots_rows r]
theorem rows_len : ∀ (rs : List (Nat × List Nat)) (m : Nat), (∀ p ∈ rs, p.1 ≤ m ∧ p.2.length ≤ 2) → (rowsT rs).length ≤ rs.length * (m + 3)
  | [], m, _ => by simp [rowsT]
  | p :: r, m, h => by
    have ih := rows_len r m fun q hq => h q (List.mem_cons_of_mem _ hq)
    obtain ⟨h1, h2⟩ := h p List.mem_cons_self
    show (rowT p.1 p.2 ++ rowsT r).length ≤ (r.length + 1) * (m + 3)
    rw [List.length_append, Nat.add_mul]
    have : (rowT p.1 p.2).length ≤ m + 3 := by unfold rowT; simp; omega
    omega
/-- one sending -/
theorem quote_rows {rs : List (Nat × List Nat)} (h : ∀ p ∈ rs, p.2 ∈ eols) (hl : rs.length ≤ 20) (hm : ∀ p ∈ rs, p.1 ≤ 100) : quotePV (.str (rowsT rs)) = some (.str (rowsT (rs.map fun p => (moreDot p.1, [13, 10])))) := by
  have h1 := rows_len rs 100 fun p hp => ⟨hm p hp, by
    have := h p hp
    simp only [eols, List.mem_cons, List.not_mem_nil, or_false] at this
    rcases this with e | e | e <;> rw [e] <;> decide⟩
  have h2 : (rowsT rs).length ≤ 10000 := Nat.le_trans h1 (by have := Nat.mul_le_mul_right 103 hl; omega)
  unfold quotePV
  simp only [h2, if_true]
  rw [norm_rows rs h]
  have e1 : (rs.map fun p => (p.1, [13, 10])) = (rs.map (·.1)).map fun d => (d, [13, 10]) := by rw [List.map_map]; rfl
  rw [e1, dots_rows, List.map_map]
  rfl
end Mine
end
section
open PySem PySem.W PyProof.Rows PySem.Calls PySem.Builtin PySem.Builtin.Str
set_option Elab.async false
set_option maxRecDepth 100000
namespace Mine

noncomputable def joinT2 (bs : List (List Nat)) : List Nat := (bs.map fun b => b ++ [13, 10]).flatten
theorem at_iff {l : List Nat} {i : Nat} : StrLaws.At (toStr l) (toStr [13, 10]) (toStr l).length i ↔ (l.drop i).take 2 = [13, 10] := by
  unfold StrLaws.At subAt
  rw [toStr_length, toStr_length]
  have e : ((toStr l).cps.extract i (i + [13, 10].length) == (toStr [13, 10]).cps) = decide ((l.drop i).take 2 = [13, 10]) := by
    rw [Bool.eq_iff_iff, beq_iff_eq, decide_eq_true_iff]
    constructor
    · intro h
      have h2 := congrArg Array.toList h
      unfold toStr at h2
      simp only [Array.toList_extract, List.extract_eq_take_drop, List.length_cons, List.length_nil] at h2
      have : i + (0 + 1 + 1) - i = 2 := by omega
      rw [this] at h2
      exact h2
    · intro h
      apply Array.toList_inj.mp
      unfold toStr
      simp only [Array.toList_extract, List.extract_eq_take_drop, List.length_cons, List.length_nil]
      have : i + (0 + 1 + 1) - i = 2 := by omega
      rw [this]
      exact h
  rw [e]
  constructor
  · intro h; exact of_decide_eq_true h.2
  · intro h
    refine ⟨?_, decide_eq_true h⟩
    have h2 := congrArg List.length h
    simp only [List.length_take, List.length_drop, List.length_cons, List.length_nil] at h2 ⊢
    omega
theorem sub_slice {l : List Nat} {a b : Nat} : strSub (toStr l) a b = toStr ((l.take b).drop a) := by
  unfold strSub toStr
  congr 1
  apply Array.toList_inj.mp
  rw [Array.toList_extract]
  simp [List.extract_eq_take_drop, List.drop_take]
theorem parts_rows {l : List Nat} : ∀ (bs : List (List Nat)) (pre : List Nat) (cuts : List Nat) (f : Nat), (∀ b ∈ bs, ∀ c ∈ b, c ≠ 13) → l = pre ++ joinT2 bs →
    StrLaws.ChainG (toStr l) (toStr [13, 10]) (toStr l).length pre.length cuts f → (∀ k, f ≤ k → ¬ StrLaws.At (toStr l) (toStr [13, 10]) (toStr l).length k) →
    StrLaws.partsFrom (toStr l) 2 pre.length cuts = (bs ++ [[]]).map toStr
  | [], pre, cuts, f, hb, hl, hc, hn => by
    have hl' : l = pre := by rw [hl]; simp [joinT2]
    cases cuts with
    | nil =>
      show [strSub (toStr l) pre.length (toStr l).length] = [toStr []]
      rw [sub_slice, toStr_length, hl', List.take_length, List.drop_length]
    | cons c r =>
      have h1 := at_iff.mp hc.2.1
      have h2 := congrArg List.length h1
      simp only [List.length_take, List.length_drop, List.length_cons, List.length_nil] at h2
      have := hc.1
      rw [hl'] at h2
      omega
  | b :: bs, pre, cuts, f, hb, hl, hc, hn => by
    have hl2 : l = pre ++ (b ++ ([13, 10] ++ joinT2 bs)) := by rw [hl]; simp [joinT2]
    have hat : StrLaws.At (toStr l) (toStr [13, 10]) (toStr l).length (pre.length + b.length) := by
      rw [at_iff, hl2, ← List.append_assoc, List.drop_append_of_le_length (by simp), List.drop_of_length_le (by simp)]
      rfl
    cases cuts with
    | nil =>
      have hf : f = pre.length := hc
      exact absurd hat (hn _ (by omega))
    | cons c r =>
      obtain ⟨h1, h2, h3, h4⟩ := hc
      have hle : c ≤ pre.length + b.length := by
        apply Nat.le_of_not_lt
        intro hlt
        exact h3 _ (by omega) hlt hat
      have hge : ¬ c < pre.length + b.length := by
        intro hlt
        have h5 := at_iff.mp h2
        have h6 : l[c]? = some 13 := by
          have := congrArg (fun x : List Nat => x[0]?) h5
          simpa using this
        rw [hl2, List.getElem?_append_right h1, List.getElem?_append_left (by omega)] at h6
        exact hb b List.mem_cons_self 13 (List.mem_of_getElem? h6) rfl
      have hce : c = pre.length + b.length := by omega
      subst hce
      have hpre : (pre ++ b ++ [13, 10]).length = pre.length + b.length + 2 := by simp only [List.length_append, List.length_cons, List.length_nil]
      have ih := parts_rows bs (pre ++ b ++ [13, 10]) r f (fun b' hb' => hb b' (List.mem_cons_of_mem _ hb')) (by rw [hl2]; simp) (by rw [hpre]; exact h4) hn
      rw [hpre] at ih
      show strSub (toStr l) pre.length (pre.length + b.length) :: StrLaws.partsFrom (toStr l) 2 (pre.length + b.length + 2) r = toStr b :: _
      rw [ih, sub_slice]
      have hsl : (l.take (pre.length + b.length)).drop pre.length = b := by
        rw [List.drop_take, hl2, List.drop_left]
        have : pre.length + b.length - pre.length = b.length := by omega
        rw [this, List.take_left]
      rw [hsl]
      rfl
theorem kind_low {l : List Nat} (h : ∀ c ∈ l, c < 256) : PySem.Builtin.Str.strKind (toStr l) = 1 := by
  unfold PySem.Builtin.Str.strKind toStr
  rw [if_pos]
  simp only [List.all_toArray, List.all_eq_true, decide_eq_true_eq]
  exact h
theorem split_rows {bs : List (List Nat)} (hne : bs ≠ []) (hb : ∀ b ∈ bs, ∀ c ∈ b, c ≠ 13 ∧ c < 256) : Txt.split (toStr (joinT2 bs)) (toStr [13, 10]) = (bs ++ [[]]).map toStr := by
  obtain ⟨f, h1, h2⟩ := StrLaws.occ_tight (toStr (joinT2 bs)) (toStr [13, 10]) (by decide)
  have hp := parts_rows (l := joinT2 bs) bs [] _ f (fun b hb' c hc => (hb b hb' c hc).1) rfl h1 h2
  have hlow : ∀ c ∈ joinT2 bs, c < 256 := by
    intro c hc
    obtain ⟨x, hx, hcx⟩ := List.mem_flatten.mp hc
    obtain ⟨b, hb', rfl⟩ := List.mem_map.mp hx
    rcases List.mem_append.mp hcx with h | h
    · exact (hb b hb' c h).2
    · simp at h; omega
  have hlen : 2 ≤ (joinT2 bs).length := by
    cases bs with
    | nil => exact absurd rfl hne
    | cons b r =>
      unfold joinT2
      simp only [List.map_cons, List.flatten_cons, List.length_append, List.length_cons, List.length_nil]
      omega
  unfold Txt.split
  rw [if_neg (by
    rw [kind_low hlow, kind_low (l := [13, 10]) (by decide), toStr_length, toStr_length]
    simp
    omega)]
  have hnil : ¬ (occurrences (toStr (joinT2 bs)) (toStr [13, 10]) 0 (toStr (joinT2 bs)).length ((toStr (joinT2 bs)).length + 1)).isEmpty = true := by
    intro he
    have he' := List.isEmpty_iff.mp he
    rw [he'] at hp
    have := congrArg List.length hp
    simp only [StrLaws.partsFrom, List.length_map, List.length_append, List.length_cons, List.length_nil] at this
    have hz : bs.length = 0 := by omega
    exact hne (List.length_eq_zero_iff.mp hz)
  rw [if_neg hnil, StrLaws.partsBetween_eq]
  exact hp
end Mine
end
section
open PySem PySem.W PyProof.Rows PySem.Calls
set_option Elab.async false
set_option maxRecDepth 100000
namespace Mine

noncomputable def P0 : Pos := ⟨0, 0, 0, 0⟩
noncomputable def Ss.nth : Ss → Nat → S
  | .nil, _ => .ret (.int 0 P0) P0
  | .cons s _, 0 => s
  | .cons _ r, n + 1 => r.nth n
noncomputable def S.xOf : S → X
  | .assign _ _ e _ => e
  | .assignC _ _ e _ => e
  | .ret e _ => e
  | .ifs (.cmp _ _ r _) _ _ _ => r
  | _ => .int 0 P0
noncomputable def X.eltOf : X → X
  | .comp e _ _ _ _ _ _ => e
  | .join (.comp e _ _ _ _ _ _) _ _ _ => e
  | _ => .int 0 P0
noncomputable def eolAt (m : Int) (k : Nat) : List Nat := eols.getD ((m.fdiv 12 + k).fmod 3).toNat []
theorem eolAt_in (m : Int) (k : Nat) : eolAt m k ∈ eols := by
  have h0 : 0 ≤ (m.fdiv 12 + k).fmod 3 := Int.fmod_nonneg_of_pos _ (by decide)
  have h1 : (m.fdiv 12 + k).fmod 3 < 3 := Int.fmod_lt_of_pos _ (by decide)
  unfold eolAt
  generalize (m.fdiv 12 + k).fmod 3 = x at *
  have : x = 0 ∨ x = 1 ∨ x = 2 := by omega
  rcases this with rfl | rfl | rfl <;> decide
theorem idx_ints {l : List Nat} {k : Nat} (hk : k < l.length) (hl : l.length ≤ 1000) : idxPV (.list (intsL l)) (.int (k : Int)) = some (.int ((l.getD k 0 : Nat) : Int)) := by
  have hlen : (intsL l).length = l.length := by simp [intsL]
  show (if -((intsL l).length : Int) ≤ (k : Int) ∧ (k : Int) < ((intsL l).length : Int) ∧ (intsL l).length ≤ lim then ((intsL l)[(if (k : Int) < 0 then (k : Int) + ((intsL l).length : Int) else (k : Int)).toNat]?).map Atm.pv else none) = _
  rw [if_pos ⟨by omega, by rw [hlen]; omega, by rw [hlen]; unfold lim; omega⟩, if_neg (by omega)]
  have : (intsL l)[((k : Int)).toNat]? = some (.int ((l.getD k 0 : Nat) : Int)) := by
    rw [Int.toNat_natCast, intsL, List.getElem?_map, List.getElem?_eq_getElem hk, List.getD_eq_getElem?_getD, List.getElem?_eq_getElem hk]; rfl
  rw [this]; rfl
theorem mult_dots (d : Nat) (hd : d ≤ 100) : binPV .Mult (.str [46]) (.int (d : Int)) = some (.str (List.replicate d 46)) := by
  have h : (d : Int) ≤ 60000 ∧ -60000 ≤ (d : Int) ∧ [46].length * ((d : Int)).toNat ≤ lim := ⟨by omega, by omega, by simp; unfold lim; omega⟩
  simp only [binPV, addPV, mulPV]
  rw [if_pos h]
  congr 2
  rw [Int.toNat_natCast]
  induction d with
  | zero => rfl
  | succ d ih => rw [List.replicate_succ, List.flatten_cons, ih (by omega) ⟨by omega, by omega, by simp; unfold lim; omega⟩, List.replicate_succ]; rfl
theorem add_txt {x y : List Nat} (h : (x ++ y).length ≤ 1000) : binPV .Add (.str x) (.str y) = some (.str (x ++ y)) := by
  have : (x ++ y).length ≤ lim := Nat.le_trans h (by decide)
  simp only [binPV, addPV, mulPV]
  rw [if_pos this]
noncomputable def mailE : X := (f_law.nth 9).xOf.eltOf
theorem mail_elt {ds : List Nat} {m : Int} {k : Nat} {σ : Sg} (hk : k < ds.length) (hl : ds.length ≤ 1000) (hd : ∀ d ∈ ds, d ≤ 4) (h8 : getS σ 8 = some (.list (intsL ds))) (h3 : getS σ 3 = some (.int m)) (h18 : getS σ 18 = some (.int (k : Int))) :
    mailE.ev Φd σ = some (.str (rowT (ds.getD k 0) (eolAt m k))) := by
  have hdk : ds.getD k 0 ≤ 4 := by
    rw [List.getD_eq_getElem?_getD, List.getElem?_eq_getElem hk]
    exact hd _ (List.getElem_mem hk)
  have h0 : 0 ≤ (m.fdiv 12 + k).fmod 3 := Int.fmod_nonneg_of_pos _ (by decide)
  have h1 : (m.fdiv 12 + k).fmod 3 < 3 := Int.fmod_lt_of_pos _ (by decide)
  have hidx : idxPV (.list [.str [10], .str [13, 10], .str [13]]) (.int ((m.fdiv 12 + k).fmod 3)) = some (.str (eolAt m k)) := by
    unfold eolAt
    generalize (m.fdiv 12 + k).fmod 3 = x at *
    have : x = 0 ∨ x = 1 ∨ x = 2 := by omega
    rcases this with rfl | rfl | rfl <;> rfl
  have he : (eolAt m k).length ≤ 2 := by
    have := eolAt_in m k
    simp only [eols, List.mem_cons, List.not_mem_nil, or_false] at this
    rcases this with e | e | e <;> rw [e] <;> decide
  refine e_bin (e_bin (e_bin rfl (e_idx h8 h18 (idx_ints hk hl)) (mult_dots _ (by omega))) rfl (add_txt (by simp only [List.length_append, List.length_replicate, List.length_cons, List.length_nil]; omega))) (e_idx rfl (e_bin (e_bin (e_bin h3 rfl rfl) h18 rfl) rfl rfl) hidx) ?_
  rw [add_txt (by simp only [List.length_append, List.length_replicate, List.length_cons, List.length_nil]; omega)]
  rfl
end Mine
end
section
open PySem PySem.W PyProof.Rows PySem.Calls
set_option Elab.async false
set_option maxRecDepth 100000
namespace Mine

theorem rows_flat : ∀ rs : List (Nat × List Nat), rowsT rs = (rs.map fun p => rowT p.1 p.2).flatten
  | [] => rfl
  | p :: r => by
    show rowT p.1 p.2 ++ rowsT r = rowT p.1 p.2 ++ (r.map _).flatten
    rw [rows_flat r]
theorem join_strs {ls : List (List Nat)} (h1 : ls.flatten.length ≤ lim) (h2 : ls.length ≤ lim) : joinPV (.list (ls.map .str)) = some (.str ls.flatten) := by
  show (strsOf (ls.map .str)).bind _ = _
  rw [strs_all]
  simp only [Option.bind_some]
  rw [if_pos ⟨h1, h2⟩]
noncomputable def mailRows (ds : List Nat) (m : Int) : List (Nat × List Nat) := (List.range 10).map fun k => (ds.getD k 0, eolAt m k)
theorem mailRows_in {ds : List Nat} {m : Int} (hl : ds.length = 10) (hd : ∀ d ∈ ds, d ≤ 4) : (∀ p ∈ mailRows ds m, p.2 ∈ eols) ∧ (∀ p ∈ mailRows ds m, p.1 ≤ 4) ∧ (mailRows ds m).length = 10 ∧ (mailRows ds m).map (·.1) = ds := by
  refine ⟨fun p hp => ?_, fun p hp => ?_, by simp [mailRows], ?_⟩
  · obtain ⟨k, _, rfl⟩ := List.mem_map.mp hp
    exact eolAt_in m k
  · obtain ⟨k, hk, rfl⟩ := List.mem_map.mp hp
    have hk' : k < ds.length := by rw [hl]; exact List.mem_range.mp hk
    show ds.getD k 0 ≤ 4
    rw [List.getD_eq_getElem?_getD, List.getElem?_eq_getElem hk']
    exact hd _ (List.getElem_mem hk')
  · unfold mailRows
    rw [List.map_map]
    apply List.ext_getElem
    · simp [hl]
    · intro i h1 h2
      simp only [List.getElem_map, List.getElem_range, Function.comp]
      rw [List.getD_eq_getElem?_getD, List.getElem?_eq_getElem h2]
      rfl
theorem range10' : rangePV 0 10 1 = some (rangeA 0 1 10) := by decide +kernel
theorem mail_ev {ds : List Nat} {m : Int} {σ : Sg} (hσ : σ.length = 21) (hl : ds.length = 10) (hd : ∀ d ∈ ds, d ≤ 4) (h8 : getS σ 8 = some (.list (intsL ds))) (h3 : getS σ 3 = some (.int m)) :
    (f_law.nth 9).xOf.ev Φd σ = some (.str (rowsT (mailRows ds m))) := by
  obtain ⟨r1, r2, r3, r4⟩ := mailRows_in (m := m) hl hd
  have hcap : ∀ z : Int, getS (setS (capS σ [8, 3]) 18 (.int z)) 8 = some (.list (intsL ds)) ∧ getS (setS (capS σ [8, 3]) 18 (.int z)) 3 = some (.int m) ∧ getS (setS (capS σ [8, 3]) 18 (.int z)) 18 = some (.int z) := by
    intro z
    have hc : ∀ i, i < 21 → getS (capS σ [8, 3]) i = if [8, 3].contains i then getS σ i else none := by
      intro i hi
      unfold capS
      rw [hσ]
      unfold getS
      rw [List.getD_eq_getElem?_getD, List.getElem?_map, List.getElem?_range hi]
      rfl
    refine ⟨?_, ?_, ?_⟩
    · rw [getS_set, if_neg (fun h => absurd h.1 (by decide)), hc 8 (by decide)]
      exact h8
    · rw [getS_set, if_neg (fun h => absurd h.1 (by decide)), hc 3 (by decide)]
      exact h3
    · rw [getS_set, if_pos ⟨rfl, by rw [capS_length, hσ]; decide⟩]
  have hmap : mapO (fun (a : Atm) => (mailE.ev Φd (setS (capS σ [8, 3]) 18 a.pv)).bind PV.atm?) (rangeA 0 1 10) = some (((mailRows ds m).map fun p => rowT p.1 p.2).map .str) := by
    have := mapO_all (xs := rangeA 0 1 10) (f := fun (a : Atm) => (mailE.ev Φd (setS (capS σ [8, 3]) 18 a.pv)).bind PV.atm?) (g := fun a => match a with | .int z => .str (rowT (ds.getD z.toNat 0) (eolAt m z.toNat)) | a => a) (by
      intro a ha
      obtain ⟨k, hk, rfl⟩ := List.mem_map.mp ha
      have hk10 : k < 10 := List.mem_range.mp hk
      have hz : (0 : Int) + (k : Int) * 1 = (k : Int) := by omega
      rw [hz]
      obtain ⟨c1, c2, c3⟩ := hcap (k : Int)
      show (mailE.ev Φd (setS (capS σ [8, 3]) 18 (.int (k : Int)))).bind PV.atm? = _
      rw [mail_elt (by omega) (by omega) hd c1 c2 c3]
      rfl)
    rw [this]
    congr 1
  have hlen := rows_len (mailRows ds m) 4 fun p hp => ⟨r2 p hp, by
    have := r1 p hp
    simp only [eols, List.mem_cons, List.not_mem_nil, or_false] at this
    rcases this with e | e | e <;> rw [e] <;> decide⟩
  rw [r3] at hlen
  rw [rows_flat] at hlen ⊢
  refine e_join (e_comp (it_r1 rfl range10') hmap (by rw [List.length_map, List.length_map, r3]; decide)) (join_strs (Nat.le_trans hlen (by decide)) (by rw [List.length_map, r3]; decide))

noncomputable def upT (t d : Nat) : Nat := if d = 0 then 0 else d + t
noncomputable def endRows (ds : List Nat) (t : Nat) : List (Nat × List Nat) := ds.map fun d => (upT t d, [13, 10])
theorem phi4 (a : PV) : Φd 4 [a] = quotePV a := rfl
theorem quote_first {ds : List Nat} {m : Int} (hl : ds.length = 10) (hd : ∀ d ∈ ds, d ≤ 4) : Φd 4 [.str (rowsT (mailRows ds m))] = some (.str (rowsT (endRows ds 1))) := by
  obtain ⟨r1, r2, r3, r4⟩ := mailRows_in (m := m) hl hd
  have := quote_rows r1 (by omega) (fun p hp => Nat.le_trans (r2 p hp) (by decide))
  rw [phi4, this]
  congr 3
  have e : (mailRows ds m).map (fun p => (moreDot p.1, [13, 10])) = ((mailRows ds m).map (·.1)).map fun d => (moreDot d, [13, 10]) := by rw [List.map_map]; rfl
  rw [e, r4]
  rfl
theorem quote_more {ds : List Nat} {t : Nat} (hl : ds.length = 10) (hd : ∀ d ∈ ds, d ≤ 4) (ht : t ≤ 10) : Φd 4 [.str (rowsT (endRows ds t))] = some (.str (rowsT (endRows ds (t + 1)))) := by
  have := quote_rows (rs := endRows ds t) (fun p hp => by
    obtain ⟨d, _, rfl⟩ := List.mem_map.mp hp
    simp [eols]) (by simp [endRows, hl]) (fun p hp => by
    obtain ⟨d, h, rfl⟩ := List.mem_map.mp hp
    have := hd d h
    show upT t d ≤ 100
    unfold upT; split <;> omega)
  rw [phi4, this]
  congr 3
  unfold endRows
  rw [List.map_map]
  apply List.map_congr_left
  intro d _
  show (moreDot (upT t d), [13, 10]) = (upT (t + 1) d, [13, 10])
  congr 1
  unfold moreDot upT
  by_cases h : d = 0
  · simp [h]
  · simp only [h, if_false]
    rw [if_neg (by omega)]
    omega
end Mine
end
section
open PySem PySem.W PyProof.Rows PySem.Calls
set_option Elab.async false
set_option maxRecDepth 100000
namespace Mine

theorem cap_get {σ : Sg} {caps : List Nat} {i : Nat} (hi : i < σ.length) (hc : caps.contains i = true) : getS (capS σ caps) i = getS σ i := by
  unfold capS
  show List.getD _ i none = _
  rw [List.getD_eq_getElem?_getD, List.getElem?_map, List.getElem?_range hi]
  show (if caps.contains i = true then getS σ i else none) = _
  rw [if_pos hc]
theorem cap_set {σ : Sg} {caps : List Nat} {i j : Nat} {p : PV} (hi : i < σ.length) (hc : caps.contains i = true) (hij : i ≠ j) : getS (setS (capS σ caps) j p) i = getS σ i := by
  rw [getS_set, if_neg (fun h => hij h.1)]
  exact cap_get hi hc
theorem cap_self {σ : Sg} {caps : List Nat} {j : Nat} {p : PV} (hj : j < σ.length) : getS (setS (capS σ caps) j p) j = some p := by
  rw [getS_set, if_pos ⟨rfl, by rw [capS_length]; exact hj⟩]
noncomputable def wantE : X := (f_law.nth 11).xOf.eltOf
theorem want_elt {d t : Nat} {σ : Sg} (hd : d ≤ 4) (ht : t ≤ 10) (h5 : getS σ 5 = some (.int (t : Int))) (h19 : getS σ 19 = some (.int (d : Int))) : wantE.ev Φd σ = some (.str (rowT (upT t d) [13, 10])) := by
  have hu : upT t d ≤ 14 := by unfold upT; split <;> omega
  have hite : X.ev Φd (.ite (.cmp .Gt (.var 19 P0) (.int 0 P0) P0) (.bin .Add (.var 19 P0) (.var 5 P0) P0) (.int 0 P0) P0) σ = some (.int ((upT t d : Nat) : Int)) := by
    by_cases h0 : d = 0
    · have : T.ev Φd (.cmp .Gt (.var 19 P0) (.int 0 P0) P0) σ = some false := t_cmp h19 rfl (by subst h0; rfl)
      rw [X.ev, this]
      subst h0
      rfl
    · have : T.ev Φd (.cmp .Gt (.var 19 P0) (.int 0 P0) P0) σ = some true := t_cmp h19 rfl (by
        show some (decide ((0 : Int) < (d : Int))) = _
        rw [decide_eq_true (by omega)])
      have hb : X.ev Φd (.bin .Add (.var 19 P0) (.var 5 P0) P0) σ = some (.int ((d : Int) + (t : Int))) := e_bin h19 h5 rfl
      rw [X.ev, this]
      simp only [hb]
      unfold upT
      rw [if_neg h0]
      rfl
  refine e_bin (e_bin rfl hite (mult_dots _ (by omega))) rfl ?_
  rw [add_txt (by simp only [List.length_append, List.length_replicate, List.length_cons, List.length_nil]; omega)]
  unfold rowT
  simp
end Mine
end
section
open PySem PySem.W PyProof.Rows PySem.Calls
set_option Elab.async false
set_option maxRecDepth 100000
namespace Mine

theorem endRows_len {ds : List Nat} {t : Nat} (hl : ds.length = 10) (hd : ∀ d ∈ ds, d ≤ 4) (ht : t ≤ 10) : (rowsT (endRows ds t)).length ≤ 170 := by
  have := rows_len (endRows ds t) 14 fun p hp => by
    obtain ⟨d, h, rfl⟩ := List.mem_map.mp hp
    have := hd d h
    refine ⟨?_, Nat.le_refl 2⟩
    show upT t d ≤ 14
    unfold upT; split <;> omega
  have hl2 : (endRows ds t).length = 10 := by simp [endRows, hl]
  rw [hl2] at this
  exact this
theorem want_ev {ds : List Nat} {t : Nat} {σ : Sg} (hσ : σ.length = 21) (hl : ds.length = 10) (hd : ∀ d ∈ ds, d ≤ 4) (ht : t ≤ 10) (h8 : getS σ 8 = some (.list (intsL ds))) (h5 : getS σ 5 = some (.int (t : Int))) :
    (f_law.nth 11).xOf.ev Φd σ = some (.str (rowsT (endRows ds t))) := by
  have hmap : mapO (fun (a : Atm) => (wantE.ev Φd (setS (capS σ [5]) 19 a.pv)).bind PV.atm?) (intsL ds) = some (((endRows ds t).map fun p => rowT p.1 p.2).map .str) := by
    have := mapO_all (xs := intsL ds) (f := fun (a : Atm) => (wantE.ev Φd (setS (capS σ [5]) 19 a.pv)).bind PV.atm?) (g := fun a => match a with | .int z => .str (rowT (upT t z.toNat) [13, 10]) | a => a) (by
      intro a ha
      obtain ⟨d, hdm, rfl⟩ := List.mem_map.mp ha
      show (wantE.ev Φd (setS (capS σ [5]) 19 (.int (d : Int)))).bind PV.atm? = _
      rw [want_elt (hd d hdm) ht ((cap_set (by omega) (by decide) (by decide)).trans h5) (cap_self (by omega))]
      rfl)
    rw [this]
    congr 1
    unfold intsL endRows
    rw [List.map_map, List.map_map, List.map_map]
    apply List.map_congr_left
    intro d _
    rfl
  have hlen := endRows_len hl hd ht
  rw [rows_flat] at hlen ⊢
  exact e_join (e_comp (it_x h8 rfl) hmap (by simp [endRows, hl]; decide)) (join_strs (Nat.le_trans hlen (by decide)) (by simp [endRows, hl]; decide))
noncomputable def bodies (ds : List Nat) (t : Nat) : List (List Nat) := ds.map fun d => List.replicate (upT t d) 46 ++ [40]
theorem endRows_bodies (ds : List Nat) (t : Nat) : rowsT (endRows ds t) = joinT2 (bodies ds t) := by
  rw [rows_flat]
  unfold joinT2 endRows bodies
  rw [List.map_map, List.map_map]
  rfl
theorem split_ev {ds : List Nat} {t : Nat} (hl : ds.length = 10) (hd : ∀ d ∈ ds, d ≤ 4) (ht : t ≤ 10) : splitPV [13, 10] (.str (rowsT (endRows ds t))) = some (.list ((bodies ds t ++ [[]]).map .str)) := by
  have hs : Txt.split (toStr (rowsT (endRows ds t))) (toStr [13, 10]) = (bodies ds t ++ [[]]).map toStr := by
    rw [endRows_bodies]
    refine split_rows (fun e => ?_) fun b hb c hc => ?_
    · have := congrArg List.length e
      simp [bodies, hl] at this
    · obtain ⟨d, _, rfl⟩ := List.mem_map.mp hb
      rcases List.mem_append.mp hc with h | h
      · rw [List.eq_of_mem_replicate h]; decide
      · simp at h; subst h; decide
  have hall : ((bodies ds t ++ [[]]).map toStr).all (fun y => okB y.cps.toList) = true := by
    rw [List.all_eq_true]
    intro y hy
    obtain ⟨b, hb, rfl⟩ := List.mem_map.mp hy
    have hbl : b.length ≤ 20 ∧ ∀ c ∈ b, c < 1114112 := by
      rcases List.mem_append.mp hb with h | h
      · obtain ⟨d, hdm, rfl⟩ := List.mem_map.mp h
        have := hd d hdm
        refine ⟨?_, fun c hc => ?_⟩
        · have : upT t d ≤ 14 := by unfold upT; split <;> omega
          simp; omega
        · rcases List.mem_append.mp hc with h | h
          · rw [List.eq_of_mem_replicate h]; decide
          · simp at h; subst h; decide
      · simp at h; subst h; exact ⟨by decide, fun c hc => by cases hc⟩
    show okB b.toArray.toList = true
    unfold okB
    simp only [Bool.and_eq_true, decide_eq_true_eq, List.all_eq_true]
    exact ⟨Nat.le_trans hbl.1 (by decide), hbl.2⟩
  have hun : splitPV [13, 10] (.str (rowsT (endRows ds t))) = if ([13, 10].length == 0) = false ∧ (Txt.split (toStr (rowsT (endRows ds t))) (toStr [13, 10])).length ≤ lim ∧ ((Txt.split (toStr (rowsT (endRows ds t))) (toStr [13, 10])).all fun y => okB y.cps.toList) = true then
      some (.list ((Txt.split (toStr (rowsT (endRows ds t))) (toStr [13, 10])).map fun y => .str y.cps.toList)) else none := rfl
  rw [hun, hs, if_pos ⟨rfl, by simp [bodies, hl]; decide, hall⟩, List.map_map]
  rfl
end Mine
end
section
open PySem PySem.W PyProof.Rows PySem.Calls
set_option Elab.async false
set_option maxRecDepth 100000
namespace Mine

noncomputable def rowE : X := (f_law.nth 12).xOf.eltOf
theorem row_elt {d t : Nat} {σ : Sg} (hd : d ≤ 4) (ht1 : 1 ≤ t) (ht : t ≤ 10) (h5 : getS σ 5 = some (.int (t : Int))) (h20 : getS σ 20 = some (.str (List.replicate (upT t d) 46 ++ [40]))) : rowE.ev Φd σ = some (.int (d : Int)) := by
  have hlen : biPV .len [.str (List.replicate (upT t d) 46 ++ [40])] = some (.int ((upT t d + 1 : Nat) : Int)) := by
    show some (PV.int ((List.replicate (upT t d) 46 ++ [40]).length : Nat)) = _
    simp
  refine e_bi (a := .int (((upT t d + 1 : Nat) : Int) - 1 - (t : Int))) (e_bin (e_bin (e_bi h20 es_nil hlen) rfl rfl) h5 rfl) (es_cons rfl es_nil) ?_
  show some (PV.int (if (0 : Int) > ((upT t d + 1 : Nat) : Int) - 1 - (t : Int) then 0 else ((upT t d + 1 : Nat) : Int) - 1 - (t : Int))) = _
  congr 2
  unfold upT
  by_cases h0 : d = 0
  · subst h0
    simp only [if_true]
    rw [if_pos (by omega)]
    rfl
  · rw [if_neg h0]
    split <;> omega
theorem cut_last {α : Type} (l : List α) (a : α) : cut (l ++ [a]) none (some (-1)) = l := by
  have h : kms_hi (some (-1)) (l ++ [a]).length = l.length := by
    show (if (-1 : Int) < 0 then (l ++ [a]).length - (-(-1 : Int)).toNat else min (-1 : Int).toNat (l ++ [a]).length) = _
    rw [if_pos (by decide), List.length_append]
    show l.length + 1 - 1 = _
    omega
  unfold cut
  rw [h]
  show ((l ++ [a]).drop 0).take (l.length - 0) = l
  simp
theorem heights_ev {ds : List Nat} {t : Nat} {σ : Sg} (hσ : σ.length = 21) (hl : ds.length = 10) (hd : ∀ d ∈ ds, d ≤ 4) (ht1 : 1 ≤ t) (ht : t ≤ 10) (h9 : getS σ 9 = some (.str (rowsT (endRows ds t)))) (h5 : getS σ 5 = some (.int (t : Int))) :
    (f_law.nth 12).xOf.ev Φd σ = some (.list (intsL ds)) := by
  have hmap : mapO (fun (a : Atm) => (rowE.ev Φd (setS (capS σ [5]) 20 a.pv)).bind PV.atm?) ((bodies ds t).map .str) = some (intsL ds) := by
    have : ∀ l : List Nat, (∀ d ∈ l, d ≤ 4) → mapO (fun (a : Atm) => (rowE.ev Φd (setS (capS σ [5]) 20 a.pv)).bind PV.atm?) ((bodies l t).map .str) = some (intsL l) := by
      intro l
      induction l with
      | nil => intro _; rfl
      | cons d r ih =>
        intro hb
        have ih' := ih fun x hx => hb x (List.mem_cons_of_mem _ hx)
        unfold bodies intsL at ih' ⊢
        simp only [List.map_cons, mapO]
        have he : rowE.ev Φd (setS (capS σ [5]) 20 (Atm.pv (.str (List.replicate (upT t d) 46 ++ [40])))) = some (.int (d : Int)) :=
          row_elt (hb d List.mem_cons_self) ht1 ht ((cap_set (by omega) (by decide) (by decide)).trans h5) (cap_self (by omega))
        rw [he, ih']
        rfl
    exact this ds hd
  have hcut : slicePV (.list ((bodies ds t ++ [[]]).map .str)) none (some (-1)) = some (.list ((bodies ds t).map .str)) := by
    show some (PV.list (cut ((bodies ds t ++ [[]]).map .str) none (some (-1)))) = _
    rw [List.map_append]
    show some (PV.list (cut ((bodies ds t).map .str ++ [Atm.str []]) none (some (-1)))) = _
    rw [cut_last]
  have hsl : X.ev Φd (.shi (.split (.var 9 P0) "\x0d\n" [13, 10] P0 P0 P0) (.neg 1 P0 P0) P0 P0) σ = some (.list ((bodies ds t).map .str)) := by
    have h1 : X.ev Φd (.split (.var 9 P0) "\x0d\n" [13, 10] P0 P0 P0) σ = some (.list ((bodies ds t ++ [[]]).map .str)) := e_split h9 (split_ev hl hd ht)
    rw [X.ev, h1]
    exact hcut
  exact e_comp (it_x hsl rfl) hmap (by simp [intsL, hl]; decide)
end Mine
end
section
open PySem PySem.W PyProof.Rows PySem.Calls
set_option Elab.async false
set_option maxRecDepth 100000
namespace Mine

/-- two lists of five, place by place -/
theorem range5' : rangePV 0 5 1 = some (rangeA 0 1 5) := range5
noncomputable def minE : X := match (f_law.nth 15).xOf with
  | .call _ e _ _ _ => e
  | _ => .int 0 P0
noncomputable def maxE : X := match (f_law.nth 16).xOf with
  | .call _ (.call _ e _ _ _) _ _ _ => e
  | _ => .int 0 P0
theorem min_ev {x y : List Nat} {σ : Sg} (hσ : σ.length = 21) (hx : x.length = 5) (hy : y.length = 5) (h12 : getS σ 12 = some (.list (intsL x))) (h13 : getS σ 13 = some (.list (intsL y))) : minE.ev Φd σ = some (.list (intsL (mnN x y))) := by
  have hmap : mapO (fun (a : Atm) => (minE.eltOf.ev Φd (setS (capS σ [13, 12]) 18 a.pv)).bind PV.atm?) (rangeA 0 1 5) = some (intsL (mnN x y)) := by
    have := mapO_all (xs := rangeA 0 1 5) (f := fun (a : Atm) => (minE.eltOf.ev Φd (setS (capS σ [13, 12]) 18 a.pv)).bind PV.atm?) (g := fun a => match a with | .int z => .int (((min (x.getD z.toNat 0) (y.getD z.toNat 0) : Nat)) : Int) | a => a) (by
      intro a ha
      obtain ⟨k, hk, rfl⟩ := List.mem_map.mp ha
      have hk5 : k < 5 := List.mem_range.mp hk
      have hz : (0 : Int) + (k : Int) * 1 = (k : Int) := by omega
      rw [hz]
      have v12 : X.ev Φd (.var 12 P0) (setS (capS σ [13, 12]) 18 (.int (k : Int))) = some (.list (intsL x)) := (cap_set (by omega) (by decide) (by decide)).trans h12
      have v13 : X.ev Φd (.var 13 P0) (setS (capS σ [13, 12]) 18 (.int (k : Int))) = some (.list (intsL y)) := (cap_set (by omega) (by decide) (by decide)).trans h13
      have v18 : X.ev Φd (.var 18 P0) (setS (capS σ [13, 12]) 18 (.int (k : Int))) = some (.int (k : Int)) := cap_self (by omega)
      have e1 := e_idx (p := P0) v12 v18 (idx_ints (k := k) (by omega) (by omega))
      have e2 := e_idx (p := P0) v13 v18 (idx_ints (k := k) (by omega) (by omega))
      have : minE.eltOf.ev Φd (setS (capS σ [13, 12]) 18 (.int (k : Int))) = some (.int (((min (x.getD k 0) (y.getD k 0) : Nat)) : Int)) := by
        refine e_bi e1 (es_cons e2 es_nil) ?_
        show some (PV.int (if ((y.getD k 0 : Nat) : Int) < ((x.getD k 0 : Nat) : Int) then ((y.getD k 0 : Nat) : Int) else ((x.getD k 0 : Nat) : Int))) = _
        congr 2
        split <;> omega
      show (minE.eltOf.ev Φd (setS (capS σ [13, 12]) 18 (.int (k : Int)))).bind PV.atm? = _
      rw [this]
      rfl)
    rw [this]
    obtain ⟨a, b, c, d, e, rfl⟩ := five hx
    obtain ⟨a', b', c', d', e', rfl⟩ := five hy
    rfl
  refine e_comp (it_r1 rfl range5') hmap (by
    obtain ⟨a, b, c, d, e, rfl⟩ := five hx
    obtain ⟨a', b', c', d', e', rfl⟩ := five hy
    show 5 ≤ lim
    decide)
theorem max_ev {x y : List Nat} {σ : Sg} (hσ : σ.length = 21) (hx : x.length = 5) (hy : y.length = 5) (h12 : getS σ 12 = some (.list (intsL x))) (h13 : getS σ 13 = some (.list (intsL y))) : maxE.ev Φd σ = some (.list (intsL (mxN x y))) := by
  have hmap : mapO (fun (a : Atm) => (maxE.eltOf.ev Φd (setS (capS σ [13, 12]) 18 a.pv)).bind PV.atm?) (rangeA 0 1 5) = some (intsL (mxN x y)) := by
    have := mapO_all (xs := rangeA 0 1 5) (f := fun (a : Atm) => (maxE.eltOf.ev Φd (setS (capS σ [13, 12]) 18 a.pv)).bind PV.atm?) (g := fun a => match a with | .int z => .int (((max (x.getD z.toNat 0) (y.getD z.toNat 0) : Nat)) : Int) | a => a) (by
      intro a ha
      obtain ⟨k, hk, rfl⟩ := List.mem_map.mp ha
      have hk5 : k < 5 := List.mem_range.mp hk
      have hz : (0 : Int) + (k : Int) * 1 = (k : Int) := by omega
      rw [hz]
      have v12 : X.ev Φd (.var 12 P0) (setS (capS σ [13, 12]) 18 (.int (k : Int))) = some (.list (intsL x)) := (cap_set (by omega) (by decide) (by decide)).trans h12
      have v13 : X.ev Φd (.var 13 P0) (setS (capS σ [13, 12]) 18 (.int (k : Int))) = some (.list (intsL y)) := (cap_set (by omega) (by decide) (by decide)).trans h13
      have v18 : X.ev Φd (.var 18 P0) (setS (capS σ [13, 12]) 18 (.int (k : Int))) = some (.int (k : Int)) := cap_self (by omega)
      have e1 := e_idx (p := P0) v12 v18 (idx_ints (k := k) (by omega) (by omega))
      have e2 := e_idx (p := P0) v13 v18 (idx_ints (k := k) (by omega) (by omega))
      have : maxE.eltOf.ev Φd (setS (capS σ [13, 12]) 18 (.int (k : Int))) = some (.int (((max (x.getD k 0) (y.getD k 0) : Nat)) : Int)) := by
        refine e_bi e1 (es_cons e2 es_nil) ?_
        show some (PV.int (if ((y.getD k 0 : Nat) : Int) > ((x.getD k 0 : Nat) : Int) then ((y.getD k 0 : Nat) : Int) else ((x.getD k 0 : Nat) : Int))) = _
        congr 2
        split <;> omega
      show (maxE.eltOf.ev Φd (setS (capS σ [13, 12]) 18 (.int (k : Int)))).bind PV.atm? = _
      rw [this]
      rfl)
    rw [this]
    obtain ⟨a, b, c, d, e, rfl⟩ := five hx
    obtain ⟨a', b', c', d', e', rfl⟩ := five hy
    rfl
  refine e_comp (it_r1 rfl range5') hmap (by
    obtain ⟨a, b, c, d, e, rfl⟩ := five hx
    obtain ⟨a', b', c', d', e', rfl⟩ := five hy
    show 5 ≤ lim
    decide)
end Mine
end
section
open PySem PySem.W PyProof.Rows PySem.Calls
set_option Elab.async false
set_option maxRecDepth 100000
namespace Mine

/-- what the tables say of two words -/
structure Pair (i j mt jn : Nat) : Prop where
  hi : i < 42
  hj : j < 42
  hm : mt < 42
  hn : jn < 42
  meet : mnN (hg i) (hg j) = hg mt
  join : (mxN (hg i) (hg j), jn) ∈ joinT
  up1 : leN (hg i) (hg jn) = true
  up2 : leN (hg j) (hg jn) = true
  back : ∀ u ∈ bk jn, u < 42 ∧ ¬ (leN (hg i) (hg u) = true ∧ leN (hg j) (hg u) = true)
theorem mx_le : ∀ {a b c : List Nat}, a.length = b.length → leN (mxN a b) c = true → leN a c = true ∧ leN b c = true
  | [], [], _, _, _ => ⟨rfl, rfl⟩
  | [], _ :: _, _, h, _ => by cases h
  | _ :: _, [], _, h, _ => by cases h
  | _ :: _, _ :: _, [], _, _ => ⟨rfl, rfl⟩
  | x :: a, y :: b, z :: c, h, hle => by
    unfold leN mxN at hle
    simp only [List.zipWith_cons_cons, List.all_cons, id, Bool.and_eq_true] at hle
    obtain ⟨i1, i2⟩ := mx_le (a := a) (b := b) (c := c) (Nat.succ.inj h) hle.2
    have hz := Nat.le_of_ble_eq_true hle.1
    unfold leN at i1 i2 ⊢
    simp only [List.zipWith_cons_cons, List.all_cons, id, Bool.and_eq_true]
    exact ⟨⟨Nat.ble_eq_true_of_le (Nat.le_trans (Nat.le_max_left ..) hz), i1⟩, Nat.ble_eq_true_of_le (Nat.le_trans (Nat.le_max_right ..) hz), i2⟩
theorem le_mx : ∀ {a b c : List Nat}, leN a c = true → leN b c = true → leN (mxN a b) c = true
  | [], _, _, _, _ => rfl
  | _ :: _, [], _, _, _ => rfl
  | _ :: _, _ :: _, [], _, _ => rfl
  | x :: a, y :: b, z :: c, h1, h2 => by
    unfold leN at h1 h2
    simp only [List.zipWith_cons_cons, List.all_cons, id, Bool.and_eq_true] at h1 h2
    have ih := le_mx (a := a) (b := b) (c := c) h1.2 h2.2
    unfold leN mxN at ih ⊢
    simp only [List.zipWith_cons_cons, List.all_cons, id, Bool.and_eq_true]
    exact ⟨Nat.ble_eq_true_of_le (Nat.max_le.mpr ⟨Nat.le_of_ble_eq_true h1.1, Nat.le_of_ble_eq_true h2.1⟩), ih⟩
theorem pair_of {i j : Nat} (hi : i < 42) (hj : j < 42) : ∃ mt jn, Pair i j mt jn := by
  have h1 : mnN (hg i) (hg j) ∈ hgtT := l_meet i hi j hj
  obtain ⟨mt, hmt, e⟩ := List.mem_iff_getElem.mp h1
  have hl : hgtT.length = 42 := by decide +kernel
  obtain ⟨jn, hin, hok⟩ := l_join i hi j hj
  unfold entryOk at hok
  simp only [Bool.and_eq_true, List.all_eq_true, Bool.not_eq_true'] at hok
  obtain ⟨⟨h3, h4⟩, h6⟩ := hok
  have blt : ∀ n : Nat, Nat.blt n 42 = true → n < 42 := fun n h => Nat.le_of_ble_eq_true h
  have hlen : (hg i).length = (hg j).length := (l_len i hi).1.trans (l_len j hj).1.symm
  obtain ⟨u1, u2⟩ := mx_le hlen h4
  refine ⟨mt, jn, hi, hj, by omega, blt _ h3, ?_, hin, u1, u2, fun u hu => ?_⟩
  · unfold hg
    rw [List.getD_eq_getElem?_getD (l := hgtT) (i := mt), List.getElem?_eq_getElem hmt, e]
    rfl
  · obtain ⟨h7, h8⟩ := h6 u hu
    refine ⟨blt _ h7, fun ⟨a, b⟩ => ?_⟩
    rw [le_mx a b] at h8
    cases h8
theorem mn_le : ∀ (a b : List Nat), leN (mnN a b) a = true ∧ leN (mnN a b) b = true
  | [], _ => ⟨rfl, rfl⟩
  | _ :: _, [] => ⟨rfl, rfl⟩
  | x :: a, y :: b => by
    obtain ⟨h1, h2⟩ := mn_le a b
    unfold leN mnN at h1 h2 ⊢
    simp only [List.zipWith_cons_cons, List.all_cons, id, Bool.and_eq_true]
    exact ⟨⟨Nat.ble_eq_true_of_le (Nat.min_le_left ..), h1⟩, Nat.ble_eq_true_of_le (Nat.min_le_right ..), h2⟩
theorem le_mn : ∀ (t a b : List Nat), leN t a = true → leN t b = true → leN t (mnN a b) = true
  | [], _, _, _, _ => rfl
  | _ :: _, [], _, _, _ => rfl
  | _ :: _, _ :: _, [], _, _ => rfl
  | z :: t, x :: a, y :: b, h1, h2 => by
    unfold leN at h1 h2
    simp only [List.zipWith_cons_cons, List.all_cons, id, Bool.and_eq_true] at h1 h2
    have ih := le_mn t a b h1.2 h2.2
    unfold leN mnN at ih ⊢
    simp only [List.zipWith_cons_cons, List.all_cons, id, Bool.and_eq_true]
    exact ⟨Nat.ble_eq_true_of_le (Nat.le_min.mpr ⟨Nat.le_of_ble_eq_true h1.1, Nat.le_of_ble_eq_true h2.1⟩), ih⟩
/-- no turn of the meet stays below both -/
theorem Pair.noTurn {i j mt jn : Nat} (P : Pair i j mt jn) : ∀ t ∈ tn mt, ¬ (leN (hg t) (hg i) = true ∧ leN (hg t) (hg j) = true) := by
  intro t ht ⟨h1, h2⟩
  obtain ⟨h3, h4⟩ := l_turn mt P.hm t ht
  have h5 := le_mn _ _ _ h1 h2
  rw [P.meet] at h5
  have := leN_sum _ _ (by rw [(l_len t h3).1, (l_len mt P.hm).1]) h5
  omega
theorem Pair.low1 {i j mt jn : Nat} (P : Pair i j mt jn) : leN (hg mt) (hg i) = true := P.meet ▸ (mn_le (hg i) (hg j)).1
theorem Pair.low2 {i j mt jn : Nat} (P : Pair i j mt jn) : leN (hg mt) (hg j) = true := P.meet ▸ (mn_le (hg i) (hg j)).2
end Mine
end
section
open PySem PySem.W PyProof.Rows PySem.Calls
set_option Elab.async false
set_option maxRecDepth 100000
namespace Mine

/-- the same but for one place -/
noncomputable def Agree (x : Nat) (σ σ' : Sg) : Prop := σ'.length = σ.length ∧ ∀ j, j ≠ x → getS σ' j = getS σ j
theorem Agree.refl (x : Nat) (σ : Sg) : Agree x σ σ := ⟨rfl, fun _ _ => rfl⟩
theorem Agree.set {x : Nat} {σ σ' : Sg} {p : PV} (h : Agree x σ σ') : Agree x σ (setS σ' x p) :=
  ⟨by unfold setS; rw [List.length_set]; exact h.1, fun j hj => by rw [getS_set, if_neg (fun e => hj e.1)]; exact h.2 j hj⟩
theorem loop_same {x : Nat} {b : Sg → Option Res} {σ : Sg} : ∀ (xs : List Atm) (σ' : Sg), Agree x σ σ' → (∀ a ∈ xs, ∀ σ', Agree x σ σ' → b (setS σ' x a.pv) = some (.next (setS σ' x a.pv))) → ∃ σ'', loopF x b xs σ' = some (.next σ'') ∧ Agree x σ σ''
  | [], σ', h, _ => ⟨σ', rfl, h⟩
  | a :: r, σ', h, hb => by
    obtain ⟨σ'', h1, h2⟩ := loop_same r (setS σ' x a.pv) h.set (fun a ha => hb a (List.mem_cons_of_mem _ ha))
    refine ⟨σ'', ?_, h2⟩
    rw [loopF, hb a List.mem_cons_self σ' h]
    exact h1
/-- the loop of quotes -/
theorem loop_quote {ds : List Nat} (hl : ds.length = 10) (hd : ∀ d ∈ ds, d ≤ 4) {σ : Sg} (hσ : σ.length = 21) : ∀ (xs : List Atm) (t : Nat) (σ' : Sg), t + xs.length ≤ 10 → σ'.length = 21 → (∀ j, j ≠ 9 → j ≠ 10 → getS σ' j = getS σ j) →
    (getS σ' 9 = some (.str (rowsT (endRows ds t))) ∧ 1 ≤ t) →
    ∃ σ'', loopF 10 (fun σ => Ss.ev Φd 30 (.cons (.assign 9 P0 (.call 4 (.var 9 P0) .nil P0 P0) P0) .nil) σ) xs σ' = some (.next σ'') ∧ σ''.length = 21 ∧ (∀ j, j ≠ 9 → j ≠ 10 → getS σ'' j = getS σ j) ∧ getS σ'' 9 = some (.str (rowsT (endRows ds (t + xs.length))))
  | [], t, σ', _, h1, h2, h3 => ⟨σ', rfl, h1, h2, h3.1⟩
  | a :: r, t, σ', ht, h1, h2, h3 => by
    simp only [List.length_cons] at ht
    have hb : Ss.ev Φd 30 (.cons (.assign 9 P0 (.call 4 (.var 9 P0) .nil P0 P0) P0) .nil) (setS σ' 10 a.pv) = some (.next (setS (setS σ' 10 a.pv) 9 (.str (rowsT (endRows ds (t + 1)))))) := by
      refine ss_next (s_assign (e_call (a := .str (rowsT (endRows ds t))) ?_ es_nil (quote_more hl hd (by omega)))) ss_nil
      show getS (setS σ' 10 a.pv) 9 = _
      rw [getS_set, if_neg (fun e => absurd e.1 (by decide))]
      exact h3.1
    have hlen : (setS (setS σ' 10 a.pv) 9 (.str (rowsT (endRows ds (t + 1))))).length = 21 := by unfold setS; rw [List.length_set, List.length_set, h1]
    obtain ⟨σ'', g1, g2, g3, g4⟩ := loop_quote hl hd hσ r (t + 1) (setS (setS σ' 10 a.pv) 9 (.str (rowsT (endRows ds (t + 1))))) (by omega) hlen
      (fun j h9 h10 => by rw [getS_set, if_neg (fun e => h9 e.1), getS_set, if_neg (fun e => h10 e.1)]; exact h2 j h9 h10)
      ⟨by rw [getS_set, if_pos ⟨rfl, by unfold setS; rw [List.length_set, h1]; decide⟩], by omega⟩
    refine ⟨σ'', ?_, g2, g3, by rw [g4]; simp only [List.length_cons]; congr 3; congr 1; omega⟩
    rw [loopF]
    show (match Ss.ev Φd 30 _ _ with | some (.next σ') => _ | some (.ret p) => _ | none => _) = _
    rw [hb]
    exact g1
end Mine
end
section
open PySem PySem.W PyProof.Rows PySem.Calls
set_option Elab.async false
set_option maxRecDepth 100000
namespace Mine

noncomputable def riderOf (m : Int) : List Nat := riders.getD (m.fmod 4).toNat []
theorem riderOf_in (m : Int) : riderOf m ∈ riders := by
  have h0 : 0 ≤ m.fmod 4 := Int.fmod_nonneg_of_pos _ (by decide)
  have h1 : m.fmod 4 < 4 := Int.fmod_lt_of_pos _ (by decide)
  unfold riderOf
  generalize m.fmod 4 = x at *
  have : x = 0 ∨ x = 1 ∨ x = 2 ∨ x = 3 := by omega
  rcases this with rfl | rfl | rfl | rfl <;> decide
noncomputable def timesOf (m : Int) : Nat := 1 + ((m.fdiv 4).fmod 3).toNat
theorem timesOf_in (m : Int) : 1 ≤ timesOf m ∧ timesOf m ≤ 3 := by
  have h0 : 0 ≤ (m.fdiv 4).fmod 3 := Int.fmod_nonneg_of_pos _ (by decide)
  have h1 : (m.fdiv 4).fmod 3 < 3 := Int.fmod_lt_of_pos _ (by decide)
  unfold timesOf
  omega
theorem timesOf_cast (m : Int) : (1 : Int) + (m.fdiv 4).fmod 3 = (timesOf m : Nat) := by
  have h0 : 0 ≤ (m.fdiv 4).fmod 3 := Int.fmod_nonneg_of_pos _ (by decide)
  unfold timesOf
  omega
section
variable {σ : Sg} {m : Int} {ns fs : List Atm} {i j mt jn : Nat}
theorem st2 {a b c d e f g : Atm} (h1 : getS σ 1 = some (.list [a, b, c, d, e, f, g])) (h2 : getS σ 2 = some (.list [a, b, c, d, e, f])) : (f_law.nth 2).ev Φd 30 σ = some (.next σ) := by
  have hs : X.ev Φd (.shi (.var 1 P0) (.int 6 P0) P0 P0) σ = some (.list [a, b, c, d, e, f]) := by
    have hv : X.ev Φd (.var 1 P0) σ = some (.list [a, b, c, d, e, f, g]) := h1
    rw [X.ev, hv]
    rfl
  refine s_if_f (t_cmp h2 hs ?_) ss_nil
  show some (!decide ([a, b, c, d, e, f] = [a, b, c, d, e, f])) = _
  rw [decide_eq_true rfl]
  rfl
theorem st3 {a b c d e f : Atm} (h1 : getS σ 1 = some (.list [a, b, c, d, e, f, .int m])) : (f_law.nth 3).ev Φd 30 σ = some (.next (setS σ 3 (.int m))) :=
  s_assign (e_idx h1 rfl rfl)
theorem st4 (h3 : getS σ 3 = some (.int m)) : (f_law.nth 4).ev Φd 30 σ = some (.next (setS σ 4 (.str (riderOf m)))) := by
  have h0 : 0 ≤ m.fmod 4 := Int.fmod_nonneg_of_pos _ (by decide)
  have h1 : m.fmod 4 < 4 := Int.fmod_lt_of_pos _ (by decide)
  have hidx : idxPV (.list [.str [], .str [92, 40], .str [34, 41, 34], .str [92, 92]]) (.int (m.fmod 4)) = some (.str (riderOf m)) := by
    unfold riderOf
    generalize m.fmod 4 = x at *
    have : x = 0 ∨ x = 1 ∨ x = 2 ∨ x = 3 := by omega
    rcases this with rfl | rfl | rfl | rfl <;> rfl
  exact s_assign (e_idx rfl (e_bin h3 rfl rfl) hidx)
theorem st5 (h3 : getS σ 3 = some (.int m)) : (f_law.nth 5).ev Φd 30 σ = some (.next (setS σ 5 (.int (timesOf m : Nat)))) := by
  rw [← timesOf_cast]
  exact s_assign (e_bin rfl (e_bin (e_bin h3 rfl rfl) rfl rfl) rfl)
theorem st6 {a : Int} {b c d e f : Atm} (h2 : getS σ 2 = some (.list [.int a, b, c, d, e, f])) (hw : Φd 10 [.int a] = some (.str (wd i))) : (f_law.nth 6).ev Φd 30 σ = some (.next (setS σ 6 (.str (wd i)))) :=
  s_assign (e_call (e_idx h2 rfl rfl) es_nil hw)
theorem st7 {b : Int} {a c d e f : Atm} (h2 : getS σ 2 = some (.list [a, .int b, c, d, e, f])) (hw : Φd 10 [.int b] = some (.str (wd j))) : (f_law.nth 7).ev Φd 30 σ = some (.next (setS σ 7 (.str (wd j)))) :=
  s_assign (e_call (e_idx h2 rfl rfl) es_nil hw)
theorem d11 {i : Nat} (h : i < 42) : Φd 11 [.str (wd i)] = some (.list (intsL (hg i))) := f_heights i h
theorem add_ints {x y : List Nat} (h : (x ++ y).length ≤ 1000) : binPV .Add (.list (intsL x)) (.list (intsL y)) = some (.list (intsL (x ++ y))) := by
  have e : intsL x ++ intsL y = intsL (x ++ y) := by simp [intsL]
  have h2 : (intsL x ++ intsL y).length ≤ lim := by rw [e]; simp only [intsL, List.length_map]; exact Nat.le_trans h (by decide)
  simp only [binPV, addPV]
  rw [if_pos h2, e]
theorem st8 (hi : i < 42) (hj : j < 42) (h6 : getS σ 6 = some (.str (wd i))) (h7 : getS σ 7 = some (.str (wd j))) : (f_law.nth 8).ev Φd 30 σ = some (.next (setS σ 8 (.list (intsL (hg i ++ hg j))))) :=
  s_assign (e_bin (e_call h6 es_nil (d11 hi)) (e_call h7 es_nil (d11 hj)) (add_ints (by rw [List.length_append, (l_len i hi).1, (l_len j hj).1]; decide)))
theorem ds_facts (hi : i < 42) (hj : j < 42) : (hg i ++ hg j).length = 10 ∧ ∀ d ∈ hg i ++ hg j, d ≤ 4 :=
  ⟨by rw [List.length_append, (l_len i hi).1, (l_len j hj).1], fun d hd => by
    rcases List.mem_append.mp hd with h | h
    · exact l_small i hi d h
    · exact l_small j hj d h⟩
theorem st9 {ds : List Nat} (hσ : σ.length = 21) (hl : ds.length = 10) (hd : ∀ d ∈ ds, d ≤ 4) (h8 : getS σ 8 = some (.list (intsL ds))) (h3 : getS σ 3 = some (.int m)) : (f_law.nth 9).ev Φd 30 σ = some (.next (setS σ 9 (.str (rowsT (mailRows ds m))))) :=
  s_assign (mail_ev hσ hl hd h8 h3)
theorem range_t {t : Nat} (h1 : 1 ≤ t) (h3 : t ≤ 3) : ∃ r, rangePV 0 (t : Int) 1 = some (.int 0 :: r) ∧ r.length + 1 = t := by
  have : t = 1 ∨ t = 2 ∨ t = 3 := by omega
  rcases this with rfl | rfl | rfl
  · exact ⟨[], by decide +kernel, rfl⟩
  · exact ⟨[.int 1], by decide +kernel, rfl⟩
  · exact ⟨[.int 1, .int 2], by decide +kernel, rfl⟩
theorem st10 {ds : List Nat} {t : Nat} (hσ : σ.length = 21) (hl : ds.length = 10) (hd : ∀ d ∈ ds, d ≤ 4) (ht1 : 1 ≤ t) (ht : t ≤ 3) (h9 : getS σ 9 = some (.str (rowsT (mailRows ds m)))) (h5 : getS σ 5 = some (.int (t : Nat))) :
    ∃ σ', (f_law.nth 10).ev Φd 30 σ = some (.next σ') ∧ σ'.length = 21 ∧ (∀ j, j ≠ 9 → j ≠ 10 → getS σ' j = getS σ j) ∧ getS σ' 9 = some (.str (rowsT (endRows ds t))) := by
  obtain ⟨r, hr, hrl⟩ := range_t ht1 ht
  have hb : Ss.ev Φd 30 (.cons (.assign 9 P0 (.call 4 (.var 9 P0) .nil P0 P0) P0) .nil) (setS σ 10 (.int 0)) = some (.next (setS (setS σ 10 (.int 0)) 9 (.str (rowsT (endRows ds 1))))) := by
    refine ss_next (s_assign (e_call (a := .str (rowsT (mailRows ds m))) ?_ es_nil (quote_first hl hd))) ss_nil
    show getS (setS σ 10 (.int 0)) 9 = _
    rw [getS_set, if_neg (fun e => absurd e.1 (by decide))]
    exact h9
  obtain ⟨σ', g1, g2, g3, g4⟩ := loop_quote hl hd hσ r 1 (setS (setS σ 10 (.int 0)) 9 (.str (rowsT (endRows ds 1)))) (by omega) (by unfold setS; rw [List.length_set, List.length_set, hσ])
    (fun j h9 h10 => by rw [getS_set, if_neg (fun e => h9 e.1), getS_set, if_neg (fun e => h10 e.1)])
    ⟨by rw [getS_set, if_pos ⟨rfl, by unfold setS; rw [List.length_set, hσ]; decide⟩], by omega⟩
  refine ⟨σ', s_for (it_r1 h5 hr) ?_, g2, g3, by rw [g4]; congr 4; omega⟩
  rw [loopF]
  show (match Ss.ev Φd 30 (.cons (.assign 9 P0 (.call 4 (.var 9 P0) .nil P0 P0) P0) .nil) (setS σ 10 (.int 0)) with | some (.next σ') => _ | some (.ret p) => _ | none => _) = _
  rw [hb]
  exact g1
theorem st11 {ds : List Nat} {t : Nat} (hσ : σ.length = 21) (hl : ds.length = 10) (hd : ∀ d ∈ ds, d ≤ 4) (ht : t ≤ 10) (h9 : getS σ 9 = some (.str (rowsT (endRows ds t)))) (h8 : getS σ 8 = some (.list (intsL ds))) (h5 : getS σ 5 = some (.int (t : Nat))) : (f_law.nth 11).ev Φd 30 σ = some (.next σ) := by
  refine s_if_f (t_cmp h9 (want_ev hσ hl hd ht h8 h5) ?_) ss_nil
  show some (!decide (rowsT (endRows ds t) = rowsT (endRows ds t))) = _
  rw [decide_eq_true rfl]
  rfl
theorem st12 {ds : List Nat} {t : Nat} (hσ : σ.length = 21) (hl : ds.length = 10) (hd : ∀ d ∈ ds, d ≤ 4) (ht1 : 1 ≤ t) (ht : t ≤ 10) (h9 : getS σ 9 = some (.str (rowsT (endRows ds t)))) (h5 : getS σ 5 = some (.int (t : Nat))) : (f_law.nth 12).ev Φd 30 σ = some (.next (setS σ 11 (.list (intsL ds)))) :=
  s_assignC (heights_ev hσ hl hd ht1 ht h9 h5)
theorem st13 (hi : i < 42) (hj : j < 42) (h11 : getS σ 11 = some (.list (intsL (hg i ++ hg j)))) : (f_law.nth 13).ev Φd 30 σ = some (.next (setS σ 12 (.list (intsL (hg i))))) := by
  refine s_assign ?_
  have hv : X.ev Φd (.var 11 P0) σ = some (.list (intsL (hg i ++ hg j))) := h11
  show X.ev Φd (.shi (.var 11 P0) (.int 5 P0) P0 P0) σ = _
  rw [X.ev, hv]
  obtain ⟨a, b, c, d, e, hx⟩ := five (l_len i hi).1
  obtain ⟨a', b', c', d', e', hy⟩ := five (l_len j hj).1
  rw [hx, hy]
  rfl
theorem st14 (hi : i < 42) (hj : j < 42) (h11 : getS σ 11 = some (.list (intsL (hg i ++ hg j)))) : (f_law.nth 14).ev Φd 30 σ = some (.next (setS σ 13 (.list (intsL (hg j))))) := by
  refine s_assign ?_
  have hv : X.ev Φd (.var 11 P0) σ = some (.list (intsL (hg i ++ hg j))) := h11
  show X.ev Φd (.slo (.var 11 P0) (.int 5 P0) P0 P0) σ = _
  rw [X.ev, hv]
  obtain ⟨a, b, c, d, e, hx⟩ := five (l_len i hi).1
  obtain ⟨a', b', c', d', e', hy⟩ := five (l_len j hj).1
  rw [hx, hy]
  rfl
theorem st15 (P : Pair i j mt jn) (hσ : σ.length = 21) (h12 : getS σ 12 = some (.list (intsL (hg i)))) (h13 : getS σ 13 = some (.list (intsL (hg j)))) : (f_law.nth 15).ev Φd 30 σ = some (.next (setS σ 14 (.str (wd mt)))) := by
  refine s_assign (e_call (min_ev hσ (l_len i P.hi).1 (l_len j P.hj).1 h12 h13) es_nil ?_)
  rw [P.meet]
  exact f_built mt P.hm
theorem st16 (P : Pair i j mt jn) (hσ : σ.length = 21) (h12 : getS σ 12 = some (.list (intsL (hg i)))) (h13 : getS σ 13 = some (.list (intsL (hg j)))) : (f_law.nth 16).ev Φd 30 σ = some (.next (setS σ 15 (.str (wd jn)))) :=
  have hj : Φd 13 [.list (intsL (mxN (hg i) (hg j)))] = some (.list (intsL (hg jn))) := f_join (mxN (hg i) (hg j), jn) P.join
  s_assign (e_call (e_call (max_ev hσ (l_len i P.hi).1 (l_len j P.hj).1 h12 h13) es_nil hj) es_nil (f_built jn P.hn))
theorem st17 (hn : jn < 42) (h15 : getS σ 15 = some (.str (wd jn))) : (f_law.nth 17).ev Φd 30 σ = some (.next (setS σ 16 (.list (intsL (hg jn))))) :=
  s_assign (e_call h15 es_nil (d11 hn))
end
end Mine
end
section
open PySem PySem.W PyProof.Rows PySem.Calls
set_option Elab.async false
set_option maxRecDepth 100000
namespace Mine

theorem rider_len {r : List Nat} (hr : r ∈ riders) : r.length ≤ 3 := by
  have : ∀ r ∈ riders, r.length ≤ 3 := by decide
  exact this r hr
noncomputable def bodyOf : S → Ss
  | .for _ _ _ b _ => b
  | _ => .nil
section
variable {σ : Sg} {i j mt jn : Nat} {r : List Nat}
theorem check_body (hr : r ∈ riders) (hi : i < 42) (h4 : getS σ 4 = some (.str r)) (h17 : getS σ 17 = some (.str (wd i))) : (bodyOf (f_law.nth 18)).ev Φd 30 σ = some (.next σ) := by
  obtain ⟨c1, c2, c3⟩ := f_check i hi r hr
  have hl := (l_len i hi).2
  have hrl := rider_len hr
  have s1 : X.ev Φd (.slo (.var 17 P0) (.int 1 P0) P0 P0) σ = some (.str ((wd i).drop 1)) := by
    have hv : X.ev Φd (.var 17 P0) σ = some (.str (wd i)) := h17
    rw [X.ev, hv]
    obtain ⟨a, b, c, d, e, f, g, h, i', j', hx⟩ := ten hl
    rw [hx]
    rfl
  have s2 : X.ev Φd (.idx (.var 17 P0) (.int 0 P0) P0) σ = some (.str ((wd i).take 1)) := by
    refine e_idx h17 rfl ?_
    obtain ⟨a, b, c, d, e, f, g, h, i', j', hx⟩ := ten hl
    rw [hx]
    rfl
  have s3 : X.ev Φd (.shi (.var 17 P0) (.neg 1 P0 P0) P0 P0) σ = some (.str ((wd i).take 9)) := by
    have hv : X.ev Φd (.var 17 P0) σ = some (.str (wd i)) := h17
    rw [X.ev, hv]
    obtain ⟨a, b, c, d, e, f, g, h, i', j', hx⟩ := ten hl
    rw [hx]
    rfl
  refine ss_next (s_if_f (t_or_f (t_cmp (e_call (e_bin h4 h17 (add_txt (by rw [List.length_append]; omega))) es_nil c1) rfl rfl)
    (t_cmp (e_call (e_bin (e_bin h4 s1 (add_txt (by rw [List.length_append, List.length_drop]; omega))) s2 (add_txt (by rw [List.length_append, List.length_append, List.length_drop, List.length_take]; omega))) es_nil c2) rfl rfl)) ss_nil) ?_
  refine ss_next (s_if_f (t_cmp (e_call (e_bin h4 s3 (add_txt (by rw [List.length_append, List.length_take]; omega))) es_nil c3) rfl rfl) ss_nil) ss_nil
theorem get17 {σ' : Sg} {p : PV} (h : σ'.length = 21) : getS (setS σ' 17 p) 17 = some p := by
  rw [getS_set, if_pos ⟨rfl, by rw [h]; decide⟩]
theorem get_ne17 {σ σ' : Sg} {k : Nat} {p : PV} (hA : Agree 17 σ σ') (hk : k ≠ 17) : getS (setS σ' 17 p) k = getS σ k := by
  rw [getS_set, if_neg (fun e => hk e.1)]
  exact hA.2 k hk
theorem st18 (P : Pair i j mt jn) (hr : r ∈ riders) (hσ : σ.length = 21) (h4 : getS σ 4 = some (.str r)) (h6 : getS σ 6 = some (.str (wd i))) (h7 : getS σ 7 = some (.str (wd j))) (h14 : getS σ 14 = some (.str (wd mt))) (h15 : getS σ 15 = some (.str (wd jn))) :
    ∃ σ', (f_law.nth 18).ev Φd 30 σ = some (.next σ') ∧ Agree 17 σ σ' := by
  obtain ⟨σ', h1, h2⟩ := loop_same (b := fun σ => (bodyOf (f_law.nth 18)).ev Φd 30 σ) [.str (wd i), .str (wd j), .str (wd mt), .str (wd jn)] σ (.refl 17 σ) (fun a ha σ' hA => by
    have : ∃ k, k < 42 ∧ a = .str (wd k) := by
      simp only [List.mem_cons, List.not_mem_nil, or_false] at ha
      rcases ha with rfl | rfl | rfl | rfl
      · exact ⟨i, P.hi, rfl⟩
      · exact ⟨j, P.hj, rfl⟩
      · exact ⟨mt, P.hm, rfl⟩
      · exact ⟨jn, P.hn, rfl⟩
    obtain ⟨k, hk, rfl⟩ := this
    exact check_body hr hk ((get_ne17 hA (by decide)).trans h4) (get17 (by rw [hA.1, hσ])))
  have hd : X.ev Φd (.disp (.cons (.var 6 P0) (.cons (.var 7 P0) (.cons (.var 14 P0) (.cons (.var 15 P0) .nil)))) P0) σ = some (.list [.str (wd i), .str (wd j), .str (wd mt), .str (wd jn)]) := by
    have he : Xs.ev Φd (.cons (.var 6 P0) (.cons (.var 7 P0) (.cons (.var 14 P0) (.cons (.var 15 P0) .nil)))) σ = some [.str (wd i), .str (wd j), .str (wd mt), .str (wd jn)] :=
      es_cons h6 (es_cons h7 (es_cons h14 (es_cons h15 es_nil)))
    rw [X.ev, he]
    rfl
  exact ⟨σ', s_for (it_x hd rfl) h1, h2⟩
theorem ne_str (l : List Nat) : cmpPV .NotEq (.str l) (.str l) = some false := by
  show some (!decide (l = l)) = _
  rw [decide_eq_true rfl]
  rfl
theorem st19 {a b e f : Atm} {c d : Int} (P : Pair i j mt jn) (hr : r ∈ riders) (h2 : getS σ 2 = some (.list [a, b, .int c, .int d, e, f])) (h4 : getS σ 4 = some (.str r)) (h6 : getS σ 6 = some (.str (wd i))) (h7 : getS σ 7 = some (.str (wd j))) (h14 : getS σ 14 = some (.str (wd mt))) (h12 : getS σ 12 = some (.list (intsL (hg i)))) (h13 : getS σ 13 = some (.list (intsL (hg j)))) :
    (f_law.nth 19).ev Φd 30 σ = some (.next σ) :=
  s_if_f (t_or_f (t_cmp (e_call h14 (es_cons h12 (es_cons (e_idx h2 rfl rfl) (es_cons h4 es_nil))) (walk_eq P.hm P.hi hr P.low1)) h6 (ne_str _))
    (t_cmp (e_call h14 (es_cons h13 (es_cons (e_idx h2 rfl rfl) (es_cons h4 es_nil))) (walk_eq P.hm P.hj hr P.low2)) h7 (ne_str _))) ss_nil
theorem st20 {a b c d : Atm} {e f : Int} (P : Pair i j mt jn) (hr : r ∈ riders) (h2 : getS σ 2 = some (.list [a, b, c, d, .int e, .int f])) (h4 : getS σ 4 = some (.str r)) (h6 : getS σ 6 = some (.str (wd i))) (h7 : getS σ 7 = some (.str (wd j))) (h15 : getS σ 15 = some (.str (wd jn))) (h16 : getS σ 16 = some (.list (intsL (hg jn)))) :
    (f_law.nth 20).ev Φd 30 σ = some (.next σ) :=
  s_if_f (t_or_f (t_cmp (e_call h6 (es_cons h16 (es_cons (e_idx h2 rfl rfl) (es_cons h4 es_nil))) (walk_eq P.hi P.hn hr P.up1)) h15 (ne_str _))
    (t_cmp (e_call h7 (es_cons h16 (es_cons (e_idx h2 rfl rfl) (es_cons h4 es_nil))) (walk_eq P.hj P.hn hr P.up2)) h15 (ne_str _))) ss_nil
theorem t_and_b {a b : T} {c d : Bool} {p : Pos} (h1 : a.ev Φd σ = some c) (h2 : b.ev Φd σ = some d) (h : ¬ (c = true ∧ d = true)) : T.ev Φd (.and a b p) σ = some false := by
  cases c with
  | false => exact t_and_f h1
  | true => cases d with
    | false => exact t_and_t h1 h2
    | true => exact absurd ⟨rfl, rfl⟩ h
theorem d16 {i g : Nat} (h : i < 42) (hg' : g < 42) : Φd 16 [.list (intsL (hg i)), .list (intsL (hg g))] = some (.bool (leN (hg i) (hg g))) := c16 h hg'
theorem st21 (P : Pair i j mt jn) (hr : r ∈ riders) (hσ : σ.length = 21) (h4 : getS σ 4 = some (.str r)) (h14 : getS σ 14 = some (.str (wd mt))) (h12 : getS σ 12 = some (.list (intsL (hg i)))) (h13 : getS σ 13 = some (.list (intsL (hg j)))) :
    ∃ σ', (f_law.nth 21).ev Φd 30 σ = some (.next σ') ∧ Agree 17 σ σ' := by
  obtain ⟨σ', h1, h2⟩ := loop_same (b := fun σ => (bodyOf (f_law.nth 21)).ev Φd 30 σ) (strL (tn mt)) σ (.refl 17 σ) (fun a ha σ' hA => by
    obtain ⟨t, ht, rfl⟩ := List.mem_map.mp ha
    have ht42 := (l_turn mt P.hm t ht).1
    have v17 : getS (setS σ' 17 (Atm.pv (.str (wd t)))) 17 = some (.str (wd t)) := get17 (by rw [hA.1, hσ])
    have v12 : getS (setS σ' 17 (Atm.pv (.str (wd t)))) 12 = some (.list (intsL (hg i))) := (get_ne17 hA (by decide)).trans h12
    have v13 : getS (setS σ' 17 (Atm.pv (.str (wd t)))) 13 = some (.list (intsL (hg j))) := (get_ne17 hA (by decide)).trans h13
    exact ss_next (s_if_f (t_and_b (t_call (e_call v17 es_nil (d11 ht42)) (es_cons v12 es_nil) (d16 ht42 P.hi)) (t_call (e_call v17 es_nil (d11 ht42)) (es_cons v13 es_nil) (d16 ht42 P.hj)) (P.noTurn t ht)) ss_nil) ss_nil)
  exact ⟨σ', s_for (it_x (e_call h14 (es_cons h4 es_nil) (f_turns mt P.hm r hr)) rfl) h1, h2⟩
theorem st22 (P : Pair i j mt jn) (hr : r ∈ riders) (hσ : σ.length = 21) (h4 : getS σ 4 = some (.str r)) (h15 : getS σ 15 = some (.str (wd jn))) (h12 : getS σ 12 = some (.list (intsL (hg i)))) (h13 : getS σ 13 = some (.list (intsL (hg j)))) :
    ∃ σ', (f_law.nth 22).ev Φd 30 σ = some (.next σ') ∧ Agree 17 σ σ' := by
  obtain ⟨σ', h1, h2⟩ := loop_same (b := fun σ => (bodyOf (f_law.nth 22)).ev Φd 30 σ) (strL (bk jn)) σ (.refl 17 σ) (fun a ha σ' hA => by
    obtain ⟨t, ht, rfl⟩ := List.mem_map.mp ha
    obtain ⟨ht42, hno⟩ := P.back t ht
    have v17 : getS (setS σ' 17 (Atm.pv (.str (wd t)))) 17 = some (.str (wd t)) := get17 (by rw [hA.1, hσ])
    have v12 : getS (setS σ' 17 (Atm.pv (.str (wd t)))) 12 = some (.list (intsL (hg i))) := (get_ne17 hA (by decide)).trans h12
    have v13 : getS (setS σ' 17 (Atm.pv (.str (wd t)))) 13 = some (.list (intsL (hg j))) := (get_ne17 hA (by decide)).trans h13
    exact ss_next (s_if_f (t_and_b (t_call v12 (es_cons (e_call v17 es_nil (d11 ht42)) es_nil) (d16 P.hi ht42)) (t_call v13 (es_cons (e_call v17 es_nil (d11 ht42)) es_nil) (d16 P.hj ht42)) hno) ss_nil) ss_nil)
  exact ⟨σ', s_for (it_x (e_call h15 (es_cons h4 es_nil) (f_back jn P.hn r hr)) rfl) h1, h2⟩
theorem st23 : (f_law.nth 23).ev Φd 30 σ = some (.ret (.bool true)) := s_ret rfl
end
end Mine
end
section
open PySem PySem.W PyProof.Rows PySem.Calls
set_option Elab.async false
set_option maxRecDepth 100000
namespace Mine

noncomputable def Ss.dropN : Ss → Nat → Ss
  | f, 0 => f
  | .nil, _ + 1 => .nil
  | .cons _ r, n + 1 => r.dropN n
theorem kp {σ : Sg} {x k : Nat} {v : PV} {p : Option PV} (h : getS σ k = p) (hn : k ≠ x) : getS (setS σ x v) k = p := by
  rw [getS_set, if_neg (fun e => hn e.1)]; exact h
theorem nw {σ : Sg} {x : Nat} {v : PV} (hσ : σ.length = 21) (hx : x < 21) : getS (setS σ x v) x = some v := by
  rw [getS_set, if_pos ⟨rfl, by rw [hσ]; exact hx⟩]
theorem ln {σ : Sg} {x : Nat} {v : PV} (hσ : σ.length = 21) : (setS σ x v).length = 21 := by
  unfold setS; rw [List.length_set]; exact hσ
/-- the law from its third statement on -/
theorem tail_ev {σ : Sg} {n0 n1 n2 n3 n4 n5 m : Int} (hσ : σ.length = 21) (h1 : getS σ 1 = some (.list [.int n0, .int n1, .int n2, .int n3, .int n4, .int n5, .int m]))
    (h2 : getS σ 2 = some (.list [.int n0, .int n1, .int n2, .int n3, .int n4, .int n5])) : (f_law.dropN 2).ev Φd 30 σ = some (.ret (.bool true)) := by
  obtain ⟨i, hi, wi⟩ := word_in n0
  obtain ⟨j, hj, wj⟩ := word_in n1
  obtain ⟨mt, jn, P⟩ := pair_of hi hj
  obtain ⟨hl, hd⟩ := ds_facts hi hj
  obtain ⟨ht1, ht3⟩ := timesOf_in m
  have hr := riderOf_in m
  refine ss_next (st2 h1 h2) ?_
  refine ss_next (st3 h1) ?_
  replace h1 := True.intro
  generalize hσ3 : setS σ 3 (.int m) = σ3
  have l3 : σ3.length = 21 := hσ3 ▸ ln hσ
  have a2 : getS σ3 2 = _ := hσ3 ▸ kp h2 (by decide)
  have a3 : getS σ3 3 = _ := hσ3 ▸ nw hσ (by decide)
  clear hσ3 h2 hσ
  refine ss_next (st4 a3) ?_
  generalize e4 : setS σ3 4 _ = σ4
  have l4 : σ4.length = 21 := e4 ▸ ln l3
  have b2 : getS σ4 2 = _ := e4 ▸ kp a2 (by decide)
  have b3 : getS σ4 3 = _ := e4 ▸ kp a3 (by decide)
  have b4 : getS σ4 4 = _ := e4 ▸ nw l3 (by decide)
  clear e4 a2 a3 l3
  refine ss_next (st5 b3) ?_
  generalize e5 : setS σ4 5 _ = σ5
  have l5 : σ5.length = 21 := e5 ▸ ln l4
  have a2 : getS σ5 2 = _ := e5 ▸ kp b2 (by decide)
  have a3 : getS σ5 3 = _ := e5 ▸ kp b3 (by decide)
  have a4 : getS σ5 4 = _ := e5 ▸ kp b4 (by decide)
  have a5 : getS σ5 5 = _ := e5 ▸ nw l4 (by decide)
  clear e5 b2 b3 b4 l4
  refine ss_next (st6 a2 wi) ?_
  generalize e6 : setS σ5 6 _ = σ6
  have l6 : σ6.length = 21 := e6 ▸ ln l5
  have b2 : getS σ6 2 = _ := e6 ▸ kp a2 (by decide)
  have b3 : getS σ6 3 = _ := e6 ▸ kp a3 (by decide)
  have b4 : getS σ6 4 = _ := e6 ▸ kp a4 (by decide)
  have b5 : getS σ6 5 = _ := e6 ▸ kp a5 (by decide)
  have b6 : getS σ6 6 = _ := e6 ▸ nw l5 (by decide)
  clear e6 a2 a3 a4 a5 l5
  refine ss_next (st7 b2 wj) ?_
  generalize e7 : setS σ6 7 _ = σ7
  have l7 : σ7.length = 21 := e7 ▸ ln l6
  have a2 : getS σ7 2 = _ := e7 ▸ kp b2 (by decide)
  have a3 : getS σ7 3 = _ := e7 ▸ kp b3 (by decide)
  have a4 : getS σ7 4 = _ := e7 ▸ kp b4 (by decide)
  have a5 : getS σ7 5 = _ := e7 ▸ kp b5 (by decide)
  have a6 : getS σ7 6 = _ := e7 ▸ kp b6 (by decide)
  have a7 : getS σ7 7 = _ := e7 ▸ nw l6 (by decide)
  clear e7 b2 b3 b4 b5 b6 l6
  refine ss_next (st8 hi hj a6 a7) ?_
  generalize e8 : setS σ7 8 _ = σ8
  have l8 : σ8.length = 21 := e8 ▸ ln l7
  have b2 : getS σ8 2 = _ := e8 ▸ kp a2 (by decide)
  have b3 : getS σ8 3 = _ := e8 ▸ kp a3 (by decide)
  have b4 : getS σ8 4 = _ := e8 ▸ kp a4 (by decide)
  have b5 : getS σ8 5 = _ := e8 ▸ kp a5 (by decide)
  have b6 : getS σ8 6 = _ := e8 ▸ kp a6 (by decide)
  have b7 : getS σ8 7 = _ := e8 ▸ kp a7 (by decide)
  have b8 : getS σ8 8 = _ := e8 ▸ nw l7 (by decide)
  clear e8 a2 a3 a4 a5 a6 a7 l7
  refine ss_next (st9 l8 hl hd b8 b3) ?_
  generalize e9 : setS σ8 9 _ = σ9
  have l9 : σ9.length = 21 := e9 ▸ ln l8
  have a2 : getS σ9 2 = _ := e9 ▸ kp b2 (by decide)
  have a4 : getS σ9 4 = _ := e9 ▸ kp b4 (by decide)
  have a5 : getS σ9 5 = _ := e9 ▸ kp b5 (by decide)
  have a6 : getS σ9 6 = _ := e9 ▸ kp b6 (by decide)
  have a7 : getS σ9 7 = _ := e9 ▸ kp b7 (by decide)
  have a8 : getS σ9 8 = _ := e9 ▸ kp b8 (by decide)
  have a9 : getS σ9 9 = _ := e9 ▸ nw l8 (by decide)
  clear e9 b2 b3 b4 b5 b6 b7 b8 l8
  obtain ⟨σ10, s10, l10, k10, b9⟩ := st10 l9 hl hd ht1 ht3 a9 a5
  refine ss_next s10 ?_
  have b2 : getS σ10 2 = _ := (k10 2 (by decide) (by decide)).trans a2
  have b4 : getS σ10 4 = _ := (k10 4 (by decide) (by decide)).trans a4
  have b5 : getS σ10 5 = _ := (k10 5 (by decide) (by decide)).trans a5
  have b6 : getS σ10 6 = _ := (k10 6 (by decide) (by decide)).trans a6
  have b7 : getS σ10 7 = _ := (k10 7 (by decide) (by decide)).trans a7
  have b8 : getS σ10 8 = _ := (k10 8 (by decide) (by decide)).trans a8
  clear k10 s10 a2 a4 a5 a6 a7 a8 a9 l9
  refine ss_next (st11 l10 hl hd (by omega) b9 b8 b5) ?_
  refine ss_next (st12 l10 hl hd ht1 (by omega) b9 b5) ?_
  generalize e11 : setS σ10 11 _ = σ11
  have l11 : σ11.length = 21 := e11 ▸ ln l10
  have a2 : getS σ11 2 = _ := e11 ▸ kp b2 (by decide)
  have a4 : getS σ11 4 = _ := e11 ▸ kp b4 (by decide)
  have a6 : getS σ11 6 = _ := e11 ▸ kp b6 (by decide)
  have a7 : getS σ11 7 = _ := e11 ▸ kp b7 (by decide)
  have a11 : getS σ11 11 = _ := e11 ▸ nw l10 (by decide)
  clear e11 b2 b4 b5 b6 b7 b8 b9 l10
  refine ss_next (st13 hi hj a11) ?_
  generalize e12 : setS σ11 12 _ = σ12
  have l12 : σ12.length = 21 := e12 ▸ ln l11
  have b2 : getS σ12 2 = _ := e12 ▸ kp a2 (by decide)
  have b4 : getS σ12 4 = _ := e12 ▸ kp a4 (by decide)
  have b6 : getS σ12 6 = _ := e12 ▸ kp a6 (by decide)
  have b7 : getS σ12 7 = _ := e12 ▸ kp a7 (by decide)
  have b11 : getS σ12 11 = _ := e12 ▸ kp a11 (by decide)
  have b12 : getS σ12 12 = _ := e12 ▸ nw l11 (by decide)
  clear e12 a2 a4 a6 a7 a11 l11
  refine ss_next (st14 hi hj b11) ?_
  generalize e13 : setS σ12 13 _ = σ13
  have l13 : σ13.length = 21 := e13 ▸ ln l12
  have a2 : getS σ13 2 = _ := e13 ▸ kp b2 (by decide)
  have a4 : getS σ13 4 = _ := e13 ▸ kp b4 (by decide)
  have a6 : getS σ13 6 = _ := e13 ▸ kp b6 (by decide)
  have a7 : getS σ13 7 = _ := e13 ▸ kp b7 (by decide)
  have a12 : getS σ13 12 = _ := e13 ▸ kp b12 (by decide)
  have a13 : getS σ13 13 = _ := e13 ▸ nw l12 (by decide)
  clear e13 b2 b4 b6 b7 b11 b12 l12
  refine ss_next (st15 P l13 a12 a13) ?_
  generalize e14 : setS σ13 14 _ = σ14
  have l14 : σ14.length = 21 := e14 ▸ ln l13
  have b2 : getS σ14 2 = _ := e14 ▸ kp a2 (by decide)
  have b4 : getS σ14 4 = _ := e14 ▸ kp a4 (by decide)
  have b6 : getS σ14 6 = _ := e14 ▸ kp a6 (by decide)
  have b7 : getS σ14 7 = _ := e14 ▸ kp a7 (by decide)
  have b12 : getS σ14 12 = _ := e14 ▸ kp a12 (by decide)
  have b13 : getS σ14 13 = _ := e14 ▸ kp a13 (by decide)
  have b14 : getS σ14 14 = _ := e14 ▸ nw l13 (by decide)
  clear e14 a2 a4 a6 a7 a12 a13 l13
  refine ss_next (st16 P l14 b12 b13) ?_
  generalize e15 : setS σ14 15 _ = σ15
  have l15 : σ15.length = 21 := e15 ▸ ln l14
  have a2 : getS σ15 2 = _ := e15 ▸ kp b2 (by decide)
  have a4 : getS σ15 4 = _ := e15 ▸ kp b4 (by decide)
  have a6 : getS σ15 6 = _ := e15 ▸ kp b6 (by decide)
  have a7 : getS σ15 7 = _ := e15 ▸ kp b7 (by decide)
  have a12 : getS σ15 12 = _ := e15 ▸ kp b12 (by decide)
  have a13 : getS σ15 13 = _ := e15 ▸ kp b13 (by decide)
  have a14 : getS σ15 14 = _ := e15 ▸ kp b14 (by decide)
  have a15 : getS σ15 15 = _ := e15 ▸ nw l14 (by decide)
  clear e15 b2 b4 b6 b7 b12 b13 b14 l14
  refine ss_next (st17 P.hn a15) ?_
  generalize e16 : setS σ15 16 _ = σ16
  have l16 : σ16.length = 21 := e16 ▸ ln l15
  have b2 : getS σ16 2 = _ := e16 ▸ kp a2 (by decide)
  have b4 : getS σ16 4 = _ := e16 ▸ kp a4 (by decide)
  have b6 : getS σ16 6 = _ := e16 ▸ kp a6 (by decide)
  have b7 : getS σ16 7 = _ := e16 ▸ kp a7 (by decide)
  have b12 : getS σ16 12 = _ := e16 ▸ kp a12 (by decide)
  have b13 : getS σ16 13 = _ := e16 ▸ kp a13 (by decide)
  have b14 : getS σ16 14 = _ := e16 ▸ kp a14 (by decide)
  have b15 : getS σ16 15 = _ := e16 ▸ kp a15 (by decide)
  have b16 : getS σ16 16 = _ := e16 ▸ nw l15 (by decide)
  clear e16 a2 a4 a6 a7 a12 a13 a14 a15 l15
  obtain ⟨σ18, s18, g18⟩ := st18 P hr l16 b4 b6 b7 b14 b15
  refine ss_next s18 ?_
  have l18 : σ18.length = 21 := g18.1.trans l16
  have a2 : getS σ18 2 = _ := (g18.2 2 (by decide)).trans b2
  have a4 : getS σ18 4 = _ := (g18.2 4 (by decide)).trans b4
  have a6 : getS σ18 6 = _ := (g18.2 6 (by decide)).trans b6
  have a7 : getS σ18 7 = _ := (g18.2 7 (by decide)).trans b7
  have a12 : getS σ18 12 = _ := (g18.2 12 (by decide)).trans b12
  have a13 : getS σ18 13 = _ := (g18.2 13 (by decide)).trans b13
  have a14 : getS σ18 14 = _ := (g18.2 14 (by decide)).trans b14
  have a15 : getS σ18 15 = _ := (g18.2 15 (by decide)).trans b15
  have a16 : getS σ18 16 = _ := (g18.2 16 (by decide)).trans b16
  refine ss_next (st19 P hr a2 a4 a6 a7 a14 a12 a13) ?_
  refine ss_next (st20 P hr a2 a4 a6 a7 a15 a16) ?_
  obtain ⟨σ21, s21, g21⟩ := st21 P hr l18 a4 a14 a12 a13
  refine ss_next s21 ?_
  have l21 : σ21.length = 21 := g21.1.trans l18
  obtain ⟨σ22, s22, g22⟩ := st22 P hr l21 ((g21.2 4 (by decide)).trans a4) ((g21.2 15 (by decide)).trans a15) ((g21.2 12 (by decide)).trans a12) ((g21.2 13 (by decide)).trans a13)
  refine ss_next s22 ?_
  exact ss_ret st23
end Mine
end
section
open PySem PySem.W PyProof.Rows PySem.Calls
set_option Elab.async false
set_option maxRecDepth 100000
namespace Mine
section
variable {prog : Program} {w : World} {A : Around} {E : Value → Shared → Prop} {s : Shared} {b : Array UInt8} {t : Tok} {it : Addr} {i : Nat} {c : UInt8} {Q : Value → Shared → Prop}
theorem tape_iter (h : Q (.ref s.heap.objs.size) { s with heap := s.heap.push { cls := .type "bytes_iterator", data := .fields #[.bytes b t, .int 0 0] } }) :
    wpAny (model prog w) A (call (.builtin "iter") [.bytes b t]) Q E s := by
  refine call_function_entry (by decide +kernel) (by decide +kernel) kdk_entry_iter (kdk_args_iter _) ?_
  unfold Builtin.«iter»
  refine wpAny_bind (m := someArgs "iter" 1 2 _) (wpAny_of_eq (a := [Value.bytes b t]) (by first | rfl | kernel_rfl!) ?_)
  show wpAny _ _ (pyIter (.bytes b t) >>= _) _ _ _
  refine wpAny_bind (KBw.pyIter_bytes ?_)
  exact wpAny_pure ⟨_, rfl, h⟩
theorem tape_next (hit : KBw.IsBytesIter s.heap it b t i) (hx : b[i]? = some c)
    (hQ : ∀ h', KBw.IsBytesIter h' it b t (i + 1) → Heap.SameBut it s.heap h' → Q (.int (c.toNat : Int) s.toks) { s with heap := h', toks := s.toks + 1 }) :
    wpAny (model prog w) A (call (.builtin "next") [.ref it]) Q E s := by
  obtain ⟨o, ho, hc, hd⟩ := id hit
  refine call_function_entry (by decide +kernel) (by decide +kernel) kdk_entry_next (kdk_args_next _) ?_
  unfold Builtin.«next»
  refine wpAny_bind (m := someArgs "next" 1 2 _) (wpAny_of_eq (a := [Value.ref it]) (by first | rfl | kernel_rfl!) ?_)
  dsimp only
  refine wpAny_bind (wpAny_specialOf (name := PySem.Str.ofString "__next__") (KBw.iter_typeIs hit) KBw.slot_next.lookup ?_)
  refine wpAny_ite_split (fun hab => absurd hab (by decide)) (fun _ => ?_)
  refine wpAny_bind (wpAny_callSpecial?_slot (name := PySem.Str.ofString "__next__") (KBw.iter_typeIs hit) KBw.slot_next
    (wpAny_call_entry KBw.slot_next (KBw.iter_typeIs hit) KBw.entry_next ?_ (KBw.args_next _)))
  show wpAny _ _ (field (.ref it) 0 >>= _) _ _ s
  refine wpAny_bind (wpAny_field ho hd (x := .bytes b t) rfl ?_)
  show wpAny _ _ (if (Value.bytes b t == Value.none) = true then _ else _) _ _ s
  rw [if_neg (show ¬ ((Value.bytes b t == Value.none) = true) from Bool.false_ne_true)]
  show wpAny _ _ (field (.ref it) 1 >>= _) _ _ s
  refine wpAny_bind (wpAny_field ho hd (x := .int i 0) rfl ?_)
  refine wpAny_bind (wpAny_of_eq (a := b) rfl ?_)
  simp only [Int.toNat_natCast, hx]
  refine wpAny_bind (wpAny_setField ho hd (by simp) (wpAny_bind (wpAny_mkInt (wpAny_pure ⟨_, rfl, wpAny_pure ⟨_, rfl, hQ _ ?_ (Heap.SameBut.update ..)⟩⟩))))
  exact ⟨_, Heap.get?_update_self _ ho (Obj.isFreed_of_fields (Obj.data_mapFields hd _)), (Obj.cls_mapFields ..).trans hc, by
    rw [Obj.data_mapFields hd]; simp [rawInt]⟩
theorem tape_stop (hh : A.handled = none) (hit : KBw.IsBytesIter s.heap it b t i) (hx : b[i]? = none)
    (hE : ∀ h' h'' e, Heap.SameBut it s.heap h' → Heap.MadeExcOf h' h'' e (.type "StopIteration") [] → E (.ref e) { s with heap := h'' }) :
    wpAny (model prog w) A (call (.builtin "next") [.ref it]) Q E s := by
  obtain ⟨o, ho, hc, hd⟩ := id hit
  refine call_function_entry (by decide +kernel) (by decide +kernel) kdk_entry_next (kdk_args_next _) ?_
  unfold Builtin.«next»
  refine wpAny_bind (m := someArgs "next" 1 2 _) (wpAny_of_eq (a := [Value.ref it]) (by first | rfl | kernel_rfl!) ?_)
  dsimp only
  refine wpAny_bind (wpAny_specialOf (name := PySem.Str.ofString "__next__") (KBw.iter_typeIs hit) KBw.slot_next.lookup ?_)
  refine wpAny_ite_split (fun hab => absurd hab (by decide)) (fun _ => ?_)
  refine wpAny_bind (wpAny_callSpecial?_slot (name := PySem.Str.ofString "__next__") (KBw.iter_typeIs hit) KBw.slot_next
    (wpAny_call_entry KBw.slot_next (KBw.iter_typeIs hit) KBw.entry_next ?_ (KBw.args_next _)))
  show wpAny _ _ (field (.ref it) 0 >>= _) _ _ s
  refine wpAny_bind (wpAny_field ho hd (x := .bytes b t) rfl ?_)
  show wpAny _ _ (if (Value.bytes b t == Value.none) = true then _ else _) _ _ s
  rw [if_neg (show ¬ ((Value.bytes b t == Value.none) = true) from Bool.false_ne_true)]
  show wpAny _ _ (field (.ref it) 1 >>= _) _ _ s
  refine wpAny_bind (wpAny_field ho hd (x := .int i 0) rfl ?_)
  refine wpAny_bind (wpAny_of_eq (a := b) rfl ?_)
  simp only [Int.toNat_natCast, hx]
  refine wpAny_bind (wpAny_rule (wpAny_bind (wpAny_setField ho hd (by simp) ?_)))
  have hfree : ∀ (h : Heap), h.get? h.objs.size = none := fun h => by
    cases q : h.get? h.objs.size with
    | none => rfl
    | some o => exact absurd (Heap.lt_size q) (Nat.lt_irrefl _)
  show wpAny _ _ (newExc (.type "StopIteration") [] >>= _) _ _ _
  refine wpAny_bind ?_
  simp only [newExc, newTuple]
  refine wpAny_bind (wpAny_newObj_type ?_ (by size_fits))
  refine wpAny_bind (m := firstArgMember _ _) (wpAny_of_eq (a := Value.none) (by first | rfl | (simp only [firstArgMember]; rfl)) ?_)
  refine wpAny_newObj_type ?_ (by size_fits)
  simp only [raiseNew]
  refine wpAny_bind (wpAny_handled ?_)
  rw [show A.in1.handled = none from hh]
  refine wpAny_bind (wpAny_pure (wpAny_throw ?_))
  refine hE _ _ _ (Heap.SameBut.update ..) ⟨fun b o e => Heap.get?_push_of_some _ (Heap.get?_push_of_some _ e), ?_, _, Heap.get?_push_size _ rfl, hfree _, Heap.get?_push_of_some _ (Heap.get?_push_size _ rfl)⟩
  cases q : (s.heap.update it (Obj.mapFields (·.setIfInBounds 0 Value.none))).get? ((s.heap.update it (Obj.mapFields (·.setIfInBounds 0 Value.none))).push { cls := .type "tuple", data := .seq ([] : List Value).toArray }).objs.size with
  | none => rfl
  | some o => exact absurd (Heap.lt_size q) (by simp [Heap.push])
end
end Mine
end
section
open PySem PySem.W PyProof.Rows PySem.Calls
set_option Elab.async false
set_option maxRecDepth 100000
namespace Mine

/-- the octets of a number's digits, the highest first -/
noncomputable def encF : List Nat → List Nat
  | [] => []
  | [d] => [128 + d]
  | d :: r => (64 + d) :: encF r
noncomputable def valF (v : Nat) (ds : List Nat) : Nat := ds.foldl (fun v d => v * 64 + d) v
theorem encF_cons (d e : Nat) (r : List Nat) : encF (d :: e :: r) = (64 + d) :: encF (e :: r) := rfl
theorem encF_ne (d : Nat) (r : List Nat) : encF (d :: r) ≠ [] := by cases r <;> exact fun h => nomatch h
theorem encF_length : ∀ ds : List Nat, (encF ds).length = ds.length
  | [] => rfl
  | [_] => rfl
  | d :: e :: r => by rw [encF_cons, List.length_cons, encF_length (e :: r)]; rfl
theorem and_hi : ∀ d, d < 64 → Builtin.bitAnd ((64 + d : Nat) : Int) 63 = (d : Nat) ∧ Builtin.bitAnd ((64 + d : Nat) : Int) 64 = 64 ∧ Builtin.bitAnd ((128 + d : Nat) : Int) 63 = (d : Nat) ∧ Builtin.bitAnd ((128 + d : Nat) : Int) 64 = 0 := by
  decide +kernel
theorem nat_and0 {v d : Nat} (h : d < 64) : (v * 64) &&& d = 0 := by
  have h1 : d &&& 63 = d := by
    have := Nat.and_two_pow_sub_one_eq_mod d 6
    rw [show 2 ^ 6 - 1 = 63 from rfl, show 2 ^ 6 = 64 from rfl, Nat.mod_eq_of_lt h] at this
    exact this
  have h2 : (v * 64) &&& 63 = 0 := by
    have := Nat.and_two_pow_sub_one_eq_mod (v * 64) 6
    rw [show 2 ^ 6 - 1 = 63 from rfl, show 2 ^ 6 = 64 from rfl] at this
    rw [this]; omega
  rw [← h1, Nat.and_comm d 63, ← Nat.and_assoc, h2, Nat.zero_and]
theorem or_shift {v d : Nat} (h : d < 64) : Builtin.bitOr ((v : Int) * 2 ^ (6 : Int).toNat) (d : Int) = ((v * 64 + d : Nat) : Int) := by
  have e : (v : Int) * 2 ^ (6 : Int).toNat = ((v * 64 : Nat) : Int) := by
    show (v : Int) * 64 = _
    omega
  rw [e, bitOr_and]
  have : Builtin.bitAnd ((v * 64 : Nat) : Int) (d : Int) = 0 := by
    unfold Builtin.bitAnd
    rw [decide_eq_true (Int.natCast_nonneg _), decide_eq_true (Int.natCast_nonneg _)]
    simp only [Int.toNat_natCast]
    rw [nat_and0 h]
    rfl
  rw [this]
  omega

noncomputable def dPV : DefItem := ⟨"_parse_varint", ⟨[], [⟨"iterator", none, ⟨46,18,46,26⟩⟩], none, [], [], none, []⟩, [(.Assign [(.Name "b" ⟨47,4,47,5⟩)] (.Call (.Name "next" ⟨47,8,47,12⟩) [(.Name "iterator" ⟨47,13,47,21⟩)] [] ⟨47,8,47,22⟩) ⟨47,4,47,22⟩),
  (.Assign [(.Name "val" ⟨48,4,48,7⟩)] (.BinOp (.Name "b" ⟨48,10,48,11⟩) .BitAnd (.Constant (.int (63)) 0 ⟨48,14,48,16⟩) ⟨48,10,48,16⟩) ⟨48,4,48,16⟩),
  (.While (.BinOp (.Name "b" ⟨49,10,49,11⟩) .BitAnd (.Constant (.int (64)) 0 ⟨49,14,49,16⟩) ⟨49,10,49,16⟩) [(.AugAssign (.Name "val" ⟨50,8,50,11⟩) .LShift (.Constant (.int (6)) 0 ⟨50,16,50,17⟩) ⟨50,8,50,17⟩),
    (.Assign [(.Name "b" ⟨51,8,51,9⟩)] (.Call (.Name "next" ⟨51,12,51,16⟩) [(.Name "iterator" ⟨51,17,51,25⟩)] [] ⟨51,12,51,26⟩) ⟨51,8,51,26⟩),
    (.AugAssign (.Name "val" ⟨52,8,52,11⟩) .BitOr (.BinOp (.Name "b" ⟨52,15,52,16⟩) .BitAnd (.Constant (.int (63)) 0 ⟨52,19,52,21⟩) ⟨52,15,52,21⟩) ⟨52,8,52,21⟩)] [] ⟨49,4,52,21⟩),
  (.Return (some (.Name "val" ⟨53,11,53,14⟩)) ⟨53,4,53,14⟩)],
  ⟨.function, [("iterator", .local), ("b", .local), ("val", .local), ("next", .globalImplicit)], false, false, []⟩, ⟨46,0,53,14⟩⟩
theorem in_PV : dPV ∈ D0 := List.mem_of_getElem? (i := 3) (by with_unfolding_all rfl)

/-- what a frame without cells holds -/
structure Env0 (env : Env) (sc : Scope) : Prop where
  sc : env.scope = sc
  fn : env.scope.kind = .function
  gl : env.globals = mainGlobals
  bl : env.builtins = builtinsNs
  fr : env.frame = some env.locals
theorem Env0.kind {env : Env} {sc : Scope} (x : Env0 env sc) (y : Str) : env.kindOf y = sc.names.lookup y := by unfold Env.kindOf; rw [x.sc]

section
variable {prog : Program} {w : World} {A : Around} {E : Value → Shared → Prop} {s : Shared} {env : Env} {sc : Scope} {m : Str → Option Value}
theorem ld {M : Model} {x : Str} {v : Value} {p : Pos} {Q : Value → Shared → Prop} (V : Env0 env sc) (hk : sc.names.lookup x = some .local) (hm : s.heap.Ns env.locals m) (hv : m x = some v) (hd : (x == ("__debug__" : Str)) = false) (h : Q v s) :
    wpAny M A (eval (.Name x p) env) Q E s := load_holds V.fn (.inl ⟨(V.kind x).trans hk, m, hm, hv⟩) hd h
theorem st {M : Model} {x : Str} {v : Value} {Q : Unit → Shared → Prop} (V : Env0 env sc) (hk : sc.names.lookup x = some .local) (hm : s.heap.Ns env.locals m)
    (h : ∀ h', h'.Ns env.locals (fun y => if y = x then some v else m y) → Heap.SameBut env.locals s.heap h' → Q () { s with heap := h', toks := s.toks + 1 }) : wpAny M A (storeName env x v) Q E s := by
  refine wpAny_storeName_local ((V.kind x).trans hk) hm (fun h' hn hs => h h' hn hs) ?_
  rw [V.fn]
  rfl
end
end Mine
end
section
open PySem PySem.W PyProof.Rows PySem.Calls
set_option Elab.async false
set_option maxRecDepth 100000
namespace Mine

noncomputable def hdB (d : Nat) (r : List Nat) : Nat := if r.isEmpty then 128 + d else 64 + d
theorem encF_hd (d : Nat) (r : List Nat) : encF (d :: r) = hdB d r :: encF r := by cases r <;> rfl
/-- the bytes from a place on -/
noncomputable def Rd (b : Array UInt8) (i : Nat) (l : List Nat) : Prop := ∀ j c, l[j]? = some c → ∃ u, b[i + j]? = some u ∧ u.toNat = c
theorem Rd.head {b : Array UInt8} {i c : Nat} {l : List Nat} (h : Rd b i (c :: l)) : ∃ u, b[i]? = some u ∧ u.toNat = c := h 0 c rfl
theorem Rd.tail {b : Array UInt8} {i c : Nat} {l : List Nat} (h : Rd b i (c :: l)) : Rd b (i + 1) l := fun j d e => by
  have := h (j + 1) d e
  rwa [show i + (j + 1) = i + 1 + j from by omega] at this
theorem hd_ands {d : Nat} {r : List Nat} (h : d < 64) : Builtin.bitAnd ((hdB d r : Nat) : Int) 63 = (d : Nat) ∧ Builtin.bitAnd ((hdB d r : Nat) : Int) 64 = if r.isEmpty then 0 else 64 := by
  obtain ⟨h1, h2, h3, h4⟩ := and_hi d h
  unfold hdB
  cases r with
  | nil => exact ⟨h3, h4⟩
  | cons _ _ => exact ⟨h1, h2⟩

section
variable {prog : Program} {w : World} {A : Around} {E : Value → Shared → Prop} {s : Shared} {env : Env} {D : List DefItem} {m : Str → Option Value} {it : Addr} {b : Array UInt8} {tb : Tok} {i n : Nat}
theorem ev_next {p1 p2 p : Pos} {Q : Value → Shared → Prop} (V : Env0 env dPV.scope) (W : GW D s.heap) (hm : s.heap.Ns env.locals m) (hi : m "iterator" = some (.ref it)) (h : wpAny (model prog w) A (call (.builtin "next") [.ref it]) Q E s) :
    wpAny (model prog w) A (eval (.Call (.Name "next" p1) [.Name "iterator" p2] [] p) env) Q E s := by
  refine wpAny_Call_NameR ?_
  refine load_builtin (v := .builtin "next") W V.fn V.gl V.bl ((V.kind _).trans (by decide +kernel)) (by decide +kernel) (by decide +kernel) ?_ (by decide +kernel) (by decide +kernel) (by decide +kernel)
  refine callWith_builtin1 ?_ rfl rfl
  exact args_cons (ld V (by decide +kernel) hm hi (by decide +kernel) (args_nil h)) rfl
theorem ev_mask {p1 p2 p : Pos} {k : Int} {c : Int} {tc : Tok} {Q : Value → Shared → Prop} (V : Env0 env dPV.scope) (hm : s.heap.Ns env.locals m) (hb : m "b" = some (.int c tc))
    (h : ∀ u tk, Q (.int (Builtin.bitAnd c k) u) { s with toks := tk }) :
    wpAny (model prog w) A (eval (.BinOp (.Name "b" p1) .BitAnd (.Constant (.int k) 0 p2) p) env) Q E s := by
  refine wpAny_BinOp (ld V (by decide +kernel) hm hb (by decide +kernel) ?_)
  refine wpAny_Constant_int ?_
  exact and_int (h _ _)
/-- the state within the body -/
structure PS (env : Env) (it : Addr) (b : Array UInt8) (tb : Tok) (i : Nat) (c v : Int) (h : Heap) : Prop where
  ns : ∃ m, h.Ns env.locals m ∧ m "iterator" = some (.ref it) ∧ (∃ t, m "b" = some (.int c t)) ∧ ∃ t, m "val" = some (.int v t)
  tape : KBw.IsBytesIter h it b tb i
theorem bi_ne {h : Heap} {L : Addr} (x : KBw.IsBytesIter h it b tb i) (y : h.Ns L m) : it ≠ L := fun q => by
  obtain ⟨o, ho, _, hd⟩ := x
  obtain ⟨o', es, ep, ho', hd', _⟩ := y
  rw [q, ho'] at ho; cases ho
  rw [hd'] at hd; cases hd
theorem bi_but {h h' : Heap} {L : Addr} (x : KBw.IsBytesIter h it b tb i) (hs : Heap.SameBut L h h') (hn : it ≠ L) : KBw.IsBytesIter h' it b tb i := by
  obtain ⟨o, ho, r⟩ := x
  exact ⟨o, (hs.2 it hn).trans ho, r⟩
theorem ns_but {h h' : Heap} {L : Addr} (y : h.Ns L m) (hs : Heap.SameBut it h h') (hn : it ≠ L) : h'.Ns L m := y.at' fun o e => (hs.2 L (Ne.symm hn)).trans e
theorem kb_but {own : List Addr} {x : Addr} {h' : Heap} {tk : Nat} (hx : x ∈ own) (ho : ∃ o, s.heap.get? x = some o ∧ ¬ SeqO o) (hs : Heap.SameBut x s.heap h') : KB own s { s with heap := h', toks := tk } := by
  refine ⟨fun c _ hc e => ?_, rfl, .refl _⟩
  have : c ≠ x := fun q => by
    subst q
    obtain ⟨o', ho', hn⟩ := ho
    rw [e] at ho'; cases ho'
    exact hc.elim (fun h => h hx) hn
  exact (hs.2 c this).trans e
theorem ns_ob {h : Heap} {L : Addr} (y : h.Ns L m) : ∃ o, h.get? L = some o ∧ ¬ SeqO o := by
  obtain ⟨o, es, ep, ho, hd, _⟩ := y
  exact ⟨o, ho, fun ⟨its, k, q⟩ => by rw [hd] at q; cases q⟩
theorem bi_ob {h : Heap} (x : KBw.IsBytesIter h it b tb i) : ∃ o, h.get? it = some o ∧ ¬ SeqO o := by
  obtain ⟨o, ho, _, hd⟩ := x
  exact ⟨o, ho, fun ⟨its, k, q⟩ => by rw [hd] at q; cases q⟩

theorem pv_next_st {p1 p2 p px pp : Pos} {c : Nat} {Q : Flow → Shared → Prop} (V : Env0 env dPV.scope) (W : GW D s.heap) (hm : s.heap.Ns env.locals m) (hi : m "iterator" = some (.ref it)) (hit : KBw.IsBytesIter s.heap it b tb i)
    (hc : ∃ u : UInt8, b[i]? = some u ∧ u.toNat = c)
    (h : ∀ s' t, s'.heap.Ns env.locals (fun y => if y = "b" then some (.int (c : Nat) t) else m y) → KBw.IsBytesIter s'.heap it b tb (i + 1) → KB [it, env.locals] s s' → Q .next s') :
    wpAny (model prog w) A (exec (.Assign [.Name "b" px] (.Call (.Name "next" p1) [.Name "iterator" p2] [] p) pp) env) Q E s := by
  obtain ⟨u, hu, rfl⟩ := hc
  have hne := bi_ne hit hm
  refine wpAny_Assign_Name ?_ rfl
  refine ev_next V W hm hi (tape_next hit hu fun h' hit' hs => ?_)
  refine st (s := { s with heap := h', toks := s.toks + 1 }) V (by decide +kernel) (ns_but hm hs hne) fun h'' hn hs2 => ?_
  refine h { s with heap := h'', toks := s.toks + 1 + 1 } _ hn (bi_but hit' hs2 hne) ?_
  exact (kb_but (s := s) (tk := s.toks + 1) (by simp) (bi_ob hit) hs).trans (kb_but (s := { s with heap := h', toks := s.toks + 1 }) (by simp) (ns_ob (ns_but hm hs hne)) hs2)
end
end Mine
end
section
open PySem PySem.W PyProof.Rows PySem.Calls
set_option Elab.async false
set_option maxRecDepth 100000
namespace Mine

theorem neIV : ¬ (Str.ofString "iterator" = Str.ofString "val") := by decide +kernel
theorem neIB : ¬ (Str.ofString "iterator" = Str.ofString "b") := by decide +kernel
theorem neBV : ¬ (Str.ofString "b" = Str.ofString "val") := by decide +kernel
theorem neVB : ¬ (Str.ofString "val" = Str.ofString "b") := by decide +kernel
theorem valF_cons (v d : Nat) (r : List Nat) : valF v (d :: r) = valF (v * 64 + d) r := rfl
theorem lt_mul64 {v f P : Nat} (h : v < P) (hf : f < 64) : v * 64 + f < P * 64 :=
  Nat.lt_of_lt_of_le (Nat.add_lt_add_left hf _) (Nat.le_trans (Nat.le_of_eq (Nat.succ_mul v 64).symm) (Nat.mul_le_mul_right 64 h))
theorem pow64_lt {v k : Nat} (h : v < 64 ^ k) (hk : k ≤ 9) : v < 2 ^ 64 := by
  have h1 : (64 : Nat) ^ k ≤ 64 ^ 9 := Nat.pow_le_pow_right (by decide) hk
  exact Nat.lt_of_lt_of_le h (Nat.le_trans h1 (by decide))
/-- the state of the loop: the number so far, the place, the digits that are left -/
inductive PvI (env : Env) (it : Addr) (b : Array UInt8) (tb : Tok) (len tot top : Nat) (s : Shared) (k : Nat) (s' : Shared) : Prop
  | mk (e : Nat) (q : List Nat) (j v : Nat) (hq : q.length = k) (hes : ∀ x ∈ e :: q, x < 64) (hv : v < 64 ^ (len + 1 - k)) (hk : k ≤ len) (P : PS env it b tb j (hdB e q : Nat) (v : Nat) s'.heap) (hR : Rd b j (encF q)) (K : KB [it, env.locals] s s') (hval : valF v q = tot) (hj : j + k = top) : PvI env it b tb len tot top s k s'
section
variable {prog : Program} {w : World} {A : Around} {E : Value → Shared → Prop} {s : Shared} {env : Env} {D : List DefItem} {m : Str → Option Value} {it : Addr} {b : Array UInt8} {tb : Tok} {i n : Nat}

theorem pv_turn {k len tot top : Nat} {s₀ : Shared} {e : Nat} {q : List Nat} {j v : Nat} {Q : Bool → Shared → Prop} {E' : Value → Shared → Prop} {body : List Stmt} {pos : Pos} (hbody : body = [(.AugAssign (.Name "val" ⟨50,8,50,11⟩) .LShift (.Constant (.int (6)) 0 ⟨50,16,50,17⟩) ⟨50,8,50,17⟩),
    (.Assign [(.Name "b" ⟨51,8,51,9⟩)] (.Call (.Name "next" ⟨51,12,51,16⟩) [(.Name "iterator" ⟨51,17,51,25⟩)] [] ⟨51,12,51,26⟩) ⟨51,8,51,26⟩),
    (.AugAssign (.Name "val" ⟨52,8,52,11⟩) .BitOr (.BinOp (.Name "b" ⟨52,15,52,16⟩) .BitAnd (.Constant (.int (63)) 0 ⟨52,19,52,21⟩) ⟨52,15,52,21⟩) ⟨52,8,52,21⟩)])
    (V : Env0 env dPV.scope) (W : GWB D [it, env.locals] s.heap) (hq : q.length = k) (hes : ∀ x ∈ e :: q, x < 64) (hv : v < 64 ^ (len + 1 - k)) (hk : k ≤ len) (hlen : len ≤ 8) (P : PS env it b tb j (hdB e q : Nat) (v : Nat) s.heap) (hR : Rd b j (encF q)) (K : KB [it, env.locals] s₀ s) (hval : valF v q = tot) (hj : j + k = top)
    (hdone : q = [] → ∀ tk, Q false { s with toks := tk }) (hgo : ∀ tk, wpAny (model prog w) A (execs body env) (fun f s₃ => f = .next ∧ ∃ m, m < k ∧ PvI env it b tb len tot top s₀ m s₃) E { s with toks := tk } → Q true { s with toks := tk }) :
    wpAny (model prog w) A (isTrue (.BinOp (.Name "b" ⟨49,10,49,11⟩) .BitAnd (.Constant (.int (64)) 0 ⟨49,14,49,16⟩) pos) env (eval (.BinOp (.Name "b" ⟨49,10,49,11⟩) .BitAnd (.Constant (.int (64)) 0 ⟨49,14,49,16⟩) pos) env)) Q E' s := by
  obtain ⟨⟨m', n1, n2, ⟨tb', n3⟩, ⟨tv, n4⟩⟩, hit'⟩ := P
  have he : e < 64 := hes e List.mem_cons_self
  have hne := bi_ne hit' n1
  refine wpAny_isTrue_value (ev_mask V n1 n3 fun u tk => ?_) rfl
  rw [(hd_ands (r := q) he).2]
  refine truthy_int ?_
  cases q with
  | nil => exact hdone rfl tk
  | cons f q =>
    rw [show ((if (f :: q).isEmpty = true then (0 : Int) else 64) != 0) = true from by simp]
    refine hgo tk ?_
    have hf : f < 64 := hes f (by simp)
    have hvb : v < 2 ^ 64 := pow64_lt hv (Nat.le_trans (Nat.sub_le _ _) (Nat.succ_le_succ hlen))
    rw [hbody]
    refine wpAny_execs_cons (wpAny_AugAssign_Name ?_)
    refine wpAny_loadName_local V.fn ((V.kind _).trans (by decide +kernel)) (s := { s with toks := tk }) n1 n4 ?_
    refine wpAny_Constant_int (ilshift_int_small (by decide) (by decide) (by simpa using hvb) ?_)
    refine st (s := { s with toks := tk + 1 + 1 }) V (by decide +kernel) n1 fun h₃ hm₃ hs₃ => ?_
    have hit₃ := bi_but hit' hs₃ hne
    have K₃ : KB [it, env.locals] s { s with heap := h₃, toks := tk + 1 + 1 + 1 } := kb_but (s := s) (by simp) (ns_ob n1) hs₃
    rw [encF_hd] at hR
    refine wpAny_execs_cons (pv_next_st (s := { s with heap := h₃, toks := tk + 1 + 1 + 1 }) V (K₃.gwb W).gw hm₃ (by simpa [neIV] using n2) hit₃ hR.head fun s₄ t₄ hm₄ hit₄ K₄ => ?_)
    refine wpAny_execs_cons (wpAny_AugAssign_Name ?_)
    refine wpAny_loadName_local V.fn ((V.kind _).trans (by decide +kernel)) hm₄ (v := .int ((v : Int) * 2 ^ (6 : Int).toNat) (tk + 1)) (by simp [neVB]) ?_
    refine ev_mask V hm₄ (c := (hdB f q : Nat)) (tc := t₄) (by simp) fun u₅ tk₅ => ?_
    rw [(hd_ands (r := q) hf).1]
    refine ior_int ?_
    rw [or_shift hf]
    refine st (s := { s₄ with toks := tk₅ + 1 }) V (by decide +kernel) hm₄ fun h₆ hm₆ hs₆ => ?_
    refine wpAny_execs_nil ⟨rfl, ?_⟩
    simp only [List.length_cons] at hq
    subst hq
    refine ⟨q.length, Nat.lt_succ_self _, f, q, j + 1, v * 64 + f, rfl, fun x hx => hes x (List.mem_cons_of_mem _ hx), ?_, Nat.le_of_succ_le hk, ⟨⟨_, hm₆, by simpa [neIV, neIB] using n2, ⟨t₄, by simp [neBV]⟩, ⟨_, by simp; rfl⟩⟩, bi_but hit₄ hs₆ (bi_ne hit₄ hm₄)⟩, hR.tail, ?_, hval, (Nat.add_right_comm j 1 q.length).trans hj⟩
    · rw [Nat.succ_sub (Nat.le_of_succ_le hk), Nat.pow_succ]
      rw [Nat.succ_sub_succ] at hv
      exact lt_mul64 hv hf
    · exact ((K.trans K₃).trans K₄).trans (kb_but (s := s₄) (by simp) (ns_ob hm₄) hs₆)
theorem pv_body {d : Nat} {r : List Nat} {Q : Flow → Shared → Prop} (V : Env0 env dPV.scope) (W : GWB D [it, env.locals] s.heap) (hm : s.heap.Ns env.locals m) (hi : m "iterator" = some (.ref it)) (hit : KBw.IsBytesIter s.heap it b tb i)
    (hds : ∀ x ∈ d :: r, x < 64) (hlen : r.length ≤ 8) (hR : Rd b i (encF (d :: r)))
    (hQ : ∀ t s', KB [it, env.locals] s s' → KBw.IsBytesIter s'.heap it b tb (i + r.length + 1) → Q (.ret (.int (valF 0 (d :: r) : Nat) t)) s') :
    wpAny (model prog w) A (execs dPV.body env) Q E s := by
  rw [encF_hd] at hR
  have hd : d < 64 := hds d List.mem_cons_self
  refine wpAny_execs_cons (pv_next_st V W.gw hm hi hit hR.head fun s₁ t₁ hm₁ hit₁ K₁ => ?_)
  refine wpAny_execs_cons (wpAny_Assign_Name (ev_mask V hm₁ (c := (hdB d r : Nat)) (tc := t₁) (by simp) fun u tk => ?_) rfl)
  rw [(hd_ands (r := r) hd).1]
  refine st (s := { s₁ with toks := tk }) V (by decide +kernel) hm₁ fun h₂ hm₂ hs₂ => ?_
  have P₂ : PS env it b tb (i + 1) (hdB d r : Nat) (d : Nat) h₂ := ⟨⟨_, hm₂, by simpa [neIV, neIB] using hi, ⟨t₁, by simp [neBV]⟩, ⟨u, by simp⟩⟩, bi_but hit₁ hs₂ (bi_ne hit₁ hm₁)⟩
  have K₂ : KB [it, env.locals] s { s₁ with heap := h₂, toks := tk + 1 } := K₁.trans (kb_but (s := s₁) (by simp) (ns_ob hm₁) hs₂)
  refine wpAny_execs_cons (wpAny_While (codeAny_whileLoop (fun k s' => PvI env it b tb r.length (valF 0 (d :: r)) (i + 1 + r.length) s k s') ?_ r.length
    ⟨d, r, i + 1, d, rfl, hds, by rw [Nat.add_sub_cancel_left]; exact hd, Nat.le_refl _, P₂, hR.tail, K₂, by rw [valF_cons]; simp, by omega⟩))
  intro k s' hI
  obtain ⟨e, q, j, v, hq, hes, hv, hk, P, hR', K', hval, hj⟩ := hI
  refine pv_turn (E := notedBy (model prog w) A env fun e s' => cameBackBy (model prog w) A env E e s') rfl V (K'.gwb W) hq hes hv hk hlen P hR' K' hval hj (fun h0 tk => ?_) fun tk h => ?_
  · subst h0
    subst hq
    rw [if_neg Bool.false_ne_true]
    refine wpAny_execs_nil ?_
    refine wpAny_execs_cons (wpAny_Return_some ?_)
    obtain ⟨⟨m', n1, n2, _, ⟨tv, n4⟩⟩, hit'⟩ := P
    refine ld V (by decide +kernel) (s := { s' with toks := tk }) n1 n4 (by decide +kernel) ?_
    have hv0 : v = valF 0 (d :: r) := hval
    rw [hv0]
    refine hQ tv { s' with toks := tk } (K'.trans (.ext .tok)) ?_
    rw [show i + r.length + 1 = j from by simp at hj; omega]
    exact hit'
  · rw [if_pos rfl]
    exact wpAny_mono h (fun f s₃ hf => by
      obtain ⟨rfl, m, hm, hI⟩ := hf
      exact ⟨m, hm, hI⟩) fun _ _ x => x
end
end Mine
end
section
open PySem PySem.W PyProof.Rows PySem.Calls
set_option Elab.async false
set_option maxRecDepth 100000
namespace Mine
theorem compTurn_20 (elt t1 i1 t2 i2 : Expr) (scope : Scope) (pos : Pos) (it acc : Value) (env : Env) :
    compTurn (.ListComp elt [⟨t1, i1, [], 0⟩, ⟨t2, i2, [], 0⟩] scope pos) 0 it acc env = (standAt i1.pos >>= fun _ => pyNext it >>= fun r => match r with
      | none => pure (.done .next)
      | some v => letOwnedTupleGo t1 it v >>= fun _ => assign t1 env v >>= fun _ =>
        eval i2 env >>= fun x => standAt i2.pos >>= fun _ => foldedSetIterable i2 env x >>= fun x => holding [x] (pyIter x) >>= fun it' =>
          runOwn (.compStart (.ListComp elt [⟨t1, i1, [], 0⟩, ⟨t2, i2, [], 0⟩] scope pos) 1 it' acc env) env >>= fun _ =>
          again (.compLoop (.ListComp elt [⟨t1, i1, [], 0⟩, ⟨t2, i2, [], 0⟩] scope pos) 0 it acc env)) := by rfl
theorem compTurn_21 (elt t1 i1 t2 i2 : Expr) (scope : Scope) (pos : Pos) (it acc : Value) (env : Env) :
    compTurn (.ListComp elt [⟨t1, i1, [], 0⟩, ⟨t2, i2, [], 0⟩] scope pos) 1 it acc env = (standAt i2.pos >>= fun _ => pyNext it >>= fun r => match r with
      | none => pure (.done .next)
      | some v => letOwnedTupleGo t2 it v >>= fun _ => assign t2 env v >>= fun _ =>
        (eval elt env >>= fun x => call (.builtin "list.append") [acc, x] >>= fun _ => pure ()) >>= fun _ =>
          again (.compLoop (.ListComp elt [⟨t1, i1, [], 0⟩, ⟨t2, i2, [], 0⟩] scope pos) 1 it acc env)) := by rfl

section
variable {prog : Program} {w : World} {A : Around} {E : Value → Shared → Prop} {R : Result → Shared → Prop} {s : Shared}
theorem codeAny_compStart_21 {elt t1 i1 t2 i2 scope pos it acc env}
    (h0 : codeAny (model prog w) A (.compLoop (.ListComp elt [⟨t1, i1, [], 0⟩, ⟨t2, i2, [], 0⟩] scope pos) 1 it acc env) R s)
    (h : wpAny (model prog w) A (pyIter it) (fun it' s' => codeAny (model prog w) A (.compLoop (.ListComp elt [⟨t1, i1, [], 0⟩, ⟨t2, i2, [], 0⟩] scope pos) 1 it' acc env) R s')
      (notedBy (model prog w) A env fun x s' => R (.error x) s') s) :
    codeAny (model prog w) A (.compStart (.ListComp elt [⟨t1, i1, [], 0⟩, ⟨t2, i2, [], 0⟩] scope pos) 1 it acc env) R s := by
  refine codeAny_of_tree ?_
  show wpAny _ _ ((compStart (.ListComp elt [⟨t1, i1, [], 0⟩, ⟨t2, i2, [], 0⟩] scope pos) 1 it acc env).onRaise (fun x => do noteFrame x env; standAt theWindowsPlace)) _ _ s
  refine wpAny_notedAt ?_
  unfold compStart
  show wpAny _ _ (ask >>= _) _ _ s
  refine wpAny_bind (wpAny_askSetting (wpAny_ite ?_))
  split
  · first
      | exact wpAny_bind (wpAny_pure (wpAny_pure (And.intro rfl h0)))
      | exact wpAny_pure (And.intro rfl h0)
  · first
      | exact wpAny_bind (wpAny_rule (wpAny_bind (wpAny_standAt (wpAny_bind (wpAny_mono h (fun it' s' h' => wpAny_pure (And.intro rfl h')) fun _ _ x => x)))))
      | (refine wpAny_bind (wpAny_rule ?_); show wpAny _ _ (standAt i2.pos >>= _) _ _ s; exact wpAny_bind (wpAny_standAt (wpAny_bind (wpAny_mono h (fun it' s' h' => wpAny_pure (And.intro rfl h')) fun _ _ x => x))))
theorem codeAny_compLoop_21 {elt t1 i1 t2 i2 : Expr} {scope : Scope} {pos : Pos} {it acc : Value} {env : Env} (I : Nat → Shared → Prop)
    (turn : ∀ n s, I n s → wpAny (model prog w) A (pyNext it) (fun r s₁ => match r with
      | none => R (.ok .next) s₁
      | some v => wpAny (model prog w) A (assign t2 env v) (fun _ s₂ => wpAny (model prog w) A (eval elt env) (fun x s₃ =>
          wpAny (model prog w) A (call (.builtin "list.append") [acc, x]) (fun _ s₄ => ∃ m, m < n ∧ I m s₄) (notedBy (model prog w) A env fun e s' => R (.error e) s') s₃)
          (notedBy (model prog w) A env fun e s' => R (.error e) s') s₂) (notedBy (model prog w) A env fun e s' => R (.error e) s') s₁) (notedBy (model prog w) A env fun e s' => R (.error e) s') s)
    (n : Nat) (h : I n s) (ht : ∀ v, letOwnedTupleGo t2 it v = pure () := by intro _; rfl) :
    codeAny (model prog w) A (.compLoop (.ListComp elt [⟨t1, i1, [], 0⟩, ⟨t2, i2, [], 0⟩] scope pos) 1 it acc env) R s := by
  refine codeAny_loop rfl I (fun n s hI => ?_) n h
  show wpAny _ _ ((compTurn (.ListComp elt [⟨t1, i1, [], 0⟩, ⟨t2, i2, [], 0⟩] scope pos) 1 it acc env).onRaise (fun x => do noteFrame x env; theTreesLotGoes x)) _ _ s
  refine wpAny_noted ?_
  rw [compTurn_21]
  refine wpAny_bind (wpAny_standAt (wpAny_bind (wpAny_mono (turn n s hI) (fun r s₁ h₁ => ?_) fun _ _ h' => h')))
  cases r with
  | none => exact wpAny_pure h₁
  | some v =>
    refine wpAny_bind (wpAny_of_eq (ht v) ?_)
    exact wpAny_bind (wpAny_mono h₁ (fun _ s₂ h₂ => wpAny_bind (wpAny_bind (wpAny_mono h₂ (fun x s₃ h₃ => wpAny_bind (wpAny_mono h₃
      (fun _ s₄ h₄ => wpAny_pure (wpAny_pure ⟨rfl, h₄⟩)) fun _ _ h' => h')) fun _ _ h' => h'))) fun _ _ h' => h')
theorem codeAny_compLoop_20 {elt t1 i1 t2 i2 : Expr} {scope : Scope} {pos : Pos} {it acc : Value} {env : Env} (I : Nat → Shared → Prop)
    (turn : ∀ n s, I n s → wpAny (model prog w) A (pyNext it) (fun r s₁ => match r with
      | none => R (.ok .next) s₁
      | some v => wpAny (model prog w) A (assign t1 env v) (fun _ s₂ => wpAny (model prog w) A (eval i2 env) (fun x s₃ => wpAny (model prog w) A (pyIter x) (fun it' s₄ =>
          codeAny (model prog w) A (.compStart (.ListComp elt [⟨t1, i1, [], 0⟩, ⟨t2, i2, [], 0⟩] scope pos) 1 it' acc env) (fun r s₅ => r = .ok .next ∧ ∃ m, m < n ∧ I m s₅) s₄)
          (notedBy (model prog w) A env fun e s' => R (.error e) s') s₃)
          (notedBy (model prog w) A env fun e s' => R (.error e) s') s₂) (notedBy (model prog w) A env fun e s' => R (.error e) s') s₁) (notedBy (model prog w) A env fun e s' => R (.error e) s') s)
    (n : Nat) (h : I n s) (hf : ∀ v, foldedSetIterable i2 env v = pure v) (ht : ∀ v, letOwnedTupleGo t1 it v = pure () := by intro _; rfl) :
    codeAny (model prog w) A (.compLoop (.ListComp elt [⟨t1, i1, [], 0⟩, ⟨t2, i2, [], 0⟩] scope pos) 0 it acc env) R s := by
  refine codeAny_loop rfl I (fun n s hI => ?_) n h
  show wpAny _ _ ((compTurn (.ListComp elt [⟨t1, i1, [], 0⟩, ⟨t2, i2, [], 0⟩] scope pos) 0 it acc env).onRaise (fun x => do noteFrame x env; theTreesLotGoes x)) _ _ s
  refine wpAny_noted ?_
  rw [compTurn_20]
  refine wpAny_bind (wpAny_standAt (wpAny_bind (wpAny_mono (turn n s hI) (fun r s₁ h₁ => ?_) fun _ _ h' => h')))
  cases r with
  | none => exact wpAny_pure h₁
  | some v =>
    refine wpAny_bind (wpAny_of_eq (ht v) ?_)
    refine wpAny_bind (wpAny_mono h₁ (fun _ s₂ h₂ => ?_) fun _ _ h' => h')
    refine wpAny_bind (wpAny_mono h₂ (fun x s₃ h₃ => ?_) fun _ _ h' => h')
    refine wpAny_bind (wpAny_standAt ?_)
    refine wpAny_bind (wpAny_of_eq (hf x) ?_)
    refine wpAny_bind (wpAny_holding (wpAny_mono h₃ (fun it' s₄ h₄ => ?_) fun _ _ h' => h'))
    refine wpAny_bind (wpAny_runOwn (h := none) (codeAny_mono h₄ fun r s₅ h₅ => ?_))
    obtain ⟨rfl, h₅⟩ := h₅
    exact wpAny_pure ⟨rfl, h₅⟩
end
end Mine
end
section
open PySem PySem.W PyProof.Rows PySem.Calls
set_option Elab.async false
set_option maxRecDepth 100000
namespace Mine

noncomputable def nmR : List Str := ["numbers", "tape", "found", "k", "number", "octet"]
noncomputable def scC : Scope := ⟨.function, [(".0", .local), ("number", .local), ("octet", .local), ("_law_octets", .globalImplicit)], false, false, []⟩
noncomputable def itN (p : Pos) : It := .x (.var 0 p)
noncomputable def itO (p1 p2 p3 : Pos) : It := .x (.call 8 (.var 4 p2) .nil p1 p3)
noncomputable def eComp (p0 p1 p2 p3 p4 p5 p6 p : Pos) : Expr := .ListComp (.Name "octet" p0) [⟨.Name "number" p1, (itN p2).toE nmR fnN, [], 0⟩, ⟨.Name "octet" p3, (itO p4 p5 p6).toE nmR fnN, [], 0⟩] scC p
section
variable {prog : Program} {w : World} {A : Around} {E : Value → Shared → Prop} {s : Shared} {n : Nat} {D : List DefItem} {env : Env} {σ : Sg} {Φ : Phi}

theorem comp2_sound (hΦ : PhiOk prog w D n fnN Φ) {xs : List Atm} {oct : Atm → List Atm} {p0 p1 p2 p3 p4 p5 p6 p : Pos} {Q : Value → Shared → Prop} (C : CS n D A env nmR σ s) (wfN : (itN p2).wf nmR fnN env.scope = true)
    (h0 : getS σ 0 = some (.list xs)) (hoct : ∀ a ∈ xs, Φ 8 [a.pv] = some (.list (oct a))) (hlen : (xs.flatMap oct).length ≤ lim)
    (hQ : ∀ v s', Ext s s' → VIs s'.heap v (.list (xs.flatMap oct)) → Fresh s v → Q v s') :
    wpAny (model prog w) A (eval (eComp p0 p1 p2 p3 p4 p5 p6 p) env) Q E s := by
  have hev : (itN p2).ev Φ σ = some xs := by
    have : X.ev Φ (.var 0 p2) σ = some (.list xs) := h0
    show It.ev Φ (.x (.var 0 p2)) σ = _
    rw [It.ev, this]
    rfl
  refine wpAny_ListComp (by decide +kernel) rfl (by decide +kernel) ?_
  refine It.sound hΦ (itN p2) env σ s xs _ _ hev wfN C fun itv s₂ hI => ?_
  obtain ⟨I, fp, wr, P, St, rfl, W, hst, hfp, hwr, hP, hE, hsrc, hex⟩ := hI
  have W' := W A C.ctx.handled
  refine wpAny_newList ?_ (by decide)
  refine wpAny_newFunctionEnv (by decide +kernel) (fun _ h => nomatch h) (fun h' hn hsb => ?_) rfl
  have hacc : s₂.heap.get? s₂.heap.objs.size = none := fresh_new _ rfl
  have hE3 : Ext s₂ { s₂ with heap := h' } := ⟨fun b o e => by
    have e1 : (s₂.heap.push { cls := .type "list", data := .seq #[] }).get? b = some o := Heap.get?_push_of_some _ e
    have e2 : ((s₂.heap.push { cls := .type "list", data := .seq #[] }).push { cls := .type "dict", data := .dict #[] }).get? b = some o := Heap.get?_push_of_some _ e1
    exact (hsb.2 b (Nat.ne_of_lt (Heap.lt_size e1))).trans e2, rfl, .refl _⟩
  have hCn : (s₂.heap.push { cls := .type "list", data := .seq #[] }).get? (s₂.heap.push { cls := .type "list", data := .seq #[] }).objs.size = none := by
    cases q : (s₂.heap.push { cls := .type "list", data := .seq #[] }).get? (s₂.heap.push { cls := .type "list", data := .seq #[] }).objs.size with
    | none => rfl
    | some o => exact absurd (Heap.lt_size q) (Nat.lt_irrefl _)
  have haccL : h'.PlainList s₂.heap.objs.size #[] := ⟨0, by
    have e1 : (s₂.heap.push { cls := .type "list", data := .seq #[] }).get? s₂.heap.objs.size = some { cls := .type "list", data := .seq #[] } := Heap.get?_push_size _ rfl
    have e2 := Heap.get?_push_of_some (h := s₂.heap.push { cls := .type "list", data := .seq #[] }) { cls := .type "dict", data := .dict #[] } e1
    exact (hsb.2 _ (Nat.ne_of_lt (Heap.lt_size e1))).trans e2⟩
  have hCs₂ : s₂.heap.get? (s₂.heap.push { cls := .type "list", data := .seq #[] }).objs.size = none := by
    cases q : s₂.heap.get? (s₂.heap.push { cls := .type "list", data := .seq #[] }).objs.size with
    | none => rfl
    | some o => rw [Heap.get?_push_of_some _ q] at hCn; cases hCn
  have hneC : s₂.heap.objs.size ≠ (s₂.heap.push { cls := .type "list", data := .seq #[] }).objs.size := by rw [Heap.size_push]; omega
  generalize hCdef : (s₂.heap.push { cls := .type "list", data := .seq #[] }).objs.size = L at *
  generalize hAdef : s₂.heap.objs.size = acc at *
  have hsacc : s.heap.get? acc = none := by
    cases q : s.heap.get? acc with
    | none => rfl
    | some o => have := hE.keep _ _ q; rw [hacc] at this; cases this
  have hsL : s.heap.get? L = none := by
    cases q : s.heap.get? L with
    | none => rfl
    | some o => have := hE.keep _ _ q; rw [hCs₂] at this; cases this
  have hfpacc : acc ∉ fp := fun h => by obtain ⟨o, ho⟩ := hfp acc h; rw [hacc] at ho; cases ho
  have hfpL : L ∉ fp := fun h => by obtain ⟨o, ho⟩ := hfp L h; rw [hCs₂] at ho; cases ho
  let cenv : Env := { scope := scC, locals := L, globals := env.globals, cells := [], qual := env.qual, func := none, code := env.code, frame := env.frame, builtins := env.builtins }
  have kN : scC.names.lookup (nmAt nmR 4) = some .local := by decide +kernel
  have kO : scC.names.lookup (nmAt nmR 5) = some .local := by decide +kernel
  have hnocell : ∀ x, cenv.kindOf x = some .cell → ∃ c, cenv.cells.lookup x = some c := fun x hx => by
    have hm := lookup_mem (show scC.names.lookup x = some .cell from hx)
    have h3 : ∀ z ∈ scC.names, z.2 ≠ .cell := by decide +kernel
    exact absurd rfl (h3 _ hm)
  let Inv : Nat → Shared → Prop := fun i s' => Ext s s' ∧ St i s'.heap ∧ (∃ m, s'.heap.Ns L m) ∧ ∃ vs, s'.heap.PlainList acc vs ∧ AllIs vs.toList ((xs.take i).flatMap oct)
  have key : ∀ s₅ : Shared, Inv 0 s₅ → codeAny (model prog w) A (.compLoop (eComp p0 p1 p2 p3 p4 p5 p6 p) 0 (.ref I) (.ref acc) cenv)
      (fun r s' => ∃ m, s'.heap.Ns L m ∧ ∀ h', Heap.SameBut L s'.heap h' → match r with | .ok _ => Q (.ref acc) { s' with heap := h' } | .error x => wpAny (model prog w) A (passOn "comprehension.variables-let-go" x cenv) Q E { s' with heap := h' }) s₅ := by
    intro s₅ h5
    refine codeAny_compLoop_20 (fun k s' => ∃ i, i ≤ xs.length ∧ k = xs.length + 1 - i ∧ Inv i s') ?_ (xs.length + 1) ⟨0, Nat.zero_le _, rfl, h5⟩ (fun _ => rfl)
    rintro k s' ⟨i, hi, rfl, hEx, hSt, ⟨m, hNs⟩, vs, hvs, hA⟩
    by_cases hlt : i < xs.length
    · refine W'.item i s' _ _ hlt hSt fun v h₁ tk hPv hSt₁ hk₁ => ?_
      obtain ⟨a, ha, hva⟩ := hP i v hlt hPv
      have hmem : a ∈ xs := List.mem_of_getElem? ha
      have htake : xs.take (i + 1) = xs.take i ++ [a] := by rw [List.take_add_one, ha]; rfl
      have hNs₁ : h₁.Ns L m := let ⟨o, es, ep, ho, r⟩ := hNs; ⟨o, es, ep, hk₁ _ _ (fun hw => hfpL (W'.sub _ hw)) ho, r⟩
      have hvs₁ : h₁.PlainList acc vs := let ⟨q, hq⟩ := hvs; ⟨q, hk₁ _ _ (fun hw => hfpacc (W'.sub _ hw)) hq⟩
      have hEx₁ : ∀ b o, s.heap.get? b = some o → h₁.get? b = some o := fun b o e => hk₁ b o (fun hw => by rw [hwr b hw] at e; cases e) (hEx.keep b o e)
      refine wpAny_assign_Name (wpAny_storeName_local (env := cenv) kN hNs₁ (fun h₂ hn₂ hs₂ => ?_) rfl)
      have hEx₂ : Ext s { s' with heap := h₂, toks := tk + 1 } := ⟨fun b o e => (hs₂.2 b (fun q => by rw [q, hsL] at e; cases e)).trans (hEx₁ b o e), hEx.os, hEx.gens⟩
      have hSt₂ : St (i + 1) h₂ := W'.frame _ _ _ hSt₁ fun b hb o e => (hs₂.2 b fun q => hfpL ((show b = L from q) ▸ hb)).trans e
      have hvs₂ : h₂.PlainList acc vs := let ⟨q, hq⟩ := hvs₁; ⟨q, (hs₂.2 _ hneC).trans hq⟩
      have C₂ : CS n D A cenv nmR (setS [none, none, none, none, none, none] 4 a.pv) { s' with heap := h₂, toks := tk + 1 } := by
        refine ⟨C.ctx, C.gw.keeps hEx₂.keep, hnocell, ⟨rfl, C.ok.gl, C.ok.bl, C.ok.dbg, fun j q hq => ?_⟩⟩
        rw [getS_set] at hq
        split at hq
        · rename_i hc
          obtain ⟨rfl, _⟩ := hc
          cases hq
          exact ⟨_, v, rfl, .inl ⟨kN, _, hn₂, by simp [nmAt, nmR]⟩, hva.vis _⟩
        · exfalso
          have : ∀ j, getS [none, none, none, none, none, none] j = none := fun j => by
            unfold getS
            match j with
            | 0 => rfl
            | 1 => rfl
            | 2 => rfl
            | 3 => rfl
            | 4 => rfl
            | 5 => rfl
            | j + 6 => rfl
          rw [this] at hq; cases hq
      have hv4 : X.ev Φ (.call 8 (.var 4 p5) .nil p4 p6) (setS [none, none, none, none, none, none] 4 a.pv) = some (.list (oct a)) := by
        have h1 : X.ev Φ (.var 4 p5) (setS [none, none, none, none, none, none] 4 a.pv) = some a.pv := rfl
        rw [X.ev, h1]
        exact hoct a hmem
      have hev2 : (itO p4 p5 p6).ev Φ (setS [none, none, none, none, none, none] 4 a.pv) = some (oct a) := by
        show It.ev Φ (.x (.call 8 (.var 4 p5) .nil p4 p6)) _ = _
        rw [It.ev, hv4]
        rfl
      refine It.sound hΦ (itO p4 p5 p6) cenv _ _ (oct a) _ _ hev2 (by show X.wf nmR fnN (.call 8 (.var 4 p5) .nil p4 p6) scC = true; rfl) C₂ fun itv2 s₃ hI2 => ?_
      obtain ⟨I2, fp2, wr2, P2, St2, rfl, W2, hst2, hfp2, hwr2, hP2, hE2, hsrc2, hex2⟩ := hI2
      have W2' := W2 A C.ctx.handled
      have there : ∀ b, b ∈ fp2 → h₂.get? b = none := fun b hb => by
        rcases hsrc2 b hb with h | ⟨_, _, h, _⟩
        · exact h
        · cases h
      obtain ⟨_, hacco⟩ := hvs₂
      obtain ⟨oL, _, _, hoL, _⟩ := id hn₂
      have hfp2acc : acc ∉ fp2 := fun h => by rw [there _ h] at hacco; cases hacco
      have hfp2L : L ∉ fp2 := fun h => by have := there _ h; rw [hoL] at this; cases this
      have hw2 : ∀ b o, h₂.get? b = some o → b ∉ wr2 := fun b o e hw => by have := hwr2 b hw; rw [e] at this; cases this
      have hfpw2 : ∀ b ∈ fp, b ∉ wr2 := fun b hb => by obtain ⟨o, ho⟩ := hex _ _ hSt₂ b hb; exact hw2 b o ho
      have hw2acc := hw2 _ _ hacco
      have hw2L := hw2 _ _ hoL
      let Inv2 : Nat → Shared → Prop := fun j s' => Ext s s' ∧ St (i + 1) s'.heap ∧ St2 j s'.heap ∧ (∀ b ∈ fp, b ∉ fp2) ∧ (∃ m, s'.heap.Ns L m) ∧ ∃ vs, s'.heap.PlainList acc vs ∧ AllIs vs.toList ((xs.take i).flatMap oct ++ (oct a).take j)
      have hfpfp2 : ∀ b ∈ fp, b ∉ fp2 := fun b hb h2 => by
        obtain ⟨o, ho⟩ := hex _ _ hSt₂ b hb
        rw [there _ h2] at ho; cases ho
      have hbnd : ((xs.take i).flatMap oct).length + (oct a).length ≤ lim := by
        have h1 : xs = xs.take i ++ a :: xs.drop (i + 1) := by
          have := List.take_append_drop (i + 1) xs
          rw [htake] at this
          simpa using this.symm
        have h2 : (xs.flatMap oct).length = ((xs.take i).flatMap oct).length + ((oct a).length + ((xs.drop (i + 1)).flatMap oct).length) := by
          conv => lhs; rw [h1]
          rw [List.flatMap_append, List.flatMap_cons, List.length_append, List.length_append]
        omega
      have key2 : ∀ s₅ : Shared, Inv2 0 s₅ → codeAny (model prog w) A (.compLoop (eComp p0 p1 p2 p3 p4 p5 p6 p) 1 (.ref I2) (.ref acc) cenv)
          (fun r s₅ => r = .ok .next ∧ ∃ m, m < xs.length + 1 - i ∧ ∃ i, i ≤ xs.length ∧ m = xs.length + 1 - i ∧ Inv i s₅) s₅ := by
        intro s₅ h5
        refine codeAny_compLoop_21 (fun k s' => ∃ j, j ≤ (oct a).length ∧ k = (oct a).length + 1 - j ∧ Inv2 j s') ?_ ((oct a).length + 1) ⟨0, Nat.zero_le _, rfl, h5⟩
        rintro k s' ⟨j, hj, rfl, hEx, hSt, hSt2, _, ⟨m, hNs⟩, vs, hvs, hA⟩
        by_cases hlt2 : j < (oct a).length
        · refine W2'.item j s' _ _ hlt2 hSt2 fun v h₃ tk hPv hSt2₁ hk₃ => ?_
          obtain ⟨c, hc, hvc⟩ := hP2 j v hlt2 hPv
          have htake2 : (oct a).take (j + 1) = (oct a).take j ++ [c] := by rw [List.take_add_one, hc]; rfl
          have hNs₃ : h₃.Ns L m := let ⟨o, es, ep, ho, r⟩ := hNs; ⟨o, es, ep, hk₃ _ _ hw2L ho, r⟩
          have hvs₃ : h₃.PlainList acc vs := let ⟨q, hq⟩ := hvs; ⟨q, hk₃ _ _ hw2acc hq⟩
          have hEx₃ : ∀ b o, s.heap.get? b = some o → h₃.get? b = some o := fun b o e => hk₃ b o (hw2 b o (hEx₂.keep b o e)) (hEx.keep b o e)
          refine wpAny_assign_Name (wpAny_storeName_local (env := cenv) kO hNs₃ (fun h₄ hn₄ hs₄ => ?_) rfl)
          refine load_holds (env := cenv) rfl (.inl ⟨kO, _, hn₄, by simp; rfl⟩) (by decide +kernel) ?_
          have hvs₄ : h₄.PlainList acc vs := let ⟨q, hq⟩ := hvs₃; ⟨q, (hs₄.2 _ hneC).trans hq⟩
          have hlenA := hA.length
          have hsz : vs.size ≤ sizeLine := by
            rw [List.length_append, List.length_take] at hlenA
            have h2 : vs.toList.length = vs.size := Array.length_toList
            have h3 : min j (oct a).length ≤ (oct a).length := Nat.min_le_right ..
            exact Nat.le_trans (by omega) lim_line
          refine wpAny_list_append_plain (s := { s' with heap := h₄, toks := tk + 1 }) hvs₄ (fun h₅ hp₅ hs₅ => ?_) hsz
          refine ⟨(oct a).length + 1 - (j + 1), cnt_lt hlt2, j + 1, hlt2, rfl, ?_, ?_, ?_, hfpfp2, ⟨_, hn₄.sameBut hs₅ (fun q => hneC q.symm)⟩, vs.push v, hp₅, ?_⟩
          · exact ⟨fun b o e => (hs₅.2 b (fun q => by rw [q, hsacc] at e; cases e)).trans ((hs₄.2 b (fun q => by rw [q, hsL] at e; cases e)).trans (hEx₃ b o e)), hEx.os, hEx.gens⟩
          · exact W'.frame _ _ _ hSt fun b hb o e => (hs₅.2 b (fun q => hfpacc (q ▸ hb))).trans ((hs₄.2 b (fun q => hfpL ((show b = L from q) ▸ hb))).trans (hk₃ b o (hfpw2 b hb) e))
          · exact W2'.frame _ _ _ hSt2₁ fun b hb o e => (hs₅.2 b (fun q => hfp2acc (q ▸ hb))).trans ((hs₄.2 b (fun q => hfp2L ((show b = L from q) ▸ hb))).trans e)
          · rw [Array.toList_push, htake2, ← List.append_assoc]
            exact hA.append (.cons hvc .nil)
        · have hin : j = (oct a).length := at_end hj hlt2
          subst hin
          refine W2'.done s' _ _ hSt2 fun h₃ tk hk₃ => ?_
          refine ⟨rfl, xs.length + 1 - (i + 1), cnt_lt hlt, i + 1, hlt, rfl, ⟨fun b o e => hk₃ b o (hw2 b o (hEx₂.keep b o e)) (hEx.keep b o e), hEx.os, hEx.gens⟩, ?_, ?_, vs, ?_, ?_⟩
          · exact W'.frame _ _ _ hSt fun b hb o e => hk₃ b o (hfpw2 b hb) e
          · let ⟨o, es, ep, ho, r⟩ := hNs
            exact ⟨m, o, es, ep, hk₃ _ _ hw2L ho, r⟩
          · let ⟨q, hq⟩ := hvs
            exact ⟨q, hk₃ _ _ hw2acc hq⟩
          · rw [htake, List.flatMap_append]
            rw [List.take_length] at hA
            simpa using hA
      have base2 : Inv2 0 s₃ := by
        refine ⟨hEx₂.trans hE2, W'.frame _ _ _ hSt₂ fun b _ o e => hE2.keep b o e, hst2, hfpfp2, ⟨_, hn₂.keeps hE2.keep⟩, vs, ⟨_, hE2.keep _ _ hacco⟩, by simpa using hA⟩
      refine codeAny_compStart_21 ?_ ?_
      · exact key2 _ base2
      · refine W2'.self 0 _ _ _ hst2 ?_
        exact key2 _ base2
    · have hin : i = xs.length := at_end hi hlt
      subst hin
      refine W'.done s' _ _ hSt fun h₁ tk hk₁ => ?_
      have hNs₁ : h₁.Ns L m := let ⟨o, es, ep, ho, r⟩ := hNs; ⟨o, es, ep, hk₁ _ _ (fun hw => hfpL (W'.sub _ hw)) ho, r⟩
      have hvs₁ : h₁.PlainList acc vs := let ⟨q, hq⟩ := hvs; ⟨q, hk₁ _ _ (fun hw => hfpacc (W'.sub _ hw)) hq⟩
      have hEx₁ : ∀ b o, s.heap.get? b = some o → h₁.get? b = some o := fun b o e => hk₁ b o (fun hw => by rw [hwr b hw] at e; cases e) (hEx.keep b o e)
      rw [List.take_length] at hA
      obtain ⟨q, hq⟩ := hvs₁
      refine ⟨m, hNs₁, fun h₂ hs₂ => ?_⟩
      refine hQ _ _ ⟨fun b o e => (hs₂.2 b (fun q => by rw [q, hsL] at e; cases e)).trans (hEx₁ b o e), hEx.os, hEx.gens⟩ (.list (vs := vs.toList) ⟨_, q, (hs₂.2 _ hneC).trans hq, rfl, by simp⟩ hA hlen) (fun b e => by cases e; exact hsacc)
  have base : Inv 0 { s₂ with heap := h' } := by
    refine ⟨hE.trans hE3, W'.frame _ _ _ hst fun b hb o e => hE3.keep b o e, ⟨_, hn⟩, #[], haccL, .nil⟩
  refine codeAny_compStart_list ?_ ?_
  · exact key _ base
  · refine W'.self 0 _ _ _ base.2.1 ?_
    exact key _ base
end
end Mine
end
section
open PySem PySem.W PyProof.Rows PySem.Calls
set_option Elab.async false
set_option maxRecDepth 100000
namespace Mine

noncomputable def hiD : Nat → Nat → List Nat
  | 0, _ => []
  | k + 1, m => if m = 0 then [] else hiD k (m / 64) ++ [m % 64]
noncomputable def digs (x : Nat) : List Nat := hiD 8 (x / 64) ++ [x % 64]
theorem encF_snoc : ∀ (ds : List Nat) (d : Nat), encF (ds ++ [d]) = ds.map (64 + ·) ++ [128 + d]
  | [], _ => rfl
  | [e], d => rfl
  | e :: f :: r, d => by
    have := encF_snoc (f :: r) d
    rw [List.cons_append, List.cons_append, encF_cons, ← List.cons_append, this]
    rfl
theorem hiD_lt : ∀ k m, ∀ d ∈ hiD k m, d < 64
  | 0, _, _, h => by cases h
  | k + 1, m, d, h => by
    unfold hiD at h
    split at h
    · cases h
    · rcases List.mem_append.mp h with h | h
      · exact hiD_lt k _ d h
      · rw [List.mem_singleton.mp h]; exact Nat.mod_lt _ (by decide)
theorem hiD_length : ∀ k m, (hiD k m).length ≤ k
  | 0, _ => Nat.le_refl _
  | k + 1, m => by
    unfold hiD
    split
    · exact Nat.zero_le _
    · rw [List.length_append]
      have := hiD_length k (m / 64)
      simp
      omega
theorem valF_snoc (v : Nat) (ds : List Nat) (d : Nat) : valF v (ds ++ [d]) = valF v ds * 64 + d := by
  unfold valF; rw [List.foldl_append]; rfl
theorem hiD_val : ∀ k m, m < 64 ^ k → valF 0 (hiD k m) = m
  | 0, m, h => by
    have : m = 0 := by simpa using h
    subst this; rfl
  | k + 1, m, h => by
    unfold hiD
    split
    · rename_i h0; rw [h0]; rfl
    · rw [valF_snoc, hiD_val k (m / 64) (by rw [Nat.pow_succ] at h; omega)]
      omega
theorem digs_val {x : Nat} (h : x ≤ 100000000) : valF 0 (digs x) = x := by
  unfold digs
  rw [valF_snoc, hiD_val 8 (x / 64) (by have : (64 : Nat) ^ 8 = 281474976710656 := by decide
                                        omega)]
  omega
theorem digs_lt (x : Nat) : ∀ d ∈ digs x, d < 64 := fun d h => by
  rcases List.mem_append.mp h with h | h
  · exact hiD_lt _ _ d h
  · rw [List.mem_singleton.mp h]; exact Nat.mod_lt _ (by decide)
theorem digs_length (x : Nat) : (digs x).length ≤ 9 := by
  have := hiD_length 8 (x / 64)
  unfold digs
  rw [List.length_append]
  simp
  omega
theorem digs_ne (x : Nat) : ∃ d r, digs x = d :: r := by
  cases h : digs x with
  | nil => unfold digs at h; simp at h
  | cons d r => exact ⟨d, r, rfl⟩
theorem fm64 (m : Nat) : (m : Int).fmod 64 = ((m % 64 : Nat) : Int) := by
  rw [Int.fmod_eq_emod_of_nonneg _ (by decide)]; omega
theorem fd64 (m : Nat) : (m : Int).fdiv 64 = ((m / 64 : Nat) : Int) := by
  rw [Int.fdiv_eq_ediv_of_nonneg _ (by decide)]; omega
theorem mod64 (m : Nat) : binPV .Mod (.int (m : Int)) (.int 64) = some (.int ((m % 64 : Nat) : Int)) := by
  simp only [binPV, intB]
  rw [if_pos (by decide), fm64]
theorem div64 (m : Nat) : augPV .FloorDiv (.int (m : Int)) (.int 64) = some (.int ((m / 64 : Nat) : Int)) := by
  simp only [augPV, intB]
  rw [if_pos (by decide), fd64]
theorem add_o (c : Nat) (d : Nat) : binPV .Add (.int (d : Int)) (.int (c : Int)) = some (.int ((c + d : Nat) : Int)) := by
  simp only [binPV, addPV]
  congr 2
  omega
noncomputable def oT : T := .cmp .Gt (.var 0 ⟨76,10,76,16⟩) (.int (0) ⟨76,19,76,20⟩) ⟨76,10,76,20⟩
noncomputable def oB : Ss := (.cons
    (.assign 1 ⟨77,8,77,14⟩ (.bin .Add (.disp (.cons (.bin .Add (.bin .Mod (.var 0 ⟨77,18,77,24⟩) (.int (64) ⟨77,27,77,29⟩) ⟨77,18,77,29⟩) (.int (64) ⟨77,32,77,34⟩) ⟨77,18,77,34⟩) .nil) ⟨77,17,77,35⟩) (.var 1 ⟨77,38,77,44⟩) ⟨77,17,77,44⟩) ⟨77,8,77,44⟩)
    (.cons
    (.augVar 0 ⟨78,8,78,14⟩ .FloorDiv (.int (64) ⟨78,19,78,21⟩) ⟨78,8,78,21⟩)
    .nil))
theorem e_disp1 {Φ : Phi} {σ : Sg} {e : X} {a : Atm} {p : Pos} (h : e.ev Φ σ = some a.pv) : X.ev Φ (.disp (.cons e .nil) p) σ = some (.list [a]) := by
  have : Xs.ev Φ (.cons e .nil) σ = some [a.pv] := es_cons h es_nil
  rw [X.ev, this]
  cases a <;> rfl
theorem oT_ev {Φ : Phi} (m : Nat) (o : Option PV) : oT.ev Φ [some (.int m), o] = some (decide ((m : Int) > 0)) := t_cmp rfl rfl rfl
theorem oB_ev {Φ : Phi} {f : Nat} (m : Nat) (O : List Nat) (h : O.length ≤ 900) : oB.ev Φ f [some (.int m), some (.list (intsL O))] = some (.next [some (.int (m / 64 : Nat)), some (.list (intsL ((64 + m % 64) :: O)))]) := by
  refine ss_next (σ' := [some (.int m), some (.list (intsL ((64 + m % 64) :: O)))]) ?_ ?_
  · refine s_assign (v := .list (intsL ((64 + m % 64) :: O))) (e_bin (a := .list [.int ((64 + m % 64 : Nat) : Int)]) (b := .list (intsL O)) (e_disp1 (a := .int ((64 + m % 64 : Nat) : Int)) ?_) rfl ?_)
    · exact e_bin (a := .int ((m % 64 : Nat) : Int)) (e_bin rfl rfl (mod64 m)) rfl (add_o 64 _)
    · exact add_ints (x := [64 + m % 64]) (y := O) (by rw [List.length_append]; simp only [List.length_cons, List.length_nil]; omega)
  · exact ss_next (s_aug rfl rfl (r := .int (m / 64 : Nat)) (div64 m)) ss_nil
theorem loop_oct {Φ : Phi} {f : Nat} : ∀ (k m : Nat) (O : List Nat) (n : Nat), m < 64 ^ k → O.length + k ≤ 100 → k + 1 ≤ n →
    loopW (fun σ => oT.ev Φ σ) (fun σ => oB.ev Φ f σ) n [some (.int m), some (.list (intsL O))] = some (.next [some (.int (0 : Nat)), some (.list (intsL ((hiD k m).map (64 + ·) ++ O)))])
  | 0, m, O, n, h, hO, hn => by
    have : m = 0 := by simpa using h
    subst this
    obtain ⟨n, rfl⟩ : ∃ n', n = n' + 1 := ⟨n - 1, by omega⟩
    rw [loopW]
    simp only [oT_ev]
    rfl
  | k + 1, m, O, n, h, hO, hn => by
    obtain ⟨n, rfl⟩ : ∃ n', n = n' + 1 := ⟨n - 1, by omega⟩
    rw [loopW]
    simp only [oT_ev]
    by_cases h0 : m = 0
    · subst h0
      rfl
    · rw [decide_eq_true (by omega)]
      dsimp only
      rw [oB_ev m O (by omega)]
      dsimp only
      rw [loop_oct k (m / 64) ((64 + m % 64) :: O) n (by rw [Nat.pow_succ] at h; omega) (by simp; omega) (by omega)]
      rw [show hiD (k + 1) m = hiD k (m / 64) ++ [m % 64] from by rw [hiD, if_neg h0]]
      simp
theorem octets_eq {x : Nat} (h : x ≤ 100000000) : Φd 8 [.int (x : Int)] = some (.list (intsL (encF (digs x)))) := by
  have e8 : ∀ a : List PV, Φd 8 a = runF f_law_octets 2 1 Φz 30 a := fun _ => rfl
  rw [e8]
  refine runF_of rfl ?_
  refine ss_next (σ' := [some (.int x), some (.list (intsL [128 + x % 64]))]) ?_ ?_
  · refine s_assign (v := .list (intsL [128 + x % 64])) (e_disp1 (a := .int ((128 + x % 64 : Nat) : Int)) ?_)
    exact e_bin (a := .int ((x % 64 : Nat) : Int)) (e_bin rfl rfl (mod64 x)) rfl (add_o 128 _)
  · refine ss_next (σ' := [some (.int (x / 64 : Nat)), some (.list (intsL [128 + x % 64]))]) (s_aug rfl rfl (r := .int (x / 64 : Nat)) (div64 x)) ?_
    · refine ss_next (s_while (loop_oct 8 (x / 64) [128 + x % 64] 30 ?_ (by simp) (by decide))) ?_
      · have : (64 : Nat) ^ 8 = 281474976710656 := by decide
        omega
      · refine ss_ret (s_ret ?_)
        show some (PV.list _) = _
        unfold digs
        rw [encF_snoc]
end Mine
end
section
open PySem PySem.W PyProof.Rows PySem.Calls
set_option Elab.async false
set_option maxRecDepth 100000
namespace Mine

theorem bind_PV (pm cd doc : Value) (v : Value) : bindArgs (docDef dPV.name dPV.params dPV.body dPV.scope pm cd doc) ⟨[v], []⟩ = pure [(("iterator" : Str), v)] := rfl
theorem env0C {d : DefItem} {L f : Addr} {cd : Value} (hk : d.scope.kind = .function) : Env0 (envOfC d.name d.scope L f cd) d.scope := ⟨rfl, hk, rfl, rfl, rfl⟩
theorem fresh_at (h : Heap) : h.get? h.objs.size = none := by
  cases q : h.get? h.objs.size with
  | none => rfl
  | some o => exact absurd (Heap.lt_size q) (Nat.lt_irrefl _)
section
variable {prog : Program} {w : World} {A : Around} {E : Value → Shared → Prop} {s : Shared} {D : List DefItem} {it f : Addr} {b : Array UInt8} {tb : Tok} {i n : Nat}
/-- the way into the varint's frame -/
theorem pv_enter {Q : Value → Shared → Prop} (C : CtxOk A (n + 1)) (W : GWB D [it] s.heap) (hD : dPV ∈ D) (hf : IsFn s.heap dPV.name f) (hit : KBw.IsBytesIter s.heap it b tb i)
    (h : ∀ env h₁ tk m, Env0 env dPV.scope → env.locals = s.heap.objs.size → GWB D [it, env.locals] h₁ → h₁.Ns env.locals m → m "iterator" = some (.ref it) → KBw.IsBytesIter h₁ it b tb i → CtxOk (A.deeper env) n →
      (∀ b o, s.heap.get? b = some o → h₁.get? b = some o) →
      wpAny (model prog w) (A.deeper env) (execs dPV.body env) (fun fl s' => Q (match fl with | .ret v => v | _ => .none) s')
        (fun e s' => wpAny (model prog w) (A.deeper env) (leaving env e) (fun _ s'' => E e s'') (fun e' s'' => E e' s'') s') { s with heap := h₁, toks := tk }) :
    wpAny (model prog w) A (call (.ref f) [.ref it]) Q E s := by
  obtain ⟨N, mg, mb, consts, objs, names, y⟩ := W.gw
  obtain ⟨f', c', o, pm, doc, _, _, h3, h4, h5, h6⟩ := (y.G.made dPV hD).plain rfl
  obtain ⟨mg', hm1, hm2⟩ := hf
  have hff : f = f' := by
    have := ns_uniq hm1 y.G.g dPV.name
    rw [hm2, h3] at this
    cases this; rfl
  subst hff
  refine wpAny_call ?_
  refine call_cells (binds := [(("iterator" : Str), .ref it)]) (by have := C.depth; unfold recursionLimit; omega) h4 h5 y.G.nolimit h6 (bind_PV _ _ _ _) ?_ (fun h₁ tk F X => ?_) rfl rfl rfl
  · intro x hx
    rw [List.mem_singleton.mp hx]
    exact .inl (show dPV.scope.names.lookup ("iterator" : Str) = some .local from by decide +kernel)
  · have hW : GWB D [it, s.heap.objs.size] h₁ := by
      obtain ⟨hb, a1, a2, a3⟩ := W
      refine ⟨hb, a1, fun c hc => ?_, fun c o e => F.keep _ _ (a3 c o e)⟩
      rcases List.mem_cons.mp hc with rfl | hc
      · exact a2 _ (by simp)
      · rw [List.mem_singleton.mp hc]
        cases q : hb.get? s.heap.objs.size with
        | none => rfl
        | some o => have := a3 _ _ q; rw [fresh_at] at this; cases this
    refine h (envOfC dPV.name dPV.scope s.heap.objs.size f (.ref c')) h₁ tk _ (env0C rfl) rfl hW F.ns ?_ (let ⟨o, ho, r⟩ := hit; ⟨o, F.keep _ _ ho, r⟩) C.deeper F.keep
    rw [bindL_eq _ _ _ (by simp)]
    have hk : (envOfC dPV.name dPV.scope s.heap.objs.size f (.ref c')).kindOf "iterator" = some .local := by
      show dPV.scope.names.lookup ("iterator" : Str) = _
      decide +kernel
    rw [if_pos hk]
    simp
theorem pv_call {d : Nat} {r : List Nat} {Q : Value → Shared → Prop} (C : CtxOk A (n + 1)) (W : GWB D [it] s.heap) (hD : dPV ∈ D) (hf : IsFn s.heap dPV.name f) (hit : KBw.IsBytesIter s.heap it b tb i)
    (hds : ∀ x ∈ d :: r, x < 64) (hlen : r.length ≤ 8) (hR : Rd b i (encF (d :: r)))
    (hQ : ∀ t s', KB [it] s s' → KBw.IsBytesIter s'.heap it b tb (i + r.length + 1) → Q (.int (valF 0 (d :: r) : Nat) t) s') :
    wpAny (model prog w) A (call (.ref f) [.ref it]) Q E s := by
  refine pv_enter C W hD hf hit fun env h₁ tk m V hL W₁ hm hi hit₁ _ hk => ?_
  refine pv_body (s := { s with heap := h₁, toks := tk }) V W₁ hm hi hit₁ hds hlen hR fun t s' K hit' => ?_
  refine hQ t s' ⟨fun c o hc e => K.keep c o ?_ (hk c o e), K.os, K.gens⟩ hit'
  rcases hc with hc | hc
  · refine .inl fun h => ?_
    rcases List.mem_cons.mp h with rfl | h
    · exact hc (by simp)
    · rw [List.mem_singleton.mp h, hL, fresh_at] at e; cases e
  · exact .inr hc
/-- at the tape's end -/
theorem pv_stop {base : Heap} {outer : List Env} {Q : Value → Shared → Prop} (C : CtxOk A (n + 1)) (W : GWB D [it] s.heap) (hD : dPV ∈ D) (hf : IsFn s.heap dPV.name f) (hit : KBw.IsBytesIter s.heap it b tb i) (hend : b[i]? = none)
    (K : Below A base outer s.heap)
    (hE : ∀ e t s' B, Heap.FlyingW B outer e (.type "StopIteration") (.ref t) s'.heap → (∀ c o, s.heap.get? c = some o → c ≠ it → c ∉ outer.filterMap (·.frame) → B.get? c = some o) → s.heap.UpToSlots s'.heap → s'.os = s.os → s'.gens = s.gens → E (.ref e) s') :
    wpAny (model prog w) A (call (.ref f) [.ref it]) Q E s := by
  refine pv_enter C W hD hf hit fun env h₁ tk m V hL W₁ hm hi hit₁ C₁ hk => ?_
  refine wpAny_execs_cons (wpAny_Assign_Name (ev_next (s := { s with heap := h₁, toks := tk }) V W₁.gw hm hi (tape_stop C₁.handled hit₁ hend fun h' h'' e hs hx => ?_)) rfl)
  have hne : it ≠ env.locals := bi_ne hit₁ hm
  have hm' : h'.Ns env.locals m := ns_but hm hs hne
  have hfi : ∀ c o, s.heap.get? c = some o → (∀ vs, o.data ≠ .fields vs) → c ≠ it := fun c o e hn q => by
    obtain ⟨o', ho', _, hd'⟩ := hit
    rw [q, ho'] at e; cases e
    exact hn _ hd'
  have hk' : ∀ c o, s.heap.get? c = some o → c ≠ it → h'.get? c = some o := fun c o e hn => (hs.2 c hn).trans (hk c o e)
  have hLb : base.get? env.locals = none := by
    cases q : base.get? env.locals with
    | none => rfl
    | some o => have := K.stays _ _ q; rw [hL, fresh_at] at this; cases this
  have FF : h'.FunFrames base (env :: outer) := by
    refine ⟨by rw [V.fn]; decide, ?_, K.frames.of_keeps fun c o e hn => ⟨o, hk' c o e (hfi c o e hn), rfl⟩⟩
    obtain ⟨o, es, ep, ho, hd, _⟩ := hm'
    exact ⟨_, o, V.fr, hLb, ho, fun vs q => by rw [hd] at q; cases q⟩
  have hin : ∀ e ∈ (env :: outer), ∀ c, e.frame = some c → c ∈ (env :: outer).filterMap (·.frame) := fun e he c hc => List.mem_filterMap.mpr ⟨e, he, hc⟩
  refine wpAny_leaves_madeW (base := hideAll h' ((env :: outer).filterMap (·.frame))) (Around.frames_deeper K.stack) V.fr (fun c o q => of_hideAll _ q) (funFrames_hide FF hin) hx fun h₃ t x1 x2 x3 x4 => ?_
  refine hE e t { s with heap := h₃, toks := tk } _ x1 (fun c o ho hn hc => ?_) ?_ rfl rfl
  · refine hideAll_get _ (hk' c o ho hn) fun hm => ?_
    obtain ⟨e', he', hf'⟩ := List.mem_filterMap.mp hm
    rcases List.mem_cons.mp he' with rfl | he'
    · rw [V.fr] at hf'
      rw [← Option.some.inj hf', hL, fresh_at] at ho; cases ho
    · exact hc (List.mem_filterMap.mpr ⟨e', he', hf'⟩)
  · intro c o e hn
    have h1 : h'.get? c = some o := hk' c o e (hfi c o e hn)
    exact x4 c o (hx.keeps c o h1) hn
end
end Mine
end
section
open PySem PySem.W PyProof.Rows PySem.Calls
set_option Elab.async false
set_option maxRecDepth 100000
namespace Mine

noncomputable def apE : Expr := .Call (.Name "_parse_varint" ⟨84,21,84,34⟩) [(.Name "tape" ⟨84,35,84,39⟩)] [] ⟨84,21,84,40⟩
noncomputable def apS (p1 p2 p3 p4 p5 p6 : Pos) : Stmt := .Expr (.Call (.Attribute (.Name "found" p1) "append" p2) [(.Call (.Name "_parse_varint" p3) [(.Name "tape" p4)] [] p5)] [] p6) p6
noncomputable def sTape : Stmt := .Assign [(.Name "tape" ⟨81,4,81,8⟩)] (.Call (.Name "iter" ⟨81,11,81,15⟩) [(.Call (.Name "bytes" ⟨81,16,81,21⟩) [eComp ⟨81,23,81,28⟩ ⟨81,33,81,39⟩ ⟨81,43,81,50⟩ ⟨81,55,81,60⟩ ⟨81,64,81,75⟩ ⟨81,76,81,82⟩ ⟨81,64,81,83⟩ ⟨81,22,81,84⟩] [] ⟨81,16,81,85⟩)] [] ⟨81,11,81,86⟩) ⟨81,4,81,86⟩
noncomputable def xNil : X := .disp .nil ⟨82,12,82,14⟩
noncomputable def sFound : Stmt := .Assign [(.Name "found" ⟨82,4,82,9⟩)] (xNil.toE nmR fnN) ⟨82,4,82,14⟩
noncomputable def itR : It := .r1 (.bi .len (.var 0 ⟨83,23,83,30⟩) .nil ⟨83,19,83,22⟩ ⟨83,19,83,31⟩) ⟨83,13,83,18⟩ ⟨83,13,83,32⟩
noncomputable def sFor : Stmt := .For (.Name (nmAt nmR 3) ⟨83,8,83,9⟩) (itR.toE nmR fnN) [apS ⟨84,8,84,13⟩ ⟨84,8,84,20⟩ ⟨84,21,84,34⟩ ⟨84,35,84,39⟩ ⟨84,21,84,40⟩ ⟨84,8,84,41⟩] [] ⟨83,4,84,41⟩
noncomputable def sTry : Stmt := .Try [apS ⟨86,8,86,13⟩ ⟨86,8,86,20⟩ ⟨86,21,86,34⟩ ⟨86,35,86,39⟩ ⟨86,21,86,40⟩ ⟨86,8,86,41⟩] [(.ExceptHandler (some (.Name "StopIteration" ⟨87,11,87,24⟩)) none [(.Return (some (.Name "found" ⟨88,15,88,20⟩)) ⟨88,8,88,20⟩)] ⟨87,4,88,20⟩)] [] [] ⟨85,4,88,20⟩
noncomputable def dR : DefItem := ⟨"_law_read", ⟨[], [⟨"numbers", none, ⟨80,14,80,21⟩⟩], none, [], [], none, []⟩, [sTape, sFound, sFor, sTry, (.Return (some (.Name "found" ⟨89,11,89,16⟩)) ⟨89,4,89,16⟩)],
  ⟨.function, [("numbers", .local), ("tape", .local), ("found", .local), ("k", .local), ("iter", .globalImplicit), ("bytes", .globalImplicit), ("range", .globalImplicit), ("len", .globalImplicit), ("_parse_varint", .globalImplicit), ("StopIteration", .globalImplicit)], false, false, [("fast", (.str "numbers")), ("fast", (.str "number")), ("fast", (.str "octet")), ("fast", (.str "tape")), ("fast", (.str "found")), ("fast", (.str "k"))]⟩, ⟨80,0,89,16⟩⟩
theorem in_R : dR ∈ D0 := List.mem_of_getElem? (i := 9) (by with_unfolding_all rfl)
theorem bind_R (pm cd doc : Value) (v : Value) : bindArgs (docDef dR.name dR.params dR.body dR.scope pm cd doc) ⟨[v], []⟩ = pure [(("numbers" : Str), v)] := rfl

section
variable {prog : Program} {w : World} {A : Around} {E : Value → Shared → Prop} {s : Shared} {env : Env} {D : List DefItem} {m : Str → Option Value} {fo tp : Addr} {vs : Array Value}
theorem rd_append {p1 p2 p3 p4 p5 p6 : Pos} {Q : Flow → Shared → Prop} (V : Env0 env dR.scope) (W : GW D s.heap) (hD : dPV ∈ D) (hm : s.heap.Ns env.locals m) (hfo : m "found" = some (.ref fo)) (htp : m "tape" = some (.ref tp))
    (hpl : s.heap.PlainList fo vs) (hp : (p2.endLine == p6.line) = true) (hsz : vs.size ≤ sizeLine)
    (h : ∀ f, IsFn s.heap dPV.name f → wpAny (model prog w) A (call (.ref f) [.ref tp]) (fun v s₁ => s₁.heap.PlainList fo vs ∧ ∀ h', h'.PlainList fo (vs.push v) → Heap.SameBut fo s₁.heap h' → Q .next { s₁ with heap := h' }) E s) :
    wpAny (model prog w) A (exec (apS p1 p2 p3 p4 p5 p6) env) Q E s := by
  refine wpAny_Expr ?_ (notInteractive V.fn) rfl
  refine wpAny_Call_append rfl rfl hp rfl ?_
  obtain ⟨kk, hk⟩ := id hpl
  refine ld V (by decide +kernel) hm hfo (by decide +kernel) ⟨fo, vs, rfl, ⟨_, kk, hk, rfl, rfl, rfl⟩, ?_⟩
  refine wpAny_Call_NameR ?_
  refine load_def (d := dPV) W V.fn V.gl ((V.kind _).trans (by decide +kernel)) hD rfl (by decide +kernel) fun f c' o pm doc hfn ho hdat _ => ?_
  refine callWith_def hdat ?_ rfl
  refine args_cons (ld V (by decide +kernel) hm htp (by decide +kernel) (args_nil ⟨ho, ?_⟩)) rfl
  refine wpAny_mono (h f hfn) (fun v s₁ hv => ?_) fun _ _ x => x
  exact wpAny_list_append_plain hv.1 (fun h' hp' hs => hv.2 h' hp' hs) hsz
end
end Mine
end
section
open PySem PySem.W PyProof.Rows PySem.Calls
set_option Elab.async false
set_option maxRecDepth 100000
namespace Mine

noncomputable def bsOf (ns : List Nat) : List Nat := ns.flatMap fun x => encF (digs x)
noncomputable def octA : Atm → List Atm
  | .int i => intsL (encF (digs i.toNat))
  | .str _ => []
noncomputable def bInt (l : List Nat) : List Int := l.map fun (n : Nat) => (n : Int)
theorem flat_oct : ∀ ns : List Nat, (intsL ns).flatMap octA = intsL (bsOf ns)
  | [] => rfl
  | x :: r => by
    have := flat_oct r
    unfold bsOf intsL at *
    rw [List.map_cons, List.flatMap_cons, this, List.flatMap_cons, List.map_append]
    rfl
theorem encF_lt : ∀ ds : List Nat, (∀ d ∈ ds, d < 64) → ∀ c ∈ encF ds, c < 256
  | [], _, _, h => by cases h
  | [d], hd, c, h => by
    have := hd d (by simp)
    simp [encF] at h
    omega
  | d :: e :: r, hd, c, h => by
    rw [encF_cons] at h
    rcases List.mem_cons.mp h with rfl | h
    · have := hd d (by simp)
      omega
    · exact encF_lt (e :: r) (fun x hx => hd x (List.mem_cons_of_mem _ hx)) c h
theorem bs_lt {ns : List Nat} : ∀ c ∈ bsOf ns, c < 256 := fun c h => by
  obtain ⟨x, _, hx⟩ := List.mem_flatMap.mp h
  exact encF_lt _ (digs_lt x) c hx
theorem bs_length : ∀ ns : List Nat, (bsOf ns).length ≤ 9 * ns.length
  | [] => Nat.le_refl _
  | x :: r => by
    have := bs_length r
    have h2 := digs_length x
    unfold bsOf at *
    rw [List.flatMap_cons, List.length_append, encF_length, List.length_cons]
    omega
theorem ints_of : ∀ (l : List Nat) (vs : List Value), AllIs vs (intsL l) → IntsAre vs (bInt l)
  | [], vs, h => by cases h; exact .nil
  | x :: r, vs, h => by
    unfold intsL at h
    rw [List.map_cons] at h
    cases h with
    | cons hv hr => cases hv with
      | int i t => exact .cons _ _ (ints_of r _ hr)
theorem byte_get {l : List Nat} (h : ∀ c ∈ l, c < 256) {i c : Nat} (e : l[i]? = some c) : ∃ u, (byteArr (bInt l))[i]? = some u ∧ u.toNat = c := by
  refine ⟨c.toUInt8, ?_, ?_⟩
  · unfold byteArr bInt
    simp [e]
  · have := h c (List.mem_of_getElem? e)
    simp [Nat.toUInt8]
    omega
theorem byte_end {l : List Nat} : (byteArr (bInt l))[l.length]? = none := by
  simp [byteArr, bInt]
section
variable {prog : Program} {w : World} {A : Around} {E : Value → Shared → Prop} {s s₀ : Shared} {env : Env} {D : List DefItem} {m : Str → Option Value} {n : Nat} {nv : Value} {ns : List Nat}
theorem rd_cs (V : Env0 env dR.scope) (C : CtxOk A n) (W : GW D s.heap) (hm : s.heap.Ns env.locals m) (hnum : m "numbers" = some nv) {xs : List Atm} (hv : VIs s.heap nv (.list xs)) : CS n D A env nmR [some (.list xs), none, none, none, none, none] s := by
  refine ⟨C, W, fun x hx => ?_, V.fn, V.gl, V.bl, by decide +kernel, fun i p e => ?_⟩
  · rw [V.kind] at hx
    have h3 : ∀ z ∈ dR.scope.names, z.2 ≠ .cell := by decide +kernel
    exact absurd rfl (h3 _ (lookup_mem hx))
  · match i, e with
    | 0, e =>
      cases e
      exact ⟨_, nv, rfl, .inl ⟨(V.kind _).trans (by decide +kernel), m, hm, hnum⟩, hv⟩
    | 1, e => cases e
    | 2, e => cases e
    | 3, e => cases e
    | 4, e => cases e
    | 5, e => cases e
    | i + 6, e => cases e
theorem rd_tape {Q : Flow → Shared → Prop} (hΦ : PhiOk prog w D n fnN Φd) (V : Env0 env dR.scope) (C : CtxOk A n) (W : GW D s.heap) (hm : s.heap.Ns env.locals m) (hnum : m "numbers" = some nv) (hv : VIs s.heap nv (.list (intsL ns)))
    (hb : ∀ x ∈ ns, x ≤ 100000000) (hl : ns.length ≤ 10)
    (hQ : ∀ s' tp tb, (∀ c o, s.heap.get? c = some o → c ≠ env.locals → s'.heap.get? c = some o) → s'.os = s.os → GensOk s.gens s'.gens → s'.heap.Ns env.locals (fun y => if y = "tape" then some (.ref tp) else m y) → KBw.IsBytesIter s'.heap tp (byteArr (bInt (bsOf ns))) tb 0 → s.heap.get? tp = none → Q .next s') :
    wpAny (model prog w) A (exec sTape env) Q E s := by
  have hlen := bs_length ns
  refine wpAny_Assign_Name ?_ rfl
  refine wpAny_Call_NameR (load_builtin (v := .builtin "iter") W V.fn V.gl V.bl ((V.kind _).trans (by decide +kernel)) (by decide +kernel) (by decide +kernel) ?_ (by decide +kernel) (by decide +kernel) (by decide +kernel))
  refine callWith_builtin1 ?_ rfl rfl
  refine args_cons ?_ rfl
  refine wpAny_Call_NameR (load_builtin (v := .type "bytes") W V.fn V.gl V.bl ((V.kind _).trans (by decide +kernel)) (by decide +kernel) (by decide +kernel) ?_ (by decide +kernel) (by decide +kernel) (by decide +kernel))
  refine callWith_type1 ?_ rfl rfl
  refine args_cons ?_ rfl
  refine comp2_sound hΦ (oct := octA) (rd_cs V C W hm hnum hv) (by rw [V.sc]; decide +kernel) rfl (fun a ha => ?_) (by rw [flat_oct]; simp only [intsL, List.length_map]; unfold lim; omega) fun v₁ s₁ hE₁ hv₁ hf₁ => args_nil ?_
  · obtain ⟨x, hx, rfl⟩ := List.mem_map.mp ha
    exact octets_eq (hb x hx)
  · rw [flat_oct] at hv₁
    cases hv₁ with
    | list hp hx hl' =>
      rename_i a vs
      refine call_bytes_ints hp.isList (ints_of _ _ hx) (fun k hk => ?_) ?_ C.handled fun h₂ t k hk => args_nil (tape_iter ?_)
      · obtain ⟨c, hc, rfl⟩ := List.mem_map.mp hk
        have := bs_lt c hc
        omega
      · have := hx.length
        simp only [intsL, List.length_map] at this
        unfold sizeLine
        omega
      · have kp₂ : ∀ c o, s.heap.get? c = some o → (h₂.push { cls := .type "bytes_iterator", data := .fields #[.bytes (byteArr (bInt (bsOf ns))) t, .int 0 0] }).get? c = some o := fun c o e => Heap.get?_push_of_some _ (hk _ _ (hE₁.keep _ _ e))
        obtain ⟨oL, es, ep, hoL, hrest⟩ := id hm
        refine st V (by decide +kernel) (s := { s₁ with heap := h₂.push { cls := .type "bytes_iterator", data := .fields #[.bytes (byteArr (bInt (bsOf ns))) t, .int 0 0] }, toks := k }) (m := m) ⟨oL, es, ep, kp₂ _ _ hoL, hrest⟩ fun h₃ hn₃ hs₃ => ?_
        have hnew : s.heap.get? h₂.objs.size = none := by
          cases q : s.heap.get? h₂.objs.size with
          | none => rfl
          | some o => have := hk _ _ (hE₁.keep _ _ q); rw [fresh_at] at this; cases this
        have hne : h₂.objs.size ≠ env.locals := fun q => by rw [q, hoL] at hnew; cases hnew
        refine hQ _ _ t (fun c o e hc => (hs₃.2 c hc).trans (kp₂ c o e)) hE₁.os hE₁.gens hn₃ ⟨_, (hs₃.2 _ hne).trans (Heap.get?_push_size _ rfl), rfl, rfl⟩ hnew
end
end Mine
end
section
open PySem PySem.W PyProof.Rows PySem.Calls
set_option Elab.async false
set_option maxRecDepth 100000
namespace Mine

noncomputable def posOf (ns : List Nat) (i : Nat) : Nat := (bsOf (ns.take i)).length
theorem bs_append (a b : List Nat) : bsOf (a ++ b) = bsOf a ++ bsOf b := by unfold bsOf; rw [List.flatMap_append]
theorem take_succ' {ns : List Nat} {i x : Nat} (h : ns[i]? = some x) : ns.take (i + 1) = ns.take i ++ [x] := by rw [List.take_add_one, h]; rfl
theorem pos_succ {ns : List Nat} {i x : Nat} (h : ns[i]? = some x) : posOf ns (i + 1) = posOf ns i + (digs x).length := by
  unfold posOf
  rw [take_succ' h, bs_append, List.length_append]
  congr 1
  unfold bsOf
  rw [List.flatMap_cons, List.flatMap_nil, List.append_nil, encF_length]
theorem rd_at {ns : List Nat} {i x : Nat} (h : ns[i]? = some x) : Rd (byteArr (bInt (bsOf ns))) (posOf ns i) (encF (digs x)) := by
  intro j c e
  refine byte_get bs_lt ?_
  have h1 : ns = ns.take i ++ ([x] ++ ns.drop (i + 1)) := by
    rw [← List.append_assoc, ← take_succ' h, List.take_append_drop]
  have h2 : bsOf ns = bsOf (ns.take i) ++ (encF (digs x) ++ bsOf (ns.drop (i + 1))) := by
    conv => lhs; rw [h1]
    rw [bs_append, bs_append]
    congr 2
    unfold bsOf
    rw [List.flatMap_cons, List.flatMap_nil, List.append_nil]
  rw [h2, List.getElem?_append_right (by unfold posOf; omega), show posOf ns i + j - (bsOf (ns.take i)).length = j from by unfold posOf; omega]
  rw [List.getElem?_append_left (List.getElem?_eq_some_iff.mp e).1, e]
theorem pos_end (ns : List Nat) : posOf ns ns.length = (bsOf ns).length := by unfold posOf; rw [List.take_length]

structure RInv (s₀ : Shared) (env : Env) (nv : Value) (tp fo : Addr) (tb : Tok) (ns : List Nat) (i : Nat) (s' : Shared) : Prop where
  keep : ∀ c o, s₀.heap.get? c = some o → s'.heap.get? c = some o
  os : s'.os = s₀.os
  gens : GensOk s₀.gens s'.gens
  map : ∃ m, s'.heap.Ns env.locals m ∧ m "numbers" = some nv ∧ m "tape" = some (.ref tp) ∧ m "found" = some (.ref fo)
  tape : KBw.IsBytesIter s'.heap tp (byteArr (bInt (bsOf ns))) tb (posOf ns i)
  list : ∃ vs, s'.heap.PlainList fo vs ∧ AllIs vs.toList (intsL (ns.take i))
structure RNew (s₀ : Shared) (env : Env) (tp fo : Addr) : Prop where
  l : s₀.heap.get? env.locals = none
  t : s₀.heap.get? tp = none
  f : s₀.heap.get? fo = none
  lt : tp ≠ env.locals
  lf : fo ≠ env.locals
  tf : tp ≠ fo
section
variable {prog : Program} {w : World} {A : Around} {E : Value → Shared → Prop} {s s₀ : Shared} {env : Env} {D : List DefItem} {n i : Nat} {nv : Value} {ns : List Nat} {tp fo : Addr} {tb : Tok}
theorem RInv.gwb (R : RInv s₀ env nv tp fo tb ns i s) (N : RNew s₀ env tp fo) (W : GW D s₀.heap) : GWB D [tp] s.heap := ⟨s₀.heap, W, fun b hb => by rw [List.mem_singleton.mp hb]; exact N.t, R.keep⟩
theorem list_size {fo : Addr} {vs : Array Value} {xs : List Nat} (hA : AllIs vs.toList (intsL xs)) (hl : xs.length ≤ 10) : vs.size ≤ sizeLine := by
  have h1 := hA.length
  have h2 : vs.toList.length = vs.size := Array.length_toList
  simp only [intsL, List.length_map] at h1
  unfold sizeLine
  omega
theorem rd_turn {p1 p2 p3 p4 p5 p6 : Pos} {x : Nat} {Q : Flow → Shared → Prop} (hp : (p2.endLine == p6.line) = true) (V : Env0 env dR.scope) (C : CtxOk A (n + 1)) (W : GW D s₀.heap) (hD : dPV ∈ D) (hl : ns.length ≤ 10)
    (N : RNew s₀ env tp fo) (R : RInv s₀ env nv tp fo tb ns i s) (hx : ns[i]? = some x) (hxb : x ≤ 100000000)
    (hQ : ∀ s', RInv s₀ env nv tp fo tb ns (i + 1) s' → (∀ c o, s.heap.get? c = some o → c ≠ tp → c ≠ fo → s'.heap.get? c = some o) → Q .next s') :
    wpAny (model prog w) A (exec (apS p1 p2 p3 p4 p5 p6) env) Q E s := by
  obtain ⟨m, hm, m1, m2, m3⟩ := R.map
  obtain ⟨vs, hpl, hA⟩ := R.list
  have WB := R.gwb N W
  obtain ⟨d, r, hdr⟩ := digs_ne x
  have hlx := digs_length x
  rw [hdr, List.length_cons] at hlx
  have htk : (ns.take i).length ≤ 10 := by rw [List.length_take]; omega
  refine rd_append V WB.gw hD hm m3 m2 hpl hp (list_size (fo := fo) hA htk) fun f hf => ?_
  refine pv_call C WB hD hf R.tape (d := d) (r := r) (by rw [← hdr]; exact digs_lt x) (by omega) (by rw [← hdr]; exact rd_at hx) fun t s₁ K hit => ?_
  have hpl₁ : s₁.heap.PlainList fo vs := let ⟨k, hk⟩ := hpl; ⟨k, K.keep _ _ (.inr ⟨_, _, rfl⟩) hk⟩
  refine ⟨hpl₁, fun h' hp' hs => ?_⟩
  have kp : ∀ c o, s.heap.get? c = some o → c ≠ tp → c ≠ fo → h'.get? c = some o := fun c o e h1 h2 => (hs.2 c h2).trans (K.keep c o (.inl fun h => h1 (List.mem_singleton.mp h)) e)
  refine hQ { s₁ with heap := h' } ⟨fun c o e => ?_, K.os.trans R.os, R.gens.trans K.gens, ⟨m, ?_, m1, m2, m3⟩, ?_, vs.push (.int (valF 0 (d :: r) : Nat) t), hp', ?_⟩ kp
  · exact kp c o (R.keep c o e) (fun q => by rw [q, N.t] at e; cases e) (fun q => by rw [q, N.f] at e; cases e)
  · exact hm.at' fun o e => kp _ o e (Ne.symm N.lt) (Ne.symm N.lf)
  · obtain ⟨o, ho, hrest⟩ := hit
    refine ⟨o, (hs.2 _ N.tf).trans ho, ?_⟩
    rw [pos_succ hx, hdr, List.length_cons]
    exact hrest
  · rw [Array.toList_push, take_succ' hx]
    have : intsL (ns.take i ++ [x]) = intsL (ns.take i) ++ [.int (x : Int)] := by simp [intsL]
    rw [this]
    refine hA.append (.cons ?_ .nil)
    have hv : valF 0 (d :: r) = x := by rw [← hdr]; exact digs_val hxb
    rw [hv]
    exact .int _ _
end
end Mine
end
section
open PySem PySem.W PyProof.Rows PySem.Calls
set_option Elab.async false
set_option maxRecDepth 100000
namespace Mine
section
variable {prog : Program} {w : World} {A : Around} {E : Value → Shared → Prop} {s s₀ : Shared} {env : Env} {D : List DefItem} {n i : Nat} {nv : Value} {ns : List Nat} {tp fo : Addr} {tb : Tok} {m : Str → Option Value}
theorem neNT : ¬ (Str.ofString "numbers" = Str.ofString "tape") := by decide +kernel
theorem neNF : ¬ (Str.ofString "numbers" = Str.ofString "found") := by decide +kernel
theorem neTF : ¬ (Str.ofString "tape" = Str.ofString "found") := by decide +kernel
theorem neNK : ¬ (Str.ofString "numbers" = Str.ofString "k") := by decide +kernel
theorem neTK : ¬ (Str.ofString "tape" = Str.ofString "k") := by decide +kernel
theorem neFK : ¬ (Str.ofString "found" = Str.ofString "k") := by decide +kernel
/-- the tape and the empty list -/
theorem rd_start {Q : Flow → Shared → Prop} {r : List Stmt} (hΦ : PhiOk prog w D n fnN Φd) (V : Env0 env dR.scope) (C : CtxOk A n) (W : GW D s₀.heap) (hk : ∀ c o, s₀.heap.get? c = some o → s.heap.get? c = some o) (hos : s.os = s₀.os) (hg : GensOk s₀.gens s.gens) (hL : s₀.heap.get? env.locals = none)
    (hm : s.heap.Ns env.locals m) (hnum : m "numbers" = some nv) (hv : VIs s₀.heap nv (.list (intsL ns))) (hb : ∀ x ∈ ns, x ≤ 100000000) (hl : ns.length ≤ 10)
    (hQ : ∀ s' tp fo tb, RNew s₀ env tp fo → RInv s₀ env nv tp fo tb ns 0 s' → wpAny (model prog w) A (execs r env) Q E s') :
    wpAny (model prog w) A (execs (sTape :: sFound :: r) env) Q E s := by
  refine wpAny_execs_cons (rd_tape hΦ V C (W.keeps hk) hm hnum (hv.keeps hk) hb hl fun s₁ tp tb hk₁ hos₁ hg₁ hm₁ hit₁ hnew₁ => ?_)
  have hkL : ∀ c o, s₀.heap.get? c = some o → c ≠ env.locals := fun c o e q => by rw [q, hL] at e; cases e
  have hk01 : ∀ c o, s₀.heap.get? c = some o → s₁.heap.get? c = some o := fun c o e => hk₁ c o (hk c o e) (hkL c o e)
  have CS₁ := rd_cs (n := n) V C (W.keeps hk01) hm₁ (nv := nv) (by simpa [neNT] using hnum) (hv.keeps hk01)
  refine wpAny_execs_cons (wpAny_Assign_Name ?_ rfl)
  refine makes_sound hΦ (e := xNil) (p := .list []) rfl rfl (by rw [V.sc]; decide +kernel) CS₁ fun v s₂ hE₂ hv₂ hf₂ hp₂ => ?_
  have hm₂ : s₂.heap.Ns env.locals _ := hm₁.keeps hE₂.keep
  refine st V (by decide +kernel) hm₂ fun h₃ hn₃ hs₃ => ?_
  cases hv₂ with
  | list hlp hx hxl =>
    rename_i fo vs
    cases hx
    obtain ⟨its, kk, hfo⟩ := hp₂ fo rfl
    obtain ⟨o', k', ho', hc', hd'⟩ := hlp
    rw [hfo] at ho'
    cases ho'
    cases hd'
    have hfnew : s₁.heap.get? fo = none := hf₂ fo rfl
    have htp₁ : ∃ o, s₁.heap.get? tp = some o := let ⟨o, ho, _⟩ := hit₁; ⟨o, ho⟩
    obtain ⟨oL, _, _, hoL, _⟩ := id hm₁
    have nt : s₀.heap.get? tp = none := by
      cases q : s₀.heap.get? tp with
      | none => rfl
      | some o => have := hk _ _ q; rw [hnew₁] at this; cases this
    have nf : s₀.heap.get? fo = none := by
      cases q : s₀.heap.get? fo with
      | none => rfl
      | some o => have := hk01 _ _ q; rw [hfnew] at this; cases this
    have n1 : fo ≠ env.locals := fun q => by
      rw [q, hoL] at hfnew
      cases hfnew
    have n2 : tp ≠ fo := fun q => by
      obtain ⟨o, ho⟩ := htp₁
      rw [q, hfnew] at ho
      cases ho
    have N : RNew s₀ env tp fo := ⟨hL, nt, nf, bi_ne hit₁ hm₁, n1, n2⟩
    refine hQ _ tp fo tb N ⟨fun c o e => (hs₃.2 c (hkL c o e)).trans (hE₂.keep _ _ (hk01 c o e)), (hE₂.os.trans hos₁).trans hos, (hg.trans hg₁).trans hE₂.gens, ⟨_, hn₃, by simpa [neNF, neNT] using hnum, by simp [neTF], by simp⟩, ?_, #[], ⟨kk, (hs₃.2 _ N.lf).trans hfo⟩, .nil⟩
    obtain ⟨o, ho, hrest⟩ := hit₁
    exact ⟨o, (hs₃.2 _ N.lt).trans (hE₂.keep _ _ ho), hrest⟩
theorem itR_ev {Φ : Phi} {a b c d e f : Nat} : itR.ev Φ [some (.list (intsL [a, b, c, d, e, f])), none, none, none, none, none] = some [.int 0, .int 1, .int 2, .int 3, .int 4, .int 5] :=
  it_r1 (j := 6) (e_bi rfl es_nil rfl) (by decide +kernel)
theorem rd_for {Q : Flow → Shared → Prop} {xs : List Atm} (hΦ : PhiOk prog w D (n + 1) fnN Φd) (V : Env0 env dR.scope) (C : CtxOk A (n + 1)) (W : GW D s₀.heap) (hD : dPV ∈ D) (hv : VIs s₀.heap nv (.list (intsL ns))) (hb : ∀ x ∈ ns, x ≤ 100000000) (hl : ns.length ≤ 10)
    (hxs : itR.ev Φd [some (.list (intsL ns)), none, none, none, none, none] = some xs) (hxl : xs.length = ns.length)
    (N : RNew s₀ env tp fo) (R : RInv s₀ env nv tp fo tb ns 0 s) (hQ : ∀ s', RInv s₀ env nv tp fo tb ns ns.length s' → Q .next s') :
    wpAny (model prog w) A (exec sFor env) Q E s := by
  obtain ⟨m, hm, m1, m2, m3⟩ := R.map
  refine wpAny_For (It.sound hΦ itR env _ s xs _ _ hxs (by rw [V.sc]; decide +kernel) (rd_cs V C (W.keeps R.keep) hm m1 (hv.keeps R.keep)) fun itv s₂ hI => ?_) (folded_it itR)
  obtain ⟨I, fp, wr, P, St, rfl, Wk, hst, hfp, hwr, hP, hE, hsrc, hex⟩ := hI
  have W' := Wk A C.handled
  have fresh : ∀ c ∈ fp, s.heap.get? c = none := fun c hc => by
    rcases hsrc c hc with h | ⟨_, _, h, _⟩
    · exact h
    · cases h
  obtain ⟨oL, _, _, hoL, _⟩ := id hm
  obtain ⟨ot, hot, _⟩ := id R.tape
  obtain ⟨vs, ⟨kk, hfo⟩, _⟩ := id R.list
  have ffo : fo ∉ fp := fun h => by have := fresh _ h; rw [hfo] at this; cases this
  have ftp : tp ∉ fp := fun h => by have := fresh _ h; rw [hot] at this; cases this
  have fL : env.locals ∉ fp := fun h => by have := fresh _ h; rw [hoL] at this; cases this
  -- a change off the frame's own things
  have away : ∀ (j : Nat) (s' : Shared) (h' : Heap) (tk : Nat), RInv s₀ env nv tp fo tb ns j s' → (∀ c o, c ∉ wr → s'.heap.get? c = some o → h'.get? c = some o) → RInv s₀ env nv tp fo tb ns j { s' with heap := h', toks := tk } := by
    intro j s' h' tk R' hk
    obtain ⟨m', hm', q1, q2, q3⟩ := R'.map
    obtain ⟨vs', ⟨k', hl'⟩, hA'⟩ := R'.list
    obtain ⟨o', ho', hr'⟩ := R'.tape
    refine ⟨fun c o e => hk c o (fun hw => ?_) (R'.keep c o e), R'.os, R'.gens, ⟨m', hm'.at' fun o e => hk _ o (fun hw => fL (W'.sub _ hw)) e, q1, q2, q3⟩, ⟨o', hk _ _ (fun hw => ftp (W'.sub _ hw)) ho', hr'⟩, vs', ⟨k', hk _ _ (fun hw => ffo (W'.sub _ hw)) hl'⟩, hA'⟩
    have := R.keep c o e
    rw [hwr c hw] at this; cases this
  refine codeAny_forLoop (fun k s' => ∃ j, j ≤ xs.length ∧ k = xs.length + 1 - j ∧ St j s'.heap ∧ RInv s₀ env nv tp fo tb ns j s') ?_ (xs.length + 1) ⟨0, Nat.zero_le _, rfl, hst, ?_⟩
  · rintro k s' ⟨j, hj, rfl, hSt, R'⟩
    by_cases hlt : j < xs.length
    · refine W'.item j s' _ _ hlt hSt fun v h₁ tk hPv hSt₁ hk₁ => ?_
      have R₁ := away j s' h₁ tk R' hk₁
      obtain ⟨m₁, hm₁, q1, q2, q3⟩ := R₁.map
      refine wpAny_assign_Name ?_
      refine st (s := { s' with heap := h₁, toks := tk }) V (by decide +kernel) hm₁ fun h₂ hn₂ hs₂ => ?_
      have R₂ : RInv s₀ env nv tp fo tb ns j { s' with heap := h₂, toks := tk + 1 } := by
        obtain ⟨vs', ⟨k', hl'⟩, hA'⟩ := R₁.list
        obtain ⟨o', ho', hr'⟩ := R₁.tape
        exact ⟨fun c o e => (hs₂.2 c (fun q => by rw [q, N.l] at e; cases e)).trans (R₁.keep c o e), R₁.os, R₁.gens, ⟨_, hn₂, by simpa [nmAt, nmR, neNK] using q1, by simpa [nmAt, nmR, neTK] using q2, by simpa [nmAt, nmR, neFK] using q3⟩, ⟨o', (hs₂.2 _ N.lt).trans ho', hr'⟩, vs', ⟨k', (hs₂.2 _ N.lf).trans hl'⟩, hA'⟩
      have hSt₂ : St (j + 1) h₂ := W'.frame _ _ _ hSt₁ fun b hb' o e => (hs₂.2 b (fun q => fL (q ▸ hb'))).trans e
      have hjx : ns[j]? = some (ns[j]'(by omega)) := List.getElem?_eq_getElem _
      refine wpAny_execs_cons (rd_turn (n := n) rfl V C W hD hl N R₂ hjx (hb _ (List.getElem_mem _)) fun s₅ R₅ hk₅ => ?_)
      refine wpAny_execs_nil ?_
      exact ⟨xs.length + 1 - (j + 1), cnt_lt hlt, j + 1, hlt, rfl, W'.frame _ _ _ hSt₂ fun b hb' o e => hk₅ b o e (fun q => ftp (q ▸ hb')) (fun q => ffo (q ▸ hb')), R₅⟩
    · have hin : j = xs.length := at_end hj hlt
      subst hin
      refine W'.done s' _ _ hSt fun h₁ tk hk₁ => wpAny_execs_nil ?_
      exact hQ _ (hxl ▸ away _ s' h₁ tk R' hk₁)
  · have := hE
    obtain ⟨vs', ⟨k', hl'⟩, hA'⟩ := R.list
    obtain ⟨o', ho', hr'⟩ := R.tape
    exact ⟨fun c o e => hE.keep _ _ (R.keep c o e), hE.os.trans R.os, R.gens.trans hE.gens, ⟨m, hm.keeps hE.keep, m1, m2, m3⟩, ⟨o', hE.keep _ _ ho', hr'⟩, vs', ⟨k', hE.keep _ _ hl'⟩, hA'⟩
end
end Mine
end
section
open PySem PySem.W PyProof.Rows PySem.Calls
set_option Elab.async false
set_option maxRecDepth 100000
namespace Mine
/-- after a caught raise: all but the frames stays, the frames but for their slots -/
structure Slots (fs : List Addr) (s s' : Shared) : Prop where
  keep : ∀ c o, s.heap.get? c = some o → c ∉ fs → s'.heap.get? c = some o
  up : s.heap.UpToSlots s'.heap
  os : s'.os = s.os
  gens : GensOk s.gens s'.gens
section
variable {prog : Program} {w : World} {A A₀ : Around} {E : Value → Shared → Prop} {s s₀ : Shared} {env : Env} {D : List DefItem} {n i : Nat} {nv : Value} {ns : List Nat} {tp fo : Addr} {tb : Tok} {m : Str → Option Value} {base : Heap} {outer : List Env}
theorem rd_try {Q : Flow → Shared → Prop} (V : Env0 env dR.scope) (C : CtxOk A (n + 1)) (Wb : GW D base) (hD : dPV ∈ D) (hl : ns.length ≤ 10) (K₀ : Below A₀ base outer s₀.heap) (hfr : A.frames = some (env :: outer))
    (N : RNew s₀ env tp fo) (R : RInv s₀ env nv tp fo tb ns ns.length s)
    (hQ : ∀ s', Slots (outer.filterMap (·.frame)) s₀ s' → VIs s'.heap (.ref fo) (.list (intsL ns)) → Q (.ret (.ref fo)) s') :
    wpAny (model prog w) A (exec sTry env) Q E s := by
  obtain ⟨m, hm, m1, m2, m3⟩ := R.map
  obtain ⟨vs, hpl, hA⟩ := R.list
  obtain ⟨kk, hfo⟩ := id hpl
  have W₀ : GW D s₀.heap := Wb.keeps K₀.stays
  have hbL : base.get? env.locals = none := by
    cases q : base.get? env.locals with
    | none => rfl
    | some o => have := K₀.stays _ _ q; rw [N.l] at this; cases this
  have FF : s.heap.FunFrames base (env :: outer) := by
    refine ⟨by rw [V.fn]; decide, ?_, K₀.frames.of_keeps fun c o e _ => ⟨o, R.keep c o e, rfl⟩⟩
    obtain ⟨o, es, ep, ho, hd, _⟩ := hm
    exact ⟨_, o, V.fr, hbL, ho, fun vs q => by rw [hd] at q; cases q⟩
  have K : Below A base (env :: outer) s.heap := ⟨hfr, fun c o e => R.keep c o (K₀.stays c o e), FF⟩
  have nofr : ∀ c, c ∈ outer.filterMap (·.frame) → ∃ o, s₀.heap.get? c = some o := fun c hc => let ⟨_, o, ho, _⟩ := K₀.frames.mem hc; ⟨o, ho⟩
  have nofr' : ∀ c, c ≠ env.locals → c ∉ outer.filterMap (·.frame) → c ∉ (env :: outer).filterMap (·.frame) := fun c h1 h2 hc => by
    obtain ⟨e', he', hf'⟩ := List.mem_filterMap.mp hc
    rcases List.mem_cons.mp he' with rfl | he'
    · rw [V.fr] at hf'
      exact h1 (Option.some.inj hf').symm
    · exact h2 (List.mem_filterMap.mpr ⟨e', he', hf'⟩)
  refine wpAny_Try_except (wpAny_execs_cons ?_)
  refine rd_append V (R.gwb N W₀).gw hD hm m3 m2 hpl rfl (list_size (fo := fo) hA (by rw [List.take_length]; exact hl)) fun f hf => ?_
  have htape := R.tape
  rw [pos_end] at htape
  refine pv_stop C (R.gwb N W₀) hD hf htape (by simpa [bInt] using byte_end (l := bsOf ns)) K fun e t s' B hfl hB hsm hos hgens => ?_
  refine wpAny_looks_onW hfr V.fr hfl fun h₄ hheld₄ hsm₄ => ?_
  refine wpAny_landsW hheld₄ fun h₅ hfl₅ hsm₅ => ?_
  have hbB : base.StaysIn B := fun c o q => hB c o (K.stays c o q) (fun z => by
    have := K₀.stays _ _ q
    rw [z, N.t] at this
    cases this) (fun z => by
    rw [(K.frames.mem z).1] at q
    cases q)
  have W₅ : GW D h₅ := Wb.keeps fun c o q => hfl₅.1 c o (hbB c o q)
  obtain ⟨ob, hob, hobc⟩ := hfl₅.there
  refine wpAny_handleBy_builtin (X := "StopIteration") (T := "StopIteration") (b := true) (by rw [isSubtype_type]; kernel_rfl) (by rw [isSubtype_type]; kernel_rfl) (by rw [isSubtype_type]; kernel_rfl) ?_
  refine load_builtin (s := { s' with heap := h₅ }) (v := .type "StopIteration") W₅ V.fn V.gl V.bl ((V.kind _).trans (by decide +kernel)) (by decide +kernel) (by decide +kernel) ⟨rfl, ⟨ob, hob, hobc⟩, ?_⟩ (by decide +kernel) (by decide +kernel) (by decide +kernel)
  rw [if_pos rfl]
  refine lands_againW hfl₅ fun h₆ hfl₆ hsm₆ => ?_
  have sm : s.heap.UpToSlots h₆ := ((hsm.trans hsm₄).trans hsm₅).trans hsm₆
  refine wpAny_execs_cons (wpAny_Return_some ?_)
  refine ld V (s := { s' with heap := h₆ }) (by decide +kernel) (sm.ns hm) m3 (by decide +kernel) ?_
  have kp6 : ∀ c o, s.heap.get? c = some o → c ≠ tp → c ≠ env.locals → c ∉ outer.filterMap (·.frame) → h₆.get? c = some o := fun c o q h1 h2 h3 => hfl₆.1 _ _ (hB c o q h1 (nofr' c h2 h3))
  refine hQ { s' with heap := h₆ } ⟨fun c o q hc => kp6 c o (R.keep c o q) (fun z => by rw [z, N.t] at q; cases q) (fun z => by rw [z, N.l] at q; cases q) hc, (Heap.UpToSlots.of_keeps R.keep).trans sm, hos.trans R.os, hgens ▸ R.gens⟩ ?_
  rw [List.take_length] at hA
  refine .list (vs := vs.toList) ⟨_, kk, kp6 _ _ hfo (Ne.symm N.tf) N.lf (fun hc => ?_), rfl, by simp⟩ hA (by simp only [intsL, List.length_map]; unfold lim; omega)
  obtain ⟨o, ho⟩ := nofr _ hc
  rw [N.f] at ho
  cases ho
end
end Mine
end
section
open PySem PySem.W PyProof.Rows PySem.Calls
set_option Elab.async false
set_option maxRecDepth 100000
namespace Mine
section
variable {prog : Program} {w : World} {A : Around} {E : Value → Shared → Prop} {s : Shared} {D : List DefItem} {n : Nat} {nv : Value} {ns : List Nat} {f : Addr} {base : Heap} {outer : List Env}
theorem read_call {Q : Value → Shared → Prop} (hΦ : PhiOk prog w D (n + 1) fnN Φd) (C : CtxOk A (n + 2)) (Wb : GW D base) (hD : dPV ∈ D) (hDR : dR ∈ D) (hf : IsFn s.heap dR.name f) (K : Below A base outer s.heap)
    (hv : VIs s.heap nv (.list (intsL ns))) (hl : ns.length = 6) (hb : ∀ x ∈ ns, x ≤ 100000000)
    (hQ : ∀ v s', Slots (outer.filterMap (·.frame)) s s' → VIs s'.heap v (.list (intsL ns)) → Fresh s v → Q v s') : wpAny (model prog w) A (call (.ref f) [nv]) Q E s := by
  obtain ⟨N, mg, mb, consts, objs, names, y⟩ := Wb.keeps K.stays
  obtain ⟨f', c', o, pm, doc, _, _, h3, h4, h5, h6⟩ := (y.G.made dR hDR).plain rfl
  obtain ⟨mg', hm1, hm2⟩ := hf
  have hff : f = f' := by
    have := ns_uniq hm1 y.G.g dR.name
    rw [hm2, h3] at this
    cases this; rfl
  subst hff
  refine wpAny_call ?_
  refine call_cells (binds := [(("numbers" : Str), nv)]) (by have := C.depth; unfold recursionLimit; omega) h4 h5 y.G.nolimit h6 (bind_R _ _ _ _) ?_ (fun h₁ tk F X => ?_) rfl rfl rfl
  · intro x hx
    rw [List.mem_singleton.mp hx]
    exact .inl (show dR.scope.names.lookup ("numbers" : Str) = some .local from by decide +kernel)
  · have hmn : bindL (envOfC dR.name dR.scope s.heap.objs.size f (.ref c')).kindOf [(("numbers" : Str), nv)] (fun _ => none) "numbers" = some nv := by
      rw [bindL_eq _ _ _ (by simp)]
      have hk : (envOfC dR.name dR.scope s.heap.objs.size f (.ref c')).kindOf "numbers" = some .local := by
        show dR.scope.names.lookup ("numbers" : Str) = _
        decide +kernel
      rw [if_pos hk]
      simp
    have V : Env0 (envOfC dR.name dR.scope s.heap.objs.size f (.ref c')) dR.scope := env0C rfl
    have C₁ : CtxOk (A.deeper (envOfC dR.name dR.scope s.heap.objs.size f (.ref c'))) (n + 1) := C.deeper
    obtain ⟨a, b, c, d, e, g, rfl⟩ := six hl
    show wpAny _ _ (execs (sTape :: sFound :: [sFor, sTry, (.Return (some (.Name "found" ⟨89,11,89,16⟩)) ⟨89,4,89,16⟩)]) _) _ _ _
    refine rd_start (s₀ := s) (s := { s with heap := h₁, toks := tk }) hΦ V C₁ (Wb.keeps K.stays) F.keep rfl (.refl _) (fresh_at _) F.ns hmn hv hb (by simp) fun s₂ tp fo tb N₂ R₂ => ?_
    refine wpAny_execs_cons (rd_for hΦ V C₁ (Wb.keeps K.stays) hD hv hb (by simp) itR_ev rfl N₂ R₂ fun s₃ R₃ => ?_)
    refine wpAny_execs_cons (rd_try V C₁ Wb hD (by simp) K (Around.frames_deeper K.stack) N₂ R₃ fun s₄ S₄ hv₄ => ?_)
    refine hQ _ s₄ S₄ hv₄ fun c hc => ?_
    cases hc
    exact N₂.f
end
end Mine
end
section
open PySem PySem.W PyProof.Rows PySem.Calls
set_option Elab.async false
set_option maxRecDepth 100000
namespace Mine

/-- the same but for one object's slots -/
structure SL (L : Addr) (h h' : Heap) : Prop where
  other : ∀ c, c ≠ L → h'.get? c = h.get? c
  at' : ∀ o, h.get? L = some o → ∃ sl, h'.get? L = some { o with slots := sl }
  back : ∀ o, h'.get? L = some o → ∃ sl, h.get? L = some { o with slots := sl }
theorem SL.symm {L : Addr} {h h' : Heap} (x : SL L h h') : SL L h' h := ⟨fun c hc => (x.other c hc).symm, x.back, x.at'⟩
theorem SL.ns {L a : Addr} {h h' : Heap} {m : Str → Option Value} (x : SL L h h') (y : h.Ns a m) : h'.Ns a m := by
  obtain ⟨o, es, ep, ho, hd, r⟩ := y
  by_cases q : a = L
  · subst q
    obtain ⟨sl, hs⟩ := x.at' o ho
    exact ⟨_, es, ep, hs, hd, r⟩
  · exact ⟨o, es, ep, (x.other a q).trans ho, hd, r⟩
theorem SL.cell {L a : Addr} {h h' : Heap} {v : Option Value} (x : SL L h h') (y : h.IsCell a v) : h'.IsCell a v := by
  obtain ⟨o, ho, hd⟩ := y
  by_cases q : a = L
  · subst q
    obtain ⟨sl, hs⟩ := x.at' o ho
    exact ⟨_, hs, hd⟩
  · exact ⟨o, (x.other a q).trans ho, hd⟩
theorem SL.holds {L : Addr} {env : Env} {h h' : Heap} {y : Str} {v : Value} (x : SL L h h') (z : HoldsV env h y v) : HoldsV env h' y v := by
  rcases z with ⟨k, m, hn, e⟩ | ⟨k, c, hc, hcell⟩
  · exact .inl ⟨k, m, x.ns hn, e⟩
  · exact .inr ⟨k, c, hc, x.cell hcell⟩
theorem SL.vis {L : Addr} {h h' : Heap} {v : Value} {p : PV} (x : SL L h h') (z : VIs h v p) : VIs h' v p := by
  cases z with
  | none => exact .none
  | bool b => exact .bool b
  | int i t => exact .int i t
  | str l t hl => exact .str l t hl
  | list hp hx hl =>
    rename_i a vs xs
    obtain ⟨o, k, ho, hc, hd⟩ := hp
    by_cases q : a = L
    · subst q
      obtain ⟨sl, hs⟩ := x.at' o ho
      exact .list ⟨_, k, hs, hc, hd⟩ hx hl
    · exact .list ⟨o, k, (x.other a q).trans ho, hc, hd⟩ hx hl
section
variable {prog : Program} {w : World} {A : Around} {E : Value → Shared → Prop} {n : Nat} {D : List DefItem} {env : Env} {nm : List Str} {s₀ s : Shared} {σ : Sg}
theorem FR.slots {h' : Heap} (F : FR n D A env nm [] [] s₀ σ s) (x : SL env.locals s.heap h') : FR n D A env nm [] [] s₀ σ { s with heap := h' } := by
  refine ⟨F.ctx, F.gw, ⟨fun c o e => (x.other c (fun q => by rw [q, F.lnew] at e; cases e)).trans (F.base.keep c o e), F.base.os, F.base.gens⟩, ?_, F.lnew, fun y hy => ?_, F.apart, F.nodup, F.len, ⟨F.ok.fn, F.ok.gl, F.ok.bl, F.ok.dbg, fun i p e => ?_⟩, fun y a h => ?_, fun i hi => ?_, fun i hi => ?_, F.sub, F.inb⟩
  · obtain ⟨m, hm⟩ := F.lns
    exact ⟨m, x.ns hm⟩
  · obtain ⟨c, o, h1, h2, h3⟩ := F.cell y hy
    exact ⟨c, o, h1, x.cell h2, h3⟩
  · obtain ⟨y, v, h1, h2, h3⟩ := F.ok.var i p e
    exact ⟨y, v, h1, x.holds h2, x.vis h3⟩
  · obtain ⟨o, ho, hs⟩ := F.liveS y a (x.symm.holds h)
    by_cases q : a = env.locals
    · subst q
      obtain ⟨sl, hsl⟩ := x.at' o ho
      obtain ⟨its, k, hd⟩ := hs
      exact ⟨_, hsl, its, k, hd⟩
    · exact ⟨o, (x.other a q).trans ho, hs⟩
  · cases hi
  · cases hi
/-- the frame after a caught raise -/
theorem FR.caught {s' : Shared} (F : FR n D A env nm [] [] s₀ σ s) (S : Slots [env.locals] s s') :
    ∃ s₁, FR n D A env nm [] [] s₀ σ s₁ ∧ Ext s₁ s' ∧ ∀ a, s.heap.get? a = none → s₁.heap.get? a = none := by
  obtain ⟨oL, hoL⟩ := F.lget
  have hdict : ∀ vs, oL.data ≠ .fields vs := fun vs q => by
    obtain ⟨m, o, es, ep, ho, hd, _⟩ := F.lns
    rw [hoL] at ho; cases ho
    rw [hd] at q; cases q
  obtain ⟨sl, hsl⟩ := S.up _ _ hoL hdict
  have hfree : ({ oL with slots := sl } : Obj).isFreed = false := (kts_isFreed oL sl).trans (Heap.get?_some_iff.mp hoL).2
  have hself := Heap.get?_update_self (fun o => { o with slots := sl }) hoL hfree
  have hoth : ∀ c, c ≠ env.locals → (s.heap.update env.locals fun o => { o with slots := sl }).get? c = s.heap.get? c := fun c hc => Heap.get?_update_other _ _ (Ne.symm hc)
  have x : SL env.locals s.heap (s.heap.update env.locals fun o => { o with slots := sl }) := by
    refine ⟨hoth, fun o e => ?_, fun o e => ?_⟩
    · rw [hoL] at e; cases e
      exact ⟨sl, hself⟩
    · rw [hself] at e; cases e
      exact ⟨oL.slots, hoL⟩
  refine ⟨_, F.slots x, ⟨fun c o e => ?_, S.os, S.gens⟩, fun a ha => ?_⟩
  · by_cases q : c = env.locals
    · subst q
      have e' : (s.heap.update env.locals fun o => { o with slots := sl }).get? env.locals = some o := e
      rw [hself] at e'; cases e'
      exact hsl
    · have e' : (s.heap.update env.locals fun o => { o with slots := sl }).get? c = some o := e
      rw [hoth c q] at e'
      exact S.keep c o e' (by simpa using q)
  · have : a ≠ env.locals := fun q => by rw [q, hoL] at ha; cases ha
    exact (hoth a this).trans ha
end
end Mine
end
section
open PySem PySem.W PyProof.Rows PySem.Calls
set_option Elab.async false
set_option maxRecDepth 100000
namespace Mine
theorem nat_of {x : Int} (h : 0 ≤ x ∧ x ≤ 100000000) : ∃ k : Nat, x = (k : Int) ∧ k ≤ 100000000 := ⟨x.toNat, by omega, by omega⟩
theorem law_split : f_law = .cons (f_law.nth 0) (.cons (f_law.nth 1) (f_law.dropN 2)) := rfl
theorem wf_tail : (f_law.dropN 2).wf nm_law fnN [] [] d_law.scope = true := by
  have h := wf_law
  rw [law_split] at h
  simp only [Ss.wf_cons, Bool.and_eq_true] at h
  exact h.2.2
theorem wf_st0 : (f_law.nth 0).wf nm_law fnN [] [] d_law.scope = true := by
  have h := wf_law
  rw [law_split] at h
  simp only [Ss.wf_cons, Bool.and_eq_true] at h
  exact h.1
noncomputable def xSix : X := .shi (.var 1 ⟨164,22,164,29⟩) (.int (6) ⟨164,31,164,32⟩) ⟨164,30,164,32⟩ ⟨164,22,164,33⟩
noncomputable def sRead : Stmt := .Assign [.Name (nmAt nm_law 2) ⟨164,4,164,9⟩] (.Call (.Name dR.name ⟨164,12,164,21⟩) [xSix.toE nm_law fnN] [] ⟨164,12,164,34⟩) ⟨164,4,164,34⟩
theorem law_toS : f_law.toS nm_law fnN = (f_law.nth 0).toS nm_law fnN :: sRead :: (f_law.dropN 2).toS nm_law fnN := rfl
section
variable {prog : Program} {w : World} {A : Around} {E : Value → Shared → Prop} {D : List DefItem} {env : Env} {s₀ s : Shared}
theorem law_body {script : List Int} {Q : Flow → Shared → Prop} (hD : ∀ d ∈ D0, d ∈ D) (hfr : A.frames = some [env]) (hframe : env.frame = some env.locals) (hsc : env.scope = d_law.scope) (hl : script.length ≤ 63)
    (F : FR 30 D A env nm_law [] [] s₀ (sg0 [.list (script.map .int)] nm_law.length) s) (hQ : ∀ v s', Ext s₀ s' → VIs s'.heap v (.bool true) → Q (.ret v) s') :
    wpAny (model prog w) A (execs (f_law.toS nm_law fnN) env) Q E s := by
  have hΦ : PhiOk prog w D 30 fnN Φd := phi_d (n := 24) hD
  have hΦ' : PhiOk prog w D 29 fnN Φd := phi_d (n := 23) hD
  have hG : GenFnOk prog w D 30 (fnN 0) := genFnOk (n := 28) (hD _ in_G)
  obtain ⟨ns, h7, hb, hnum⟩ := numbers_eq hl
  obtain ⟨a, b, c, d, e, f, g, rfl⟩ := seven h7
  obtain ⟨ka, rfl, ba⟩ := nat_of (hb a (by simp))
  obtain ⟨kb, rfl, bb⟩ := nat_of (hb b (by simp))
  obtain ⟨kc, rfl, bc⟩ := nat_of (hb c (by simp))
  obtain ⟨kd, rfl, bd⟩ := nat_of (hb d (by simp))
  obtain ⟨ke, rfl, be⟩ := nat_of (hb e (by simp))
  obtain ⟨kf, rfl, bf⟩ := nat_of (hb f (by simp))
  have ev0 : (f_law.nth 0).ev Φd 30 (sg0 [.list (script.map .int)] nm_law.length) = some (.next (setS (sg0 [.list (script.map .int)] nm_law.length) 1 (.list ([(ka : Int), kb, kc, kd, ke, kf, g].map .int)))) :=
    s_assign (e_call rfl es_nil hnum)
  rw [law_toS]
  refine wpAny_execs_cons (S.sound hΦ hG (f_law.nth 0) _ s _ _ _ ev0 (by rw [hsc]; exact wf_st0) F fun fl s₁ hO => ?_)
  obtain ⟨rfl, F₁, _⟩ := hO
  generalize hσ : setS (sg0 [.list (script.map .int)] nm_law.length) 1 (.list ([(ka : Int), kb, kc, kd, ke, kf, g].map .int)) = σ₁ at *
  have g1 : getS σ₁ 1 = some (.list [.int ka, .int kb, .int kc, .int kd, .int ke, .int kf, .int g]) := by rw [← hσ]; rfl
  have l1 : σ₁.length = 21 := by rw [← hσ]; rfl
  have evx : xSix.ev Φd σ₁ = some (.list (intsL [ka, kb, kc, kd, ke, kf])) := by
    have hv : X.ev Φd (.var 1 ⟨164,22,164,29⟩) σ₁ = some (.list [.int ka, .int kb, .int kc, .int kd, .int ke, .int kf, .int g]) := g1
    show X.ev Φd (.shi (.var 1 ⟨164,22,164,29⟩) (.int (6) ⟨164,31,164,32⟩) ⟨164,30,164,32⟩ ⟨164,22,164,33⟩) σ₁ = _
    rw [X.ev, hv]
    rfl
  have kN : env.kindOf dR.name = some .globalImplicit := by
    unfold Env.kindOf
    rw [hsc]
    decide +kernel
  refine wpAny_execs_cons (wpAny_Assign_Name ?_ rfl)
  refine wpAny_Call_NameR (load_def (d := dR) F₁.cs.gw F₁.ok.fn F₁.ok.gl kN (hD _ in_R) rfl (by decide +kernel) fun fa c' o pm doc hfn ho hdat _ => ?_)
  refine callWith_def hdat ?_ (star_cons _ _)
  refine args_cons (X.sound hΦ xSix env σ₁ s₁ _ _ _ evx (by rw [hsc]; decide +kernel) F₁.cs fun v s₂ hE₂ hv₂ _ => args_nil ⟨hE₂.keep _ _ ho, ?_⟩) (star_cons _ _)
  have F₂ := F₁.ext hE₂
  have K : Below A s₀.heap [env] s₂.heap := by
    refine ⟨hfr, F₂.base.keep, by rw [F₂.ok.fn]; decide, ?_, trivial⟩
    obtain ⟨m, o, es, ep, ho, hd, _⟩ := F₂.lns
    exact ⟨_, o, hframe, F₂.lnew, ho, fun vs q => by rw [hd] at q; cases q⟩
  refine read_call (n := 28) hΦ' F₂.ctx F₂.gw (hD _ in_PV) (hD _ in_R) (hfn.keeps hE₂.keep) K hv₂ rfl (fun x hx => ?_) fun u s₃ S₃ hu hfr₃ => ?_
  · simp only [List.mem_cons, List.not_mem_nil, or_false] at hx
    rcases hx with rfl | rfl | rfl | rfl | rfl | rfl <;> assumption
  · obtain ⟨s₄, F₄, E₄, hnew⟩ := F₂.caught (by
      have : [env].filterMap (·.frame) = [env.locals] := by simp [hframe]
      rwa [this] at S₃)
    refine F₄.store E₄ hu (fun x hx => hnew x (hfr₃ x hx)) (by decide) (.inl (by unfold Env.kindOf; rw [hsc]; decide +kernel)) (fun h => by cases h) fun s₅ F₅ _ _ => ?_
    have ht : (f_law.dropN 2).ev Φd 30 (setS σ₁ 2 (.list (intsL [ka, kb, kc, kd, ke, kf]))) = some (.ret (.bool true)) :=
      tail_ev (ln l1) (kp g1 (by decide)) (nw l1 (by decide))
    refine Ss.sound hΦ hG (f_law.dropN 2) _ s₅ _ _ _ ht (by rw [hsc]; exact wf_tail) F₅ fun fl s₆ hO => ?_
    obtain ⟨r, rfl, hE, hr, _⟩ := hO
    exact hQ r s₆ hE hr
end
end Mine
end
section
open PySem PySem.W PyProof.Rows PySem.Calls
set_option Elab.async false
set_option maxRecDepth 100000
namespace Mine
theorem ints_all : ∀ {vs : List Value} {ns : List Int}, IntsAre vs ns → AllIs vs (ns.map .int)
  | _, _, .nil => .nil
  | _, _, .cons n t h => .cons (.int n t) (ints_all h)
theorem ctx_caller : CtxOk callerA 31 := ⟨rfl, by decide, by decide⟩
section
variable {prog : Program} {w : World} {D : List DefItem} {s₁ : Shared} {N : Nat} {mg mb : Str → Option Value} {consts : List (Str × PyData)} {objs : List (Str × (Obj → Prop))} {names : List Str} {fa l : Addr} {vs : List Value} {ns : List Int}
theorem law_join {R : Result → Shared → Prop} (W : GW D s₁.heap) (hD : ∀ d ∈ D0, d ∈ D) (hf : IsFn s₁.heap d_law.name fa) (hL : s₁.heap.IsList l vs.toArray) (hI : IntsAre vs ns) (hlen : ns.length ≤ 63)
    (hR : ∀ s', Ext s₁ s' → R (.ok (.ret (.bool true))) s') : codeAny (model prog w) callerA (.call (.ref fa) ⟨[.ref l], []⟩) R s₁ := by
  have hdl : d_law ∈ D := hD _ in_law
  have Wf := FnWf.ok fw_law
  obtain ⟨N, mg, mb, consts, objs, names, y⟩ := id W
  obtain ⟨f', c', o, pm, doc, _, _, h3, h4, h5, h6⟩ := (y.G.made d_law hdl).plain rfl
  obtain ⟨mg', hm1, hm2⟩ := hf
  have hff : fa = f' := by
    have := ns_uniq hm1 y.G.g d_law.name
    rw [hm2, h3] at this
    cases this; rfl
  subst hff
  have hv : AllV s₁.heap [.ref l] [.list (ns.map .int)] := by
    obtain ⟨ob, ho, hc, n, hd⟩ := hL
    exact .cons (.list ⟨ob, n, ho, hc, hd⟩ (ints_all hI) (by rw [List.length_map]; unfold lim; omega)) .nil
  refine call_cells (binds := (nm_law.take 1).zip [.ref l]) (by decide) h4 h5 y.G.nolimit h6 (bind_law _ _ _ _ rfl) ?_ (fun h₁ tk F X => ?_) Wf.co Wf.gen Wf.kind
  · intro x hx
    have hm := (List.of_mem_zip (a := x.1) (b := x.2) hx).1
    rcases Wf.kinds x.1 hm with hk | hk
    · exact .inl hk
    · exact .inr ⟨hk, cellsFrom_has _ _ _ _ (.inl hk)⟩
  · have F0 := frame0 (n := 30) (tk := tk) Wf rfl ctx_caller W hv F X
    show wpAny _ _ (execs (f_law.toS nm_law fnN) _) _ _ _
    exact law_body hD (Around.frames_deeper rfl) rfl rfl hlen F0 fun v s' hE hv' => by
      cases hv'
      exact hR s' hE
end
end Mine
end
open PySem PySem.W PyProof.Rows
set_option maxRecDepth 100000 in
set_option maxHeartbeats 8000000 in
theorem PySem.Challenge.cw_sr0009_01_holds : PySem.Challenge.rw_sr0009_01.Holds := by
  w_on; o_law; k_head; (case hw => w_witness2)
  w_strict (
    intro w s₀ s₁ mg mb G Y fa o pm cd doc dV kV ho hd hcd hD hmg hg args vals as hpre hlay hrd hwl hlo
    have X := (Ground.X G).1
    have V := (Ground.X G).2
    have GL := glob_more (Ground.glob G (by first | k_qdec | decide +kernel) (by first | k_qdec | decide +kernel)) V
    refine Ground.open G ?_
    intro T B D TE TW
    clear T B TE TW Y D
    wrow_args hpre hlay hrd hwl hlo
    refine enter_call ?_
    refine Mine.law_join (D := Mine.D0) ⟨_, mg, mb, _, _, _, GL, ?free, ?cs, ?p1, ?p2⟩ (fun _ h => h) ⟨mg, GL.g, hmg⟩ (by assumption) (by assumption) (by omega) (fun s' hE => ?post)
    case free => decide +kernel
    case cs =>
      intro p hp
      simp only [Mine.gConsts, List.mem_cons, List.not_mem_nil, or_false] at hp
      rcases hp with rfl | rfl | rfl
      · exact List.mem_of_getElem? (i := 2) (by with_unfolding_all rfl)
      · exact List.mem_of_getElem? (i := 1) (by with_unfolding_all rfl)
      · exact List.mem_of_getElem? (i := 0) (by with_unfolding_all rfl)
    case p1 => exact X.pats _ (List.mem_of_getElem? (i := 0) (by with_unfolding_all rfl))
    case p2 => exact X.pats _ (List.mem_of_getElem? (i := 1) (by with_unfolding_all rfl))
    case post =>
      refine ⟨.inl ⟨.bool true, .bool true, [], rfl, ?_, ?_, ?_, ?_⟩, .of_keep hE.keep, hE.os, hE.gens.bare (.of_eq hg)⟩
      · exact fun _ => rfl
      · exact .bool true
      · first | rfl | kernel_rfl
      · exact fun _ => ⟨.nil, fun _ ha => nomatch ha⟩)
