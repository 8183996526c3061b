import PyProof.Rows.All
import Wide.All
import OpenK.AllK
import Wide.FinOn
import KE.KNestM
import Lean
import PySem.Challenge.RW_in0089_06
set_option Elab.async false
set_option genInjectivity false
set_option genSizeOf false
set_option bootstrap.genMatcherCode false
namespace Fnm
local macro_rules | `(tactic| omega) => `(tactic| first | assumption | exact Nat.le_refl _ | exact Nat.zero_le _ | exact Nat.le_of_lt (by assumption) | exact Nat.le_trans (by assumption) (by decide) | exact Nat.lt_of_le_of_lt (by assumption) (by decide) | exact Nat.le_of_lt (Nat.lt_of_lt_of_le (by assumption) (by decide)) | exact Nat.le_succ_of_le (by assumption) | exact Nat.lt_succ_of_le (by assumption) | (refine Nat.sub_lt_sub_left ?_ ?_ <;> first | assumption | lia) | lia)
section
open PySem PySem.W PyProof.Rows
/-! ## values -/
inductive PV where
  | none
  | bool (b : Bool)
  | int (i : Int)
  | str (s : List Nat)
  | tuple (vs : List PV)
  | list (vs : List PV)
  | ref (n : Nat)
  | app (n : Nat)
  | range (a b c : Int)
deriving Inhabited
noncomputable abbrev Loc := Str → Option PV
inductive MO where
  | list (vs : List PV)
  | obj
  | hid
noncomputable abbrev Hp := List MO
noncomputable def upd (l : Loc) (x : Str) (v : PV) : Loc := fun y => if y = x then some v else l y
theorem upd_same (l : Loc) (x : Str) (v : PV) : upd l x v x = some v := by simp [upd]
theorem upd_other (l : Loc) {x y : Str} (v : PV) (h : y ≠ x) : upd l x v y = l y := by simp [upd, h]
/-! ## the real side -/
structure GI where
  prog : Program
  w : World
  h0 : Heap
  C : Addr
  P : Addr
  os0 : OsState
  mg : Str → Option Value
  mb : Str → Option Value
  tq : Str
  qn : Nat → Nat → Str
noncomputable def QM : Str := Str.ofString "QUESTION_MARK"
noncomputable abbrev GI.M (G : GI) : Model := model G.prog G.w
noncomputable abbrev tupO (ws : Array Value) : Obj := { cls := .type "tuple", data := .seq ws }
noncomputable abbrev lstO (ws : Array Value) (n : Nat) : Obj := { cls := .type "list", data := .seq ws n }
noncomputable abbrev appO (a : Addr) : Obj := { cls := .type "builtin_function_or_method", data := .fields #[.builtin "list.append", .ref a] }
noncomputable abbrev objO : Obj := { cls := .type "object", data := .plain }
mutual
noncomputable def Rep (μ : List Addr) (h : Heap) : PV → Value → Prop
  | .none, v => v = .none
  | .bool b, v => v = .bool b
  | .int i, v => ∃ t, v = .int i t
  | .str l, v => ∃ t, v = .str ⟨l.toArray⟩ t
  | .tuple vs, v => ∃ a ws, v = .ref a ∧ h.get? a = some (tupO ws) ∧ RepL μ h vs ws.toList ∧ a ∉ μ
  | .list vs, v => ∃ a ws n, v = .ref a ∧ h.get? a = some (lstO ws n) ∧ a ∉ μ ∧ RepL μ h vs ws.toList
  | .ref n, v => ∃ a, v = .ref a ∧ μ[n]? = some a
  | .app n, v => ∃ b a, v = .ref b ∧ h.get? b = some (appO a) ∧ μ[n]? = some a
  | .range a b c, v => ∃ r ta tb tc, v = .ref r ∧ h.get? r = some { cls := .type "range", data := .fields #[.int a ta, .int b tb, .int c tc] }
noncomputable def RepL (μ : List Addr) (h : Heap) : List PV → List Value → Prop
  | [], ws => ws = []
  | x :: xs, ws => ∃ w wr, ws = w :: wr ∧ Rep μ h x w ∧ RepL μ h xs wr
end
/-- objects that values are made of -/
noncomputable def IsVal (o : Obj) : Prop := match o.data with
  | .seq .. => True
  | .fields _ => o.cls = .type "range" ∨ o.cls = .type "builtin_function_or_method"
  | _ => False
/-- keeps the value objects out of the tracked ones -/
noncomputable def VKeep (μ : List Addr) (h h' : Heap) : Prop := ∀ a o, h.get? a = some o → IsVal o → (o.cls = .type "list" ∨ o.cls = .type "tuple" → a ∉ μ) → h'.get? a = some o
noncomputable def ObjR (μ : List Addr) (h : Heap) (a : Addr) : MO → Prop
  | .list vs => ∃ ws n, h.get? a = some (lstO ws n) ∧ RepL μ h vs ws.toList
  | .obj => h.get? a = some objO
  | .hid => ∃ p : Value × Value, h.get? a = some (tupO #[p.1, p.2])
/-- what stands still stands -/
noncomputable def Live (h h' : Heap) : Prop := ∀ a o, h.get? a = some o → ∃ o', h'.get? a = some o'
theorem Live.refl (h : Heap) : Live h h := fun _ o e => ⟨o, e⟩
theorem Live.trans {h h' h'' : Heap} (x : Live h h') (y : Live h' h'') : Live h h'' := fun a o e => let ⟨o', e'⟩ := x a o e; y a o' e'
/-- μ' grows out of μ by addresses at which nothing stood -/
noncomputable def Grow (h : Heap) (μ μ' : List Addr) : Prop := ∃ ν, μ' = μ ++ ν ∧ ∀ a ∈ ν, h.get? a = none
theorem Grow.refl (h : Heap) (μ : List Addr) : Grow h μ μ := ⟨[], by simp, by simp⟩
theorem Grow.trans {h h' : Heap} {μ μ' μ'' : List Addr} (x : Grow h μ μ') (y : Grow h' μ' μ'') (lv : Live h h') : Grow h μ μ'' := by
  obtain ⟨ν, rfl, h1⟩ := x
  obtain ⟨ν', rfl, h2⟩ := y
  refine ⟨ν ++ ν', by simp, fun a ha => ?_⟩
  rcases List.mem_append.mp ha with q | q
  · exact h1 a q
  · cases e : h.get? a with
    | none => rfl
    | some o => obtain ⟨o', e'⟩ := lv a o e; rw [h2 a q] at e'; cases e'
theorem Grow.get {h : Heap} {μ μ' : List Addr} (x : Grow h μ μ') {i : Nat} {a : Addr} (e : μ[i]? = some a) : μ'[i]? = some a := by
  obtain ⟨ν, rfl, _⟩ := x
  rw [List.getElem?_append_left (List.getElem?_eq_some_iff.mp e).1]; exact e
theorem Grow.not {h : Heap} {μ μ' : List Addr} (x : Grow h μ μ') {a : Addr} {o : Obj} (hm : a ∉ μ) (ho : h.get? a = some o) : a ∉ μ' := by
  obtain ⟨ν, rfl, h1⟩ := x
  intro hm'
  rcases List.mem_append.mp hm' with q | q
  · exact hm q
  · rw [h1 a q] at ho; cases ho
theorem Heap.get?_size (h : Heap) : h.get? h.objs.size = none := by
  cases e : h.get? h.objs.size with
  | none => rfl
  | some o => exact absurd (Heap.lt_size e) (Nat.lt_irrefl _)
theorem Grow.one (h : Heap) (μ : List Addr) : Grow h μ (μ ++ [h.objs.size]) := ⟨_, rfl, fun a ha => by simp at ha; subst ha; exact Heap.get?_size h⟩
theorem Grow.sub {h : Heap} {μ μ' : List Addr} (x : Grow h μ μ') {a : Addr} (h : a ∈ μ) : a ∈ μ' := by
  obtain ⟨ν, rfl, _⟩ := x
  exact List.mem_append_left _ h
mutual
theorem Rep.mono {μ μ' : List Addr} {h h' : Heap} (k : VKeep μ h h') (g : Grow h μ μ') : ∀ {p : PV} {v : Value}, Rep μ h p v → Rep μ' h' p v
  | .none, _, e => by simpa only [Rep] using e
  | .bool _, _, e => by simpa only [Rep] using e
  | .int _, _, e => by simpa only [Rep] using e
  | .str _, _, e => by simpa only [Rep] using e
  | .tuple vs, _, e => by
      simp only [Rep] at e ⊢
      obtain ⟨a, ws, e, ho, r, hm⟩ := e
      exact ⟨a, ws, e, k _ _ ho trivial (fun _ => hm), RepL.mono k g r, g.not hm ho⟩
  | .list vs, _, e => by
      simp only [Rep] at e ⊢
      obtain ⟨a, ws, n, e, ho, hm, r⟩ := e
      exact ⟨a, ws, n, e, k _ _ ho trivial (fun _ => hm), g.not hm ho, RepL.mono k g r⟩
  | .ref n, _, e => by
      simp only [Rep] at e ⊢
      obtain ⟨a, e, hm⟩ := e
      exact ⟨a, e, g.get hm⟩
  | .app n, _, e => by
      simp only [Rep] at e ⊢
      obtain ⟨b, a, e, ho, hm⟩ := e
      exact ⟨b, a, e, k _ _ ho (.inr rfl) (fun q => by simp at q), g.get hm⟩
  | .range a b c, _, e => by
      simp only [Rep] at e ⊢
      obtain ⟨r, ta, tb, tc, e, ho⟩ := e
      exact ⟨r, ta, tb, tc, e, k _ _ ho (.inl rfl) (fun q => by simp at q)⟩
theorem RepL.mono {μ μ' : List Addr} {h h' : Heap} (k : VKeep μ h h') (g : Grow h μ μ') : ∀ {ps : List PV} {vs : List Value}, RepL μ h ps vs → RepL μ' h' ps vs
  | [], _, e => by simpa only [RepL] using e
  | _ :: _, _, e => by
      simp only [RepL] at e ⊢
      obtain ⟨w, wr, e, r, rs⟩ := e
      exact ⟨w, wr, e, Rep.mono k g r, RepL.mono k g rs⟩
end
theorem RepL.length {μ : List Addr} {h : Heap} : ∀ {ps : List PV} {vs : List Value}, RepL μ h ps vs → vs.length = ps.length
  | [], _, e => by simp only [RepL] at e; simp [e]
  | _ :: ps, _, e => by
      simp only [RepL] at e
      obtain ⟨w, wr, rfl, _, rs⟩ := e
      simp [RepL.length rs]
theorem RepL.get {μ : List Addr} {h : Heap} : ∀ {ps : List PV} {vs : List Value}, RepL μ h ps vs → ∀ {i : Nat} {p : PV}, ps[i]? = some p → ∃ v, vs[i]? = some v ∧ Rep μ h p v
  | [], _, _, i, p, hi => by simp at hi
  | q :: ps, _, e, i, p, hi => by
      simp only [RepL] at e
      obtain ⟨w, wr, rfl, r, rs⟩ := e
      cases i with
      | zero => simp at hi; subst hi; exact ⟨w, rfl, r⟩
      | succ i => simp at hi; obtain ⟨v, h1, h2⟩ := RepL.get rs hi; exact ⟨v, by simpa using h1, h2⟩
theorem RepL.append {μ : List Addr} {h : Heap} : ∀ {ps qs : List PV} {vs ws : List Value}, RepL μ h ps vs → RepL μ h qs ws → RepL μ h (ps ++ qs) (vs ++ ws)
  | [], _, _, _, e, f => by simp only [RepL] at e; subst e; exact f
  | _ :: ps, _, _, _, e, f => by
      simp only [RepL] at e
      obtain ⟨w, wr, rfl, r, rs⟩ := e
      exact ⟨w, _, rfl, r, RepL.append rs f⟩
theorem RepL.one {μ : List Addr} {h : Heap} {p : PV} {v : Value} (r : Rep μ h p v) : RepL μ h [p] [v] := ⟨v, [], rfl, r, rfl⟩
theorem RepL.take {μ : List Addr} {h : Heap} : ∀ {ps : List PV} {vs : List Value} (n : Nat), RepL μ h ps vs → RepL μ h (ps.take n) (vs.take n)
  | _, _, 0, _ => by simp [RepL]
  | [], _, n + 1, e => by simp only [RepL] at e; subst e; simp [RepL]
  | _ :: ps, _, n + 1, e => by
      simp only [RepL] at e
      obtain ⟨w, wr, rfl, r, rs⟩ := e
      exact ⟨w, _, rfl, r, RepL.take n rs⟩
theorem RepL.drop {μ : List Addr} {h : Heap} : ∀ {ps : List PV} {vs : List Value} (n : Nat), RepL μ h ps vs → RepL μ h (ps.drop n) (vs.drop n)
  | _, _, 0, e => by simpa using e
  | [], _, n + 1, e => by simp only [RepL] at e; subst e; simp [RepL]
  | _ :: ps, _, n + 1, e => by
      simp only [RepL] at e
      obtain ⟨w, wr, rfl, r, rs⟩ := e
      simpa using RepL.drop n rs
end

section
open PySem PySem.W PyProof.Rows
/-! ## pure operations on values -/
inductive Fl where
  | next | brk | cont
  | ret (v : PV)
noncomputable def MO.lst : MO → Option (List PV)
  | .list vs => some vs
  | _ => none
noncomputable def contents (hp : Hp) : PV → Option (List PV)
  | .list vs => some vs
  | .ref n => hp[n]?.bind MO.lst
  | _ => none
/-- a place from the left or from the right -/
noncomputable def idx (i : Int) (n : Nat) : Option Nat :=
  if 0 ≤ i then (if i < n then some i.toNat else none) else if 0 ≤ i + n then some (i + n).toNat else none
noncomputable def sldef (i : Option Int) (n d : Nat) : Nat := match i with
  | none => d
  | some i => if i < 0 then (if i + n < 0 then 0 else (i + n).toNat) else if (n : Int) < i then n else i.toNat
/-- l[a:b] -/
noncomputable def slc {α : Type} (l : List α) (a b : Option Int) : List α :=
  let lo := sldef a l.length 0
  let hi := sldef b l.length l.length
  (l.take hi).drop lo
noncomputable def big : Nat := 4194304
noncomputable def smallI (b : Int) : Bool := decide (-(2 : Int) ^ 63 < b ∧ b < (2 : Int) ^ 63)
noncomputable def ltL : List Nat → List Nat → Bool := fun a b => decide (a < b)
noncomputable def okRef (hp : Hp) (n : Nat) : Bool := match hp[n]? with
  | some (.list _) => true
  | some .obj => true
  | _ => false
noncomputable def charsOf (s : List Nat) : List PV := s.map fun c => .str [c]
noncomputable def rangeL (a b c : Int) : List Int := (List.range (if 0 < c then b - a else a - b).toNat).map fun (k : Nat) => a + k * c
noncomputable def tinyI (b : Int) : Bool := decide (-(2 : Int) ^ 40 < b ∧ b < (2 : Int) ^ 40)
noncomputable def rngOk (a b c : Int) : Bool := tinyI a && tinyI b && (c == 1 || c == -1)
noncomputable def strsOf : List PV → Option (List (List Nat))
  | [] => some []
  | .str s :: r => (strsOf r).map (s :: ·)
  | _ => none
noncomputable def joinL (sep : List Nat) : List (List Nat) → List Nat
  | [] => []
  | [x] => x
  | x :: r => x ++ sep ++ joinL sep r
/-- the first place of c in x from i on (-1: none) -/
noncomputable def findC (x : List Nat) (c : Nat) (i : Nat) : Int :=
  match (x.drop i).findIdx? (· == c) with
  | some k => (i + k : Nat)
  | none => -1
end

section
open PySem PySem.W PyProof.Rows
set_option linter.unusedVariables false
/-! ## relation between the small state and the real one -/
noncomputable def TabOk (G : GI) (h : Heap) : Prop := ∃ ps, h.get? G.P = some (tabObj ps) ∧ TriplesOk ps.toList ∧
  ∀ pos c, codeAmong pos ps.toList = some c → ∃ a o, c = .ref a ∧ h.get? a = some o ∧ G.h0.objs.size ≤ a ∧ ∃ vs q t, o.data = .fields vs ∧ (vs[1]? = some (.str q t) ∧ q = G.qn pos.line pos.col) ∧ o.cls = .type "code"
structure HR (G : GI) (μ : List Addr) (hp : Hp) (s : Shared) : Prop where
  base : ∀ a o, G.h0.get? a = some o → s.heap.get? a = some o
  tab : TabOk G s.heap
  os : s.os = G.os0
  gens : AllBare s.gens
  toks : 1 ≤ s.toks
  nodup : μ.Nodup
  len : μ.length = hp.length
  low : ∀ a ∈ μ, G.h0.objs.size ≤ a
  obj : ∀ (i : Nat) a m, μ[i]? = some a → hp[i]? = some m → ObjR μ s.heap a m
/-- the object stands as it was, or it is a dict whose slots alone have changed (a frame that was looked at) -/
noncomputable def UpS (h' : Heap) (a : Addr) (o : Obj) : Prop := h'.get? a = some o ∨ ∃ es k sl, o.data = .dict es k ∧ h'.get? a = some { o with slots := sl }
structure Stp (G : GI) (own : Addr → Prop) (μ : List Addr) (s : Shared) (μ' : List Addr) (s' : Shared) : Prop where
  keepU : ∀ a o, s.heap.get? a = some o → a ∉ μ → a ≠ G.P → ¬ own a → UpS s'.heap a o
  grow : Grow s.heap μ μ'
  live : Live s.heap s'.heap
noncomputable def noOwn : Addr → Prop := fun _ => False
/-- the frames of the stack are there, as dicts (a frame that is looked at is one) -/
noncomputable def FrsOk (G : GI) (A : Around) (h : Heap) : Prop := ∀ l, A.frames = some l → ∀ e ∈ l, e.scope.kind ≠ .module ∧ ∃ L o es k, e.frame = some L ∧ h.get? L = some o ∧ o.data = .dict es k ∧ G.h0.objs.size ≤ L
structure EnvR (G : GI) (A : Around) (env : Env) (loc : Loc) (μ : List Addr) (h : Heap) : Prop where
  dom : ∀ x pv, loc x = some pv → (env.kindOf x = some .local ∨ env.kindOf x = some .cell ∨ env.kindOf x = some .free) ∧ (x == ("__debug__" : Str)) = false ∧ (x == ("__classdict__" : Str)) = false
  kind : env.scope.kind = .function
  glob : env.globals = mainGlobals
  blt : env.builtins = builtinsNs
  low : G.h0.objs.size ≤ env.locals
  lows : ∀ x c, (x, c) ∈ env.cells → G.h0.objs.size ≤ c
  apart : env.cells.Pairwise fun x y => x.2 ≠ y.2
  code : env.kindOf QM ≠ none → env.code = .ref G.C ∧ env.qual = G.tq
  frs : FrsOk G A h
  ns : ∃ m, h.Ns env.locals m ∧ ∀ x pv, env.kindOf x = some .local → loc x = some pv → ∃ v, m x = some v ∧ Rep μ h pv v
  cel : ∀ x, env.kindOf x = some .cell ∨ env.kindOf x = some .free → ∃ c ov, env.cells.lookup x = some c ∧ h.IsCell c ov ∧ ∀ pv, loc x = some pv → ∃ v, ov = some v ∧ Rep μ h pv v
/-- what a frame (or a comprehension's block) may store into -/
noncomputable def ownOf (env : Env) : Addr → Prop := fun a => a = env.locals ∨ ∃ x, env.kindOf x = some .cell ∧ env.cells.lookup x = some a
structure Room (n : Nat) (A : Around) : Prop where
  depth : A.depth + n ≤ 900
  units : A.units + 10 * n ≤ 9000
  handled : A.handled = none
  frames : ∃ l, A.frames = some l
/-- what stands behind an expression -/
inductive PE (G : GI) (μ : List Addr) (s : Shared) (Q : PV → Hp → Prop) (v : Value) (s' : Shared) : Prop
  | mk (pv : PV) (hp' : Hp) (μ' : List Addr) (q : Q pv hp') (r : Rep μ' s'.heap pv v) (H : HR G μ' hp' s') (st : Stp G noOwn μ s μ' s')
inductive PBo (G : GI) (μ : List Addr) (s : Shared) (Q : Bool → Hp → Prop) (b : Bool) (s' : Shared) : Prop
  | mk (hp' : Hp) (μ' : List Addr) (q : Q b hp') (H : HR G μ' hp' s') (st : Stp G noOwn μ s μ' s')
inductive PL (G : GI) (μ : List Addr) (s : Shared) (Q : List PV → Hp → Prop) (vs : List Value) (s' : Shared) : Prop
  | mk (ps : List PV) (hp' : Hp) (μ' : List Addr) (q : Q ps hp') (r : RepL μ' s'.heap ps vs) (H : HR G μ' hp' s') (st : Stp G noOwn μ s μ' s')
noncomputable abbrev noE : Value → Shared → Prop := fun _ _ => False
noncomputable def WE (G : GI) (n : Nat) (env : Env) (loc : Loc) (hp : Hp) (t : Sem Value) (Q : PV → Hp → Prop) : Prop :=
  ∀ A μ s, Room n A → HR G μ hp s → EnvR G A env loc μ s.heap →
    wpAny G.M A t (PE G μ s Q) noE s
noncomputable def WT (G : GI) (n : Nat) (env : Env) (loc : Loc) (hp : Hp) (t : Sem Bool) (Q : Bool → Hp → Prop) : Prop :=
  ∀ A μ s, Room n A → HR G μ hp s → EnvR G A env loc μ s.heap →
    wpAny G.M A t (PBo G μ s Q) noE s
noncomputable def WEs (G : GI) (n : Nat) (env : Env) (loc : Loc) (hp : Hp) (t : Sem (List Value)) (Q : List PV → Hp → Prop) : Prop :=
  ∀ A μ s, Room n A → HR G μ hp s → EnvR G A env loc μ s.heap →
    wpAny G.M A t (PL G μ s Q) noE s
noncomputable def FlR (μ : List Addr) (h : Heap) : Fl → Flow → Prop
  | .next, .next => True
  | .brk, .brk => True
  | .cont, .cont => True
  | .ret p, .ret v => Rep μ h p v
  | _, _ => False
/-- what stands behind a statement -/
inductive PF (G : GI) (A : Around) (env : Env) (μ : List Addr) (s : Shared) (Q : Fl → Loc → Hp → Prop) (f : Flow) (s' : Shared) : Prop
  | mk (fl : Fl) (loc' : Loc) (hp' : Hp) (μ' : List Addr) (q : Q fl loc' hp') (r : FlR μ' s'.heap fl f) (H : HR G μ' hp' s') (X : EnvR G A env loc' μ' s'.heap) (st : Stp G (ownOf env) μ s μ' s')
noncomputable def WS (G : GI) (n : Nat) (env : Env) (loc : Loc) (hp : Hp) (t : Sem Flow) (Q : Fl → Loc → Hp → Prop) : Prop :=
  ∀ A μ s, Room n A → HR G μ hp s → EnvR G A env loc μ s.heap →
    wpAny G.M A t (PF G A env μ s Q) noE s
noncomputable def isFn (G : GI) (f : Str) : Prop := ∃ a o fd, G.mg f = some (.ref a) ∧ G.h0.get? a = some o ∧ o.data = .func fd
/-- a call of the global f -/
inductive PC (G : GI) (μ : List Addr) (s : Shared) (Q : PV → Hp → Prop) (r : Result) (s' : Shared) : Prop
  | mk (pv : PV) (hp' : Hp) (v : Value) (e : r = .ok (.ret v)) (q : Q pv hp') (r : Rep μ s'.heap pv v) (H : HR G μ hp' s') (st : Stp G noOwn μ s μ s')
noncomputable def CallW (G : GI) (n : Nat) (f : Str) (ps : List PV) (hp : Hp) (Q : PV → Hp → Prop) : Prop :=
  ∃ a o fd, (G.mg f = some (.ref a) ∧ G.h0.get? a = some o ∧ o.data = .func fd) ∧ ∀ A μ s vs, Room (n + 1) A → HR G μ hp s → RepL μ s.heap ps vs → G.h0.objs.size ≤ s.heap.objs.size → FrsOk G A s.heap →
    codeAny G.M A (.call (.ref a) ⟨vs, []⟩) (PC G μ s Q) s
/-! ## what a text does to the small state: conditions reckoned from the syntax -/
noncomputable def updL (l : Loc) : List Str → List PV → Loc
  | x :: xs, v :: vs => updL (upd l x v) xs vs
  | _, _ => l
noncomputable def compL (test : List PV → Loc → (Bool → Prop) → Prop) (elt : List PV → Loc → (PV → Prop) → Prop) (bnd : PV → (Loc → Prop) → Prop) (Q : List PV → Prop) : List PV → List PV → Prop
  | [], acc => Q acc
  | x :: xs, acc => bnd x fun l1 => test acc l1 fun c => if c then elt acc l1 fun v => compL test elt bnd Q xs (acc ++ [v]) else compL test elt bnd Q xs acc
structure Cfg where
  sc : Scope
  trk : Pos → Bool
noncomputable def relabelS (csc sc : Scope) : Scope :=
  { csc with names := csc.names.map fun (n, k) => if (k == .free && sc.kind == .function && sc.names.lookup n == some .cell) then (n, .cell) else (n, k) }
/-- a single sign doubled or put behind another -/
noncomputable def replC (x : List Nat) (c : Nat) (z : List Nat) : List Nat := x.flatMap fun d => if d = c then z else [d]
mutual
noncomputable def inTo (k : Nat) : PV → Bool
  | .ref n => decide (n < k)
  | .app n => decide (n < k)
  | .tuple vs => inToL k vs
  | .list vs => inToL k vs
  | _ => true
noncomputable def inToL (k : Nat) : List PV → Bool
  | [] => true
  | v :: vs => inTo k v && inToL k vs
end
/-- what a comprehension's block sees of the frame around -/
noncomputable def restr (csc : Scope) (l : Loc) : Loc := fun y => if csc.names.lookup y = some .free then l y else none
/-! ## the judgements of a text: semantic, for every frame of the scope -/
noncomputable def exE (G : GI) (n : Nat) (K : Cfg) (e : Expr) (l : Loc) (hp : Hp) (Q : PV → Hp → Prop) : Prop := ∀ env, env.scope = K.sc → WE G n env l hp (eval e env) Q
noncomputable def exT (G : GI) (n : Nat) (K : Cfg) (e : Expr) (l : Loc) (hp : Hp) (Q : Bool → Hp → Prop) : Prop := ∀ env, env.scope = K.sc → WT G n env l hp (isTrue e env (eval e env)) Q
noncomputable def exA (G : GI) (n : Nat) (K : Cfg) (op : BoolOp) (es : List Expr) (l : Loc) (hp : Hp) (Q : Bool → Hp → Prop) : Prop := ∀ env, env.scope = K.sc → WT G n env l hp (allTrue op es env) Q
noncomputable def exL (G : GI) (n : Nat) (K : Cfg) (es : List Expr) (l : Loc) (hp : Hp) (Q : List PV → Hp → Prop) : Prop := ∀ env pos, env.scope = K.sc → WEs G n env l hp (spliced (backTo pos (starEach es env))) Q
noncomputable def exO (G : GI) (n : Nat) (K : Cfg) (o : Option Expr) (l : Loc) (hp : Hp) (Q : PV → Hp → Prop) : Prop := ∀ env, env.scope = K.sc → WE G n env l hp (valueOrNone (evalOpt o env)) Q
noncomputable def exI (G : GI) (n : Nat) (K : Cfg) (ifs : List Expr) (l : Loc) (hp : Hp) (Q : Bool → Prop) : Prop := match ifs with
  | [] => Q true
  | e :: r => r = [] ∧ exT G n K e l hp fun b h1 => h1 = hp ∧ Q b
noncomputable def stS (G : GI) (n : Nat) (K : Cfg) (st : Stmt) (l : Loc) (hp : Hp) (Q : Fl → Loc → Hp → Prop) : Prop := ∀ env, env.scope = K.sc → WS G n env l hp (exec st env) Q
noncomputable def stL (G : GI) (n : Nat) (K : Cfg) (ss : List Stmt) (l : Loc) (hp : Hp) (Q : Fl → Loc → Hp → Prop) : Prop := ∀ env, env.scope = K.sc → WS G n env l hp (execs ss env) Q
/-! ## what of a text can be looked over once -/
noncomputable def glbOk (sc : Scope) (f : Str) : Bool := sc.names.lookup f == some .globalImplicit && !(f == Str.ofString "__debug__")
noncomputable def stoOk (sc : Scope) (f : Str) : Bool := (sc.names.lookup f == some .local || sc.names.lookup f == some .cell) && !(f == ("__debug__" : Str)) && !(f == ("__classdict__" : Str))
noncomputable def okC (sc csc : Scope) : Bool := csc.names.lookup QM == none && csc.kind == .function && decide ((csc.names.map (·.1)).Nodup) && csc.names.all fun x => x.2 != .free || sc.names.lookup x.1 == some .cell || sc.names.lookup x.1 == some .free
noncomputable def noStar : Expr → Bool
  | .Starred _ _ => false
  | _ => true
end

section
open PySem PySem.W PyProof.Rows
set_option linter.unusedVariables false
variable {G : GI} {A : Around} {μ μ' : List Addr} {hp : Hp} {s s' : Shared} {own : Addr → Prop}
/-! ## steps -/
theorem Stp.of (k : ∀ a o, s.heap.get? a = some o → a ∉ μ → a ≠ G.P → ¬ own a → s'.heap.get? a = some o) (g : Grow s.heap μ μ') (v : Live s.heap s'.heap) : Stp G own μ s μ' s' :=
  ⟨fun a o e h1 h2 h3 => .inl (k a o e h1 h2 h3), g, v⟩
theorem Stp.ext {μ : List Addr} {s' : Shared} (k : ∀ a o, s.heap.get? a = some o → s'.heap.get? a = some o) : Stp G own μ s μ s' := .of (fun a o e _ _ _ => k a o e) (Grow.refl _ _) fun a o e => ⟨o, k a o e⟩
theorem UpS.obj {h' : Heap} {a : Addr} {o : Obj} (x : UpS h' a o) : ∃ o', h'.get? a = some o' ∧ o'.data = o.data := by
  rcases x with e | ⟨es, k, sl, q, e⟩
  · exact ⟨o, e, rfl⟩
  · exact ⟨_, e, rfl⟩
theorem UpS.same {h' : Heap} {a : Addr} {o : Obj} (x : UpS h' a o) (hd : ∀ es k, o.data ≠ .dict es k) : h'.get? a = some o :=
  x.elim id fun ⟨es, k, _, q, _⟩ => absurd q (hd es k)
theorem UpS.trans {h1 h2 : Heap} {a : Addr} {o : Obj} (x : UpS h1 a o) (y : ∀ o', h1.get? a = some o' → UpS h2 a o') : UpS h2 a o := by
  rcases x with e | ⟨es, k, sl, q, e⟩
  · exact y o e
  · rcases y _ e with e2 | ⟨es2, k2, sl2, q2, e2⟩
    · exact .inr ⟨es, k, sl, q, e2⟩
    · exact .inr ⟨es, k, sl2, q, e2⟩
theorem Stp.keep (x : Stp G own μ s μ' s') (a : Addr) (o : Obj) (e : s.heap.get? a = some o) (h1 : a ∉ μ) (h2 : a ≠ G.P) (h3 : ¬ own a) (hd : ∀ es k, o.data ≠ .dict es k) : s'.heap.get? a = some o :=
  (x.keepU a o e h1 h2 h3).same hd
theorem Stp.refl (μ : List Addr) (s : Shared) : Stp G own μ s μ s := .ext fun _ _ e => e
theorem Stp.toks (μ : List Addr) (s : Shared) (k : Nat) : Stp G own μ s μ { s with toks := k } := .ext fun _ _ e => e
theorem Stp.push (μ : List Addr) (s : Shared) (o : Obj) : Stp G own μ s μ { s with heap := s.heap.push o } := .ext fun _ _ e => Heap.get?_push_of_some _ e
theorem Stp.trans {μ'' : List Addr} {s'' : Shared} (x : Stp G own μ s μ' s') (y : Stp G own μ' s' μ'' s'') : Stp G own μ s μ'' s'' :=
  ⟨fun a o e h1 h2 h3 => UpS.trans (x.keepU a o e h1 h2 h3) fun o' e' => y.keepU a o' e' (x.grow.not h1 e) h2 h3, x.grow.trans y.grow x.live, x.live.trans y.live⟩
theorem Stp.weak {own' : Addr → Prop} (x : Stp G own μ s μ' s') (h : ∀ a, own a → own' a) : Stp G own' μ s μ' s' :=
  ⟨fun a o e h1 h2 h3 => x.keepU a o e h1 h2 fun q => h3 (h a q), x.grow, x.live⟩
theorem Stp.up (x : Stp G noOwn μ s μ' s') : Stp G own μ s μ' s' := x.weak fun _ q => q.elim
/-! kinds of objects -/
noncomputable def itCls : List String := ["list_iterator", "tuple_iterator", "str_ascii_iterator", "str_iterator", "range_iterator"]
noncomputable def isItC : Value → Bool
  | .type c => c == "zip" || itCls.contains c
  | _ => false
/-- what values, tracked objects, the code table and its codes are made of -/
noncomputable def sol (o : Obj) : Bool := match o.data with
  | .seq _ _ => true
  | .plain => true
  | .fields _ => !isItC o.cls
  | _ => false
noncomputable def dc (o : Obj) : Bool := match o.data with
  | .dict _ _ => true
  | .cell _ => true
  | _ => false
theorem solid_fields {o : Obj} {vs : Array Value} {v : Value} (hd : o.data = .fields vs) (hc : o.cls = v) (h : isItC v = false) : sol o = true := by
  unfold sol; rw [hd]; show (!isItC o.cls) = true; rw [hc, h]; rfl
theorem IsVal.sol_of {o : Obj} (hv : IsVal o) : sol o = true := by
  unfold IsVal at hv
  cases hd : o.data <;> rw [hd] at hv <;> first | exact hv.elim | skip
  · unfold sol; rw [hd]
  · rcases hv with h | h <;> exact solid_fields hd h rfl
theorem ObjR.sol_of {h : Heap} {a : Addr} {m : MO} (x : ObjR μ h a m) : ∃ o, h.get? a = some o ∧ sol o = true := by
  cases m with
  | list vs => obtain ⟨ws, n, e, _⟩ := x; exact ⟨_, e, rfl⟩
  | obj => exact ⟨_, x, rfl⟩
  | hid => obtain ⟨p, e⟩ := x; exact ⟨_, e, rfl⟩
theorem HR.at (H : HR G μ hp s) {a : Addr} (hm : a ∈ μ) : ∃ m, ObjR μ s.heap a m ∧ m ∈ hp := by
  obtain ⟨i, hi⟩ := List.getElem?_of_mem hm
  have hlt : i < hp.length := by rw [← H.len]; exact (List.getElem?_eq_some_iff.mp hi).1
  exact ⟨_, H.obj i a _ hi (List.getElem?_eq_getElem hlt), List.getElem_mem hlt⟩
theorem HR.notMem (H : HR G μ hp s) {a : Addr} {o : Obj} (ho : s.heap.get? a = some o) (h : sol o = false) : a ∉ μ := fun hm => by
  obtain ⟨m, x, _⟩ := H.at hm
  obtain ⟨o', e, q⟩ := x.sol_of
  rw [ho] at e; cases e; rw [h] at q; cases q
theorem HR.notTracked (H : HR G μ hp s) {a : Addr} {o : Obj} (ho : s.heap.get? a = some o) (hv : IsVal o) (hl : o.cls = .type "list" ∨ o.cls = .type "tuple" → a ∉ μ) : a ∉ μ := fun hm => by
  obtain ⟨m, x, _⟩ := H.at hm
  cases m with
  | list vs => obtain ⟨ws, n, e, _⟩ := x; rw [ho] at e; cases e; exact hl (.inl rfl) hm
  | obj => rw [show s.heap.get? a = some objO from x] at ho; cases ho; exact hv
  | hid => obtain ⟨p, e⟩ := x; rw [ho] at e; cases e; exact hl (.inr rfl) hm
theorem HR.notP (H : HR G μ hp s) {a : Addr} {o : Obj} (ho : s.heap.get? a = some o) (h : o.cls ≠ .none ∨ ∀ vs, o.data ≠ .fields vs) : a ≠ G.P := by
  rintro rfl
  obtain ⟨ps, e, _⟩ := H.tab
  rw [ho] at e; cases e
  exact h.elim (fun q => q rfl) fun q => q _ rfl
theorem HR.notTab (H : HR G μ hp s) {a : Addr} {o : Obj} (ho : s.heap.get? a = some o) (hv : IsVal o) : a ≠ G.P := by
  rintro rfl
  obtain ⟨ps, e, _⟩ := H.tab
  rw [ho] at e; cases e
  rcases hv with q | q <;> cases q
theorem dc_P {o : Obj} (h : dc o = true) : ∀ vs, o.data ≠ .fields vs := fun vs q => by
  unfold dc at h; rw [q] at h; cases h
theorem dc_solid {o : Obj} (h : dc o = true) : sol o = false := by
  unfold dc at h; unfold sol
  cases hd : o.data <;> rw [hd] at h <;> first | rfl | cases h
theorem IsVal.noDict {o : Obj} (hv : IsVal o) : ∀ es k, o.data ≠ .dict es k := fun es k q => by
  unfold IsVal at hv; rw [q] at hv; exact hv
theorem IsVal.not {o : Obj} (h : sol o = false) : ¬ IsVal o := fun hv => by rw [hv.sol_of] at h; cases h
theorem HR.vkeep (H : HR G μ hp s) (x : Stp G own μ s μ' s') (hown : ∀ a o, own a → s.heap.get? a = some o → ¬ IsVal o) : VKeep μ s.heap s'.heap := fun a o ho hv hl =>
  x.keep a o ho (H.notTracked ho hv hl) (H.notTab ho hv) (fun q => hown a o q ho hv) hv.noDict
theorem HR.vkeep0 (H : HR G μ hp s) (x : Stp G noOwn μ s μ' s') : VKeep μ s.heap s'.heap := H.vkeep x fun _ _ q => q.elim
theorem HR.rep (H : HR G μ hp s) (x : Stp G noOwn μ s μ' s') {p : PV} {v : Value} (r : Rep μ s.heap p v) : Rep μ' s'.heap p v := r.mono (H.vkeep0 x) x.grow
theorem HR.repL (H : HR G μ hp s) (x : Stp G noOwn μ s μ' s') {p : List PV} {v : List Value} (r : RepL μ s.heap p v) : RepL μ' s'.heap p v := r.mono (H.vkeep0 x) x.grow
/-- all that is sol, and all that stood at the start, is kept -/
noncomputable def Kept (G : GI) (h h' : Heap) : Prop := ∀ b o, h.get? b = some o → sol o = true ∨ b < G.h0.objs.size → h'.get? b = some o
theorem Kept.vk {h h' : Heap} (k : Kept G h h') : VKeep μ h h' := fun a o e hv _ => k a o e (.inl hv.sol_of)
theorem Kept.rep {h h' : Heap} (k : Kept G h h') {p : PV} {v : Value} (r : Rep μ h p v) : Rep μ h' p v := r.mono k.vk (Grow.refl _ _)
theorem Kept.all {h h' : Heap} (k : ∀ a o, h.get? a = some o → h'.get? a = some o) : Kept G h h' := fun b o e _ => k b o e
theorem Kept.but {h h' : Heap} {a : Addr} {o : Obj} (ha : G.h0.objs.size ≤ a) (ho : h.get? a = some o) (hs : sol o = false) (k : ∀ b x, b ≠ a → h.get? b = some x → h'.get? b = some x) : Kept G h h' := fun b x e q =>
  k b x (by
    rintro rfl
    rw [ho] at e; cases e
    rcases q with q | q
    · rw [hs] at q; cases q
    · exact absurd q (Nat.not_lt.mpr ha)) e
theorem TabOk.kept {h h' : Heap} (x : TabOk G h) (k : ∀ b o, h.get? b = some o → sol o = true → h'.get? b = some o) : TabOk G h' := by
  obtain ⟨ps, e, ht, hc⟩ := x
  refine ⟨ps, k _ _ e rfl, ht, fun pos c hp' => ?_⟩
  obtain ⟨a, o', q1, q2, q3, vs, q, t, q4, q5, q6⟩ := hc pos c hp'
  exact ⟨a, o', q1, k _ _ q2 (solid_fields q4 q6 rfl), q3, vs, q, t, q4, q5, q6⟩
theorem ObjR.kept {h h' : Heap} {a : Addr} {m : MO} (x : ObjR μ h a m) (k : ∀ o, h.get? a = some o → sol o = true → h'.get? a = some o) (r : ∀ {p v}, RepL μ h p v → RepL μ' h' p v) : ObjR μ' h' a m := by
  cases m with
  | list vs => obtain ⟨ws, n, e, q⟩ := x; exact ⟨ws, n, k _ e rfl, r q⟩
  | obj => exact k _ x rfl
  | hid => obtain ⟨p, e⟩ := x; exact ⟨p, k _ e rfl⟩
theorem HR.kept (H : HR G μ hp s) (k : Kept G s.heap s'.heap) (ho : s'.os = s.os) (hg : s'.gens = s.gens) (ht : 1 ≤ s'.toks) : HR G μ hp s' :=
  ⟨fun a x e => k _ _ (H.base a x e) (.inr (Heap.lt_size e)), H.tab.kept fun b o e q => k b o e (.inl q), ho.trans H.os, hg ▸ H.gens, ht, H.nodup, H.len, H.low,
    fun i a m h1 h2 => (H.obj i a m h1 h2).kept (fun o e q => k a o e (.inl q)) fun r => r.mono k.vk (Grow.refl _ _)⟩
theorem HR.ext (H : HR G μ hp s) (k : ∀ a o, s.heap.get? a = some o → s'.heap.get? a = some o) (ho : s'.os = s.os) (hg : s'.gens = s.gens) (ht : 1 ≤ s'.toks) : HR G μ hp s' := H.kept (.all k) ho hg ht
theorem HR.tok (H : HR G μ hp s) {k : Nat} (hk : 1 ≤ k) : HR G μ hp { s with toks := k } := H.ext (fun _ _ e => e) rfl rfl hk
theorem HR.push (H : HR G μ hp s) (o : Obj) : HR G μ hp { s with heap := s.heap.push o } := H.ext (fun _ _ e => Heap.get?_push_of_some _ e) rfl rfl H.toks
theorem HR.ns (H : HR G μ hp s) {a : Addr} {m : Str → Option Value} (h : G.h0.Ns a m) : s.heap.Ns a m := by
  obtain ⟨o, es, ep, e, r⟩ := h
  exact ⟨o, es, ep, H.base _ _ e, r⟩
/-! the frame -/
/-- dicts and cells are kept in what they hold -/
noncomputable def KeptD (h h' : Heap) : Prop := ∀ b o, h.get? b = some o → dc o = true → ∃ o', h'.get? b = some o' ∧ o'.data = o.data
theorem dc_dict {o : Obj} {es : Array DictEntry} {k : Nat} (h : o.data = .dict es k) : dc o = true := by unfold dc; rw [h]
theorem dc_cell {o : Obj} {v : Option Value} (h : o.data = .cell v) : dc o = true := by unfold dc; rw [h]
theorem KeptD.ns {h h' : Heap} (k : KeptD h h') {a : Addr} {m : Str → Option Value} (x : h.Ns a m) : h'.Ns a m := by
  obtain ⟨o, es, ep, e, hd, r⟩ := x
  obtain ⟨o', e', hd'⟩ := k _ _ e (dc_dict hd)
  exact ⟨o', es, ep, e', hd'.trans hd, r⟩
theorem KeptD.cell {h h' : Heap} (k : KeptD h h') {a : Addr} {v : Option Value} (x : h.IsCell a v) : h'.IsCell a v := by
  obtain ⟨o, e, hd⟩ := x
  obtain ⟨o', e', hd'⟩ := k _ _ e (dc_cell hd)
  exact ⟨o', e', hd'.trans hd⟩
theorem FrsOk.of {h h' : Heap} (X : FrsOk G A h) (k : ∀ L o es kk, h.get? L = some o → o.data = .dict es kk → ∃ o' es' k', h'.get? L = some o' ∧ o'.data = .dict es' k') : FrsOk G A h' := fun l hl e he => by
  obtain ⟨h1, L, o, es, kk, h2, h3, h4, h5⟩ := X l hl e he
  obtain ⟨o', es', k', h6, h7⟩ := k L o es kk h3 h4
  exact ⟨h1, L, o', es', k', h2, h6, h7, h5⟩
theorem FrsOk.kept {h h' : Heap} (X : FrsOk G A h) (k : KeptD h h') : FrsOk G A h' := X.of fun L o es kk e hd => by
  obtain ⟨o', e', hd'⟩ := k _ _ e (dc_dict hd)
  exact ⟨o', es, kk, e', hd'.trans hd⟩
theorem FrsOk.keep {h h' : Heap} (X : FrsOk G A h) (k : ∀ b o, h.get? b = some o → h'.get? b = some o) : FrsOk G A h' := X.kept fun b o e _ => ⟨o, k b o e, rfl⟩
/-- one object alone has changed, and a dict is a dict still -/
theorem FrsOk.but {h h' : Heap} {a : Addr} (X : FrsOk G A h) (sb : Heap.SameBut a h h') (k : ∀ o es kk, h.get? a = some o → o.data = .dict es kk → ∃ o' es' k', h'.get? a = some o' ∧ o'.data = .dict es' k') : FrsOk G A h' := X.of fun L o es kk e hd => by
  by_cases q : L = a
  · subst q; exact k o es kk e hd
  · exact ⟨o, es, kk, (sb.2 L q).trans e, hd⟩
variable {env : Env} {loc : Loc}
theorem EnvR.keep {h h' : Heap} (X : EnvR G A env loc μ h) (k : KeptD h h') (r : ∀ {p v}, Rep μ h p v → Rep μ' h' p v) : EnvR G A env loc μ' h' := by
  refine ⟨X.dom, X.kind, X.glob, X.blt, X.low, X.lows, X.apart, X.code, X.frs.kept k, ?_, fun y hy => ?_⟩
  · obtain ⟨m, hns, hm⟩ := X.ns
    refine ⟨m, k.ns hns, fun y pv hk hl => ?_⟩
    obtain ⟨v, h1, h2⟩ := hm y pv hk hl
    exact ⟨v, h1, r h2⟩
  · obtain ⟨c, ov, h1, hc, h3⟩ := X.cel y hy
    refine ⟨c, ov, h1, k.cell hc, fun pv hl => ?_⟩
    obtain ⟨v, h4, h5⟩ := h3 pv hl
    exact ⟨v, h4, r h5⟩
theorem EnvR.ownDc {h : Heap} (X : EnvR G A env loc μ h) {a : Addr} {o : Obj} (ha : ownOf env a) (ho : h.get? a = some o) : dc o = true := by
  rcases ha with rfl | ⟨x, hx, hc⟩
  · obtain ⟨m, ⟨o', es, ep, e, hd, _⟩, _⟩ := X.ns
    rw [ho] at e; cases e
    exact dc_dict hd
  · obtain ⟨c, ov, e1, ⟨o', e2, hd⟩, _⟩ := X.cel x (.inl hx)
    rw [hc] at e1; cases e1
    rw [ho] at e2; cases e2
    exact dc_cell hd
theorem EnvR.ownVal {h : Heap} (X : EnvR G A env loc μ h) : ∀ a o, ownOf env a → h.get? a = some o → ¬ IsVal o := fun a o ha ho => IsVal.not (dc_solid (X.ownDc ha ho))
theorem HR.keptD (H : HR G μ hp s) (x : Stp G noOwn μ s μ' s') : KeptD s.heap s'.heap := fun b o e h =>
  (x.keepU _ _ e (H.notMem e (dc_solid h)) (H.notP e (.inr (dc_P h))) id).obj
/-- the frame behind a step that stores into nothing of it -/
theorem EnvR.step (X : EnvR G A env loc μ s.heap) (H : HR G μ hp s) (x : Stp G noOwn μ s μ' s') : EnvR G A env loc μ' s'.heap := X.keep (H.keptD x) fun r => H.rep x r
theorem EnvR.base (X : EnvR G A env loc μ s.heap) : G.h0.objs.size ≤ s.heap.objs.size := by
  obtain ⟨m, ⟨o, es, ep, e, _⟩, _⟩ := X.ns
  exact Nat.le_of_lt (Nat.lt_of_le_of_lt X.low (Heap.lt_size e))
theorem wtk {α : Type} {M : Model} {A : Around} {t : Sem α} {Q : α → Shared → Prop} {E : Value → Shared → Prop} {s : Shared} (h0 : 1 ≤ s.toks)
    (h : wpAny M A t (fun a s' => 1 ≤ s'.toks → Q a s') (fun e s' => 1 ≤ s'.toks → E e s') s) : wpAny M A t Q E s := wpAny_with_toks h0 h
end

section
open PySem PySem.W PyProof.Rows
set_option linter.unusedVariables false
set_option linter.unusedSimpArgs false
variable {G : GI} {n : Nat} {A : Around} {μ μ' : List Addr} {hp hp' : Hp} {s s' : Shared} {Q : PV → Hp → Prop} {v w : Value} {p : PV}
/-! ## what a value is -/
@[elab_as_elim] theorem intE {h : Heap} {i : Int} {C : Value → Prop} (r : Rep μ h (.int i) v) (k : ∀ t, C (.int i t)) : C v := by obtain ⟨t, rfl⟩ := r; exact k t
@[elab_as_elim] theorem strE {h : Heap} {l : List Nat} {C : Value → Prop} (r : Rep μ h (.str l) v) (k : ∀ t, C (.str ⟨l.toArray⟩ t)) : C v := by obtain ⟨t, rfl⟩ := r; exact k t
theorem rbool {h : Heap} {b : Bool} : Rep μ h (.bool b) (.bool b) := rfl
theorem rnone {h : Heap} : Rep μ h .none .none := rfl
theorem rint {h : Heap} {i : Int} {t : Tok} : Rep μ h (.int i) (.int i t) := ⟨t, rfl⟩
theorem rstr {h : Heap} {l : List Nat} {t : Tok} : Rep μ h (.str l) (.str ⟨l.toArray⟩ t) := ⟨t, rfl⟩
theorem rstr' {h : Heap} {l : List Nat} {x : Str} {t : Tok} (e : x = ⟨l.toArray⟩) : Rep μ h (.str l) (.str x t) := ⟨t, by rw [e]⟩
theorem cat_eq (a b : List Nat) : (⟨a.toArray⟩ : Str) ++ ⟨b.toArray⟩ = ⟨(a ++ b).toArray⟩ := by show (⟨a.toArray ++ b.toArray⟩ : Str) = _; simp
theorem len_eq (a : List Nat) : (⟨a.toArray⟩ : Str).length = a.length := by simp [Str.length]
theorem big_fits {k : Nat} (h : k ≤ big) : k ≤ sizeLine := by rw [sizeLine_eq]; unfold big at h; omega
theorem str_fits {a : List Nat} (h : a.length ≤ big) : (⟨a.toArray⟩ : Str).length ≤ sizeLine := by rw [len_eq]; exact big_fits h
theorem big63 {k : Nat} (h : k ≤ big) : ¬ ((k : Int) ≥ 2 ^ 63) := by unfold big at h; omega
/-! posts -/
theorem PE_here (H : HR G μ hp s) (r : Rep μ s.heap p v) (q : Q p hp) : PE G μ s Q v s := ⟨p, hp, μ, q, r, H, Stp.refl _ _⟩
theorem PE_tok {k : Nat} (H : HR G μ hp s) (hk : 1 ≤ k) (r : Rep μ s.heap p v) (q : Q p hp) : PE G μ s Q v { s with toks := k } :=
  ⟨p, hp, μ, q, r, H.tok hk, Stp.toks _ _ _⟩
theorem PE_t1 (H : HR G μ hp s) (r : Rep μ s.heap p v) (q : Q p hp) : PE G μ s Q v { s with toks := s.toks + 1 } := PE_tok H (Nat.le_succ_of_le H.toks) r q
theorem PE_t2 (H : HR G μ hp s) (r : Rep μ s.heap p v) (q : Q p hp) : PE G μ s Q v { s with toks := s.toks + 1 + 1 } := PE_tok H (Nat.le_succ_of_le (Nat.le_succ_of_le H.toks)) r q
theorem HR.lt (H : HR G μ hp s) {a : Addr} (hm : a ∈ μ) : a < s.heap.objs.size := by
  obtain ⟨m, x, _⟩ := H.at hm
  obtain ⟨o, e, _⟩ := x.sol_of
  exact Heap.lt_size e
theorem HR.inj (H : HR G μ hp s) {i j : Nat} {a : Addr} (h1 : μ[i]? = some a) (h2 : μ[j]? = some a) : i = j :=
  (List.getElem?_inj (List.getElem?_eq_some_iff.mp h1).1 H.nodup).mp (h1.trans h2.symm)
theorem HR.new (H : HR G μ hp s) : s.heap.objs.size ∉ μ := fun hm => Nat.lt_irrefl _ (H.lt hm)
theorem pushKeep (s : Shared) (o : Obj) : VKeep μ s.heap (s.heap.push o) := fun a x e _ _ => Heap.get?_push_of_some _ e
theorem Rep.push (r : Rep μ s.heap p v) (o : Obj) : Rep μ (s.heap.push o) p v := r.mono (pushKeep s o) (Grow.refl _ _)
theorem RepL.push {p : List PV} {v : List Value} (r : RepL μ s.heap p v) (o : Obj) : RepL μ (s.heap.push o) p v := r.mono (pushKeep s o) (Grow.refl _ _)
theorem PE_push {o : Obj} (H : HR G μ hp s) (r : Rep μ (s.heap.push o) p v) (q : Q p hp) : PE G μ s Q v { s with heap := s.heap.push o } := ⟨p, hp, μ, q, r, H.push _, Stp.push _ _ _⟩
/-- a fresh frozen list -/
theorem PE_list {vs : List PV} {ws : Array Value} (H : HR G μ hp s) (r : RepL μ s.heap vs ws.toList) (q : Q (.list vs) hp) :
    PE G μ s Q (.ref s.heap.objs.size) { s with heap := s.heap.push (lstO ws 0) } := PE_push (p := .list vs) H ⟨_, ws, 0, rfl, Heap.get?_push_size _ rfl, H.new, r.push _⟩ q
/-- a fresh tuple -/
theorem PE_tuple {vs : List PV} {ws : Array Value} (H : HR G μ hp s) (r : RepL μ s.heap vs ws.toList) (q : Q (.tuple vs) hp) :
    PE G μ s Q (.ref s.heap.objs.size) { s with heap := s.heap.push (tupO ws) } := PE_push (p := .tuple vs) H ⟨_, ws, rfl, Heap.get?_push_size _ rfl, r.push _, H.new⟩ q
theorem HR.track (H : HR G μ hp s) (hb : G.h0.objs.size ≤ s.heap.objs.size) {o : Obj} {m : MO} (hO : ObjR (μ ++ [s.heap.objs.size]) (s.heap.push o) s.heap.objs.size m) :
    HR G (μ ++ [s.heap.objs.size]) (hp ++ [m]) { s with heap := s.heap.push o } := by
  have g : Grow s.heap μ (μ ++ [s.heap.objs.size]) := Grow.one _ _
  have P := H.push o
  refine ⟨P.base, P.tab, P.os, P.gens, P.toks, ?_, by rw [List.length_append, List.length_append, H.len]; rfl, fun a ha => ?_, fun i a m' h1 h2 => ?_⟩
  · rw [List.nodup_append]
    refine ⟨H.nodup, List.pairwise_singleton .., fun a ha b hb => ?_⟩
    rw [List.mem_singleton.mp hb]
    exact Nat.ne_of_lt (H.lt ha)
  · rcases List.mem_append.mp ha with q | q
    · exact H.low a q
    · rw [List.mem_singleton.mp q]; exact hb
  · rcases Nat.lt_or_ge i μ.length with hl | hl
    · rw [List.getElem?_append_left hl] at h1
      rw [List.getElem?_append_left (by rw [← H.len]; exact hl)] at h2
      exact (H.obj i a m' h1 h2).kept (fun o' e _ => Heap.get?_push_of_some _ e) fun r => r.mono (pushKeep s o) g
    · rw [List.getElem?_append_right hl] at h1
      rw [List.getElem?_append_right (by rw [← H.len]; exact hl), ← H.len] at h2
      generalize i - μ.length = k at h1 h2
      cases k with
      | zero => cases h1; cases h2; exact hO
      | succ k => cases h1
theorem Stp.track {own : Addr → Prop} (μ : List Addr) (s : Shared) (o : Obj) : Stp G own μ s (μ ++ [s.heap.objs.size]) { s with heap := s.heap.push o } :=
  .of (fun _ _ e _ _ _ => Heap.get?_push_of_some _ e) (Grow.one _ _) fun _ o e => ⟨o, Heap.get?_push_of_some _ e⟩
/-- a list: where it stands and what it holds -/
inductive LstAt (μ : List Addr) (h : Heap) (vs : List PV) : Value → Prop
  | mk (a : Addr) (ws : Array Value) (m : Nat) (ho : h.get? a = some (lstO ws m)) (rs : RepL μ h vs ws.toList) (n1 : ws.size = vs.length) : LstAt μ h vs (.ref a)
theorem RepL.size {h : Heap} {vs : List PV} {ws : Array Value} (rs : RepL μ h vs ws.toList) : ws.size = vs.length := by rw [← rs.length, Array.length_toList]
/-- a tracked list -/
inductive RefAt (μ : List Addr) (h : Heap) (j : Nat) (vs : List PV) : Value → Prop
  | mk (a : Addr) (ws : Array Value) (m : Nat) (hm : μ[j]? = some a) (ho : h.get? a = some (lstO ws m)) (rs : RepL μ h vs ws.toList) (n1 : ws.size = vs.length) : RefAt μ h j vs (.ref a)
theorem refAt {j : Nat} {vs : List PV} (H : HR G μ hp s) (r : Rep μ s.heap (.ref j) v) (hj : hp[j]? = some (.list vs)) : RefAt μ s.heap j vs v := by
  obtain ⟨a, rfl, hm⟩ := r
  obtain ⟨ws, m, e, rs⟩ := H.obj j a _ hm hj
  exact ⟨a, ws, m, hm, e, rs, rs.size⟩
theorem contents_ref {j : Nat} {vs : List PV} (e : contents hp (.ref j) = some vs) : hp[j]? = some (.list vs) := by
  cases h : hp[j]? with
  | none => rw [contents, h] at e; cases e
  | some m =>
    rw [contents, h] at e
    cases m <;> cases e
    rfl
theorem lstAt {vs : List PV} (H : HR G μ hp s) (r : Rep μ s.heap p v) (e : contents hp p = some vs) : LstAt μ s.heap vs v := by
  cases p with
  | list vs' =>
    cases e
    obtain ⟨a, ws, m, rfl, ho, _, rs⟩ := r
    exact ⟨a, ws, m, ho, rs, rs.size⟩
  | ref j =>
    obtain ⟨a, ws, m, _, ho, rs, n1⟩ := refAt H r (contents_ref e)
    exact ⟨a, ws, m, ho, rs, n1⟩
  | _ => cases e
/-- a tuple -/
inductive TupAt (μ : List Addr) (h : Heap) (vs : List PV) : Value → Prop
  | mk (a : Addr) (ws : Array Value) (ho : h.get? a = some (tupO ws)) (rs : RepL μ h vs ws.toList) (hm : a ∉ μ) (n1 : ws.size = vs.length) : TupAt μ h vs (.ref a)
theorem tupAt {h : Heap} {vs : List PV} (r : Rep μ h (.tuple vs) v) : TupAt μ h vs v := by
  obtain ⟨a, ws, rfl, ho, rs, hm⟩ := r
  exact ⟨a, ws, ho, rs, hm, rs.size⟩
/-! ## operations: what they come to, for every state -/
section
variable (G : GI)
noncomputable def BinR (op : Operator) (hp : Hp) (x y r : PV) : Prop := ∀ {A μ s v w Q}, HR G μ hp s → Rep μ s.heap x v → Rep μ s.heap y w → Q r hp → wpAny G.M A (binaryOp op v w) (PE G μ s Q) noE s
noncomputable def AugR (op : Operator) (hp : Hp) (x y r : PV) : Prop := ∀ {A μ s v w Q}, HR G μ hp s → Rep μ s.heap x v → Rep μ s.heap y w → Q r hp → wpAny G.M A (inplaceOp op v w) (PE G μ s Q) noE s
noncomputable def CmpR (op : CmpOp) (hp : Hp) (x y : PV) (b : Bool) : Prop := ∀ {n A μ s v w} {Q E : Value → Shared → Prop}, Room n A → HR G μ hp s → Rep μ s.heap x v → Rep μ s.heap y w → Q (.bool b) s → wpAny G.M A (compareOp op v w) Q E s
noncomputable def TruR (hp : Hp) (x : PV) (b : Bool) : Prop := ∀ {A μ s v} {Q : Bool → Shared → Prop} {E : Value → Shared → Prop}, HR G μ hp s → Rep μ s.heap x v → (∀ k, 1 ≤ k → Q b { s with toks := k }) → wpAny G.M A (truthy v) Q E s
inductive SubOk (s : Shared) (v : Value) : Prop
  | mk (T id : String) (hT : s.TypeIs v T) (hl : typeLookup (.type T) "__getitem__" = pure (some (.builtin id)))
noncomputable def ItR (hp : Hp) (x y r : PV) : Prop := ∀ {A μ s v w Q}, HR G μ hp s → Rep μ s.heap x v → Rep μ s.heap y w → Q r hp → SubOk s v ∧ wpAny G.M A (getItem v w) (PE G μ s Q) noE s
noncomputable def slO (v w : Value) : Obj := { cls := .type "slice", data := .fields #[v, w, .none] }
noncomputable def SlR (hp : Hp) (o x y r : PV) : Prop := ∀ {A μ s vo vx vy Q}, HR G μ hp s → Rep μ s.heap o vo → Rep μ s.heap x vx → Rep μ s.heap y vy → Q r hp →
  SubOk { s with heap := s.heap.push (slO vx vy) } vo ∧ wpAny G.M A (getItem vo (.ref s.heap.objs.size)) (PE G μ s Q) noE { s with heap := s.heap.push (slO vx vy) }
noncomputable def BltR (c : Value) (hp : Hp) (args : List PV) (r : PV) : Prop := ∀ {n A μ s vs Q}, Room n A → HR G μ hp s → RepL μ s.heap args vs → Q r hp → wpAny G.M A (call c vs) (PE G μ s Q) noE s
noncomputable def MeR (id : String) (hp : Hp) (o : PV) (args : List PV) (r : PV) (hp' : Hp) : Prop := ∀ {A μ s v vs Q}, HR G μ hp s → Rep μ s.heap o v → RepL μ s.heap args vs → Q r hp' → wpAny G.M A (call (.builtin id) (v :: vs)) (PE G μ s Q) noE s
noncomputable def RcR (T : String) (hp : Hp) (x : PV) : Prop := ∀ {μ s v}, HR G μ hp s → Rep μ s.heap x v → s.TypeIs v T ∧ ∀ a, v = .ref a → ∃ ob, s.heap.get? a = some ob ∧ ob.dict = none
inductive PH (G : GI) (μ : List Addr) (s : Shared) (hp' : Hp) (s' : Shared) : Prop
  | mk (H : HR G μ hp' s') (st : Stp G noOwn μ s μ s')
noncomputable def StoR (hp : Hp) (o i x : PV) (hp' : Hp) : Prop := ∀ {A μ s v w y}, HR G μ hp s → Rep μ s.heap o v → Rep μ s.heap i w → Rep μ s.heap x y → wpAny G.M A (setItem v w y) (fun _ => PH G μ s hp') noE s
noncomputable def DelR (hp : Hp) (o i : PV) (hp' : Hp) : Prop := ∀ {A μ s v w}, HR G μ hp s → Rep μ s.heap o v → Rep μ s.heap i w → wpAny G.M A (delItem v w) (fun _ => PH G μ s hp') noE s
noncomputable def IsaR (T : String) (hp : Hp) (x : PV) (b : Bool) : Prop := ∀ {A μ s v} {Q : PV → Hp → Prop}, HR G μ hp s → Rep μ s.heap x v → Q (.bool b) hp → wpAny G.M A (call (.builtin "isinstance") [v, .type T]) (PE G μ s Q) noE s
end
theorem MeR.to {id : String} {o : PV} {args : List PV} {r : PV} {h1 h2 : Hp} (m : MeR G id hp o args r h1) (e : h1 = h2) : MeR G id hp o args r h2 := e ▸ m
/-! reckoning -/
theorem smallI_iff {b : Int} (h : smallI b = true) : -(2 : Int) ^ 63 < b ∧ b < (2 : Int) ^ 63 := by simpa [smallI] using h
theorem pylong_small {a b : Int} (h : smallI b = true) : Builtin.divisionGoesByPylong a b = false := by
  obtain ⟨h1, h2⟩ := smallI_iff h
  unfold Builtin.divisionGoesByPylong
  have hl : b.natAbs.log2 < 64 := by
    rcases Nat.eq_zero_or_pos b.natAbs with h0 | hp
    · rw [h0]; decide
    · exact Nat.lt_trans ((Nat.log2_lt (Nat.ne_of_gt hp)).mpr (by omega : b.natAbs < 2 ^ 63)) (by decide)
  simp only [Bool.and_eq_false_iff, decide_eq_false_iff_not]
  left
  split <;> omega
theorem bin_add (a b : Int) : BinR G .Add hp (.int a) (.int b) (.int (a + b)) := fun H rx ry q => intE rx fun _ => intE ry fun _ => add_int (PE_t1 H rint q)
theorem bin_sub (a b : Int) : BinR G .Sub hp (.int a) (.int b) (.int (a - b)) := fun H rx ry q => intE rx fun _ => intE ry fun _ => sub_int (PE_t1 H rint q)
theorem d_div {a b : Int} (h : b ≠ 0 ∧ smallI b = true) : BinR G .FloorDiv hp (.int a) (.int b) (.int (a.fdiv b)) := fun H rx ry q => intE rx fun _ => intE ry fun _ =>
  floordiv_int h.1 (PE_t1 H rint q) (.inl (pylong_small h.2))
theorem d_mod {a b : Int} (h : b ≠ 0) : BinR G .Mod hp (.int a) (.int b) (.int (a.fmod b)) := fun H rx ry q => intE rx fun _ => intE ry fun _ => mod_int' h (PE_t1 H rint q)
theorem d_pow {a b : Int} (h : 0 ≤ b ∧ b ≤ 64 ∧ -1000 ≤ a ∧ a ≤ 1000) : BinR G .Pow hp (.int a) (.int b) (.int (a ^ b.toNat)) := fun H rx ry q => intE rx fun _ => intE ry fun _ => by
  obtain ⟨h1, h2, h3, h4⟩ := h
  refine pow_int h1 (Int.le_trans (Int.mul_le_mul (Int.ofNat_le.mpr (intBits_le_64 (k := a) (by omega) (by omega))) h2 h1 (by decide)) (by decide)) (PE_t1 H rint q)
theorem d_cat {a b : List Nat} (h : a.length + b.length ≤ big) : BinR G .Add hp (.str a) (.str b) (.str (a ++ b)) := fun H rx ry q => strE rx fun _ => strE ry fun _ =>
  wtk H.toks (add_str (fun t' tk hk => PE_tok H hk (rstr' (cat_eq a b)) q) (by rw [len_eq, len_eq]; exact big_fits h))
theorem aug_int (a b : Int) : AugR G .Add hp (.int a) (.int b) (.int (a + b)) := fun H rx ry q => intE rx fun _ => intE ry fun _ => wpAny_iadd_int (PE_t1 H rint q)
theorem d_as {a b : List Nat} (h : a.length + b.length ≤ big) : AugR G .Add hp (.str a) (.str b) (.str (a ++ b)) := fun H rx ry q => strE rx fun _ => strE ry fun _ =>
  wtk H.toks (PyProof.Rows.iadd_str (fun t' tk hk => PE_tok H hk (rstr' (cat_eq a b)) q) (by rw [len_eq, len_eq]; exact big_fits h))
/-! compares -/
theorem cmp_lt (a b : Int) : CmpR G .Lt hp (.int a) (.int b) (decide (a < b)) := fun R H rx ry q => intE rx fun _ => intE ry fun _ => lt_int q
theorem cmp_ge (a b : Int) : CmpR G .GtE hp (.int a) (.int b) (decide (b ≤ a)) := fun R H rx ry q => intE rx fun _ => intE ry fun _ => ge_int q
theorem cmp_sgt (a b : List Nat) : CmpR G .Gt hp (.str a) (.str b) (ltL b a) := fun R H rx ry q => strE rx fun _ => strE ry fun _ => P.gt_str q
theorem beqS (a b : List Nat) : ((⟨a.toArray⟩ : Str) == ⟨b.toArray⟩) = decide (a = b) := by
  rw [Bool.eq_iff_iff, beq_iff_eq, decide_eq_true_iff]
  exact ⟨fun h => by simpa using h, fun h => by rw [h]⟩
theorem eqC {b : Bool} {x y : PV} (hc : ∀ {A : Around} {s : Shared} {v w : Value} {μ : List Addr}, Rep μ s.heap x v → Rep μ s.heap y w → SeqAt.RcAt A s v w b) : CmpR G .Eq hp x y b := fun R H rx ry q => hc rx ry G.prog G.w _ _ q
theorem d_eqs (a b : List Nat) : CmpR G .Eq hp (.str a) (.str b) (decide (a = b)) := eqC fun rx ry => strE rx fun _ => strE ry fun _ => beqS a b ▸ SeqAt.RcAt.str_str _ _ _ _
theorem neC {b : Bool} {x y : PV} (hc : ∀ {A : Around} {s : Shared} {v w : Value} {μ : List Addr}, Rep μ s.heap x v → Rep μ s.heap y w → SeqAt.RcNeAt A s v w b) : CmpR G .NotEq hp x y b := fun R H rx ry q => hc rx ry G.prog G.w _ _ q
theorem d_nes (a b : List Nat) : CmpR G .NotEq hp (.str a) (.str b) (!decide (a = b)) := neC fun rx ry => strE rx fun _ => strE ry fun _ => beqS a b ▸ SeqAt.RcNeAt.str_str _ _ _ _
theorem d_eqi (a b : Int) : CmpR G .Eq hp (.int a) (.int b) (decide (a = b)) := eqC fun rx ry => intE rx fun _ => intE ry fun _ => SeqAt.RcAt.int_int _ _ _ _
/-! what is the same object -/
theorem isC {x y : PV} {b : Bool} (h : ∀ {A : Around} {μ : List Addr} {s : Shared} {v w : Value} {P : Bool → Shared → Prop} {E : Value → Shared → Prop}, HR G μ hp s → Rep μ s.heap x v → Rep μ s.heap y w → P b s → wpAny G.M A (isSame v w) P E s) :
    CmpR G .Is hp x y b ∧ CmpR G .IsNot hp x y (!b) := by
  constructor
  · intro n A μ s v w Q E R H rx ry q
    show wpAny G.M A (do return .bool (← isSame v w)) Q E s
    exact wpAny_bind (h H rx ry (wpAny_pure q))
  · intro n A μ s v w Q E R H rx ry q
    show wpAny G.M A (do return .bool (!(← isSame v w))) Q E s
    exact wpAny_bind (h H rx ry (wpAny_pure q))
noncomputable def IsR (G : GI) (hp : Hp) (x y : PV) (b : Bool) : Prop := CmpR G .Is hp x y b ∧ CmpR G .IsNot hp x y (!b)
theorem d_is {x y : PV} {b : Bool} (h : IsR G hp x y b) : CmpR G .Is hp x y b := h.1
theorem d_isn {x y : PV} {b : Bool} (h : IsR G hp x y b) : CmpR G .IsNot hp x y (!b) := h.2
theorem is_str_ref (l : List Nat) (j : Nat) : IsR G hp (.str l) (.ref j) false := isC fun H rx ry h => strE rx fun _ => by
  obtain ⟨a, rfl, _⟩ := ry
  exact wpAny_isSame_plain rfl h
theorem ne_tup {c : String} (h : (c == "tuple") = false) : Value.type c ≠ .type "tuple" := fun e => by cases e; cases h
theorem okRef_obj {j : Nat} (H : HR G μ hp s) (r : Rep μ s.heap (.ref j) v) : ∃ a o, v = .ref a ∧ μ[j]? = some a ∧ s.heap.get? a = some o ∧ (okRef hp j = true → o.cls ≠ .type "tuple") := by
  obtain ⟨a, rfl, hm⟩ := r
  have hlt : j < hp.length := by rw [← H.len]; exact (List.getElem?_eq_some_iff.mp hm).1
  have hg : hp[j]? = some hp[j] := List.getElem?_eq_getElem hlt
  have hO := H.obj j a _ hm hg
  unfold okRef
  rw [hg]
  cases hq : hp[j] with
  | list vs => rw [hq] at hO; obtain ⟨ws, m, e, _⟩ := hO; exact ⟨a, _, rfl, hm, e, fun _ => ne_tup rfl⟩
  | obj => rw [hq] at hO; exact ⟨a, _, rfl, hm, hO, fun _ => ne_tup rfl⟩
  | hid => rw [hq] at hO; obtain ⟨ws, e⟩ := hO; exact ⟨a, _, rfl, hm, e, fun q => by cases q⟩
theorem isV_ref {i j : Nat} (h : okRef hp j = true) : IsR G hp (.ref i) (.ref j) (decide (i = j)) := isC fun H rx ry h' => by
  obtain ⟨a, o, rfl, hm, ho, hc⟩ := okRef_obj H rx
  obtain ⟨a', o', rfl, hm', ho', hc'⟩ := okRef_obj H ry
  by_cases hij : i = j
  · rw [decide_eq_true hij] at h'
    rw [hij, hm'] at hm; cases hm
    exact wpAny_isSame_ref_self h'
  · rw [decide_eq_false hij] at h'
    exact SeqAt.wpAny_isSame_ref_other' (fun e => hij (H.inj hm (e ▸ hm'))) ho ho' (hc' h) h'
/-! in -/
theorem str_contains (x : List Nat) (c : Nat) : (!(Builtin.Str.occurrences ⟨x.toArray⟩ ⟨#[c]⟩ 0 (⟨x.toArray⟩ : Str).length 1).isEmpty) = x.contains c := by
  rw [StrLaws.found_one]
  show decide (c ∈ x.toArray.toList) = _
  rw [List.contains_eq_mem]
theorem d_in (c : Nat) (x : List Nat) : CmpR G .In hp (.str [c]) (.str x) (x.contains c) := fun R H rx ry q => strE rx fun _ => strE ry fun _ => in_str (by rw [str_contains]; exact q)
theorem d_ni (c : Nat) (x : List Nat) : CmpR G .NotIn hp (.str [c]) (.str x) (!x.contains c) := fun R H rx ry q => strE rx fun _ => strE ry fun _ => notIn_str (by rw [str_contains]; exact q)
/-! truth -/
theorem truth_bool (b : Bool) : TruR G hp (.bool b) b := fun H rx q => by
  rw [show _ = Value.bool b from rx]; exact wpAny_truthy_bool (q _ H.toks)
theorem bne_len {α : Type} (b : List α) : ((b.length : Int) != 0) = !b.isEmpty := by
  cases b with
  | nil => rfl
  | cons x b => rw [List.isEmpty_cons, Bool.not_false, bne_iff_ne]; exact Int.natCast_ne_zero.mpr (Nat.succ_ne_zero _)
theorem le2 {k : Nat} (h : 1 ≤ k) : 1 ≤ k + 1 + 1 := Nat.le_succ_of_le (Nat.le_succ_of_le h)
theorem d_ts {b : List Nat} (h : b.length ≤ big) : TruR G hp (.str b) (!b.isEmpty) := fun H rx q => strE rx fun _ =>
  P.truthy_str (by rw [len_eq]; exact big63 h) (by rw [len_eq, bne_len]; exact q _ (le2 H.toks))
theorem truth_cont {x : PV} {vs : List PV} (h : contents hp x = some vs) (hb : vs.length ≤ big) : TruR G hp x (!vs.isEmpty) := fun H rx q => by
  obtain ⟨a, ws, m, ho, rs, n1⟩ := lstAt H rx h
  refine wpAny_truthy_list ⟨_, ho, rfl, _, rfl⟩ (by rw [n1]; exact Int.not_le.mp (big63 hb)) ?_
  have e : ws.isEmpty = vs.isEmpty := by rw [← Array.isEmpty_toList, Bool.eq_iff_iff, List.isEmpty_iff_length_eq_zero, List.isEmpty_iff_length_eq_zero, Array.length_toList, n1]
  rw [e]; exact q _ (le2 H.toks)
end

section
open PySem PySem.W PyProof.Rows
set_option linter.unusedVariables false
set_option linter.unusedSimpArgs false
set_option maxRecDepth 100000
variable {G : GI} {n : Nat} {A : Around} {μ μ' : List Addr} {hp hp' : Hp} {s s' : Shared} {Q : PV → Hp → Prop} {v w : Value} {p : PV}
theorem big_ge {a : Nat} (h : a ≤ 4100000) : a ≤ big := by unfold big; omega
theorem big_gt {a : Nat} (h : a ≤ 4100000) : a < big := by unfold big; omega
/-! ## places -/
theorem idx_eq (i : Int) (k : Nat) : seqIndex? i k = idx i k := by
  unfold seqIndex? idx
  by_cases h : 0 ≤ i
  · rw [if_pos h, if_neg (Int.not_lt.mpr h)]
    simp only [h, decide_true, Bool.true_and, decide_eq_true_eq]
  · have h' : i < 0 := Int.not_le.mp h
    rw [if_neg h, if_pos h']
    by_cases h2 : 0 ≤ i + k
    · have : i + (k : Int) < k := by omega
      simp only [h2, this, decide_true, Bool.and_self, if_true]
    · simp only [h2, decide_false, Bool.false_and, if_false, Bool.false_eq_true]
theorem idx_nat {i n : Nat} (h : i < n) : idx (i : Int) n = some i := by
  unfold idx; rw [if_pos (Int.natCast_nonneg _), if_pos (Int.ofNat_lt.mpr h)]; rfl
theorem idx_last (n : Nat) : idx (-1) (n + 1) = some n := by
  unfold idx; rw [if_neg (by decide), if_pos (by omega)]; congr 1; omega
theorem small_nat {a : Nat} (h : a ≤ big) : smallI (a : Int) = true := by
  unfold smallI big at *; rw [decide_eq_true_iff]; omega
/-! ## subscripts -/
/-- x[i] of a text -/
theorem it_str {x : List Nat} {i : Int} {k c : Nat} (hs : smallI i = true) (hk : idx i x.length = some k) (hc : x[k]? = some c) : ItR G hp (.str x) (.int i) (.str [c]) := fun H rx ry q => strE rx fun _ => intE ry fun _ =>
  ⟨⟨_, _, typeIs_str _ _ _, PySem.F.slot_str_getitem.lookup⟩, P.getItem_str (by rw [decide_eq_false (Int.not_lt.mpr (Int.le_of_lt (smallI_iff hs).1)), decide_eq_false (Int.not_le.mpr (smallI_iff hs).2)]; rfl) (by rw [len_eq, idx_eq, hk]; exact (Array.getElem?_toList ▸ hc : x.toArray[k]? = _)) (PE_t1 H rstr q)⟩
theorem it_tup {vs : List PV} {r : PV} {i : Int} {k : Nat} (hs : smallI i = true) (hk : idx i vs.length = some k) (hc : vs[k]? = some r) : ItR G hp (.tuple vs) (.int i) r := fun H rx ry q => intE ry fun _ => by
  obtain ⟨a, ws, ho, rs, hm, n1⟩ := tupAt rx
  obtain ⟨x, hx, rr⟩ := rs.get hc
  exact ⟨⟨_, _, ⟨_, ho, rfl⟩, PySem.F.slot_tuple_getitem.lookup⟩, P.getItem_tuple (n := 0) ho (Int.le_of_lt (smallI_iff hs).1) (smallI_iff hs).2 (by rw [idx_eq, n1]; exact hk) (by rw [← Array.getElem?_toList]; exact hx) (PE_here H rr q)⟩
theorem it_lst {o r : PV} {vs : List PV} {i : Int} {k : Nat} (h : contents hp o = some vs) (hs : smallI i = true) (hk : idx i vs.length = some k) (hc : vs[k]? = some r) : ItR G hp o (.int i) r := fun H rx ry q => intE ry fun _ => by
  obtain ⟨a, ws, m, ho, rs, n1⟩ := lstAt H rx h
  obtain ⟨x, hx, rr⟩ := rs.get hc
  rw [Array.getElem?_toList] at hx
  refine ⟨⟨_, _, ⟨_, ho, rfl⟩, PySem.F.slot_list_getitem.lookup⟩, ?_⟩
  unfold idx at hk
  by_cases h0 : 0 ≤ i
  · rw [if_pos h0] at hk
    refine wpAny_getItem_list ⟨_, ho, rfl, _, rfl⟩ h0 (smallI_iff hs).2 ?_ (PE_here H rr q)
    by_cases h1 : i < vs.length
    · rw [if_pos h1] at hk; cases hk; exact hx
    · rw [if_neg h1] at hk; cases hk
  · rw [if_neg h0] at hk
    by_cases h1 : 0 ≤ i + vs.length
    · rw [if_pos h1] at hk; cases hk
      exact wpAny_getItem_list_neg ⟨_, ho, rfl, _, rfl⟩ (Int.not_le.mp h0) (by rw [n1]; omega) (Int.le_of_lt (smallI_iff hs).1) (by rw [n1]; exact hx) (PE_here H rr q)
    · rw [if_neg h1] at hk; cases hk
theorem item_str {x : List Nat} {i : Nat} (hi : i < x.length) (hb : i ≤ big) : ItR G hp (.str x) (.int i) (.str [x[i]]) := it_str (small_nat hb) (idx_nat hi) (List.getElem?_eq_getElem hi)
theorem item_head {c : Nat} {r : List Nat} : ItR G hp (.str (c :: r)) (.int 0) (.str [c]) := it_str (by decide) (idx_nat (Nat.succ_pos _)) rfl
theorem getLastQ {α : Type} (x : List α) (c : α) : (x ++ [c])[x.length]? = some c := by rw [List.getElem?_append_right (Nat.le_refl _), Nat.sub_self]; rfl
theorem idxLast {α : Type} (x : List α) (c : α) : idx (-1) (x ++ [c]).length = some x.length := by rw [List.length_append]; exact idx_last _
theorem item_strlast {x : List Nat} {c : Nat} : ItR G hp (.str (x ++ [c])) (.int (-1)) (.str [c]) := it_str (by decide) (idxLast x c) (getLastQ x c)
theorem item_last {o : PV} {vs : List PV} {v : PV} (h : contents hp o = some (vs ++ [v])) : ItR G hp o (.int (-1)) v := it_lst h (by decide) (idxLast vs v) (getLastQ vs v)
theorem getMid {α : Type} (P R : List α) (v : α) : (P ++ v :: R)[P.length]? = some v := by rw [List.getElem?_append_right (Nat.le_refl _), Nat.sub_self]; rfl
theorem ltMid {α : Type} (P R : List α) (v : α) : P.length < (P ++ v :: R).length := by rw [List.length_append]; exact Nat.lt_add_of_pos_right (Nat.succ_pos _)
theorem item_at {o : PV} {P R : List PV} {v : PV} {i : Int} (h : contents hp o = some (P ++ v :: R)) (hi : i = P.length) (hb : P.length ≤ big) : ItR G hp o (.int i) v := by
  subst hi; exact it_lst h (small_nat hb) (idx_nat (ltMid P R v)) (getMid P R v)
/-! slices -/
theorem sldef_le (i : Option Int) (n d : Nat) (h : d ≤ n) : sldef i n d ≤ n := by
  unfold sldef
  cases i with
  | none => exact h
  | some i => dsimp only; split <;> split <;> omega
theorem slc_eq {α : Type} (l : List α) (a b : Option Int) : slc l a b = (l.drop (sldef a l.length 0)).take (sldef b l.length l.length - sldef a l.length 0) := by
  unfold slc; rw [List.drop_take]
theorem clip_eq (i : Option Int) (n d : Nat) : (match i with
    | none => (d : Int)
    | some i => max 0 (min (if i < 0 then i + n else i) n)) = (sldef i n d : Int) := by
  unfold sldef
  cases i with
  | none => rfl
  | some i =>
    dsimp only
    split
    · rename_i h
      rw [Int.min_eq_left (show i + (n : Int) ≤ n from by omega)]
      split
      · rename_i h2; exact Int.max_eq_left (Int.le_of_lt h2)
      · rename_i h2; exact (Int.max_eq_right (Int.not_lt.mp h2)).trans (Int.toNat_of_nonneg (Int.not_lt.mp h2)).symm
    · rename_i h
      split
      · rename_i h2; rw [Int.min_eq_right (Int.le_of_lt h2)]; exact Int.max_eq_right (Int.natCast_nonneg _)
      · rename_i h2; rw [Int.min_eq_left (Int.not_lt.mp h2)]; exact (Int.max_eq_right (Int.not_lt.mp h)).trans (Int.toNat_of_nonneg (Int.not_lt.mp h)).symm
theorem sliceRange_eq (lo hi : Nat) : sliceRange lo hi 1 = (List.range (hi - lo)).map fun k => lo + k := by
  unfold sliceRange
  simp only [show ((1 : Int) > 0) = True from by simp, if_true]
  by_cases hlt : (lo : Int) < hi
  · have e3 : (((hi : Int) - lo + 1 - 1) / 1).toNat = hi - lo := by omega
    simp only [hlt, if_true, e3]
    exact List.map_congr_left fun k _ => by omega
  · rw [if_neg hlt, show hi - lo = 0 by omega]; rfl
theorem strSlice_eq (a b : Option Int) (n : Nat) : Builtin.Str.strSliceIndices a b 1 n = (List.range (sldef b n n - sldef a n 0)).map fun k => sldef a n 0 + k := by
  rw [← sliceRange_eq, ← clip_eq a n 0, ← clip_eq b n n]
  cases a <;> cases b <;> rfl
theorem slc_take {α : Type} (l : List α) (a b : Option Int) : ∃ k : Nat, sldef b l.length l.length - sldef a l.length 0 = k ∧ (k = 0 ∨ sldef a l.length 0 + k ≤ l.length) := by
  have h2 := sldef_le b l.length l.length (Nat.le_refl _)
  exact ⟨_, rfl, by omega⟩
theorem slice_pick (l : List Nat) (a b : Option Int) : (Builtin.Str.strSliceIndices a b 1 l.length).filterMap (l.toArray[·]?) = slc l a b := by
  rw [strSlice_eq, slc_eq]
  obtain ⟨k, e, h | h⟩ := slc_take l a b
  · rw [e, h]; rfl
  · rw [e, ← StrLaws.picks l k (sldef a l.length 0) h]; simp
theorem slice_str (l : List Nat) (a b : Option Int) : Txt.slice ⟨l.toArray⟩ a b = ⟨(slc l a b).toArray⟩ := by
  unfold Txt.slice
  rw [len_eq, slice_pick]
  split
  · rename_i h
    have h2 := sldef_le b l.length l.length (Nat.le_refl _)
    have h' : sldef b l.length l.length - sldef a l.length 0 = l.length := by
      have : (Builtin.Str.strSliceIndices a b 1 l.length).length = l.length := by simpa using h
      rwa [strSlice_eq, List.length_map, List.length_range] at this
    rw [slc_eq, h']
    cases l with
    | nil => rw [List.drop_nil, List.take_nil]
    | cons x xs => rw [show sldef a (x :: xs).length 0 = 0 by rw [List.length_cons] at *; omega, List.drop_zero, List.take_length]
  · rfl
theorem slice_list (ws : Array Value) (a b : Option Int) : slicePick ws a b none = (slc ws.toList a b).toArray := by
  have key : sliceBounds a b none ws.size = ((sldef a ws.size 0 : Int), (sldef b ws.size ws.size : Int), 1) := by
    rw [← clip_eq a ws.size 0, ← clip_eq b ws.size ws.size]
    cases a <;> cases b <;> rfl
  unfold slicePick
  rw [key, slc_eq]
  congr 1
  simp only [sliceRange_eq]
  have := pick_run ws (sldef a ws.size 0) (sldef b ws.size ws.size - sldef a ws.size 0)
  simpa using this
theorem RepL.slc {h : Heap} {ps : List PV} {vs : List Value} (a b : Option Int) (r : RepL μ h ps vs) : RepL μ h (slc ps a b) (slc vs a b) := by
  rw [slc_eq, slc_eq, r.length]
  exact (r.drop _).take _
/-- the keeping of what is known, over pushes of new objects -/
structure After (G : GI) (μ : List Addr) (hp : Hp) (s : Shared) (s' : Shared) : Prop where
  hr : HR G μ hp { s' with toks := 1 }
  st : Stp G noOwn μ s μ s'
theorem After.kept : KeptByPush (After G μ hp s) := fun s' o k h => ⟨h.hr.push o, (h.st.trans (Stp.push μ s' o)).trans (Stp.toks μ _ k)⟩
theorem After.start (H : HR G μ hp s) : After G μ hp s s := ⟨H.tok (Nat.le_refl 1), Stp.refl _ _⟩
/-- a bound of a slice -/
inductive Bnd : PV → Option Int → Prop
  | none : Bnd .none none
  | int (i : Int) : Bnd (.int i) (some i)
theorem Bnd.part {h : Heap} {b : Option Int} (x : Bnd p b) (r : Rep μ h p v) : IsPart v b ∧ ∃ b' : Option (Int × Tok), b = b'.map (·.1) ∧ v = partValue b' := by
  cases x with
  | none => cases (show v = .none from r); exact ⟨.none, Option.none, rfl, rfl⟩
  | int i => exact intE r fun t => ⟨.int _ _, some (i, t), rfl, rfl⟩
theorem sl_str {x : List Nat} {a b : PV} {a' b' : Option Int} (ha : Bnd a a') (hb : Bnd b b') (hx : x.length ≤ big) : SlR G hp (.str x) a b (.str (slc x a' b')) := fun {A μ s vo vx vy Q} H ro rx ry q => strE ro fun t => by
  have P := After.kept s (slO vx vy) s.toks (After.start H)
  obtain ⟨_, c, rfl, rfl⟩ := ha.part rx
  obtain ⟨_, d, rfl, rfl⟩ := hb.part ry
  refine ⟨⟨_, _, typeIs_str _ _ _, PySem.F.slot_str_getitem.lookup⟩, ?_⟩
  have fin : ∀ s' t', After G μ hp s s' → 1 ≤ s'.toks → PE G μ s Q (.str (Txt.slice ⟨x.toArray⟩ (c.map (·.1)) (d.map (·.1))) t') s' := fun s' t' h hk => ⟨_, hp, μ, q, rstr' (slice_str ..), h.hr.tok hk, h.st⟩
  refine wtk (s := { s with heap := s.heap.push (slO (partValue c) (partValue d)) }) H.toks ?_
  cases c with
  | none => cases d with
    | none => exact (SBG.sliceItem_nn After.kept (After.start H) fin (str_fits hx)).choose_spec.choose_spec.2.2
    | some d => exact (SBG.sliceItem_ns After.kept (After.start H) fin (str_fits hx)).choose_spec.choose_spec.2.2
  | some c => cases d with
    | none => exact (SBG.sliceItem_sn After.kept (After.start H) fin (str_fits hx)).choose_spec.choose_spec.2.2
    | some d => exact (SBG.sliceItem_ss After.kept (After.start H) fin (str_fits hx)).choose_spec.choose_spec.2.2
theorem slice_cont {o : PV} {vs : List PV} {a b : PV} {a' b' : Option Int} (h : contents hp o = some vs) (ha : Bnd a a') (hb : Bnd b b') (hx : vs.length ≤ big) : SlR G hp o a b (.list (slc vs a' b')) := fun {A μ s vo vx vy Q} H ro rx ry q => by
  obtain ⟨p1, _⟩ := ha.part rx
  obtain ⟨p2, _⟩ := hb.part ry
  obtain ⟨ad, ws, m, ho, rs, n1⟩ := lstAt H ro h
  have ho' := Heap.get?_push_of_some (slO vx vy) ho
  refine ⟨⟨_, _, ⟨_, ho', rfl⟩, PySem.F.slot_list_getitem.lookup⟩, wpAny_getItem_list_slice ⟨_, ho', rfl, _, rfl⟩ (Heap.IsSliceOf.new _ _ _ _) p1 p2 .none (fun e => nomatch e) ?_ (big_fits (n1 ▸ hx))⟩
  obtain ⟨pv, hp', μ', k1, k2, k3, k4⟩ := PE_list (Q := Q) (ws := slicePick ws a' b' none) (vs := slc vs a' b') (H.push (slO vx vy)) (by rw [slice_list]; exact (rs.slc a' b').push _) q
  exact ⟨pv, hp', μ', k1, k2, k3, (Stp.push μ s _).trans k4⟩
/-! slices by places that are no less than 0 -/
theorem sldef_min (a n d : Nat) : sldef (some (a : Int)) n d = min a n := by
  unfold sldef
  simp only []
  rw [if_neg (Int.not_lt.mpr (Int.natCast_nonneg _))]
  split
  · rename_i h; exact (Nat.min_eq_right (Nat.le_of_lt (Int.ofNat_lt.mp h))).symm
  · rename_i h; exact (Nat.min_eq_left (Int.ofNat_le.mp (Int.not_lt.mp h))).symm
theorem take_min {α : Type} (x : List α) (b : Nat) : x.take (min b x.length) = x.take b := by
  rcases Nat.le_total b x.length with h | h
  · rw [Nat.min_eq_left h]
  · rw [Nat.min_eq_right h, List.take_length, List.take_of_length_le h]
theorem drop_min {α : Type} (x : List α) {y : List α} (a : Nat) (h : y.length ≤ x.length) : y.drop (min a x.length) = y.drop a := by
  rcases Nat.le_total a x.length with h' | h'
  · rw [Nat.min_eq_left h']
  · rw [Nat.min_eq_right h', List.drop_eq_nil_of_le h, List.drop_eq_nil_of_le (Nat.le_trans h h')]
theorem slc_any {α : Type} {x : List α} (a b : Nat) : slc x (some (a : Int)) (some (b : Int)) = (x.take b).drop a := by
  show (x.take (sldef _ _ _)).drop (sldef _ _ _) = _
  rw [sldef_min, sldef_min, take_min, drop_min x a (List.length_take_le' _ _)]
theorem slc_fromA {α : Type} {x : List α} (a : Nat) : slc x (some (a : Int)) none = x.drop a := by
  show (x.take x.length).drop (sldef _ _ _) = _
  rw [sldef_min, List.take_length, drop_min x a (Nat.le_refl _)]
theorem slc_toA {α : Type} {x : List α} (b : Nat) : slc x none (some (b : Int)) = x.take b := by
  show (x.take (sldef _ _ _)).drop 0 = _
  rw [sldef_min, take_min, List.drop_zero]
variable {x : List Nat}
theorem slice_any {a b : Nat} (hx : x.length ≤ big) : SlR G hp (.str x) (.int a) (.int b) (.str ((x.take b).drop a)) := slc_any (x := x) a b ▸ sl_str (.int _) (.int _) hx
theorem slice_from {a : Nat} (hx : x.length ≤ big) : SlR G hp (.str x) (.int a) .none (.str (x.drop a)) := slc_fromA (x := x) a ▸ sl_str (.int _) .none hx
theorem slice_tail {c : Nat} {r : List Nat} (h : (c :: r).length ≤ big) : SlR G hp (.str (c :: r)) (.int 1) .none (.str r) := slice_from (a := 1) h
theorem slc_init {α : Type} (x : List α) (c : α) : slc (x ++ [c]) none (some (-1)) = x := by
  have e : sldef (some (-1)) (x ++ [c]).length (x ++ [c]).length = x.length := by
    unfold sldef
    simp only []
    rw [List.length_append, List.length_singleton, if_pos (by decide), if_neg (by omega)]
    omega
  show ((x ++ [c]).take (sldef _ _ _)).drop 0 = x
  rw [e, List.drop_zero, List.take_left']; rfl
theorem slice_init {c : Nat} (h : (x ++ [c]).length ≤ big) : SlR G hp (.str (x ++ [c])) .none (.int (-1)) (.str x) := (congrArg (fun y => SlR G hp (.str (x ++ [c])) .none (.int (-1)) (.str y)) (slc_init x c)).mp (sl_str .none (.int (-1)) h)
/-! ## functions -/
@[elab_as_elim] theorem RepL.one_inv {h : Heap} {q : PV} {vs : List Value} {C : List Value → Prop} (r : RepL μ h [q] vs) (k : ∀ w, Rep μ h q w → C [w]) : C vs := by
  obtain ⟨w, _, rfl, r0, rfl⟩ := r; exact k w r0
@[elab_as_elim] theorem RepL.two_inv {h : Heap} {q q' : PV} {vs : List Value} {C : List Value → Prop} (r : RepL μ h [q, q'] vs) (k : ∀ w w', Rep μ h q w → Rep μ h q' w' → C [w, w']) : C vs := by
  obtain ⟨w, _, rfl, r0, w', _, rfl, r1, rfl⟩ := r; exact k w w' r0 r1
@[elab_as_elim] theorem RepL.three_inv {h : Heap} {q q' q2 : PV} {vs : List Value} {C : List Value → Prop} (r : RepL μ h [q, q', q2] vs) (k : ∀ w w' w2, Rep μ h q w → Rep μ h q' w' → Rep μ h q2 w2 → C [w, w', w2]) : C vs := by
  obtain ⟨w, _, rfl, r0, w', _, rfl, r1, w2, _, rfl, r2, rfl⟩ := r; exact k w w' w2 r0 r1 r2
theorem d_len (h : x.length ≤ big) : BltR G (.builtin "len") hp [.str x] (.int x.length) := fun R H ra q => RepL.one_inv ra fun w r0 => strE r0 fun t =>
  PySem.P.len_str (by rw [len_eq]; exact big63 h) (by rw [len_eq]; exact PE_t2 H rint q)
theorem len_cont {o : PV} {vs : List PV} (h : contents hp o = some vs) (hb : vs.length ≤ big) : BltR G (.builtin "len") hp [o] (.int vs.length) := fun R H ra q => RepL.one_inv ra fun w r0 => by
  obtain ⟨a, ws, m, ho, rs, n1⟩ := lstAt H r0 h
  refine Calls.call_len_list ⟨_, ho, rfl, m, rfl⟩ (by rw [n1]; exact Int.not_le.mp (big63 hb)) ?_
  rw [n1]; exact PE_t2 H rint q
theorem chr_at {i : Int} (h0 : 0 ≤ i) (h1 : i ≤ 1114111) : BltR G (.builtin "chr") hp [.int i] (.str [i.toNat]) := fun R H ra q => RepL.one_inv ra fun w r0 => intE r0 fun t =>
  PySem.P.chr_of_int (by rw [decide_eq_false (Int.not_lt.mpr h0), decide_eq_false (Int.not_lt.mpr h1)]; rfl) (PE_t1 H rstr q)
theorem PE_range {a b c : Int} {ta tb tc : Tok} {k : Nat} (H : HR G μ hp s) (hk : 1 ≤ k) (q : Q (.range a b c) hp) :
    PE G μ s Q (.ref s.heap.objs.size) { s with heap := s.heap.push { cls := .type "range", data := .fields #[.int a ta, .int b tb, .int c tc] }, toks := k } :=
  ⟨.range a b c, hp, μ, q, ⟨_, ta, tb, tc, rfl, Heap.get?_push_size _ rfl⟩, (H.push _).tok hk, (Stp.push _ _ _).trans (Stp.toks _ _ _)⟩
theorem rng_iff {a b c : Int} (h : rngOk a b c = true) : (-(2 : Int) ^ 40 < a ∧ a < (2 : Int) ^ 40) ∧ (-(2 : Int) ^ 40 < b ∧ b < (2 : Int) ^ 40) ∧ (c = 1 ∨ c = -1) := by
  simp only [rngOk, tinyI, Bool.and_eq_true, Bool.or_eq_true, beq_iff_eq, decide_eq_true_eq] at h
  exact ⟨h.1.1, h.1.2, h.2⟩
theorem range_3 {a b c : Int} (h : c = 1 ∨ c = -1) : BltR G (.type "range") hp [.int a, .int b, .int c] (.range a b c) := fun R H ra q => RepL.three_inv ra fun w w' w2 r0 r1 r2 => intE r0 fun _ => intE r1 fun _ => intE r2 fun _ =>
  call_range_3 (h.elim (fun e => e ▸ by decide) fun e => e ▸ by decide) (PE_range H H.toks q) (.inl (pylong_small (h.elim (fun e => e ▸ by decide) fun e => e ▸ by decide)))
theorem rangeSize_eq {a b c : Int} (h : c = 1 ∨ c = -1) : Builtin.Range.rangeSize a b c = ((rangeL a b c).length : Nat) := by
  unfold Builtin.Range.rangeSize rangeL
  rw [List.length_map, List.length_range]
  rcases h with rfl | rfl
  · simp only [show (1 : Int) > 0 by decide, if_true, Int.ediv_one]
    split <;> omega
  · have e : ¬ ((-1 : Int) > 0) := by decide
    have e' : ¬ ((0 : Int) < -1) := by decide
    simp only [if_neg e, if_neg e', show -(-1 : Int) = 1 by decide, Int.ediv_one]
    split <;> omega
theorem range_small {a b c : Int} (h : rngOk a b c = true) : Builtin.Range.small a b c = true := by
  obtain ⟨h1, h2, h3⟩ := rng_iff h
  unfold Builtin.Range.small
  rw [rangeSize_eq h3]
  have hl : (rangeL a b c).length ≤ 2 ^ 41 := by
    unfold rangeL
    rw [List.length_map, List.length_range]
    split <;> omega
  have hb : ∀ x : Int, -(2 : Int) ^ 40 < x ∧ x < (2 : Int) ^ 40 → -9223372036854775808 ≤ x ∧ x < 9223372036854775808 := fun x h => by omega
  have h1 := hb a h1
  have h2 := hb b h2
  have hn : ((rangeL a b c).length : Int) < 9223372036854775808 := by omega
  rcases h3 with rfl | rfl <;> (simp [Builtin.Range.rangeFitsLong]; exact ⟨⟨⟨h1, h2⟩, hn⟩, .inr h2⟩)
/-! object() -/
theorem mro_object' : mroOf (.type "object") = pure [.type "object"] := by rw [mroOf_type]; kernel_rfl
theorem lookup_object_new : typeLookup (.type "object") "__new__" = pure (some (.builtin "object.__new__")) := by rw [typeLookup_type, builtinLookup_eq_fast]; kernel_rfl
theorem called_object : TypeCalled "object" "object.__new__" "object.__init__" :=
  ⟨by decide +kernel, by decide +kernel, ⟨_, _, mro_object'⟩, madeBy_type mro_object' lookup_object_new (by decide +kernel), by decide +kernel, by rw [isSubtype_type]; kernel_rfl, F.slot_object_init⟩
theorem typeCall_object : checkTypeCall "object" ⟨[], []⟩ = pure () := by kernel_rfl
theorem newCall_object : checkBuiltinCall "object.__new__" ⟨[.type "object"], []⟩ = pure () := by kernel_rfl
theorem madeHere_object : Bind.madeHere "object.__new__" (.type "object") = pure () := by
  unfold Bind.madeHere
  have e : Bind.staticBase (.type "object") = pure (.type "object") := by first | rfl | kernel_rfl
  rw [e]
  simp only [pure_bind, called_object.made]
  first | rfl | kernel_rfl | (simp; rfl)
theorem meets_object_new : Meets (Builtin.«object.__new__» ⟨[.type "object"], []⟩) (fun _ R s => R (.ok (.ret (.ref s.heap.objs.size))) { s with heap := s.heap.push objO }) :=
  .of_wp fun prog w A R s h => by
    have hmh := madeHere_object
    unfold Builtin.«object.__new__»
    obtain ⟨hp, g, d, tk, os⟩ := s
    wp_walk
    exact ⟨_, rfl, h⟩
theorem object_init1 {T newId : String} {self : Value} (hl : typeLookup (.type T) "__init__" = pure (some (.builtin "object.__init__"))) :
    Meets (Builtin.«object.__init__» ⟨[self], []⟩) (fun _ R s => s.TypeIs self T ∧ R (.ok (.ret .none)) s) := by
  refine Meets.of_wp fun prog w A R s hs => ?_
  obtain ⟨hT, hq⟩ := hs
  exact wpAny_pure ⟨_, rfl, hq⟩
theorem PE_new {o : Obj} {m : MO} (hb : G.h0.objs.size ≤ s.heap.objs.size) (H : HR G μ hp s) (hO : ObjR (μ ++ [s.heap.objs.size]) (s.heap.push o) s.heap.objs.size m) (q : Q (.ref hp.length) (hp ++ [m])) : PE G μ s Q (.ref s.heap.objs.size) { s with heap := s.heap.push o } :=
  ⟨.ref hp.length, hp ++ [m], _, q, ⟨_, rfl, by rw [← H.len]; exact getLastQ _ _⟩, H.track hb hO, Stp.track _ _ _⟩
theorem op_object (hb : G.h0.objs.size ≤ s.heap.objs.size) (H : HR G μ hp s) (q : Q (.ref hp.length) (hp ++ [.obj])) : wpAny G.M A (call (.type "object") []) (PE G μ s Q) noE s := by
  refine callType_meets (Q₁ := fun obj s₁ => obj = .ref s.heap.objs.size ∧ s₁ = { s with heap := s.heap.push objO }) called_object typeCall_object newCall_object F.entry_object_new F.entry_object_init meets_object_new ⟨rfl, rfl⟩ fun obj s₁ h₁ => ?_
  obtain ⟨rfl, rfl⟩ := h₁
  have hT : ({ s with heap := s.heap.push objO } : Shared).TypeIs (.ref s.heap.objs.size) "object" := ⟨_, Heap.get?_push_size _ rfl, rfl⟩
  exact ⟨hT, F.args_object_init_1 _, _, object_init1 (T := "object") (newId := "object.__new__") F.slot_object_init.lookup, hT, rfl, PE_new (m := .obj) hb H (Heap.get?_push_size _ rfl) q⟩
/-! isinstance -/
theorem isa_str_str : IsaR G "str" hp (.str x) true := fun H r q => strE r fun _ => IsiPair.str_str (PE_here H rbool q)
theorem isa_str_list : IsaR G "list" hp (.str x) false := fun H r q => strE r fun _ => IsiPair.str_list (PE_t1 H rbool q)
theorem isa_list {o : PV} {vs : List PV} (h : contents hp o = some vs) : IsaR G "list" hp o true := fun H r q => by
  obtain ⟨a, ws, m, ho, _⟩ := lstAt H r h
  exact IsiPair.list_list ho rfl (PE_here H rbool q)
end

section
open PySem PySem.W PyProof.Rows
open Sem (wp)
set_option linter.unusedVariables false
set_option linter.unusedSimpArgs false
set_option maxRecDepth 100000
variable {G : GI} {n : Nat} {A : Around} {μ : List Addr} {hp : Hp} {s : Shared} {Q : PV → Hp → Prop} {v w : Value}
/-! a tracked list is changed -/
theorem updKeep {h : Heap} {a : Addr} {f : Obj → Obj} {b : Addr} {o : Obj} (hb : a ≠ b) (e : h.get? b = some o) : (h.update a f).get? b = some o := by rw [Heap.get?_update_other _ _ hb]; exact e
theorem HR.upd {j : Nat} {a : Addr} {vs' : List PV} {ws ws' : Array Value} {m : Nat} {f : Array Value → Array Value} (H : HR G μ hp s) (hm : μ[j]? = some a) 
    (ho : s.heap.get? a = some (lstO ws m)) (hf : f ws = ws') (r : RepL μ s.heap vs' ws'.toList) : PH G μ s (hp.set j (.list vs')) { s with heap := s.heap.update a (Obj.mapSeq f) } := by
  have hin : a ∈ μ := List.mem_of_getElem? hm
  obtain ⟨m', here⟩ : ∃ m', (s.heap.update a (Obj.mapSeq f)).get? a = some (lstO ws' m') := ⟨_, by subst hf; exact IsL.update (n := m) ho f⟩
  have vk : VKeep μ s.heap (s.heap.update a (Obj.mapSeq f)) := fun b o e hv hl => updKeep (by rintro rfl; rw [ho] at e; cases e; exact hl (.inl rfl) hin) e
  refine ⟨⟨fun b o e => updKeep (by rintro rfl; exact absurd (Heap.lt_size e) (Nat.not_lt.mpr (H.low _ hin))) (H.base b o e), ?_, H.os, H.gens, H.toks, H.nodup, by rw [List.length_set]; exact H.len, H.low, fun i b x h1 h2 => ?_⟩, ?_⟩
  · obtain ⟨ps, e, ht, hc⟩ := H.tab
    refine ⟨ps, updKeep (H.notP ho (.inr fun _ q => nomatch q)) e, ht, fun pos c hp' => ?_⟩
    obtain ⟨c', o', q1, q2, q3, vs, q, t, q4, q5⟩ := hc pos c hp'
    exact ⟨c', o', q1, updKeep (by rintro rfl; rw [ho] at q2; cases q2; cases q4) q2, q3, vs, q, t, q4, q5⟩
  · by_cases e : j = i
    · subst e
      rw [hm] at h1; cases h1
      rw [List.getElem?_set_self' ] at h2
      obtain ⟨_, _, rfl⟩ := Option.map_eq_some_iff.mp h2
      exact ⟨ws', m', here, r.mono vk (Grow.refl _ _)⟩
    · rw [List.getElem?_set_ne e] at h2
      exact (H.obj i b x h1 h2).kept (fun o q _ => updKeep (fun q => e (H.inj (q ▸ hm) h1)) q) fun r => r.mono vk (Grow.refl _ _)
  · exact .of (fun b o e h1 _ _ => updKeep (fun q => h1 (q ▸ hin)) e) (Grow.refl _ _) fun b o e => by
      by_cases q : a = b
      · subst q; exact ⟨_, here⟩
      · exact ⟨o, updKeep q e⟩
theorem PE_upd {j : Nat} {a : Addr} {vs' : List PV} {ws ws' : Array Value} {m : Nat} {f : Array Value → Array Value} {r : PV} (H : HR G μ hp s) (hm : μ[j]? = some a)
    (ho : s.heap.get? a = some (lstO ws m)) (hf : f ws = ws') (rr : RepL μ s.heap vs' ws'.toList) (rv : Rep μ s.heap r v) (q : Q r (hp.set j (.list vs'))) :
    PE G μ s Q v { s with heap := s.heap.update a (Obj.mapSeq f) } := by
  obtain ⟨h1, h2⟩ := H.upd hm ho hf rr
  exact ⟨r, _, μ, q, H.rep h2 rv, h1, h2⟩
theorem RepL.set {h : Heap} : ∀ {ps : List PV} {vs : List Value} {p : PV} {v : Value} (k : Nat), RepL μ h ps vs → Rep μ h p v → RepL μ h (ps.set k p) (vs.set k v)
  | [], _, _, _, k, e, r => by simp only [RepL] at e; subst e; simp [RepL]
  | _ :: ps, _, _, _, 0, e, r => by
      simp only [RepL] at e
      obtain ⟨w, wr, rfl, _, rs⟩ := e
      exact ⟨_, wr, rfl, r, rs⟩
  | _ :: ps, _, _, _, k + 1, e, r => by
      simp only [RepL] at e
      obtain ⟨w, wr, rfl, r0, rs⟩ := e
      exact ⟨_, _, rfl, r0, RepL.set k rs r⟩
theorem RepL.eraseIdx {h : Heap} : ∀ {ps : List PV} {vs : List Value} (k : Nat), RepL μ h ps vs → RepL μ h (ps.eraseIdx k) (vs.eraseIdx k)
  | [], _, k, e => by simp only [RepL] at e; subst e; simp [RepL]
  | _ :: ps, _, 0, e => by
      simp only [RepL] at e
      obtain ⟨w, wr, rfl, _, rs⟩ := e
      simpa using rs
  | _ :: ps, _, k + 1, e => by
      simp only [RepL] at e
      obtain ⟨w, wr, rfl, r0, rs⟩ := e
      exact ⟨_, _, rfl, r0, RepL.eraseIdx k rs⟩
theorem RepL.dropLast {h : Heap} {ps : List PV} {vs : List Value} (r : RepL μ h ps vs) : RepL μ h ps.dropLast vs.dropLast := by
  rw [List.dropLast_eq_take, List.dropLast_eq_take, r.length]; exact r.take _
theorem small_fits {i : Int} (hs : smallI i = true) : Builtin.List.listFitsIndex i = true := by
  have := smallI_iff hs
  simp [Builtin.List.listFitsIndex]; omega
theorem erase_eq {α : Type} (ws : Array α) (k : Nat) : (ws.eraseIdxIfInBounds k).toList = ws.toList.eraseIdx k := by
  unfold Array.eraseIdxIfInBounds
  split
  · simp
  · rename_i hh
    rw [List.eraseIdx_of_length_le]
    simpa using hh
theorem del_lst {j : Nat} {vs : List PV} {i : Int} {k : Nat} (h : hp[j]? = some (.list vs)) (hs : smallI i = true) (hk : idx i vs.length = some k) (hb : vs.length ≤ big) : DelR G hp (.ref j) (.int i) (hp.set j (.list (vs.eraseIdx k))) := fun H ro ri => intE ri fun _ => by
  obtain ⟨a, ws, m, hm, ho, rs, n1⟩ := refAt H ro h
  exact PySem.P.delItem_list (n := m) (k := k) ho (small_fits hs) (by rw [idx_eq, n1]; exact hk) (H.upd (f := fun xs => xs.eraseIdxIfInBounds k) hm ho rfl (by rw [erase_eq]; exact rs.eraseIdx k)) (big_fits (n1 ▸ hb))
theorem list_setitem_pos (l : Addr) (items : Array Value) (n : Nat) (i : Int) (u : Tok) (v : Value) (k : Nat) (hfit : Builtin.List.listFitsIndex i = true) (hk : seqIndex? i items.size = some k) (hlt : k < items.size) (hs1 : items.size ≤ sizeLine) (h0 : 0 ≤ i) :
    Meets (Builtin.«list.__setitem__» ⟨[.ref l, .int i u, v], []⟩)
      (fun _ R s => s.heap.get? l = some { cls := .type "list", dict := none, data := .seq items n, slots := #[] } ∧ R (.ok (.ret .none)) { s with heap := s.heap.update l (Obj.mapSeq fun xs => xs.setIfInBounds k v) }) :=
  .of_wp fun prog w A R s h => by
    obtain ⟨ho, h⟩ := h
    have hd : ({ cls := .type "list", dict := none, data := .seq items n, slots := #[] } : Obj).data = .seq items n := rfl
    show wpAny _ _ (Builtin.List.listSubscript? (.int i u) >>= _) _ _ s
    refine wpAny_bind (wpAny_listSubscript_int hfit ?_)
    have hx' : items[k]? = some items[k] := Array.getElem?_eq_getElem hlt
    clear hfit
    obtain ⟨j, rfl⟩ := Int.eq_ofNat_of_zero_le h0
    have hj : k = j := by
      rw [idx_eq] at hk
      unfold idx at hk
      rw [if_pos h0] at hk
      split at hk
      · simp at hk; exact hk.symm
      · cases hk
    subst hj
    show wpAny _ _ ((seqItemAt l k >>= fun r => pure (r.map (k, ·))) >>= _) _ _ s
    refine wpAny_bind (wpAny_bind (wpAny_seqItemAt ho hd (wpAny_pure ?_)))
    rw [hx']
    show wpAny _ _ (setSeqItemAt l k v >>= _) _ _ s
    refine wpAny_bind (wpAny_setSeqItemAt ho hd ?_)
    first
      | exact wpAny_bind (wpAny_pure (wpAny_pure ⟨_, rfl, h⟩))
      | exact wpAny_pure ⟨_, rfl, h⟩
theorem list_setitem_neg (l : Addr) (items : Array Value) (n : Nat) (i : Int) (u : Tok) (v : Value) (k : Nat) (hfit : Builtin.List.listFitsIndex i = true) (hk : seqIndex? i items.size = some k) (hlt : k < items.size) (hs1 : items.size ≤ sizeLine) (h0 : i < 0) :
    Meets (Builtin.«list.__setitem__» ⟨[.ref l, .int i u, v], []⟩)
      (fun _ R s => s.heap.get? l = some { cls := .type "list", dict := none, data := .seq items n, slots := #[] } ∧ R (.ok (.ret .none)) { s with heap := s.heap.update l (Obj.mapSeq fun xs => xs.setIfInBounds k v) }) :=
  .of_wp fun prog w A R s h => by
    obtain ⟨ho, h⟩ := h
    have hd : ({ cls := .type "list", dict := none, data := .seq items n, slots := #[] } : Obj).data = .seq items n := rfl
    show wpAny _ _ (Builtin.List.listSubscript? (.int i u) >>= _) _ _ s
    refine wpAny_bind (wpAny_listSubscript_int hfit ?_)
    have hx' : items[k]? = some items[k] := Array.getElem?_eq_getElem hlt
    clear hfit
    obtain ⟨j, rfl⟩ := Int.eq_negSucc_of_lt_zero h0
    show wpAny _ _ ((Builtin.List.listItems (.ref l) >>= fun xs => pure ((seqIndex? (Int.negSucc j) xs.size).bind fun j => xs[j]?.map (j, ·))) >>= _) _ _ s
    refine wpAny_bind (wpAny_bind ?_)
    unfold Builtin.List.listItems
    refine wpAny_bind (wpAny_seqItems ho hd (wpAny_pure ?_))
    simp only [hk, hx', Option.bind_some, Option.map_some]
    refine wpAny_pure ?_
    show wpAny _ _ (setSeqItemAt l k v >>= _) _ _ s
    refine wpAny_bind (wpAny_setSeqItemAt ho hd ?_)
    first
      | exact wpAny_bind (wpAny_pure (wpAny_pure ⟨_, rfl, h⟩))
      | exact wpAny_pure ⟨_, rfl, h⟩
theorem idx_lt {i : Int} {n k : Nat} (h : idx i n = some k) : k < n := by
  unfold idx at h
  split at h
  · split at h
    · cases h; omega
    · cases h
  · split at h
    · cases h; omega
    · cases h
theorem sto_lst {j : Nat} {vs : List PV} {i : Int} {k : Nat} {x : PV} (h : hp[j]? = some (.list vs)) (hs : smallI i = true) (hk : idx i vs.length = some k) (hb : vs.length ≤ big) : StoR G hp (.ref j) (.int i) x (hp.set j (.list (vs.set k x))) := fun {A μ s v w y} H ro ri rx => intE ri fun u => by
  obtain ⟨a, ws, m, hm, ho, rs, n1⟩ := refAt H ro h
  have hk' : seqIndex? i ws.size = some k := by rw [idx_eq, n1]; exact hk
  have hlt : k < ws.size := by rw [n1]; exact idx_lt hk
  have fin := H.upd (f := fun xs => xs.setIfInBounds k y) hm ho rfl (vs' := vs.set k x) (by rw [Array.toList_setIfInBounds]; exact rs.set k rx)
  unfold setItem
  try with_reducible refine wpAny_holding ?_
  first | refine wpAny_bind (wpAny_pure ?_) | skip
  have hT : s.TypeIs (.ref a) "list" := ⟨_, ho, rfl⟩
  refine wpAny_bind (wpAny_sequenceKey hT (by decide) (wpAny_bind (wpAny_callSpecial?_slot (name := Str.ofString "__setitem__") hT slot_list_setitem ?_)))
  rcases Int.lt_or_le i 0 with h0 | h0
  · exact call_meets slot_list_setitem hT entry_list_setitem (args_list_setitem _ _ _) (list_setitem_neg a ws m i u y k (small_fits hs) hk' hlt (big_fits (n1 ▸ hb)) h0) ⟨ho, wpAny_pure fin⟩
  · exact call_meets slot_list_setitem hT entry_list_setitem (args_list_setitem _ _ _) (list_setitem_pos a ws m i u y k (small_fits hs) hk' hlt (big_fits (n1 ▸ hb)) h0) ⟨ho, wpAny_pure fin⟩
theorem set_mid {α : Type} (P R : List α) (v w : α) : (P ++ v :: R).set P.length w = P ++ w :: R := by rw [List.set_append_right _ _ (Nat.le_refl _), Nat.sub_self]; rfl
theorem erase_mid {α : Type} (P R : List α) (v : α) : (P ++ v :: R).eraseIdx P.length = P ++ R := by rw [List.eraseIdx_append_of_length_le (Nat.le_refl _), Nat.sub_self]; rfl
theorem le_mid {α : Type} {P R : List α} {v : α} (hb : (P ++ v :: R).length ≤ big) : P.length ≤ big := Nat.le_trans (Nat.le_of_lt (ltMid P R v)) hb
theorem store_at {j : Nat} {P R : List PV} {v w : PV} {i : Int} (h : hp[j]? = some (.list (P ++ v :: R))) (hi : i = P.length) (hb : (P ++ v :: R).length ≤ big) : StoR G hp (.ref j) (.int i) w (hp.set j (.list (P ++ w :: R))) := by
  subst hi; rw [← set_mid P R v w]; exact sto_lst h (small_nat (le_mid hb)) (idx_nat (ltMid P R v)) hb
theorem store_last {j : Nat} {P : List PV} {v w : PV} (h : hp[j]? = some (.list (P ++ [v]))) (hb : (P ++ [v]).length ≤ big) : StoR G hp (.ref j) (.int (-1)) w (hp.set j (.list (P ++ [w]))) := by
  rw [← set_mid P [] v w]; exact sto_lst h (by decide) (idxLast P v) hb
theorem del_at {j : Nat} {P R : List PV} {v : PV} {i : Int} (h : hp[j]? = some (.list (P ++ v :: R))) (hi : i = P.length) (hb : (P ++ v :: R).length ≤ big) : DelR G hp (.ref j) (.int i) (hp.set j (.list (P ++ R))) := by
  subst hi; rw [← erase_mid P R v]; exact del_lst h (small_nat (le_mid hb)) (idx_nat (ltMid P R v)) hb
/-! ## texts -/
section
open Builtin Builtin.Str
theorem at_one (l : List Nat) (c hi i : Nat) : StrLaws.At ⟨l.toArray⟩ ⟨#[c]⟩ hi i ↔ i < hi ∧ l[i]? = some c := by
  unfold StrLaws.At
  have := StrLaws.subAt_one ⟨l.toArray⟩ c i
  have e : (⟨#[c]⟩ : Str).length = 1 := rfl
  have e2 : (⟨l.toArray⟩ : Str).length = l.length := by simp [Str.length]
  simp only [e, e2] at this ⊢
  constructor
  · rintro ⟨h1, h2⟩
    refine ⟨h1, ?_⟩
    rcases Nat.lt_or_ge i l.length with q | q
    · exact this.mp ⟨q, h2⟩
    · exfalso
      rw [StrLaws.subAt_eq] at h2
      simp at h2
      rw [List.drop_of_length_le q] at h2
      simp [Str.length] at h2
  · rintro ⟨h1, h2⟩
    exact ⟨h1, (this.mpr h2).2⟩
theorem occ_findC (l : List Nat) (c lo hi : Nat) : (match occurrences ⟨l.toArray⟩ ⟨#[c]⟩ lo hi 1 with | k :: _ => (k : Int) | [] => -1) = findC (l.take hi) c lo := by
  have none_case : (∀ i, lo ≤ i → i < hi → l[i]? ≠ some c) → findC (l.take hi) c lo = -1 := by
    intro h
    unfold findC
    have : ((l.take hi).drop lo).findIdx? (· == c) = none := by
      rw [List.findIdx?_eq_none_iff]
      intro x hx
      obtain ⟨k, hk⟩ := List.getElem?_of_mem hx
      rw [List.getElem?_drop] at hk
      rcases Nat.lt_or_ge (lo + k) hi with q | q
      · rw [List.getElem?_take_of_lt q] at hk
        have := h _ (Nat.le_add_right _ _) q
        rw [hk] at this
        simpa using this
      · rw [List.getElem?_take_eq_none q] at hk; cases hk
    rw [this]
  have some_case : ∀ i, lo ≤ i → i < hi → l[i]? = some c → (∀ k, lo ≤ k → k < i → l[k]? ≠ some c) → findC (l.take hi) c lo = (i : Int) := by
    intro i h1 h2 h3 h4
    unfold findC
    have hlen : i < l.length := (List.getElem?_eq_some_iff.mp h3).1
    have : ((l.take hi).drop lo).findIdx? (· == c) = some (i - lo) := by
      rw [List.findIdx?_eq_some_iff_getElem]
      refine ⟨by rw [List.length_drop, List.length_take]; exact Nat.sub_lt_sub_right h1 (Nat.lt_min.mpr ⟨h2, hlen⟩), ?_, fun k hk => ?_⟩
      · simp only [List.getElem_drop, List.getElem_take, beq_iff_eq]
        have e : lo + (i - lo) = i := Nat.add_sub_cancel' h1
        have := List.getElem?_eq_some_iff.mp h3
        obtain ⟨_, q⟩ := this
        simp only [e]; exact q
      · simp only [List.getElem_drop, List.getElem_take, beq_iff_eq]
        intro q
        refine h4 (lo + k) (Nat.le_add_right ..) (Nat.add_lt_of_lt_sub' hk) ?_
        rw [List.getElem?_eq_getElem (Nat.lt_trans (Nat.add_lt_of_lt_sub' hk) hlen), q]
    rw [this]
    simp only []
    rw [Nat.add_sub_cancel' h1]
  rw [StrLaws.occ_eq]
  rcases StrLaws.occ_first ⟨l.toArray⟩ ⟨#[c]⟩ hi 1 (Nat.le_refl 1) (List.range' lo (hi + 1 - lo)) lo (fun i hi => by have := List.mem_range'_1.mp hi; omega) with ⟨h0, hn⟩ | ⟨pre, a, post, e, h0, ha, hn⟩
  · rw [h0]
    rw [none_case]
    intro i h1 h2 h3
    exact hn i (by rw [List.mem_range'_1]; omega) ((at_one l c hi i).mpr ⟨h2, h3⟩)
  · have hs := StrLaws.range'_split_from e
    obtain ⟨a1, a2⟩ := (at_one l c hi a).mp ha
    rw [some_case a hs.1 a1 a2 fun k h1 h2 h3 => hn k (hs.2 k h1 h2) ((at_one l c hi k).mpr ⟨by omega, h3⟩)]
    generalize (forIn (List.range' lo (hi + 1 - lo)) ((#[] : Array Nat), lo) (StrLaws.occBody ⟨l.toArray⟩ ⟨#[c]⟩ hi 1)).run.fst = arr at h0
    have h1 : arr.toList[0]? = some a := by simpa using h0
    cases hL : arr.toList with
    | nil => rw [hL] at h1; cases h1
    | cons b t => rw [hL] at h1; simp at h1; rw [h1]
theorem gives_find_to (x : List Nat) (c : Nat) (i j : Int) (t u v v' : Tok) (hi : 0 ≤ i) (hj : 0 ≤ j) (hl : j ≤ x.length) : Gives («str.find» ⟨[.str ⟨x.toArray⟩ t, .str ⟨#[c]⟩ u, .int i v, .int j v'], []⟩) (.int (findC (x.take j.toNat) c i.toNat)) := by
  rw [← occ_findC]
  show Gives (match occurrences ⟨x.toArray⟩ ⟨#[c]⟩ (fromIndex (⟨x.toArray⟩ : Str).length i) (min (fromIndex (⟨x.toArray⟩ : Str).length j) (⟨x.toArray⟩ : Str).length) 1 with | k :: _ => retInt k | [] => (do rule "str.find.not-found"; retInt (-1))) _
  have e1 : fromIndex (⟨x.toArray⟩ : Str).length i = i.toNat := by unfold fromIndex; rw [if_neg (by omega)]; omega
  have e2 : min (fromIndex (⟨x.toArray⟩ : Str).length j) (⟨x.toArray⟩ : Str).length = j.toNat := by
    unfold fromIndex; rw [if_neg (by omega)]
    have : (⟨x.toArray⟩ : Str).length = x.length := by simp [Str.length]
    omega
  rw [e1, e2]
  cases occurrences ⟨x.toArray⟩ ⟨#[c]⟩ i.toNat j.toNat 1 with
  | nil => exact .rule (.of_eq rfl)
  | cons k _ => exact .of_eq rfl
theorem strs_rep {h : Heap} : ∀ {ps : List PV} {vs : List Value} {ts : List (List Nat)}, RepL μ h ps vs → strsOf ps = some ts → ∃ l : List (Str × Tok), vs = strValues l ∧ l.map (·.1) = ts.map fun t => ⟨t.toArray⟩
  | [], _, _, r, e => by
      simp only [RepL] at r; subst r
      simp only [strsOf] at e; cases e
      exact ⟨[], rfl, rfl⟩
  | p :: ps, _, ts, r, e => by
      simp only [RepL] at r
      obtain ⟨w, wr, rfl, r0, rs⟩ := r
      cases p <;> simp only [strsOf] at e <;> try (cases e; done)
      obtain ⟨ts', h1, rfl⟩ := Option.map_eq_some_iff.mp e
      obtain ⟨l, rfl, h2⟩ := strs_rep rs h1
      simp only [Rep] at r0; obtain ⟨t, rfl⟩ := r0
      exact ⟨(_, t) :: l, rfl, by simp [h2]⟩
theorem join_eq (sep : List Nat) : ∀ ts : List (List Nat), Str.join ⟨sep.toArray⟩ (ts.map fun t => (⟨t.toArray⟩ : Str)) = ⟨(joinL sep ts).toArray⟩
  | [] => rfl
  | [x] => rfl
  | x :: y :: r => by
      have ih := join_eq sep (y :: r)
      simp only [List.map_cons] at ih ⊢
      show (⟨x.toArray⟩ : Str) ++ ⟨sep.toArray⟩ ++ Str.join ⟨sep.toArray⟩ (⟨y.toArray⟩ :: r.map fun t => (⟨t.toArray⟩ : Str)) = _
      rw [ih]
      show (⟨x.toArray ++ sep.toArray ++ (joinL sep (y :: r)).toArray⟩ : Str) = _
      simp [joinL]
theorem joinL_weight (sep : List Nat) : ∀ ts : List (List Nat), (ts.map (·.length)).sum + ts.length * sep.length ≤ (joinL sep ts).length + sep.length
  | [] => by simp [joinL]
  | [x] => by simp [joinL]
  | x :: y :: r => by
      have ih := joinL_weight sep (y :: r)
      simp only [joinL, List.map_cons, List.sum_cons, List.length_cons, List.length_append] at ih ⊢
      have : (r.length + 1 + 1) * sep.length = (r.length + 1) * sep.length + sep.length := by rw [Nat.add_mul, Nat.one_mul]
      omega
theorem join_ok {sep : List Nat} {ts : List (List Nat)} (h1 : (joinL sep ts).length ≤ big) (h2 : sep.length ≤ big) : JoinOk ⟨sep.toArray⟩ (ts.map fun t => (⟨t.toArray⟩ : Str)) = true := by
  apply joinOk_of
  have := joinL_weight sep ts
  simp only [List.map_map, List.length_map]
  have e : ((fun x : Str => x.length) ∘ fun t : List Nat => (⟨t.toArray⟩ : Str)) = fun t => t.length := by funext t; simp [Str.length]
  have e2 : (⟨sep.toArray⟩ : Str).length = sep.length := by simp [Str.length]
  rw [e, e2]
  unfold big at h1 h2
  omega
end
/-! ## methods -/
structure MOk (m : Str) (T id : String) : Prop where
  pa : PlainAttrs T
  sl : Slot T m id
  ty : typeOf (.builtin id) = pure (.type "method_descriptor")
theorem mok_append : MOk (Str.ofString "append") "list" "list.append" := ⟨F.plainAttrs_list, F.slot_list_append, F.type_list_append⟩
theorem mok_find : MOk (Str.ofString "find") "str" "str.find" := ⟨F.plainAttrs_str, F.slot_str_find, F.type_str_find⟩
theorem mok_join : MOk (Str.ofString "join") "str" "str.join" := ⟨F.plainAttrs_str, F.slot_str_join, F.type_str_join⟩
theorem mok_replace : MOk (Str.ofString "replace") "str" "str.replace" := ⟨F.plainAttrs_str, F.slot_str_replace, F.type_str_replace⟩
theorem rc_str {x : List Nat} : RcR G "str" hp (.str x) := fun H r => strE r fun _ => ⟨typeIs_str _ _ _, fun _ e => nomatch e⟩
theorem rc_ref {o : PV} {vs : List PV} (h : contents hp o = some vs) : RcR G "list" hp o := fun H r => by
  obtain ⟨a, ws, m, ho, _⟩ := lstAt H r h
  exact ⟨⟨_, ho, rfl⟩, fun a' e => by cases e; exact ⟨_, ho, rfl⟩⟩
theorem app_eq {h : Heap} {vs : List PV} {ws : Array Value} {x : PV} (rs : RepL μ h vs ws.toList) (r : Rep μ h x w) : RepL μ h (vs ++ [x]) (ws.push w).toList := by rw [Array.toList_push]; exact rs.append (RepL.one r)
theorem meth_app {k : Nat} {vs : List PV} {x : PV} (h : hp[k]? = some (.list vs)) (hb : vs.length ≤ big) : MeR G "list.append" hp (.ref k) [x] .none (hp.set k (.list (vs ++ [x]))) := fun H ro ra q => RepL.one_inv ra fun w r0 => by
  obtain ⟨a, ws, m, hm, ho, rs, n1⟩ := refAt H ro h
  exact call_meets F.slot_list_append ⟨_, ho, rfl⟩ F.entry_list_append (F.args_list_append_2 _ _) (list_append a ws m w (big_fits (n1 ▸ hb))) ⟨ho, PE_upd (f := fun xs => xs.push w) H hm ho rfl (app_eq rs r0) rnone q⟩
theorem find3_at {x : List Nat} {c : Nat} {i j : Int} (hi : 0 ≤ i) (hj : 0 ≤ j) (hl : j ≤ x.length) : MeR G "str.find" hp (.str x) [.str [c], .int i, .int j] (.int (findC (x.take j.toNat) c i.toNat)) hp := fun H ro ra q => strE ro fun _ => RepL.three_inv ra fun w w' w2 r0 r1 r2 => strE r0 fun _ => intE r1 fun _ => intE r2 fun _ =>
  call_gives F.slot_str_find (typeIs_str _ _ _) F.entry_str_find (F.args_str_find_4 _ _ _ _) (gives_find_to x c i j _ _ _ _ hi hj hl) (PE_t1 H rint q)
theorem strsOf_map : ∀ xs : List (List Nat), strsOf (xs.map .str) = some xs
  | [] => rfl
  | x :: xs => by rw [List.map_cons, strsOf, strsOf_map xs]; rfl
theorem meth_join {x : List Nat} {o : PV} {xs : List (List Nat)} (h : contents hp o = some (xs.map .str)) (h1 : (joinL x xs).length ≤ big) (h2 : x.length ≤ big) : MeR G "str.join" hp (.str x) [o] (.str (joinL x xs)) hp := fun {A μ s v vs Q} H ro ra q => strE ro fun t => RepL.one_inv ra fun w r0 => by
  obtain ⟨a, ws, m, ho, rs, n1⟩ := lstAt H r0 h
  obtain ⟨l, h3, h4⟩ := strs_rep rs (strsOf_map xs)
  refine wtk H.toks (SC.join (l := l) ⟨_, ho, rfl, m, ?_⟩ h4 (join_ok h1 h2) fun t' k hk => PE_tok H hk (rstr' ?_) q)
  · show Data.seq ws m = _
    rw [← h3]
  · unfold Txt.join; rw [StrLaws.glued_eq_join, join_eq]
theorem joinL_nil : ∀ xs : List (List Nat), joinL [] xs = xs.flatten
  | [] => rfl
  | [x] => (List.append_nil x).symm
  | x :: y :: r => by show x ++ [] ++ joinL [] (y :: r) = _; rw [joinL_nil (y :: r), List.append_nil]; rfl
theorem replC_free (c : Nat) (z : List Nat) : ∀ l : List Nat, c ∉ l → replC l c z = l
  | [], _ => rfl
  | x :: l, h => by
      have hx : ¬ x = c := fun e => h (e ▸ List.mem_cons_self ..)
      have ih := replC_free c z l fun m => h (List.mem_cons_of_mem _ m)
      unfold replC at ih ⊢
      rw [List.flatMap_cons, ih, if_neg hx]; rfl
theorem replC_app (c : Nat) (z a b : List Nat) : replC (a ++ b) c z = replC a c z ++ replC b c z := by
  unfold replC; rw [List.flatMap_append]
theorem replC_join (c : Nat) (z : Str) : ∀ parts : List Str, (∀ p ∈ parts, c ∉ p.cps.toList) → replC (Str.join ⟨#[c]⟩ parts).cps.toList c z.cps.toList = (Str.join z parts).cps.toList
  | [], _ => rfl
  | [p], h => replC_free c _ _ (h p (List.mem_singleton.mpr rfl))
  | p :: q :: r, h => by
    have ih := replC_join c z (q :: r) fun a ha => h a (List.mem_cons_of_mem _ ha)
    show replC (p ++ ⟨#[c]⟩ ++ Str.join ⟨#[c]⟩ (q :: r)).cps.toList c _ = (p ++ z ++ Str.join z (q :: r)).cps.toList
    simp only [Str.cps_append, Array.toList_append]
    rw [replC_app, replC_app, ih, replC_free c _ _ (h p (List.mem_cons_self ..))]
    simp [replC]
theorem rep_at {x : List Nat} {a b : Str} {c : Nat} {t u k : Tok} (H : HR G μ hp s) (hu : u ≠ 0) (hv : k ≠ 0) (huv : u ≠ k) (ha : a.cps.toList = [c]) (hab : b ≠ a) (hx : x.length ≤ 100000) (hz : b.cps.size ≤ 8) (q : Q (.str (replC x c b.cps.toList)) hp) :
    wpAny G.M A (call (.builtin "str.replace") [.str ⟨x.toArray⟩ t, .str a u, .str b k]) (PE G μ s Q) noE s := by
  have ea : a = ⟨#[c]⟩ := by obtain ⟨⟨l⟩⟩ := a; cases ha; rfl
  subst ea
  refine wtk H.toks (SC.replaceW hu hv huv (beq_eq_false_iff_ne.mpr (Ne.symm hab)) (by rw [len_eq]; omega) (Nat.le_trans hz (by decide)) fun t' k' hk => PE_tok H hk (rstr' ?_) q)
  have := replC_join c b (Txt.split ⟨x.toArray⟩ ⟨#[c]⟩) (StrLaws.split_free _ c)
  rw [StrLaws.join_split] at this
  rw [StrLaws.replace_one, this]
theorem slot_md_get : Slot "method_descriptor" "__get__" "method_descriptor.__get__" :=
  .of (owner := "method_descriptor") (n := "__get__") (by rw [typeLookup_type, builtinLookup_eq_fast]; kernel_rfl) (by decide +kernel) (by decide +kernel) (by decide +kernel)
    (by first | exact .inl (by decide +kernel) | exact .inr (by decide +kernel)) (by rw [isSubtype_type]; kernel_rfl)
theorem entry_md_get : entryFor table "method_descriptor.__get__" = some Builtin.«method_descriptor.__get__» := entryFor_of_tree (by kernel_rfl)
theorem args_md_get (a b c : Value) : argsOk "method_descriptor.__get__" ⟨[a, b, c], []⟩ := by unfold argsOk; kernel_rfl
theorem md_set : typeLookup (.type "method_descriptor") "__set__" = pure none := by rw [typeLookup_type, builtinLookup_eq_fast]; kernel_rfl
theorem md_del : typeLookup (.type "method_descriptor") "__delete__" = pure none := by rw [typeLookup_type, builtinLookup_eq_fast]; kernel_rfl
theorem told_append : Manifest.toldItsClass.contains "list.append" = false := by decide +kernel
theorem owner_append : (".".intercalate ("list.append".cutAt '.').dropLast) = "list" := by
  have e0 : "list.append".cutAt '.' = ["list", "append"] := by first | rfl | decide +kernel
  rw [e0]; decide +kernel
theorem last_append : ("list.append".cutAt '.').getLastD "" = "append" := by
  have e0 : "list.append".cutAt '.' = ["list", "append"] := by first | rfl | decide +kernel
  rw [e0]; rfl
section
variable {prog : Program} {w : World} {A : Around} {E : Value → Shared → Prop} {h : Heap} {g : Array GenState} {d : Drawn} {t : Nat} {os : OsState} {a : Addr} {o : Obj} {ws : Array Value} {m : Nat}
theorem append_get {R : Result → Shared → Prop} (hx : h.get? a = some o) (hc : o.cls = .type "list") (hq : R (.ok (.ret (.ref h.objs.size))) ⟨h.push (appO a), g, d, t, os⟩) :
    codeAny (model prog w) A (.call (.builtin "method_descriptor.__get__") ⟨[.builtin "list.append", .ref a, .type "list"], []⟩) R ⟨h, g, d, t, os⟩ := by
  have hT : (⟨h, g, d, t, os⟩ : Shared).TypeIs (.ref a) "list" := ⟨_, hx, hc⟩
  have hT5 : (⟨h, g, d, t, os⟩ : Shared).TypeIs (.builtin "list.append") "method_descriptor" := F.type_list_append
  have f8 := F.sub_list_list
  refine codeAny_call_builtin slot_md_get.plain entry_md_get (slot_md_get.check _ _ _ _ _ _ _ _ hT5 (args_md_get _ _ _) ?_)
  have f1 := told_append
  have f2 := owner_append
  have f3 := last_append
  unfold Builtin.«method_descriptor.__get__»
  refine wpAny_bind (wpAny_pure (a := (Value.builtin "list.append", some (Value.ref a), some (Value.type "list"))) ?_)
  simp only [f1, Bool.false_eq_true, if_false]
  refine wpAny_bind ?_
  · refine wpAny_bind (wpAny_of_eq (a := ((Str.ofString "append" : Str), Value.type "list")) (by kernel_rfl) ?_)
    refine wpAny_bind (wpAny_isInstance hT f8 ?_)
    refine wpAny_pure ?_
    refine wpAny_bind (wpAny_newObj_type ?_)
    exact wpAny_pure hq
theorem lk_list_append : typeLookup (.type "list") "append" = pure (some (.builtin "list.append")) := F.slot_list_append.lookup
theorem append_entry {tk : Tok} {Q : Fin → Shared → Prop} (hx : h.get? a = some (lstO ws m)) (hq : Q (.done (.ret (.ref h.objs.size))) ⟨h.push (appO a), g, d, t, os⟩) :
    wpAny (model prog w) A (Builtin.«object.__getattribute__» ⟨[.ref a, .str "append" tk], []⟩) Q E ⟨h, g, d, t, os⟩ := by
  have hT : (⟨h, g, d, t, os⟩ : Shared).TypeIs (.ref a) "list" := ⟨_, hx, rfl⟩
  have hT5 : (⟨h, g, d, t, os⟩ : Shared).TypeIs (.builtin "list.append") "method_descriptor" := F.type_list_append
  have f4 := lk_list_append
  have f5 := F.type_list_append
  have f6 := slot_md_get.lookup
  have f7 := md_set
  have f8 := md_del
  repeat (any_goals (first | assumption | wp_step))
  refine append_get hx rfl ?_
  repeat (any_goals (first | assumption | wp_step))
theorem append_call {tk : Tok} {R : Result → Shared → Prop} (hx : h.get? a = some (lstO ws m)) (hq : R (.ok (.ret (.ref h.objs.size))) ⟨h.push (appO a), g, d, t, os⟩) :
    codeAny (model prog w) A (.call (.builtin "list.__getattribute__") ⟨[.ref a, .str "append" tk], []⟩) R ⟨h, g, d, t, os⟩ :=
  codeAny_call_builtin F.slot_list_getattribute.plain F.entry_list_ga (F.slot_list_getattribute.check _ _ _ _ _ _ _ _ (show (⟨h, g, d, t, os⟩ : Shared).TypeIs (.ref a) "list" from ⟨_, hx, rfl⟩) (F.args_list_getattribute_2 _ _) (append_entry hx hq))
theorem append_by {tk : Tok} {Q : Value → Shared → Prop} (hx : h.get? a = some (lstO ws m)) (hq : Q (.ref h.objs.size) ⟨h.push (appO a), g, d, t, os⟩) :
    wpAny (model prog w) A (getAttrBy (.ref a) (.str "append" tk) true true) Q E ⟨h, g, d, t, os⟩ := by
  have hT : (⟨h, g, d, t, os⟩ : Shared).TypeIs (.ref a) "list" := ⟨_, hx, rfl⟩
  have f2 := F.slot_list_getattribute.lookup
  have f3 := F.slot_list_getattribute.bind (.ref a)
  repeat (any_goals (first | assumption | wp_step))
  refine append_call hx ?_
  repeat (any_goals (first | assumption | wp_step))
end
theorem op_attr {j : Nat} {vs : List PV} (H : HR G μ hp s) (r : Rep μ s.heap (.ref j) v) (hc : contents hp (.ref j) = some vs) (q : Q (.app j) hp) :
    wpAny G.M A (getAttr v (Str.ofString "append") true) (PE G μ s Q) noE s := by
  obtain ⟨a, ws, m, hm, ho, _⟩ := refAt H r (contents_ref hc)
  obtain ⟨h, g, d, t, os⟩ := s
  unfold getAttr
  exact wpAny_bind (wpAny_mkText (append_by ho ⟨.app j, hp, μ, q, ⟨_, a, rfl, Heap.get?_push_size _ rfl, hm⟩, (H.push (appO a)).tok (k := t + 1) (Nat.le_add_left _ _), (Stp.push _ _ _).trans (Stp.toks _ _ _)⟩))
theorem sub_list_module : isSubtype (.type "list") (.type "module") = pure false := by rw [isSubtype_type]; kernel_rfl
theorem kind_list_append : builtinKind "list.append" = some .method := by decide +kernel
theorem var_list_append : Manifest.varargsMethods.contains "list.append" = false := by decide +kernel
theorem check_bound (a : Addr) (v : Value) {ws : Array Value} {m : Nat} {E : Value → Shared → Prop} {Q : Unit → Shared → Prop} {prog : Program} {w : World} (ho : s.heap.get? a = some (lstO ws m)) (h : Q () s) :
    wpAny (model prog w) A (checkBoundCall "list.append" ⟨[.ref a, v], []⟩) Q E s := by
  have hT : s.TypeIs (.ref a) "list" := ⟨_, ho, rfl⟩
  unfold checkBoundCall
  rw [signature?_of (id := "list.append") (n := ['d', 'n', 'e', 'p', 'p', 'a']) (o := ['t', 's', 'i', 'l']) (by kernel_rfl) F.owner_list]
  have e : Manifest.sig_list.lookup (String.ofList ['d', 'n', 'e', 'p', 'p', 'a'].reverse) = some ⟨.oneArg, "list.append", "append", .self, [⟨"object", .posOnly, true⟩]⟩ := by kernel_rfl
  rw [e]
  simp only [kind_list_append]
  rw [if_neg (by decide)]
  refine wpAny_bind (wpAny_isInstance hT sub_list_module ?_)
  rw [if_neg (by rw [var_list_append]; decide)]
  unfold isType loadHead
  refine wpAny_bind (wpAny_bind (wpAny_loadPart ho (wpAny_pure ?_)))
  refine wpAny_bind (wpAny_typeOf hT ?_)
  exact wpAny_of_eq (a := ()) (by kernel_rfl) h
theorem call_app {b a : Addr} {w : Value} (hb : s.heap.get? b = some (appO a)) {ws : Array Value} {m : Nat} (ho : s.heap.get? a = some (lstO ws m)) {E Q : Value → Shared → Prop} {prog : Program} {wd : World}
    (hz : ws.size ≤ sizeLine) (h : Q .none { s with heap := s.heap.update a (Obj.mapSeq fun xs => xs.push w) }) : wpAny (model prog wd) A (call (.ref b) [w]) Q E s := by
  refine wpAny_call (codeAny_of_tree ?_)
  show wpAny _ _ (callAny (.ref b) ⟨[w], []⟩) _ _ _
  unfold callAny
  refine wpAny_bind (wpAny_load hb ?_)
  show wpAny _ _ (checkBoundCall "list.append" ⟨[.ref a, w], []⟩ >>= fun _ => again (.builtin "list.append" ⟨[.ref a, w], []⟩)) _ _ s
  refine wpAny_bind (check_bound a w ho (wpAny_pure ⟨plainId_quiet (by decide +kernel) _, codeAny_builtin F.entry_list_append ?_⟩))
  rw [Around.under_plainId (by decide +kernel)]
  exact list_append a ws m w hz prog wd A (wants Q E) s ⟨ho, h⟩
theorem callWith_app {pos : Pos} {b : Addr} {args : List (Bool × Sem Value)} {E Q : Value → Shared → Prop} {M : Model} (hplain : args.any (·.1) = false)
    (h : wpAny M A (evalArgs (.ref b) true args []) (fun a s₁ => (∃ c, s₁.heap.get? b = some (appO c)) ∧ wpAny M A (call (.ref b) a.pos a.kw) Q E s₁) E s) :
    wpAny M A (callWith pos (.ref b) [] args []) Q E s := by
  unfold callWith
  refine wpAny_bind (wpAny_holding (wpAny_mono h (fun a s₁ h₁ => wpAny_bind (wpAny_standAt ?_)) fun _ _ x => x))
  obtain ⟨⟨c, hb⟩, h₁⟩ := h₁
  simp only [hplain, List.any_nil, Bool.or_false]
  refine wpAny_bind (m := keeperOf (.ref b)) ?_
  unfold keeperOf
  refine wpAny_bind (wpAny_load hb ?_)
  show wpAny _ _ (pure Keeper.machine) _ _ _
  refine wpAny_pure ?_
  show wpAny _ _ (call (.ref b) ([] ++ a.pos) a.kw >>= _) _ _ _
  exact wpAny_bind (wpAny_mono h₁ (fun r s₂ hr => wpAny_bind (wpAny_holding (wpAny_point (wpAny_pure hr)))) fun _ _ x => x)
/-- add(x), add being the bound append of a tracked list -/
theorem op_add {j : Nat} {x : PV} {vs : List PV} (H : HR G μ hp s) (rv : Rep μ s.heap (.app j) v) (rx : Rep μ s.heap x w) (h : hp[j]? = some (.list vs)) (hb : vs.length ≤ big) (q : Q .none (hp.set j (.list (vs ++ [x])))) :
    ∃ b c, v = .ref b ∧ s.heap.get? b = some (appO c) ∧ wpAny G.M A (call (.ref b) [w]) (PE G μ s Q) noE s := by
  obtain ⟨b, a, rfl, hb', hm⟩ := rv
  obtain ⟨_, ws, m, hm', ho, rs, n1⟩ := refAt (v := .ref a) H ⟨a, rfl, hm⟩ h
  exact ⟨b, a, rfl, hb', call_app hb' ho (big_fits (n1 ▸ hb)) (PE_upd (f := fun xs => xs.push w) H hm ho rfl (app_eq rs rx) rnone q)⟩
end

section
open PySem PySem.W PyProof.Rows
open Sem (wp)
set_option linter.unusedVariables false
set_option linter.unusedSimpArgs false
set_option maxRecDepth 100000
variable {G : GI} {n : Nat} {A : Around} {μ μ' : List Addr} {hp hp' : Hp} {s s' : Shared} {Q : PV → Hp → Prop} {B : Bool → Hp → Prop} {L : List PV → Hp → Prop} {env : Env} {l : Loc} {K : Cfg} {p p1 p2 : Pos} {k : Nat} {v w : Value}
/-! ## runs -/
theorem PE.from {s'' : Shared} (x : Stp G noOwn μ s μ' s') (h : PE G μ' s' Q v s'') : PE G μ s Q v s'' := by
  obtain ⟨pv, h1, m, q, r, H, st⟩ := h
  exact ⟨pv, h1, m, q, r, H, x.trans st⟩
theorem PE.back {t : Sem Value} {s'' : Shared} (x : Stp G noOwn μ s μ' s') (h : wpAny G.M A t (PE G μ' s' Q) noE s'') : wpAny G.M A t (PE G μ s Q) noE s'' :=
  wpAny_mono h (fun _ _ h => PE.from x h) fun _ _ e => e
theorem PBo.from {v : Bool} {s'' : Shared} (x : Stp G noOwn μ s μ' s') (h : PBo G μ' s' B v s'') : PBo G μ s B v s'' := by
  obtain ⟨h1, m, q, H, st⟩ := h
  exact ⟨h1, m, q, H, x.trans st⟩
theorem PBo.back {t : Sem Bool} {s'' : Shared} (x : Stp G noOwn μ s μ' s') (h : wpAny G.M A t (PBo G μ' s' B) noE s'') : wpAny G.M A t (PBo G μ s B) noE s'' :=
  wpAny_mono h (fun _ _ h => PBo.from x h) fun _ _ e => e
theorem WE.run {t : Sem Value} {P : Value → Shared → Prop} (h : WE G n env l hp t Q) (R : Room n A) (H : HR G μ hp s) (X : EnvR G A env l μ s.heap)
    (hf : ∀ v s' pv hp' μ', Q pv hp' → Rep μ' s'.heap pv v → HR G μ' hp' s' → EnvR G A env l μ' s'.heap → Stp G noOwn μ s μ' s' → P v s') : wpAny G.M A t P noE s :=
  wpAny_mono (h A μ s R H X) (fun v s' h => by
    obtain ⟨pv, hp', μ', q, r, H', st⟩ := h
    exact hf v s' pv hp' μ' q r H' (X.step H st) st) fun _ _ e => e
theorem WT.run {t : Sem Bool} {P : Bool → Shared → Prop} (h : WT G n env l hp t B) (R : Room n A) (H : HR G μ hp s) (X : EnvR G A env l μ s.heap)
    (hf : ∀ b s' hp' μ', B b hp' → HR G μ' hp' s' → EnvR G A env l μ' s'.heap → Stp G noOwn μ s μ' s' → P b s') : wpAny G.M A t P noE s :=
  wpAny_mono (h A μ s R H X) (fun v s' h => by
    obtain ⟨hp', μ', q, H', st⟩ := h
    exact hf v s' hp' μ' q H' (X.step H st) st) fun _ _ e => e
theorem WEs.run {t : Sem (List Value)} {P : List Value → Shared → Prop} (h : WEs G n env l hp t L) (R : Room n A) (H : HR G μ hp s) (X : EnvR G A env l μ s.heap)
    (hf : ∀ v s' pv hp' μ', L pv hp' → RepL μ' s'.heap pv v → HR G μ' hp' s' → EnvR G A env l μ' s'.heap → Stp G noOwn μ s μ' s' → P v s') : wpAny G.M A t P noE s :=
  wpAny_mono (h A μ s R H X) (fun v s' h => by
    obtain ⟨pv, hp', μ', q, r, H', st⟩ := h
    exact hf v s' pv hp' μ' q r H' (X.step H st) st) fun _ _ e => e
theorem load_run {x : Str} {pv : PV} {P : Value → Shared → Prop} (X : EnvR G A env l μ s.heap) (e : l x = some pv) (h : ∀ v, Rep μ s.heap pv v → P v s) : wpAny G.M A (loadName env x) P noE s := by
  obtain ⟨hk | hk | hk, _⟩ := X.dom x pv e
  · obtain ⟨m, hns, hm⟩ := X.ns
    obtain ⟨v, h1, h2⟩ := hm x pv hk e
    exact wpAny_loadName_local X.kind hk hns h1 (h v h2)
  · obtain ⟨c, ov, h1, h2, h3⟩ := X.cel x (.inl hk)
    obtain ⟨v, rfl, h4⟩ := h3 pv e
    exact wpAny_loadName_cell X.kind hk h1 h2 (h v h4)
  · obtain ⟨c, ov, h1, h2, h3⟩ := X.cel x (.inr hk)
    obtain ⟨v, rfl, h4⟩ := h3 pv e
    exact wpAny_loadName_free X.kind hk h1 h2 (h v h4) (X.dom x pv e).2.2
/-! ## what comes after: constants -/
section
variable (G : GI) (n : Nat) (K : Cfg)
noncomputable def exJ (ps : List Expr) (acc : List Nat) (l : Loc) (hp : Hp) (Q : PV → Hp → Prop) : Prop := ∀ env, env.scope = K.sc → acc.length ≤ big → WE G n env l hp (joinParts ⟨acc.toArray⟩ (evalEach ps env)) Q
/-- there is an answer, and what is asked holds of it -/
inductive Ex {α : Type} (P : α → Prop) (Q : α → Prop) : Prop
  | mk (a : α) (e : P a) (q : Q a)
noncomputable def cBin2 (op : Operator) (x : PV) (Q : PV → Hp → Prop) : PV → Hp → Prop := fun y h => Ex (BinR G op h x y) fun v => Q v h
noncomputable abbrev cBin1 (op : Operator) (b : Expr) (l : Loc) (Q : PV → Hp → Prop) : PV → Hp → Prop := fun x h => exE G n K b l h (cBin2 G op x Q)
inductive cNeg (Q : PV → Hp → Prop) : PV → Hp → Prop
  | mk (i : Int) (h : Hp) (q : Q (.int (-i)) h) : cNeg Q (.int i) h
noncomputable def cIfe (a b : Expr) (l : Loc) (Q : PV → Hp → Prop) : Bool → Hp → Prop := fun c h => if c = true then exE G n K a l h Q else exE G n K b l h Q
noncomputable def cCv (op : CmpOp) (x : PV) (Q : PV → Hp → Prop) : PV → Hp → Prop := fun y h => Ex (CmpR G op h x y) fun b => Q (.bool b) h
noncomputable abbrev cCm (op : CmpOp) (e : Expr) (l : Loc) (Q : PV → Hp → Prop) : PV → Hp → Prop := fun x h => exE G n K e l h (cCv G op x Q)
noncomputable def cC1 (op : CmpOp) (x : PV) (B : Bool → Hp → Prop) : PV → Hp → Prop := fun y h => Ex (CmpR G op h x y) fun b => B b h
noncomputable abbrev cCmT (op : CmpOp) (e : Expr) (l : Loc) (B : Bool → Hp → Prop) : PV → Hp → Prop := fun x h => exE G n K e l h (cC1 G op x B)
noncomputable def cMe2 (id : String) (x : PV) (Q : PV → Hp → Prop) : List PV → Hp → Prop := fun vs h => Ex (fun r : PV × Hp => MeR G id h x vs r.1 r.2) fun r => Q r.1 r.2
noncomputable def cMe1 (T id : String) (args : List Expr) (l : Loc) (Q : PV → Hp → Prop) : PV → Hp → Prop := fun x h => RcR G T h x ∧ exL G n K args l h (cMe2 G id x Q)
noncomputable def cIs (T : String) (Q : PV → Hp → Prop) : PV → Hp → Prop := fun v h => Ex (IsaR G T h v) fun b => Q (.bool b) h
noncomputable def cBl (c : Value) (Q : PV → Hp → Prop) : List PV → Hp → Prop := fun vs h => Ex (BltR G c h vs) fun r => Q r h
noncomputable abbrev cCall (f : Str) (Q : PV → Hp → Prop) : List PV → Hp → Prop := fun vs h => CallW G (n - 1) f vs h Q
inductive cRe (c : Nat) (bl : List Nat) (Q : PV → Hp → Prop) : PV → Hp → Prop
  | mk (x : List Nat) (h : Hp) (e : x.length ≤ 100000) (q : Q (.str (replC x c bl)) h) : cRe c bl Q (.str x) h
inductive cAp (Q : PV → Hp → Prop) : PV → Hp → Prop
  | mk (j : Nat) (h : Hp) (vs : List PV) (e : contents h (.ref j) = some vs) (q : Q (.app j) h) : cAp Q (.ref j) h
/-- x is put behind the j-th list -/
inductive AppR (h : Hp) (j : Nat) (x : PV) (h' : Hp) : Prop
  | mk (vs : List PV) (e : h[j]? = some (.list vs)) (hb : vs.length ≤ big) (q : h' = h.set j (.list (vs ++ [x])))
inductive cAdd (j : Nat) (Q : PV → Hp → Prop) : List PV → Hp → Prop
  | mk (x : PV) (h h' : Hp) (e : AppR h j x h') (q : Q .none h') : cAdd j Q [x] h
noncomputable def cSl3 (x y : PV) (Q : PV → Hp → Prop) : PV → Hp → Prop := fun z h => Ex (SlR G h x y z) fun v => Q v h
noncomputable abbrev cSl2 (b : Option Expr) (l : Loc) (x : PV) (Q : PV → Hp → Prop) : PV → Hp → Prop := fun y h => exO G n K b l h (cSl3 G x y Q)
noncomputable abbrev cSl1 (a b : Option Expr) (l : Loc) (Q : PV → Hp → Prop) : PV → Hp → Prop := fun x h => exO G n K a l h (cSl2 G n K b l x Q)
noncomputable def cIt2 (x : PV) (Q : PV → Hp → Prop) : PV → Hp → Prop := fun y h => Ex (ItR G h x y) fun v => Q v h
noncomputable abbrev cIt1 (i : Expr) (l : Loc) (Q : PV → Hp → Prop) : PV → Hp → Prop := fun x h => exE G n K i l h (cIt2 G x Q)
noncomputable def cTu (Q : PV → Hp → Prop) : List PV → Hp → Prop := fun vs h => vs.length ≤ big ∧ Q (.tuple vs) h
noncomputable def cLi (Q : PV → Hp → Prop) : List PV → Hp → Prop := fun vs h => vs.length ≤ big ∧ Q (.list vs) h
noncomputable abbrev cL2 (v : PV) (L : List PV → Hp → Prop) : List PV → Hp → Prop := fun vs h => L (v :: vs) h
noncomputable abbrev cL1 (r : List Expr) (l : Loc) (L : List PV → Hp → Prop) : PV → Hp → Prop := fun v h => exL G n K r l h (cL2 v L)
noncomputable abbrev cOne (L : List PV → Hp → Prop) : PV → Hp → Prop := fun v h => L [v] h
noncomputable abbrev cTn (B : Bool → Hp → Prop) : Bool → Hp → Prop := fun b h => B (!b) h
noncomputable def cTr (B : Bool → Hp → Prop) : PV → Hp → Prop := fun v h => Ex (TruR G h v) fun b => B b h
noncomputable def cAnd (r : List Expr) (l : Loc) (B : Bool → Hp → Prop) : Bool → Hp → Prop := fun b h => if b = true then exA G n K .And r l h B else B false h
noncomputable def cOr (r : List Expr) (l : Loc) (B : Bool → Hp → Prop) : Bool → Hp → Prop := fun b h => if b = true then B true h else exA G n K .Or r l h B
inductive cJ (r : List Expr) (acc : List Nat) (l : Loc) (Q : PV → Hp → Prop) : PV → Hp → Prop
  | mk (x : List Nat) (h : Hp) (e : acc.length + x.length ≤ big) (q : exJ G n K r (acc ++ x) l h Q) : cJ r acc l Q (.str x) h
end
/-! ## the rules of expressions -/
section
variable {h : Hp} {x y z : PV} {pv : PV} {vs : List PV} {c : Bool}
theorem kBin2 {op : Operator} (e : BinR G op h x y pv) (q : Q pv h) : cBin2 G op x Q y h := ⟨pv, e, q⟩
theorem kNeg {i : Int} (q : Q (.int (-i)) h) : cNeg Q (.int i) h := ⟨i, h, q⟩
theorem kIfe_t {a b : Expr} (e : c = true) (q : exE G n K a l h Q) : cIfe G n K a b l Q c h := by subst e; exact q
theorem kIfe_f {a b : Expr} (e : ¬ c = true) (q : exE G n K b l h Q) : cIfe G n K a b l Q c h := by unfold cIfe; rw [if_neg e]; exact q
theorem kCv {op : CmpOp} {b : Bool} (e : CmpR G op h x y b) (q : Q (.bool b) h) : cCv G op x Q y h := ⟨b, e, q⟩
theorem kC1 {op : CmpOp} {b : Bool} (e : CmpR G op h x y b) (q : B b h) : cC1 G op x B y h := ⟨b, e, q⟩
theorem kMe1 {T id : String} {args : List Expr} (r : RcR G T h x) (q : exL G n K args l h (cMe2 G id x Q)) : cMe1 G n K T id args l Q x h := ⟨r, q⟩
theorem kMe2 {id : String} {h' : Hp} (e : MeR G id h x vs pv h') (q : Q pv h') : cMe2 G id x Q vs h := ⟨(pv, h'), e, q⟩
theorem kIs {T : String} {b : Bool} (e : IsaR G T h x b) (q : Q (.bool b) h) : cIs G T Q x h := ⟨b, e, q⟩
theorem kBl {c : Value} (e : BltR G c h vs pv) (q : Q pv h) : cBl G c Q vs h := ⟨pv, e, q⟩
theorem kRe {t : List Nat} {k : Nat} {bl : List Nat} (e : t.length ≤ 100000) (q : Q (.str (replC t k bl)) h) : cRe k bl Q (.str t) h := ⟨t, h, e, q⟩
theorem kAp {j : Nat} (e : contents h (.ref j) = some vs) (q : Q (.app j) h) : cAp Q (.ref j) h := ⟨j, h, vs, e, q⟩
theorem kAdd {j : Nat} {h' : Hp} (e : AppR h j x h') (q : Q .none h') : cAdd j Q [x] h := ⟨x, h, h', e, q⟩
theorem kSl3 (e : SlR G h x y z pv) (q : Q pv h) : cSl3 G x y Q z h := ⟨pv, e, q⟩
theorem kIt2 (e : ItR G h x y pv) (q : Q pv h) : cIt2 G x Q y h := ⟨pv, e, q⟩
theorem kTu (e : vs.length ≤ big) (q : Q (.tuple vs) h) : cTu Q vs h := ⟨e, q⟩
theorem kLi (e : vs.length ≤ big) (q : Q (.list vs) h) : cLi Q vs h := ⟨e, q⟩
theorem kTr {b : Bool} (e : TruR G h x b) (q : B b h) : cTr G B x h := ⟨b, e, q⟩
theorem kAnd_t {r : List Expr} (e : c = true) (q : exA G n K .And r l h B) : cAnd G n K r l B c h := by subst e; exact q
theorem kAnd_f {r : List Expr} (e : ¬ c = true) (q : B false h) : cAnd G n K r l B c h := by unfold cAnd; rw [if_neg e]; exact q
theorem kOr_t {r : List Expr} (e : c = true) (q : B true h) : cOr G n K r l B c h := by subst e; exact q
theorem kOr_f {r : List Expr} (e : ¬ c = true) (q : exA G n K .Or r l h B) : cOr G n K r l B c h := by unfold cOr; rw [if_neg e]; exact q
theorem kJ {r : List Expr} {acc t : List Nat} (e : acc.length + t.length ≤ big) (q : exJ G n K r (acc ++ t) l h Q) : cJ G n K r acc l Q (.str t) h := ⟨t, h, e, q⟩
end
theorem r_none (q : Q .none hp) : exE G n K (.Constant .none k p) l hp Q := fun _ _ A μ s R H X => wpAny_pure (PE_here H rnone q)
theorem r_bool {b : Bool} (q : Q (.bool b) hp) : exE G n K (.Constant (.bool b) k p) l hp Q := fun _ _ A μ s R H X => wpAny_pure (PE_here H rbool q)
theorem r_int {i : Int} (q : Q (.int i) hp) : exE G n K (.Constant (.int i) k p) l hp Q := fun _ _ A μ s R H X => wpAny_mkInt (PE_t1 H rint q)
theorem r_str {x : Str} {L : List Nat} (h : x.cps.toList = L) (q : Q (.str L) hp) : exE G n K (.Constant (.str x) k p) l hp Q := fun _ _ A μ s R H X => wpAny_mkText (PE_t1 H (rstr' (by rw [← h])) q)
theorem r_name {x : Str} {v : PV} (h : l x = some v) (q : Q v hp) : exE G n K (.Name x p) l hp Q := fun _ _ A μ s R H X => wpAny_Name (load_run X h fun v r => PE_here H r q) (X.dom x v h).2.1
theorem r_bin {a b : Expr} {op : Operator} (h : exE G n K a l hp (cBin1 G n K op b l Q)) : exE G n K (.BinOp a op b p) l hp Q := fun env hs A μ s R H X =>
  wpAny_BinOp ((h env hs).run R H X fun v s1 pv hp1 μ1 q r H1 X1 st1 => (q env hs).run R H1 X1 fun w s2 pw hp2 μ2 q2 r2 H2 X2 st2 => by
    obtain ⟨z, e, qz⟩ := q2
    exact PE.back (st1.trans st2) (e H2 (H1.rep st2 r) r2 qz))
theorem r_neg {a : Expr} (h : exE G n K a l hp (cNeg Q)) : exE G n K (.UnaryOp .USub a p) l hp Q := fun env hs A μ s R H X =>
  wpAny_UnaryOp ((h env hs).run R H X fun v s1 pv hp1 μ1 q r H1 X1 st1 => by
    obtain ⟨i, h1, qi⟩ := q
    exact intE r fun t => neg_int (PE.from st1 (PE_t1 H1 rint qi)))
theorem r_ife {t a b : Expr} (h : exT G n K t l hp (cIfe G n K a b l Q)) : exE G n K (.IfExp t a b p) l hp Q := fun env hs A μ s R H X =>
  wpAny_IfExp ((h env hs).run R H X fun c s1 hp1 μ1 q H1 X1 st1 => by
    cases c
    · exact PE.back st1 (q env hs A μ1 s1 R H1 X1)
    · exact PE.back st1 (q env hs A μ1 s1 R H1 X1))
theorem r_cmp {a e : Expr} {op : CmpOp} (hm : behindInMarks op e = false) (h : exE G n K a l hp (cCm G n K op e l Q)) : exE G n K (.Compare a [op] [e] p) l hp Q := fun env hs A μ s R H X =>
  wpAny_Compare1 ((h env hs).run R H X fun v s1 pv hp1 μ1 q r H1 X1 st1 => (q env hs).run R H1 X1 fun w s2 pw hp2 μ2 q2 r2 H2 X2 st2 => by
    obtain ⟨z, e, qz⟩ := q2
    exact e R H2 (H1.rep st2 r) r2 (PE.from (st1.trans st2) (PE_here H2 rbool qz))) hm
theorem t_cmp {a e : Expr} {op : CmpOp} (hm : behindInMarks op e = false) (h : exE G n K a l hp (cCmT G n K op e l B)) : exT G n K (.Compare a [op] [e] p) l hp B := fun env hs A μ s R H X =>
  wpAny_isTrue_Compare1 ((h env hs).run R H X fun v s1 pv hp1 μ1 q r H1 X1 st1 => (q env hs).run R H1 X1 fun w s2 pw hp2 μ2 q2 r2 H2 X2 st2 => by
    obtain ⟨z, e, qz⟩ := q2
    exact e R H2 (H1.rep st2 r) r2 (wpAny_truthy_bool ⟨hp2, μ2, qz, H2, st1.trans st2⟩)) hm
theorem t_not {a : Expr} (h : exT G n K a l hp (cTn B)) : exT G n K (.UnaryOp .Not a p) l hp B := fun env hs A μ s R H X =>
  wpAny_isTrue_Not ((h env hs).run R H X fun c s1 hp1 μ1 q H1 X1 st1 => ⟨hp1, μ1, q, H1, st1⟩)
theorem t_bool {op : BoolOp} {vs : List Expr} (h : exA G n K op vs l hp B) : exT G n K (.BoolOp op vs p) l hp B := fun env hs A μ s R H X => wpAny_isTrue_BoolOp (h env hs A μ s R H X)
theorem t_whole {e : Expr} (hd : ∀ env w, isTrue e env w = (do let v ← w; standAt e.pos; holding [v] (truthy v))) (h : exE G n K e l hp (cTr G B)) : exT G n K e l hp B := fun env hs A μ s R H X =>
  wpAny_isTrue_value ((h env hs).run R H X fun v s1 pv hp1 μ1 q r H1 X1 st1 => by
    obtain ⟨b, e, qb⟩ := q
    exact e H1 r fun k hk => ⟨hp1, μ1, qb, H1.tok hk, st1.trans (Stp.toks _ _ _)⟩) (hd _ _)
theorem a_nilA (q : B true hp) : exA G n K .And [] l hp B := fun _ _ A μ s R H X => wpAny_pure ⟨hp, μ, q, H, Stp.refl _ _⟩
theorem a_nilO (q : B false hp) : exA G n K .Or [] l hp B := fun _ _ A μ s R H X => wpAny_pure ⟨hp, μ, q, H, Stp.refl _ _⟩
theorem a_and {e : Expr} {r : List Expr} (h : exT G n K e l hp (cAnd G n K r l B)) : exA G n K .And (e :: r) l hp B := fun env hs A μ s R H X =>
  wpAny_allTrue_And_cons ((h env hs).run R H X fun c s1 hp1 μ1 q H1 X1 st1 => by
    cases c
    · exact ⟨hp1, μ1, q, H1, st1⟩
    · exact PBo.back st1 (q env hs A μ1 s1 R H1 X1))
theorem a_or {e : Expr} {r : List Expr} (h : exT G n K e l hp (cOr G n K r l B)) : exA G n K .Or (e :: r) l hp B := fun env hs A μ s R H X =>
  wpAny_allTrue_Or_cons ((h env hs).run R H X fun c s1 hp1 μ1 q H1 X1 st1 => by
    cases c
    · exact PBo.back st1 (q env hs A μ1 s1 R H1 X1)
    · exact ⟨hp1, μ1, q, H1, st1⟩)
theorem star_cons {e : Expr} {es : List Expr} (h : noStar e = true) : starEach (e :: es) env = (false, eval e env) :: starEach es env := by
  cases e <;> first | rfl | (cases h)
theorem l_nil (q : L [] hp) : exL G n K [] l hp L := fun _ _ _ A μ s R H X => args_nil ⟨[], hp, μ, q, rfl, H, Stp.refl _ _⟩
theorem l_cons {e : Expr} {r : List Expr} (ok : noStar e = true) (h : exE G n K e l hp (cL1 G n K r l L)) : exL G n K (e :: r) l hp L := fun env pos hs A μ s R H X =>
  args_cons ((h env hs).run R H X fun v s1 pv hp1 μ1 q r H1 X1 st1 => (q env pos hs).run R H1 X1 fun vs s2 ps hp2 μ2 q2 r2 H2 X2 st2 => ⟨pv :: ps, hp2, μ2, q2, ⟨_, _, rfl, H1.rep st2 r, r2⟩, H2, st1.trans st2⟩) (star_cons ok)
theorem l_one {e : Expr} (ok : noStar e = true) (h : exE G n K e l hp (cOne L)) : exL G n K [e] l hp L := fun env pos hs A μ s R H X =>
  args_cons ((h env hs).run R H X fun v s1 pv hp1 μ1 q r H1 X1 st1 => args_nil ⟨[pv], hp1, μ1, q, .one r, H1, st1⟩) (star_cons ok)
theorem r_tuple {es : List Expr} (h : exL G n K es l hp (cTu Q)) : exE G n K (.Tuple es k p) l hp Q := fun env hs A μ s R H X =>
  wpAny_Tuple ((h env p hs).run R H X fun vs s1 ps hp1 μ1 q r H1 X1 st1 => ⟨big_fits (by rw [r.length]; exact q.1), PE.from st1 (PE_tuple H1 (ws := vs.toArray) r q.2)⟩)
theorem r_list {es : List Expr} (h : exL G n K es l hp (cLi Q)) : exE G n K (.List es p) l hp Q := fun env hs A μ s R H X =>
  wpAny_List_spliced ((h env p hs).run R H X fun vs s1 ps hp1 μ1 q r H1 X1 st1 => ⟨big_fits (by rw [r.length]; exact q.1), PE.from st1 (PE_list H1 (ws := vs.toArray) r q.2)⟩)
noncomputable def cLt (Q : PV → Hp → Prop) : List PV → Hp → Prop := fun vs h => vs.length ≤ big ∧ Q (.ref h.length) (h ++ [.list vs])
theorem kLt {vs : List PV} {h : Hp} (e : vs.length ≤ big) (q : Q (.ref h.length) (h ++ [.list vs])) : cLt Q vs h := ⟨e, q⟩
/-- a tracked list -/
theorem r_listT {es : List Expr} (h : exL G n K es l hp (cLt Q)) : exE G n K (.List es p) l hp Q := fun env hs A μ s R H X =>
  wpAny_List_spliced ((h env p hs).run R H X fun vs s1 ps hp1 μ1 q r H1 X1 st1 => ⟨big_fits (by rw [r.length]; exact q.1),
    PE.from st1 (PE_new (m := .list ps) X1.base H1 ⟨vs.toArray, 0, Heap.get?_push_size _ rfl, r.mono (pushKeep s1 _) (Grow.one _ _)⟩ q.2)⟩)
/-! subscripts -/
theorem sub_tail {ve se : Expr} {o i : Value} {ops : List Value} {P E : Value → Shared → Prop} (k : SubOk s o) (hs : subscripted se false o i = operate ops (getItem o i)) (h : wpAny G.M A (getItem o i) P E s) : wpAny G.M A (subscriptTail ve se o i) P E s := by
  obtain ⟨T, id, hT, hl⟩ := k
  unfold subscriptTail
  refine wpAny_bind ?_
  rw [getitemInPython_of_ne hT.not_modules]
  refine wpAny_bind (wpAny_specialOf hT hl (wpAny_pure (wpAny_bind ?_)))
  rw [hs]
  exact wpAny_operating (wpAny_mono h (fun r s₃ h₃ => wpAny_bind (wpAny_letTemporaryGo (wpAny_pure h₃))) fun _ _ x => x)
theorem r_item {o i : Expr} (hi : ∀ ov iv, subscripted i false ov iv = operate [ov, iv] (getItem ov iv)) (h : exE G n K o l hp (cIt1 G n K i l Q)) : exE G n K (.Subscript o i p) l hp Q := fun env hs A μ s R H X =>
  Subscript_ ((h env hs).run R H X fun v s1 pv hp1 μ1 q r H1 X1 st1 => (q env hs).run R H1 X1 fun w s2 pw hp2 μ2 q2 r2 H2 X2 st2 => by
    obtain ⟨z, e, qz⟩ := q2
    obtain ⟨a, b⟩ := e H2 (H1.rep st2 r) r2 qz
    exact sub_tail a (hi _ _) (PE.back (st1.trans st2) b))
theorem o_none (q : Q .none hp) : exO G n K none l hp Q := fun _ _ A μ s R H X => wpAny_pure (PE_here H rnone q)
theorem o_some {e : Expr} (h : exE G n K e l hp Q) : exO G n K (some e) l hp Q := fun env hs => h env hs
theorem r_slice {o : Expr} {a b : Option Expr} (h : exE G n K o l hp (cSl1 G n K a b l Q)) : exE G n K (.Subscript o (.Slice a b none p1) p) l hp Q := fun env hs A μ s R H X =>
  Subscript_ ((h env hs).run R H X fun v s1 pv hp1 μ1 q r H1 X1 st1 => by
    rw [arm_eval_Slice]
    refine wpAny_bind ((q env hs).run R H1 X1 fun va s2 pa hp2 μ2 q2 r2 H2 X2 st2 => ?_)
    refine wpAny_bind (wpAny_holding ((q2 env hs).run R H2 X2 fun vb s3 pb hp3 μ3 q3 r3 H3 X3 st3 => ?_))
    refine wpAny_bind (wpAny_holding (wpAny_pure (wpAny_newObj_type ?_)))
    obtain ⟨z, e, qz⟩ := q3
    obtain ⟨a, b⟩ := e H3 (H2.rep st3 (H1.rep st2 r)) (H2.rep st3 r2) r3 qz
    exact sub_tail a rfl (PE.back ((st1.trans st2).trans st3) b))
/-! f-strings -/
theorem j_nil {acc : List Nat} (q : Q (.str acc) hp) : exJ G n K [] acc l hp Q := fun _ _ hb A μ s R H X => wpAny_mkStr (PE_t1 H rstr q) (str_fits hb)
theorem j_part {e : Expr} {r : List Expr} {acc : List Nat} (h : exE G n K e l hp (cJ G n K r acc l Q)) : exJ G n K (e :: r) acc l hp Q := fun env hs hb A μ s R H X => by
  show wpAny _ _ (joinParts ⟨acc.toArray⟩ (eval e env :: evalEach r env)) _ _ _
  rw [joinParts]
  refine wpAny_bind ((h env hs).run R H X fun v s1 pv hp1 μ1 q r H1 X1 st1 => ?_)
  obtain ⟨x, h1, hl, hj⟩ := q
  refine strE r fun t => wpAny_bind (wpAny_pure ?_)
  show wpAny _ A (if (⟨acc.toArray⟩ : Str).length + (⟨x.toArray⟩ : Str).length > sizeLine then _ else _) _ _ s1
  rw [if_neg (by rw [len_eq, len_eq]; exact Nat.not_lt.mpr (big_fits hl)), cat_eq]
  exact PE.back st1 (hj env hs (by rw [List.length_append]; exact hl) A μ1 s1 R H1 X1)
theorem j_str {x : Str} {r : List Expr} {acc L : List Nat} (hx : x.cps.toList = L) (hb : acc.length + L.length ≤ big) (h : exJ G n K r (acc ++ L) l hp Q) : exJ G n K (.Constant (.str x) k p :: r) acc l hp Q := j_part (r_str hx ⟨L, hp, hb, h⟩)
theorem r_fval {e : Expr} {r : List Expr} {acc : List Nat} (h : exE G n K e l hp (cJ G n K r acc l Q)) : exE G n K (.FormattedValue e (-1) none p) l hp (cJ G n K r acc l Q) := fun env hs A μ s R H X =>
  wpAny_FormattedValue_plain ((h env hs).run R H X fun v s1 pv hp1 μ1 q r H1 X1 st1 => by
    obtain ⟨x, h1, hl, hj⟩ := q
    refine strE r fun t => ?_
    have q : cJ G n K _ acc l Q (.str x) hp1 := ⟨x, hp1, hl, hj⟩
    exact PE.back st1 (wpAny_formatField_str (PE_here H1 rstr q) (PE_t1 H1 rstr q) (str_fits (Nat.le_trans (Nat.le_add_left _ _) hl))))
theorem j_val {e : Expr} {r : List Expr} {acc : List Nat} (h : exE G n K e l hp (cJ G n K r acc l Q)) : exJ G n K (.FormattedValue e (-1) none p :: r) acc l hp Q := j_part (r_fval h)
theorem r_joined {a b : Expr} {r : List Expr} (h : exJ G n K (a :: b :: r) [] l hp Q) : exE G n K (.JoinedStr (a :: b :: r) p) l hp Q := fun env hs => h env hs (Nat.zero_le _)
/-! ## calls -/
noncomputable def bltTab : List (Str × Value) := [(Str.ofString "len", .builtin "len"), (Str.ofString "chr", .builtin "chr"), (Str.ofString "range", .type "range"), (Str.ofString "list", .type "list"), (Str.ofString "str", .type "str"), (Str.ofString "object", .type "object"),
  (Str.ofString "isinstance", .builtin "isinstance"), (Str.ofString "zip", .type "zip"), (Str.ofString "sum", .builtin "sum"), (Str.ofString "AssertionError", .type "AssertionError")]
structure GOk (G : GI) : Prop where
  gns : G.h0.Ns mainGlobals G.mg
  bns : G.h0.Ns builtinsNs G.mb
  blt : ∀ x ∈ bltTab, G.mg x.1 = none ∧ G.mb x.1 = some x.2
theorem glb_fn {f : Str} {v : Value} {P : Value → Shared → Prop} (g : GOk G) (hs : env.scope = K.sc) (ok : glbOk K.sc f = true) (H : HR G μ hp s) (X : EnvR G A env l μ s.heap) (hv : G.mg f = some v) (h : P v s) :
    wpAny G.M A (eval (.Name f p) env) P noE s := by
  simp only [glbOk, Bool.and_eq_true, Bool.not_eq_true', beq_iff_eq] at ok
  exact Calls.Name_function_global X.kind (by rw [Env.kindOf, hs]; exact ok.1) (Calls.loadGlobal_global (by rw [X.glob]; exact H.ns g.gns) hv h) ok.2
theorem glb_blt {f : Str} {v : Value} {P : Value → Shared → Prop} (g : GOk G) (hs : env.scope = K.sc) (ok : glbOk K.sc f = true) (H : HR G μ hp s) (X : EnvR G A env l μ s.heap) (hm : (f, v) ∈ bltTab) (h : P v s) :
    wpAny G.M A (eval (.Name f p) env) P noE s := by
  simp only [glbOk, Bool.and_eq_true, Bool.not_eq_true', beq_iff_eq] at ok
  obtain ⟨h1, h2⟩ := g.blt _ hm
  exact Calls.Name_function_global X.kind (by rw [Env.kindOf, hs]; exact ok.1) (Calls.loadGlobal_builtin (by rw [X.glob]; exact H.ns g.gns) h1 (by rw [X.blt]; exact H.ns g.bns) h2 h) ok.2
theorem stars_plain {pos : Pos} : ∀ {es : List Expr}, es.all noStar = true → (backTo pos (starEach es env)).any (·.1) = false
  | [], _ => rfl
  | e :: es, h => by
      rw [List.all_cons, Bool.and_eq_true] at h
      rw [star_cons h.1]
      exact stars_plain (es := es) h.2
theorem args_run {f : Value} {es : List Expr} {pos : Pos} {P : Args → Shared → Prop} (hs : env.scope = K.sc) (ok : es.all noStar = true) (hl : exL G n K es l hp L) (R : Room n A) (H : HR G μ hp s) (X : EnvR G A env l μ s.heap)
    (hf : ∀ vs s' ps hp' μ', L ps hp' → RepL μ' s'.heap ps vs → HR G μ' hp' s' → EnvR G A env l μ' s'.heap → Stp G noOwn μ s μ' s' → P ⟨vs, []⟩ s') :
    wpAny G.M A (evalArgs f true (backTo pos (starEach es env)) []) P noE s := by
  have := (hl env pos hs).run R H X (P := fun vs s' => P ⟨vs, []⟩ s') hf
  cases es with
  | nil =>
    show wpAny _ _ (evalArgs f true [] []) _ _ _
    unfold evalArgs
    exact wpAny_bind (wpAny_mono (wpAny_mono this (fun vs s' h => h) fun _ _ e => e) (fun vs s' h => wpAny_holding (wpAny_bind (wpAny_pure (wpAny_bind (wpAny_pure (wpAny_pure h)))))) fun _ _ e => e)
  | cons e es =>
    rw [List.all_cons, Bool.and_eq_true] at ok
    rw [star_cons ok.1] at this ⊢
    exact Calls.evalArgs_plain this
/-- a builtin function or type -/
inductive IsBT : Value → Prop
  | fn (id : String) : IsBT (.builtin id)
  | ty (T : String) : IsBT (.type T)
theorem call_bt {c : Value} {es : List Expr} {pos : Pos} (hc : IsBT c) (hs : env.scope = K.sc) (ok : es.all noStar = true) (hl : exL G n K es l hp L) (R : Room n A) (H : HR G μ hp s) (X : EnvR G A env l μ s.heap)
    (hf : ∀ vs s' ps hp' μ', L ps hp' → RepL μ' s'.heap ps vs → HR G μ' hp' s' → EnvR G A env l μ' s'.heap → Stp G noOwn μ s μ' s' → wpAny G.M A (call c vs) (PE G μ s Q) noE s') :
    wpAny G.M A (callWith pos c [] (backTo pos (starEach es env)) []) (PE G μ s Q) noE s := by
  cases hc with
  | fn id => exact Calls.callWith_builtin (stars_plain ok) (args_run hs ok hl R H X hf)
  | ty T => exact PySem.callWith_type (stars_plain ok) (args_run hs ok hl R H X hf)
theorem r_blt {f : Str} {c : Value} {fp cp : Pos} {args : List Expr} (hf : (f, c) ∈ bltTab) (hc : IsBT c) (g : GOk G) (ok : glbOk K.sc f = true) (ok1 : args.all noStar = true) (h : exL G n K args l hp (cBl G c Q)) :
    exE G n K (.Call (.Name f fp) args [] cp) l hp Q := fun env hs A μ s R H X =>
  Call_ (glb_blt g hs ok H X hf (call_bt hc hs ok1 h R H X fun vs s1 ps hp1 μ1 q r H1 X1 st1 => by
    obtain ⟨z, e, qz⟩ := q
    exact PE.back st1 (e R H1 r qz)))
theorem r_object {fp cp : Pos} (g : GOk G) (ok : glbOk K.sc (Str.ofString "object") = true) (q : Q (.ref hp.length) (hp ++ [.obj])) : exE G n K (.Call (.Name (Str.ofString "object") fp) [] [] cp) l hp Q := fun env hs A μ s R H X =>
  Call_ (glb_blt (v := .type "object") g hs ok H X (by simp [bltTab]) (call_bt (L := fun ps h => ps = [] ∧ h = hp) (.ty _) hs rfl (l_nil ⟨rfl, rfl⟩) R H X fun vs s1 ps hp1 μ1 q' r H1 X1 st1 => by
    obtain ⟨rfl, rfl⟩ := q'
    cases (show vs = [] from r)
    exact PE.back st1 (op_object X1.base H1 q)))
theorem r_isinstance {fp cp tp : Pos} {e : Expr} {t : Str} {T : String} (ht : (t, .type T) ∈ bltTab) (g : GOk G) (ok : glbOk K.sc (Str.ofString "isinstance") = true) (ok1 : noStar e = true) (ok2 : glbOk K.sc t = true) (h : exE G n K e l hp (cIs G T Q)) :
    exE G n K (.Call (.Name (Str.ofString "isinstance") fp) [e, .Name t tp] [] cp) l hp Q := fun env hs A μ s R H X =>
  Call_ (glb_blt (v := .builtin "isinstance") g hs ok H X (by simp [bltTab]) (Calls.callWith_builtin (stars_plain (by rw [List.all_cons, ok1]; rfl)) (by
    rw [star_cons ok1]
    exact Calls.evalArgs_plain (Calls.spliced_cons ((h env hs).run R H X fun v s1 pv hp1 μ1 q r H1 X1 st1 => by
      obtain ⟨b, e1, qb⟩ := q
      exact Calls.spliced_cons (glb_blt g hs ok2 H1 X1 ht (Calls.spliced_nil (PE.back st1 (e1 H1 r qb)))))))))
theorem r_fun {f : Str} {fp cp : Pos} {args : List Expr} (hx : isFn G f) (g : GOk G) (ok : glbOk K.sc f = true) (ok1 : args.all noStar = true) (h0 : 0 < n) (h : exL G n K args l hp (cCall G n f Q)) :
    exE G n K (.Call (.Name f fp) args [] cp) l hp Q := fun env hs A μ s R H X => by
  obtain ⟨a, o, fd, hm, ho, hd⟩ := hx
  refine Call_ (glb_fn g hs ok H X hm (Calls.callWith_function (o := o) (fd := fd) (args_run hs ok1 h R H X fun vs s1 ps hp1 μ1 q r H1 X1 st1 => ⟨⟨H1.base _ _ ho, hd⟩, ?_⟩)))
  obtain ⟨a', o', fd', ⟨hm', _, _⟩, h⟩ := q
  rw [hm] at hm'; cases hm'
  refine wpAny_call (codeAny_mono (h A μ1 s1 vs (by rw [Nat.sub_add_cancel h0]; exact R) H1 r X1.base X1.frs) fun r s2 h2 => ?_)
  obtain ⟨pv, hp2, v, rfl, q2, r2, H2, st2⟩ := h2
  exact ⟨pv, hp2, μ1, q2, r2, H2, st1.trans st2⟩
/-- add(..), add being the bound append of a tracked list -/
theorem r_add {f : Str} {fp cp : Pos} {j : Nat} {args : List Expr} (ok : args.all noStar = true) (hj : l f = some (.app j)) (h : exL G n K args l hp (cAdd j Q)) : exE G n K (.Call (.Name f fp) args [] cp) l hp Q := fun env hs A μ s R H X => by
  refine Call_ (wpAny_Name (load_run X hj fun fv rf => ?_) (X.dom _ _ hj).2.1)
  obtain ⟨b, a, rfl, hb, hm⟩ := id rf
  refine callWith_app (stars_plain ok) (args_run hs ok h R H X fun vs s1 ps hp1 μ1 q r H1 X1 st1 => ?_)
  obtain ⟨x, h1, _, ⟨xs, e, hb, rfl⟩, qx⟩ := q
  refine RepL.one_inv r fun w r0 => ?_
  obtain ⟨b', c, hb1, hb2, h⟩ := op_add H1 (H.rep st1 rf) r0 e hb qx
  cases hb1
  exact ⟨⟨c, hb2⟩, PE.back st1 h⟩
theorem r_attr {o : Expr} (hb : ∀ env, attributeBase o (Str.ofString "append") env (eval o env) = eval o env) (h : exE G n K o l hp (cAp Q)) : exE G n K (.Attribute o (Str.ofString "append") p) l hp Q := fun env hs A μ s R H X => by
  rw [arm_eval_Attribute, hb]
  refine wpAny_bind ((h env hs).run R H X fun v s1 pv hp1 μ1 q r H1 X1 st1 => ?_)
  obtain ⟨j, h1, vs, hc, q2⟩ := q
  exact wpAny_bind (wpAny_standAt (wpAny_bind (wpAny_holding (wpAny_mono (op_attr H1 r hc q2) (fun r2 s2 h => wpAny_bind (wpAny_letTemporaryGo (wpAny_pure (PE.from st1 h)))) fun _ _ e => e))))
noncomputable def few (args : List Expr) : Prop := ∀ env pos, ((((backTo pos (starEach args env)).all fun x => !x.fst) && (backToKw pos (keywordEach [] env)).all fun x => x.fst.isSome) && decide ((args.length + ([] : List Keyword).length + if ([] : List Keyword).isEmpty = true then 0 else 1) < 30)) = true
theorem r_meth {o : Expr} {m : Str} {T id : String} {mp cp : Pos} {args : List Expr} (hk : MOk m T id) (hb : ∀ env, attributeBase o m env (eval o env) = eval o env) (ok : args.all noStar = true) (hw : few args) (hline : (mp.endLine == cp.line) = true)
    (h : exE G n K o l hp (cMe1 G n K T id args l Q)) : exE G n K (.Call (.Attribute o m mp) args [] cp) l hp Q := fun env hs A μ s R H X =>
  wpAny_Call_method (hb env) (hw env cp) hline hk.pa hk.sl hk.ty ((h env hs).run R H X fun v s1 pv hp1 μ1 q r H1 X1 st1 => by
    obtain ⟨hT, hd⟩ := q.1 H1 r
    exact ⟨hT, hd, Calls.callWith_builtin (stars_plain ok) (args_run hs ok q.2 R H1 X1 fun vs s2 ps hp2 μ2 q2 r2 H2 X2 st2 => by
      obtain ⟨z, e, qz⟩ := q2
      exact PE.back (st1.trans st2) (e H2 (H1.rep st2 r) r2 qz))⟩)
theorem r_replace {o : Expr} {mp cp pa pb : Pos} {a b : Str} {ka kb c : Nat} {bl : List Nat} (hc : a.cps.toList = [c]) (hb : b.cps.toList = bl) (h2 : b.cps.size ≤ 8) (h3 : b ≠ a) (hn : ∀ env, attributeBase o (Str.ofString "replace") env (eval o env) = eval o env) (hline : (mp.endLine == cp.line) = true)
    (h : exE G n K o l hp (cRe c bl Q)) : exE G n K (.Call (.Attribute o (Str.ofString "replace") mp) [.Constant (.str a) ka pa, .Constant (.str b) kb pb] [] cp) l hp Q := fun env hs A μ s R H X => by
  refine wpAny_Call_method (hn env) rfl hline mok_replace.pa mok_replace.sl mok_replace.ty ((h env hs).run R H X fun v s1 pv hp1 μ1 q r H1 X1 st1 => ?_)
  obtain ⟨x, h1, hx, qx⟩ := q
  refine strE r fun t => ⟨typeIs_str _ _ _, (fun a e => nomatch e), ?_⟩
  refine Calls.callWith_builtin rfl (Calls.evalArgs_plain (Calls.spliced_cons (Calls.Constant_str (k := ka) (pos := pa) (Calls.spliced_cons (Calls.Constant_str (k := kb) (pos := pb) (Calls.spliced_nil ?_))))))
  subst hb
  exact PE.back (st1.trans (Stp.toks μ1 s1 (s1.toks + 1 + 1))) (rep_at (u := s1.toks) (k := s1.toks + 1) (H1.tok (Nat.le_add_left _ _)) (Nat.ne_of_gt H1.toks) (Nat.succ_ne_zero _) (Nat.ne_of_lt (Nat.lt_succ_self _)) hc h3 hx h2 qx)
end

section
open PySem PySem.W PyProof.Rows
open Sem (wp)
set_option linter.unusedVariables false
set_option linter.unusedSimpArgs false
set_option maxRecDepth 100000
variable {G : GI} {n : Nat} {A : Around} {μ μ' : List Addr} {hp hp' : Hp} {s s' : Shared} {Q : PV → Hp → Prop} {env : Env} {l l' : Loc} {K : Cfg} {p p1 p2 : Pos} {k : Nat} {v w : Value} {own : Addr → Prop} {S : Fl → Loc → Hp → Prop}
/-! ## stores into names -/
theorem lookup_mem {α β : Type} [BEq α] [LawfulBEq α] {x : α} {b : β} : ∀ {l : List (α × β)}, l.lookup x = some b → (x, b) ∈ l
  | [], h => nomatch h
  | (y, c) :: l, h => by
      rw [List.lookup_cons] at h
      cases e : x == y with
      | true => rw [e] at h; cases h; rw [eq_of_beq e]; exact List.mem_cons_self ..
      | false => rw [e] at h; exact List.mem_cons_of_mem _ (lookup_mem h)
theorem pair_ne {α : Type} {l : List (α × Addr)} {x y : α} {a b : Addr} (hp : l.Pairwise (fun p q => p.2 ≠ q.2)) (h1 : (x, a) ∈ l) (h2 : (y, b) ∈ l) (hne : x ≠ y) : a ≠ b := by
  induction hp with
  | nil => cases h1
  | cons hh _ ih =>
    rcases List.mem_cons.mp h1 with e1 | e1
    · rcases List.mem_cons.mp h2 with e2 | e2
      · rw [← e1] at e2; cases e2; exact absurd rfl hne
      · have := hh _ e2; rw [← e1] at this; exact this
    · rcases List.mem_cons.mp h2 with e2 | e2
      · exact fun q => hh _ e1 (by rw [← e2]; exact q.symm)
      · exact ih e1 e2
noncomputable def ownX (env : Env) (x : Str) : Addr → Prop := fun a => (env.kindOf x = some .local ∧ a = env.locals) ∨ (env.kindOf x = some .cell ∧ env.cells.lookup x = some a)
theorem ownX_of {x : Str} {a : Addr} (h : ownX env x a) : ownOf env a := h.elim (fun h => .inl h.2) fun h => .inr ⟨x, h⟩
/-- what stands behind a store -/
inductive PSt (G : GI) (A : Around) (env : Env) (own : Addr → Prop) (μ : List Addr) (s : Shared) (hp : Hp) (l' : Loc) (s' : Shared) : Prop
  | mk (H : HR G μ hp s') (X : EnvR G A env l' μ s'.heap) (st : Stp G own μ s μ s')
theorem sto_iff {sc : Scope} {x : Str} (h : stoOk sc x = true) : (sc.names.lookup x = some .local ∨ sc.names.lookup x = some .cell) ∧ (x == ("__debug__" : Str)) = false ∧ (x == ("__classdict__" : Str)) = false := by
  simp only [stoOk, Bool.and_eq_true, Bool.or_eq_true, Bool.not_eq_true', beq_iff_eq] at h
  exact ⟨h.1.1, h.1.2, h.2⟩
theorem upd_cases {x y : Str} {pv pv' : PV} (h : upd l x pv y = some pv') : (y = x ∧ pv' = pv) ∨ (y ≠ x ∧ l y = some pv') := by
  by_cases e : y = x
  · subst e; rw [upd_same] at h; cases h; exact .inl ⟨rfl, rfl⟩
  · rw [upd_other _ _ e] at h; exact .inr ⟨e, h⟩
theorem Stp.owned {a : Addr} {h' : Heap} {k : Nat} (ha : own a) (sb : Heap.SameBut a s.heap h') (lv : ∃ o, h'.get? a = some o) : Stp G own μ s μ { s with heap := h', toks := k } :=
  .of (fun b o e _ _ h3 => (sb.2 b (fun q => h3 (q ▸ ha))).trans e) (Grow.refl _ _) fun b o e => by
    by_cases q : b = a
    · subst q; exact lv
    · exact ⟨o, (sb.2 b q).trans e⟩
theorem store_run {x : Str} {pv : PV} (hs : stoOk env.scope x = true) (ho : ∀ a, ownX env x a → own a) (H : HR G μ hp s) (X : EnvR G A env l μ s.heap) (r : Rep μ s.heap pv v) :
    wpAny G.M A (storeName env x v) (fun _ => PSt G A env own μ s hp (upd l x pv)) noE s := by
  obtain ⟨hk, hd⟩ := sto_iff hs
  obtain ⟨m, hns, hm⟩ := X.ns
  obtain ⟨o, es, ep, e, hdat, hr⟩ := id hns
  have dom : ∀ y pv', upd l x pv y = some pv' → (env.kindOf y = some .local ∨ env.kindOf y = some .cell ∨ env.kindOf y = some .free) ∧ (y == ("__debug__" : Str)) = false ∧ (y == ("__classdict__" : Str)) = false := fun y pv' hy => by
    rcases upd_cases hy with ⟨rfl, _⟩ | ⟨_, hy⟩
    · exact ⟨hk.imp id .inl, hd⟩
    · exact X.dom y pv' hy
  rcases hk with hk | hk
  · refine wpAny_storeName_local (m := m) hk hns (fun h' hn' sb => ?_) (by rw [X.kind]; rfl)
    obtain ⟨o', es', ep', e', hd', _⟩ := id hn'
    have kk : Kept G s.heap h' := .but X.low e (dc_solid (dc_dict hdat)) fun b y hb q => (sb.2 b hb).trans q
    refine ⟨H.kept kk rfl rfl (Nat.le_succ_of_le H.toks), ⟨dom, X.kind, X.glob, X.blt, X.low, X.lows, X.apart, X.code, X.frs.but sb fun _ _ _ _ _ => ⟨o', es', ep', e', hd'⟩, ⟨_, hn', fun y pv' hy1 hy2 => ?_⟩, fun y hy => ?_⟩, .owned (ho _ (.inl ⟨hk, rfl⟩)) sb ⟨o', e'⟩⟩
    · rcases upd_cases hy2 with ⟨rfl, rfl⟩ | ⟨hne, hy2⟩
      · exact ⟨v, if_pos rfl, kk.rep r⟩
      · obtain ⟨w, h1, h2⟩ := hm y pv' hy1 hy2
        exact ⟨w, (if_neg hne).trans h1, kk.rep h2⟩
    · obtain ⟨c, ov, h1, ⟨o2, h2, h3⟩, h4⟩ := X.cel y hy
      refine ⟨c, ov, h1, ⟨o2, (sb.2 c (by rintro rfl; rw [e] at h2; cases h2; rw [hdat] at h3; cases h3)).trans h2, h3⟩, fun pv' hl => ?_⟩
      rcases upd_cases hl with ⟨rfl, _⟩ | ⟨_, hl⟩
      · rcases hy with q | q <;> (have q := (show env.kindOf y = some .local from hk).symm.trans q; cases q)
      · obtain ⟨w, h5, h6⟩ := h4 pv' hl
        exact ⟨w, h5, kk.rep h6⟩
  · obtain ⟨c, ov, h1, h2', h4⟩ := X.cel x (.inl hk)
    obtain ⟨o2, h2, h3⟩ := id h2'
    refine wpAny_storeName_cell X.kind hk h1 h2' fun h' hc' sb => ?_
    have kk : Kept G s.heap h' := .but (X.lows x c (lookup_mem h1)) h2 (dc_solid (dc_cell h3)) fun b y hb q => (sb.2 b hb).trans q
    refine ⟨H.kept (s' := { s with heap := h' }) kk rfl rfl H.toks, ⟨dom, X.kind, X.glob, X.blt, X.low, X.lows, X.apart, X.code, X.frs.but sb (fun o5 _ _ e5 hd5 => by rw [h2] at e5; cases e5; rw [h3] at hd5; cases hd5), ⟨m, hns.sameBut sb (by rintro hq; rw [hq, h2] at e; cases e; rw [hdat] at h3; cases h3), fun y pv' hy1 hy2 => ?_⟩, fun y hy => ?_⟩,
      .owned (k := s.toks) (ho _ (.inr ⟨hk, h1⟩)) sb (let ⟨o', e', _⟩ := hc'; ⟨o', e'⟩)⟩
    · rcases upd_cases hy2 with ⟨rfl, _⟩ | ⟨_, hy2⟩
      · have q := (show env.kindOf y = some .cell from hk).symm.trans hy1; cases q
      · obtain ⟨w, h5, h6⟩ := hm y pv' hy1 hy2
        exact ⟨w, h5, kk.rep h6⟩
    · by_cases hyx : y = x
      · subst hyx
        refine ⟨c, some v, h1, hc', fun pv' hl => ?_⟩
        rw [upd_same] at hl; cases hl
        exact ⟨v, rfl, kk.rep r⟩
      · obtain ⟨c2, ov2, h5, ⟨o3, h6, h7⟩, h8⟩ := X.cel y hy
        refine ⟨c2, ov2, h5, ⟨o3, (sb.2 c2 (pair_ne X.apart (lookup_mem h5) (lookup_mem h1) hyx)).trans h6, h7⟩, fun pv' hl => ?_⟩
        rw [upd_other _ _ hyx] at hl
        obtain ⟨w, h9, h10⟩ := h8 pv' hl
        exact ⟨w, h9, kk.rep h10⟩
theorem EnvR.rep {pv : PV} (X : EnvR G A env l μ s.heap) (H : HR G μ hp s) (x : Stp G (ownOf env) μ s μ' s') (r : Rep μ s.heap pv v) : Rep μ' s'.heap pv v := r.mono (H.vkeep x X.ownVal) x.grow
theorem EnvR.repL {p : List PV} {v : List Value} (X : EnvR G A env l μ s.heap) (H : HR G μ hp s) (x : Stp G (ownOf env) μ s μ' s') (r : RepL μ s.heap p v) : RepL μ' s'.heap p v := r.mono (H.vkeep x X.ownVal) x.grow
/-! ## targets -/
/-- stores into names, in order -/
inductive Stores (G : GI) (env : Env) : List (Value → Sem Unit) → List Str → Prop where
  | nil : Stores G env [] []
  | cons {t : Value → Sem Unit} {ts : List (Value → Sem Unit)} {x : Str} {xs : List Str} (h : ∀ A s v Q E, wpAny G.M A (storeName env x v) Q E s → wpAny G.M A (t v) Q E s) (hs : stoOk env.scope x = true) (r : Stores G env ts xs) : Stores G env (t :: ts) (x :: xs)
theorem PSt.back {t : Sem Unit} {s1 : Shared} (st : Stp G own μ s μ s1) (h : wpAny G.M A t (fun _ => PSt G A env own μ s1 hp l') noE s1) : wpAny G.M A t (fun _ => PSt G A env own μ s hp l') noE s1 :=
  wpAny_mono h (fun _ s2 z => by obtain ⟨H, X, st2⟩ := z; exact ⟨H, X, st.trans st2⟩) fun _ _ e => e
theorem Stores.run {ts : List (Value → Sem Unit)} {xs : List Str} (S : Stores G env ts xs) : ∀ {s : Shared} {l : Loc} {ps : List PV} {vs : List Value}, (∀ x ∈ xs, ∀ a, ownX env x a → own a) → ps.length = xs.length → HR G μ hp s → EnvR G A env l μ s.heap → RepL μ s.heap ps vs →
    wpAny G.M A (assignInOrder ts vs) (fun _ => PSt G A env own μ s hp (updL l xs ps)) noE s := by
  induction S with
  | nil =>
    intro s l ps vs ho hl H X r
    exact assignInOrder_nil ⟨H, by cases ps <;> exact X, Stp.refl _ _⟩
  | cons h hs _ ih =>
    intro s l ps vs ho hl H X r
    cases ps with
    | nil => cases hl
    | cons p ps =>
      obtain ⟨w, wr, rfl, r0, rs⟩ := r
      refine assignInOrder_cons (h _ _ _ _ _ (wpAny_mono (store_run hs (fun _ q => q) H X r0) (fun _ s1 h1 => ?_) fun _ _ e => e))
      obtain ⟨H1, X1, st1⟩ := h1
      exact PSt.back (st1.weak (ho _ (List.mem_cons_self ..))) (ih (fun x hx => ho x (List.mem_cons_of_mem _ hx)) (Nat.succ.inj hl) H1 X1 (X.repL H (st1.weak fun _ h => ownX_of h) rs))
/-- the names of a target, each one to be stored into -/
inductive TgN (sc : Scope) : List Expr → List Str → Prop
  | nil : TgN sc [] []
  | cons {x : Str} {q : Pos} {es : List Expr} {xs : List Str} (hs : stoOk sc x = true) (r : TgN sc es xs) : TgN sc (.Name x q :: es) (x :: xs)
theorem TgN.stores {es : List Expr} {xs : List Str} (t : TgN env.scope es xs) : Stores G env ((assignEach es env).map (·.2)) xs ∧ (assignEach es env).length = xs.length ∧ (assignEach es env).findIdx? (·.1) = none := by
  induction t with
  | nil => exact ⟨.nil, rfl, rfl⟩
  | @cons x q es xs hs r ih =>
    obtain ⟨a, b, c⟩ := ih
    exact ⟨.cons (fun A s v Q E hh => wpAny_assign_Name hh) hs a, congrArg Nat.succ b, by
      show List.findIdx? (·.1) ((false, assign (.Name x q) env) :: assignEach es env) = none
      rw [List.findIdx?_cons, c]; rfl⟩
/-- a target takes a value: the names, in order, and what each takes -/
inductive TgV (sc : Scope) (l : Loc) : Expr → PV → Loc → List Str → Prop
  | name {x : Str} {q : Pos} {pv : PV} (hs : stoOk sc x = true) : TgV sc l (.Name x q) pv (upd l x pv) [x]
  | tup {es : List Expr} {k : Nat} {q : Pos} {xs : List Str} {vs : List PV} (t : TgN sc es xs) (hl : vs.length = xs.length) : TgV sc l (.Tuple es k q) (.tuple vs) (updL l xs vs) xs
theorem bind_run {t : Expr} {pv : PV} {xs : List Str} (hh : A.handled = none) (q : TgV env.scope l t pv l' xs) (ho : ∀ x ∈ xs, ∀ a, ownX env x a → own a) (H : HR G μ hp s) (X : EnvR G A env l μ s.heap) (r : Rep μ s.heap pv v) :
    wpAny G.M A (assign t env v) (fun _ => PSt G A env own μ s hp l') noE s := by
  cases q with
  | name hs => exact wpAny_assign_Name (store_run hs (ho _ (List.mem_singleton.mpr rfl)) H X r)
  | tup t hl =>
    obtain ⟨a, ws, hob, rs, _, n1⟩ := tupAt r
    obtain ⟨h1, h2, h3⟩ := t.stores (G := G)
    refine wpAny_assign_Tuple hh ⟨_, hob, rfl, _, rfl⟩ (by rw [h2, n1, hl]) h3 fun h' he => ?_
    have k : ∀ b o, s.heap.get? b = some o → h'.get? b = some o := fun b o e => he b o (by rintro rfl; rw [Heap.get?_size] at e; cases e) e
    have st0 : Stp G noOwn μ s μ { s with heap := h' } := .ext k
    exact PSt.back st0.up (h1.run ho hl (H.ext k rfl rfl H.toks) (X.step H st0) (H.repL st0 rs))
/-! ## constants of statements -/
section
variable (G : GI) (n : Nat) (K : Cfg)
noncomputable abbrev cEx (l : Loc) (S : Fl → Loc → Hp → Prop) : PV → Hp → Prop := fun _ h => S .next l h
noncomputable abbrev cAs (x : Str) (l : Loc) (S : Fl → Loc → Hp → Prop) : PV → Hp → Prop := fun v h => S .next (upd l x v) h
noncomputable abbrev cNx (S : Fl → Loc → Hp → Prop) (h : Hp) : Loc → Prop := fun l1 => S .next l1 h
/-- a target takes a value, and then .. -/
inductive bindT (sc : Scope) (t : Expr) (v : PV) (l : Loc) (T : Loc → Prop) : Prop
  | mk (l' : Loc) (xs : List Str) (b : TgV sc l t v l' xs) (q : T l')
noncomputable abbrev cTp (t : Expr) (l : Loc) (S : Fl → Loc → Hp → Prop) : PV → Hp → Prop := fun v h => bindT K.sc t v l (cNx S h)
noncomputable def cSt3 (l : Loc) (v x : PV) (S : Fl → Loc → Hp → Prop) : PV → Hp → Prop := fun y h => Ex (StoR G h x y v) fun h4 => S .next l h4
noncomputable abbrev cSt2 (i : Expr) (l : Loc) (v : PV) (S : Fl → Loc → Hp → Prop) : PV → Hp → Prop := fun x h => exE G n K i l h (cSt3 G l v x S)
noncomputable abbrev cSt1 (o i : Expr) (l : Loc) (S : Fl → Loc → Hp → Prop) : PV → Hp → Prop := fun v h => exE G n K o l h (cSt2 G n K i l v S)
noncomputable def cAu (x : Str) (op : Operator) (old : PV) (l : Loc) (S : Fl → Loc → Hp → Prop) : PV → Hp → Prop := fun v h => Ex (AugR G op h old v) fun r => S .next (upd l x r) h
noncomputable def cAs4 (l : Loc) (o i r : PV) (S : Fl → Loc → Hp → Prop) : Hp → Prop := fun h => Ex (StoR G h o i r) fun h4 => S .next l h4
noncomputable def cAs3 (op : Operator) (l : Loc) (o i old : PV) (S : Fl → Loc → Hp → Prop) : PV → Hp → Prop := fun v h => Ex (AugR G op h old v) fun r => cAs4 G l o i r S h
noncomputable def cAs2 (op : Operator) (e : Expr) (l : Loc) (o : PV) (S : Fl → Loc → Hp → Prop) : PV → Hp → Prop := fun i h => Ex (ItR G h o i) fun old => exE G n K e l h (cAs3 G op l o i old S)
noncomputable abbrev cAs1 (op : Operator) (i e : Expr) (l : Loc) (S : Fl → Loc → Hp → Prop) : PV → Hp → Prop := fun o h => exE G n K i l h (cAs2 G n K op e l o S)
noncomputable def cDe2 (l : Loc) (o : PV) (S : Fl → Loc → Hp → Prop) : PV → Hp → Prop := fun i h => Ex (DelR G h o i) fun h3 => S .next l h3
noncomputable abbrev cDe1 (i : Expr) (l : Loc) (S : Fl → Loc → Hp → Prop) : PV → Hp → Prop := fun o h => exE G n K i l h (cDe2 G l o S)
noncomputable def cIf (b o : List Stmt) (l : Loc) (S : Fl → Loc → Hp → Prop) : Bool → Hp → Prop := fun c h => if c = true then stL G n K b l h S else stL G n K o l h S
noncomputable abbrev cRet (l : Loc) (S : Fl → Loc → Hp → Prop) : PV → Hp → Prop := fun v h => S (.ret v) l h
noncomputable def cAt (l : Loc) (S : Fl → Loc → Hp → Prop) : Bool → Hp → Prop := fun c h => c = true ∧ S .next l h
noncomputable abbrev Nxt (r : List Stmt) (S : Fl → Loc → Hp → Prop) : Fl → Loc → Hp → Prop := fun f l h => match f with
  | .next => stL G n K r l h S
  | f => S f l h
end
section
variable {h h' : Hp} {x y z pv old r : PV} {c : Bool} {o i e t : Expr} {a : Str} {op : Operator} {b b' : List Stmt}
theorem kSt3 (e : StoR G h x y pv h') (q : S .next l h') : cSt3 G l pv x S y h := ⟨h', e, q⟩
theorem kAu (e : AugR G op h old x r) (q : S .next (upd l a r) h) : cAu G a op old l S x h := ⟨r, e, q⟩
theorem kAs2 (g : ItR G h x y old) (q : exE G n K e l h (cAs3 G op l x y old S)) : cAs2 G n K op e l x S y h := ⟨old, g, q⟩
theorem kAs3 (e : AugR G op h old z r) (e2 : StoR G h x y r h') (q : S .next l h') : cAs3 G op l x y old S z h := ⟨r, e, h', e2, q⟩
theorem kDe2 (e : DelR G h x y h') (q : S .next l h') : cDe2 G l x S y h := ⟨h', e, q⟩
theorem kIf_t (e : c = true) (q : stL G n K b l h S) : cIf G n K b b' l S c h := by subst e; exact q
theorem kIf_f (e : ¬ c = true) (q : stL G n K b' l h S) : cIf G n K b b' l S c h := by unfold cIf; rw [if_neg e]; exact q
theorem kAt (e : c = true) (q : S .next l h) : cAt l S c h := ⟨e, q⟩
theorem nx_next (q : stL G n K b l h S) : Nxt G n K b S .next l h := q
end
theorem bi_name {sc : Scope} {x : Str} {q : Pos} {pv : PV} {T : Loc → Prop} (hs : stoOk sc x = true) (h : T (upd l x pv)) : bindT sc (.Name x q) pv l T := ⟨_, _, .name hs, h⟩
theorem bi_tup {es : List Expr} {k : Nat} {q : Pos} {xs : List Str} {vs : List PV} {T : Loc → Prop} (t : TgN K.sc es xs) (hl : vs.length = xs.length) (h : T (updL l xs vs)) : bindT K.sc (.Tuple es k q) (.tuple vs) l T := ⟨_, _, .tup t hl, h⟩
/-! ## the rules of statements -/
theorem PF.back {t : Sem Flow} {s'' : Shared} (x : Stp G (ownOf env) μ s μ' s') (h : wpAny G.M A t (PF G A env μ' s' S) noE s'') : wpAny G.M A t (PF G A env μ s S) noE s'' :=
  wpAny_mono h (fun _ _ z => by
    obtain ⟨f, l, h1, m, q, r, H, X, st⟩ := z
    exact ⟨f, l, h1, m, q, r, H, X, x.trans st⟩) fun _ _ e => e
theorem PF.of {μ1 : List Addr} {s1 : Shared} {l1 : Loc} {hp1 : Hp} (st : Stp G noOwn μ s μ1 s1) (h : PSt G A env (ownOf env) μ1 s1 hp1 l1 s') (q : S .next l1 hp1) : PF G A env μ s S .next s' := by
  obtain ⟨H, X, st2⟩ := h
  exact ⟨.next, l1, hp1, μ1, q, trivial, H, X, st.up.trans st2⟩
theorem PF.here {μ1 : List Addr} {s1 : Shared} {hp1 : Hp} (st : Stp G noOwn μ s μ1 s1) (H : HR G μ1 hp1 s1) (X : EnvR G A env l μ1 s1.heap) {fl : Fl} {f : Flow} (r : FlR μ1 s1.heap fl f) (q : S fl l hp1) : PF G A env μ s S f s1 := ⟨fl, l, hp1, μ1, q, r, H, X, st.up⟩
theorem PF.nx {μ1 : List Addr} {s1 : Shared} {hp1 : Hp} (st : Stp G noOwn μ s μ1 s1) (H : HR G μ1 hp1 s1) (X : EnvR G A env l μ1 s1.heap) (q : S .next l hp1) : PF G A env μ s S .next s1 := PF.here (fl := .next) st H X trivial q
theorem s_expr {e : Expr} (hc : ∀ env, swapsWith e none p.line env = pure false) (h : exE G n K e l hp (cEx l S)) : stS G n K (.Expr e p) l hp S := fun env hs A μ s R H X =>
  wpAny_Expr_any ((h env hs).run R H X fun v s1 pv hp1 μ1 q r H1 X1 st1 => PF.nx st1 H1 X1 q) (by simp [interactive, X.kind]) (hc env)
theorem s_asgn {x : Str} {e : Expr} (hc : ∀ env, swapsWith e (some (.Name x p1)) p.line env = pure false) (ok : stoOk K.sc x = true) (h : exE G n K e l hp (cAs x l S)) : stS G n K (.Assign [.Name x p1] e p) l hp S := fun env hs A μ s R H X =>
  wpAny_Assign_Name ((h env hs).run R H X fun v s1 pv hp1 μ1 q r H1 X1 st1 => wpAny_mono (store_run (by rw [hs]; exact ok) (fun _ => ownX_of) H1 X1 r) (fun _ s2 h2 => PF.of st1 h2 q) fun _ _ e => e) (hc env)
theorem scp {α : Type} {f : Env → α} {b : α} (hs : env.scope = K.sc) (h : f { env with scope := K.sc } = b) : f env = b := by rw [← hs] at h; exact h
inductive cSw2 (x y : Str) (l : Loc) (S : Fl → Loc → Hp → Prop) : PV → Hp → Prop
  | mk (a b : PV) (h : Hp) (q : S .next (upd (upd l y b) x a) h) : cSw2 x y l S (.tuple [a, b]) h
theorem kSw2 {x y : Str} {a b : PV} {h : Hp} (q : S .next (upd (upd l y b) x a) h) : cSw2 x y l S (.tuple [a, b]) h := ⟨a, b, h, q⟩
theorem swap_stores : ∀ {xs : List Str}, (∀ x ∈ xs, stoOk env.scope x = true) → Stores G env (xs.map fun n => bindName env n) xs
  | [], _ => .nil
  | x :: xs, h => .cons (fun A s v Q E hh => wpAny_bindName hh) (h x (List.mem_cons_self ..)) (swap_stores fun y hy => h y (List.mem_cons_of_mem _ hy))
/-- x, y = a, b: the stores are swapped -/
theorem s_swap2 {q1 q2 : Pos} {e : Expr} {x y : Str} (hc : ∀ env, swapsWith e (some (.Tuple [.Name x q1, .Name y q2] k p1)) p.line env = pure false) (hw : ∀ env : Env, swappedStores [.Tuple [.Name x q1, .Name y q2] k p1] e { env with scope := K.sc } = pure (some [x, y])) (ok : stoOk K.sc x = true) (ok2 : stoOk K.sc y = true)
    (h : exE G n K e l hp (cSw2 x y l S)) : stS G n K (.Assign [.Tuple [.Name x q1, .Name y q2] k p1] e p) l hp S := fun env hs A μ s R H X => by
  rw [exec_Assign]
  refine wpAny_bind (wpAny_standAt ?_)
  show wpAny _ _ (swapsWith e (some (.Tuple [.Name x q1, .Name y q2] k p1)) p.line env >>= _) _ _ _
  rw [hc]
  refine wpAny_bind (wpAny_pure ?_)
  rw [if_neg (by decide)]
  refine wpAny_bind ((h env hs).run R H X fun v s1 pv hp1 μ1 q r H1 X1 st1 => ?_)
  rw [show swappedStores [.Tuple [.Name x q1, .Name y q2] k p1] e env = pure (some [x, y]) from scp hs (hw env)]
  refine wpAny_bind (wpAny_pure ?_)
  show wpAny _ _ (do rule "assign.swapped-stores"; let items ← unpackItems v 2 none; assignInOrder ([y, x].map fun n => bindName env n) items.reverse; pure Flow.next) _ _ _
  refine wpAny_bind (wpAny_rule ?_)
  obtain ⟨a, b, h1, q⟩ := q
  obtain ⟨ad, ws, ho, rs, _, n1⟩ := tupAt r
  rw [show 2 = ws.size from n1.symm]
  refine wpAny_bind (wpAny_unpackItems_tuple R.handled ⟨_, ho, rfl, _, rfl⟩ fun h' he => ?_)
  have kk : ∀ b o, s1.heap.get? b = some o → h'.get? b = some o := fun b o e => he b o (by rintro rfl; rw [Heap.get?_size] at e; cases e) e
  have st2 : Stp G noOwn μ1 s1 μ1 { s1 with heap := h' } := .ext kk
  refine RepL.two_inv (C := fun vs => wpAny _ _ (assignInOrder _ vs.reverse >>= _) _ _ _) (H1.repL st2 rs) fun w w' r0 r1 => ?_
  refine wpAny_bind (wpAny_mono ((swap_stores (G := G) (env := env) (xs := [y, x]) fun z hz => ?_).run (own := ownOf env) (ps := [b, a]) (vs := [w', w]) (fun _ _ _ => ownX_of) rfl (H1.ext kk rfl rfl H1.toks) (X1.step H1 st2) ⟨_, _, rfl, r1, _, _, rfl, r0, rfl⟩) (fun _ s3 h3 => wpAny_pure (PF.of (st1.trans st2) h3 q)) fun _ _ e => e)
  rw [hs]
  rcases List.mem_cons.mp hz with rfl | hz
  · exact ok2
  · rw [List.mem_singleton.mp hz]; exact ok
theorem s_tup {es : List Expr} {e : Expr} (hc : ∀ env, swapsWithSole [.Tuple es k p1] e p.line env = pure false) (hw : ∀ env : Env, swappedStores [.Tuple es k p1] e { env with scope := K.sc } = pure none) (h : exE G n K e l hp (cTp K (.Tuple es k p1) l S)) : stS G n K (.Assign [.Tuple es k p1] e p) l hp S := fun env hs A μ s R H X =>
  wpAny_Assign_stores ((h env hs).run R H X fun v s1 pv hp1 μ1 q r H1 X1 st1 => by
    obtain ⟨l', xs, b, q⟩ := q
    show wpAny _ _ (assign (.Tuple es k p1) env v) _ _ _
    exact wpAny_mono (bind_run (own := ownOf env) R.handled (hs ▸ b) (fun _ _ _ => ownX_of) H1 X1 r) (fun _ s2 h2 => PF.of st1 h2 q) fun _ _ e => e) (hc env) (scp hs (hw env))
theorem s_sub {o i e : Expr} (hc : ∀ env, swapsWith e (some (.Subscript o i p1)) p.line env = pure false) (h : exE G n K e l hp (cSt1 G n K o i l S)) : stS G n K (.Assign [.Subscript o i p1] e p) l hp S := fun env hs A μ s R H X =>
  wpAny_Assign_Subscript ((h env hs).run R H X fun v s1 pv hp1 μ1 q r H1 X1 st1 => (q env hs).run R H1 X1 fun ov s2 po hp2 μ2 q2 r2 H2 X2 st2 => (q2 env hs).run R H2 X2 fun iv s3 pi hp3 μ3 q3 r3 H3 X3 st3 => by
    obtain ⟨h4, e4, q4⟩ := q3
    refine wpAny_mono (e4 H3 (H2.rep st3 r2) r3 (H2.rep st3 (H1.rep st2 r))) (fun _ s4 h => ?_) fun _ _ e => e
    obtain ⟨H4, st4⟩ := h
    exact PF.nx (((st1.trans st2).trans st3).trans st4) H4 (X3.step H3 st4) q4) (hc env)
theorem s_aug {x : Str} {op : Operator} {e : Expr} {old : PV} (ok : stoOk K.sc x = true) (ho : l x = some old) (h : exE G n K e l hp (cAu G x op old l S)) : stS G n K (.AugAssign (.Name x p1) op e p) l hp S := fun env hs A μ s R H X =>
  wpAny_AugAssign_Name (load_run X ho fun v0 r0 => (h env hs).run R H X fun v s1 pv hp1 μ1 q r H1 X1 st1 => by
    obtain ⟨z, ez, qz⟩ := q
    refine wpAny_mono (ez (Q := fun p h => p = z ∧ h = hp1) H1 (H.rep st1 r0) r ⟨rfl, rfl⟩) (fun v2 s2 h2 => ?_) fun _ _ e => e
    obtain ⟨_, _, μ2, ⟨rfl, rfl⟩, r2, H2, st2⟩ := h2
    exact wpAny_mono (store_run (by rw [hs]; exact ok) (fun _ => ownX_of) H2 (X1.step H1 st2) r2) (fun _ s3 h3 => PF.of (st1.trans st2) h3 qz) fun _ _ e => e)
theorem s_aug_sub {o i e : Expr} {op : Operator} (ha : ∀ ov iv new, augStore i ov iv new = (do holding [new, ov, iv] (setItem ov iv new); release [new, ov, iv] []; pure .next)) (h : exE G n K o l hp (cAs1 G n K op i e l S)) :
    stS G n K (.AugAssign (.Subscript o i p1) op e p) l hp S := fun env hs A μ s R H X =>
  wpAny_AugAssign_Subscript_any ((h env hs).run R H X fun ov s1 po hp1 μ1 q1 r1 H1 X1 st1 => (q1 env hs).run R H1 X1 fun iv s2 pi hp2 μ2 q2 r2 H2 X2 st2 => by
    obtain ⟨old, e2, q2⟩ := q2
    have ro := H1.rep st2 r1
    refine wpAny_mono (e2 (Q := fun p h => p = old ∧ h = hp2) H2 ro r2 ⟨rfl, rfl⟩).2 (fun v3 s3 h3 => ?_) fun _ _ e => e
    obtain ⟨_, _, μ3, ⟨rfl, rfl⟩, r3, H3, st3⟩ := h3
    refine (q2 env hs).run R H3 (X2.step H2 st3) fun v s4 pv hp4 μ4 q4 r4 H4 X4 st4 => ?_
    obtain ⟨z, ez, h5, e5, q5⟩ := q4
    refine wpAny_mono (ez (Q := fun p h => p = z ∧ h = hp4) H4 (H3.rep st4 r3) r4 ⟨rfl, rfl⟩) (fun v5 s5 h5' => ?_) fun _ _ e => e
    obtain ⟨_, _, μ5, ⟨rfl, rfl⟩, r5, H5, st5⟩ := h5'
    have st25 := (st3.trans st4).trans st5
    refine wpAny_mono (e5 H5 (H2.rep st25 ro) (H2.rep st25 r2) r5) (fun _ s6 h => ?_) fun _ _ e => e
    obtain ⟨H6, st6⟩ := h
    exact PF.nx (((st1.trans st2).trans st25).trans st6) H6 ((X4.step H4 st5).step H5 st6) q5) ha
theorem s_del {o i : Expr} (h : exE G n K o l hp (cDe1 G n K i l S)) : stS G n K (.Delete [.Subscript o i p1] p) l hp S := fun env hs A μ s R H X =>
  wpAny_Delete (by
    rw [arm_deleteEach_cons]
    refine wpAny_bind (delete_Subscript ((h env hs).run R H X fun ov s1 po hp1 μ1 q1 r1 H1 X1 st1 => (q1 env hs).run R H1 X1 fun iv s2 pi hp2 μ2 q2 r2 H2 X2 st2 => ?_))
    obtain ⟨h3, e3, q3⟩ := q2
    refine wpAny_mono (e3 H2 (H1.rep st2 r1) r2) (fun _ s4 h => ?_) fun _ _ e => e
    obtain ⟨H4, st4⟩ := h
    exact wpAny_pure (PF.nx ((st1.trans st2).trans st4) H4 (X2.step H2 st4) q3))
theorem s_if {t : Expr} {b o : List Stmt} (h : exT G n K t l hp (cIf G n K b o l S)) : stS G n K (.If t b o p) l hp S := fun env hs A μ s R H X =>
  wpAny_If ((h env hs).run R H X fun c s1 hp1 μ1 q H1 X1 st1 => by
    cases c
    · exact PF.back st1.up (q env hs A μ1 s1 R H1 X1)
    · exact PF.back st1.up (q env hs A μ1 s1 R H1 X1))
theorem s_assert {t : Expr} {m : Option Expr} (h : exT G n K t l hp (cAt l S)) : stS G n K (.Assert t m p) l hp S := fun env hs A μ s R H X =>
  wpAny_Assert_holds ((h env hs).run R H X fun c s1 hp1 μ1 q H1 X1 st1 => ⟨q.1, PF.nx st1 H1 X1 q.2⟩)
theorem s_ret {e : Expr} (h : exE G n K e l hp (cRet l S)) : stS G n K (.Return (some e) p) l hp S := fun env hs A μ s R H X =>
  wpAny_Return_some ((h env hs).run R H X fun v s1 pv hp1 μ1 q r H1 X1 st1 => PF.here (fl := .ret pv) st1 H1 X1 r q)
theorem s_break (q : S .brk l hp) : stS G n K (.Break p) l hp S := fun env hs A μ s R H X => wpAny_bind (wpAny_standAt (wpAny_pure (PF.here (fl := .brk) (Stp.refl _ _) H X trivial q)))
theorem s_nil (q : S .next l hp) : stL G n K [] l hp S := fun env hs A μ s R H X => wpAny_execs_nil (PF.here (fl := .next) (Stp.refl _ _) H X trivial q)
/-- a flow of the small side and of the real one -/
theorem FlR.cases {h : Heap} {C : Fl → Flow → Prop} {fl : Fl} {f : Flow} (r : FlR μ h fl f) (h1 : C .next .next) (h2 : C .brk .brk) (h3 : C .cont .cont) (h4 : ∀ p v, Rep μ h p v → C (.ret p) (.ret v)) : C fl f := by
  cases fl <;> cases f <;> first | exact h1 | exact h2 | exact h3 | exact h4 _ _ r | exact r.elim
theorem s_cons {st : Stmt} {r : List Stmt} (h : stS G n K st l hp (Nxt G n K r S)) : stL G n K (st :: r) l hp S := fun env hs A μ s R H X =>
  wpAny_execs_cons (wpAny_mono (h env hs A μ s R H X) (fun f s1 z => by
    obtain ⟨fl, l1, hp1, μ1, q, r1, H1, X1, st1⟩ := z
    revert q
    refine r1.cases (C := fun fl f => Nxt G n K r S fl l1 hp1 → (match f with | .next => wpAny G.M A (execs r env) (PF G A env μ s S) noE s1 | f => PF G A env μ s S f s1)) (fun q => PF.back st1 (q env hs A μ1 s1 R H1 X1)) (fun q => ?_) (fun q => ?_) fun p v r q => ?_
    · exact ⟨.brk, l1, hp1, μ1, q, trivial, H1, X1, st1⟩
    · exact ⟨.cont, l1, hp1, μ1, q, trivial, H1, X1, st1⟩
    · exact ⟨.ret p, l1, hp1, μ1, q, r, H1, X1, st1⟩) fun _ _ e => e)
theorem stL_at {B : List Stmt} {st : Stmt} {k : Nat} (h : B[k]? = some st) (hs : stS G n K st l hp (Nxt G n K (B.drop (k + 1)) S)) : stL G n K (B.drop k) l hp S := by
  have : B.drop k = st :: B.drop (k + 1) := by
    obtain ⟨hk, e⟩ := List.getElem?_eq_some_iff.mp h
    rw [← e]; exact List.drop_eq_getElem_cons hk
  rw [this]; exact s_cons hs
theorem stL_end {B : List Stmt} {k : Nat} (h : B.length ≤ k) (q : S .next l hp) : stL G n K (B.drop k) l hp S := by
  rw [List.drop_eq_nil_of_le h]; exact s_nil q
end

section
open PySem PySem.W PyProof.Rows
open Sem (wp)
set_option linter.unusedVariables false
set_option linter.unusedSimpArgs false
set_option maxRecDepth 100000
variable {G : GI} {n : Nat} {A : Around} {μ μ' : List Addr} {hp hp' : Hp} {s s' : Shared} {Q : PV → Hp → Prop} {env : Env} {l l' : Loc} {K : Cfg} {p p1 p2 : Pos} {k : Nat} {v w : Value} {own : Addr → Prop} {S : Fl → Loc → Hp → Prop}
/-! ## while -/
noncomputable def aftB (C : Shared → Prop) (P : Result → Shared → Prop) : Flow → Shared → Prop := fun f s => match f with
  | .next => C s
  | .cont => C s
  | .brk => P (.ok .next) s
  | .ret v => P (.ok (.ret v)) s
section
variable {prog : Program} {w : World} {R : Result → Shared → Prop}
theorem while_step {test : Expr} {body orelse : List Stmt}
    (turn : wpAny (model prog w) A (isTrue test env (eval test env)) (fun b s₂ =>
        if b then wpAny (model prog w) A (execs body env) (aftB (codeAny (model prog w) A (.whileLoop test body orelse env) R) R) (notedBy (model prog w) A env fun e s' => R (.error e) s') s₂
        else wpAny (model prog w) A (execs orelse env) (fun f s₃ => R (.ok f) s₃) noE s₂) noE s) :
    codeAny (model prog w) A (.whileLoop test body orelse env) R s := by
  refine codeAny_of_tree ?_
  show wpAny _ A ((whileTurn test body orelse env).onRaise (fun x => do noteFrame x env; theTreesLotGoes x)) _ _ s
  refine wpAny_noted ?_
  simp only [whileTurn]
  refine wpAny_bind (wpAny_mono turn (fun b s₂ h₂ => ?_) fun _ _ h' => h'.elim)
  cases b with
  | false =>
    simp only [Bool.false_eq_true, if_false] at h₂ ⊢
    exact wpAny_bind (wpAny_mono h₂ (fun f s₃ h₃ => wpAny_pure h₃) fun _ _ h' => h'.elim)
  | true =>
    simp only [if_true] at h₂ ⊢
    refine wpAny_bind (wpAny_mono h₂ (fun f s₃ h₃ => ?_) fun _ _ h' => h')
    cases f with
    | next => exact wpAny_pure ⟨rfl, h₃⟩
    | cont => exact wpAny_pure ⟨rfl, h₃⟩
    | brk => exact wpAny_pure h₃
    | ret v => exact wpAny_pure h₃
theorem for_step {target : Expr} {it : Value} {body orelse : List Stmt}
    (turn : wpAny (model prog w) A (pyNext it) (fun r s₁ => match r with
      | none => wpAny (model prog w) A (execs orelse env) (fun f s₃ => R (.ok f) s₃) noE s₁
      | some v => wpAny (model prog w) A (letOwnedTupleGo target it v) (fun _ s₁' => wpAny (model prog w) A (assign target env v) (fun _ s₂ => wpAny (model prog w) A (execs body env) (aftB (codeAny (model prog w) A (.forLoop target it body orelse env) R) R) noE s₂) noE s₁') noE s₁) noE s) : codeAny (model prog w) A (.forLoop target it body orelse env) R s := by
  refine codeAny_of_tree ?_
  show wpAny _ A ((forTurn target it body orelse env).onRaise (fun x => do noteFrame x env; theTreesLotGoes x)) _ _ s
  refine wpAny_noted ?_
  simp only [forTurn]
  refine wpAny_bind (wpAny_standAt (wpAny_bind (wpAny_onRaise (wpAny_mono turn (fun r s₁ h₁ => ?_) fun _ _ h' => h'.elim))))
  cases r with
  | none => exact wpAny_pure ⟨rfl, codeAny_block (wpAny_mono h₁ (fun _ _ h => h) fun _ _ h' => h'.elim)⟩
  | some v =>
    refine wpAny_bind (wpAny_mono h₁ (fun _ s1' h1' => ?_) fun _ _ h' => h'.elim)
    refine wpAny_bind (wpAny_mono h1' (fun _ s₂ h₂ => wpAny_bind (wpAny_mono h₂ (fun f s₃ h₃ => ?_) fun _ _ h' => h'.elim)) fun _ _ h' => h'.elim)
    cases f with
    | next => exact wpAny_pure ⟨rfl, h₃⟩
    | cont => exact wpAny_pure ⟨rfl, h₃⟩
    | brk => exact wpAny_pure h₃
    | ret v => exact wpAny_pure h₃
end
/-- what stands behind a loop's code -/
inductive PW (G : GI) (A : Around) (env : Env) (μ : List Addr) (s : Shared) (S : Fl → Loc → Hp → Prop) : Result → Shared → Prop
  | mk {f : Flow} {s' : Shared} (h : PF G A env μ s S f s') : PW G A env μ s S (.ok f) s'
theorem PW.out (r : Result) (s' : Shared) : PW G A env μ s S r s' → (match r with | .ok f => PF G A env μ s S f s' | .error e => cameBackBy G.M A env noE e s') := fun h => by cases h with | mk h => exact h
noncomputable abbrev WhK (I : Loc → Hp → Prop) (Q : Fl → Loc → Hp → Prop) : Fl → Loc → Hp → Prop := fun f l h => match f with
  | .next => I l h
  | .cont => I l h
  | .brk => Q .next l h
  | .ret v => Q (.ret v) l h
noncomputable def WhT (body : Loc → Hp → (Fl → Loc → Hp → Prop) → Prop) (I : Loc → Hp → Prop) (Q : Fl → Loc → Hp → Prop) (l : Loc) : Bool → Hp → Prop := fun c h => if c = true then body l h (WhK I Q) else Q .next l h
/-- the least that is closed under a turn -/
noncomputable def WhileW (test : Loc → Hp → (Bool → Hp → Prop) → Prop) (body : Loc → Hp → (Fl → Loc → Hp → Prop) → Prop) (Q : Fl → Loc → Hp → Prop) (l : Loc) (hp : Hp) : Prop :=
  ∀ I : Loc → Hp → Prop, (∀ l hp, test l hp (WhT body I Q l) → I l hp) → I l hp
/-- behind a turn's body -/
theorem turn_end {I : Loc → Hp → Prop} {fl : Fl} {f : Flow} {l1 : Loc} {hp1 : Hp} {μ1 : List Addr} {s1 : Shared} {C : Shared → Prop} (H : HR G μ1 hp1 s1) (X : EnvR G A env l1 μ1 s1.heap) (st : Stp G (ownOf env) μ s μ1 s1) (hI : I l1 hp1 → C s1) {P : Result → Shared → Prop} (hP : ∀ f, PF G A env μ s S f s1 → P (.ok f) s1) (r : FlR μ1 s1.heap fl f) :
    WhK I S fl l1 hp1 → aftB C P f s1 := by
  refine r.cases (C := fun fl f => WhK I S fl l1 hp1 → aftB C P f s1) hI (fun q => ?_) hI fun p v r q => ?_
  · exact hP _ ⟨.next, l1, hp1, μ1, q, trivial, H, X, st⟩
  · exact hP _ ⟨.ret p, l1, hp1, μ1, q, r, H, X, st⟩
theorem s_while {t : Expr} {b : List Stmt} (h : WhileW (exT G n K t) (stL G n K b) S l hp) : stS G n K (.While t b [] p) l hp S := fun env hs A μ s R H X => by
  refine wpAny_While (codeAny_mono ?_ PW.out)
  refine h (fun l1 hp1 => ∀ μ1 s1, HR G μ1 hp1 s1 → EnvR G A env l1 μ1 s1.heap → Stp G (ownOf env) μ s μ1 s1 → codeAny G.M A (.whileLoop t b [] env) (PW G A env μ s S) s1) ?_ μ s H X (Stp.refl _ _)
  intro l1 hp1 hstep μ1 s1 H1 X1 st1
  refine while_step ((hstep env hs).run R H1 X1 fun c s2 hp2 μ2 q H2 X2 st2 => ?_)
  have st := st1.trans st2.up
  cases c with
  | false => exact wpAny_execs_nil ⟨⟨.next, l1, hp2, μ2, q, trivial, H2, X2, st⟩⟩
  | true =>
    refine wpAny_mono ((show stL G n K b l1 hp2 _ from q) env hs A μ2 s2 R H2 X2) (fun f s3 h3 => ?_) fun _ _ e => e.elim
    obtain ⟨fl, l3, hp3, μ3, q3, r3, H3, X3, st3⟩ := h3
    exact turn_end H3 X3 (st.trans st3) (fun q => q μ3 s3 H3 X3 (st.trans st3)) (fun f h => ⟨h⟩) r3 q3
/-! ## iterators -/
/-- what an iterator's turn may change: S -/
structure Turn (G : GI) (μ : List Addr) (hp : Hp) (S : Addr → Prop) (s s' : Shared) : Prop where
  keep : ∀ b o, ¬ S b → s.heap.get? b = some o → s'.heap.get? b = some o
  low : ∀ b, S b → G.h0.objs.size ≤ b
  opq : ∀ b o, S b → s.heap.get? b = some o → (sol o = false ∧ dc o = false) ∨ b ∈ μ
  obj : ∀ (i : Nat) (a : Addr) (m : MO), S a → μ[i]? = some a → hp[i]? = some m → ObjR μ s'.heap a m
  os : s'.os = s.os
  gens : s'.gens = s.gens
  toks : 1 ≤ s'.toks
section
variable {T : Addr → Prop}
theorem Turn.nt (t : Turn G μ hp T s s') (H : HR G μ hp s) {b : Addr} {o : Obj} (e : s.heap.get? b = some o) (h : sol o = true ∨ dc o = true) (hm : b ∉ μ) : ¬ T b := fun q => by
  rcases t.opq b o q e with ⟨h1, h2⟩ | h1
  · rcases h with h | h
    · rw [h] at h1; cases h1
    · rw [h] at h2; cases h2
  · exact hm h1
theorem Turn.vk (t : Turn G μ hp T s s') (H : HR G μ hp s) : VKeep μ s.heap s'.heap := fun b o e hv hl => t.keep b o (t.nt H e (.inl hv.sol_of) (H.notTracked e hv hl)) e
theorem Turn.rep (t : Turn G μ hp T s s') (H : HR G μ hp s) {x : PV} (r : Rep μ s.heap x v) : Rep μ s'.heap x v := r.mono (t.vk H) (Grow.refl _ _)
theorem Turn.kd (t : Turn G μ hp T s s') (H : HR G μ hp s) : KeptD s.heap s'.heap := fun b o e h => ⟨o, t.keep b o (t.nt H e (.inr h) (H.notMem e (dc_solid h))) e, rfl⟩
theorem Turn.hr (t : Turn G μ hp T s s') (H : HR G μ hp s) : HR G μ hp s' := by
  refine ⟨fun b x e => t.keep _ _ (fun q => absurd (Heap.lt_size e) (Nat.not_lt.mpr (t.low b q))) (H.base b x e), ?_, t.os.trans H.os, t.gens ▸ H.gens, t.toks, H.nodup, H.len, H.low, fun i a m h1 h2 => ?_⟩
  · obtain ⟨ps, e, ht, hc⟩ := H.tab
    have nm : ∀ {b o vs v}, s.heap.get? b = some o → o.data = .fields vs → o.cls = v → isItC v = false → b ∉ μ := fun e hd hc hi hm => by
      obtain ⟨m, x, _⟩ := H.at hm
      cases m with
      | list vs => obtain ⟨ws, n, e2, _⟩ := x; rw [e] at e2; cases e2; cases hd
      | obj => rw [show s.heap.get? _ = some objO from x] at e; cases e; cases hd
      | hid => obtain ⟨p, e2⟩ := x; rw [e] at e2; cases e2; cases hd
    refine ⟨ps, t.keep _ _ (t.nt H e (.inl rfl) (nm e rfl rfl rfl)) e, ht, fun pos c hp' => ?_⟩
    obtain ⟨b, o', q1, q2, q3, vs, q, t', q4, q5, q6⟩ := hc pos c hp'
    exact ⟨b, o', q1, t.keep _ _ (t.nt H q2 (.inl (solid_fields q4 q6 rfl)) (nm q2 q4 q6 rfl)) q2, q3, vs, q, t', q4, q5, q6⟩
  · by_cases hS : T a
    · exact t.obj i a m hS h1 h2
    · exact (H.obj i a m h1 h2).kept (fun o e _ => t.keep a o hS e) fun r => r.mono (t.vk H) (Grow.refl _ _)
theorem Turn.envr (t : Turn G μ hp T s s') (H : HR G μ hp s) (X : EnvR G A env l μ s.heap) : EnvR G A env l μ s'.heap := X.keep (t.kd H) fun r => t.rep H r
theorem Turn.stp (t : Turn G μ hp T s s') {μ0 : List Addr} {s0 : Shared} (st : Stp G own μ0 s0 μ s) (h0 : ∀ b, T b → s0.heap.get? b = none) : Stp G own μ0 s0 μ s' := by
  have ne : ∀ b o, s0.heap.get? b = some o → ¬ T b := fun b o e q => by rw [h0 b q] at e; cases e
  refine ⟨fun b o e h1 h2 h3 => UpS.trans (st.keepU b o e h1 h2 h3) fun o' e' => .inl (t.keep _ _ (ne b o e) e'), st.grow, fun b o e => ?_⟩
  obtain ⟨o', e'⟩ := st.live b o e
  exact ⟨o', t.keep _ _ (ne b o e) e'⟩
end
/-- an iterator: what it gives, turn by turn -/
structure Itr (G : GI) (t : Expr) (I : Addr) (T : Addr → Prop) (xs : List PV) (chk : Hp → Prop) (It : Nat → List Addr → Hp → Heap → Prop) : Prop where
  item : ∀ {A : Around} {i : Nat} {μ : List Addr} {hp : Hp} {s : Shared} {x : PV} {P : Value → Shared → Prop}, A.handled = none → HR G μ hp s → It i μ hp s.heap → xs[i]? = some x →
    (∀ w s', Rep μ s'.heap x w → It (i + 1) μ hp s'.heap → HR G μ hp s' → KeptD s.heap s'.heap → VKeep μ s.heap s'.heap → (∀ {own μ0 s0}, Stp G own μ0 s0 μ s → (∀ b, T b → s0.heap.get? b = none) → Stp G own μ0 s0 μ s') → P w s') →
    wpAny G.M A (pyNext (.ref I)) (fun r s1 => ∃ w, r = some w ∧ wpAny G.M A (letOwnedTupleGo t (.ref I) w) (fun _ => P w) noE s1) noE s
  done : ∀ {A : Around} {i : Nat} {μ : List Addr} {hp : Hp} {s : Shared} {P : Option Value → Shared → Prop}, A.handled = none → HR G μ hp s → It i μ hp s.heap → xs.length ≤ i →
    (∀ s', Turn G μ hp T s s' → P none s') → wpAny G.M A (pyNext (.ref I)) P noE s
  again : ∀ {A : Around} {i : Nat} {μ : List Addr} {hp : Hp} {s : Shared} {P : Value → Shared → Prop}, It i μ hp s.heap → P (.ref I) s → wpAny G.M A (pyIter (.ref I)) P noE s
  step : ∀ {own : Addr → Prop} {i : Nat} {μ : List Addr} {hp : Hp} {s : Shared} {μ' : List Addr} {hp' : Hp} {s' : Shared}, It i μ hp s.heap → HR G μ hp s → Stp G own μ s μ' s' → (∀ a o, own a → s.heap.get? a = some o → dc o = true) → chk hp' → It i μ' hp' s'.heap
noncomputable def FoK (chk : Hp → Prop) (I : Loc → Hp → Prop) (Q : Fl → Loc → Hp → Prop) : Fl → Loc → Hp → Prop := WhK (fun l h => chk h ∧ I l h) Q
noncomputable def forL (body : PV → Loc → Hp → (Fl → Loc → Hp → Prop) → Prop) (chk : Hp → Prop) (Q : Fl → Loc → Hp → Prop) : List PV → Loc → Hp → Prop
  | [], l, hp => Q .next l hp
  | x :: xs, l, hp => body x l hp (FoK chk (forL body chk Q xs) Q)
noncomputable abbrev cBd (G : GI) (n : Nat) (K : Cfg) (b : List Stmt) (h : Hp) (k : Fl → Loc → Hp → Prop) : Loc → Prop := fun l1 => stL G n K b l1 h k
noncomputable abbrev bFor (G : GI) (n : Nat) (K : Cfg) (t : Expr) (b : List Stmt) : PV → Loc → Hp → (Fl → Loc → Hp → Prop) → Prop := fun z l h k => bindT K.sc t z l (cBd G n K b h k)
theorem drop_cons {α : Type} {xs : List α} {i : Nat} {y : α} {ys : List α} (hd : xs.drop i = y :: ys) : xs[i]? = some y ∧ xs.drop (i + 1) = ys := by
  constructor
  · have := congrArg (·[0]?) hd
    rwa [List.getElem?_drop] at this
  · rw [← List.tail_drop, hd]; rfl
theorem for_loop {t : Expr} {b : List Stmt} {xs : List PV} {I : Addr} {T : Addr → Prop} {It : Nat → List Addr → Hp → Heap → Prop} {chk : Hp → Prop} {μ0 : List Addr} {s0 : Shared} (hs : env.scope = K.sc) (R : Room n A) (it : Itr G t I T xs chk It) (hI1 : ∀ b, T b → s0.heap.get? b = none) :
    ∀ (ys : List PV) (i : Nat) (l : Loc) (hp : Hp) (μ : List Addr) (s : Shared), xs.drop i = ys → HR G μ hp s → EnvR G A env l μ s.heap → Stp G (ownOf env) μ0 s0 μ s → It i μ hp s.heap → chk hp → forL (bFor G n K t b) chk S ys l hp →
      codeAny G.M A (.forLoop t (.ref I) b [] env) (PW G A env μ0 s0 S) s := by
  intro ys
  induction ys with
  | nil =>
    intro i l hp μ s hd H X st sI hc h
    exact for_step (it.done R.handled H sI (List.drop_eq_nil_iff.mp hd) fun s1 mv => wpAny_execs_nil ⟨⟨.next, l, hp, μ, h, trivial, mv.hr H, mv.envr H X, mv.stp st hI1⟩⟩)
  | cons y ys ih =>
    intro i l hp μ s hd H X st sI hc h
    obtain ⟨hi, hd'⟩ := drop_cons hd
    refine for_step (wpAny_mono (it.item (P := fun w s1 => wpAny G.M A (assign t env w) (fun _ s₂ => wpAny G.M A (execs b env) (aftB (codeAny G.M A (.forLoop t (.ref I) b [] env) (PW G A env μ0 s0 S)) (PW G A env μ0 s0 S)) noE s₂) noE s1) R.handled H sI hi fun w s1 r1 sI1 H1 kd vk tst => ?_) (fun r s1 h1 => ?_) fun _ _ e => e)
    · obtain ⟨l2, xs2, hb, q⟩ := h
      have X1 := X.keep kd fun r => r.mono vk (Grow.refl _ _)
      refine wpAny_mono (bind_run (own := ownOf env) R.handled (hs ▸ hb) (fun _ _ _ => ownX_of) H1 X1 r1) (fun _ s2 h2 => ?_) fun _ _ e => e
      obtain ⟨H2, X2, st2⟩ := h2
      have sI2 := it.step sI1 H1 st2 (fun a o => X1.ownDc) hc
      refine wpAny_mono (q env hs A μ s2 R H2 X2) (fun f s3 h3 => ?_) fun _ _ e => e
      obtain ⟨fl, l3, hp3, μ3, q3, r3, H3, X3, st3⟩ := h3
      have stt := ((tst st hI1).trans st2).trans st3
      exact turn_end (I := fun l h => chk h ∧ forL (bFor G n K t b) chk S ys l h) H3 X3 stt (fun q => ih (i + 1) l3 hp3 μ3 s3 hd' H3 X3 stt (it.step sI2 H2 st3 (fun a o => X2.ownDc) q.1) q.1 q.2) (fun f h => ⟨h⟩) r3 q3
    · obtain ⟨w, rfl, h1⟩ := h1
      exact h1
/-- v may be walked: what it gives -/
noncomputable def IterR (G : GI) (hp : Hp) (v : PV) (xs : List PV) (chk : Hp → Prop) : Prop := ∀ {A : Around} {μ : List Addr} {s : Shared} {w : Value} {P : Value → Shared → Prop}, HR G μ hp s → G.h0.objs.size ≤ s.heap.objs.size → Rep μ s.heap v w →
  (∀ I T It s', (∀ t, Itr G t I T xs chk It) → (∀ b, T b → s.heap.objs.size ≤ b) → It 0 μ hp s'.heap → HR G μ hp s' → Stp G noOwn μ s μ s' → P (.ref I) s') → wpAny G.M A (pyIter w) P noE s
inductive cFo (G : GI) (n : Nat) (K : Cfg) (t : Expr) (b : List Stmt) (l : Loc) (S : Fl → Loc → Hp → Prop) (v : PV) (h : Hp) : Prop
  | mk (xs : List PV) (chk : Hp → Prop) (e : IterR G h v xs chk) (hc : chk h) (q : forL (bFor G n K t b) chk S xs l h)
theorem kFo {t : Expr} {b : List Stmt} {v : PV} {h : Hp} {xs : List PV} {chk : Hp → Prop} (e : IterR G h v xs chk) (hc : chk h) (q : forL (bFor G n K t b) chk S xs l h) : cFo G n K t b l S v h := ⟨xs, chk, e, hc, q⟩
theorem none_of {s0 : Shared} {b : Addr} (st : Stp G own μ s0 μ' s) (h : s.heap.objs.size ≤ b) : s0.heap.get? b = none := by
  cases e : s0.heap.get? b with
  | none => rfl
  | some o =>
    obtain ⟨o', e'⟩ := st.live _ _ e
    exact absurd (Heap.lt_size e') (Nat.not_lt.mpr h)
theorem s_for {t iter : Expr} {b : List Stmt} (oki : ∀ env x, foldedSetIterable iter env x = pure x) (h : exE G n K iter l hp (cFo G n K t b l S)) : stS G n K (.For t iter b [] p) l hp S := fun env hs A μ s R H X =>
  wpAny_For ((h env hs).run R H X fun v s1 pv hp1 μ1 q r H1 X1 st1 => by
    obtain ⟨xs, chk, e1, hc, hf⟩ := q
    refine e1 H1 X1.base r fun I T It s2 it low sI H2 st2 => ?_
    exact codeAny_mono (for_loop hs R (it _) (fun b hb => none_of st1 (low b hb)) xs 0 l hp1 μ1 s2 rfl H2 (X1.step H1 st2) (st1.trans st2).up sI hc hf) PW.out) (oki env)
/-! the iterators of texts, tuples, lists and ranges -/
theorem go_run {t : Expr} {I : Addr} {P : Unit → Shared → Prop} {o : Obj} {c : String} {vs : Array Value} (ho : s.heap.get? I = some o) (hc : o.cls = .type c) (hm : c ∈ itCls) (hd : o.data = .fields vs) (h : P () s) : wpAny G.M A (letOwnedTupleGo t (.ref I) w) P noE s := by
  have key : ∀ a : Addr, wpAny G.M A (do
      let o ← load I
      match o.cls, o.data with
      | .type n, .fields vs =>
        if ["enumerate", "zip", "dict_itemiterator", "dict_reverseitemiterator", "odict_iterator", "itertools.zip_longest", "itertools.pairwise"].contains n && vs[0]? == some (rawInt a) then
          rule "for.unpacks-the-owned-tuple"
          updateField I 0 .none
      | _, _ => pure ()) P noE s := by
    intro a
    refine wpAny_bind (wpAny_load ho ?_)
    rw [hc, hd]
    simp only []
    rw [if_neg]
    · exact wpAny_pure h
    · simp only [itCls, List.mem_cons, List.not_mem_nil, or_false] at hm
      rcases hm with rfl | rfl | rfl | rfl | rfl <;> simp
  unfold letOwnedTupleGo
  split
  · cases w <;> first | exact wpAny_pure h | exact key _
  · cases w <;> first | exact wpAny_pure h | exact key _
  · exact wpAny_pure h
/-- a plain iterator's object -/
inductive PlI (h : Heap) (I : Addr) : Prop
  | mk (o : Obj) (c : String) (vs : Array Value) (ho : h.get? I = some o) (hc : o.cls = .type c) (hm : c ∈ itCls) (hd : o.data = .fields vs)
theorem PlI.opq {h : Heap} {I : Addr} (x : PlI h I) {o : Obj} (e : h.get? I = some o) : sol o = false ∧ dc o = false := by
  obtain ⟨o', c, vs, ho, hc, hm, hd⟩ := x
  rw [ho] at e; cases e
  unfold sol dc
  rw [hd]
  exact ⟨by show (!isItC o.cls) = false; rw [hc]; show (!(c == "zip" || itCls.contains c)) = false; rw [List.contains_iff_mem.mpr hm, Bool.or_true]; rfl, rfl⟩
theorem PlI.turn {I : Addr} {h' : Heap} {k : Nat} (x : PlI s.heap I) (H : HR G μ hp s) (h0 : G.h0.objs.size ≤ I) (he : Heap.ExtBut I s.heap h') (hk : 1 ≤ k) : Turn G μ hp (· = I) s { s with heap := h', toks := k } :=
  ⟨fun b o hb e => he b o hb e, fun b hb => hb ▸ h0, fun b o hb e => .inl (x.opq (hb ▸ e)), fun i a m ha h1 _ => by
    subst ha
    obtain ⟨o, c, vs, ho, hc, hm, hd⟩ := id x
    exact absurd (List.mem_of_getElem? h1) (H.notMem ho (x.opq ho).1), rfl, rfl, hk⟩
/-- how one plain iterator is told: its state by the turn, what a turn does, and what keeps it -/
theorem plain_itr {I : Addr} {xs : List PV} {chk : Hp → Prop} {It : Nat → List Addr → Hp → Heap → Prop} (h0 : G.h0.objs.size ≤ I) (hp : ∀ {i μ hp h}, It i μ hp h → PlI h I)
    (item : ∀ {A : Around} {i : Nat} {μ : List Addr} {hp : Hp} {s : Shared} {x : PV} {P : Option Value → Shared → Prop}, HR G μ hp s → It i μ hp s.heap → xs[i]? = some x →
      (∀ w h' k, Rep μ s.heap x w → Heap.ExtBut I s.heap h' → 1 ≤ k → (Turn G μ hp (· = I) s { s with heap := h', toks := k } → It (i + 1) μ hp h') → P (some w) { s with heap := h', toks := k }) → wpAny G.M A (pyNext (.ref I)) P noE s)
    (done : ∀ {A : Around} {i : Nat} {μ : List Addr} {hp : Hp} {s : Shared} {P : Option Value → Shared → Prop}, A.handled = none → HR G μ hp s → It i μ hp s.heap → xs.length ≤ i → (∀ h', Heap.ExtBut I s.heap h' → P none { s with heap := h' }) → wpAny G.M A (pyNext (.ref I)) P noE s)
    (step : ∀ {i : Nat} {μ : List Addr} {hp : Hp} {h : Heap} {μ' : List Addr} {hp' : Hp} {h' : Heap}, It i μ hp h → (∀ o, h.get? I = some o → h'.get? I = some o) → VKeep μ h h' → Grow h μ μ' → chk hp' → It i μ' hp' h')
    (again : ∀ {A : Around} {i : Nat} {μ : List Addr} {hp : Hp} {s : Shared} {P : Value → Shared → Prop}, It i μ hp s.heap → P (.ref I) s → wpAny G.M A (pyIter (.ref I)) P noE s) (t : Expr) : Itr G t I (· = I) xs chk It := by
  refine ⟨fun {A i μ hp' s x P} hh H sI hi hP => item H sI hi fun w h' k r he hk nx => ?_, fun hh H sI hi hP => done hh H sI hi fun h' he => hP _ ((hp sI).turn H h0 he H.toks), again, fun {own i μ hp1 s μ' hp' s'} sI H st hown hc => ?_⟩
  · have tn := (hp sI).turn H h0 he hk
    have sI1 := nx tn
    obtain ⟨o, c, vs, ho, hc, hm, hd⟩ := hp sI1
    exact ⟨w, rfl, go_run (s := { s with heap := h', toks := k }) ho hc hm hd (hP w _ (tn.rep H r) sI1 (tn.hr H) (tn.kd H) (tn.vk H) fun st h1 => tn.stp st h1)⟩
  · refine step sI (fun o e => ?_) (H.vkeep st fun a o h1 h2 => IsVal.not (dc_solid (hown a o h1 h2))) st.grow hc
    obtain ⟨o', c, vs, ho, hc, hm, hd⟩ := id (hp sI)
    rw [ho] at e; cases e
    exact st.keep _ _ ho (H.notMem ho ((hp sI).opq ho).1) (H.notP ho (.inl (by rw [hc]; exact fun q => nomatch q))) (fun q => by have := hown _ _ q ho; rw [((hp sI).opq ho).2] at this; cases this) fun es k q => by rw [hd] at q; cases q
theorem Itr.start {xs : List PV} {chk : Hp → Prop} {It : Nat → List Addr → Hp → Heap → Prop} {o : Obj} {P : Value → Shared → Prop} (it : ∀ t, Itr G t s.heap.objs.size (· = s.heap.objs.size) xs chk It) (H : HR G μ hp s) (h0 : It 0 μ hp (s.heap.push o))
    (hP : ∀ I T It s', (∀ t, Itr G t I T xs chk It) → (∀ b, T b → s.heap.objs.size ≤ b) → It 0 μ hp s'.heap → HR G μ hp s' → Stp G noOwn μ s μ s' → P (.ref I) s') : P (.ref s.heap.objs.size) { s with heap := s.heap.push o } :=
  hP _ _ It _ it (fun b hb => Nat.le_of_eq hb.symm) h0 (H.push o) (Stp.push _ _ _)
/-- walking a list, by its items -/
inductive LsI (Hd : List Addr → Hp → Heap → Addr → List PV → Prop) (I : Addr) (xs : List PV) (i : Nat) (μ : List Addr) (hp : Hp) (h : Heap) : Prop
  | mk (a : Addr) (hi : h.IsListIter I a i) (q : Hd μ hp h a xs)
theorem ls_iter {v : PV} {xs : List PV} {chk : Hp → Prop} {Hd : List Addr → Hp → Heap → Addr → List PV → Prop}
    (get : ∀ {μ hp s a}, HR G μ hp s → Hd μ hp s.heap a xs → ∃ ws m, s.heap.get? a = some (lstO ws m) ∧ RepL μ s.heap xs ws.toList ∧ ws.size = xs.length)
    (keep : ∀ {μ hp h μ' hp' h' a}, Hd μ hp h a xs → VKeep μ h h' → Grow h μ μ' → chk hp' → Hd μ' hp' h' a xs) (hk : ∀ {μ hp h a}, Hd μ hp h a xs → chk hp)
    (st : ∀ {μ s w}, HR G μ hp s → Rep μ s.heap v w → ∃ a, w = .ref a ∧ Hd μ hp s.heap a xs) : IterR G hp v xs chk := fun {A μ s w P} H hb r hP => by
  obtain ⟨a, rfl, hd⟩ := st H r
  obtain ⟨ws, m, ho, _, _⟩ := get H hd
  refine wpAny_pyIter_list ⟨_, ho, rfl, _, rfl⟩ (Itr.start (It := LsI Hd s.heap.objs.size xs) (plain_itr hb ?_ ?_ ?_ ?_ ?_) H ⟨a, ⟨_, Heap.get?_push_size _ rfl, rfl, rfl⟩, keep hd (pushKeep s _) (Grow.refl _ _) (hk hd)⟩ hP)
  · intro i μ hp h x
    obtain ⟨a, ⟨o, e1, e2, e3⟩, _⟩ := x
    exact ⟨o, _, _, e1, e2, by simp [itCls], e3⟩
  · intro A i μ hp s x P H sI hi hP
    obtain ⟨a, hit, hd⟩ := sI
    obtain ⟨ws, m, ho, rs, n1⟩ := get H hd
    obtain ⟨w, hw, rw'⟩ := rs.get hi
    exact wpAny_pyNext_list_item hit ⟨_, ho, rfl, _, rfl⟩ (x := w) (by rw [← Array.getElem?_toList]; exact hw) fun h' hit' hs' => hP w h' s.toks rw' hs'.extBut H.toks fun tn => ⟨a, hit', keep hd (tn.vk H) (Grow.refl _ _) (hk hd)⟩
  · intro A i μ hp s P hh H sI hi hP
    obtain ⟨a, hit, hd⟩ := sI
    obtain ⟨ws, m, ho, rs, n1⟩ := get H hd
    exact wpAny_pyNext_list_end hh hit ⟨_, ho, rfl, _, rfl⟩ (Array.getElem?_eq_none (n1 ▸ hi)) hP
  · intro i μ hp h μ' hp' h' sI kI vk g hc
    obtain ⟨a, ⟨o, e1, e2⟩, hd⟩ := sI
    exact ⟨a, ⟨o, kI _ e1, e2⟩, keep hd vk g hc⟩
  · intro A i μ hp s P sI h
    obtain ⟨a, hit, _⟩ := sI
    exact wpAny_pyIter_listiter hit h
theorem iter_lst (vs : List PV) : IterR G hp (.list vs) vs fun _ => True :=
  ls_iter (Hd := fun μ hp h a xs => ∃ ws m, h.get? a = some (lstO ws m) ∧ a ∉ μ ∧ RepL μ h xs ws.toList) (fun H q => by obtain ⟨ws, m, ho, _, rs⟩ := q; exact ⟨ws, m, ho, rs, rs.size⟩)
    (fun q vk g _ => by obtain ⟨ws, m, ho, hm, rs⟩ := q; exact ⟨ws, m, vk _ _ ho trivial (fun _ => hm), g.not hm ho, rs.mono vk g⟩) (fun _ => trivial) fun H r => by obtain ⟨a, ws, m, rfl, ho, hm, rs⟩ := r; exact ⟨a, rfl, ws, m, ho, hm, rs⟩
theorem range_get {a b c : Int} {i : Nat} {x : PV} (hi : ((rangeL a b c).map PV.int)[i]? = some x) : x = .int (a + i * c) := by
  rw [List.getElem?_map] at hi
  obtain ⟨z, hz, rfl⟩ := Option.map_eq_some_iff.mp hi
  unfold rangeL at hz
  rw [List.getElem?_map] at hz
  obtain ⟨k, hk, rfl⟩ := Option.map_eq_some_iff.mp hz
  rw [(List.getElem?_eq_some_iff.mp hk).2.symm, List.getElem_range]
theorem iter_rng {a b c : Int} (hr : rngOk a b c = true) : IterR G hp (.range a b c) ((rangeL a b c).map .int) fun _ => True := fun {A μ s w P} H hb r hP => by
  obtain ⟨rr, ta, tb, tc, rfl, ho⟩ := r
  have hz := rangeSize_eq (a := a) (b := b) (rng_iff hr).2.2
  refine wpAny_pyIter_range ho (range_small hr) (Itr.start (It := fun i μ hp h => IsRangeIter h s.heap.objs.size (a + i * c) ((((rangeL a b c).length : Nat) : Int) - i) c) (plain_itr hb ?_ ?_ ?_ ?_ ?_) H ?_ hP)
  · intro i μ hp h x
    exact ⟨_, _, _, x, rfl, by simp [itCls], rfl⟩
  · intro A i μ hp s x P H sI hi hP
    have hlt := (List.getElem?_eq_some_iff.mp hi).1
    rw [List.length_map] at hlt
    cases range_get hi
    refine wpAny_pyNext_range_item sI (by omega) fun h' hit' hs' => hP _ h' (s.toks + 1) rint hs'.extBut (Nat.le_add_left _ _) fun tn => ?_
    have e1 : a + ((i + 1 : Nat) : Int) * c = a + (i : Int) * c + c := by push_cast; rw [Int.add_mul, Int.one_mul, Int.add_assoc]
    have e2 : (((rangeL a b c).length : Nat) : Int) - ((i + 1 : Nat) : Int) = (((rangeL a b c).length : Nat) : Int) - (i : Int) - 1 := by push_cast; omega
    show IsRangeIter _ _ _ _ _
    rw [e1, e2]; exact hit'
  · intro A i μ hp s P hh H sI hi hP
    rw [List.length_map] at hi
    exact wpAny_pyNext_range_end hh sI (by omega) hP
  · intro i μ hp h μ' hp' h' sI kI vk g hc
    exact kI _ sI
  · intro A i μ hp s P sI h
    exact wpAny_pyIter_rangeiter sI h
  · have e1 : a + ((0 : Nat) : Int) * c = a := by simp
    have e2 : (((rangeL a b c).length : Nat) : Int) - ((0 : Nat) : Int) = Builtin.Range.rangeSize a b c := by rw [hz]; simp
    show IsRangeIter _ _ _ _ _
    rw [e1, e2]
    exact Heap.get?_push_size _ rfl
end

section
open PySem PySem.W PyProof.Rows
open Sem (wp)
set_option linter.unusedVariables false
set_option linter.unusedSimpArgs false
set_option maxRecDepth 100000
set_option maxHeartbeats 2000000
variable {G : GI} {n : Nat} {A : Around} {μ μ' : List Addr} {hp hp' : Hp} {s s' : Shared} {Q : PV → Hp → Prop} {env : Env} {l l' : Loc} {K : Cfg} {p p1 p2 : Pos} {k : Nat} {v w : Value} {own : Addr → Prop} {S : Fl → Loc → Hp → Prop}
section
variable {prog : Program} {w : World} {E : Value → Shared → Prop}
end
theorem HR.add {a : Addr} {h' : Heap} {m : MO} (H : HR G μ hp s) (keep : ∀ b o, s.heap.get? b = some o → h'.get? b = some o) (hn : s.heap.get? a = none) (low : G.h0.objs.size ≤ a) (hO : ObjR (μ ++ [a]) h' a m) :
    HR G (μ ++ [a]) (hp ++ [m]) { s with heap := h' } ∧ Stp G noOwn μ s (μ ++ [a]) { s with heap := h' } := by
  have g : Grow s.heap μ (μ ++ [a]) := ⟨[a], rfl, fun b hb => by rw [List.mem_singleton.mp hb]; exact hn⟩
  have P : HR G μ hp { s with heap := h' } := H.ext keep rfl rfl H.toks
  have na : a ∉ μ := fun q => by
    obtain ⟨m, x, _⟩ := H.at q
    obtain ⟨o, e, _⟩ := x.sol_of
    rw [hn] at e; cases e
  refine ⟨⟨P.base, P.tab, P.os, P.gens, P.toks, ?_, by rw [List.length_append, List.length_append, H.len]; rfl, fun b hb => ?_, fun i b m' h1 h2 => ?_⟩, .of (fun b o e _ _ _ => keep b o e) g fun b o e => ⟨o, keep b o e⟩⟩
  · rw [List.nodup_append]
    refine ⟨H.nodup, List.pairwise_singleton .., fun b hb c hc => ?_⟩
    rw [List.mem_singleton.mp hc]
    rintro rfl; exact na hb
  · rcases List.mem_append.mp hb with q | q
    · exact H.low b q
    · rw [List.mem_singleton.mp q]; exact low
  · rcases Nat.lt_or_ge i μ.length with hl | hl
    · rw [List.getElem?_append_left hl] at h1
      rw [List.getElem?_append_left (by rw [← H.len]; exact hl)] at h2
      exact (H.obj i b m' h1 h2).kept (fun o' e _ => keep _ _ e) fun r => r.mono (fun b o e _ _ => keep b o e) g
    · rw [List.getElem?_append_right hl] at h1
      rw [List.getElem?_append_right (by rw [← H.len]; exact hl), ← H.len] at h2
      generalize i - μ.length = k at h1 h2
      cases k with
      | zero => cases h1; cases h2; exact hO
      | succ k => cases h1
end

section
open PySem PySem.W PyProof.Rows
open Sem (wp)
set_option linter.unusedVariables false
set_option linter.unusedSimpArgs false
set_option maxRecDepth 100000
set_option maxHeartbeats 2000000
variable {G : GI} {n : Nat} {A : Around} {μ μ' : List Addr} {hp hp' : Hp} {s s' : Shared} {Q : PV → Hp → Prop} {env : Env} {l : Loc} {K : Cfg} {v w : Value}
section
variable {prog : Program} {w : World} {R : Result → Shared → Prop}
theorem comp_step {elt target iter : Expr} {ifs : List Expr} {scope : Scope} {pos : Pos} {it acc : Value}
    (turn : wpAny (model prog w) A (pyNext it) (fun r s₁ => match r with
      | none => R (.ok .next) s₁
      | some v => wpAny (model prog w) A (letOwnedTupleGo target it v) (fun _ s1' => wpAny (model prog w) A (assign target env v) (fun _ s₂ =>
          wpAny (model prog w) A (forIn ifs true fun c r => if r = true then do let ok ← isTrue c env (eval c env); pure (ForInStep.yield ok) else pure (ForInStep.yield r)) (fun ok s₃ =>
            if ok = true then wpAny (model prog w) A (eval elt env) (fun x s₄ =>
              wpAny (model prog w) A (call (.builtin "list.append") [acc, x]) (fun _ s₅ => codeAny (model prog w) A (.compLoop (.ListComp elt [⟨target, iter, ifs, 0⟩] scope pos) 0 it acc env) R s₅) noE s₄) noE s₃
            else codeAny (model prog w) A (.compLoop (.ListComp elt [⟨target, iter, ifs, 0⟩] scope pos) 0 it acc env) R s₃) noE s₂) noE s1') noE s₁) noE s) :
    codeAny (model prog w) A (.compLoop (.ListComp elt [⟨target, iter, ifs, 0⟩] scope pos) 0 it acc env) R s := by
  refine codeAny_of_tree ?_
  show wpAny _ A ((compTurn (.ListComp elt [⟨target, iter, ifs, 0⟩] scope pos) 0 it acc env).onRaise (fun x => do noteFrame x env; theTreesLotGoes x)) _ _ s
  refine wpAny_noted ?_
  rw [compTurn_list]
  refine wpAny_bind (wpAny_standAt (wpAny_bind (wpAny_mono turn (fun r s₁ h₁ => ?_) fun _ _ h' => h'.elim)))
  cases r with
  | none => exact wpAny_pure h₁
  | some v =>
    refine wpAny_bind (wpAny_mono h₁ (fun _ s1' h1' => ?_) fun _ _ h' => h'.elim)
    refine wpAny_bind (wpAny_mono h1' (fun _ s₂ h₂ => wpAny_bind (wpAny_mono h₂ (fun ok s₃ h₃ => ?_) fun _ _ h' => h'.elim)) fun _ _ h' => h'.elim)
    cases ok with
    | false => exact wpAny_pure ⟨rfl, h₃⟩
    | true =>
      exact wpAny_bind (wpAny_bind (wpAny_mono h₃ (fun x s₄ h₄ => wpAny_bind (wpAny_mono h₄ (fun _ s₅ h₅ => wpAny_pure (wpAny_pure ⟨rfl, h₅⟩)) fun _ _ h' => h'.elim)) fun _ _ h' => h'.elim))
end
/-- the cells that a block takes over -/
noncomputable def clos (env : Env) : List (Str × NameKind) → List (Str × Addr) → List (Str × Addr)
  | [], acc => acc
  | (x, k) :: r, acc => clos env r (if k == .free then (match env.cells.lookup x with
    | some c => (x, c) :: acc
    | none => acc) else acc)
theorem clos_eq {sc : Scope} (hs : env.scope = sc) (X : ∀ y, env.kindOf y = some .cell ∨ env.kindOf y = some .free → ∃ c, env.cells.lookup y = some c) :
    ∀ (names : List (Str × NameKind)) (acc : List (Str × Addr)), (names.all fun x => x.2 != .free || sc.names.lookup x.1 == some .cell || sc.names.lookup x.1 == some .free) = true →
      (forIn names acc fun x cs => (match x with | (name, kind) => if kind == .free then do let c ← cellOf env name; pure (ForInStep.yield ((name, c) :: cs)) else pure (ForInStep.yield cs)) : Sem (List (Str × Addr))) = pure (clos env names acc)
  | [], acc, _ => rfl
  | (x, k) :: r, acc, h => by
      simp only [List.all_cons, Bool.and_eq_true] at h
      rw [List.forIn_cons]
      unfold clos
      by_cases hk : (k == .free) = true
      · simp only [hk, if_true]
        have hk' : k = .free := by simpa using hk
        have : ∃ c, env.cells.lookup x = some c := by
          refine X x ?_
          rw [Env.kindOf, hs]
          have := h.1
          simp only [hk', bne_self_eq_false, Bool.false_or, Bool.or_eq_true, beq_iff_eq] at this
          exact this
        obtain ⟨c, hc⟩ := this
        rw [hc]
        have e : cellOf env x = pure c := by unfold cellOf; rw [hc]
        rw [e]
        show _ = pure (clos env r ((x, c) :: acc))
        rw [← clos_eq hs X r ((x, c) :: acc) h.2]
        rfl
      · have hk' : (k == .free) = false := by simpa using hk
        simp only [hk', Bool.false_eq_true, if_false]
        rw [← clos_eq hs X r acc h.2]
        rfl
noncomputable def blockE (csc : Scope) (cl : List (Str × Addr)) (C : Addr) (env : Env) : Env :=
  { scope := csc, locals := C, globals := env.globals, cells := cellsFrom (C + 1) csc.names cl, qual := env.qual, func := none, code := env.code, frame := env.frame, builtins := env.builtins }
noncomputable abbrev dictO : Obj := { cls := .type "dict", data := .dict #[] }
theorem block_env {M : Model} {csc : Scope} {cl : List (Str × Addr)} {E : Value → Shared → Prop} {Q : Env → Shared → Prop} (h : Q (blockE csc cl s.heap.objs.size env) { s with heap := pushCells (s.heap.push dictO) csc.names }) :
    wpAny M A (newFunctionEnv csc env.globals cl [] env.qual none .none (some env)) Q E s := by
  simp only [newFunctionEnv, Option.isSome_some, if_true]
  refine wpAny_bind (wpAny_alloc ?_)
  refine wpAny_bind (wpAny_layCells _ (fun name kind cells => by cases hkc : kind == NameKind.cell <;> simp [hkc]) _ _ _ _ ?_)
  rw [show ({ s with heap := s.heap.push dictO } : Shared).heap.objs.size = s.heap.objs.size + 1 from Heap.size_push ..]
  first
    | exact wpAny_pure h
    | exact wpAny_bind (wpAny_pure (wpAny_pure h))
    | (simp only [List.forIn_nil]; exact wpAny_bind (wpAny_pure (wpAny_pure h)))
/-! the cells of a block -/
theorem clos_mem : ∀ {names : List (Str × NameKind)} {acc : List (Str × Addr)} {x : Str} {c : Addr}, (x, c) ∈ clos env names acc → (x, c) ∈ acc ∨ ((x, NameKind.free) ∈ names ∧ env.cells.lookup x = some c)
  | [], _, _, _, h => .inl h
  | (y, k) :: r, acc, x, c, h => by
      unfold clos at h
      rcases clos_mem h with q | ⟨q1, q2⟩
      · split at q
        · rename_i hk
          have hk : k = .free := by simpa using hk
          split at q
          · rename_i c' hc
            rcases List.mem_cons.mp q with e | e
            · cases e; exact .inr ⟨by rw [hk]; exact List.mem_cons_self .., hc⟩
            · exact .inl e
          · exact .inl q
        · exact .inl q
      · exact .inr ⟨List.mem_cons_of_mem _ q1, q2⟩
theorem clos_look : ∀ {names : List (Str × NameKind)} {acc : List (Str × Addr)} {x : Str}, (x, NameKind.free) ∉ names → (clos env names acc).lookup x = acc.lookup x
  | [], _, _, _ => rfl
  | (y, k) :: r, acc, x, h => by
      unfold clos
      rw [clos_look (fun q => h (List.mem_cons_of_mem _ q))]
      split
      · rename_i hk
        have hk : k = .free := by simpa using hk
        split
        · rw [List.lookup_cons]
          have : (x == y) = false := by
            rw [beq_eq_false_iff_ne]; rintro rfl; exact h (by rw [hk]; exact List.mem_cons_self ..)
          rw [this]
        · rfl
      · rfl
theorem clos_free : ∀ {names : List (Str × NameKind)} {acc : List (Str × Addr)} {x : Str} {c : Addr}, (names.map (·.1)).Nodup → (x, NameKind.free) ∈ names → env.cells.lookup x = some c → (clos env names acc).lookup x = some c
  | [], _, _, _, _, h, _ => by cases h
  | (y, k) :: r, acc, x, c, hn, h, hc => by
      rw [List.map_cons, List.nodup_cons] at hn
      unfold clos
      rcases List.mem_cons.mp h with e | e
      · cases e
        rw [clos_look (fun q => hn.1 (List.mem_map.mpr ⟨_, q, rfl⟩))]
        simp [hc, List.lookup_cons]
      · exact clos_free hn.2 e hc
theorem clos_apart (hp : env.cells.Pairwise fun x y => x.2 ≠ y.2) : ∀ {names : List (Str × NameKind)} {acc : List (Str × Addr)}, (names.map (·.1)).Nodup → (∀ x c, (x, c) ∈ acc → env.cells.lookup x = some c ∧ x ∉ names.map (·.1)) →
    (acc.Pairwise fun x y => x.2 ≠ y.2) → (clos env names acc).Pairwise fun x y => x.2 ≠ y.2
  | [], _, _, _, h => h
  | (y, k) :: r, acc, hn, ha, h => by
      rw [List.map_cons, List.nodup_cons] at hn
      unfold clos
      refine clos_apart hp hn.2 ?_ ?_
      · intro x c hx
        split at hx
        · split at hx
          · rename_i c' hc
            rcases List.mem_cons.mp hx with e | e
            · cases e; exact ⟨hc, hn.1⟩
            · exact ⟨(ha x c e).1, fun q => (ha x c e).2 (List.mem_cons_of_mem _ q)⟩
          · exact ⟨(ha x c hx).1, fun q => (ha x c hx).2 (List.mem_cons_of_mem _ q)⟩
        · exact ⟨(ha x c hx).1, fun q => (ha x c hx).2 (List.mem_cons_of_mem _ q)⟩
      · split
        · split
          · rename_i c' hc
            rw [List.pairwise_cons]
            refine ⟨fun z hz => ?_, h⟩
            obtain ⟨zx, zc⟩ := z
            have hz2 := ha zx zc hz
            refine pair_ne hp (lookup_mem hc) (lookup_mem hz2.1) ?_
            rintro rfl
            exact hz2.2 (List.mem_cons_self ..)
          · exact h
        · exact h
theorem cf_mem : ∀ {names : List (Str × NameKind)} {k : Nat} {acc : List (Str × Addr)} {x : Str} {c : Addr}, (x, c) ∈ cellsFrom k names acc → (x, c) ∈ acc ∨ (k ≤ c ∧ (x, NameKind.cell) ∈ names)
  | [], _, _, _, _, h => .inl h
  | (y, kd) :: r, k, acc, x, c, h => by
      unfold cellsFrom at h
      split at h
      · rename_i hk
        have hk : kd = .cell := by simpa using hk
        rcases cf_mem h with q | ⟨q1, q2⟩
        · rcases List.mem_cons.mp q with e | e
          · cases e; exact .inr ⟨Nat.le_refl _, by rw [hk]; exact List.mem_cons_self ..⟩
          · exact .inl e
        · exact .inr ⟨Nat.le_of_succ_le q1, List.mem_cons_of_mem _ q2⟩
      · rcases cf_mem h with q | ⟨q1, q2⟩
        · exact .inl q
        · exact .inr ⟨q1, List.mem_cons_of_mem _ q2⟩
theorem cf_look : ∀ {names : List (Str × NameKind)} {k : Nat} {acc : List (Str × Addr)} {x : Str}, (x, NameKind.cell) ∉ names → (cellsFrom k names acc).lookup x = acc.lookup x
  | [], _, _, _, _ => rfl
  | (y, kd) :: r, k, acc, x, h => by
      unfold cellsFrom
      split
      · rename_i hk
        have hk : kd = .cell := by simpa using hk
        rw [cf_look (fun q => h (List.mem_cons_of_mem _ q)), List.lookup_cons]
        have : (x == y) = false := by
          rw [beq_eq_false_iff_ne]; rintro rfl; exact h (by rw [hk]; exact List.mem_cons_self ..)
        rw [this]
      · exact cf_look (fun q => h (List.mem_cons_of_mem _ q))
theorem cf_apart : ∀ {names : List (Str × NameKind)} {k : Nat} {acc : List (Str × Addr)}, (∀ x c, (x, c) ∈ acc → c < k) → (acc.Pairwise fun x y => x.2 ≠ y.2) → (cellsFrom k names acc).Pairwise fun x y => x.2 ≠ y.2
  | [], _, _, _, h => h
  | (y, kd) :: r, k, acc, ha, h => by
      unfold cellsFrom
      split
      · refine cf_apart (fun x c hx => ?_) ?_
        · rcases List.mem_cons.mp hx with e | e
          · cases e; exact Nat.lt_succ_self _
          · exact Nat.lt_succ_of_lt (ha x c e)
        · rw [List.pairwise_cons]
          refine ⟨fun z hz e => ?_, h⟩
          have := ha z.1 z.2 hz
          exact Nat.lt_irrefl _ (e ▸ this)
      · exact cf_apart ha h
/-- a new cell is an empty cell -/
theorem cf_cell : ∀ {names : List (Str × NameKind)} {h : Heap} {acc : List (Str × Addr)} {x : Str} {c : Addr}, (x, c) ∈ cellsFrom h.objs.size names acc → (x, c) ∈ acc ∨ (pushCells h names).IsCell c none
  | [], _, _, _, _, q => .inl q
  | (y, kd) :: r, h, acc, x, c, q => by
      unfold cellsFrom at q
      unfold pushCells
      split at q
      · rename_i hk
        rw [if_pos hk]
        have e : h.objs.size + 1 = (h.push { cls := .type "cell", data := .cell none }).objs.size := by rw [Heap.size_push]
        rw [e] at q
        rcases cf_cell q with z | z
        · rcases List.mem_cons.mp z with e | e
          · cases e
            exact .inr ⟨_, pushCells_keeps _ _ _ _ (Heap.get?_push_size _ rfl), rfl⟩
          · exact .inl e
        · exact .inr z
      · rename_i hk
        rw [if_neg hk]
        exact cf_cell q
theorem cells_some0 : ∀ {names : List (Str × NameKind)} {k : Nat} {acc : List (Str × Addr)} {x : Str}, ((x, NameKind.cell) ∈ names ∨ (acc.lookup x).isSome = true) → ((cellsFrom k names acc).lookup x).isSome = true
  | [], _, _, _, h => by
      rcases h with h | h
      · cases h
      · exact h
  | (y, kd) :: r, k, acc, x, h => by
      unfold cellsFrom
      split
      · refine cells_some0 ?_
        rcases h with h | h
        · rcases List.mem_cons.mp h with e | e
          · cases e; right; simp [List.lookup_cons]
          · exact .inl e
        · right; rw [List.lookup_cons]; split
          · rfl
          · exact h
      · rename_i hk
        refine cells_some0 ?_
        rcases h with h | h
        · rcases List.mem_cons.mp h with e | e
          · cases e; simp at hk
          · exact .inl e
        · exact .inr h
theorem cells_some' {names : List (Str × NameKind)} {k : Nat} {acc : List (Str × Addr)} {x : Str} (h : (x, NameKind.cell) ∈ names) : ((cellsFrom k names acc).lookup x).isSome = true := cells_some0 (.inl h)
theorem rl_look (sc : Scope) (y : Str) : ∀ (names : List (Str × NameKind)),
    (names.map fun (n, k) => if (k == .free && sc.kind == .function && sc.names.lookup n == some .cell) then (n, NameKind.cell) else (n, k)).lookup y =
      (names.lookup y).map fun k => if (k == .free && sc.kind == .function && sc.names.lookup y == some .cell) then NameKind.cell else k
  | [] => rfl
  | (x, k) :: r => by
      rw [List.map_cons]
      by_cases hx : y = x
      · subst hx
        simp only [List.lookup_cons, beq_self_eq_true, Option.map_some]
        split <;> simp [List.lookup_cons]
      · have hb : (y == x) = false := by simpa using hx
        simp only [List.lookup_cons, hb]
        have : ((if (k == .free && sc.kind == .function && sc.names.lookup x == some .cell) = true then (x, NameKind.cell) else (x, k)) : Str × NameKind).1 = x := by split <;> rfl
        rw [List.lookup_cons]
        rw [this, hb]
        exact rl_look sc y r
theorem block_frame {csc : Scope} (X : EnvR G A env l μ s.heap) (H : HR G μ hp s) (ok : okC env.scope csc = true) :
    HR G μ hp { s with heap := pushCells (s.heap.push dictO) csc.names } ∧ Stp G noOwn μ s μ { s with heap := pushCells (s.heap.push dictO) csc.names } ∧
      EnvR G A { blockE csc (clos env csc.names []) s.heap.objs.size env with scope := relabelS csc env.scope } (restr csc l) μ (pushCells (s.heap.push dictO) csc.names) := by
  simp only [okC, Bool.and_eq_true, decide_eq_true_eq, beq_iff_eq] at ok
  obtain ⟨⟨⟨okq, okk⟩, nd⟩, okf⟩ := ok
  have keep : ∀ b o, s.heap.get? b = some o → (pushCells (s.heap.push dictO) csc.names).get? b = some o := fun b o e => pushCells_keeps _ _ b o (Heap.get?_push_of_some _ e)
  have H1 : HR G μ hp { s with heap := pushCells (s.heap.push dictO) csc.names } := H.ext keep rfl rfl H.toks
  have st : Stp G noOwn μ s μ { s with heap := pushCells (s.heap.push dictO) csc.names } := Stp.ext keep
  have X1 := X.step H st
  refine ⟨H1, st, ?_⟩
  have sz : (s.heap.push dictO).objs.size = s.heap.objs.size + 1 := Heap.size_push ..
  have kind : ∀ y, (relabelS csc env.scope).names.lookup y = (csc.names.lookup y).map fun k => if (k == .free && env.scope.kind == .function && env.scope.names.lookup y == some .cell) then NameKind.cell else k := fun y => rl_look env.scope y csc.names
  have memk : ∀ {y : Str} {k : NameKind}, csc.names.lookup y = some k → (y, k) ∈ csc.names := fun h => lookup_mem h
  have uniq : ∀ {y : Str} {k k' : NameKind}, csc.names.lookup y = some k → (y, k') ∈ csc.names → k = k' := by
    intro y k k' h1 h2
    have := memk h1
    clear kind memk okf
    revert nd h1 h2 this
    generalize csc.names = ns
    induction ns with
    | nil => intro _ h; simp at h
    | cons p r ih =>
      obtain ⟨x, kx⟩ := p
      intro nd h1 h2 h3
      rw [List.map_cons, List.nodup_cons] at nd
      rw [List.lookup_cons] at h1
      split at h1
      · rename_i hb
        have hb : y = x := by simpa using hb
        subst hb
        cases h1
        rcases List.mem_cons.mp h2 with e | e
        · cases e; rfl
        · exact absurd (List.mem_map.mpr ⟨_, e, rfl⟩) nd.1
      · rename_i hb
        rcases List.mem_cons.mp h2 with e | e
        · cases e; simp at hb
        · exact ih nd.2 h1 e (lookup_mem h1)
  have outer : ∀ {y : Str}, csc.names.lookup y = some .free → env.kindOf y = some .cell ∨ env.kindOf y = some .free := by
    intro y h
    have := List.all_eq_true.mp okf _ (memk h)
    simp only [bne_self_eq_false, Bool.false_or, Bool.or_eq_true, beq_iff_eq] at this
    exact this
  have clow : ∀ {y : Str} {c : Addr}, (y, c) ∈ clos env csc.names [] → c < s.heap.objs.size ∧ G.h0.objs.size ≤ c := by
    intro y c h
    rcases clos_mem h with q | ⟨q1, q2⟩
    · cases q
    · refine ⟨?_, X.lows _ _ (lookup_mem q2)⟩
      have hf : csc.names.lookup y = some .free := by
        cases e : csc.names.lookup y with
        | none =>
          exfalso
          rw [List.lookup_eq_none_iff] at e
          have := e _ q1
          simp at this
        | some k => rw [uniq e q1]
      obtain ⟨c', ov, e1, ⟨o, e2, _⟩, _⟩ := X.cel y (outer hf)
      rw [q2] at e1; cases e1
      exact Heap.lt_size e2
  refine ⟨fun y pv hy => ?_, ?_, X.glob, X.blt, X.base, fun y c hc => ?_, ?_, fun hq => absurd (show (relabelS csc env.scope).names.lookup QM = none by rw [kind, okq]; rfl) hq, X1.frs, ⟨_, (Heap.Ns.new s.heap (.type "dict")).keeps (pushCells_keeps _ _), fun y pv hk hl => ?_⟩, fun y hy => ?_⟩
  · unfold restr at hy
    split at hy
    · rename_i hf
      obtain ⟨_, h2, h3⟩ := X.dom y pv hy
      refine ⟨.inr ?_, h2, h3⟩
      show (relabelS csc env.scope).names.lookup y = some .cell ∨ (relabelS csc env.scope).names.lookup y = some .free
      rw [kind, hf]
      simp only [Option.map_some]
      split
      · exact .inl rfl
      · exact .inr rfl
    · cases hy
  · show (relabelS csc env.scope).kind = .function
    exact okk
  · rcases cf_mem hc with q | ⟨q, _⟩
    · exact (clow q).2
    · exact Nat.le_trans X.base (Nat.le_of_succ_le q)
  · exact cf_apart (fun x c hx => Nat.lt_succ_of_lt (clow hx).1) (clos_apart X.apart nd (fun _ _ h => by cases h) List.Pairwise.nil)
  · unfold restr at hl
    split at hl
    · rename_i hf
      have hk' : (relabelS csc env.scope).names.lookup y = some .local := hk
      rw [kind, hf] at hk'
      simp only [Option.map_some, Option.some.injEq] at hk'
      split at hk' <;> cases hk'
    · cases hl
  · have hy' : (relabelS csc env.scope).names.lookup y = some .cell ∨ (relabelS csc env.scope).names.lookup y = some .free := hy
    rw [kind] at hy'
    cases e : csc.names.lookup y with
    | none => rw [e] at hy'; simp at hy'
    | some k =>
      cases k with
      | cell =>
        have hs := cells_some' (names := csc.names) (k := s.heap.objs.size + 1) (acc := clos env csc.names []) (memk e)
        obtain ⟨c, hc⟩ := Option.isSome_iff_exists.mp hs
        have hc' : (y, c) ∈ cellsFrom (s.heap.push dictO).objs.size csc.names (clos env csc.names []) := by rw [sz]; exact lookup_mem hc
        refine ⟨c, none, hc, ?_, fun pv hl => ?_⟩
        · rcases cf_cell hc' with q | q
          · exfalso
            rcases clos_mem q with z | ⟨z, _⟩
            · cases z
            · have := uniq e z; cases this
          · exact q
        · unfold restr at hl; rw [e] at hl; simp at hl
      | free =>
        obtain ⟨c, ov, h1, h2, h3⟩ := X1.cel y (outer e)
        refine ⟨c, ov, ?_, h2, fun pv hl => ?_⟩
        · show (cellsFrom (s.heap.objs.size + 1) csc.names (clos env csc.names [])).lookup y = some c
          rw [cf_look (fun q => by have := uniq e q; cases this)]
          exact clos_free nd (memk e) h1
        · unfold restr at hl; rw [if_pos e] at hl; exact h3 pv hl
      | _ => rw [e] at hy'; simp at hy'
mutual
theorem Rep.inTo {h : Heap} : ∀ {p : PV} {v : Value}, Rep μ h p v → Fnm.inTo μ.length p = true
  | .none, _, _ => rfl
  | .bool _, _, _ => rfl
  | .int _, _, _ => rfl
  | .str _, _, _ => rfl
  | .range _ _ _, _, _ => rfl
  | .tuple vs, _, e => by simp only [Rep] at e; obtain ⟨a, ws, _, _, r, _⟩ := e; simp only [Fnm.inTo]; exact RepL.inTo r
  | .list vs, _, e => by simp only [Rep] at e; obtain ⟨a, ws, _, _, _, _, r⟩ := e; simp only [Fnm.inTo]; exact RepL.inTo r
  | .ref n, _, e => by simp only [Rep] at e; obtain ⟨a, _, hm⟩ := e; simp only [Fnm.inTo]; exact decide_eq_true (List.getElem?_eq_some_iff.mp hm).1
  | .app n, _, e => by simp only [Rep] at e; obtain ⟨b, a, _, _, hm⟩ := e; simp only [Fnm.inTo]; exact decide_eq_true (List.getElem?_eq_some_iff.mp hm).1
theorem RepL.inTo {h : Heap} : ∀ {ps : List PV} {vs : List Value}, RepL μ h ps vs → inToL μ.length ps = true
  | [], _, _ => rfl
  | p :: ps, _, e => by
      simp only [RepL] at e; obtain ⟨w, wr, _, r, rs⟩ := e
      simp only [inToL, Bool.and_eq_true]; exact ⟨Rep.inTo r, RepL.inTo rs⟩
end
mutual
theorem Rep.cut {ν : List Addr} {h : Heap} : ∀ {p : PV} {v : Value}, Rep (μ ++ ν) h p v → Fnm.inTo μ.length p = true → Rep μ h p v
  | .none, _, e, _ => by simpa only [Rep] using e
  | .bool _, _, e, _ => by simpa only [Rep] using e
  | .int _, _, e, _ => by simpa only [Rep] using e
  | .str _, _, e, _ => by simpa only [Rep] using e
  | .range _ _ _, _, e, _ => by simpa only [Rep] using e
  | .tuple vs, _, e, i => by
      simp only [Rep] at e ⊢; obtain ⟨a, ws, h1, h2, r, h3⟩ := e; simp only [Fnm.inTo] at i; exact ⟨a, ws, h1, h2, RepL.cut r i, fun q => h3 (List.mem_append_left _ q)⟩
  | .list vs, _, e, i => by
      simp only [Rep] at e ⊢; obtain ⟨a, ws, m, h1, h2, h3, r⟩ := e; simp only [Fnm.inTo] at i
      exact ⟨a, ws, m, h1, h2, fun q => h3 (List.mem_append_left _ q), RepL.cut r i⟩
  | .ref n, _, e, i => by
      simp only [Rep] at e ⊢; obtain ⟨a, h1, hm⟩ := e
      simp only [Fnm.inTo, decide_eq_true_eq] at i
      exact ⟨a, h1, by rw [List.getElem?_append_left i] at hm; exact hm⟩
  | .app n, _, e, i => by
      simp only [Rep] at e ⊢; obtain ⟨b, a, h1, h2, hm⟩ := e
      simp only [Fnm.inTo, decide_eq_true_eq] at i
      exact ⟨b, a, h1, h2, by rw [List.getElem?_append_left i] at hm; exact hm⟩
theorem RepL.cut {ν : List Addr} {h : Heap} : ∀ {ps : List PV} {vs : List Value}, RepL (μ ++ ν) h ps vs → inToL μ.length ps = true → RepL μ h ps vs
  | [], _, e, _ => by simpa only [RepL] using e
  | p :: ps, _, e, i => by
      simp only [RepL] at e ⊢; obtain ⟨w, wr, h1, r, rs⟩ := e
      simp only [inToL, Bool.and_eq_true] at i; exact ⟨w, wr, h1, Rep.cut r i.1, RepL.cut rs i.2⟩
end
noncomputable def objIn (k : Nat) : MO → Bool
  | .list vs => inToL k vs
  | .obj => true
  | .hid => true
theorem HR.cut {ν : List Addr} {hp1 : Hp} (H : HR G (μ ++ ν) hp s) (hl : hp1.length = μ.length) (ht : hp.take μ.length = hp1) (hc : hp1.all (objIn μ.length) = true) : HR G μ hp1 s := by
  refine ⟨H.base, H.tab, H.os, H.gens, H.toks, (List.nodup_append.mp H.nodup).1, hl.symm, fun a ha => H.low a (List.mem_append_left _ ha), fun i a m h1 h2 => ?_⟩
  have hi : i < μ.length := (List.getElem?_eq_some_iff.mp h1).1
  have h3 : hp[i]? = some m := by rw [← ht, List.getElem?_take_of_lt hi] at h2; exact h2
  have := H.obj i a m (by rw [List.getElem?_append_left hi]; exact h1) h3
  cases m with
  | list vs =>
    obtain ⟨ws, k, e, r⟩ := this
    have : objIn μ.length (.list vs) = true := (List.all_eq_true.mp hc) _ (List.mem_of_getElem? h2)
    exact ⟨ws, k, e, r.cut this⟩
  | obj => exact this
  | hid => exact this
theorem HR.objsIn (H : HR G μ hp s) : hp.all (objIn μ.length) = true := by
  rw [List.all_eq_true]
  intro m hm
  obtain ⟨i, hi⟩ := List.getElem?_of_mem hm
  have hlt : i < μ.length := by rw [H.len]; exact (List.getElem?_eq_some_iff.mp hi).1
  have := H.obj i μ[i] m (List.getElem?_eq_getElem hlt) hi
  cases m with
  | list vs => obtain ⟨ws, k, e, r⟩ := this; exact r.inTo
  | obj => rfl
  | hid => rfl
theorem Stp.fresh {μ0 : List Addr} {s0 : Shared} (st : Stp G (fun a => s0.heap.get? a = none) μ0 s0 μ s) : Stp G noOwn μ0 s0 μ s :=
  ⟨fun a o e h1 h2 _ => st.keepU a o e h1 h2 (fun q => by rw [q] at e; cases e), st.grow, st.live⟩
theorem EnvR.less {l' : Loc} {h : Heap} (X : EnvR G A env l μ h) (hl : ∀ y pv, l' y = some pv → l y = some pv) : EnvR G A env l' μ h := by
  refine ⟨fun y pv q => X.dom y pv (hl y pv q), X.kind, X.glob, X.blt, X.low, X.lows, X.apart, X.code, X.frs, ?_, fun y hy => ?_⟩
  · obtain ⟨m, h1, h2⟩ := X.ns
    exact ⟨m, h1, fun y pv hk q => h2 y pv hk (hl y pv q)⟩
  · obtain ⟨c, ov, h1, h2, h3⟩ := X.cel y hy
    exact ⟨c, ov, h1, h2, fun pv q => h3 pv (hl y pv q)⟩
/-! what a comprehension does to the small state -/
noncomputable def cCe (h : Hp) (acc : List PV) (k : PV → Prop) : PV → Hp → Prop := fun v h2 => h2 = h ++ [.list acc] ∧ inTo h.length v = true ∧ k v
noncomputable abbrev cEl (G : GI) (n : Nat) (K : Cfg) (elt : Expr) (h : Hp) (acc : List PV) (l1 : Loc) (k : PV → Prop) : Prop := exE G n K elt l1 (h ++ [.list acc]) (cCe h acc k)
noncomputable def cTs (G : GI) (n : Nat) (K : Cfg) (ifs : List Expr) (h : Hp) (acc : List PV) (l1 : Loc) (k : Bool → Prop) : Prop := exI G n K ifs l1 (h ++ [.list acc]) k
noncomputable def Krl (K : Cfg) (csc : Scope) : Cfg := ⟨relabelS csc K.sc, K.trk⟩
inductive cCo (G : GI) (n : Nat) (K : Cfg) (csc : Scope) (tgt elt : Expr) (ifs : List Expr) (l : Loc) (Q : PV → Hp → Prop) (v : PV) (h : Hp) : Prop
  | mk (xs : List PV) (chk : Hp → Prop) (e : IterR G h v xs chk) (hb : xs.length ≤ big) (hc : ∀ acc, chk (h ++ [.list acc])) (q : compL (cTs G n (Krl K csc) ifs h) (cEl G n (Krl K csc) elt h) (fun x k => bindT csc tgt x (restr csc l) k) (fun vs => Q (.list vs) h) xs [])
theorem kCo {csc : Scope} {tgt elt : Expr} {ifs : List Expr} {v : PV} {h : Hp} {xs : List PV} {chk : Hp → Prop} (e : IterR G h v xs chk) (hb : xs.length ≤ big) (hc : ∀ acc, chk (h ++ [.list acc])) (q : compL (cTs G n (Krl K csc) ifs h) (cEl G n (Krl K csc) elt h) (fun x k => bindT csc tgt x (restr csc l) k) (fun vs => Q (.list vs) h) xs []) :
    cCo G n K csc tgt elt ifs l Q v h := ⟨xs, chk, e, hb, hc, q⟩
/-! targets of a block -/
theorem sto_rl {csc sc : Scope} {x : Str} (h : stoOk csc x = true) : stoOk (relabelS csc sc) x = true := by
  obtain ⟨h1, h2, h3⟩ := sto_iff h
  have e := rl_look sc x csc.names
  have : (relabelS csc sc).names.lookup x = some .local ∨ (relabelS csc sc).names.lookup x = some .cell := by
    show List.lookup x (List.map _ _) = _ ∨ List.lookup x (List.map _ _) = _
    rcases h1 with q | q
    · left; exact e.trans (by rw [q]; rfl)
    · right; exact e.trans (by rw [q]; rfl)
  unfold stoOk
  rw [h2, h3]
  rcases this with q | q <;> rw [q] <;> rfl
theorem TgN.rl {csc sc : Scope} {es : List Expr} {xs : List Str} (t : TgN csc es xs) : TgN (relabelS csc sc) es xs := by
  induction t with
  | nil => exact .nil
  | cons hs _ ih => exact .cons (sto_rl hs) ih
theorem TgV.rl {csc sc : Scope} {l' : Loc} {t : Expr} {x : PV} {xs : List Str} (h : TgV csc l t x l' xs) : TgV (relabelS csc sc) l t x l' xs := by
  cases h with
  | name hs => exact .name (sto_rl hs)
  | tup t hl => exact .tup t.rl hl
theorem TgN.sto {csc : Scope} {es : List Expr} {xs : List Str} (t : TgN csc es xs) : ∀ x ∈ xs, stoOk csc x = true := by
  induction t with
  | nil => intro x h; cases h
  | cons hs _ ih =>
    intro x h
    rcases List.mem_cons.mp h with rfl | h
    · exact hs
    · exact ih x h
theorem TgV.sto {csc : Scope} {l' : Loc} {t : Expr} {x : PV} {xs : List Str} (h : TgV csc l t x l' xs) : ∀ y ∈ xs, stoOk csc y = true := by
  cases h with
  | name hs => intro y hy; rw [List.mem_singleton.mp hy]; exact hs
  | tup t hl => exact t.sto
theorem updL_keep : ∀ {xs : List Str} {vs : List PV} {l : Loc} {y : Str}, y ∉ xs → updL l xs vs y = l y
  | [], vs, l, y, _ => by cases vs <;> rfl
  | _ :: _, [], l, y, _ => rfl
  | x :: xs, v :: vs, l, y, h => (updL_keep fun q => h (List.mem_cons_of_mem _ q)).trans (upd_other _ _ fun q => h (q ▸ List.mem_cons_self ..))
theorem TgV.keep {csc : Scope} {l' : Loc} {t : Expr} {x : PV} {xs : List Str} (h : TgV csc l t x l' xs) (hn : ∀ y ∈ xs, l y = none) (y : Str) (pv : PV) (hy : l y = some pv) : l' y = some pv := by
  have ny : y ∉ xs := fun q => by rw [hn y q] at hy; cases hy
  cases h with
  | name hs => rw [upd_other _ _ fun q => ny (List.mem_singleton.mpr q)]; exact hy
  | tup t hl => rw [updL_keep ny]; exact hy
theorem restr_none {csc : Scope} {x : Str} (h : stoOk csc x = true) : restr csc l x = none := by
  unfold restr
  rcases (sto_iff h).1 with q | q <;> rw [q] <;> rfl
/-! the loop -/
theorem exI_sound {K' : Cfg} {cenv : Env} {ifs : List Expr} (hs : cenv.scope = K'.sc) {P : Bool → Prop} (h : exI G n K' ifs l hp P) :
    WT G n cenv l hp (forIn ifs true fun c r => if r = true then do let ok ← isTrue c cenv (eval c cenv); pure (ForInStep.yield ok) else pure (ForInStep.yield r)) fun b h1 => h1 = hp ∧ P b := by
  intro A μ s R H X
  cases ifs with
  | nil => exact wpAny_tests_nil ⟨hp, μ, ⟨rfl, h⟩, H, Stp.refl _ _⟩
  | cons e r =>
    obtain ⟨rfl, h⟩ := h
    exact wpAny_tests_one (h cenv hs A μ s R H X)
theorem Grow.none {h : Heap} (g : Grow h μ μ') (e : μ'.length = μ.length) : μ' = μ := by
  obtain ⟨ν, rfl, _⟩ := g
  rw [List.length_append] at e
  rw [List.length_eq_zero_iff.mp (Nat.add_eq_left.mp e), List.append_nil]
/-- steps that leave the tracked ones as many as they were -/
theorem HR.same (H : HR G μ hp s) (H' : HR G μ' hp' s') {own : Addr → Prop} (st : Stp G own μ s μ' s') (e : hp'.length = hp.length) : μ' = μ := st.grow.none (by rw [H'.len, H.len, e])
theorem inTo_snoc {k : Nat} {x : PV} (hx : inTo k x = true) : ∀ {as : List PV}, inToL k as = true → inToL k (as ++ [x]) = true
  | [], _ => by show (inTo k x && true) = true; rw [hx]; rfl
  | a :: as, h => by
      rw [inToL, Bool.and_eq_true] at h
      show (inTo k a && inToL k (as ++ [x])) = true
      rw [h.1, inTo_snoc hx h.2]; rfl
theorem comp_loop {tgt iter elt : Expr} {ifs : List Expr} {csc : Scope} {pos : Pos} {xs : List PV} {I D : Addr} {T : Addr → Prop} {It : Nat → List Addr → Hp → Heap → Prop} {chk : Hp → Prop} {cenv : Env} {K' : Cfg} {hp1 : Hp} {lb : Loc} {μ0 : List Addr} {s0 : Shared} {Qv : List PV → Prop} {Rr : Result → Shared → Prop}
    (R : Room n A) (hs : cenv.scope = K'.sc) (hsc : ∃ sc, K'.sc = relabelS csc sc) (hown : ∀ x, stoOk csc x = true → ∀ a, ownX cenv x a → s0.heap.get? a = none) (htn : ∀ x, stoOk csc x = true → lb x = none)
    (it : Itr G tgt I T xs chk It) (hI1 : ∀ b, T b → s0.heap.get? b = none) (hl : hp1.length = μ0.length) (hv : xs.length ≤ big) (hch : ∀ acc, chk (hp1 ++ [.list acc]))
    (hR : ∀ s acc, Qv acc → HR G (μ0 ++ [D]) (hp1 ++ [.list acc]) s → EnvR G A cenv lb (μ0 ++ [D]) s.heap → Stp G (fun a => s0.heap.get? a = none) μ0 s0 (μ0 ++ [D]) s → inToL hp1.length acc = true → Rr (.ok .next) s) :
    ∀ (ys : List PV) (i : Nat) (acc : List PV) (s : Shared), xs.drop i = ys → acc.length ≤ i → HR G (μ0 ++ [D]) (hp1 ++ [.list acc]) s → EnvR G A cenv lb (μ0 ++ [D]) s.heap → Stp G (fun a => s0.heap.get? a = none) μ0 s0 (μ0 ++ [D]) s →
      It i (μ0 ++ [D]) (hp1 ++ [.list acc]) s.heap → inToL hp1.length acc = true →
      compL (cTs G n K' ifs hp1) (cEl G n K' elt hp1) (fun x k => bindT csc tgt x lb k) Qv ys acc →
      codeAny G.M A (.compLoop (.ListComp elt [⟨tgt, iter, ifs, 0⟩] csc pos) 0 (.ref I) (.ref D) cenv) Rr s := by
  intro ys
  induction ys with
  | nil =>
    intro i acc s hd hacc H X st sI hin h
    exact comp_step (it.done R.handled H sI (List.drop_eq_nil_iff.mp hd) fun s1 mv => hR s1 acc h (mv.hr H) (mv.envr H X) (mv.stp st hI1) hin)
  | cons y ys ih =>
    intro i acc s hd hacc H X st sI hin h
    obtain ⟨hi, hd'⟩ := drop_cons hd
    have hlt : i < xs.length := (List.getElem?_eq_some_iff.mp hi).1
    refine comp_step (wpAny_mono (it.item (P := fun w s1 => wpAny G.M A (assign tgt cenv w) (fun _ s₂ =>
          wpAny G.M A (forIn ifs true fun c r => if r = true then do let ok ← isTrue c cenv (eval c cenv); pure (ForInStep.yield ok) else pure (ForInStep.yield r)) (fun ok s₃ =>
            if ok = true then wpAny G.M A (eval elt cenv) (fun x s₄ =>
              wpAny G.M A (call (.builtin "list.append") [.ref D, x]) (fun _ s₅ => codeAny G.M A (.compLoop (.ListComp elt [⟨tgt, iter, ifs, 0⟩] csc pos) 0 (.ref I) (.ref D) cenv) Rr s₅) noE s₄) noE s₃
            else codeAny G.M A (.compLoop (.ListComp elt [⟨tgt, iter, ifs, 0⟩] csc pos) 0 (.ref I) (.ref D) cenv) Rr s₃) noE s₂) noE s1) R.handled H sI hi fun w s1 r1 sI1 H1 kd vk tst => ?_) (fun r s1 h1 => ?_) fun _ _ e => e)
    · obtain ⟨l2, xs2, hb, q2⟩ := h
      have X1 := X.keep kd fun r => r.mono vk (Grow.refl _ _)
      have st1 := tst st hI1
      obtain ⟨sc, hsc⟩ := hsc
      refine wpAny_mono (bind_run (own := fun a => s0.heap.get? a = none ∧ ownOf cenv a) R.handled (by rw [hs, hsc]; exact hb.rl) (fun x hx a ha => ⟨hown x (hb.sto x hx) a ha, ownX_of ha⟩) H1 X1 r1) (fun _ s2 h2 => ?_) fun _ _ e => e
      obtain ⟨H2, X2, st2⟩ := h2
      have less := hb.keep fun y hy => htn y (hb.sto y hy)
      have sI2 := it.step sI1 H1 st2 (fun a o ha => X1.ownDc ha.2) (hch acc)
      have st12 : Stp G (fun a => s0.heap.get? a = none) μ0 s0 (μ0 ++ [D]) s2 := st1.trans (st2.weak fun _ ha => ha.1)
      refine (exI_sound hs q2).run R H2 X2 fun c s3 hp3 μ3 q3 H3 X3 st3 => ?_
      obtain ⟨rfl, q3⟩ := q3
      obtain rfl := H2.same H3 st3 rfl
      have sI3 := it.step sI2 H2 st3 (fun _ _ q => q.elim) (hch acc)
      have st13 := st12.trans st3.up
      cases c with
      | false => exact ih (i + 1) acc s3 hd' (Nat.le_succ_of_le hacc) H3 (X3.less less) st13 sI3 hin q3
      | true =>
        refine ((show exE G n K' elt l2 _ _ from q3) cenv hs).run R H3 X3 fun x s4 pv hp4 μ4 q4 r4 H4 X4 st4 => ?_
        obtain ⟨rfl, hiv, q4⟩ := q4
        obtain rfl := H3.same H4 st4 rfl
        have sI4 := it.step sI3 H3 st4 (fun _ _ q => q.elim) (hch acc)
        have e0 : (hp1 ++ [MO.list acc])[hp1.length]? = some (.list acc) := getLastQ _ _
        have e1 : (hp1 ++ [MO.list acc]).set hp1.length (.list (acc ++ [pv])) = hp1 ++ [.list (acc ++ [pv])] := set_mid hp1 [] _ _
        refine wpAny_mono (meth_app (Q := fun _ h => h = hp1 ++ [.list (acc ++ [pv])]) e0 (Nat.le_trans hacc (Nat.le_trans (Nat.le_of_lt hlt) hv)) H4 ⟨D, rfl, by rw [hl]; exact getLastQ _ _⟩ (RepL.one r4) e1) (fun z s5 h5 => ?_) fun _ _ e => e
        obtain ⟨_, _, μ5, rfl, _, H5, st5⟩ := h5
        obtain rfl := H4.same H5 st5 (by rw [List.length_append, List.length_append]; rfl)
        exact ih (i + 1) (acc ++ [pv]) s5 hd' (by rw [List.length_append]; exact Nat.succ_le_succ hacc) H5 ((X4.step H4 st5).less less) ((st13.trans st4.up).trans st5.up) (it.step sI4 H4 st5 (fun _ _ q => q.elim) (hch _)) (inTo_snoc hiv hin) q4
    · obtain ⟨w, rfl, h1⟩ := h1
      exact h1
theorem nodup_lookup : ∀ {names : List (Str × NameKind)} {x : Str} {k : NameKind}, (names.map (·.1)).Nodup → (x, k) ∈ names → names.lookup x = some k
  | [], _, _, _, h => by cases h
  | (y, k') :: r, x, k, hn, h => by
      rw [List.map_cons, List.nodup_cons] at hn
      rcases List.mem_cons.mp h with e | e
      · cases e; simp [List.lookup_cons]
      · have : (x == y) = false := by
          rw [beq_eq_false_iff_ne]; rintro rfl; exact hn.1 (List.mem_map.mpr ⟨_, e, rfl⟩)
        rw [List.lookup_cons, this]; exact nodup_lookup hn.2 e
/-- what stands behind a comprehension's loop -/
structure CompEnd (G : GI) (A : Around) (env : Env) (l : Loc) (Q : PV → Hp → Prop) (μ : List Addr) (s : Shared) (μ1 : List Addr) (hp1 : Hp) (acc : List PV) (D C : Addr) (s' : Shared) : Prop where
  q : Q (.list acc) hp1
  hr : HR G (μ1 ++ [D]) (hp1 ++ [.list acc]) s'
  env : EnvR G A env l (μ1 ++ [D]) s'.heap
  stp : Stp G noOwn μ s (μ1 ++ [D]) s'
  ns : ∃ m, s'.heap.Ns C m
  low : G.h0.objs.size ≤ C
  new : s.heap.get? C = none
  len : hp1.length = μ1.length
  acc : inToL μ1.length acc = true
  objs : hp1.all (objIn μ1.length) = true
  grow : Grow s.heap μ μ1
theorem comp_core {tgt iter elt : Expr} {ifs : List Expr} {csc : Scope} {pos : Pos} {use : Option (Value → Sem Unit)} {Qc : Value → Shared → Prop} (hs : env.scope = K.sc) (oki : ∀ env x, foldedSetIterable iter env x = pure x) (okc : okC K.sc csc = true)
    (h : exE G n K iter l hp (cCo G n K csc tgt elt ifs l Q)) (R : Room n A) (H : HR G μ hp s) (X : EnvR G A env l μ s.heap)
    (hfin : ∀ s' D C acc hp1 μ1, CompEnd G A env l Q μ s μ1 hp1 acc D C s' → compPost G.M A noE use Qc (.ref D) C (.ok .next) s') (p2 : Pos) :
    wpAny G.M A (comprehension (.ListComp elt [⟨tgt, iter, ifs, 0⟩] csc pos) csc env p2 (newList []) false (eval iter env) use) Qc noE s := by
  have okc' := okc
  simp only [okC, Bool.and_eq_true, decide_eq_true_eq, beq_iff_eq] at okc'
  obtain ⟨⟨⟨_, okk⟩, nd⟩, okf⟩ := okc'
  have hclos : closureFor csc env = pure (clos env csc.names []) := by
    unfold closureFor
    have := clos_eq (env := env) hs (fun y hy => let ⟨c, ov, e, _⟩ := X.cel y hy; ⟨c, e⟩) csc.names [] okf
    first
      | (rw [this]; rfl)
      | (simp only [bind_pure]; exact this)
      | exact this
  refine wpAny_comprehension_free (cl := clos env csc.names []) rfl (fun x => oki _ x) hclos okk (fun x hx hl => by
    have := nodup_lookup nd (x := x.1) (k := x.2) hx; rw [hl] at this; exact this) ?_
  refine (h env hs).run R H X fun v s1 pv hp1 μ1 q r H1 X1 st1 => ?_
  obtain ⟨xs, chk, ex, hbig, hck, hL⟩ := q
  refine ex H1 X1.base r fun I T It s2 it low stI H2 st2 => ?_
  have X2 := X1.step H1 st2
  have st12 := st1.trans st2
  have g2 := X2.base
  refine wpAny_newList ?_ (by decide)
  have H3 : HR G (μ1 ++ [s2.heap.objs.size]) (hp1 ++ [.list []]) { s2 with heap := s2.heap.push { cls := .type "list", data := .seq ([] : List Value).toArray } } :=
    H2.track g2 (m := .list []) ⟨#[], 0, Heap.get?_push_size _ rfl, rfl⟩
  have st3 : Stp G noOwn μ1 s2 (μ1 ++ [s2.heap.objs.size]) { s2 with heap := s2.heap.push { cls := .type "list", data := .seq ([] : List Value).toArray } } := Stp.track _ _ _
  have X3 := X2.step H2 st3
  refine block_env ?_
  have hD : s2.heap.objs.size < (s2.heap.push { cls := .type "list", data := .seq ([] : List Value).toArray }).objs.size := by rw [Heap.size_push]; exact Nat.lt_succ_self _
  generalize hs3 : ({ s2 with heap := s2.heap.push { cls := .type "list", data := .seq ([] : List Value).toArray } } : Shared) = s3 at H3 st3 X3 ⊢
  replace hD : s2.heap.objs.size < s3.heap.objs.size := hs3 ▸ hD
  clear hs3
  obtain ⟨H4, st4, X4⟩ := block_frame X3 H3 (by rw [hs]; exact okc)
  have hown : ∀ x, stoOk csc x = true → ∀ a, ownX { blockE csc (clos env csc.names []) s3.heap.objs.size env with scope := relabelS csc env.scope } x a → s2.heap.objs.size ≤ a := by
    intro x hx a ha
    rcases ha with ⟨_, rfl⟩ | ⟨hk, hc⟩
    · exact Nat.le_of_lt hD
    · rcases cf_mem (lookup_mem (show (cellsFrom (s3.heap.objs.size + 1) csc.names (clos env csc.names [])).lookup x = some a from hc)) with z | ⟨z, _⟩
      · rcases clos_mem z with y | ⟨y, _⟩
        · cases y
        · have := nodup_lookup nd y
          rcases (sto_iff hx).1 with q | q <;> (rw [q] at this; cases this)
      · exact Nat.le_trans (Nat.le_of_lt hD) (Nat.le_of_succ_le z)
  have hl : hp1.length = μ1.length := H1.len.symm
  have stI3 := (it tgt).step stI H2 st3 (fun _ _ q => q.elim) (hck [])
  have stI4 := (it tgt).step stI3 H3 st4 (fun _ _ q => q.elim) (hck [])
  have key : codeAny G.M A (.compLoop (.ListComp elt [⟨tgt, iter, ifs, 0⟩] csc pos) 0 (.ref I) (.ref s2.heap.objs.size) { blockE csc (clos env csc.names []) s3.heap.objs.size env with scope := relabelS csc env.scope })
      (compPost G.M A noE use Qc (.ref s2.heap.objs.size) s3.heap.objs.size) { s3 with heap := pushCells (s3.heap.push dictO) csc.names } := by
    refine comp_loop (K' := Krl K csc) (hp1 := hp1) (lb := restr csc l) (xs := xs) (μ0 := μ1) (s0 := s1) (Qv := fun vs => Q (.list vs) hp1) R (by show relabelS csc env.scope = relabelS csc K.sc; rw [hs]) ⟨K.sc, rfl⟩ (fun x hx a ha => none_of st2 (hown x hx a ha)) (fun x hx => restr_none hx) (it tgt) (fun b hb => none_of (Stp.refl (G := G) (own := noOwn) μ1 s1) (low b hb)) hl hbig hck
      (fun s' acc q H' X' st' hin => ?_) xs 0 [] _ rfl (Nat.zero_le _) H4 X4 ((st2.trans st3).trans st4).up stI4 rfl hL
    have st'' : Stp G noOwn μ1 s1 (μ1 ++ [s2.heap.objs.size]) s' := st'.fresh
    refine hfin s' _ _ acc hp1 μ1 ⟨q, H', X1.step H1 st'', st1.trans st'', ?_, ?_, ?_, hl, ?_, H1.objsIn, ?_⟩
    · obtain ⟨m, e, _⟩ := X'.ns; exact ⟨m, e⟩
    · exact Nat.le_trans g2 (Nat.le_of_lt hD)
    · exact none_of st12 (Nat.le_of_lt hD)
    · rw [← hl]; exact hin
    · exact st1.grow
  refine codeAny_compStart_list key (wpAny_mono ((it tgt).again (P := fun it' st => codeAny G.M A (.compLoop (.ListComp elt [⟨tgt, iter, ifs, 0⟩] csc pos) 0 it' (.ref s2.heap.objs.size) { blockE csc (clos env csc.names []) s3.heap.objs.size env with scope := relabelS csc env.scope }) (compPost G.M A noE use Qc (.ref s2.heap.objs.size) s3.heap.objs.size) st) stI4 key) (fun _ _ h => h) fun _ _ e => e.elim)
structure CompCut (G : GI) (A : Around) (env : Env) (l : Loc) (Q : PV → Hp → Prop) (μ : List Addr) (s : Shared) (μ1 : List Addr) (hp1 : Hp) (acc : List PV) (D C : Addr) (s' : Shared) : Prop where
  q : Q (.list acc) hp1
  hr : HR G μ1 hp1 s'
  env : EnvR G A env l μ1 s'.heap
  stp : Stp G noOwn μ s μ1 s'
  ns : ∃ m, s'.heap.Ns C m
  low : G.h0.objs.size ≤ C
  new : s.heap.get? C = none
  rep : Rep μ1 s'.heap (.list acc) (.ref D)
theorem CompEnd.cut {μ1 : List Addr} {hp1 : Hp} {acc : List PV} {D C : Addr} (X : EnvR G A env l μ s.heap) (H : HR G μ hp s) (ce : CompEnd G A env l Q μ s μ1 hp1 acc D C s') : CompCut G A env l Q μ s μ1 hp1 acc D C s' := by
  have H2 := ce.hr
  have H3 : HR G μ1 hp1 s' := H2.cut ce.len (by rw [← ce.len]; simp) ce.objs
  have hD : Rep (μ1 ++ [D]) s'.heap (.ref hp1.length) (.ref D) := ⟨D, rfl, by rw [ce.len]; exact getLastQ _ _⟩
  obtain ⟨_, ws, k, e2, e3, e4, _⟩ := refAt H2 hD (vs := acc) (getLastQ _ _)
  have hnd := H2.nodup
  rw [List.nodup_append] at hnd
  have st : Stp G noOwn μ s μ1 s' := ⟨fun b o' e5 h1 h2 _ => ce.stp.keepU b o' e5 h1 h2 id, ce.grow, ce.stp.live⟩
  exact ⟨ce.q, H3, X.step H st, st, ce.ns, ce.low, ce.new, ⟨D, ws, k, rfl, e3, fun q => hnd.2.2 D q D (List.mem_singleton.mpr rfl) rfl, e4.cut ce.acc⟩⟩
/-- the frame where something else is stored into -/
theorem EnvR.but {C : Addr} {o : Obj} {h' : Heap} (X : EnvR G A env l μ s.heap) (H : HR G μ hp s) (ho : s.heap.get? C = some o) (so : sol o = false) (hC0 : G.h0.objs.size ≤ C) (sb : Heap.SameBut C s.heap h') (h1 : C ≠ env.locals)
    (h2 : ∀ y c, (env.kindOf y = some .cell ∨ env.kindOf y = some .free) → env.cells.lookup y = some c → c ≠ C) (h3 : ∀ l, A.frames = some l → ∀ e ∈ l, e.frame ≠ some C) : EnvR G A env l μ h' := by
  have kk : Kept G s.heap h' := .but hC0 ho so fun b x hb q => (sb.2 b hb).trans q
  refine ⟨X.dom, X.kind, X.glob, X.blt, X.low, X.lows, X.apart, X.code, fun lf hlf e he => ?_, ?_, fun y hy => ?_⟩
  · obtain ⟨a1, L, o5, es5, k5, a2, a3, a4, a5⟩ := X.frs lf hlf e he
    exact ⟨a1, L, o5, es5, k5, a2, (sb.2 L (by rintro rfl; exact h3 lf hlf e he a2)).trans a3, a4, a5⟩
  · obtain ⟨m, hns, hm⟩ := X.ns
    refine ⟨m, hns.sameBut sb (Ne.symm h1), fun y pv hk hl => ?_⟩
    obtain ⟨v, e1, e2⟩ := hm y pv hk hl
    exact ⟨v, e1, kk.rep e2⟩
  · obtain ⟨c, ov, e1, ⟨o2, e2, e3⟩, e4⟩ := X.cel y hy
    refine ⟨c, ov, e1, ⟨o2, (sb.2 c (h2 y c hy e1)).trans e2, e3⟩, fun pv hl => ?_⟩
    obtain ⟨v, e5, e6⟩ := e4 pv hl
    exact ⟨v, e5, kk.rep e6⟩
theorem Stp.but {C : Addr} {h' : Heap} {own : Addr → Prop} (st : Stp G own μ s μ' s') (new : s.heap.get? C = none) (sb : Heap.SameBut C s'.heap h') : Stp G own μ s μ' { s' with heap := h' } := by
  have ne : ∀ b o, s.heap.get? b = some o → b ≠ C := by rintro b o e rfl; rw [new] at e; cases e
  exact ⟨fun b o e h1 h2 h3 => UpS.trans (st.keepU b o e h1 h2 h3) fun o' e' => .inl ((sb.2 b (ne b o e)).trans e'), st.grow, fun b o e => by
    obtain ⟨o2, e2⟩ := st.live b o e
    exact ⟨o2, (sb.2 b (ne b o e)).trans e2⟩⟩
/-- a plain comprehension -/
theorem r_comp {tgt iter elt : Expr} {ifs : List Expr} {csc : Scope} {pos : Pos} (oki : ∀ env x, foldedSetIterable iter env x = pure x) (okc : okC K.sc csc = true) (h : exE G n K iter l hp (cCo G n K csc tgt elt ifs l Q)) :
    exE G n K (.ListComp elt [⟨tgt, iter, ifs, 0⟩] csc pos) l hp Q := fun env hs A μ s R H X => by
  rw [eval_ListComp]
  refine comp_core (use := none) hs oki okc h R H X (fun s' D C acc hp1 μ1 ce => ?_) _
  have cc := ce.cut X H
  obtain ⟨m, hn⟩ := cc.ns
  refine ⟨m, hn, fun h' sb => ?_⟩
  obtain ⟨o, es, ep, e, hd, hr⟩ := hn
  have kk : Kept G s'.heap h' := .but cc.low e (dc_solid (dc_dict hd)) fun b x hb q => (sb.2 b hb).trans q
  exact ⟨.list acc, hp1, μ1, cc.q, kk.rep cc.rep, cc.hr.kept (s' := { s' with heap := h' }) kk rfl rfl cc.hr.toks, cc.stp.but cc.new sb⟩
/-- x = [..]: the frame's slot takes the list before the block's names are let go, where the line allows it -/
theorem s_comp {elt tgt iter : Expr} {ifs : List Expr} {csc : Scope} {cp xp p : Pos} {x : Str} {S : Fl → Loc → Hp → Prop} (hsw : ∀ env : Env, swapsWith (.ListComp elt [⟨tgt, iter, ifs, 0⟩] csc cp) (some (.Name x xp)) p.line { env with scope := K.sc } = pure true) (ok : stoOk K.sc x = true)
    (oki : ∀ env x, foldedSetIterable iter env x = pure x) (okc : okC K.sc csc = true) (h : exE G n K iter l hp (cCo G n K csc tgt elt ifs l (cAs x l S))) : stS G n K (.Assign [.Name x xp] (.ListComp elt [⟨tgt, iter, ifs, 0⟩] csc cp) p) l hp S := fun env hs A μ s R H X => by
  have ok' : stoOk env.scope x = true := by rw [hs]; exact ok
  rw [exec_Assign_Name_used _ _ _ _ (scp hs (hsw env))]
  refine wpAny_bind (wpAny_standAt (wpAny_bind ?_))
  show wpAny _ A (do let _ ← comprehension (.ListComp elt [⟨tgt, iter, ifs, 0⟩] csc cp) csc env _ (newList []) false (eval iter env) (some (assign (.Name x xp) env))) _ _ s
  refine wpAny_bind (wpAny_mono (comp_core (use := some (assign (.Name x xp) env)) (Qc := fun _ s' => PF G A env μ s S .next s') hs oki okc h R H X (fun s' D C acc hp1 μ1 ce => ?_) _) (fun _ s' hq => wpAny_pure (wpAny_pure hq)) fun _ _ e => e)
  have cc := ce.cut X H
  obtain ⟨m, hn⟩ := cc.ns
  have hnew := cc.new
  have hno : ∀ a, ownOf env a → ∃ o, s.heap.get? a = some o := by
    rintro a (rfl | ⟨y, hy, hc⟩)
    · obtain ⟨m, ⟨o, es, ep, e, _⟩, _⟩ := X.ns; exact ⟨o, e⟩
    · obtain ⟨c, ov, e1, ⟨o, e, _⟩, _⟩ := X.cel y (.inl hy)
      rw [hc] at e1; cases e1; exact ⟨o, e⟩
  have hC : ¬ ownOf env C := fun q => by obtain ⟨o, e⟩ := hno C q; rw [hnew] at e; cases e
  show wpAny _ A (assign (.Name x xp) env (.ref D)) _ _ _
  refine wpAny_mono (wpAny_assign_Name (store_run (own := ownOf env) ok' (fun _ => ownX_of) cc.hr cc.env cc.rep)) (fun _ s2 h2 => ?_) fun _ _ e => e
  obtain ⟨H2, X2, st2⟩ := h2
  obtain ⟨o, es, ep, e, hd, hr⟩ := hn
  obtain ⟨o', e2, hd'⟩ := UpS.obj (st2.keepU C o e (cc.hr.notMem e (dc_solid (dc_dict hd))) (cc.hr.notP e (.inr (dc_P (dc_dict hd)))) hC)
  have so' : sol o' = false := dc_solid (dc_dict (hd'.trans hd))
  refine ⟨m, ⟨o', es, ep, e2, hd'.trans hd, hr⟩, fun h' sb => ?_⟩
  have kk : Kept G s2.heap h' := .but cc.low e2 so' fun b x hb q => (sb.2 b hb).trans q
  refine ⟨.next, _, hp1, μ1, cc.q, trivial, H2.kept (s' := { s2 with heap := h' }) kk rfl rfl H2.toks, X2.but H2 e2 so' cc.low sb ?_ ?_ (fun lf hlf ee hee q => by
    obtain ⟨_, L, o5, es5, k5, a2, a3, _⟩ := X.frs lf hlf ee hee
    rw [q] at a2; cases a2; rw [hnew] at a3; cases a3), (cc.stp.up.trans st2).but hnew sb⟩
  · rintro rfl; exact hC (.inl rfl)
  · rintro y c hy hc rfl
    obtain ⟨c', ov, e1, ⟨o, e, _⟩, _⟩ := X.cel y hy
    rw [hc] at e1; cases e1
    rw [hnew] at e; cases e
end

section
open PySem PySem.W PyProof.Rows
open Sem (wp)
set_option linter.unusedVariables false
set_option linter.unusedSimpArgs false
set_option maxRecDepth 100000
variable {G : GI} {n : Nat} {A : Around} {μ μ' : List Addr} {hp hp' : Hp} {s s' : Shared} {Q : PV → Hp → Prop} {env : Env} {l : Loc} {K : Cfg}
/-! ## what a caller sees of a value: lists made on the way are frozen -/
noncomputable def FrzR (G : GI) (h : Hp) (k : Nat) (v w : PV) : Prop := ∀ {μ ν : List Addr} {s : Shared} {x : Value}, μ.length = k → HR G (μ ++ ν) h s → Rep (μ ++ ν) s.heap v x → Rep μ s.heap w x
noncomputable def FrzL (G : GI) (h : Hp) (k : Nat) (vs ws : List PV) : Prop := ∀ {μ ν : List Addr} {s : Shared} {xs : List Value}, μ.length = k → HR G (μ ++ ν) h s → RepL (μ ++ ν) s.heap vs xs → RepL μ s.heap ws xs
section
variable {h : Hp} {k : Nat}
theorem frz_str {l : List Nat} : FrzR G h k (.str l) (.str l) := fun _ _ r => r
theorem frz_int {i : Int} : FrzR G h k (.int i) (.int i) := fun _ _ r => r
theorem frz_bool {b : Bool} : FrzR G h k (.bool b) (.bool b) := fun _ _ r => r
theorem frz_ref {j : Nat} (hj : j < k) : FrzR G h k (.ref j) (.ref j) := fun e _ r => by
  obtain ⟨a, h1, hm⟩ := r
  exact ⟨a, h1, by rw [List.getElem?_append_left (e ▸ hj)] at hm; exact hm⟩
theorem frl_nil : FrzL G h k [] [] := fun _ _ r => r
theorem frl_cons {v w : PV} {vs ws : List PV} (a : FrzR G h k v w) (b : FrzL G h k vs ws) : FrzL G h k (v :: vs) (w :: ws) := fun e H r => by
  obtain ⟨x, xr, h1, r0, rs⟩ := r
  exact ⟨x, xr, h1, a e H r0, b e H rs⟩
theorem frl_all : ∀ {vs : List PV}, (∀ v ∈ vs, FrzR G h k v v) → FrzL G h k vs vs
  | [], _ => frl_nil
  | _ :: _, hv => frl_cons (hv _ (List.mem_cons_self ..)) (frl_all fun v q => hv v (List.mem_cons_of_mem _ q))
theorem frz_lst {j : Nat} {vs ws : List PV} (hj : h[j]? = some (.list vs)) (hk : k ≤ j) (q : FrzL G h k vs ws) : FrzR G h k (.ref j) (.list ws) := fun {μ ν s x} e H r => by
  obtain ⟨a, xs, m, hm, ho, rs, _⟩ := refAt H r hj
  refine ⟨a, xs, m, rfl, ho, fun hin => ?_, q e H rs⟩
  obtain ⟨i, hi⟩ := List.getElem?_of_mem hin
  have hil : i < μ.length := (List.getElem?_eq_some_iff.mp hi).1
  have hij : i = j := H.inj (by rw [List.getElem?_append_left hil]; exact hi) hm
  rw [e, hij] at hil
  exact Nat.lt_irrefl _ (Nat.lt_of_lt_of_le hil hk)
theorem frz_lsf {vs ws : List PV} (q : FrzL G h k vs ws) : FrzR G h k (.list vs) (.list ws) := fun e H r => by
  obtain ⟨a, xs, m, h1, h2, h3, rs⟩ := r
  exact ⟨a, xs, m, h1, h2, fun q => h3 (List.mem_append_left _ q), q e H rs⟩
theorem frz_tup {vs ws : List PV} (q : FrzL G h k vs ws) : FrzR G h k (.tuple vs) (.tuple ws) := fun e H r => by
  obtain ⟨a, xs, h1, h2, rs, h3⟩ := r
  exact ⟨a, xs, h1, h2, q e H rs, fun q => h3 (List.mem_append_left _ q)⟩
end
/-- what is known of a function of the program -/
structure FnOk (G : GI) (f : Str) (ps : List Str) (sc : Scope) (body : List Stmt) : Prop where
  fn : ∃ a o fd, (G.mg f = some (.ref a) ∧ G.h0.get? a = some o ∧ o.data = .func fd) ∧ fd.body = .stmts body ∧ fd.scope = sc ∧ fd.closure = [] ∧ fd.globals = mainGlobals ∧ fd.builtins = builtinsNs ∧
    G.h0.CodeRec fd.code fd.qualname ∧ (sc.names.lookup QM ≠ none → fd.code = .ref G.C ∧ fd.qualname ++ ".<locals>." = G.tq) ∧ ∀ vals : List Value, vals.length = ps.length → bindArgs fd ⟨vals, []⟩ = pure (ps.zip vals)
  co : sc.isCoroutine = false
  gen : sc.isGenerator = false
  kind : sc.kind = .function
  free : sc.names.all (fun x => x.2 != .free) = true
  prm : ps.all (stoOk sc) = true
noncomputable def retOf : Fl → PV
  | .ret v => v
  | _ => .none
/-- the end of a body: what is given back is frozen -/
noncomputable def EndC (G : GI) (hp : Hp) (Q : PV → Hp → Prop) : Fl → Loc → Hp → Prop := fun fl _ h1 =>
  Ex (FrzR G h1 hp.length (retOf fl)) fun v => hp.length ≤ h1.length ∧ (h1.take hp.length = hp ∨ (h1.take hp.length).all (objIn hp.length) = true) ∧ Q v (h1.take hp.length)
theorem endC_of {hp t : Hp} {v w : PV} {l : Loc} (h : FrzR G (hp ++ t) hp.length v w) (q : Q w hp) : EndC G hp Q (.ret v) l (hp ++ t) :=
  ⟨w, h, by rw [List.length_append]; exact Nat.le_add_right _ _, .inl List.take_left, by rw [List.take_left]; exact q⟩
theorem endC_same {v w : PV} {l : Loc} (h : FrzR G hp hp.length v w) (q : Q w hp) : EndC G hp Q (.ret v) l hp := ⟨w, h, Nat.le_refl _, .inl List.take_length, by rw [List.take_length]; exact q⟩
theorem binds_rep {h : Heap} {kindOf : Str → Option NameKind} : ∀ {ps : List Str} {pvs : List PV} {vals : List Value} {l : Loc} {m cm : Str → Option Value}, pvs.length = ps.length → RepL μ h pvs vals →
    (∀ x pv, l x = some pv → (kindOf x = some .local → ∃ v, m x = some v ∧ Rep μ h pv v) ∧ (kindOf x ≠ some .local → ∃ v, cm x = some v ∧ Rep μ h pv v)) →
    ∀ x pv, updL l ps pvs x = some pv → (kindOf x = some .local → ∃ v, bindL kindOf (ps.zip vals) m x = some v ∧ Rep μ h pv v) ∧ (kindOf x ≠ some .local → ∃ v, bindC kindOf (ps.zip vals) cm x = some v ∧ Rep μ h pv v)
  | [], [], vals, l, m, cm, _, r, hl => by
      cases (show vals = [] from r)
      exact hl
  | p :: ps, pv0 :: pvs, vals, l, m, cm, hlen, r, hl => by
      obtain ⟨w, wr, rfl, r0, rs⟩ := r
      show ∀ x pv, updL (upd l p pv0) ps pvs x = some pv → _
      rw [List.zip_cons_cons]
      unfold bindL bindC
      refine binds_rep (by simpa using hlen) rs fun x pv hx => ?_
      unfold upd at hx
      split at hx
      · rename_i e; subst e; cases hx
        refine ⟨fun hk => ⟨w, by simp [hk], r0⟩, fun hk => ⟨w, by simp [hk], r0⟩⟩
      · rename_i hne
        obtain ⟨a, b⟩ := hl x pv hx
        refine ⟨fun hk => ?_, fun hk => ?_⟩
        · obtain ⟨v, h1, h2⟩ := a hk
          refine ⟨v, ?_, h2⟩
          split <;> simp [hne, h1]
        · obtain ⟨v, h1, h2⟩ := b hk
          refine ⟨v, ?_, h2⟩
          split <;> simp [hne, h1]
  | [], _ :: _, _, _, _, _, hlen, _, _ => by simp at hlen
  | _ :: _, [], _, _, _, _, hlen, _, _ => by simp at hlen
theorem updL_mem : ∀ {ps : List Str} {pvs : List PV} {l : Loc} {x : Str} {pv : PV}, updL l ps pvs x = some pv → x ∈ ps ∨ l x = some pv
  | [], _, l, x, pv, h => by cases ‹List PV› <;> exact .inr h
  | _ :: _, [], l, x, pv, h => .inr h
  | p :: ps, v :: pvs, l, x, pv, h => by
      rcases updL_mem (ps := ps) (pvs := pvs) (l := upd l p v) h with q | q
      · exact .inl (List.mem_cons_of_mem _ q)
      · unfold upd at q
        split at q
        · rename_i e; subst e; exact .inl (List.mem_cons_self ..)
        · exact .inr q
/-- what stands behind a body: what is given back, seen from outside -/
inductive PV1 (G : GI) (μ : List Addr) (s : Shared) (Q : PV → Hp → Prop) (w : Value) (s' : Shared) : Prop
  | mk (pv : PV) (hp' : Hp) (q : Q pv hp') (r : Rep μ s'.heap pv w) (H : HR G μ hp' s') (st : Stp G noOwn μ s μ s')
noncomputable def valOf : Flow → Value
  | .ret v => v
  | _ => .none
/-- a text run in the frame that is known to be the innermost -/
noncomputable def WSf (G : GI) (n : Nat) (env : Env) (loc : Loc) (hp : Hp) (t : Sem Flow) (Q : Fl → Loc → Hp → Prop) : Prop :=
  ∀ A μ s outer L, A.frames = some (env :: outer) → env.frame = some L → Room n A → HR G μ hp s → EnvR G A env loc μ s.heap → wpAny G.M A t (PF G A env μ s Q) noE s
theorem WSf.of {t : Sem Flow} {S : Fl → Loc → Hp → Prop} (h : WS G n env l hp t S) : WSf G n env l hp t S := fun A μ s outer L _ _ R H Y => h A μ s R H Y
/-- a call that has begun -/
inductive Entered (G : GI) (n : Nat) (A : Around) (env : Env) (l : Loc) (μ : List Addr) (s s1 : Shared) : Prop
  | mk (X : EnvR G (A.deeper env) env l μ s1.heap) (R : Room n (A.deeper env)) (fr : env.frame = some env.locals) (lf : List Env) (f1 : A.frames = some lf) (f2 : (A.deeper env).frames = some (env :: lf))
    (keep : ∀ b o, s.heap.get? b = some o → s1.heap.get? b = some o) (own : ∀ b o, s.heap.get? b = some o → ¬ ownOf env b)
theorem enter_env {ps : List Str} {sc : Scope} {vs : List PV} {vals : List Value} {s1 : Shared} {cd : Value} {q : Str} {fa : Option Addr} (kind : sc.kind = .function) (free : sc.names.all (fun x => x.2 != .free) = true) (prm : ps.all (stoOk sc) = true)
    (he : env = newEnv sc s.heap.objs.size mainGlobals (cellsFrom (s.heap.objs.size + 1) sc.names []) q fa cd none builtinsNs) (x : InCallC s env.locals (bindL env.kindOf (ps.zip vals) fun _ => none) env.cells (bindC env.kindOf (ps.zip vals) fun _ => none) s1)
    (hcode : sc.names.lookup QM ≠ none → cd = .ref G.C ∧ q = G.tq) (R : Room (n + 1) A) (hbase : G.h0.objs.size ≤ s.heap.objs.size) (hfr : FrsOk G A s.heap) (hlen : vs.length = ps.length) (r1 : RepL μ s1.heap vs vals) : Entered G n A env (updL (fun _ => none) ps vs) μ s s1 := by
  have hsc : env.scope = sc := by rw [he]; rfl
  have hko : ∀ y, env.kindOf y = sc.names.lookup y := fun y => by rw [Env.kindOf, hsc]
  have hloc : env.locals = s.heap.objs.size := by rw [he]; rfl
  have keep := x.toInCall.keep
  have br := binds_rep (kindOf := env.kindOf) (l := fun _ => none) (m := fun _ => none) (cm := fun _ => none) hlen r1 (fun x pv q => by cases q)
  have habove : ∀ y c, (y, c) ∈ env.cells → s.heap.objs.size < c := fun y c hc => by have := x.above y c hc; rw [hloc] at this; exact this
  obtain ⟨l0, hl0⟩ := R.frames
  have hdf : (A.deeper env).frames = some (env :: l0) := by show A.frames.map (env :: ·) = _; rw [hl0]; rfl
  refine ⟨⟨fun y pv hy => ?_, by rw [hsc]; exact kind, by rw [he]; rfl, by rw [he]; rfl, by rw [hloc]; exact hbase, fun y c hc => Nat.le_trans hbase (Nat.le_of_lt (habove y c hc)), x.apart, fun hq => ?_, fun lf hlf ee hee => ?_, ⟨_, x.toInCall.ns, fun y pv hk hl => (br y pv hl).1 hk⟩, fun y hy => ?_⟩,
    ⟨?_, ?_, R.handled, ⟨_, hdf⟩⟩, by rw [he]; rfl, l0, hl0, hdf, keep, fun b ob e => ?_⟩
  · rcases updL_mem hy with q | q
    · obtain ⟨q1, q2, q3⟩ := sto_iff (List.all_eq_true.mp prm y q)
      rw [hko]
      exact ⟨q1.elim .inl fun z => .inr (.inl z), q2, q3⟩
    · cases q
  · rw [hko] at hq
    rw [he]; exact hcode hq
  · rw [hdf] at hlf; cases hlf
    rcases List.mem_cons.mp hee with q | q
    · subst q
      obtain ⟨o5, es5, k5, e5, hd5, _⟩ := x.toInCall.ns
      exact ⟨(by rw [hsc, kind]; exact (fun q => by cases q)), ee.locals, o5, es5, k5, by rw [he]; rfl, e5, hd5, by rw [hloc]; exact hbase⟩
    · exact (hfr.keep keep) l0 hl0 ee q
  · have hcell : env.kindOf y = some .cell := by
      rcases hy with q | q
      · exact q
      · rw [hko] at q
        have := List.all_eq_true.mp free _ (lookup_mem q)
        cases this
    have hsome : (env.cells.lookup y).isSome = true := by
      rw [he]; rw [hko] at hcell
      exact cells_some0 (.inl (lookup_mem hcell))
    obtain ⟨c, hc⟩ := Option.isSome_iff_exists.mp hsome
    exact ⟨c, _, hc, x.cell y c hc, fun pv hl => (br y pv hl).2 (by rw [hcell]; exact (fun q => by cases q))⟩
  · have := R.depth; show A.depth + 1 + n ≤ 900; omega
  · have := R.units; show A.units + 3 + 10 * n ≤ 9000; omega
  · have hbl : b < s.heap.objs.size := Heap.lt_size e
    rintro (q | ⟨y, hy, hc⟩)
    · rw [hloc] at q; exact Nat.lt_irrefl _ (q ▸ hbl)
    · exact Nat.lt_irrefl _ (Nat.lt_trans hbl (habove y b (lookup_mem hc)))
/-- the heap behind a call, seen by the caller -/
theorem Entered.stp {s1 s2 : Shared} {ν : List Addr} (E : Entered G n A env l μ s s1) (st2 : Stp G (ownOf env) μ s1 (μ ++ ν) s2) : Stp G noOwn μ s μ s2 := by
  obtain ⟨_, _, _, _, _, _, keep, own⟩ := E
  exact ⟨fun b ob e h1 h2 _ => st2.keepU b ob (keep b ob e) h1 h2 (own b ob e), Grow.refl _ _, fun b o e => st2.live b o (keep b o e)⟩
theorem PF.out {s1 s2 : Shared} {f : Flow} (E : Entered G n A env l μ s s1) (HH : HR G μ hp s1) (h : PF G (A.deeper env) env μ s1 (EndC G hp Q) f s2) : PV1 G μ s Q (valOf f) s2 := by
  obtain ⟨fl, l2, hp2, μ2, ⟨v, hv, hle, hcl, hq⟩, r2, H2, X2, st2⟩ := h
  obtain ⟨ν, rfl, hν⟩ := st2.grow
  have hlm : hp.length = μ.length := HH.len.symm
  rw [hlm] at hv hle hcl hq
  have HF : HR G μ (hp2.take μ.length) s2 := H2.cut (by rw [List.length_take, ← H2.len, List.length_append, Nat.min_eq_left (Nat.le_add_right _ _)]) rfl (hcl.elim (fun q => by rw [q]; exact HH.objsIn) id)
  exact ⟨v, _, hq, hv rfl H2 (r2.cases (C := fun fl f => Rep (μ ++ ν) s2.heap (retOf fl) (valOf f)) rfl rfl rfl fun _ _ r => r), HF, E.stp st2⟩
theorem enter_run {s1 : Shared} {t : Sem Flow} (E : Entered G n A env l μ s s1) (HH : HR G μ hp s1) (hst : WSf G n env l hp t (EndC G hp Q)) : wpAny G.M (A.deeper env) t (fun f => PV1 G μ s Q (valOf f)) noE s1 := by
  obtain ⟨X1, R1, hfrm, lf, _, hdf, _⟩ := id E
  exact wpAny_mono (hst (A.deeper env) μ s1 lf env.locals hdf hfrm R1 HH X1) (fun f s2 h2 => PF.out E HH h2) fun _ _ e => e.elim
theorem enter_ok {f : Str} {ps : List Str} {sc : Scope} {body : List Stmt} {vals : List Value} {k : Nat} (F : FnOk G f ps sc body) : ∀ p ∈ ps.zip vals, sc.names.lookup p.1 = some .local ∨ (sc.names.lookup p.1 = some .cell ∧ ((cellsFrom k sc.names []).lookup p.1).isSome = true) := by
  rintro ⟨y, w⟩ hy
  rcases (sto_iff (List.all_eq_true.mp F.prm y (List.of_mem_zip hy).1)).1 with q | q
  · exact .inl q
  · exact .inr ⟨q, cells_some0 (.inl (lookup_mem q))⟩
theorem callW_of {f : Str} {ps : List Str} {sc : Scope} {body : List Stmt} {vs : List PV} (g : GOk G) (hno : G.h0.NoLimit) (F : FnOk G f ps sc body) (hlen : vs.length = ps.length) (hst : ∀ env, env.scope = sc → WSf G n env (updL (fun _ => none) ps vs) hp (execs body env) (EndC G hp Q)) : CallW G n f vs hp Q := by
  obtain ⟨a, o, fd, ⟨hm, ho, hd⟩, hb, hs, hclo, hgl, hbl, hcr, hcode, hbind⟩ := F.fn
  refine ⟨a, o, fd, ⟨hm, ho, hd⟩, fun A μ s vals R H r hbase hfr => ?_⟩
  subst hs
  refine codeAny_call_function (by have := R.depth; show A.depth < 1000; omega) (H.base _ _ ho) hd F.co F.gen hb (hcr.keeps fun b o e => H.base b o e) ?_
  rw [hbind _ (r.length.trans hlen), hclo, hgl, hbl]
  refine wpAny_pure (wtk H.toks (wpAny_newFunctionEnv_cells F.kind (enter_ok F) fun env he s1 x => fun ht1 => ?_))
  refine ⟨hno.keeps fun b o e => x.toInCall.keep b o (H.base b o e), codeAny_func ?_⟩
  obtain ⟨h1, tk, hsame⟩ := x.toInCall.same
  have H1 : HR G μ hp s1 := H.ext x.toInCall.keep (by rw [hsame]) (by rw [hsame]) ht1
  refine wpAny_mono (enter_run (enter_env F.kind F.free F.prm he x hcode R hbase hfr hlen (H.repL (Stp.ext (own := noOwn) x.toInCall.keep) r)) H1 (hst env (by rw [he]; rfl))) (fun f s2 h2 => ?_) fun _ _ e => e.elim
  obtain ⟨pv, hp', q, r', H', st⟩ := h2
  exact ⟨pv, hp', _, by cases f <;> rfl, q, r', H', st⟩
theorem call_walk {f : Str} {ps : List Str} {sc : Scope} (trk : Pos → Bool) {body : List Stmt} {vs : List PV} (g : GOk G) (hno : G.h0.NoLimit) (F : FnOk G f ps sc body) (hl : vs.length = ps.length)
    (h : stL G n ⟨sc, trk⟩ (body.drop 0) (updL (fun _ => none) ps vs) hp (EndC G hp Q)) : CallW G n f vs hp Q := callW_of g hno F hl fun env hs => .of (h env hs)
theorem callW_mono {f : Str} {ps : List PV} {Q Q' : PV → Hp → Prop} (h : CallW G n f ps hp Q) (k : ∀ v hp', Q v hp' → Q' v hp') : CallW G n f ps hp Q' := by
  obtain ⟨a, o, fd, e, h⟩ := h
  refine ⟨a, o, fd, e, fun A μ s vs R H r hb hf => codeAny_mono (h A μ s vs R H r hb hf) fun r s' q => ?_⟩
  obtain ⟨pv, hp', v, e1, e2, e3, e4, e5⟩ := q
  exact ⟨pv, hp', v, e1, k _ _ e2, e3, e4, e5⟩
theorem isFn_of {f : Str} {ps : List Str} {sc : Scope} {body : List Stmt} (F : FnOk G f ps sc body) : isFn G f := by
  obtain ⟨a, o, fd, h, _⟩ := F.fn; exact ⟨a, o, fd, h⟩
/-! ## words for the walk -/
theorem ofs_cps (a : String) : (Str.ofString a).cps.toList = a.toList.map Char.toNat := by
  unfold Str.ofString; simp [cpsOfBytes_string]
theorem ofs_inj (a b : String) : (Str.ofString a = Str.ofString b) = (a = b) := by
  apply propext
  constructor
  · intro h
    have h2 : a.toList.map Char.toNat = b.toList.map Char.toNat := by rw [← ofs_cps, ← ofs_cps, h]
    exact String.toList_inj.mp (List.map_inj_right (fun x y e => Char.toNat_inj.mp e) |>.mp h2)
  · rintro rfl; rfl
theorem lk_hit (l : Loc) (x : Str) (v : PV) : upd l x v x = some v := upd_same l x v
theorem ofs_ne {a b : String} (h : (a == b) = false) : Str.ofString a ≠ Str.ofString b := fun e => by
  rw [ofs_inj] at e; rw [beq_eq_false_iff_ne] at h; exact h e
theorem lk_miss {l : Loc} {a b : String} {v w : PV} (h : (a == b) = false) (e : l (Str.ofString a) = some w) : upd l (Str.ofString b) v (Str.ofString a) = some w := by
  rw [upd_other l v (ofs_ne h)]; exact e
theorem if_t {c : Prop} [Decidable c] {A B : Prop} (h : c) (q : A) : if c then A else B := by rw [if_pos h]; exact q
section
variable {test : Loc → Hp → (Bool → Hp → Prop) → Prop} {body : Loc → Hp → (Fl → Loc → Hp → Prop) → Prop} {Q : Fl → Loc → Hp → Prop} {I : Loc → Hp → Prop} {chk : Hp → Prop} {h : Hp} {c : Bool} {v : PV}
theorem whileW_of (Inv : Nat → Loc → Hp → Prop)
    (h : ∀ (I : Loc → Hp → Prop) (m : Nat) (l : Loc) (hp : Hp), (∀ m' l' hp', m' < m → Inv m' l' hp' → I l' hp') → Inv m l hp → test l hp (WhT body I Q l)) {m : Nat} {l : Loc} {hp : Hp} (h0 : Inv m l hp) : WhileW test body Q l hp := by
  intro I hI
  induction m using Nat.strongRecOn generalizing l hp with
  | ind m ih => exact hI l hp (h I m l hp (fun m' l' hp' hm hi => ih m' hm hi) h0)
theorem wt_t (e : c = true) (q : body l h (WhK I Q)) : WhT body I Q l c h := by subst e; exact q
theorem wt_f (e : ¬ c = true) (q : Q .next l h) : WhT body I Q l c h := by unfold WhT; rw [if_neg e]; exact q
theorem fk_next (e : chk h) (q : I l h) : FoK chk I Q .next l h := ⟨e, q⟩
theorem forL_of {body : PV → Loc → Hp → (Fl → Loc → Hp → Prop) → Prop} (Inv : List PV → Loc → Hp → Prop)
    (hstep : ∀ (I : Loc → Hp → Prop) (x : PV) (xs : List PV) (l : Loc) (h : Hp), (∀ l' h', Inv xs l' h' → I l' h') → Inv (x :: xs) l h → body x l h (FoK chk I Q)) (hend : ∀ l h, Inv [] l h → Q .next l h) : ∀ {xs : List PV} {l : Loc} {h : Hp}, Inv xs l h → forL body chk Q xs l h
  | [], _, _, q => hend _ _ q
  | x :: xs, l, h, q => hstep (fun l' h' => forL body chk Q xs l' h') x xs l h (fun l' h' q' => forL_of Inv hstep hend q') q
end
theorem kbFor {t : Expr} {b : List Stmt} {v : PV} {l : Loc} {h : Hp} {S : Fl → Loc → Hp → Prop} (q : bindT K.sc t v l (cBd G n K b h S)) : bFor G n K t b v l h S := q
theorem kBd {b : List Stmt} {l : Loc} {h : Hp} {S : Fl → Loc → Hp → Prop} (q : stL G n K b l h S) : cBd G n K b h S l := q
theorem compL_of {test : List PV → Loc → (Bool → Prop) → Prop} {elt : List PV → Loc → (PV → Prop) → Prop} {bnd : PV → (Loc → Prop) → Prop} {Q : List PV → Prop} (Inv : List PV → List PV → Prop)
    (step : ∀ (I : List PV → Prop) (x : PV) (xs acc : List PV), (∀ acc', Inv xs acc' → I acc') → Inv (x :: xs) acc → bnd x fun l1 => test acc l1 fun c => if c then elt acc l1 fun v => I (acc ++ [v]) else I acc)
    (hend : ∀ acc, Inv [] acc → Q acc) : ∀ {xs acc : List PV}, Inv xs acc → compL test elt bnd Q xs acc
  | [], acc, h => hend acc h
  | x :: xs, acc, h => step (fun acc' => compL test elt bnd Q xs acc') x xs acc (fun acc' h' => compL_of Inv step hend h') h
theorem kTs_nil {h : Hp} {acc : List PV} {k : Bool → Prop} (q : k true) : cTs G n K [] h acc l k := q
theorem kCe {h : Hp} {acc : List PV} {k : PV → Prop} {v : PV} (e : inTo h.length v = true) (q : k v) : cCe h acc k v (h ++ [.list acc]) := ⟨rfl, e, q⟩
theorem contents_app {hp t : Hp} {v : PV} {vs : List PV} (h : contents hp v = some vs) : contents (hp ++ t) v = some vs := by
  cases v with
  | list _ => exact h
  | ref j =>
    have e := contents_ref h
    rw [contents, List.getElem?_append_left (List.getElem?_eq_some_iff.mp e).1]; exact h
  | _ => cases h
theorem getE_end (hp t : Hp) (m : MO) : (hp ++ m :: t)[hp.length]? = some m := getMid hp t m
theorem set_end (hp t : Hp) (m m' : MO) : (hp ++ m :: t).set hp.length m' = hp ++ m' :: t := set_mid hp t m m'
theorem okRef_app {hp : Hp} (t : Hp) {j : Nat} (h : okRef hp j = true) : okRef (hp ++ t) j = true := by
  unfold okRef at h ⊢
  cases e : hp[j]? with
  | none => rw [e] at h; cases h
  | some m => rw [List.getElem?_append_left (List.getElem?_eq_some_iff.mp e).1]; exact h
theorem AppR.me {h h' : Hp} {j : Nat} {x : PV} (a : AppR h j x h') : MeR G "list.append" h (.ref j) [x] .none h' := by
  obtain ⟨vs, e, hb, rfl⟩ := a
  exact meth_app e hb
theorem AppR.to {h h1 h2 : Hp} {j : Nat} {x : PV} (a : AppR h j x h1) (e : h1 = h2) : AppR h j x h2 := e ▸ a
theorem meth_end {hp t : Hp} {X : List PV} {v : PV} {k : Nat} (hk : k = hp.length) (hb : X.length < big) : AppR (hp ++ .list X :: t) k v (hp ++ .list (X ++ [v]) :: t) := by
  subst hk; exact ⟨X, getE_end .., Nat.le_of_lt hb, (set_end ..).symm⟩
theorem s_list {x : Str} {es : List Expr} {p p1 p2 : Pos} {S : Fl → Loc → Hp → Prop} (ok : stoOk K.sc x = true) (h : exL G n K es l hp (cLt (cAs x l S))) : stS G n K (.Assign [.Name x p1] (.List es p2) p) l hp S := s_asgn (fun _ => rfl) ok (r_listT h)
theorem bi_tup2 {x y : Str} {v w : PV} {q1 q2 q : Pos} {k : Nat} {T : Loc → Prop} (h1 : stoOk K.sc x = true) (h2 : stoOk K.sc y = true) (h : T (upd (upd l x v) y w)) : bindT K.sc (.Tuple [.Name x q1, .Name y q2] k q) (.tuple [v, w]) l T := bi_tup (.cons h1 (.cons h2 .nil)) rfl h
theorem bt_len : (Str.ofString "len", Value.builtin "len") ∈ bltTab := by simp [bltTab]
theorem bt_chr : (Str.ofString "chr", Value.builtin "chr") ∈ bltTab := by simp [bltTab]
theorem bt_range : (Str.ofString "range", Value.type "range") ∈ bltTab := by simp [bltTab]
theorem bt_list : (Str.ofString "list", Value.type "list") ∈ bltTab := by simp [bltTab]
theorem bt_str : (Str.ofString "str", Value.type "str") ∈ bltTab := by simp [bltTab]
theorem cont_end {hp t : Hp} {X : List PV} {k : Nat} (hk : k = hp.length) : contents (hp ++ .list X :: t) (.ref k) = some X := by
  subst hk; rw [contents, getE_end]; rfl
noncomputable def subB (B : List Stmt) (k : Nat) : List Stmt := match B[k]? with
  | some (.While _ b _ _) => b
  | some (.For _ _ b _ _) => b
  | some (.If _ b _ _) => b
  | _ => []
noncomputable def subE (B : List Stmt) (k : Nat) : List Stmt := match B[k]? with
  | some (.If _ _ e _) => e
  | _ => []
theorem gt_one (a b : Nat) : ltL [a] [b] = decide (a < b) := by
  unfold ltL
  congr 1
  rw [List.cons_lt_cons_iff]
  simp
theorem ce (hp : Hp) (t : Hp) {k : Nat} {X : List PV} (hk : k = hp.length) : (hp ++ .list X :: t)[k]? = some (.list X) := by subst hk; exact getE_end ..
end

section
open PySem PySem.W PyProof.Rows
open Sem (wp)
set_option linter.unusedVariables false
set_option linter.unusedSimpArgs false
set_option maxRecDepth 100000
variable {G : GI} {n : Nat} {A : Around} {μ μ' : List Addr} {hp hp' : Hp} {s s' : Shared} {Q : PV → Hp → Prop} {env : Env} {l : Loc} {K : Cfg} {p : Pos}
/-! ## further operations (laws 02, 05, 06) -/
theorem isa_tup_list {vs : List PV} : IsaR G "list" hp (.tuple vs) false := fun H r q => by
  obtain ⟨a, ws, ho, _⟩ := tupAt r
  exact IsiPair.tuple_list ho rfl (PE_t1 H rbool q)
/-! a row of conditions as a value -/
/-! equality of a value with one of the same making -/
/-- made of plain values, at most d deep -/
inductive Plain : Nat → PV → Prop
  | none (d : Nat) : Plain d .none
  | bool (d : Nat) (b : Bool) : Plain d (.bool b)
  | int (d : Nat) (i : Int) : Plain d (.int i)
  | str (d : Nat) (x : List Nat) : Plain d (.str x)
  | list (d : Nat) (vs : List PV) (h : ∀ v ∈ vs, Plain d v) : Plain (d + 1) (.list vs)
  | tup (d : Nat) (vs : List PV) (h : ∀ v ∈ vs, Plain d v) : Plain (d + 1) (.tuple vs)
theorem RepL.pair {h : Heap} : ∀ {ps : List PV} {vs ws : List Value}, RepL μ h ps vs → RepL μ h ps ws → ∀ (j : Nat) (h1 : j < vs.length) (h2 : j < ws.length), ∃ p ∈ ps, Rep μ h p vs[j] ∧ Rep μ h p ws[j]
  | [], _, _, r, _, j, h1, _ => by cases (show _ = [] from r); cases h1
  | p :: ps, _, _, r, q, j, h1, h2 => by
      obtain ⟨w, wr, rfl, r0, rs⟩ := r
      obtain ⟨z, zr, rfl, q0, qs⟩ := q
      cases j with
      | zero => exact ⟨p, List.mem_cons_self .., r0, q0⟩
      | succ j =>
        obtain ⟨p', hp, a, b⟩ := RepL.pair rs qs j (Nat.lt_of_succ_lt_succ h1) (Nat.lt_of_succ_lt_succ h2)
        exact ⟨p', List.mem_cons_of_mem _ hp, a, b⟩
open SeqAt in
theorem eqAt_same {d : Nat} {x : PV} (f : Plain d x) : ∀ {A : Around} {s : Shared} {v w : Value}, Rep μ s.heap x v → Rep μ s.heap x w → A.units + d < cLine → EqAt A s v w true ∧ RcAt A s v w true := by
  have all1 : ∀ k : Nat, (List.range k).all (fun _ => true) = true := fun k => List.all_eq_true.mpr fun _ _ => rfl
  induction f with
  | none d => intro A s v w rx ry _; rw [show v = .none from rx, show w = .none from ry]; exact ⟨EqAt.same _, RcAt.none_none⟩
  | bool d b => intro A s v w rx ry _; rw [show v = .bool b from rx, show w = .bool b from ry]; exact ⟨EqAt.same _, beq_self_eq_true b ▸ RcAt.bool_bool b b⟩
  | int d i => intro A s v w rx ry _; obtain ⟨t, rfl⟩ := rx; obtain ⟨u, rfl⟩ := ry; exact ⟨beq_self_eq_true i ▸ EqAt.int_int i t i u, beq_self_eq_true i ▸ RcAt.int_int i t i u⟩
  | str d x => intro A s v w rx ry _; obtain ⟨t, rfl⟩ := rx; obtain ⟨u, rfl⟩ := ry; exact ⟨beq_self_eq_true (⟨x.toArray⟩ : Str) ▸ EqAt.str_str _ t _ u, beq_self_eq_true (⟨x.toArray⟩ : Str) ▸ RcAt.str_str _ t _ u⟩
  | list d vs _ ih =>
    intro A s v w rx ry hu
    obtain ⟨a, ws, m, rfl, ho, _, rs⟩ := rx
    obtain ⟨b, zs, k, rfl, hob, _, rz⟩ := ry
    have hsz : ws.size = zs.size := rs.size.trans rz.size.symm
    have rc : RcAt A s (.ref a) (.ref b) true := all1 ws.size ▸ RcAt.lists (e := fun _ => true) ⟨_, ho, rfl, m, rfl⟩ ⟨_, hob, rfl, k, rfl⟩ hsz (by omega) fun j h1 h2 => by
      obtain ⟨p, hp, r1, r2⟩ := rs.pair rz j (by rw [Array.length_toList]; exact h1) (by rw [Array.length_toList]; exact h2)
      exact (ih p hp r1 r2 (show A.units + 1 + d < cLine by omega)).1
    refine ⟨?_, rc⟩
    by_cases hab : a = b
    · subst hab; exact EqAt.same _
    · exact EqAt.of_refs hab rc
  | tup d vs _ ih =>
    intro A s v w rx ry hu
    obtain ⟨a, ws, rfl, ho, rs, _⟩ := rx
    obtain ⟨b, zs, rfl, hob, rz, _⟩ := ry
    have hsz : ws.size = zs.size := rs.size.trans rz.size.symm
    have rc : RcAt A s (.ref a) (.ref b) true := by
      have := RcAt.tuples (e := fun _ => true) (A := A) (s := s) ⟨_, ho, rfl, _, rfl⟩ ⟨_, hob, rfl, _, rfl⟩ (by omega) fun j h1 h2 => by
        obtain ⟨p, hp, r1, r2⟩ := rs.pair rz j (by rw [Array.length_toList]; exact h1) (by rw [Array.length_toList]; exact h2)
        exact (ih p hp r1 r2 (show A.units + 1 + d < cLine by omega)).1
      rwa [all1, hsz, beq_self_eq_true, Bool.and_self] at this
    refine ⟨?_, rc⟩
    by_cases hab : a = b
    · subst hab; exact EqAt.same _
    · exact EqAt.of_refs hab rc
theorem Room.cl (R : Room n A) {k : Nat} (h : k ≤ 100) : A.units + k < cLine := by
  have := R.units
  have e : cLine = 9900 := rfl
  omega
theorem eq_same {x : PV} {d : Nat} (f : Plain d x) (h : d ≤ 100) : CmpR G .Eq hp x x true := fun R H rx ry q => (eqAt_same f rx ry (R.cl h)).2 G.prog G.w _ _ q
/-! a display of a value and a list that is changed later: the inner list is tracked -/
/-! a condition in a comprehension -/
theorem truth_is {x : PV} {vs : List PV} {b : Bool} (h : contents hp x = some vs) (hb : vs.length ≤ 4100000) (e : (!vs.isEmpty) = b) : TruR G hp x b := e ▸ truth_cont h (big_ge hb)
theorem snoc_ne {α : Type} {vs us : List α} {x : α} (e : vs = us ++ [x]) : (!vs.isEmpty) = true := by rw [e]; cases us <;> rfl
theorem is_ln {vs : List PV} : IsR G hp (.list vs) .none false := isC fun H rx ry h => by
  obtain ⟨a, ws, m, rfl, _⟩ := rx
  rw [show _ = Value.none from ry]; exact wpAny_isSame_plain rfl h
end

section
open PySem PySem.W PyProof.Rows
open Sem (wp)
set_option linter.unusedVariables false
set_option linter.unusedSimpArgs false
set_option maxRecDepth 100000
variable {G : GI} {n : Nat} {A : Around} {μ μ' : List Addr} {hp hp' : Hp} {s s' : Shared} {Q : PV → Hp → Prop} {B : Bool → Hp → Prop} {env : Env} {l : Loc} {K : Cfg} {p : Pos}
/-! ## two compares in a row -/
/-! ## a pair of lists that are changed later -/
/-! ## lists out of texts and ranges -/
theorem repL_of {h : Heap} : ∀ {vs : List PV} {ws : List Value}, ws.length = vs.length → (∀ (j : Nat) (v : Value), ws[j]? = some v → ∃ p, vs[j]? = some p ∧ Rep μ h p v) → RepL μ h vs ws
  | [], [], _, _ => rfl
  | [], _ :: _, e, _ => by cases e
  | _ :: _, [], e, _ => by cases e
  | p :: vs, w :: ws, e, k => by
      obtain ⟨p', h1, h2⟩ := k 0 w rfl
      cases h1
      exact ⟨w, ws, rfl, h2, repL_of (Nat.succ.inj e) fun j v q => k (j + 1) v q⟩
theorem PE_fresh {vs : List PV} {h' : Heap} {k c : Nat} {acc : Array Value} (H : HR G μ hp s) (hk : 1 ≤ k) (keep : ∀ b o, s.heap.get? b = some o → h'.get? b = some o) (ho : h'.get? s.heap.objs.size = some (lstO acc c)) (r : RepL μ h' vs acc.toList) (q : Q (.list vs) hp) :
    PE G μ s Q (.ref s.heap.objs.size) { s with heap := h', toks := k } :=
  ⟨.list vs, hp, μ, q, ⟨_, acc, c, rfl, ho, H.new, r⟩, H.kept (s' := { s with heap := h', toks := k }) (Kept.all keep) rfl rfl hk, Stp.ext keep⟩
theorem list_str {x : List Nat} (hx : x.length ≤ 100000) : BltR G (.type "list") hp [.str x] (.list (charsOf x)) := fun R H ra q => RepL.one_inv ra fun w r0 => strE r0 fun t =>
  wtk H.toks (call_list_str R.handled _ t (fun h' tk acc c keep ho it hk => PE_fresh H hk keep ho (repL_of (by rw [Array.length_toList, it.1]; simp [charsOf]) fun j v e => by
    obtain ⟨d, u, h1, rfl⟩ := it.2 j v (by simpa using e)
    refine ⟨.str [d], ?_, u, rfl⟩
    have : x[j]? = some d := by simpa using h1
    rw [charsOf, List.getElem?_map, this]; rfl) q) (str_fits (big_ge (by omega))))
end

section
open PySem PySem.W PyProof.Rows
open Sem (wp)
set_option linter.unusedVariables false
set_option linter.unusedSimpArgs false
set_option maxRecDepth 100000
variable {G : GI} {n : Nat} {A : Around} {μ μ' : List Addr} {hp hp' : Hp} {s s' : Shared} {Q : PV → Hp → Prop} {env : Env} {l : Loc} {K : Cfg} {p : Pos}
/-! ## unequal values (laws 05, 06) -/
open SeqAt in
/-- != of equal lists -/
theorem ne_same {vs : List PV} {d : Nat} (f : ∀ v ∈ vs, Plain d v) (h : d ≤ 90) : CmpR G .NotEq hp (.list vs) (.list vs) false := fun {n A μ s v w Q E} R H rx ry q => by
  obtain ⟨a, ws, m, rfl, ho, _, rs⟩ := rx
  obtain ⟨b, zs, k, rfl, hob, _, rz⟩ := ry
  have hsz : ws.size = zs.size := rs.size.trans rz.size.symm
  have hu := R.cl (show d + 1 ≤ 100 by omega)
  have all1 : ∀ k : Nat, (List.range k).all (fun _ => true) = true := fun k => List.all_eq_true.mpr fun _ _ => rfl
  have rc := RcNeAt.lists (A := A) (s := s) (e := fun _ => true) ⟨_, ho, rfl, m, rfl⟩ ⟨_, hob, rfl, k, rfl⟩ hsz (show A.units < cLine by omega) fun j h1 h2 => by
    obtain ⟨p, hp, r1, r2⟩ := rs.pair rz j (by rw [Array.length_toList]; exact h1) (by rw [Array.length_toList]; exact h2)
    exact (eqAt_same (f p hp) r1 r2 (show A.units + 1 + d < cLine by omega)).1
  rw [all1] at rc
  exact rc G.prog G.w _ _ q
open SeqAt in
/-- a tuple and one of one text, the first text another -/
theorem tag_at {a b : List Nat} (hab : a ≠ b) {xs : List PV} {A : Around} {s : Shared} {μ : List Addr} {v w : Value} (rx : Rep μ s.heap (.tuple (.str a :: xs)) v) (ry : Rep μ s.heap (.tuple [.str b]) w) (hu : A.units < cLine) : EqAt A s v w false ∧ RcAt A s v w false := by
  obtain ⟨x, ws, rfl, ho, rs, _⟩ := rx
  obtain ⟨y, zs, rfl, hob, rz, _⟩ := ry
  obtain ⟨w0, wr, e1, ⟨t, rfl⟩, _⟩ := rs
  obtain ⟨z0, zr, e2, ⟨u, rfl⟩, e3⟩ := rz
  cases (show zr = [] from e3)
  have hz : zs = #[.str ⟨b.toArray⟩ u] := Array.toList_inj.mp e2
  have hw : ws.toList = .str ⟨a.toArray⟩ t :: wr := e1
  have hws : ws.size = wr.length + 1 := by rw [← Array.length_toList, hw]; rfl
  subst hz
  have hb : ((⟨a.toArray⟩ : Str) == ⟨b.toArray⟩) = false := by rw [beqS]; exact decide_eq_false hab
  have rc : RcAt A s (.ref x) (.ref y) false := by
    have := RcAt.tuples (e := fun _ => false) (A := A) (s := s) ⟨_, ho, rfl, _, rfl⟩ ⟨_, hob, rfl, _, rfl⟩ hu fun j h1 h2 => by
      have hj : j = 0 := by have : j < 1 := h2; omega
      subst hj
      have e0 : ws[0] = .str ⟨a.toArray⟩ t := by
        have h3 : ws.toList[0]? = some (.str ⟨a.toArray⟩ t) := by rw [hw]; rfl
        rw [Array.getElem?_toList, Array.getElem?_eq_getElem h1] at h3
        exact Option.some.inj h3
      rw [e0, ← hb]
      exact EqAt.str_str _ t _ u
    have hm : min ws.size (#[.str ⟨b.toArray⟩ u] : Array Value).size = 1 := by rw [hws]; show min (wr.length + 1) 1 = 1; omega
    rw [hm] at this
    exact this
  refine ⟨EqAt.of_refs ?_ rc, rc⟩
  rintro rfl
  rw [ho] at hob
  have h4 : (lstO ws 0).data = (lstO #[.str ⟨b.toArray⟩ u] 0).data := by
    have := congrArg (fun o : Option Obj => o.map (·.data)) hob
    exact Option.some.inj this
  have h5 : ws = #[.str ⟨b.toArray⟩ u] := by injection h4
  rw [h5] at hw
  have h6 := (List.cons.inj (show [Value.str ⟨b.toArray⟩ u] = _ from hw)).1
  injection h6 with h7
  injection h7 with h8
  exact hab (by have := congrArg Array.toList h8; simpa using this.symm)
theorem eq_tag {a b : List Nat} (hab : a ≠ b) {xs : List PV} : CmpR G .Eq hp (.tuple (.str a :: xs)) (.tuple [.str b]) false := fun R H rx ry q => (tag_at hab rx ry (R.cl (k := 0) (by omega))).2 G.prog G.w _ _ q
open SeqAt in
theorem ne_len {vs us : List PV} (h : vs.length ≠ us.length) : CmpR G .NotEq hp (.list vs) (.list us) true := fun R H rx ry q => by
  obtain ⟨x, ws, m, rfl, ho, _, rs⟩ := rx
  obtain ⟨y, zs, k, rfl, hob, _, rz⟩ := ry
  have h1 := rs.size
  have h2 := rz.size
  exact RcNeAt.lists_lengths ⟨_, ho, rfl, m, rfl⟩ ⟨_, hob, rfl, k, rfl⟩ (by rw [h1, h2]; exact bne_iff_ne.mpr h) (R.cl (k := 0) (by omega)) G.prog G.w _ _ q
theorem slc_lastA {α : Type} (x : List α) (c : α) : slc (x ++ [c]) (some (-1)) none = [c] := by
  rw [slc_eq]
  have e1 : sldef (some (-1)) (x ++ [c]).length 0 = x.length := by
    unfold sldef; rw [List.length_append]; simp only [List.length_cons, List.length_nil]
    rw [if_pos (by omega), if_neg (by omega)]; omega
  rw [e1, List.drop_left]
  exact List.take_of_length_le (by show 1 ≤ (x ++ [c]).length - x.length; rw [List.length_append]; show 1 ≤ x.length + 1 - x.length; omega)
theorem slice_lastA {o : PV} {x : List PV} {c : PV} (h : contents hp o = some (x ++ [c])) (hb : (x ++ [c]).length ≤ big) : SlR G hp o (.int (-1)) .none (.list [c]) := slc_lastA x c ▸ slice_cont (a' := some (-1)) (b' := none) h (.int _) .none hb
theorem slice_last0 {o : PV} (h : contents hp o = some []) : SlR G hp o (.int (-1)) .none (.list []) := slice_cont (a' := some (-1)) (b' := none) h (.int _) .none (Nat.zero_le _)
end

section
open PySem PySem.W PyProof.Rows
open Sem (wp)
set_option linter.unusedVariables false
set_option linter.unusedSimpArgs false
set_option maxRecDepth 100000
variable {G : GI} {n : Nat} {A : Around} {μ μ' : List Addr} {hp hp' : Hp} {s s' : Shared} {Q : PV → Hp → Prop} {env : Env} {l : Loc} {K : Cfg} {p : Pos}
/-! ## list.extend, list.pop, unlike things (law 06) -/
theorem mok_extend : MOk (Str.ofString "extend") "list" "list.extend" := ⟨F.plainAttrs_list, F.slot_list_extend, F.type_list_extend⟩
theorem mok_pop : MOk (Str.ofString "pop") "list" "list.pop" := ⟨F.plainAttrs_list, F.slot_list_pop, F.type_list_pop⟩
theorem meth_ext {k : Nat} {vs us : List PV} {y : PV} (h : hp[k]? = some (.list vs)) (h2 : contents hp y = some us) (hb : vs.length + us.length ≤ big) : MeR G "list.extend" hp (.ref k) [y] .none (hp.set k (.list (vs ++ us))) := fun H ro ra q => RepL.one_inv ra fun w r0 => by
  obtain ⟨a, ws, m, hm, ho, rs, n1⟩ := refAt H ro h
  obtain ⟨b, zs, j, hob, rz, n2⟩ := lstAt H r0 h2
  have hsz : ws.size + zs.size ≤ sizeLine := by rw [n1, n2]; exact big_fits hb
  refine call_meets F.slot_list_extend ⟨_, ho, rfl⟩ F.entry_list_extend (F.args_list_extend_2 _ _) (AutoSeq1.list_extend_list_list_0 a ws m b zs j (extend_door hsz) (Nat.le_trans (Nat.le_add_right _ _) hsz) (Nat.le_succ_of_le hsz)) ⟨ho, hob, ?_⟩
  exact PE_upd (f := fun x => x ++ zs) (ws' := ws ++ zs) H hm ho rfl (by rw [Array.toList_append]; exact rs.append rz) rnone q
theorem repL_snoc {h : Heap} : ∀ {vs : List PV} {v : PV} {ws : List Value}, RepL μ h (vs ++ [v]) ws → ∃ us w, ws = us ++ [w] ∧ RepL μ h vs us ∧ Rep μ h v w
  | [], _, _, r => by
      obtain ⟨w, wr, rfl, r0, r1⟩ := r
      cases (show wr = [] from r1)
      exact ⟨[], w, rfl, rfl, r0⟩
  | x :: vs, v, _, r => by
      obtain ⟨w, wr, rfl, r0, r1⟩ := r
      obtain ⟨us, z, rfl, h1, h2⟩ := repL_snoc r1
      exact ⟨w :: us, z, rfl, ⟨w, us, rfl, r0, h1⟩, h2⟩
theorem meth_pop {k : Nat} {vs : List PV} {v : PV} (h : hp[k]? = some (.list (vs ++ [v]))) (hb : (vs ++ [v]).length ≤ big) : MeR G "list.pop" hp (.ref k) [] v (hp.set k (.list vs)) := fun {A μ s w as Q} H ro ra q => by
  cases (show as = [] from ra)
  obtain ⟨a, ws, m, hm, ho, rs, n1⟩ := refAt H ro h
  obtain ⟨us, z, e, r1, r2⟩ := repL_snoc rs
  have e' : ws = (us ++ [z]).toArray := by rw [← e, Array.toArray_toList]
  subst e'
  have hz : (us ++ [z]).toArray.size ≤ sizeLine := by rw [n1]; exact big_fits hb
  have hk : (us ++ [z]).toArray.size - 1 = us.length := by rw [List.size_toArray, List.length_append]; rfl
  have hy : (us ++ [z]).toArray[(us ++ [z]).toArray.size - 1]? = some z := by rw [hk]; simp
  refine call_meets F.slot_list_pop ⟨_, ho, rfl⟩ F.entry_list_pop (F.args_list_pop_1 _) (PySem.MeetsSeq.list_pop_last a _ m z hy hz) ⟨ho, ?_⟩
  refine PE_upd (f := fun xs => xs.eraseIdxIfInBounds ((us ++ [z]).toArray.size - 1)) (ws' := us.toArray) H hm ho ?_ r1 r2 q
  show (us ++ [z]).toArray.eraseIdxIfInBounds ((us ++ [z]).toArray.size - 1) = us.toArray
  rw [hk]
  simp [Array.eraseIdxIfInBounds]
  rw [List.eraseIdx_append_of_length_le (Nat.le_refl _), Nat.sub_self]
  exact List.append_nil us
open SeqAt in
theorem eq_tup_str {vs : List PV} {b : List Nat} : CmpR G .Eq hp (.tuple vs) (.str b) false := fun R H rx ry q => strE ry fun t => by
  obtain ⟨a, ws, rfl, ho, _⟩ := rx
  exact RcAt.tuple_str _ t ⟨_, ho, rfl, _, rfl⟩ (R.cl (k := 0) (by omega)) G.prog G.w _ _ q
/-- a tuple or a list is no text -/
noncomputable def noStr (hp : Hp) : PV → Prop
  | .tuple _ => True
  | .ref j => ∃ vs, hp[j]? = some (.list vs)
  | _ => False
open SeqAt in
theorem ne_one {v : PV} {b : List Nat} (h : noStr hp v) : CmpR G .NotEq hp (.list [v]) (.list [.str b]) true := fun R H rx ry q => by
  obtain ⟨x, ws, m, rfl, ho, _, rs⟩ := rx
  obtain ⟨y, zs, k, rfl, hob, _, rz⟩ := ry
  have h1 : ws.size = 1 := rs.size
  have h2 : zs.size = 1 := rz.size
  have rc := RcNeAt.lists (A := _) (e := fun _ => false) ⟨_, ho, rfl, m, rfl⟩ ⟨_, hob, rfl, k, rfl⟩ (h1.trans h2.symm) (R.cl (k := 0) (by omega)) fun j g1 g2 => by
    obtain ⟨w0, wr, e1, r1, _⟩ := rs
    obtain ⟨z0, zr, e2, ⟨t, r2⟩, _⟩ := rz
    have hj : j = 0 := by omega
    subst hj
    have e0 : ws[0] = w0 := by
      have h3 : ws.toList[0]? = some w0 := by rw [e1]; rfl
      rw [Array.getElem?_toList, Array.getElem?_eq_getElem g1] at h3
      exact Option.some.inj h3
    have e4 : zs[0] = z0 := by
      have h3 : zs.toList[0]? = some z0 := by rw [e2]; rfl
      rw [Array.getElem?_toList, Array.getElem?_eq_getElem g2] at h3
      exact Option.some.inj h3
    rw [e0, e4, r2]
    cases v with
    | tuple vs =>
      obtain ⟨a, us, rfl, hoa, _⟩ := r1
      exact EqAt.tuple_str _ t ⟨_, hoa, rfl, _, rfl⟩ (R.cl (k := 1) (by omega))
    | ref j =>
      obtain ⟨vs, hj⟩ := h
      obtain ⟨a, us, m2, hm, hoa, _, _⟩ := refAt H r1 hj
      exact EqAt.list_str _ t ⟨_, hoa, rfl, _, rfl⟩ (R.cl (k := 1) (by omega))
    | _ => exact h.elim
  rw [h1] at rc
  exact rc G.prog G.w _ _ q
end

section
open PySem PySem.W PyProof.Rows
open Sem (wp)
set_option linter.unusedVariables false
set_option linter.unusedSimpArgs false
set_option maxRecDepth 100000
variable {G : GI} {n : Nat} {A : Around} {μ μ' : List Addr} {hp hp' : Hp} {s s' : Shared} {Q : PV → Hp → Prop} {env : Env} {l : Loc} {K : Cfg}
noncomputable def spcl : List Nat := [40, 41, 91, 93, 123, 125, 63, 42, 43, 45, 124, 94, 36, 92, 46, 38, 126, 35, 32, 9, 10, 13, 11, 12]
noncomputable def escC (c : Nat) : List Nat := if spcl.contains c then [92, c] else [c]
section
variable {prog : Program} {w : World} {E : Value → Shared → Prop}
open Builtin Builtin.Str
theorem tl_hit {d : Addr} {f : Int → Option Value} {c : Nat} {y : Str} {u : Tok} {R : Mapped → Shared → Prop} (hm : s.heap.MapOf (intKind prog w) d f) (hv : f c = some (.str y u)) (h : ∀ k, s.toks ≤ k → R (.text y) { s with toks := k }) :
    wpAny (model prog w) A (tableLookup (.ref d) c) R E s := by
  unfold tableLookup
  refine wpAny_bind (wpAny_attempt (wpAny_bind (wpAny_mkInt ?_)))
  refine wpAny_getItem_of (k := (c : Int)) (by simp [intKind, Value.isInt]) hm hv ?_
  exact wpAny_pure (h _ (by show s.toks ≤ s.toks + 1 + 1; omega))
theorem tl_miss {d : Addr} {f : Int → Option Value} {c : Nat} {R : Mapped → Shared → Prop} (hh : A.handled = none) (hd : (d == sysModules) = false) (hm : s.heap.MapOf (intKind prog w) d f) (hv : f c = none)
    (h : ∀ h' k, s.toks ≤ k → (∀ b o, s.heap.get? b = some o → h'.get? b = some o) → R .keep { s with toks := k, heap := h' }) :
    wpAny (model prog w) A (tableLookup (.ref d) c) R E s := by
  unfold tableLookup
  refine wpAny_bind (wpAny_attempt (wpAny_bind (wpAny_mkInt ?_)))
  refine wpAny_getItem_missing_of (k := (c : Int)) (by simp [intKind, Value.isInt]) hd hh hm hv fun h' e ne => ?_
  obtain ⟨ob, t, h1, h2, h3⟩ := ne.there
  refine wpAny_bind (wpAny_isInstance (T := "KeyError") (b := true) ⟨ob, h1, h2⟩ ?_ ?_)
  · rw [isSubtype_type]; kernel_rfl
  · exact wpAny_bind (wpAny_rule (wpAny_pure (h h' _ (by show s.toks ≤ s.toks + 1 + 1; omega) ne.keeps)))
end
open Builtin Builtin.Str in
theorem op_trans {prog : Program} {w : World} {E : Value → Shared → Prop} {d : Addr} {f : Int → Option Value} {c : Nat} {t : Tok} {R : Fin → Shared → Prop} (hh : A.handled = none) (hd : (d == sysModules) = false) (hm : s.heap.MapOf (intKind prog w) d f)
    (h1 : c ∈ spcl → ∃ u, f c = some (.str ⟨#[92, c]⟩ u)) (h2 : c ∉ spcl → f c = none)
    (h : ∀ h' k y, s.toks ≤ k → (∀ b o, s.heap.get? b = some o → h'.get? b = some o) → y = ⟨(escC c).toArray⟩ → R (.done (.ret (.str y k))) { s with toks := k + 1, heap := h' }) :
    wpAny (model prog w) A (Builtin.«str.translate» ⟨[.str ⟨#[c]⟩ t, .ref d], []⟩) R E s := by
  unfold Builtin.«str.translate»
  have e : Builtin.Str.strOneArg "translate" ⟨[.str ⟨#[c]⟩ t, .ref d], []⟩ = pure (.str ⟨#[c]⟩ t, ⟨#[c]⟩, .ref d) := rfl
  rw [e]
  refine wpAny_bind (wpAny_pure ?_)
  show wpAny _ _ (if (false : Bool) = true then _ else _) _ _ _
  rw [if_neg (by decide)]
  have fin : ∀ (y : Str) (s1 : Shared), s1.gens = s.gens → s1.drawn = s.drawn → s1.os = s.os → s.toks ≤ s1.toks → (∀ b o, s.heap.get? b = some o → s1.heap.get? b = some o) → y = ⟨(escC c).toArray⟩ → wpAny (model prog w) A (retStr y) R E s1 := by
    rintro y ⟨h1, g1, d1, k1, o1⟩ rfl rfl rfl hk hb hy
    have hl : y.length ≤ sizeLine := by
      rw [hy]
      show (escC c).toArray.size ≤ sizeLine
      unfold escC
      split <;> simp [sizeLine]
    unfold retStr ret
    exact wpAny_bind (wpAny_mkStr (wpAny_pure (h h1 k1 y hk hb hy)) hl)
  simp only [← Array.forIn_toList, List.forIn_cons, List.forIn_nil]
  by_cases hc : c ∈ spcl
  · obtain ⟨u, hu⟩ := h1 hc
    have h128 : c < 128 := by
      exact (show ∀ c ∈ spcl, c < 128 by decide) c hc
    have hall : (#[c].all fun x => decide (x < 128)) = true := by simp [h128]
    rw [hall]
    refine wpAny_bind (wpAny_bind ?_)
    rw [if_neg (by simp [tooLong, sizeLine])]
    rw [if_pos rfl]
    simp only [List.lookup_nil]
    refine wpAny_bind (tl_hit hm hu fun k hk => ?_)
    have e2 : (if (({ cps := #[92, c] } : Str).length == 1 && ({ cps := #[92, c] } : Str).cps.all fun x => decide (x < 128)) = true then some (({ cps := #[92, c] } : Str).cps[0]?) else none) = (none : Option (Option Nat)) := by
      rw [if_neg (by simp [Str.length])]
    simp only [e2]
    refine wpAny_bind (wpAny_pure ?_)
    simp only []
    refine wpAny_bind (wpAny_rule ?_)
    rw [if_neg (by decide)]
    refine wpAny_bind (tl_hit (s := { s with toks := k }) hm hu fun k2 hk2 => ?_)
    refine wpAny_pure (wpAny_pure ?_)
    show wpAny _ _ (if _ then _ else _) _ _ _
    rw [if_neg (by simp [tooLong, Str.length, sizeLine])]
    refine fin _ _ rfl rfl rfl (Nat.le_trans hk hk2) (fun _ _ e => e) ?_
    have : spcl.contains c = true := by simpa using hc
    simp [escC, hc]
  · have hesc : escC c = [c] := by unfold escC; rw [if_neg (by simpa using hc)]
    cases h128 : decide (c < 128) with
    | true =>
      have hall : (#[c].all fun x => decide (x < 128)) = true := by simpa using h128
      rw [hall]
      refine wpAny_bind (wpAny_bind ?_)
      rw [if_neg (by simp [tooLong, sizeLine])]
      rw [if_pos rfl]
      simp only [List.lookup_nil]
      refine wpAny_bind (tl_miss hh hd hm (h2 hc) fun h' k hk hb => ?_)
      simp only []
      refine wpAny_bind (wpAny_pure ?_)
      refine wpAny_pure (wpAny_pure ?_)
      show wpAny _ _ (if _ then _ else _) _ _ _
      rw [if_neg (by simp [tooLong, sizeLine])]
      refine fin _ _ rfl rfl rfl hk hb ?_
      simp [hesc]
    | false =>
      have hall : (#[c].all fun x => decide (x < 128)) = false := by simpa using h128
      rw [hall]
      refine wpAny_bind (wpAny_bind ?_)
      rw [if_neg (by simp [tooLong, sizeLine])]
      rw [if_neg (by decide)]
      rw [if_neg (by decide)]
      refine wpAny_bind (tl_miss hh hd hm (h2 hc) fun h' k hk hb => ?_)
      refine wpAny_pure (wpAny_pure ?_)
      show wpAny _ _ (if _ then _ else _) _ _ _
      rw [if_neg (by simp [tooLong, sizeLine])]
      refine fin _ _ rfl rfl rfl hk hb ?_
      simp [hesc]
structure MapTab (G : GI) : Prop where
  tab : ∃ d f, G.mg (Str.ofString "_special_chars_map") = some (.ref d) ∧ (d == sysModules) = false ∧ G.h0.MapOf (intKind G.prog G.w) d f ∧
    ∀ c : Nat, (c ∈ spcl → ∃ u, f c = some (.str ⟨#[92, c]⟩ u)) ∧ (c ∉ spcl → f c = none)
inductive cTl (Q : PV → Hp → Prop) : PV → Hp → Prop
  | mk (c : Nat) (h : Hp) (q : Q (.str (escC c)) h) : cTl Q (.str [c]) h
theorem kTl {c : Nat} {h : Hp} (q : Q (.str (escC c)) h) : cTl Q (.str [c]) h := ⟨c, h, q⟩
theorem r_trans {o : Expr} {mp pos p2 : Pos} (g : GOk G) (mt : MapTab G) (okf : glbOk K.sc (Str.ofString "_special_chars_map") = true) (hn : ∀ env, attributeBase o (Str.ofString "translate") env (eval o env) = eval o env) (hline : (mp.endLine == pos.line) = true)
    (h : exE G n K o l hp (cTl Q)) : exE G n K (.Call (.Attribute o (Str.ofString "translate") mp) [.Name (Str.ofString "_special_chars_map") p2] [] pos) l hp Q := fun env hs A μ s R H X => by
  refine wpAny_Call_method (hn env) rfl hline F.plainAttrs_str F.slot_str_translate F.type_str_translate ?_
  refine (h env hs).run R H X fun v s1 pv hp1 μ1 q r H1 X1 st1 => ?_
  obtain ⟨c, h1, q2⟩ := q
  refine strE r fun t => ⟨typeIs_str _ _ _, (fun a e => nomatch e), ?_⟩
  obtain ⟨d, f, hm, hsys, hd, hf⟩ := mt.tab
  refine Calls.callWith_builtin rfl (Calls.evalArgs_plain (Calls.spliced_cons (glb_fn g hs okf H1 X1 hm (Calls.spliced_nil ?_))))
  obtain ⟨o', es, ep, e1, e2, e3, e4, e5⟩ := hd
  refine wpAny_call_entry F.slot_str_translate (typeIs_str _ _ _) F.entry_str_translate ?_ (F.args_str_translate_2 _ _)
  refine op_trans (A := A.in1) R.handled hsys ⟨o', es, ep, H1.base _ _ e1, e2, e3, e4, e5⟩ (hf c).1 (hf c).2 fun h' k y hk hb hy => ?_
  exact ⟨_, rfl, .str (escC c), hp1, μ1, q2, ⟨_, by rw [hy]⟩, H1.ext hb rfl rfl (by show 1 ≤ k + 1; omega), st1.trans (Stp.ext hb)⟩
end

section
open PySem PySem.W PyProof.Rows
open Sem (wp)
set_option linter.unusedVariables false
set_option linter.unusedSimpArgs false
set_option maxRecDepth 100000
/-! facts on the two types of re -/
theorem pa_pattern : PlainAttrs "re.Pattern" :=
  ⟨⟨"object.__getattribute__", by rw [typeLookup_type, builtinLookup_eq_fast]; kernel_rfl, by decide +kernel⟩, by rw [typeLookup_type, builtinLookup_eq_fast]; kernel_rfl⟩
theorem pa_match : PlainAttrs "re.Match" :=
  ⟨⟨"object.__getattribute__", by rw [typeLookup_type, builtinLookup_eq_fast]; kernel_rfl, by decide +kernel⟩, by rw [typeLookup_type, builtinLookup_eq_fast]; kernel_rfl⟩
theorem slot_sub : Slot "re.Pattern" "sub" "re.Pattern.sub" :=
  .of (owner := "re.Pattern") (n := "sub") (by rw [typeLookup_type, builtinLookup_eq_fast]; kernel_rfl) (by decide +kernel) (by decide +kernel) (by decide +kernel)
    (by first | exact .inl (by decide +kernel) | exact .inr (by decide +kernel)) (by rw [isSubtype_type]; kernel_rfl)
theorem type_sub : typeOf (.builtin "re.Pattern.sub") = pure (.type "method_descriptor") := by show builtinType _ = _; rw [builtinType_eq_fast]; kernel_rfl
theorem entry_sub : entryFor table "re.Pattern.sub" = some Builtin.«re.Pattern.sub» := entryFor_of_tree (by kernel_rfl)
theorem args_sub (a b c : Value) : argsOk "re.Pattern.sub" ⟨[a, b, c], []⟩ := by unfold argsOk; kernel_rfl
theorem entry_loop : entryFor table "re.Pattern.sub.loop" = some Builtin.«re.Pattern.sub.loop» := entryFor_of_tree (by kernel_rfl)
theorem slot_group : Slot "re.Match" "group" "re.Match.group" :=
  .of (owner := "re.Match") (n := "group") (by rw [typeLookup_type, builtinLookup_eq_fast]; kernel_rfl) (by decide +kernel) (by decide +kernel) (by decide +kernel)
    (by first | exact .inl (by decide +kernel) | exact .inr (by decide +kernel)) (by rw [isSubtype_type]; kernel_rfl)
theorem type_group : typeOf (.builtin "re.Match.group") = pure (.type "method_descriptor") := by show builtinType _ = _; rw [builtinType_eq_fast]; kernel_rfl
theorem entry_group : entryFor table "re.Match.group" = some Builtin.«re.Match.group» := entryFor_of_tree (by kernel_rfl)
theorem args_group (a b : Value) : argsOk "re.Match.group" ⟨[a, b], []⟩ := by unfold argsOk; kernel_rfl
end

section
open PySem PySem.W PyProof.Rows
open Sem (wp)
set_option linter.unusedVariables false
set_option linter.unusedSimpArgs false
set_option maxRecDepth 100000
open PySem.Sre
/-! the machine of [&~|] -/
noncomputable def CODE : Array Nat := #[14, 14, 4, 1, 1, 9, 0, 64, 0, 1342177280, 0, 0, 0, 0, 0, 17, 0, 13, 11, 9, 0, 64, 0, 1342177280, 0, 0, 0, 0, 0, 17, 1, 1]
noncomputable def isTw (c : Nat) : Bool := c == 38 || c == 124 || c == 126
theorem bits5 : ∀ c, c < 256 → (CODE.getD (5 + (1 + c / 32)) 0).testBit (c % 32) = isTw c := by decide +kernel
theorem bits19 : ∀ c, c < 256 → (CODE.getD (19 + (1 + c / 32)) 0).testBit (c % 32) = isTw c := by decide +kernel
theorem isTw_lt {c : Nat} (h : ¬ c < 256) : isTw c = false := by
  unfold isTw
  have h1 : (c == 38) = false := by rw [beq_eq_false_iff_ne]; omega
  have h2 : (c == 124) = false := by rw [beq_eq_false_iff_ne]; omega
  have h3 : (c == 126) = false := by rw [beq_eq_false_iff_ne]; omega
  simp [h1, h2, h3]
theorem inSet5 (c : Nat) (seen : Sre.Seen) : ∃ seen', inSet CODE c CODE.size 5 true seen = .ok (isTw c, seen') := by
  show ∃ seen', inSet CODE c (30 + 1 + 1) 5 true seen = _
  unfold inSet
  have e0 : CODE.getD (5 + 0) 0 = 9 := rfl
  have e1 : ops[9]? = some .CHARSET := rfl
  simp only [e0, e1]
  by_cases hc : c < 256
  · have := bits5 c hc
    cases hb : isTw c with
    | true =>
      rw [hb] at this
      rw [if_pos (by rw [this]; simp [hc])]
      exact ⟨_, rfl⟩
    | false =>
      rw [hb] at this
      rw [if_neg (by rw [this]; simp)]
      unfold inSet
      have e2 : CODE.getD (5 + 9 + 0) 0 = 0 := rfl
      have e3 : ops[0]? = some .FAILURE := rfl
      simp only [e2, e3]
      exact ⟨_, rfl⟩
  · rw [if_neg (by simp [hc]), isTw_lt hc]
    unfold inSet
    have e2 : CODE.getD (5 + 9 + 0) 0 = 0 := rfl
    have e3 : ops[0]? = some .FAILURE := rfl
    simp only [e2, e3]
    exact ⟨_, rfl⟩
theorem inSet19 (c : Nat) (hc : isTw c = true) (seen : Sre.Seen) : ∃ seen', inSet CODE c CODE.size 19 true seen = .ok (true, seen') := by
  show ∃ seen', inSet CODE c (30 + 1 + 1) 19 true seen = _
  unfold inSet
  have e0 : CODE.getD (19 + 0) 0 = 9 := rfl
  have e1 : ops[9]? = some .CHARSET := rfl
  simp only [e0, e1]
  have h : c < 256 := Decidable.byContradiction fun h => by rw [isTw_lt h] at hc; cases hc
  have := bits19 c h
  rw [hc] at this
  rw [if_pos (by rw [this]; simp [h])]
  exact ⟨_, rfl⟩
/-- the first tempting place from i on -/
noncomputable def nextTw (x : List Nat) (i : Nat) : Option Nat := ((x.drop i).findIdx? isTw).map (i + ·)
theorem admitted_eq (m : M) (hc : m.code = CODE) (x : List Nat) (ht : m.text = x.toArray) (hl : m.lim = x.length) : ∀ (fuel s : Nat) (seen : Sre.Seen), x.length ≤ s + fuel → ∃ seen', M.admitted m fuel s seen = .ok (nextTw x s, seen')
  | 0, s, seen, h => by
      refine ⟨seen, ?_⟩
      have : x.drop s = [] := List.drop_eq_nil_of_le (by omega)
      simp [M.admitted, nextTw, this]
  | fuel + 1, s, seen, h => by
      unfold M.admitted
      rw [hl]
      by_cases hs : s ≥ x.length
      · rw [if_pos hs]
        have : x.drop s = [] := List.drop_eq_nil_of_le hs
        exact ⟨seen, by simp [nextTw, this]⟩
      · rw [if_neg hs, hc, ht]
        have hlt : s < x.length := by omega
        have e1 : x.toArray.getD s 0 = x[s] := by simp [hlt]
        rw [e1]
        obtain ⟨seen', e⟩ := inSet5 x[s] seen
        rw [e]
        have ed : x.drop s = x[s] :: x.drop (s + 1) := List.drop_eq_getElem_cons hlt
        unfold nextTw
        rw [ed, List.findIdx?_cons]
        cases hb : isTw x[s] with
        | true =>
          refine ⟨seen', ?_⟩
          rfl
        | false =>
          obtain ⟨s2, e2⟩ := admitted_eq m hc x ht hl fuel (s + 1) seen' (by omega)
          refine ⟨s2, ?_⟩
          show M.admitted m fuel (s + 1) seen' = _
          rw [e2]
          unfold nextTw
          cases List.findIdx? isTw (x.drop (s + 1)) with
          | none => rfl
          | some k =>
            show Except.ok (some (s + 1 + k), s2) = Except.ok (some (s + (k + 1)), s2)
            rw [Nat.add_assoc, Nat.add_comm 1 k]
end

section
open PySem PySem.W PyProof.Rows
open Sem (wp)
set_option linter.unusedVariables false
set_option linter.unusedSimpArgs false
set_option maxRecDepth 100000
open PySem.Sre
/-- the machine while it tries a place -/
noncomputable def mAt (x : List Nat) (ls j pc pos handed : Nat) (marks : Array (Option Nat)) (lm li : Int) (fr : List Sre.Frame) (wt : Nat) (ans : Option Bool) (seen : Sre.Seen) (out : Option Sre.Outcome) : M :=
  { code := CODE, text := x.toArray, lim := x.length, start := j, lastStart := ls, wholeText := false, mustAdvance := false, pc := pc, pos := pos, handed := handed, outermost := true,
    marks := marks, lastmark := lm, lastindex := li, loops := #[], inner := none, frames := fr, weight := wt, answer := ans, seen := seen, outcome := out }
noncomputable def frm (j : Nat) : Sre.Frame := { wait := .nextStart, pc := 15, pos := j, outermost := true }
variable {x : List Nat} {ls j : Nat}
theorem stepA (seen : Sre.Seen) : ∃ s', (mAt x ls j 15 j j #[none, none] (-1) (-1) [frm j] 1 none seen none).step = mAt x ls j 17 j j #[some j, none] 0 (-1) [frm j] 1 none s' none := ⟨_, rfl⟩
theorem stepB (hj : j < x.length) (ht : isTw x[j] = true) (seen : Sre.Seen) : ∃ s', (mAt x ls j 17 j j #[some j, none] 0 (-1) [frm j] 1 none seen none).step = mAt x ls j 29 (j + 1) j #[some j, none] 0 (-1) [frm j] 1 none s' none := by
  have e1 : (mAt x ls j 17 j j #[some j, none] 0 (-1) [frm j] 1 none seen none).step = (mAt x ls j 17 j j #[some j, none] 0 (-1) [frm j] 1 none seen none).exec := rfl
  rw [e1]
  have e2 : (mAt x ls j 17 j j #[some j, none] 0 (-1) [frm j] 1 none seen none).exec =
    (if j ≥ x.length then (mAt x ls j 17 j j #[some j, none] 0 (-1) [frm j] 1 none (seen.add 13) none).say false else
      match accepts CODE 17 (x.toArray.getD j 0) (seen.add 13) with
      | .error why => (mAt x ls j 17 j j #[some j, none] 0 (-1) [frm j] 1 none (seen.add 13) none).stick why
      | .ok (false, s2) => { mAt x ls j 17 j j #[some j, none] 0 (-1) [frm j] 1 none (seen.add 13) none with seen := s2 }.say false
      | .ok (true, s2) => { mAt x ls j 17 j j #[some j, none] 0 (-1) [frm j] 1 none (seen.add 13) none with seen := s2, pc := 17 + itemWidth CODE 17, pos := j + 1 }) := rfl
  rw [e2, if_neg (by omega)]
  have e3 : x.toArray.getD j 0 = x[j] := by simp [hj]
  have e4 : accepts CODE 17 (x.toArray.getD j 0) (seen.add 13) = inSet CODE (x.toArray.getD j 0) CODE.size 19 true (seen.add 13) := rfl
  rw [e4, e3]
  obtain ⟨s2, e5⟩ := inSet19 _ ht (seen.add 13)
  rw [e5]
  exact ⟨s2, rfl⟩
theorem stepC (seen : Sre.Seen) : ∃ s', (mAt x ls j 29 (j + 1) j #[some j, none] 0 (-1) [frm j] 1 none seen none).step = mAt x ls j 31 (j + 1) j #[some j, some (j + 1)] 1 1 [frm j] 1 none s' none := ⟨seen.add 17, by kernel_rfl⟩
theorem stepD (seen : Sre.Seen) : ∃ s', (mAt x ls j 31 (j + 1) j #[some j, some (j + 1)] 1 1 [frm j] 1 none seen none).step = mAt x ls j 31 (j + 1) (j + 1) #[some j, some (j + 1)] 1 1 [frm j] 1 (some true) s' none := ⟨_, rfl⟩
theorem stepE (seen : Sre.Seen) : ∃ pc pos, (mAt x ls j 31 (j + 1) (j + 1) #[some j, some (j + 1)] 1 1 [frm j] 1 (some true) seen none).step = mAt x ls j pc pos (j + 1) #[some j, some (j + 1)] 1 1 [] 0 (some true) seen none := ⟨_, _, rfl⟩
theorem stepF (seen : Sre.Seen) (pc pos : Nat) : (mAt x ls j pc pos (j + 1) #[some j, some (j + 1)] 1 1 [] 0 (some true) seen none).step = mAt x ls j pc pos (j + 1) #[some j, some (j + 1)] 1 1 [] 0 (some true) seen (some .matched) := rfl
theorem runFor_succ (m : M) (n : Nat) (h : m.outcome.isSome = false) : M.runFor (n + 1) m = M.runFor n m.step := by
  show (if m.outcome.isSome = true then m else M.runFor n m.step) = _
  rw [if_neg (by rw [h]; decide)]
theorem runFor_done (m : M) (n : Nat) (h : m.outcome.isSome = true) : M.runFor n m = m := by
  cases n with
  | zero => rfl
  | succ n =>
    show (if m.outcome.isSome = true then m else M.runFor n m.step) = _
    rw [if_pos h]
theorem run_found (hj : j < x.length) (ht : isTw x[j] = true) (seen : Sre.Seen) : ∃ m1, (mAt x ls j 15 j j #[none, none] (-1) (-1) [frm j] 1 none seen none).runFor 4 = m1 ∧ m1.outcome.isSome = false ∧
    ∃ pc pos s', m1.runFor 4 = mAt x ls j pc pos (j + 1) #[some j, some (j + 1)] 1 1 [] 0 (some true) s' (some .matched) := by
  obtain ⟨s1, e1⟩ := stepA (x := x) (ls := ls) (j := j) seen
  obtain ⟨s2, e2⟩ := stepB (ls := ls) hj ht s1
  obtain ⟨s3, e3⟩ := stepC (x := x) (ls := ls) (j := j) s2
  obtain ⟨s4, e4⟩ := stepD (x := x) (ls := ls) (j := j) s3
  obtain ⟨pc, pos, e5⟩ := stepE (x := x) (ls := ls) (j := j) s4
  have key : M.runFor 4 (mAt x ls j 15 j j #[none, none] (-1) (-1) [frm j] 1 none seen none) = mAt x ls j 31 (j + 1) (j + 1) #[some j, some (j + 1)] 1 1 [frm j] 1 (some true) s4 none := by
    rw [runFor_succ _ _ rfl, e1, runFor_succ _ _ rfl, e2, runFor_succ _ _ rfl, e3, runFor_succ _ _ rfl, e4]
    rfl
  refine ⟨_, key, rfl, pc, pos, s4, ?_⟩
  rw [runFor_succ _ _ rfl, e5, runFor_succ _ _ rfl, stepF, runFor_done _ _ rfl]
theorem run_failed (m : M) (h1 : m.outcome = none) (h2 : m.answer = some false) (h3 : m.frames = []) : ∃ m1, m.runFor 4 = m1 ∧ m1.outcome = some .failed := by
  have : m.step = { m with outcome := some .failed } := by
    unfold M.step
    rw [h1, h2, h3]; rfl
  refine ⟨_, rfl, ?_⟩
  rw [runFor_succ _ _ (by rw [h1]; rfl), this, runFor_done _ _ rfl]
/-- the machine that a search starts with -/
noncomputable def m00 (x : List Nat) (i : Nat) : M := { code := CODE, text := x.toArray, lim := x.length, start := i, pc := 15, pos := i, handed := i, marks := #[none, none], mustAdvance := false, seen := ({} : Sre.Seen).add 14 }
theorem forSearch_eq (i : Nat) : Sre.forSearch CODE x.toArray 1 i x.length false = if (decide (i > x.length) || decide (x.length - i < 1)) = true then (m00 x i).say false else M.attemptFrom { m00 x i with lastStart := x.length } i true := by
  first | rfl | (unfold Sre.forSearch; rfl)
end

section
open PySem PySem.W PyProof.Rows
open Sem (wp)
set_option linter.unusedVariables false
set_option linter.unusedSimpArgs false
set_option maxRecDepth 100000
open PySem.Sre PySem.Builtin.Re
noncomputable def mSt (x : List Nat) (i : Nat) : Sre.M := { m00 x i with lastStart := x.length }
theorem from_none {x : List Nat} {i : Nat} (hn : nextTw x i = none) : ∃ s1, (mSt x i).attemptFrom i true = ({ mSt x i with seen := s1 } : Sre.M).say false := by
  obtain ⟨s1, e⟩ := admitted_eq (mSt x i) rfl x rfl rfl (x.length + 1 - i) i (mSt x i).seen (Nat.le_of_succ_le (Nat.sub_le_iff_le_add'.mp (Nat.le_refl _)))
  refine ⟨s1, ?_⟩
  have h1 : (mSt x i).hasFirstSet = true := rfl
  unfold Sre.M.attemptFrom
  rw [h1]
  simp only [Bool.not_true, Bool.false_eq_true, if_false]
  have h2 : Sre.M.admitted (mSt x i) ((mSt x i).lim + 1 - i) i (mSt x i).seen = .ok (none, s1) := by rw [← hn]; exact e
  rw [h2]
theorem from_some {x : List Nat} {i j : Nat} (hn : nextTw x i = some j) : ∃ s1, (mSt x i).attemptFrom i true = mAt x x.length j 15 j j #[none, none] (-1) (-1) [frm j] 1 none s1 none := by
  obtain ⟨s1, e⟩ := admitted_eq (mSt x i) rfl x rfl rfl (x.length + 1 - i) i (mSt x i).seen (Nat.le_of_succ_le (Nat.sub_le_iff_le_add'.mp (Nat.le_refl _)))
  refine ⟨s1, ?_⟩
  have h1 : (mSt x i).hasFirstSet = true := rfl
  unfold Sre.M.attemptFrom
  rw [h1]
  simp only [Bool.not_true, Bool.false_eq_true, if_false]
  have h2 : Sre.M.admitted (mSt x i) ((mSt x i).lim + 1 - i) i (mSt x i).seen = .ok (some j, s1) := by rw [← hn]; exact e
  rw [h2]
  rfl
section
variable {M : Model} {A : Around} {E : Value → Shared → Prop} {s : Shared}
theorem rules_wp {c : Nat → Bool} {nm : Nat → String} {Q : PUnit → Shared → Prop} (h : Q () s) : ∀ (l : List Nat),
    wpAny M A (forIn l PUnit.unit fun i _ => if c i = true then (do rule (nm i); pure (ForInStep.yield PUnit.unit)) else pure (ForInStep.yield PUnit.unit)) Q E s
  | [] => wpAny_pure h
  | i :: l => by
      rw [List.forIn_cons]
      refine wpAny_bind ?_
      split
      · exact wpAny_bind (wpAny_rule (wpAny_pure (rules_wp h l)))
      · exact wpAny_pure (rules_wp h l)
theorem drive_one {k : Nat} {m m1 : Sre.M} {Q : Sre.M → Shared → Prop} (h1 : m.runFor 4 = m1) (h2 : m1.outcome.isSome = true) (h : Q m1 s) : wpAny M A (reDrive (k + 1) m) Q E s := by
  show wpAny M A (if (m.runFor 4).outcome.isSome = true then pure (m.runFor 4) else do rule "sre.turn"; reDrive k (m.runFor 4)) Q E s
  rw [h1, if_pos h2]
  exact wpAny_pure h
theorem drive_two {k : Nat} {m m1 m2 : Sre.M} {Q : Sre.M → Shared → Prop} (h1 : m.runFor 4 = m1) (h2 : m1.outcome.isSome = false) (h3 : m1.runFor 4 = m2) (h4 : m2.outcome.isSome = true) (h : Q m2 s) : wpAny M A (reDrive (k + 1 + 1) m) Q E s := by
  show wpAny M A (if (m.runFor 4).outcome.isSome = true then pure (m.runFor 4) else do rule "sre.turn"; reDrive (k + 1) (m.runFor 4)) Q E s
  rw [h1, if_neg (by rw [h2]; decide)]
  exact wpAny_bind (wpAny_rule (drive_one h3 h4 h))
theorem two64 : (2 : Nat) ^ 64 = 18446744073709551614 + 1 + 1 := by decide
theorem toEnd_failed {m m1 : Sre.M} {Q : Option Sre.M → Shared → Prop} (h1 : m.runFor 4 = m1) (h2 : m1.outcome = some .failed) (h : Q none s) : wpAny M A (reRunToEnd m) Q E s := by
  unfold reRunToEnd
  rw [two64]
  refine wpAny_bind (drive_one (k := 18446744073709551614 + 1) h1 (by rw [h2]; rfl) ?_)
  refine wpAny_bind (rules_wp ?_ _)
  rw [h2]
  exact wpAny_pure h
theorem toEnd_matched {m m1 m2 : Sre.M} {Q : Option Sre.M → Shared → Prop} (h1 : m.runFor 4 = m1) (h2 : m1.outcome.isSome = false) (h3 : m1.runFor 4 = m2) (h4 : m2.outcome = some .matched) (h : Q (some m2) s) : wpAny M A (reRunToEnd m) Q E s := by
  unfold reRunToEnd
  rw [two64]
  refine wpAny_bind (drive_two h1 h2 h3 (by rw [h4]; rfl) ?_)
  refine wpAny_bind (rules_wp ?_ _)
  rw [h4]
  exact wpAny_pure h
theorem nextTw_some {x : List Nat} {i j : Nat} (h : nextTw x i = some j) : i ≤ j ∧ ∃ hj : j < x.length, isTw x[j] = true ∧ ∀ k, i ≤ k → (hk : k < j) → isTw (x[k]'(Nat.lt_trans hk hj)) = false := by
  unfold nextTw at h
  obtain ⟨k, hk, rfl⟩ := Option.map_eq_some_iff.mp h
  rw [List.findIdx?_eq_some_iff_getElem] at hk
  obtain ⟨h1, h2, h3⟩ := hk
  rw [List.length_drop] at h1
  refine ⟨Nat.le_add_right .., Nat.add_lt_of_lt_sub' h1, ?_, fun q hq hqj => ?_⟩
  · simpa using h2
  · have := h3 (q - i) (Nat.sub_lt_left_of_lt_add hq hqj)
    have e : i + (q - i) = q := Nat.add_sub_cancel' hq
    simpa [e] using this
theorem next_none {t : ReTarget} {x : List Nat} {i : Nat} {Q : Option Sre.M → Shared → Prop} (hc : t.code = CODE) (ht : t.text = x.toArray) (hg : t.groups = 1) (hl : t.lim = x.length) (hn : nextTw x i = none) (h : Q none s) :
    wpAny M A (reNextFound t i false) Q E s := by
  unfold reNextFound
  rw [hc, ht, hg, hl, forSearch_eq]
  split
  · obtain ⟨m1, e1, e2⟩ := run_failed ((m00 x i).say false) rfl rfl rfl
    exact toEnd_failed e1 e2 h
  · obtain ⟨s1, e⟩ := from_none hn
    rw [show ({ m00 x i with lastStart := x.length } : Sre.M) = mSt x i from rfl, e]
    obtain ⟨m1, e1, e2⟩ := run_failed (({ mSt x i with seen := s1 } : Sre.M).say false) rfl rfl rfl
    exact toEnd_failed e1 e2 h
structure Fnd (m : Sre.M) (j : Nat) : Prop where
  start : m.start = j
  handed : m.handed = j + 1
  marks : m.marks = #[some j, some (j + 1)]
  lastmark : m.lastmark = 1
  lastindex : m.lastindex = 1
theorem next_some {t : ReTarget} {x : List Nat} {i j : Nat} {Q : Option Sre.M → Shared → Prop} (hc : t.code = CODE) (ht : t.text = x.toArray) (hg : t.groups = 1) (hl : t.lim = x.length) (hn : nextTw x i = some j) (h : ∀ m, Fnd m j → Q (some m) s) :
    wpAny M A (reNextFound t i false) Q E s := by
  obtain ⟨hij, hj, htw, _⟩ := nextTw_some hn
  unfold reNextFound
  rw [hc, ht, hg, hl, forSearch_eq]
  rw [if_neg (by simp; omega)]
  obtain ⟨s1, e⟩ := from_some hn
  rw [show ({ m00 x i with lastStart := x.length } : Sre.M) = mSt x i from rfl, e]
  obtain ⟨m1, e1, e2, pc, pos, s', e3⟩ := run_found (ls := x.length) hj htw s1
  exact toEnd_matched e1 e2 e3 rfl (h _ ⟨rfl, rfl, rfl, rfl, rfl⟩)
end
end

section
open PySem PySem.W PyProof.Rows
open Sem (wp)
set_option linter.unusedVariables false
set_option linter.unusedSimpArgs false
set_option maxRecDepth 100000
open PySem.Builtin.Re
/-! the lambda's call -/
/-- a match of one sign at j -/
noncomputable abbrev matchO (xs : Value) (pat : Value) (a b c : Value) (T : Addr) : Obj := { cls := .type "re.Match", data := .fields #[xs, pat, a, b, c, .ref T] }
noncomputable abbrev spansO (j : Nat) : Obj := tupO #[rawInt j, rawInt (j + 1 : Nat), rawInt j, rawInt (j + 1 : Nat)]
theorem gnum (fs : Array Value) (a b c d : Int) (u : Tok) : reGroupNumber ⟨fs, #[a, b, c, d]⟩ (.int 1 u) = pure 1 := rfl
theorem gtext (x : List Nat) (t : Tok) (p1 p2 p3 p4 p5 : Value) (a b : Int) (j : Nat) : reGroupText ⟨#[.str ⟨x.toArray⟩ t, p1, p2, p3, p4, p5], #[a, b, (j : Nat), (j + 1 : Nat)]⟩ 1 .none = mkStr ⟨x.toArray.extract j (j + 1)⟩ := by
  show (if (decide (((j : Nat) : Int) < 0) || decide (((j + 1 : Nat) : Int) < 0)) = true then pure Value.none else _) = _
  rw [if_neg (by simp; omega)]
  rfl
section
variable {prog : Program} {w : World} {A : Around} {E : Value → Shared → Prop} {s : Shared}
theorem group_entry {F T : Addr} {x : List Nat} {j : Nat} {t u : Tok} {pat a b c : Value} {Q : Value → Shared → Prop} (hF : s.heap.get? F = some (matchO (.str ⟨x.toArray⟩ t) pat a b c T)) (hT : s.heap.get? T = some (spansO j)) (hj : j < x.length)
    (h : Q (.str ⟨#[x[j]]⟩ s.toks) { s with toks := s.toks + 1 }) :
    wpAny (model prog w) A (Builtin.«re.Match.group» ⟨[.ref F, .int 1 u], []⟩) (fun fin s' => ∃ v, fin = .done (.ret v) ∧ Q v s') E s := by
  unfold Builtin.«re.Match.group»
  refine wpAny_bind (wpAny_pure ?_)
  show wpAny _ _ (reFound (.ref F) >>= _) _ _ _
  refine wpAny_bind ?_
  unfold reFound
  refine wpAny_bind (wpAny_fieldsOf hF rfl ?_)
  refine wpAny_bind ?_
  show wpAny _ _ (reRawItems (.ref T)) _ _ _
  unfold reRawItems
  refine wpAny_bind (wpAny_seqItems hT rfl (wpAny_pure (wpAny_pure ?_)))
  have e : Array.map reRawOf ((some #[rawInt (j : Nat), rawInt (j + 1 : Nat), rawInt (j : Nat), rawInt (j + 1 : Nat)]).getD #[]) = #[((j : Nat) : Int), ((j + 1 : Nat) : Int), ((j : Nat) : Int), ((j + 1 : Nat) : Int)] := by
    simp [reRawOf, rawInt]
  rw [e]
  show wpAny _ _ (reGroupNumber ⟨#[.str ⟨x.toArray⟩ t, pat, a, b, c, .ref T], #[(j : Nat), (j + 1 : Nat), (j : Nat), (j + 1 : Nat)]⟩ (.int 1 u) >>= fun g => reGroupText ⟨#[.str ⟨x.toArray⟩ t, pat, a, b, c, .ref T], #[(j : Nat), (j + 1 : Nat), (j : Nat), (j + 1 : Nat)]⟩ g .none >>= fun v => ret v) _ _ _
  rw [gnum]
  refine wpAny_bind (wpAny_pure ?_)
  rw [gtext]
  refine wpAny_bind (wpAny_mkStr (wpAny_pure ⟨_, rfl, ?_⟩) ?_)
  · have : x.toArray.extract j (j + 1) = #[x[j]] := by
      apply Array.ext'
      rw [Array.toList_extract, List.extract_eq_take_drop]
      rw [List.drop_eq_getElem_cons hj]
      rw [Nat.add_sub_cancel_left]
      rfl
    rw [this]; exact h
  · simp [Str.length, sizeLine]; omega
/-- the body of the lambda -/
noncomputable abbrev lamBody (bs grp mN e : Str) (p1 p2 p3 p4 p5 p6 p7 p8 : Pos) (k1 k2 k3 : Nat) : Expr :=
  .BinOp (.Constant (.str bs) k1 p1) .Add (.BoolOp .Or [.Call (.Attribute (.Name mN p2) grp p3) [.Constant (.int 1) k2 p4] [] p5, .Constant (.str e) k3 p6] p7) p8
theorem lam_body {env : Env} {mN e : Str} {p1 p2 p3 p4 p5 p6 p7 p8 : Pos} {k1 k2 k3 : Nat} {F T : Addr} {x : List Nat} {j : Nat} {t : Tok} {pat a b c : Value} {m : Str → Option Value} {Q : Value → Shared → Prop}
    (hk : env.scope.kind = .function) (hm : env.kindOf mN = some .local) (hns : s.heap.Ns env.locals m) (hmv : m mN = some (.ref F)) (hd : (mN == ("__debug__" : Str)) = false) (hline : (p3.endLine == p5.line) = true)
    (hF : s.heap.get? F = some (matchO (.str ⟨x.toArray⟩ t) pat a b c T)) (hT : s.heap.get? T = some (spansO j)) (hj : j < x.length)
    (h : ∀ tk k, Q (.str ⟨#[92, x[j]]⟩ tk) { s with toks := k }) :
    wpAny (model prog w) A (eval (lamBody (Str.ofString "\\") (Str.ofString "group") mN e p1 p2 p3 p4 p5 p6 p7 p8 k1 k2 k3) env) Q E s := by
  rw [arm_eval_BinOp]
  refine wpAny_bind (Calls.Constant_str ?_)
  refine wpAny_bind (wpAny_holding ?_)
  rw [show eval (.BoolOp .Or [.Call (.Attribute (.Name mN p2) (Str.ofString "group") p3) [.Constant (.int 1) k2 p4] [] p5, .Constant (.str e) k3 p6] p7) env =
    (do
      let v ← eval (.Call (.Attribute (.Name mN p2) (Str.ofString "group") p3) [.Constant (.int 1) k2 p4] [] p5) env
      standAt p7
      let t ← holding [v] (truthy v)
      match BoolOp.Or, t with
      | .And, false | .Or, true => pure v
      | _, _ => boolOp p7 .Or (evalEach [.Constant (.str e) k3 p6] env)) from rfl]
  refine wpAny_bind ?_
  refine wpAny_Call_method rfl rfl hline pa_match slot_group type_group ?_
  refine wpAny_Name ?_ hd
  unfold loadName
  simp only [Env.blockKind, hk, hm, ScopeKind.isAnnotationScope, Bool.false_and, Bool.false_eq_true, if_false]
  refine wpAny_bind (wpAny_nsGet (s := { s with toks := s.toks + 1 }) hns ?_)
  rw [hmv]
  refine wpAny_pure ?_
  have hTy : ({ s with toks := s.toks + 1 } : Shared).TypeIs (.ref F) "re.Match" := ⟨_, hF, rfl⟩
  refine ⟨hTy, fun a e => by cases e; exact ⟨_, hF, rfl⟩, ?_⟩
  refine Calls.callWith_builtin rfl (Calls.evalArgs_plain (Calls.spliced_cons (wpAny_mkInt (Calls.spliced_nil ?_))))
  refine wpAny_call_entry slot_group ⟨_, hF, rfl⟩ entry_group ?_ (args_group _ _)
  refine group_entry (s := { s with toks := s.toks + 1 + 1 }) hF hT hj ?_
  refine wpAny_bind (wpAny_standAt (wpAny_bind (wpAny_holding (PySem.P.truthy_str (by simp [Str.length]) ?_))))
  refine wpAny_pure ?_
  refine wpAny_bind (wpAny_standAt (wpAny_operating ?_))
  refine PyProof.Rows.add_str (fun t' tk => ?_) (by
    rw [show (Str.ofString "\\").length = 1 from rfl]
    simp [Str.length, sizeLine])
  exact h t' tk
end
end

section
open PySem PySem.W PyProof.Rows
open Sem (wp)
set_option linter.unusedVariables false
set_option linter.unusedSimpArgs false
set_option maxRecDepth 100000
open PySem.Builtin.Re
section
variable {prog : Program} {w : World} {A : Around} {E : Value → Shared → Prop} {s : Shared}
/-- what is asked of the lambda's text -/
structure LamOk (params : Arguments) (scope : Scope) (mN : Str) : Prop where
  bind : ∀ (name qual : Str) (body : Expr) (pm cdv ct v : Value), bindArgs (kla_fn name qual params body scope [] pm cdv ct) ⟨[v], []⟩ = pure [(mN, v)]
  kind : scope.kind = .function
  co : scope.isCoroutine = false
  gen : scope.isGenerator = false
  cell : ∀ x ∈ scope.names, x.2 ≠ .cell
  loc : scope.names.lookup mN = some .local
  dbg : (mN == ("__debug__" : Str)) = false
/-- the function object that the lambda makes, as the machine has it -/
noncomputable def IsLam (h : Heap) (f : Addr) (params : Arguments) (scope : Scope) (body : Expr) : Prop :=
  ∃ name qual pm c ct, h.get? f = some (kla_obj name qual params body scope [] pm c ct) ∧ h.CodeRec (.ref c) qual
theorem lam_call {f F T : Addr} {params : Arguments} {scope : Scope} {mN e : Str} {p1 p2 p3 p4 p5 p6 p7 p8 : Pos} {k1 k2 k3 : Nat} {x : List Nat} {j : Nat} {t : Tok} {pat a b c : Value} {Q : Value → Shared → Prop}
    (L : LamOk params scope mN) (hf : IsLam s.heap f params scope (lamBody (Str.ofString "\\") (Str.ofString "group") mN e p1 p2 p3 p4 p5 p6 p7 p8 k1 k2 k3)) (hline : (p3.endLine == p5.line) = true)
    (hroom : A.depth < recursionLimit) (hno : s.heap.NoLimit)
    (hF : s.heap.get? F = some (matchO (.str ⟨x.toArray⟩ t) pat a b c T)) (hT : s.heap.get? T = some (spansO j)) (hj : j < x.length)
    (h : ∀ tk k h', (∀ b o, s.heap.get? b = some o → h'.get? b = some o) → Q (.str ⟨#[92, x[j]]⟩ tk) { s with heap := h', toks := k }) :
    wpAny (model prog w) A (call (.ref f) [.ref F]) Q (fun _ _ => False) s := by
  obtain ⟨name, qual, pm, c', ct, ho, hcd⟩ := hf
  refine wpAny_call (kla_callFunE hroom ho rfl L.co L.gen rfl hcd ?_)
  rw [L.bind]
  refine wpAny_pure (wpAny_newFunctionEnv L.cell (fun y hy => ?_) (fun h₁ hns hsb => ⟨hno.fresh _ hsb, ?_⟩) L.kind)
  · simp at hy; rw [hy]; exact L.loc
  have hk₁ : ∀ b o, s.heap.get? b = some o → h₁.get? b = some o := fun b o e => hsb.extBut b o (Nat.ne_of_lt (Heap.lt_size e)) (Heap.get?_push_of_some _ e)
  refine kla_codeExpr ?_
  generalize hen : newEnv (kla_fn name qual params (lamBody (Str.ofString "\\") (Str.ofString "group") mN e p1 p2 p3 p4 p5 p6 p7 p8 k1 k2 k3) scope [] pm (.ref c') ct).scope s.heap.objs.size _ _ _ _ _ _ _ = env
  have e1 : env.scope = scope := by rw [← hen]; rfl
  have e2 : env.locals = s.heap.objs.size := by rw [← hen]; rfl
  clear hen
  refine wpAny_mono (lam_body (E := fun _ _ => False) (m := fun y => List.lookup y [(mN, Value.ref F)].reverse) (F := F) (T := T) (Q := fun v s' => ∃ tk k h', v = .str ⟨#[92, x[j]]⟩ tk ∧ (∀ b o, s.heap.get? b = some o → h'.get? b = some o) ∧ s' = { s with heap := h', toks := k }) (by rw [e1]; exact L.kind) (by rw [Env.kindOf, e1]; exact L.loc) (by rw [e2]; exact hns) ?_ L.dbg hline (hk₁ _ _ hF) (hk₁ _ _ hT) hj ?_) (fun v s1 hv => ?_) fun _ _ e => False.elim e
  · simp [List.lookup_cons]
  · intro tk k
    exact ⟨tk, k, _, rfl, hk₁, rfl⟩
  · obtain ⟨tk, k, h', rfl, hb, rfl⟩ := hv
    exact h tk k h' hb
end
end

section
open PySem PySem.W PyProof.Rows
open Sem (wp)
set_option linter.unusedVariables false
set_option linter.unusedSimpArgs false
set_option maxRecDepth 100000
open PySem.Builtin.Re
noncomputable def twS (x : List Nat) : List Nat := x.flatMap fun c => if isTw c then [92, c] else [c]
theorem twS_app (x y : List Nat) : twS (x ++ y) = twS x ++ twS y := List.flatMap_append
theorem twS_free : ∀ {x : List Nat}, (∀ c ∈ x, isTw c = false) → twS x = x
  | [], _ => rfl
  | c :: x, h => by
      show (if isTw c = true then [92, c] else [c]) ++ twS x = _
      rw [h c (List.mem_cons_self ..), twS_free fun d hd => h d (List.mem_cons_of_mem _ hd)]
      rfl
theorem twS_len : ∀ (x : List Nat), (twS x).length ≤ 2 * x.length
  | [] => Nat.le_refl _
  | c :: x => by
      show ((if isTw c = true then [92, c] else [c]) ++ twS x).length ≤ _
      have := twS_len x
      rw [List.length_append, List.length_cons]
      split <;> simp <;> omega
theorem nextTw_none {x : List Nat} {i : Nat} (h : nextTw x i = none) : ∀ c ∈ x.drop i, isTw c = false := by
  unfold nextTw at h
  rw [Option.map_eq_none_iff, List.findIdx?_eq_none_iff] at h
  intro c hc; simpa using h c hc
theorem twS_step {x : List Nat} {i j : Nat} (h : nextTw x i = some j) (hj : j < x.length) : twS (x.take (j + 1)) = twS (x.take i) ++ (x.drop i).take (j - i) ++ [92, x[j]] := by
  obtain ⟨hij, hj', ht, hf⟩ := nextTw_some h
  have e1 : x.take (j + 1) = x.take i ++ ((x.drop i).take (j - i) ++ [x[j]]) := by
    rw [List.take_succ_eq_append_getElem hj]
    rw [← List.append_assoc]
    congr 1
    have : x.take j = x.take (i + (j - i)) := by rw [Nat.add_sub_cancel' hij]
    rw [this, List.take_add]
  have e2 : twS [x[j]] = [92, x[j]] := by
    show (if isTw x[j] = true then [92, x[j]] else [x[j]]) ++ [] = _
    rw [ht]; rfl
  rw [e1, twS_app, twS_app, e2, List.append_assoc]
  congr 2
  refine twS_free fun c hc => ?_
  obtain ⟨k, hk, rfl⟩ := List.mem_iff_getElem.mp hc
  simp only [List.length_take, List.length_drop] at hk
  simp only [List.getElem_take, List.getElem_drop]
  exact hf _ (Nat.le_add_right ..) (Nat.add_lt_of_lt_sub' (Nat.lt_of_lt_of_le hk (Nat.min_le_left ..)))
theorem twS_end {x : List Nat} {i : Nat} (h : nextTw x i = none) : twS x = twS (x.take i) ++ x.drop i := by
  conv => lhs; rw [← List.take_append_drop i x]
  rw [twS_app, twS_free (nextTw_none h)]
/-- the pattern object -/
inductive PatOk (h : Heap) (p : Addr) : Prop
  | mk (a : Str) (b : Tok) (c : Int) (d : Tok) (e : Tok) (f g : Value) (q : Addr) (ws : Array Value) (k : Tok) (h1 : h.get? p = some { cls := .type "re.Pattern", data := .fields #[.str a b, .int c d, .int 1 e, f, g, .ref q, .int 0 k] }) (h2 : h.get? q = some (tupO ws)) (h3 : (ws.map reRawOf).map (·.toNat) = CODE)
theorem PatOk.keeps {h h' : Heap} {p : Addr} (x : PatOk h p) (k : ∀ b o, h.get? b = some o → h'.get? b = some o) : PatOk h' p :=
  by obtain ⟨a, b, c, d, e, f, g, q, ws, kk, h1, h2, h3⟩ := x; exact ⟨a, b, c, d, e, f, g, q, ws, kk, k _ _ h1, k _ _ h2, h3⟩
section
variable {prog : Program} {w : World} {A : Around} {E : Value → Shared → Prop} {s : Shared}
theorem whole_target {p : Addr} {x : List Nat} {t : Tok} {Q : ReTarget → Shared → Prop} (hp : PatOk s.heap p)
    (h : Q { pattern := .ref p, string := .str ⟨x.toArray⟩ t, code := CODE, text := x.toArray, kind := 0, groups := 1, pos := 0, lim := x.length } s) :
    wpAny (model prog w) A (reWholeTarget (.ref p) (.str ⟨x.toArray⟩ t)) Q E s := by
  obtain ⟨a, b, c, d, e, f, g, q, ws, k, h1, h2, h3⟩ := hp
  unfold reWholeTarget
  refine wpAny_bind (wpAny_fieldsOf h1 rfl ?_)
  have e1 : reTextOf (.str ⟨x.toArray⟩ t) = pure (x.toArray, 0) := rfl
  rw [e1]
  refine wpAny_bind (wpAny_pure ?_)
  refine wpAny_bind (m := reNoCollectionInside _ _) (wpAny_of_eq (a := ()) rfl ?_)
  refine wpAny_bind ?_
  show wpAny _ _ (reRawItems (.ref q)) _ _ _
  unfold reRawItems
  refine wpAny_bind (wpAny_seqItems h2 rfl (wpAny_pure (wpAny_pure ?_)))
  have e2 : ((some ws).getD #[] |>.map reRawOf).map (·.toNat) = CODE := h3
  show Q _ s
  rw [e2]
  have e3 : x.toArray.size = x.length := by simp
  rw [e3]
  exact h
theorem new_match {p : Value} {str : Value} {j n : Nat} {m : Sre.M} {Q : Value → Shared → Prop} (hm : Fnd m j)
    (h : ∀ a b c, Q (.ref (s.heap.objs.size + 1)) { s with heap := (s.heap.push (spansO j)).push (matchO str p a b c s.heap.objs.size) }) :
    wpAny (model prog w) A (reNewMatch p str 1 0 n m) Q E s := by
  unfold reNewMatch
  simp only [hm.lastmark, hm.marks, hm.start, hm.handed]
  rw [if_neg (by
    show ¬ ((decide (((2 * 0 + 1 : Nat) : Int) ≤ 1) && decide (j + 1 < j)) || false) = true
    simp)]
  show wpAny _ _ (newTuple [rawInt j, rawInt (j + 1 : Nat), rawInt j, rawInt (j + 1 : Nat)] >>= _) _ _ _
  refine wpAny_bind (wpAny_newTuple ?_ ?_)
  rotate_left
  · show 4 ≤ sizeLine
    simp [sizeLine]
  unfold newFields
  refine wpAny_newObj_type ?_ (by size_fits)
  have := h (rawInt 0) (rawInt n) (rawInt m.lastindex)
  have e3 : ({ s with heap := s.heap.push (spansO j) } : Shared).heap.objs.size = s.heap.objs.size + 1 := Heap.size_push ..
  rw [← e3] at this
  exact this
end
end

section
open PySem PySem.W PyProof.Rows
open Sem (wp)
set_option linter.unusedVariables false
set_option linter.unusedSimpArgs false
set_option maxRecDepth 100000
open PySem.Builtin.Re
/-- values that are these texts -/
noncomputable def StrsL : List (List Nat) → List Value → Prop
  | [], vs => vs = []
  | p :: ps, vs => ∃ t r, vs = .str ⟨p.toArray⟩ t :: r ∧ StrsL ps r
theorem StrsL.app : ∀ {ps qs : List (List Nat)} {vs ws : List Value}, StrsL ps vs → StrsL qs ws → StrsL (ps ++ qs) (vs ++ ws)
  | [], _, _, _, e, f => by simp only [StrsL] at e; subst e; exact f
  | _ :: _, _, _, _, ⟨t, r, rfl, h⟩, f => ⟨t, _, rfl, StrsL.app h f⟩
theorem StrsL.one (p : List Nat) (t : Tok) : StrsL [p] [.str ⟨p.toArray⟩ t] := ⟨t, [], rfl, rfl⟩
theorem StrsL.len : ∀ {ps : List (List Nat)} {vs : List Value}, StrsL ps vs → vs.length = ps.length
  | [], _, e => by simp only [StrsL] at e; subst e; rfl
  | _ :: _, _, ⟨_, _, rfl, h⟩ => by simp [h.len]
theorem StrsL.rep (h : Heap) : ∀ {ps : List (List Nat)} {vs : List Value}, StrsL ps vs → RepL [] h (ps.map .str) vs
  | [], _, e => by simp only [StrsL] at e; subst e; rfl
  | p :: _, _, ⟨t, r, rfl, k⟩ => ⟨_, r, rfl, ⟨t, rfl⟩, k.rep h⟩
section
variable {prog : Program} {w : World} {A : Around} {E : Value → Shared → Prop} {s : Shared}
theorem str_join {sep : List Nat} {ts : List (List Nat)} {a : Addr} {ws : Array Value} {m : Nat} {t : Tok} {h0 : Heap} {Q : Value → Shared → Prop} (ho : s.heap.get? a = some (lstO ws m)) (rs : RepL [] h0 (ts.map .str) ws.toList)
    (h1 : (joinL sep ts).length ≤ big) (h2 : sep.length ≤ big) (h : ∀ t' k, Q (.str ⟨(joinL sep ts).toArray⟩ t') { s with toks := k }) : wpAny (model prog w) A (call (.builtin "str.join") [.str ⟨sep.toArray⟩ t, .ref a]) Q E s := by
  obtain ⟨l, h3, h4⟩ := strs_rep rs (strsOf_map ts)
  refine SC.join (l := l) ⟨_, ho, rfl, m, ?_⟩ h4 (join_ok h1 h2) fun t' k => ?_
  · show Data.seq ws m = _
    rw [← h3]
  · have : Txt.join ⟨sep.toArray⟩ (ts.map fun t => (⟨t.toArray⟩ : Str)) = ⟨(joinL sep ts).toArray⟩ := by
      unfold Txt.join; rw [StrLaws.glued_eq_join, join_eq]
    rw [this]; exact h t' k
structure SubSt (s0 : Shared) (D : Addr) (ps : List (List Nat)) (s : Shared) : Prop where
  keep : ∀ b o, s0.heap.get? b = some o → s.heap.get? b = some o
  list : ∃ ws n, s.heap.get? D = some (lstO ws n) ∧ StrsL ps ws.toList
  os : s.os = s0.os
  gens : s.gens = s0.gens
theorem SubSt.push {s0 : Shared} {D : Addr} {ps : List (List Nat)} {p : List Nat} {t : Tok} {Q : Unit → Shared → Prop} (S : SubSt s0 D ps s) (hD : s0.heap.get? D = none) (hn : ps.length ≤ 4000000)
    (h : ∀ s', SubSt s0 D (ps ++ [p]) s' → (∀ b o, b ≠ D → s.heap.get? b = some o → s'.heap.get? b = some o) → Q () s') : wpAny (model prog w) A (updateSeq D (·.push (.str ⟨p.toArray⟩ t))) Q E s := by
  obtain ⟨ws, n, e, r⟩ := S.list
  have hl : ws.size = ps.length := by simpa using r.len
  refine wpAny_updateSeq e rfl (h _ ?_ ?_) ?_ ?_
  · refine ⟨fun b o eb => ?_, ⟨ws.push (.str ⟨p.toArray⟩ t), _, IsL.update (n := n) e _, ?_⟩, S.os, S.gens⟩
    · have : D ≠ b := by rintro rfl; rw [hD] at eb; cases eb
      show (s.heap.update D _).get? b = _
      rw [Heap.get?_update_other _ _ this]; exact S.keep b o eb
    · simpa using r.app (StrsL.one p t)
  · intro b o hb eb
    show (s.heap.update D _).get? b = _
    rw [Heap.get?_update_other _ _ (Ne.symm hb)]; exact eb
  · simp [sizeLine]; omega
  · simp [sizeLine]; omega
theorem SubSt.ext {s0 s' : Shared} {D : Addr} {ps : List (List Nat)} (S : SubSt s0 D ps s) (k : ∀ b o, s.heap.get? b = some o → s'.heap.get? b = some o) (h1 : s'.os = s.os) (h2 : s'.gens = s.gens) : SubSt s0 D ps s' := by
  obtain ⟨ws, n, e, r⟩ := S.list
  exact ⟨fun b o eb => k _ _ (S.keep b o eb), ⟨ws, n, k _ _ e, r⟩, h1.trans S.os, h2.trans S.gens⟩
theorem slice_wp {x : List Nat} {i j : Nat} {Q : Value → Shared → Prop} (hx : x.length ≤ 100000) (h : ∀ t k, Q (.str ⟨((x.drop i).take (j - i)).toArray⟩ t) { s with toks := k }) : wpAny (model prog w) A (reSlice x.toArray 0 i j) Q E s := by
  unfold reSlice
  rw [if_pos (by rfl)]
  have : x.toArray.extract i j = ((x.drop i).take (j - i)).toArray := by
    apply Array.ext'
    rw [Array.toList_extract, List.extract_eq_take_drop]
  rw [this]
  refine wpAny_mkStr (h _ _) ?_
  simp [Str.length, sizeLine]
  exact Nat.le_trans (Nat.min_le_right _ _) (Nat.le_trans (Nat.sub_le _ _) (Nat.le_trans hx (by decide)))
noncomputable def subRest (p D f : Addr) (x : List Nat) (t : Tok) (n : Int) (m : Sre.M) : Sem Fin := do
  let found ← reNewMatch (.ref p) (.str ⟨x.toArray⟩ t) 1 0 x.length m
  let item ← holding [found] (if ((1 : Int) == 1) = true then call (.ref f) [found] else do reExpand (.ref f) (← reFound found))
  if (item != Value.none) = true then do
    updateSeq D fun y => y.push item
    again (.builtin "re.Pattern.sub.loop" ⟨[.ref p, .str ⟨x.toArray⟩ t, .ref f, rawInt 1, rawInt 0, rawInt (n + 1), rawInt m.handed, rawInt m.handed, .bool (m.handed == m.start), .ref D, .bool false], []⟩)
  else again (.builtin "re.Pattern.sub.loop" ⟨[.ref p, .str ⟨x.toArray⟩ t, .ref f, rawInt 1, rawInt 0, rawInt (n + 1), rawInt m.handed, rawInt m.handed, .bool (m.handed == m.start), .ref D, .bool false], []⟩)
noncomputable def subEnd (D : Addr) (x : List Nat) (n : Int) : Sem Fin := do
  let joiner ← reSlice x.toArray 0 0 0
  let xs ← seqItems? (.ref D)
  let text ← if (xs.getD #[]).isEmpty = true then pure joiner else call (.builtin (if ((0 : Nat) == 0) = true then "str.join" else "bytes.join")) [joiner, .ref D]
  if false = true then do let r ← holding [text] (do newTuple [text, ← mkInt n]); ret r
  else ret text
theorem sub_end {s0 : Shared} {D : Addr} {x : List Nat} {n : Int} {ps : List (List Nat)} {R : Fin → Shared → Prop} (hx : x.length ≤ 100000) (S : SubSt s0 D ps s) (hps : ps.flatten = twS x)
    (hR : ∀ s' tk, (∀ b o, s0.heap.get? b = some o → s'.heap.get? b = some o) → s'.os = s0.os → s'.gens = s0.gens → R (.done (.ret (.str ⟨(twS x).toArray⟩ tk))) s') :
    wpAny (model prog w) A (subEnd D x n) R E s := by
  unfold subEnd
  refine wpAny_bind (slice_wp (i := 0) (j := 0) hx fun tj kj => ?_)
  have S1 : SubSt s0 D ps { s with toks := kj } := S.ext (fun _ _ e => e) rfl rfl
  obtain ⟨ws, k, e, r⟩ := S1.list
  refine wpAny_bind (wpAny_seqItems e rfl ?_)
  show wpAny _ _ (if ws.isEmpty = true then (do let text ← pure (Value.str ⟨((x.drop 0).take (0 - 0)).toArray⟩ tj); ret text) else (do let text ← call (.builtin "str.join") [.str ⟨((x.drop 0).take (0 - 0)).toArray⟩ tj, .ref D]; ret text)) _ _ _
  split
  · rename_i hem
    have hws : ws.toList = [] := by simpa using hem
    rw [hws] at r
    have hps0 : ps = [] := List.length_eq_zero_iff.mp (by rw [← r.len]; rfl)
    refine wpAny_bind (wpAny_pure (wpAny_pure ?_))
    have hz : twS x = [] := by rw [← hps, hps0]; rfl
    have := hR { s with toks := kj } tj S1.keep S1.os S1.gens
    rw [hz] at this
    simpa using this
  · have hj : joinL [] ps = twS x := by rw [joinL_nil, hps]
    refine wpAny_bind (str_join (sep := []) (ts := ps) e (r.rep s.heap) ?_ (Nat.zero_le _) fun t' k' => ?_)
    · rw [hj]
      have := twS_len x
      unfold big; omega
    · refine wpAny_pure ?_
      have S2 : SubSt s0 D ps { s with toks := k' } := S.ext (fun _ _ e => e) rfl rfl
      have := hR { s with toks := k' } t' S2.keep S2.os S2.gens
      rw [hj]; exact this
theorem sub_loop {s0 : Shared} {D p f : Addr} {x : List Nat} {t : Tok} {params : Arguments} {scope : Scope} {mN e : Str} {p1 p2 p3 p4 p5 p6 p7 p8 : Pos} {k1' k2 k3 : Nat} {R : Result → Shared → Prop}
    (hroom : A.in1.depth < recursionLimit) (hx : x.length ≤ 100000) (hno : s0.heap.NoLimit) (hp : PatOk s0.heap p) (hD : s0.heap.get? D = none) (L : LamOk params scope mN)
    (hf : IsLam s0.heap f params scope (lamBody (Str.ofString "\\") (Str.ofString "group") mN e p1 p2 p3 p4 p5 p6 p7 p8 k1' k2 k3)) (hline : (p3.endLine == p5.line) = true)
    (hR : ∀ s' tk, (∀ b o, s0.heap.get? b = some o → s'.heap.get? b = some o) → s'.os = s0.os → s'.gens = s0.gens → R (.ok (.ret (.str ⟨(twS x).toArray⟩ tk))) s') :
    ∀ (k i : Nat) (n : Int) (ps : List (List Nat)) (s : Shared), x.length - i = k → i ≤ x.length → SubSt s0 D ps s → ps.flatten = twS (x.take i) → ps.length ≤ 2 * i →
      codeAny (model prog w) A (.builtin "re.Pattern.sub.loop" ⟨[.ref p, .str ⟨x.toArray⟩ t, .ref f, rawInt 1, rawInt 0, rawInt n, rawInt i, rawInt i, .bool false, .ref D, .bool false], []⟩) R s := by
  intro k
  induction k using Nat.strongRecOn with
  | ind k ih =>
  intro i n ps s hk hi S hps hlen
  refine codeAny_builtin entry_loop ?_
  have hA : A.under (.builtin "re.Pattern.sub.loop" ⟨[.ref p, .str ⟨x.toArray⟩ t, .ref f, rawInt 1, rawInt 0, rawInt n, rawInt i, rawInt i, .bool false, .ref D, .bool false], []⟩) = A.in1 := Around.under_plainId (by decide +kernel) _
  rw [hA]
  show wpAny (model prog w) A.in1 (reWholeTarget (.ref p) (.str ⟨x.toArray⟩ t) >>= _) _ _ s
  refine wpAny_bind (whole_target (hp.keeps S.keep) ?_)
  show wpAny (model prog w) A.in1 (if ((1 : Int) == 0) = true then _ else _) _ _ s
  rw [if_neg (by decide)]
  show wpAny (model prog w) A.in1 ((if ((0 : Int) != 0 && decide (n ≥ 0)) = true then pure none else reNextFound _ i false) >>= _) _ _ s
  rw [if_neg (by simp)]
  refine wpAny_bind ?_
  cases hn : nextTw x i with
  | none =>
    refine next_none rfl rfl rfl rfl hn ?_
    have fin : ∀ (ps1 : List (List Nat)) (s1 : Shared), SubSt s0 D ps1 s1 → ps1.flatten = twS x → wpAny (model prog w) A.in1 (subEnd D x n) (fun fin s' => match fin with | .done f => R (.ok f) s' | .again c' => c'.quiet = true ∧ codeAny (model prog w) A c' R s') (fun e s' => R (.error e) s') s1 := fun ps1 s1 S1 h1 =>
      sub_end hx S1 h1 fun s' tk a b c => hR s' tk a b c
    show wpAny _ _ (if (i : Int).toNat < x.length then (do let v ← reSlice x.toArray 0 (i : Int).toNat x.length; updateSeq D fun y => y.push v; subEnd D x n) else subEnd D x n) _ _ _
    by_cases hlt : i < x.length
    · rw [if_pos (by simpa using hlt)]
      refine wpAny_bind (slice_wp hx fun tv kv => ?_)
      have S1 : SubSt s0 D ps { s with toks := kv } := S.ext (fun _ _ e => e) rfl rfl
      refine wpAny_bind (S1.push hD (by omega) fun s2 S2 _ => fin _ s2 S2 ?_)
      rw [List.flatten_append, hps, twS_end hn]
      simp only [Int.toNat_natCast, List.flatten_cons, List.flatten_nil, List.append_nil]
      congr 1
      exact List.take_of_length_le (by simp)
    · rw [if_neg (by simpa using hlt)]
      refine fin ps s S ?_
      rw [hps, twS_end hn, List.drop_eq_nil_of_le (by omega), List.append_nil]
  | some j =>
    refine next_some rfl rfl rfl rfl hn fun m hm => ?_
    obtain ⟨hij, hj, htw, _⟩ := nextTw_some hn
    have step : ∀ (ps1 : List (List Nat)) (s1 : Shared), SubSt s0 D ps1 s1 → ps1.flatten = twS (x.take i) ++ (x.drop i).take (j - i) → ps1.length ≤ 2 * i + 1 →
        wpAny (model prog w) A.in1 (subRest p D f x t n m) (fun fin s' => match fin with | .done f => R (.ok f) s' | .again c' => c'.quiet = true ∧ codeAny (model prog w) A c' R s') (fun e s' => R (.error e) s') s1 := by
      intro ps1 s1 S1 h1 h2
      unfold subRest
      refine wpAny_bind (new_match hm fun a b c => ?_)
      have eF : ((s1.heap.push (spansO j)).push (matchO (.str ⟨x.toArray⟩ t) (.ref p) a b c s1.heap.objs.size)).get? (s1.heap.objs.size + 1) = some (matchO (.str ⟨x.toArray⟩ t) (.ref p) a b c s1.heap.objs.size) := by
        have := Heap.get?_push_size (s1.heap.push (spansO j)) (o := matchO (.str ⟨x.toArray⟩ t) (.ref p) a b c s1.heap.objs.size) rfl
        rw [Heap.size_push] at this; exact this
      have eT : ((s1.heap.push (spansO j)).push (matchO (.str ⟨x.toArray⟩ t) (.ref p) a b c s1.heap.objs.size)).get? s1.heap.objs.size = some (spansO j) := Heap.get?_push_of_some _ (Heap.get?_push_size _ rfl)
      have k1 : ∀ b' o, s1.heap.get? b' = some o → ((s1.heap.push (spansO j)).push (matchO (.str ⟨x.toArray⟩ t) (.ref p) a b c s1.heap.objs.size)).get? b' = some o := fun _ _ e => Heap.get?_push_of_some _ (Heap.get?_push_of_some _ e)
      have S2 : SubSt s0 D ps1 { s1 with heap := (s1.heap.push (spansO j)).push (matchO (.str ⟨x.toArray⟩ t) (.ref p) a b c s1.heap.objs.size) } := S1.ext k1 rfl rfl
      refine wpAny_bind (wpAny_holding ?_)
      rw [if_pos (by decide)]
      have hf2 : IsLam ((s1.heap.push (spansO j)).push (matchO (.str ⟨x.toArray⟩ t) (.ref p) a b c s1.heap.objs.size)) f params scope (lamBody (Str.ofString "\\") (Str.ofString "group") mN e p1 p2 p3 p4 p5 p6 p7 p8 k1' k2 k3) := by
        obtain ⟨nm, q, pm, cc, ct, h1, h2⟩ := hf
        exact ⟨nm, q, pm, cc, ct, S2.keep _ _ h1, h2.keeps S2.keep⟩
      refine wpAny_mono (lam_call (Q := fun v s' => ∃ tk k h', v = .str ⟨#[92, x[j]]⟩ tk ∧ (∀ b' o, ((s1.heap.push (spansO j)).push (matchO (.str ⟨x.toArray⟩ t) (.ref p) a b c s1.heap.objs.size)).get? b' = some o → h'.get? b' = some o) ∧ s' = { s1 with heap := h', toks := k })
        (A := A.in1) L hf2 hline hroom (hno.keeps S2.keep) eF eT hj (fun tk k h' hk => ⟨tk, k, h', rfl, hk, rfl⟩)) (fun v s3 hv => ?_) fun _ _ q => q.elim
      obtain ⟨tk, k3', h', rfl, hk3, rfl⟩ := hv
      have S3 : SubSt s0 D ps1 { s1 with heap := h', toks := k3' } := S2.ext hk3 rfl rfl
      rw [if_pos (by rfl)]
      refine wpAny_bind (S3.push (p := [92, x[j]]) hD (by omega) fun s4 S4 _ => ?_)
      refine wpAny_pure ⟨Code.quiet_builtin _ (by decide +kernel), ?_⟩
      rw [hm.handed, hm.start]
      have hb : (j + 1 == j) = false := by simp
      rw [hb]
      refine ih (x.length - (j + 1)) (by omega) (j + 1) (n + 1) _ s4 rfl (by omega) S4 ?_ ?_
      · rw [List.flatten_append, h1, twS_step hn hj]; simp
      · simp; omega
    show wpAny _ _ (if (i : Int).toNat < m.start then (do let v ← reSlice x.toArray 0 (i : Int).toNat m.start; updateSeq D fun y => y.push v; subRest p D f x t n m) else subRest p D f x t n m) _ _ _
    rw [hm.start]
    by_cases hlt : i < j
    · rw [if_pos (by simpa using hlt)]
      refine wpAny_bind (slice_wp hx fun tv kv => ?_)
      have S1 : SubSt s0 D ps { s with toks := kv } := S.ext (fun _ _ e => e) rfl rfl
      refine wpAny_bind (S1.push hD (by omega) fun s2 S2 _ => step _ s2 S2 ?_ ?_)
      · rw [List.flatten_append, hps]; simp
      · simp; omega
    · rw [if_neg (by simpa using hlt)]
      refine step ps s S ?_ (by omega)
      have : j - i = 0 := by omega
      rw [hps, this]; simp
end
end

section
open PySem PySem.W PyProof.Rows
open Sem (wp)
set_option linter.unusedVariables false
set_option linter.unusedSimpArgs false
set_option maxRecDepth 100000
open PySem.Builtin.Re
theorem named_sub (a b : Value) : reNamed "re.Pattern.sub" "sub" ["repl", "string", "count"] 2 [a, b] [] = pure [some a, some b, none] := by rfl
theorem lk_call : typeLookup (.type "function") "__call__" = pure (some (.builtin "function.__call__")) := by rw [typeLookup_type, builtinLookup_eq_fast]; kernel_rfl
theorem inst_str : isSubtype (.type "str") (.type "bytearray") = pure false := by rw [isSubtype_type]; kernel_rfl
variable {G : GI} {n : Nat} {A : Around} {μ μ' : List Addr} {hp hp' : Hp} {s s' : Shared} {Q : PV → Hp → Prop} {env : Env} {l : Loc} {K : Cfg}
/-- what is asked of the program's first part -/
structure ProgOk (G : GI) : Prop where
  hd : CodeHd G.h0 G.C G.P
  nl : G.h0.NoLimit
  gP : mainGlobals ≠ G.P
  gone : G.h0.get? G.P = none
  bat : G.h0.BuiltinsAt G.mg G.P
  twin : ∃ p, G.mg (Str.ofString "_twin_re_1") = some (.ref p) ∧ PatOk G.h0 p
  map : MapTab G
theorem HR.newCode {h' : Heap} {ps : Array Value} {c' : Addr} {tk : Nat} {line col : Nat} (H : HR G μ hp s) (po : ProgOk G) (base : G.h0.objs.size ≤ s.heap.objs.size) (hP : s.heap.get? G.P = some (tabObj ps)) (ht : TriplesOk ps.toList)
    (hc : ∀ pos c, codeAmong pos ps.toList = some c → ∃ a o, c = .ref a ∧ s.heap.get? a = some o ∧ G.h0.objs.size ≤ a ∧ ∃ vs q t, o.data = .fields vs ∧ (vs[1]? = some (.str q t) ∧ q = G.qn pos.line pos.col) ∧ o.cls = .type "code")
    (hx : Heap.ExtBut G.P s.heap h') (hge : s.heap.objs.size ≤ c') (hrec : h'.CodeRec (.ref c') (G.qn line col)) (htb : h'.get? G.P = some (tabObj (ps ++ #[rawInt line, rawInt col, .ref c'])))
    (hcls : ∃ o, h'.get? c' = some o ∧ o.cls = .type "code") (hk : 1 ≤ tk) :
    HR G μ hp { s with heap := h', toks := tk } ∧ Stp G noOwn μ s μ { s with heap := h', toks := tk } := by
  have nP : ∀ b o, s.heap.get? b = some o → o.cls ≠ .none → b ≠ G.P := by
    rintro b o e hc rfl
    rw [hP] at e; cases e; exact hc rfl
  have vk : VKeep μ s.heap h' := fun b o e hv _ => hx b o (by
    rintro rfl
    rw [hP] at e; cases e
    rcases hv with q | q <;> simp [tabObj] at q) e
  refine ⟨⟨fun b o e => hx b o (by rintro rfl; rw [po.gone] at e; cases e) (H.base b o e), ?_, H.os, H.gens, hk, H.nodup, H.len, H.low, fun i a m h1 h2 => ?_⟩, Stp.of (fun b o e _ hne _ => hx b o hne e) (Grow.refl _ _) fun b o e => ?_⟩
  · refine ⟨_, htb, ?_, fun pos c hq => ?_⟩
    · rw [show (ps ++ #[rawInt line, rawInt col, Value.ref c']).toList = ps.toList ++ [rawInt line, rawInt col, .ref c'] by simp]
      exact TriplesOk_snoc _ _ _ _ ht
    · rw [show (ps ++ #[rawInt line, rawInt col, Value.ref c']).toList = ps.toList ++ [rawInt line, rawInt col, .ref c'] by simp] at hq
      have key : ∀ (L : List Value), TriplesOk L → codeAmong pos (L ++ [rawInt line, rawInt col, .ref c']) = some c → codeAmong pos L = some c ∨ ((line : Int) = pos.line ∧ (col : Int) = pos.col ∧ c = .ref c') := by
        intro L
        fun_induction TriplesOk L with
        | case1 =>
          intro _ h
          simp only [List.nil_append, codeAmong, rawInt] at h
          split at h
          · rename_i hh
            cases h
            simp at hh
            exact .inr ⟨by omega, by omega, rfl⟩
          · cases h
        | case2 a t b u x rest ih =>
          intro h1 h
          simp only [List.cons_append, codeAmong] at h ⊢
          split at h
          · cases h; rename_i hh; rw [if_pos hh]; exact .inl rfl
          · rename_i hh; rw [if_neg hh]; exact ih h1 h
        | case3 L h1 h2 => intro h; exact h.elim
      rcases key _ ht hq with h | ⟨h1, h2, rfl⟩
      · obtain ⟨a, o, q1, q2, q3, vs, q, t, q4, q5, q6⟩ := hc pos c h
        exact ⟨a, o, q1, hx _ _ (nP _ _ q2 (by rw [q6]; simp)) q2, q3, vs, q, t, q4, q5, q6⟩
      · obtain ⟨c2, o, vs, t, e1, e2, e3, e4⟩ := hrec
        cases e1
        obtain ⟨o2, e5, e6⟩ := hcls
        rw [e2] at e5; cases e5
        have hl : line = pos.line := by omega
        have hcl : col = pos.col := by omega
        exact ⟨c', o, rfl, e2, Nat.le_trans base hge, vs, _, t, e3, ⟨e4, by rw [hl, hcl]⟩, e6⟩
  · have := H.obj i a m h1 h2
    cases m with
    | list vs => obtain ⟨ws, k, e, r⟩ := this; exact ⟨ws, k, hx _ _ (nP _ _ e (by simp)) e, r.mono vk (Grow.refl _ _)⟩
    | obj => exact hx _ _ (nP _ _ this (by simp)) this
    | hid => obtain ⟨ws, e⟩ := this; exact ⟨ws, hx _ _ (nP _ _ e (by simp)) e⟩
  · by_cases q : b = G.P
    · subst q; exact ⟨_, htb⟩
    · exact ⟨o, hx b o q e⟩
end

section
open PySem PySem.W PyProof.Rows
open Sem (wp)
set_option linter.unusedVariables false
set_option linter.unusedSimpArgs false
set_option maxRecDepth 100000
variable {G : GI} {n : Nat} {A : Around} {μ μ' : List Addr} {hp hp' : Hp} {s s' : Shared} {Q : PV → Hp → Prop} {env : Env} {l : Loc} {K : Cfg}
theorem lam_make {params : Arguments} {scope : Scope} {body : Expr} {lp : Pos} {P : Value → Shared → Prop} (po : ProgOk G) (g : GOk G) (hcl : closureFor scope env = pure []) (hdef : defaultsOf params env = ([], []))
    (hqm : env.kindOf QM ≠ none) (hqn : G.qn lp.line lp.col = G.tq ++ Str.ofString "<lambda>") (H : HR G μ hp s) (X : EnvR G A env l μ s.heap)
    (h : ∀ f s', HR G μ hp s' → Stp G noOwn μ s μ s' → IsLam s'.heap f params scope body → P (.ref f) s') :
    wpAny G.M A (eval (.Lambda params body scope lp) env) P noE s := by
  obtain ⟨hcode, hqual⟩ := X.code hqm
  have base := X.base
  obtain ⟨ps, hP, ht, hc⟩ := H.tab
  have hg : s.heap.Ns mainGlobals G.mg := H.ns g.gns
  have C : CodeHd s.heap G.C G.P := po.hd.keeps fun b o e => H.base b o e
  have hb : s.heap.BuiltinsAt G.mg G.P := by
    obtain ⟨bm, o, b1, b2, b3, b4, b5, b6⟩ := po.bat
    exact ⟨bm, o, b1, b2, b3, b4, H.base _ _ b5, b6⟩
  refine kla_eval hdef (wtk H.toks ?_)
  rw [hqual, show G.tq ++ "<lambda>" = G.qn lp.line lp.col from hqn.symm]
  cases hf : codeAmong lp ps.toList with
  | some cv =>
    obtain ⟨a, o, rfl, q2, q3, vs, q, t, q4, ⟨q5, rfl⟩, q6⟩ := hc lp cv hf
    refine kla_makeFunctionHit hcl X.glob hg hcode C hP ht hf hb fun ctv h' tk hk hsz => ?_
    intro htk
    refine h _ _ (H.ext (fun b o e => Heap.get?_push_of_some _ (hk b o e)) rfl rfl htk) (Stp.ext fun b o e => Heap.get?_push_of_some _ (hk b o e)) ?_
    exact ⟨_, _, _, _, _, Heap.get?_push_size _ rfl, ⟨a, o, vs, t, rfl, Heap.get?_push_of_some _ (hk _ _ q2), q4, q5⟩⟩
  | none =>
    rw [makeFunction_eq]
    simp only [List.zip_nil_right, List.filterMap_nil, List.isEmpty_nil, if_true, pure_bind]
    obtain ⟨bm, ob, hbm, hne0, _, hneP, hbo, hclsb, hdict, hdata⟩ := hb
    unfold makeTail
    rw [hcl, X.glob]
    refine wpAny_bind (wpAny_pure ?_)
    simp only [List.isEmpty_nil, if_true]
    refine wpAny_bind (wpAny_pure ?_)
    refine wpAny_bind (wpAny_functionCodeX hcode (C.code hP ht) (C.tab hP) hf fun c' h' tk hx hge hlt _ hrec htb hnew => ?_)
    have hg' := hg.extBut hx po.gP
    refine wpAny_bind (wpAny_builtinsFor hg' hbm hne0 (hx _ _ hneP hbo) hclsb hdict hdata ?_)
    refine wpAny_bind (wpAny_nsGet hg' ?_)
    refine wpAny_bind (wpAny_pure (wpAny_newObj_type ?_ (by size_fits)))
    intro htk
    obtain ⟨H1, st1⟩ := H.newCode po base hP ht hc hx hge hrec htb.2 (by
      obtain ⟨P', _, _, ⟨⟨o, vs, e1, e2, _⟩, _⟩⟩ := hnew
      exact ⟨o, e1, e2⟩) htk
    refine h _ _ (H1.push _) (st1.trans (Stp.push μ _ _)) ?_
    exact ⟨_, _, _, _, _, Heap.get?_push_size _ rfl, hrec.keeps fun b o e => Heap.get?_push_of_some _ e⟩
open PySem.Builtin.Re in
theorem op_sub {p f : Addr} {x : List Nat} {t : Tok} {params : Arguments} {scope : Scope} {mN e : Str} {p1 p2 p3 p4 p5 p6 p7 p8 : Pos} {k1' k2 k3 : Nat} (po : ProgOk G) (R : Room n A) (base : G.h0.objs.size ≤ s.heap.objs.size)
    (hx : x.length ≤ 100000) (hp : PatOk G.h0 p) (L : LamOk params scope mN)
    (hf : IsLam s.heap f params scope (lamBody (Str.ofString "\\") (Str.ofString "group") mN e p1 p2 p3 p4 p5 p6 p7 p8 k1' k2 k3)) (hline : (p3.endLine == p5.line) = true)
    (H : HR G μ hp' s) (q : Q (.str (twS x)) hp') :
    wpAny G.M A (call (.builtin "re.Pattern.sub") [.ref p, .ref f, .str ⟨x.toArray⟩ t]) (PE G μ s Q) noE s := by
  have hps : PatOk s.heap p := hp.keeps fun b o e => H.base b o e
  obtain ⟨pa, pb, pc, pd, pe, pf, pg, pq, pws, pk, hpo, _⟩ := id hps
  have hd := R.depth
  refine wtk H.toks (wpAny_call (codeAny_call_builtin (by decide +kernel) entry_sub (slot_sub.check _ _ _ _ _ _ _ _ ⟨_, hpo, rfl⟩ (args_sub _ _ _) ?_)))
  show wpAny G.M A.in1 (reNamed "re.Pattern.sub" "sub" ["repl", "string", "count"] 2 [.ref f, .str ⟨x.toArray⟩ t] [] >>= _) _ _ s
  rw [named_sub]
  refine wpAny_bind (wpAny_pure ?_)
  refine wpAny_bind (m := (pure 0 : Sem Int)) (wpAny_pure ?_)
  obtain ⟨nm, qu, pm, cc, ct, hfo, _⟩ := hf
  have hTy : s.TypeIs (.ref f) "function" := ⟨_, hfo, rfl⟩
  refine wpAny_bind (wpAny_specialOf (r := some (.builtin "function.__call__")) hTy lk_call ?_)
  show wpAny _ _ (if true = true then _ else _) _ _ _
  rw [if_pos rfl]
  refine wpAny_bind (wpAny_pure ?_)
  show wpAny _ _ (if true = true then _ else _) _ _ _
  rw [if_pos rfl]
  refine wpAny_bind (wpAny_pure ?_)
  refine wpAny_bind (wpAny_holding (whole_target hps ?_))
  show wpAny _ _ (if ((1 : Int) == 1) = true then _ else _) _ _ _
  rw [if_pos (by rfl)]
  refine wpAny_bind ?_
  unfold reNotHeld
  refine wpAny_bind (wpAny_isInstance (typeIs_str _ _ _) inst_str ?_)
  rw [if_neg (by decide)]
  refine wpAny_pure ?_
  refine wpAny_bind (wpAny_newList ?_ (by decide))
  refine wpAny_pure ⟨Code.quiet_builtin _ (by decide +kernel), ?_⟩
  have nl : s.heap.NoLimit := po.nl.keeps fun b o e => H.base b o e
  have none0 : s.heap.get? s.heap.objs.size = none := Heap.get?_size _
  refine sub_loop (s0 := s) (D := s.heap.objs.size) (p := p) (f := f) (x := x) (t := t) (by show A.depth < 1000; omega) hx nl hps none0 L ⟨nm, qu, pm, cc, ct, hfo, by assumption⟩ hline (fun s' tk k h1 h2 => ?_) x.length 0 0 [] _ rfl (Nat.zero_le _) ⟨fun b o e => Heap.get?_push_of_some _ e, ⟨#[], 0, Heap.get?_push_size _ rfl, rfl⟩, rfl, rfl⟩ rfl (Nat.le_refl _)
  intro htk
  exact ⟨.str (twS x), _, _, q, ⟨tk, rfl⟩, H.ext k h1 h2 htk, Stp.ext k⟩
theorem name_here {x : Str} {p : Pos} {pv : PV} {P : Value → Shared → Prop} (X : EnvR G A env l μ s.heap) (e : l x = some pv) (h : ∀ v, Rep μ s.heap pv v → P v s) : wpAny G.M A (eval (.Name x p) env) P noE s := wpAny_Name (load_run X e h) (X.dom x pv e).2.1
theorem E_sub {params : Arguments} {scope : Scope} {mN e x : Str} {p1 p2 p3 p4 p5 p6 p7 p8 pa pb pc lp cp : Pos} {k1' k2 k3 : Nat} {v : List Nat} (g : GOk G) (po : ProgOk G) (hs : env.scope = K.sc)
    (okf : glbOk K.sc (Str.ofString "_twin_re_1") = true) (hqm : env.kindOf QM ≠ none) (hcl : closureFor scope env = pure []) (hdef : defaultsOf params env = ([], [])) (L : LamOk params scope mN)
    (hqn : G.qn lp.line lp.col = G.tq ++ Str.ofString "<lambda>") (hline : (p3.endLine == p5.line) = true) (hlineM : (pb.endLine == cp.line) = true)
    (hv : l x = some (.str v)) (hlen : v.length ≤ 100000) (q : Q (.str (twS v)) hp) :
    WE G n env l hp (eval (.Call (.Attribute (.Name (Str.ofString "_twin_re_1") pa) (Str.ofString "sub") pb)
      [.Lambda params (lamBody (Str.ofString "\\") (Str.ofString "group") mN e p1 p2 p3 p4 p5 p6 p7 p8 k1' k2 k3) scope lp, .Name x pc] [] cp) env) Q := fun A μ s R H X => by
  obtain ⟨p, hm, hpat⟩ := po.twin
  have hps : PatOk s.heap p := hpat.keeps fun b o e => H.base b o e
  obtain ⟨qa, qb, qc, qd, qe, qf, qg, qq, qws, qk, hpo, _⟩ := id hps
  refine wpAny_Call_method rfl rfl hlineM pa_pattern slot_sub type_sub ?_
  refine glb_fn g hs okf H X hm ?_
  refine ⟨⟨_, hpo, rfl⟩, fun a e => by cases e; exact ⟨_, hpo, rfl⟩, ?_⟩
  refine Calls.callWith_builtin rfl (Calls.evalArgs_plain (Calls.spliced_cons (lam_make po g hcl hdef hqm hqn H X fun f s1 H1 st1 hf => ?_)))
  have X1 := X.step H st1
  refine Calls.spliced_cons (name_here X1 hv fun y r => Calls.spliced_nil ?_)
  obtain ⟨t, rfl⟩ := r
  exact PE.back st1 (op_sub po R (X1.base) hlen hpat L hf hline H1 q)
end

section
open PySem PySem.W PyProof.Rows
open Sem (wp)
set_option linter.unusedVariables false
set_option linter.unusedSimpArgs false
set_option maxRecDepth 100000
/-! a generator whose element asks for tokens: the name's own store has made one -/
section
variable {prog : Program} {w : World} {A : Around}
noncomputable abbrev allP : Nat → Bool := fun _ => true
noncomputable def QuietT (prog : Program) (w : World) (cenv : Env) (x : Str) (elt : Expr) (P : Nat → Value → Prop) (F : Nat → Value → Prop) : Prop :=
  ∀ (A' : Around) E' i v (s₂ : Shared) m₂, A'.handled = none → P i v → 1 ≤ s₂.toks → s₂.heap.Ns cenv.locals m₂ → m₂ x = some v → wpAny (model prog w) A' (eval elt cenv) (fun y s₃ => F i y ∧ Keeps s₂ s₃) E' s₂
theorem seg_loopT {elt iter : Expr} {x : Str} {px : Pos} {scope : Scope} {pos : Pos} {I : Addr} {fp wr : List Addr} {n₀ : Nat} {P : Nat → Value → Prop} {St₀ : Nat → Heap → Prop} {cenv : Env}
    (hh : A.handled = none) (W₀ : ∀ A' : Around, A'.handled = none → Walks prog w A' I fp wr n₀ P St₀) (F : Nat → Value → Prop)
    (hx : cenv.kindOf x = some .local) (hp : (cenv.scope.kind == .class || (cenv.scope.kind == .module && cenv.locals != cenv.globals)) = false)
    (hco : cenv.scope.isCoroutine = false) (hCf : cenv.locals ∉ fp) (hq : QuietT prog w cenv x elt P F) :
    ∀ (k i : Nat) (s₀ s : Shared) (m : Str → Option Value), n₀ - i = k → i ≤ n₀ → St₀ i s.heap → s.heap.Ns cenv.locals m → GenSince cenv.locals wr s₀ s →
      Seg (model prog w) A (fun n s₀ r s₁ => r = .ok .next ∧ (n = 0 ∧ GenSince cenv.locals wr s₀ s₁)) (genProto cenv.locals fp wr allP n₀ F) (passing allP n₀ i).length s₀
        (.compLoop (.GeneratorExp elt [⟨.Name x px, iter, [], 0⟩] scope pos) 0 (.ref I) .none cenv)
        ((model prog w).den (.compLoop (.GeneratorExp elt [⟨.Name x px, iter, [], 0⟩] scope pos) 0 (.ref I) .none cenv)) [] s := by
  have hh' : (A.over (.compLoop (.GeneratorExp elt [⟨.Name x px, iter, [], 0⟩] scope pos) 0 (.ref I) .none cenv) []).handled = none := hh
  have notW : cenv.locals ∉ wr := fun h => hCf ((W₀ A hh).sub _ h)
  intro k
  induction k with
  | zero =>
    intro i s₀ s m hk hi hst hn hsince
    obtain rfl : i = n₀ := Nat.le_antisymm hi (Nat.le_of_sub_eq_zero hk)
    show Seg _ A _ _ _ s₀ _ ((compTurn (.GeneratorExp elt [⟨.Name x px, iter, [], 0⟩] scope pos) 0 (.ref I) .none cenv).onRaise (leaving cenv)) [] s
    rw [compTurn_gen, Sem.onRaise_eq_wrap]
    refine seg_bind_wrap (wpAny_standAt (seg_bind_wrap ((W₀ _ hh').done s _ _ hst fun h1 tk hk1 => ?_)))
    exact seg_end (.ok .next) ⟨rfl, by rw [passing_end]; rfl, hsince.step fun b o _ hw e => hk1 b o hw e⟩
  | succ k ih =>
    intro i s₀ s m hk hi hst hn hsince
    have hlt : i < n₀ := Nat.lt_of_sub_eq_succ hk
    show Seg _ A _ _ _ s₀ _ ((compTurn (.GeneratorExp elt [⟨.Name x px, iter, [], 0⟩] scope pos) 0 (.ref I) .none cenv).onRaise (leaving cenv)) [] s
    rw [compTurn_gen, Sem.onRaise_eq_wrap]
    refine seg_bind_wrap (wpAny_standAt (seg_bind_wrap ((W₀ _ hh').item i s _ _ hlt hst fun v h1 tk1 hv hst1 hk1 => ?_)))
    refine seg_bind_wrap (wpAny_of_eq (rfl : letOwnedTupleGo (.Name x px) (.ref I) v = pure ()) (seg_bind_wrap (wpAny_assign_Name (wpAny_storeName_local hx (hn.at' fun o e => hk1 _ o notW e) (fun h2 hn2 sb => ?_) hp))))
    have kept : ∀ b o, b ≠ cenv.locals → b ∉ wr → s.heap.get? b = some o → h2.get? b = some o := fun b o hb hw e => sb.extBut b o hb (hk1 b o hw e)
    have hst2 : St₀ (i + 1) h2 := (W₀ A hh).frame _ _ _ hst1 fun b hb o e => sb.extBut b o (fun q => hCf (q ▸ hb)) e
    refine seg_bind_wrap (wpAny_tests_nil ?_)
    simp only [if_true]
    rw [passing_true hlt rfl, List.length_cons]
    have hy : ∀ v, yieldOut cenv v = yieldValue v := fun v => by simp only [yieldOut, hco, Bool.false_eq_true, if_false]
    simp only [hy]
    rw [Sem.bind_eq_wrap', Sem.bind_eq_wrap', Sem.wrap_wrap, Sem.wrap_wrap]
    refine seg_wrap (wpAny_mono (hq _ _ i v _ _ hh' hv (by show 1 ≤ tk1 + 1; omega) hn2 (by simp)) (fun y s4 h4 => ?_) fun _ _ e => e)
    obtain ⟨hF, h3, tk3, rfl, hk3⟩ := h4
    have since3 : GenSince cenv.locals wr s₀ { s with heap := h3, toks := tk3 } := hsince.step fun b o hb hw e => hk3 b o (kept b o hb hw e)
    refine seg_at (seg_yield rfl rfl rfl ⟨⟨i, passing_here hlt rfl, hF⟩, since3, fun s5 al => ?_⟩)
    exact seg_again rfl (ih (i + 1) s5 s5 _ (by rw [Nat.sub_add_eq, hk]; rfl) hlt ((W₀ A hh).frame _ _ _ hst2 fun b hb o e => al b (List.mem_cons_of_mem _ hb) o (hk3 b o e))
      ((hn2.keeps hk3).at' fun o e => al _ (List.mem_cons_self ..) o e) (GenSince.refl _ _ _))
theorem seg_startT {elt iter : Expr} {x : Str} {px : Pos} {scope : Scope} {pos : Pos} {I : Addr} {fp wr : List Addr} {n₀ : Nat} {P : Nat → Value → Prop} {St₀ : Nat → Heap → Prop} {cenv : Env}
    (hh : A.handled = none) (W₀ : ∀ A' : Around, A'.handled = none → Walks prog w A' I fp wr n₀ P St₀) (F : Nat → Value → Prop)
    (hx : cenv.kindOf x = some .local) (hp : (cenv.scope.kind == .class || (cenv.scope.kind == .module && cenv.locals != cenv.globals)) = false)
    (hco : cenv.scope.isCoroutine = false) (hCf : cenv.locals ∉ fp) (hq : QuietT prog w cenv x elt P F)
    (s₀ s : Shared) (m : Str → Option Value) (hst : St₀ 0 s.heap) (hn : s.heap.Ns cenv.locals m) (hsince : GenSince cenv.locals wr s₀ s) :
    Seg (model prog w) A (fun n s₀ r s₁ => r = .ok .next ∧ (n = 0 ∧ GenSince cenv.locals wr s₀ s₁)) (genProto cenv.locals fp wr allP n₀ F) (passing allP n₀ 0).length s₀
      (.compStart (.GeneratorExp elt [⟨.Name x px, iter, [], 0⟩] scope pos) 0 (.ref I) .none cenv)
      ((model prog w).den (.compStart (.GeneratorExp elt [⟨.Name x px, iter, [], 0⟩] scope pos) 0 (.ref I) .none cenv)) [] s := by
  have hh' : (A.over (.compStart (.GeneratorExp elt [⟨.Name x px, iter, [], 0⟩] scope pos) 0 (.ref I) .none cenv) []).handled = none := hh
  have loop := seg_loopT (iter := iter) (px := px) (scope := scope) (pos := pos) hh W₀ F hx hp hco hCf hq n₀ 0 s₀ s m (Nat.sub_zero _) (Nat.zero_le _) hst hn hsince
  show Seg _ A _ _ _ s₀ _ ((compStart (.GeneratorExp elt [⟨.Name x px, iter, [], 0⟩] scope pos) 0 (.ref I) .none cenv).onRaise (leaving cenv)) [] s
  unfold compStart
  rw [Sem.onRaise_eq_wrap]
  show Seg _ A _ _ _ s₀ _ ((ask >>= _).wrap _ _ _ _) [] s
  refine seg_bind_wrap (wpAny_askSetting ?_)
  split
  · exact seg_again rfl loop
  · refine seg_bind_wrap (wpAny_rule ?_)
    first
      | exact seg_bind_wrap (wpAny_standAt (seg_bind_wrap ((W₀ _ hh').self 0 s _ _ hst (seg_again rfl loop))))
      | (show Seg _ A _ _ _ s₀ _ ((standAt iter.pos >>= _).wrap _ _ _ _) [] s
         exact seg_bind_wrap (wpAny_standAt (seg_bind_wrap ((W₀ _ hh').self 0 s _ _ hst (seg_again rfl loop)))))
theorem genAtT {elt iter : Expr} {x : Str} {px : Pos} {scope : Scope} {pos : Pos} {I a : Addr} {g : Nat} {fp wr : List Addr} {n₀ : Nat} {P : Nat → Value → Prop} {St₀ : Nat → Heap → Prop} {cenv : Env}
    (hh : A.handled = none) (W₀ : ∀ A' : Around, A'.handled = none → Walks prog w A' I fp wr n₀ P St₀) (F : Nat → Value → Prop)
    (hx : cenv.kindOf x = some .local) (hp : (cenv.scope.kind == .class || (cenv.scope.kind == .module && cenv.locals != cenv.globals)) = false)
    (hco : cenv.scope.isCoroutine = false) (hCf : cenv.locals ∉ fp) {s : Shared} {m : Str → Option Value} (hq : QuietT prog w cenv x elt P F)
    (hg : s.heap.IsGen a g) (hgs : s.gens[g]? = some (.fresh (.compStart (.GeneratorExp elt [⟨.Name x px, iter, [], 0⟩] scope pos) 0 (.ref I) .none cenv)))
    (hst : St₀ 0 s.heap) (hn : s.heap.Ns cenv.locals m) (hl : s.heap.NoLimit) : GenAt prog w A a g cenv.locals fp wr allP n₀ F 0 s :=
  ⟨hg, hl, _, hgs, fun s5 al => ⟨rfl, seg_startT (A := A.in1) hh W₀ F hx hp hco hCf hq s5 s5 m ((W₀ A hh).frame _ _ _ hst fun b hb o e => al b (List.mem_cons_of_mem _ hb) o e)
    (hn.at' fun o e => al _ (List.mem_cons_self ..) o e) (GenSince.refl _ _ _)⟩⟩
end
end

section
open PySem PySem.W PyProof.Rows
open Sem (wp)
set_option linter.unusedVariables false
set_option linter.unusedSimpArgs false
set_option maxRecDepth 100000
variable {G : GI} {n : Nat} {A : Around} {μ μ' : List Addr} {hp hp' : Hp} {s s' : Shared} {Q : PV → Hp → Prop} {env : Env} {l : Loc} {K : Cfg}
theorem rep_call {prog : Program} {w : World} {E Q : Value → Shared → Prop} {x : List Nat} {a b : Str} {c : Nat} {t u v : Tok} (hu : u ≠ 0) (hv : v ≠ 0) (huv : u ≠ v) (ha : a.cps.toList = [c]) (hab : b ≠ a) (hx : x.length ≤ 1048576) (hz : b.cps.size ≤ 8)
    (h : ∀ t' k, Q (.str ⟨(replC x c b.cps.toList).toArray⟩ t') { s with toks := k }) :
    wpAny (model prog w) A (call (.builtin "str.replace") [.str ⟨x.toArray⟩ t, .str a u, .str b v]) Q E s := by
  have ea : a = ⟨#[c]⟩ := by obtain ⟨⟨l⟩⟩ := a; cases ha; rfl
  subst ea
  refine SC.replaceW hu hv huv (beq_eq_false_iff_ne.mpr (Ne.symm hab)) (by rw [len_eq]; exact hx) (Nat.le_trans hz (by decide)) fun t' k => ?_
  have e := replC_join c b (Txt.split ⟨x.toArray⟩ ⟨#[c]⟩) (StrLaws.split_free _ c)
  rw [StrLaws.join_split] at e
  have := h t' k
  rw [StrLaws.replace_one]
  rw [show replC x c b.cps.toList = _ from e] at this
  exact this
theorem replC_len (c : Nat) (z : List Nat) (hz : z.length ≤ 2) : ∀ x : List Nat, (replC x c z).length ≤ 2 * x.length
  | [] => Nat.le_refl _
  | d :: x => by
      have := replC_len c z hz x
      show ((if d = c then z else [d]) ++ replC x c z).length ≤ _
      rw [List.length_append, List.length_cons]
      split
      · omega
      · rw [List.length_singleton]; omega
/-- a chunk as it is written -/
noncomputable def chunkS (x : List Nat) : List Nat := replC (replC x 92 [92, 92]) 45 [92, 45]
noncomputable abbrev genElt (sN : Str) (q1 q2 q3 q4 q5 r1 r2 r3 r4 : Pos) (k1 k2 k3 k4 : Nat) : Expr :=
  .Call (.Attribute (.Call (.Attribute (.Name sN q1) (Str.ofString "replace") q2) [.Constant (.str (Str.ofString "\\")) k1 r1, .Constant (.str (Str.ofString "\\\\")) k2 r2] [] q3) (Str.ofString "replace") q4)
    [.Constant (.str (Str.ofString "-")) k3 r3, .Constant (.str (Str.ofString "\\-")) k4 r4] [] q5
theorem elt_wp {prog : Program} {w : World} {E : Value → Shared → Prop} {sN : Str} {q1 q2 q3 q4 q5 r1 r2 r3 r4 : Pos} {k1 k2 k3 k4 : Nat} {x : List Nat} {t : Tok} {m : Str → Option Value}
    (hk : env.scope.kind = .function) (hm : env.kindOf sN = some .local) (hd : (sN == ("__debug__" : Str)) = false) (hl1 : (q2.endLine == q3.line) = true) (hl2 : (q4.endLine == q5.line) = true)
    (ht : 1 ≤ s.toks) (hns : s.heap.Ns env.locals m) (hv : m sN = some (.str ⟨x.toArray⟩ t)) (hx : x.length ≤ 400000) :
    wpAny (model prog w) A (eval (genElt sN q1 q2 q3 q4 q5 r1 r2 r3 r4 k1 k2 k3 k4) env) (fun y s3 => (∃ u, y = .str ⟨(chunkS x).toArray⟩ u) ∧ Keeps s s3) E s := by
  refine wpAny_Call_method rfl rfl hl2 F.plainAttrs_str F.slot_str_replace F.type_str_replace ?_
  refine wpAny_Call_method rfl rfl hl1 F.plainAttrs_str F.slot_str_replace F.type_str_replace ?_
  refine wpAny_Name ?_ hd
  unfold loadName
  simp only [Env.blockKind, hk, hm, ScopeKind.isAnnotationScope, Bool.false_and, Bool.false_eq_true, if_false]
  refine wpAny_bind (wpAny_nsGet hns ?_)
  rw [hv]
  refine wpAny_pure ?_
  refine ⟨typeIs_str _ _ _, (fun a e => by cases e), ?_⟩
  refine Calls.callWith_builtin rfl (Calls.evalArgs_plain (Calls.spliced_cons (Calls.Constant_str (k := k1) (pos := r1) (Calls.spliced_cons (Calls.Constant_str (k := k2) (pos := r2) (Calls.spliced_nil ?_))))))
  have t1 : s.toks ≠ (0 : Nat) := Nat.ne_of_gt ht
  have t2 : s.toks + 1 ≠ (0 : Nat) := Nat.succ_ne_zero _
  have t3 : s.toks ≠ s.toks + 1 := Nat.ne_of_lt (Nat.lt_succ_self _)
  refine wtk (s := { s with toks := s.toks + 1 + 1 }) (by show 1 ≤ s.toks + 1 + 1; omega) (rep_call (u := s.toks) (v := s.toks + 1) t1 t2 t3 (c := 92) rfl (by decide) (by omega) (by decide) fun t' k hk' => ?_)
  refine ⟨typeIs_str _ _ _, (fun a e => by cases e), ?_⟩
  refine Calls.callWith_builtin rfl (Calls.evalArgs_plain (Calls.spliced_cons (Calls.Constant_str (k := k3) (pos := r3) (Calls.spliced_cons (Calls.Constant_str (k := k4) (pos := r4) (Calls.spliced_nil ?_))))))
  have hk'' : 1 ≤ k := hk'
  have u1 : k ≠ (0 : Nat) := Nat.ne_of_gt hk''
  have u2 : k + 1 ≠ (0 : Nat) := Nat.succ_ne_zero _
  have u3 : k ≠ k + 1 := Nat.ne_of_lt (Nat.lt_succ_self _)
  have hl := replC_len 92 [92, 92] (Nat.le_refl _) x
  refine rep_call (s := { s with toks := k + 1 + 1 }) (u := k) (v := k + 1) u1 u2 u3 (c := 45) rfl (by decide) ?_ (by decide) fun t'' k' => ?_
  · show (replC x 92 [92, 92]).length ≤ _
    omega
  · exact ⟨⟨t'', rfl⟩, s.heap, k', rfl, fun _ _ e => e⟩
theorem HR.regen (H : HR G μ hp s) (h1 : s'.heap = s.heap) (h2 : s'.os = s.os) (h3 : AllBare s'.gens) (h4 : 1 ≤ s'.toks) : HR G μ hp s' := by
  refine ⟨?_, ?_, h2.trans H.os, h3, h4, H.nodup, H.len, H.low, ?_⟩
  · rw [h1]; exact H.base
  · rw [h1]; exact H.tab
  · rw [h1]; exact H.obj
end

section
open PySem PySem.W PyProof.Rows
open Sem (wp)
set_option linter.unusedVariables false
set_option linter.unusedSimpArgs false
set_option maxRecDepth 100000
variable {G : GI} {n : Nat} {A : Around} {μ μ' : List Addr} {hp hp' : Hp} {s s' : Shared} {Q : PV → Hp → Prop} {env : Env} {l : Loc} {K : Cfg}
/-- the code object of a generator expression -/
theorem gen_code {gsc : Scope} {gp : Pos} {P : Value → Shared → Prop} (po : ProgOk G) (g : GOk G) (hqm : env.kindOf QM ≠ none) (hqn : G.qn gp.line gp.col = G.tq ++ Str.ofString "<genexpr>") (H : HR G μ hp s) (X : EnvR G A env l μ s.heap)
    (h : ∀ code s', HR G μ hp s' → Stp G noOwn μ s μ s' → s'.os = s.os → s'.gens = s.gens → (∀ b o, b ≠ G.P → s.heap.get? b = some o → s'.heap.get? b = some o) → P code s') :
    wpAny G.M A (genexprCode env gp (env.qual ++ "<genexpr>") gsc) P noE s := by
  obtain ⟨hcode, hqual⟩ := X.code hqm
  have base := X.base
  obtain ⟨ps, hP, ht, hc⟩ := H.tab
  have C : CodeHd s.heap G.C G.P := po.hd.keeps fun b o e => H.base b o e
  rw [hqual, show G.tq ++ "<genexpr>" = G.qn gp.line gp.col from hqn.symm]
  cases hf : codeAmong gp ps.toList with
  | some cv => exact wpAny_genexprCode_hit hcode (C.code hP ht) hf (h _ _ H (Stp.refl _ _) rfl rfl fun _ _ _ e => e)
  | none =>
    refine wtk H.toks (wpAny_genexprCodeX hcode (C.code hP ht) (C.tab hP) hf fun c' h' tk hx hge hlt _ hrec htb hnew => fun htk => ?_)
    obtain ⟨H1, st1⟩ := H.newCode po base hP ht hc hx hge hrec htb.2 (by
      obtain ⟨P', _, _, ⟨⟨o, vs, e1, e2, _⟩, _⟩⟩ := hnew
      exact ⟨o, e1, e2⟩) htk
    exact h _ _ H1 st1 rfl rfl hx
structure GenOk (gsc : Scope) (sN : Str) : Prop where
  kind : gsc.kind = .function
  co : gsc.isCoroutine = false
  cell : ∀ x ∈ gsc.names, x.2 ≠ .cell
  dot : gsc.names.lookup (".0" : Str) = some NameKind.local
  loc : gsc.names.lookup sN = some .local
  dbg : (sN == ("__debug__" : Str)) = false
theorem StrsL.of_rep {h : Heap} : ∀ {ts : List (List Nat)} {vs : List Value}, RepL μ h (ts.map .str) vs → StrsL ts vs
  | [], _, r => r
  | _ :: _, _, r => by
      obtain ⟨w, wr, rfl, ⟨t, rfl⟩, rs⟩ := r
      exact ⟨t, wr, rfl, StrsL.of_rep rs⟩
theorem StrsL.at : ∀ {ts : List (List Nat)} {vs : List Value}, StrsL ts vs → ∀ (i : Nat) (v : Value), vs[i]? = some v → ∃ x t, ts[i]? = some x ∧ v = .str ⟨x.toArray⟩ t
  | [], _, e, i, v, h => by simp only [StrsL] at e; subst e; simp at h
  | p :: ps, _, ⟨t, r, rfl, k⟩, i, v, h => by
      cases i with
      | zero => simp at h; subst h; exact ⟨p, t, rfl, rfl⟩
      | succ i => simp at h; obtain ⟨x, u, h1, h2⟩ := k.at i v h; exact ⟨x, u, by simpa using h1, h2⟩
theorem pass_all (n : Nat) : passing allP n 0 = List.range n := by unfold passing; simp
theorem E_gen {sc : Scope} {gsc : Scope} {sN chN : Str} {q1 q2 q3 q4 q5 r1 r2 r3 r4 pa pb px pc gp cp : Pos} {k0 k1 k2 k3 k4 j : Nat} {ts : List (List Nat)} (g : GOk G) (po : ProgOk G)
    (hqm : env.kindOf QM ≠ none) (hcl : closureFor gsc env = pure []) (gk : GenOk gsc sN)
    (hqn : G.qn gp.line gp.col = G.tq ++ Str.ofString "<genexpr>") (hl1 : (q2.endLine == q3.line) = true) (hl2 : (q4.endLine == q5.line) = true) (hlineM : (pb.endLine == cp.line) = true)
    (hv : l chN = some (.ref j)) (hj : hp[j]? = some (.list (ts.map .str))) (hx : ∀ x ∈ ts, x.length ≤ 400000) (hn : ts.length ≤ 400000) (hbig : (joinL [45] (ts.map chunkS)).length ≤ big) (q : Q (.str (joinL [45] (ts.map chunkS))) hp) :
    WE G n env l hp (eval (.Call (.Attribute (.Constant (.str (Str.ofString "-")) k0 pa) (Str.ofString "join") pb)
      [.GeneratorExp (genElt sN q1 q2 q3 q4 q5 r1 r2 r3 r4 k1 k2 k3 k4) [⟨.Name sN px, .Name chN pc, [], 0⟩] gsc gp] [] cp) env) Q := fun A μ s R H X => by
  have hd := R.depth
  have hroom : A.depth < recursionLimit := by show A.depth < 1000; omega
  refine wpAny_Call_method rfl rfl hlineM F.plainAttrs_str F.slot_str_join F.type_str_join ?_
  refine Calls.Constant_str ?_
  refine ⟨typeIs_str _ _ _, (fun a e => by cases e), ?_⟩
  have H0 : HR G μ hp { s with toks := s.toks + 1 } := H.tok (by omega)
  have X0 : EnvR G A env l μ ({ s with toks := s.toks + 1 } : Shared).heap := X
  have st0 : Stp G noOwn μ s μ { s with toks := s.toks + 1 } := Stp.toks _ _ _
  generalize ({ s with toks := s.toks + 1 } : Shared) = s0 at H0 X0 st0 ⊢
  refine Calls.callWith_builtin rfl (Calls.evalArgs_plain (Calls.spliced_cons ?_))
  refine wpAny_GeneratorExp_make gk.co hcl gk.cell gk.dot gk.kind hroom ?_ (fun x => rfl)
  refine name_here X0 hv fun v r => ?_
  obtain ⟨ax, ws, m, hm, ho, rl, _⟩ := refAt H0 r hj
  have sl : StrsL ts ws.toList := StrsL.of_rep rl
  refine wpAny_pyIter_list ⟨_, ho, rfl, _, rfl⟩ ?_
  have H2 : HR G μ hp { s0 with heap := s0.heap.push { cls := .type "list_iterator", data := .fields #[.ref ax, .int 0 0] } } := H0.push _
  have st2 : Stp G noOwn μ s0 μ { s0 with heap := s0.heap.push { cls := .type "list_iterator", data := .fields #[.ref ax, .int 0 0] } } := Stp.push _ _ _
  have X2 := X0.step H0 st2
  have nl0 : s0.heap.NoLimit := po.nl.keeps fun b o e => H0.base b o e
  have it2 : (s0.heap.push { cls := .type "list_iterator", data := .fields #[.ref ax, .int 0 0] }).IsListIter s0.heap.objs.size ax 0 := ⟨_, Heap.get?_push_size _ rfl, rfl, rfl⟩
  have ho2 : (s0.heap.push { cls := .type "list_iterator", data := .fields #[.ref ax, .int 0 0] }).get? ax = some (lstO ws m) := Heap.get?_push_of_some _ ho
  generalize hs2 : ({ s0 with heap := s0.heap.push { cls := .type "list_iterator", data := .fields #[.ref ax, .int 0 0] } } : Shared) = s2 at H2 st2 X2 ⊢
  have it2' : s2.heap.IsListIter s0.heap.objs.size ax 0 := by rw [← hs2]; exact it2
  have ho2' : s2.heap.get? ax = some (lstO ws m) := by rw [← hs2]; exact ho2
  refine ⟨po.nl.keeps fun b o e => H2.base b o e, ?_⟩
  refine gen_code po g hqm hqn H2 X2 fun code s3 H3 st3 hos hgens hk3 => ?_
  have X3 := X2.step H2 st3
  have hg : s3.heap.Ns mainGlobals G.mg := H3.ns g.gns
  obtain ⟨bm, ob, b1, b2, b3, b4, b5, b6, b7, b8⟩ := po.bat
  rw [X.glob]
  refine wpAny_builtinsFor hg b1 b2 (H3.base _ _ b5) b6 b7 b8 ?_
  intro h' hns' hsb'
  refine Calls.spliced_nil ?_
  have nl3 : s3.heap.NoLimit := po.nl.keeps fun b o e => H3.base b o e
  have hclt : cStatics < s3.heap.objs.size := let ⟨_, hn, _⟩ := nl3; hn.lt
  have hcl0 : cStatics < s0.heap.objs.size := let ⟨_, hn, _⟩ := nl0; hn.lt
  -- the iterator and the list behind the code's step
  have itP : s0.heap.objs.size ≠ G.P := by
    intro e
    obtain ⟨ps, e2, _⟩ := H0.tab
    rw [← e, Heap.get?_size] at e2; cases e2
  have axP : ax ≠ G.P := by
    rintro rfl
    obtain ⟨ps, e2, _⟩ := H0.tab
    rw [ho] at e2; cases e2
  have it3 : s3.heap.IsListIter s0.heap.objs.size ax 0 := it2'.at fun o e => hk3 _ o itP e
  have ho3 : s3.heap.get? ax = some (lstO ws m) := hk3 _ _ axP ho2'
  have hsz : h'.objs.size = s3.heap.objs.size + 1 := by rw [hsb'.1, Heap.size_push]
  have keep' : ∀ b o, s3.heap.get? b = some o → h'.get? b = some o := fun b o e => hsb'.extBut b o (Nat.ne_of_lt (Heap.lt_size e)) (Heap.get?_push_of_some _ e)
  have hItlt : s0.heap.objs.size < s3.heap.objs.size := by obtain ⟨o, e, _⟩ := it3; exact Heap.lt_size e
  have haxlt : ax < s3.heap.objs.size := Heap.lt_size ho3
  have hax0 : ax < s0.heap.objs.size := Heap.lt_size ho
  have W0 : ∀ A' : Around, A'.handled = none → Walks G.prog G.w A' s0.heap.objs.size [s0.heap.objs.size, ax] [s0.heap.objs.size] ws.size (fun i v => ws[i]? = some v) (fun i h => h.IsListIter s0.heap.objs.size ax i ∧ h.IsList ax ws) :=
    fun A' hA => Walks.list hA _ _ (Nat.ne_of_lt hax0) ws
  have haC : h'.objs.size ≠ s3.heap.objs.size := by rw [hsz]; exact Nat.succ_ne_self _
  have haf : h'.objs.size ∉ List.range s3.heap.objs.size := fun q => by have := List.mem_range.mp q; omega
  have hsub : ∀ b ∈ [s0.heap.objs.size], b ∈ List.range s3.heap.objs.size := fun b hb => by simp at hb; rw [hb]; exact List.mem_range.mpr hItlt
  have hfp : ∀ b ∈ [s0.heap.objs.size, ax], b ∈ List.range s3.heap.objs.size := fun b hb => by
    simp at hb; rcases hb with rfl | rfl
    · exact List.mem_range.mpr hItlt
    · exact List.mem_range.mpr haxlt
  let F : Nat → Value → Prop := fun i y => ∃ x u, ts[i]? = some x ∧ y = .str ⟨(chunkS x).toArray⟩ u
  have W : WalksS G.prog G.w A.in4 h'.objs.size (h'.objs.size :: s3.heap.objs.size :: List.range s3.heap.objs.size) (s3.heap.objs.size :: [s0.heap.objs.size]) (GenOnlyQ s3.gens.size) (passing allP ws.size 0).length
      (fun j y => ∃ i, (passing allP ws.size 0)[j]? = some i ∧ F i y) (GenAt G.prog G.w A.in4 h'.objs.size s3.gens.size s3.heap.objs.size (List.range s3.heap.objs.size) [s0.heap.objs.size] allP ws.size F) :=
    WalksS.genexpQ (A := A.in4) R.handled _ _ _ _ _ allP _ F haC haf hsub hroom (List.mem_range.mpr hclt) (Nat.ne_of_lt hclt) (fun q => by simp at q; exact Nat.ne_of_lt hcl0 q)
  have hq : QuietT G.prog G.w (genEnv gsc [] s3.heap.objs.size code builtinsNs env) sN (genElt sN q1 q2 q3 q4 q5 r1 r2 r3 r4 k1 k2 k3 k4) (fun i v => ws[i]? = some v) F := by
    intro A' E' i v s4 m4 hA hiv htk hns hmv
    obtain ⟨x, t, e1, rfl⟩ := sl.at i v (by simpa using hiv)
    refine wpAny_mono (elt_wp (env := genEnv gsc [] s3.heap.objs.size code builtinsNs env) gk.kind gk.loc gk.dbg hl1 hl2 htk hns hmv (hx x (List.mem_of_getElem? e1))) (fun y s5 h5 => ?_) fun _ _ e => e
    obtain ⟨⟨u, rfl⟩, h5⟩ := h5
    exact ⟨⟨x, u, e1, rfl⟩, h5⟩
  have hgenv : ∀ (gq : Nat) (t1 t2 : Nat), (h'.push { cls := .type "generator", data := .fields #[.int gq 0, .str "<genexpr>" t1, .str (env.qual ++ "<genexpr>") t2] }).IsGen h'.objs.size gq := fun gq t1 t2 => ⟨_, _, _, Heap.get?_push_size _ rfl, rfl, rfl, rfl⟩
  generalize hgo : ({ cls := .type "generator", data := .fields #[.int s3.gens.size 0, .str "<genexpr>" (s3.toks + 1), .str (env.qual ++ "<genexpr>") (s3.toks + 1 + 1)] } : Obj) = go
  have keep5 : ∀ b o, s3.heap.get? b = some o → (h'.push go).get? b = some o := fun b o e => Heap.get?_push_of_some _ (keep' b o e)
  have GA : GenAt G.prog G.w A.in4 h'.objs.size s3.gens.size s3.heap.objs.size (List.range s3.heap.objs.size) [s0.heap.objs.size] allP ws.size F 0
      { s3 with gens := s3.gens.push (.fresh (.compStart (.GeneratorExp (genElt sN q1 q2 q3 q4 q5 r1 r2 r3 r4 k1 k2 k3 k4) [⟨.Name sN px, .Name chN pc, [], 0⟩] gsc gp) 0 (.ref s0.heap.objs.size) .none (genEnv gsc [] s3.heap.objs.size code builtinsNs env))), toks := s3.toks + 1 + 1 + 1, heap := h'.push go } := by
    refine genAtT (A := A.in4) (cenv := genEnv gsc [] s3.heap.objs.size code builtinsNs env) (m := fun y => if y = ".0" then some (.ref s0.heap.objs.size) else none) R.handled
      (fun A' hA => (W0 A' hA).mono_fp hfp) F gk.loc (by simp [genEnv, gk.kind]) gk.co (fun q => Nat.lt_irrefl _ (List.mem_range.mp q)) hq ?_ (Array.getElem?_push_size ..) ⟨it3.at fun o e => keep5 _ o e, ⟨_, keep5 _ _ ho3, rfl, m, rfl⟩⟩ (hns'.push _) (nl3.keeps keep5)
    rw [← hgo]; exact hgenv _ _ _
  have hnw : ws.size = ts.length := by simpa using sl.len
  refine wtk (by show 1 ≤ s3.toks + 1 + 1 + 1; omega) (SC.joinGen (n := (passing allP ws.size 0).length) W.in4_2 (fun _ _ st => st.1.typeIs) GA ?_ (List.mem_cons_self ..) ?_ ?_ ?_)
  · intro b hb
    have hsz5 : (h'.push go).objs.size = s3.heap.objs.size + 2 := by rw [Heap.size_push, hsz]
    show b < (h'.push go).objs.size
    rcases List.mem_cons.mp hb with rfl | hb
    · rw [hsz5, hsz]; exact Nat.lt_succ_self _
    · rcases List.mem_cons.mp hb with rfl | hb
      · rw [hsz5]; exact Nat.lt_succ_of_lt (Nat.lt_succ_self _)
      · have := List.mem_range.mp hb
        rw [hsz5]; exact Nat.lt_of_lt_of_le this (Nat.le_add_right _ 2)
  · rintro i v ⟨i', _, x, u, _, rfl⟩
    exact ⟨_, u, rfl⟩
  · intro s' lt hmv hacc
    have hlt : lt.map (·.1) = (ts.map chunkS).map fun t => (⟨t.toArray⟩ : Str) := by
      rw [pass_all, List.length_range] at hacc
      apply List.ext_getElem?
      intro i
      have hsz : lt.length = ws.size := by simpa [strValues] using hacc.1
      by_cases hi : i < ws.size
      · have hi' : i < lt.length := hsz ▸ hi
        obtain ⟨i2, e1, x, u, e2, e3⟩ := hacc.2 i (.str lt[i].1 lt[i].2) (by simp [strValues, List.getElem?_eq_getElem hi'])
        have : i2 = i := by
          rw [List.getElem?_range hi] at e1; cases e1; rfl
        subst this
        injection e3 with e3 _
        simp [List.getElem?_eq_getElem hi', e2, e3]
      · rw [List.getElem?_eq_none (by simpa [hsz] using Nat.le_of_not_lt hi), List.getElem?_eq_none (by simpa [← hnw] using Nat.le_of_not_lt hi)]
    rw [hlt]
    refine ⟨join_ok (sep := [45]) hbig (by decide), fun t' k htk => ?_⟩
    have ejoin : Txt.join (Str.ofString "-") ((ts.map chunkS).map fun t => (⟨t.toArray⟩ : Str)) = ⟨(joinL [45] (ts.map chunkS)).toArray⟩ := by
      unfold Txt.join
      rw [StrLaws.glued_eq_join]
      exact join_eq [45] (ts.map chunkS)
    rw [ejoin]
    have gb : AllBare s'.gens := AllBare.movedS (H3.gens.push (g := .fresh _) rfl) hmv
    have hos' : s'.os = s3.os := hmv.os
    have keepE : ∀ b o, b ≠ s0.heap.objs.size → s3.heap.get? b = some o → s'.heap.get? b = some o := fun b o hb e =>
      hmv.heap b o (fun q => by
        rcases List.mem_cons.mp q with rfl | q
        · exact Nat.lt_irrefl _ (Heap.lt_size e)
        · simp at q; exact hb q) (keep5 b o e)
    obtain ⟨oi, i1, i2, i3⟩ := id it3
    have mv : Turn G μ hp (· = s0.heap.objs.size) s3 { s' with gens := s3.gens, toks := k } := ⟨keepE, fun b hb => hb ▸ X0.base, fun b o hb e => .inl (PlI.opq ⟨oi, _, _, i1, i2, by simp [itCls], i3⟩ (hb ▸ e)), fun i a m ha h1 _ => by
      subst ha; exact absurd (List.mem_of_getElem? h1) (H3.notMem i1 (PlI.opq ⟨oi, _, _, i1, i2, by simp [itCls], i3⟩ i1).1), hos', rfl, htk⟩
    have Hf0 := mv.hr H3
    have Hf : HR G μ hp { s' with toks := k } := Hf0.regen rfl rfl gb htk
    have stf := mv.stp ((st0.trans st2).trans st3) fun b hb => by rw [hb]; exact none_of st0 (Nat.le_refl _)
    exact ⟨.str (joinL [45] (ts.map chunkS)), _, _, q, ⟨t', rfl⟩, Hf, ⟨stf.keepU, stf.grow, stf.live⟩⟩
  · rw [pass_all, List.length_range, hnw]; simp [sizeLine]; omega
end

section
open PySem PySem.W PyProof.Rows PySem.Calls
set_option linter.unusedVariables false
set_option maxRecDepth 100000
/-! the first call: the room of the caller is given, a token is taken by the parameter's store -/
theorem newEnvT {M : Model} {A : Around} {E : Value → Shared → Prop} {s : Shared} {scope : Scope} {globals : Addr} {x : Str} {v : Value} {qual : Str} {func : Option Addr} {code : Value} {builtins : Addr} {Q : Env → Shared → Prop}
    (hk : scope.kind = .function) (hx : scope.names.lookup x = some .local)
    (hQ : ∀ env, env = newEnv scope s.heap.objs.size globals (cellsFrom (s.heap.objs.size + 1) scope.names []) qual func code none builtins →
      ∀ s', 1 ≤ s'.toks → InCallC s env.locals (bindL env.kindOf [(x, v)] fun _ => none) env.cells (bindC env.kindOf [(x, v)] fun _ => none) s' → Q env s') :
    wpAny M A (newFunctionEnv scope globals [] [(x, v)] qual func code none builtins) Q E s := by
  simp only [newFunctionEnv, Option.isSome_none, Bool.false_eq_true, if_false]
  refine wpAny_bind (wpAny_alloc ?_)
  refine wpAny_bind (wpAny_layCells _ (fun name kind cells => by cases hkc : kind == NameKind.cell <;> simp) _ _ _ _ ?_)
  have ok := cellsFrom_ok scope.names (s.heap.push { cls := .type "frame", data := .dict #[] }) (s.heap.objs.size + 1) [] ⟨fun _ _ hm => (nomatch hm), List.Pairwise.nil⟩ (by rw [Heap.size_push]; exact Nat.le_refl _)
  rw [Heap.size_push] at ok
  rw [show ({ s with heap := s.heap.push { cls := .type "frame", data := .dict #[] } } : Shared).heap.objs.size = s.heap.objs.size + 1 from Heap.size_push ..]
  generalize henv : ({ scope := scope, locals := s.heap.objs.size, globals := globals, cells := cellsFrom (s.heap.objs.size + 1) scope.names [], qual := qual, func := func, code := code, frame := some s.heap.objs.size, builtins := builtins } : Env) = env
  have hne : env = newEnv scope s.heap.objs.size globals (cellsFrom (s.heap.objs.size + 1) scope.names []) qual func code none builtins := henv.symm.trans rfl
  have hl : env.kindOf x = some .local := by rw [hne]; exact hx
  have hks : env.scope.kind = .function := by rw [hne]; exact hk
  have x0 : InCallC s env.locals (fun _ => none) env.cells (fun _ => none) ({ s with heap := pushCells (s.heap.push { cls := .type "frame", data := .dict #[] }) scope.names } : Shared) := by
    rw [hne]
    exact ⟨⟨⟨_, _, rfl⟩, (Heap.Ns.new s.heap (.type "frame")).keeps (pushCells_keeps _ _), fun b o e => pushCells_keeps _ _ b o (Heap.get?_push_of_some _ e), Nat.le_refl _⟩,
      fun n c hc => (ok.empty n c (mem_of_lookup hc)).1, ok.apart, fun n c hm => (ok.empty n c hm).2⟩
  refine wpAny_bind ?_
  rw [List.forIn_cons]
  refine wpAny_bind (wpAny_bind (wpAny_storeName_local hl x0.toInCall.ns (fun h' hn' hs' => ?_) (by rw [hks]; rfl)))
  refine wpAny_pure ?_
  dsimp only
  rw [List.forIn_nil]
  refine wpAny_pure (wpAny_pure (hQ _ hne _ (by simp) ?_))
  have x1 : InCallC s env.locals (fun y => if y = x then some v else none) env.cells (fun _ => none) ({ s with heap := h', toks := s.toks + 1 } : Shared) := by
    refine ⟨⟨⟨h', _, rfl⟩, hn', fun b o e => ?_, x0.toInCall.fresh⟩, fun k c hc => ?_, x0.apart, x0.above⟩
    · exact hs'.extBut b o (Nat.ne_of_lt (Nat.lt_of_lt_of_le (Heap.lt_size e) x0.toInCall.fresh)) (x0.toInCall.keep b o e)
    · exact (x0.cell k c hc).sameBut hs' (Nat.ne_of_gt (x0.above k c (mem_of_lookup hc)))
  have e1 : bindL env.kindOf [(x, v)] (fun _ => none) = fun y => if y = x then some v else none := by
    unfold bindL bindL; rw [if_pos hl]
  have e2 : bindC env.kindOf [(x, v)] (fun _ => none) = fun _ => none := by
    unfold bindC bindC; rw [if_pos hl]
  rw [e1, e2]; exact x1
variable {G : GI} {n : Nat} {Q : PV → Hp → Prop}
theorem callTop {f p : Str} {sc : Scope} {trk : Pos → Bool} {body : List Stmt} {pv : PV} {v : Value} (g : GOk G) (hno : G.h0.NoLimit) (F : FnOk G f [p] sc body) (hp : sc.names.lookup p = some .local)
    (hst : stL G n ⟨sc, trk⟩ (body.drop 0) (updL (fun _ => none) [p] [pv]) [] (EndC G [] Q)) {A : Around} {s : Shared} (R : Room (n + 1) A) (H : ∀ tk, 1 ≤ tk → HR G [] [] { s with toks := tk }) (r : Rep [] s.heap pv v) (hbase : G.h0.objs.size ≤ s.heap.objs.size) (hfr : FrsOk G A s.heap) {fa : Addr} (hfa : G.mg f = some (.ref fa)) :
    codeAny G.M A (.call (.ref fa) ⟨[v], []⟩) (fun r s' => ∃ v, r = .ok (.ret v) ∧ PV1 G [] s Q v s') s := by
  obtain ⟨a, o, fd, ⟨hm, ho, hd⟩, hb, hs, hclo, hgl, hbl, hcr, hcode, hbind⟩ := F.fn
  rw [hm] at hfa; cases hfa
  subst hs
  have H0 := H 1 (Nat.le_refl _)
  have base := H0.base
  refine codeAny_call_function (by have := R.depth; show A.depth < 1000; omega) (base _ _ ho) hd F.co F.gen hb (hcr.keeps fun b o e => base b o e) ?_
  rw [hbind _ rfl, hclo, hgl, hbl]
  refine wpAny_pure (newEnvT F.kind hp fun env he s1 ht1 x => ?_)
  refine ⟨hno.keeps fun b o e => x.toInCall.keep b o (base b o e), codeAny_func ?_⟩
  obtain ⟨h1, tk, hsame⟩ := x.toInCall.same
  have H1 : HR G [] [] s1 := H0.ext x.toInCall.keep (by rw [hsame]) (by rw [hsame]) ht1
  refine wpAny_mono (enter_run (enter_env (vals := [v]) (vs := [pv]) F.kind F.free F.prm he x hcode R hbase hfr rfl ⟨v, [], rfl, H0.rep (Stp.ext (own := noOwn) (s' := s1) x.toInCall.keep) r, rfl⟩) H1 (.of (hst env (by rw [he]; rfl)))) (fun f s2 h2 => ?_) fun _ _ e => e.elim
  exact ⟨_, by cases f <;> rfl, h2⟩
theorem ghost_base {h₁ : Heap} {tabs : List (Addr × Addr)} {b : Addr} {o : Obj} (e : (ghostOf h₁ tabs).get? b = some o) : h₁.get? b = some o := of_hideAll _ e
/-- the end: true is given back, the world is as it was but for the table -/
theorem top_end {M : Model} {A : Around} {cd : Code} {s s₁ : Shared} {cw : ClaimW} {cl : Str → Option Addr} {mean : ExcName → Option Value} {args : List WData} {C P : Addr} (hT : TabsAt [(C, P)] s₁.heap) (hr : ∀ a x, cw.raises a x = false)
    (hpost : cw.post args (.bool true) args = true)
    (h : codeAny M A cd (fun r s' => r = .ok (.ret (.bool true)) ∧ (∀ a o, (ghostOf s₁.heap [(C, P)]).get? a = some o → s'.heap.get? a = some o) ∧ s'.os = s₁.os ∧ AllBare s'.gens ∧ GrownAt P s'.heap) s) : codeAny M A cd (GoodWG cw cl mean args s₁) s :=
  codeAny_mono h fun r s' ⟨hr1, hk, hos, hg, hgr⟩ => by
    have keep : ∀ b o, b ≠ P → s₁.heap.get? b = some o → s'.heap.get? b = some o := fun b o hb e => hk b o (ghost_ne e (by simpa using hb))
    have e2 := (hT (C, P) (by simp)).2
    have ht : isCodeTable s₁.heap P := ((hT (C, P) (by simp)).1.tab e2).isCodeTable
    obtain ⟨ps, hP⟩ := hgr
    refine ⟨.inl ⟨.bool true, .bool true, [], hr1, fun _ => hr _ _, .bool true, hpost, fun _ => ⟨List.nodup_nil, fun a ha => by cases ha⟩⟩, ⟨fun b o e => ?_, fun b o e => ?_⟩, hos, hg⟩
    · by_cases hb : b = P
      · subst hb
        rw [e2] at e; cases e
        exact .inr (.inl ⟨ht, rfl, #[], ps, rfl, by rw [Array.empty_append]; exact hP⟩)
      · exact .inl (keep b o hb e)
    · by_cases hb : b = P
      · subst hb; exact ⟨_, hP⟩
      · exact ⟨o, keep b o hb e⟩
end

section
open PySem PySem.W PyProof.Rows
set_option maxRecDepth 100000
set_option maxHeartbeats 8000000
noncomputable def prog : Program := PySem.Challenge.pw_in0089_06
noncomputable def pick (p : Program) (k : Nat) : DefRec := match p.main.body[k]? with
  | some (.FunctionDef f a b _ _ _ s _ _ q) => ⟨f, a, b, s, q⟩
  | _ => ⟨Str.ofString "", ⟨[], [], none, [], [], none, []⟩, [], ⟨.function, [], false, false, []⟩, ⟨0, 0, 0, 0⟩⟩
noncomputable abbrev bodyAt (p : Program) (k : Nat) : List Stmt := (pick p k).body
noncomputable abbrev scopeAt (p : Program) (k : Nat) : Scope := (pick p k).scope
noncomputable abbrev VW : Program := view prog [0, 2, 3, 5, 6, 8, 9, 11, 12, 13, 14, 15, 16, 17, 18]
noncomputable abbrev loose0 : List Str := [Str.ofString "_twin_re_1", Str.ofString "_special_chars_map"]
noncomputable abbrev fnO (k : Nat) (m : Str) (t : Tok) (c : Addr) : Obj := { cls := .type "function", data := .func { name := (pick prog k).name, qualname := (pick prog k).name, params := (pick prog k).params, body := .stmts (pick prog k).body, scope := (pick prog k).scope, globals := 3, closure := [], defaults := .none, kwdefaults := .none, pyModule := .str m t, code := .ref c } }
noncomputable abbrev cC : Addr := 61
noncomputable abbrev cP : Addr := 57
/-- the objects of the top that the law's call reaches -/
noncomputable def KF (P : Params) : Frag := [
  (3, { cls := Value.type "dict", data := Data.dict #[{ hash := PyData.keyHash P (Str.ofString "__name__"), key := Value.str (Str.ofString "__name__") 165, val := Value.str (Str.ofString "law_in0089_06") 520 }, { hash := PyData.keyHash P (Str.ofString "__doc__"), key := Value.str (Str.ofString "__doc__") 166, val := Value.none }, { hash := PyData.keyHash P (Str.ofString "__package__"), key := Value.str (Str.ofString "__package__") 167, val := Value.none }, { hash := PyData.keyHash P (Str.ofString "__loader__"), key := Value.str (Str.ofString "__loader__") 168, val := Value.builtin "__main__.__loader__#opaque" }, { hash := PyData.keyHash P (Str.ofString "__spec__"), key := Value.str (Str.ofString "__spec__") 169, val := Value.none }, { hash := PyData.keyHash P (Str.ofString "__annotations__"), key := Value.str (Str.ofString "__annotations__") 170, val := Value.ref 6 }, { hash := PyData.keyHash P (Str.ofString "__builtins__"), key := Value.str (Str.ofString "__builtins__") 171, val := Value.ref 4 }, { hash := PyData.keyHash P (Str.ofString "__file__"), key := Value.str (Str.ofString "__file__") 173, val := Value.str (Str.ofString "/claim/cut.py") 172 }, { hash := PyData.keyHash P (Str.ofString "__cached__"), key := Value.str (Str.ofString "__cached__") 174, val := Value.none }, { hash := PyData.keyHash P (Str.ofString "_sre"), key := Value.str (Str.ofString "_sre") 275, val := Value.ref 12 }, { hash := PyData.keyHash P (Str.ofString "_twin_re_1"), key := Value.str (Str.ofString "_twin_re_1") 321, val := Value.ref 36 }, { hash := PyData.keyHash P (Str.ofString "translate"), key := Value.str (Str.ofString "translate") 330, val := Value.ref 43 }, { hash := PyData.keyHash P (Str.ofString "_special_chars_map"), key := Value.str (Str.ofString "_special_chars_map") 478, val := Value.ref 45 }, { hash := PyData.keyHash P (Str.ofString "escape"), key := Value.str (Str.ofString "escape") 485, val := Value.ref 55 }, { hash := PyData.keyHash P (Str.ofString "_translate"), key := Value.str (Str.ofString "_translate") 506, val := Value.ref 62 }, { hash := PyData.keyHash P (Str.ofString "_join_translated_parts"), key := Value.str (Str.ofString "_join_translated_parts") 519, val := Value.ref 69 }, { hash := PyData.keyHash P (Str.ofString "_law_leaf"), key := Value.str (Str.ofString "_law_leaf") 531, val := Value.ref 76 }, { hash := PyData.keyHash P (Str.ofString "_law_forest"), key := Value.str (Str.ofString "_law_forest") 545, val := Value.ref 83 }, { hash := PyData.keyHash P (Str.ofString "_law_text"), key := Value.str (Str.ofString "_law_text") 558, val := Value.ref 90 }, { hash := PyData.keyHash P (Str.ofString "_law_told"), key := Value.str (Str.ofString "_law_told") 567, val := Value.ref 97 }, { hash := PyData.keyHash P (Str.ofString "_law_close"), key := Value.str (Str.ofString "_law_close") 575, val := Value.ref 104 }, { hash := PyData.keyHash P (Str.ofString "_law_row"), key := Value.str (Str.ofString "_law_row") 589, val := Value.ref 111 }, { hash := PyData.keyHash P (Str.ofString "_law_read"), key := Value.str (Str.ofString "_law_read") 599, val := Value.ref 118 }, { hash := PyData.keyHash P (Str.ofString "law"), key := Value.str (Str.ofString "law") 605, val := Value.ref 123 }] 24 }),
  (35, { cls := Value.type "tuple", data := Data.seq #[Value.int 14 0, Value.int 14 0, Value.int 4 0, Value.int 1 0, Value.int 1 0, Value.int 9 0, Value.int 0 0, Value.int 64 0, Value.int 0 0, Value.int 1342177280 0, Value.int 0 0, Value.int 0 0, Value.int 0 0, Value.int 0 0, Value.int 0 0, Value.int 17 0, Value.int 0 0, Value.int 13 0, Value.int 11 0, Value.int 9 0, Value.int 0 0, Value.int 64 0, Value.int 0 0, Value.int 1342177280 0, Value.int 0 0, Value.int 0 0, Value.int 0 0, Value.int 0 0, Value.int 0 0, Value.int 17 0, Value.int 1 0, Value.int 1 0] }),
  (36, { cls := Value.type "re.Pattern", data := Data.fields #[Value.str (Str.ofString "([&~|])") 285, Value.int 32 320, Value.int 1 0, Value.none, Value.none, Value.ref 35, Value.int 0 0] }),
  (42, { cls := Value.type "code", data := Data.fields #[Value.str (Str.ofString "translate") 322, Value.str (Str.ofString "translate") 323, Value.str (Str.ofString "/claim/cut.py") 324, Value.int 4 0, Value.int 1 0, Value.int 0 0, Value.int 0 0, Value.int 3 0, Value.ref 37, Value.bool true, Value.int 276 0, Value.ref 38, Value.none, Value.ref 39, Value.ref 40, Value.ref 41, Value.int 328 0, Value.int 4 0, Value.str (Str.ofString "/claim/cut.py") 329] }),
  (43, fnO 3 (Str.ofString "cpy313.fnmatch") 282 42),
  (45, { cls := Value.type "dict", data := Data.dict #[{ hash := 40, key := Value.int 40 334, val := Value.str (Str.ofString "\\(") 338 }, { hash := 41, key := Value.int 41 340, val := Value.str (Str.ofString "\\)") 344 }, { hash := 91, key := Value.int 91 346, val := Value.str (Str.ofString "\\[") 350 }, { hash := 93, key := Value.int 93 352, val := Value.str (Str.ofString "\\]") 356 }, { hash := 123, key := Value.int 123 358, val := Value.str (Str.ofString "\\{") 362 }, { hash := 125, key := Value.int 125 364, val := Value.str (Str.ofString "\\}") 368 }, { hash := 63, key := Value.int 63 370, val := Value.str (Str.ofString "\\?") 374 }, { hash := 42, key := Value.int 42 376, val := Value.str (Str.ofString "\\*") 380 }, { hash := 43, key := Value.int 43 382, val := Value.str (Str.ofString "\\+") 386 }, { hash := 45, key := Value.int 45 388, val := Value.str (Str.ofString "\\-") 392 }, { hash := 124, key := Value.int 124 394, val := Value.str (Str.ofString "\\|") 398 }, { hash := 94, key := Value.int 94 400, val := Value.str (Str.ofString "\\^") 404 }, { hash := 36, key := Value.int 36 406, val := Value.str (Str.ofString "\\$") 410 }, { hash := 92, key := Value.int 92 412, val := Value.str (Str.ofString "\\\\") 416 }, { hash := 46, key := Value.int 46 418, val := Value.str (Str.ofString "\\.") 422 }, { hash := 38, key := Value.int 38 424, val := Value.str (Str.ofString "\\&") 428 }, { hash := 126, key := Value.int 126 430, val := Value.str (Str.ofString "\\~") 434 }, { hash := 35, key := Value.int 35 436, val := Value.str (Str.ofString "\\#") 440 }, { hash := 32, key := Value.int 32 442, val := Value.str (Str.ofString "\\ ") 446 }, { hash := 9, key := Value.int 9 448, val := Value.str (Str.ofString "\\\t") 452 }, { hash := 10, key := Value.int 10 454, val := Value.str (Str.ofString "\\\n") 458 }, { hash := 13, key := Value.int 13 460, val := Value.str (Str.ofString "\\\x0d") 464 }, { hash := 11, key := Value.int 11 466, val := Value.str (Str.ofString "\\\x0b") 470 }, { hash := 12, key := Value.int 12 472, val := Value.str (Str.ofString "\\\x0c") 476 }] 24 }),
  (54, { cls := Value.type "code", data := Data.fields #[Value.str (Str.ofString "escape") 479, Value.str (Str.ofString "escape") 480, Value.str (Str.ofString "/claim/cut.py") 481, Value.int 10 0, Value.int 1 0, Value.int 0 0, Value.int 0 0, Value.int 3 0, Value.ref 49, Value.bool true, Value.int 276 0, Value.ref 50, Value.none, Value.ref 51, Value.ref 52, Value.ref 53, Value.int 483 0, Value.int 10 0, Value.str (Str.ofString "/claim/cut.py") 484] }),
  (55, fnO 6 (Str.ofString "re") 331 54),
  (61, { cls := Value.type "code", data := Data.fields #[Value.str (Str.ofString "_translate") 488, Value.str (Str.ofString "_translate") 489, Value.str (Str.ofString "/claim/cut.py") 490, Value.int 17 0, Value.int 3 0, Value.int 0 0, Value.int 0 0, Value.int 3 0, Value.ref 56, Value.bool true, Value.int 276 0, Value.ref 57, Value.none, Value.ref 58, Value.ref 59, Value.ref 60, Value.int 504 0, Value.int 17 0, Value.str (Str.ofString "/claim/cut.py") 505] }),
  (62, fnO 8 (Str.ofString "cpy313.fnmatch") 486 61),
  (68, { cls := Value.type "code", data := Data.fields #[Value.str (Str.ofString "_join_translated_parts") 507, Value.str (Str.ofString "_join_translated_parts") 508, Value.str (Str.ofString "/claim/cut.py") 509, Value.int 79 0, Value.int 2 0, Value.int 0 0, Value.int 0 0, Value.int 3 0, Value.ref 63, Value.bool true, Value.int 276 0, Value.ref 64, Value.none, Value.ref 65, Value.ref 66, Value.ref 67, Value.int 517 0, Value.int 79 0, Value.str (Str.ofString "/claim/cut.py") 518] }),
  (69, fnO 9 (Str.ofString "cpy313.fnmatch") 486 68),
  (75, { cls := Value.type "code", data := Data.fields #[Value.str (Str.ofString "_law_leaf") 522, Value.str (Str.ofString "_law_leaf") 523, Value.str (Str.ofString "/claim/cut.py") 524, Value.int 107 0, Value.int 1 0, Value.int 0 0, Value.int 0 0, Value.int 3 0, Value.ref 70, Value.bool true, Value.int 276 0, Value.ref 71, Value.none, Value.ref 72, Value.ref 73, Value.ref 74, Value.int 529 0, Value.int 107 0, Value.str (Str.ofString "/claim/cut.py") 530] }),
  (76, fnO 11 (Str.ofString "law_in0089_06") 520 75),
  (82, { cls := Value.type "code", data := Data.fields #[Value.str (Str.ofString "_law_forest") 532, Value.str (Str.ofString "_law_forest") 533, Value.str (Str.ofString "/claim/cut.py") 534, Value.int 120 0, Value.int 1 0, Value.int 0 0, Value.int 0 0, Value.int 3 0, Value.ref 77, Value.bool true, Value.int 276 0, Value.ref 78, Value.none, Value.ref 79, Value.ref 80, Value.ref 81, Value.int 543 0, Value.int 120 0, Value.str (Str.ofString "/claim/cut.py") 544] }),
  (83, fnO 12 (Str.ofString "law_in0089_06") 520 82),
  (89, { cls := Value.type "code", data := Data.fields #[Value.str (Str.ofString "_law_text") 546, Value.str (Str.ofString "_law_text") 547, Value.str (Str.ofString "/claim/cut.py") 548, Value.int 142 0, Value.int 2 0, Value.int 0 0, Value.int 0 0, Value.int 3 0, Value.ref 84, Value.bool true, Value.int 276 0, Value.ref 85, Value.none, Value.ref 86, Value.ref 87, Value.ref 88, Value.int 556 0, Value.int 142 0, Value.str (Str.ofString "/claim/cut.py") 557] }),
  (90, fnO 13 (Str.ofString "law_in0089_06") 520 89),
  (96, { cls := Value.type "code", data := Data.fields #[Value.str (Str.ofString "_law_told") 559, Value.str (Str.ofString "_law_told") 560, Value.str (Str.ofString "/claim/cut.py") 561, Value.int 160 0, Value.int 1 0, Value.int 0 0, Value.int 0 0, Value.int 3 0, Value.ref 91, Value.bool true, Value.int 276 0, Value.ref 92, Value.none, Value.ref 93, Value.ref 94, Value.ref 95, Value.int 565 0, Value.int 160 0, Value.str (Str.ofString "/claim/cut.py") 566] }),
  (97, fnO 14 (Str.ofString "law_in0089_06") 520 96),
  (103, { cls := Value.type "code", data := Data.fields #[Value.str (Str.ofString "_law_close") 568, Value.str (Str.ofString "_law_close") 569, Value.str (Str.ofString "/claim/cut.py") 570, Value.int 170 0, Value.int 2 0, Value.int 0 0, Value.int 0 0, Value.int 3 0, Value.ref 98, Value.bool true, Value.int 276 0, Value.ref 99, Value.none, Value.ref 100, Value.ref 101, Value.ref 102, Value.int 573 0, Value.int 170 0, Value.str (Str.ofString "/claim/cut.py") 574] }),
  (104, fnO 15 (Str.ofString "law_in0089_06") 520 103),
  (110, { cls := Value.type "code", data := Data.fields #[Value.str (Str.ofString "_law_row") 576, Value.str (Str.ofString "_law_row") 577, Value.str (Str.ofString "/claim/cut.py") 578, Value.int 182 0, Value.int 2 0, Value.int 0 0, Value.int 0 0, Value.int 3 0, Value.ref 105, Value.bool true, Value.int 276 0, Value.ref 106, Value.none, Value.ref 107, Value.ref 108, Value.ref 109, Value.int 587 0, Value.int 182 0, Value.str (Str.ofString "/claim/cut.py") 588] }),
  (111, fnO 16 (Str.ofString "law_in0089_06") 520 110),
  (117, { cls := Value.type "code", data := Data.fields #[Value.str (Str.ofString "_law_read") 590, Value.str (Str.ofString "_law_read") 591, Value.str (Str.ofString "/claim/cut.py") 592, Value.int 228 0, Value.int 1 0, Value.int 0 0, Value.int 0 0, Value.int 3 0, Value.ref 112, Value.bool true, Value.int 276 0, Value.ref 113, Value.none, Value.ref 114, Value.ref 115, Value.ref 116, Value.int 597 0, Value.int 228 0, Value.str (Str.ofString "/claim/cut.py") 598] }),
  (118, fnO 17 (Str.ofString "law_in0089_06") 520 117),
  (122, { cls := Value.type "code", data := Data.fields #[Value.str (Str.ofString "law") 600, Value.str (Str.ofString "law") 601, Value.str (Str.ofString "/claim/cut.py") 602, Value.int 239 0, Value.int 1 0, Value.int 0 0, Value.int 0 0, Value.int 3 0, Value.ref 119, Value.bool true, Value.int 276 0, Value.ref 120, Value.none, Value.none, Value.none, Value.ref 121, Value.int 603 0, Value.int 239 0, Value.str (Str.ofString "/claim/cut.py") 604] }),
  (123, fnO 18 (Str.ofString "law_in0089_06") 520 122)]
noncomputable abbrev as0 : List Addr := [3, 35, 36, 42, 43, 45, 54, 55, 61, 62, 68, 69, 75, 76, 82, 83, 89, 90, 96, 97, 103, 104, 110, 111, 117, 118, 122, 123]
noncomputable abbrev Hk : Hook := kmHook KF as0 (fun _ => rfl) [cP]
noncomputable abbrev Row : OpenLaw := PySem.Challenge.rw_in0089_06
theorem said : Row.wellSaid = true := by
  rw [Fast.te9446332074065402090]; kernel_rfl
noncomputable abbrev Xt0 : Shared → Bool := fun s => xlAt VW [] s && recOk (RowW.records Row.row.toRowW) s
noncomputable abbrev LW (w : World) : Prop := (openEnds treeTable prog w 3652).map (fun s => (openSeen VW loose0 (importedModules prog.main.body) Xt0 true s, Hk.obs s)) = some (openGood VW loose0, Hk.val w)
theorem left00 (w : World) : LW ((w.withFollow "special-get-raises" false).withFollow "comprehension-iter-twice" false) := by
  unfold LW openEnds fencedOpening topFrom
  rw [Fast.te10274390034422433532, Fast.te14289696077712309145, Fast.te14082659384304107361, Fast.te14364793385576792824, Fast.te1435165496053646825, Fast.te4187177175401517315]
  kernel_rfl
theorem left01 (w : World) : LW ((w.withFollow "special-get-raises" true).withFollow "comprehension-iter-twice" false) := by
  unfold LW openEnds fencedOpening topFrom
  rw [Fast.te10274390034422433532, Fast.te14289696077712309145, Fast.te14082659384304107361, Fast.te14364793385576792824, Fast.te1435165496053646825, Fast.te4187177175401517315]
  kernel_rfl
theorem left10 (w : World) : LW ((w.withFollow "special-get-raises" false).withFollow "comprehension-iter-twice" true) := by
  unfold LW openEnds fencedOpening topFrom
  rw [Fast.te10274390034422433532, Fast.te14289696077712309145, Fast.te14082659384304107361, Fast.te14364793385576792824, Fast.te1435165496053646825, Fast.te4187177175401517315]
  kernel_rfl
theorem left11 (w : World) : LW ((w.withFollow "special-get-raises" true).withFollow "comprehension-iter-twice" true) := by
  unfold LW openEnds fencedOpening topFrom
  rw [Fast.te10274390034422433532, Fast.te14289696077712309145, Fast.te14082659384304107361, Fast.te14364793385576792824, Fast.te1435165496053646825, Fast.te4187177175401517315]
  kernel_rfl
theorem left : LeftO prog VW loose0 Xt0 Hk.obs Hk.val 3652 := byRow2 "comprehension-iter-twice" (P := fun w => LW w) (byRow2 "special-get-raises" (P := fun w => LW (w.withFollow "comprehension-iter-twice" false)) left00 left01) (byRow2 "special-get-raises" (P := fun w => LW (w.withFollow "comprehension-iter-twice" true)) left10 left11)
noncomputable abbrev dLaw : DefRec := pick prog 18
theorem hdW (walk : WalkO VW loose0 (XL VW []) Hk.says Row.row.toRowW dLaw [] fun f vs => PySem.call f vs) : Row.Holds := by
  refine holds_law said fun said' => ?_
  refine W.holds_open (q := VW) (loose := loose0) (Xt := Xt0) (XP := XL VW []) (Yf := Hk.obs) (Ya := Hk.val) (YP := Hk.says) (N := 3652) left Hk.of Hk.keeps (fun s e => xl_of s (Bool.and_eq_true_iff.mp e).left) XL.keeps (by rfl) (by rfl) (by rfl)
    (fun s e => recFacts_of (Bool.and_eq_true_iff.mp e).right) (by rfl) said' ?_ ?_ ?_ walk
  · kernel_rfl
  · exact ⟨rfl, rfl, rfl, rfl, rfl, by kernel_rfl⟩
  · exact ⟨[WData.list []], by decide +kernel, by decide +kernel⟩
end

section
open PySem PySem.W PyProof.Rows PySem.Calls
set_option linter.unusedVariables false
set_option maxRecDepth 100000
noncomputable def tq0 : Str := Str.ofString "_translate.<locals>."
theorem fnOk_of {G : GI} {K : Frag} {f : Str} {ps : List Str} {sc : Scope} {body : List Stmt} (X : K.In G.h0) (gns : G.h0.Ns mainGlobals G.mg) {a : Addr} {o : Obj} {fd : FuncData} {c : Addr} {oc : Obj} {vs : Array Value} {t : Tok}
    (h1 : nsIn K mainGlobals f = some (some (.ref a))) (h2 : K.lookup a = some o) (h3 : o.data = .func fd) (hb : fd.body = .stmts body) (hs : fd.scope = sc) (hc : fd.closure = []) (hg : fd.globals = mainGlobals) (hbl : fd.builtins = builtinsNs)
    (hcd : fd.code = .ref c) (k1 : K.lookup c = some oc) (k2 : oc.data = .fields vs) (k3 : vs[1]? = some (.str fd.qualname t)) (hq : sc.names.lookup QM ≠ none → c = G.C ∧ fd.qualname ++ ".<locals>." = G.tq)
    (hbind : ∀ vals : List Value, vals.length = ps.length → bindArgs fd ⟨vals, []⟩ = pure (ps.zip vals)) (co : sc.isCoroutine = false) (gen : sc.isGenerator = false) (kind : sc.kind = .function) (free : sc.names.all (fun x => x.2 != .free) = true) (prm : ps.all (stoOk sc) = true) :
    FnOk G f ps sc body :=
  ⟨⟨a, o, fd, ⟨mg_of X gns h1, X _ _ h2, h3⟩, hb, hs, hc, hg, hbl, ⟨c, oc, vs, t, hcd, X _ _ k1, k2, k3⟩, fun q => ⟨by rw [hcd, (hq q).1], (hq q).2⟩, hbind⟩, co, gen, kind, free, prm⟩
theorem b1 {P : List Value → Prop} {vals : List Value} (h : vals.length = 1) (k : ∀ x, P [x]) : P vals := by
  cases vals with
  | nil => cases h
  | cons x r =>
    cases r with
    | nil => exact k x
    | cons y r => cases h
theorem b2 {P : List Value → Prop} {vals : List Value} (h : vals.length = 2) (k : ∀ x y, P [x, y]) : P vals := by
  cases vals with
  | nil => cases h
  | cons x r => exact b1 (P := fun r => P (x :: r)) (Nat.succ.inj h) fun y => k x y
theorem b3 {P : List Value → Prop} {vals : List Value} (h : vals.length = 3) (k : ∀ x y z, P [x, y, z]) : P vals := by
  cases vals with
  | nil => cases h
  | cons x r => exact b2 (P := fun r => P (x :: r)) (Nat.succ.inj h) fun y z => k x y z
theorem bd1 {fd : FuncData} {p : Str} (k : ∀ x, bindArgs fd ⟨[x], []⟩ = pure [(p, x)]) (vals : List Value) (h : vals.length = [p].length) : bindArgs fd ⟨vals, []⟩ = pure ([p].zip vals) :=
  b1 (P := fun v => bindArgs fd ⟨v, []⟩ = pure ([p].zip v)) h k
theorem bd2 {fd : FuncData} {p q : Str} (k : ∀ x y, bindArgs fd ⟨[x, y], []⟩ = pure [(p, x), (q, y)]) (vals : List Value) (h : vals.length = [p, q].length) : bindArgs fd ⟨vals, []⟩ = pure ([p, q].zip vals) :=
  b2 (P := fun v => bindArgs fd ⟨v, []⟩ = pure ([p, q].zip v)) h k
theorem bd3 {fd : FuncData} {p q r : Str} (k : ∀ x y z, bindArgs fd ⟨[x, y, z], []⟩ = pure [(p, x), (q, y), (r, z)]) (vals : List Value) (h : vals.length = [p, q, r].length) : bindArgs fd ⟨vals, []⟩ = pure ([p, q, r].zip vals) :=
  b3 (P := fun v => bindArgs fd ⟨v, []⟩ = pure ([p, q, r].zip v)) h k
theorem f_escape (G : GI) (w : World) (X : (KF w.params).In G.h0) (gns : G.h0.Ns mainGlobals G.mg) : FnOk G (Str.ofString "escape") [Str.ofString "pattern"] (scopeAt prog 6) (bodyAt prog 6) :=
  fnOk_of X gns rfl rfl rfl rfl rfl rfl rfl rfl rfl rfl rfl rfl (fun h => absurd (by rfl) h) (bd1 fun _ => rfl) rfl rfl rfl rfl rfl
theorem f_translate (G : GI) (w : World) (X : (KF w.params).In G.h0) (gns : G.h0.Ns mainGlobals G.mg) : FnOk G (Str.ofString "translate") [Str.ofString "pat"] (scopeAt prog 3) (bodyAt prog 3) :=
  fnOk_of X gns rfl rfl rfl rfl rfl rfl rfl rfl rfl rfl rfl rfl (fun h => absurd (by rfl) h) (bd1 fun _ => rfl) rfl rfl rfl rfl rfl
theorem f__translate (G : GI) (w : World) (X : (KF w.params).In G.h0) (gns : G.h0.Ns mainGlobals G.mg) (hC : G.C = 61) (ht : G.tq = tq0) : FnOk G (Str.ofString "_translate") [Str.ofString "pat", Str.ofString "STAR", Str.ofString "QUESTION_MARK"] (scopeAt prog 8) (bodyAt prog 8) :=
  fnOk_of X gns rfl rfl rfl rfl rfl rfl rfl rfl rfl rfl rfl rfl (fun h => ⟨hC.symm, ht.symm⟩) (bd3 fun _ _ _ => rfl) rfl rfl rfl rfl rfl
theorem f_join (G : GI) (w : World) (X : (KF w.params).In G.h0) (gns : G.h0.Ns mainGlobals G.mg) : FnOk G (Str.ofString "_join_translated_parts") [Str.ofString "inp", Str.ofString "STAR"] (scopeAt prog 9) (bodyAt prog 9) :=
  fnOk_of X gns rfl rfl rfl rfl rfl rfl rfl rfl rfl rfl rfl rfl (fun h => absurd (by rfl) h) (bd2 fun _ _ => rfl) rfl rfl rfl rfl rfl
end

section
open PySem PySem.W PyProof.Rows PySem.Calls
set_option linter.unusedVariables false
set_option maxRecDepth 100000
set_option maxHeartbeats 8000000
noncomputable def qn0 (l c : Nat) : Str := if l = 63 then tq0 ++ Str.ofString "<lambda>" else tq0 ++ Str.ofString "<genexpr>"
/-- what the texts of the program are told -/
structure Giv (G : GI) : Prop where
  X : (KF G.w.params).In G.h0
  g : GOk G
  po : ProgOk G
  hC : G.C = cC
  tq : G.tq = tq0
  qn : G.qn = qn0
  prog : G.prog = prog
noncomputable def mapKeys (es : Array DictEntry) : Bool := es.toList.all fun e => match e.key with
  | .int k _ => e.hash == hashInt k && (spcl.map Int.ofNat).contains k
  | _ => false
noncomputable def mapVals (es : Array DictEntry) : Bool := spcl.all fun c => match findBy Value.isInt es (c : Int) with
  | some (.str s _) => s == ⟨#[92, c]⟩
  | _ => false
theorem mapTab_of {G : GI} {d : Addr} {o : Obj} {es : Array DictEntry} {ep : Nat} (hm : G.mg (Str.ofString "_special_chars_map") = some (.ref d)) (hs : (d == sysModules) = false) (ho : G.h0.get? d = some o) (hx : o.ExactDict) (hd : o.data = .dict es ep)
    (hk : mapKeys es = true) (hv : mapVals es = true) : MapTab G := by
  refine ⟨d, fun k => findBy Value.isInt es k, hm, hs, ⟨o, es, ep, ho, hx, hd, fun e he => ?_, fun k => rfl⟩, fun c => ⟨fun hc => ?_, fun hc => ?_⟩⟩
  · have := List.all_eq_true.mp hk e (Array.mem_toList_iff.mpr he)
    revert this
    cases hke : e.key <;> simp
    rename_i k t
    intro h1 x h2 h3
    refine ⟨k, ?_, h1⟩
    show Value.isInt k (.int k t) = true
    simp [Value.isInt]
  · have := List.all_eq_true.mp hv c hc
    revert this
    cases hf : findBy Value.isInt es (c : Int) with
    | none => simp
    | some v =>
      cases v <;> simp
      rintro rfl
      exact ⟨_, hf⟩
  · show findBy Value.isInt es (c : Int) = none
    unfold findBy
    rw [Option.map_eq_none_iff, Array.find?_eq_none]
    intro e he hq
    have := List.all_eq_true.mp hk e (Array.mem_toList_iff.mpr he)
    revert this
    cases hke : e.key <;> simp
    rename_i k t
    intro h1 x hx hxk
    have hkc : k = (c : Int) := by
      have := hq; rw [hke] at this; simpa [Value.isInt] using this
    apply hc
    have : x = c := by omega
    rw [← this]; exact hx
theorem rep_ints {P : Params} {h : Heap} {v : Value} {xs : List Int} (hw : Well P h v (ofPy (.list (xs.map .int)))) : Rep [] h (.list (xs.map .int)) v := by
  have key : ∀ (xs : List Int) (vs : List Value), WellAll P h vs (ofPys (xs.map .int)) → RepL [] h (xs.map .int) vs := by
    intro xs
    induction xs with
    | nil => intro vs q; cases q; exact rfl
    | cons x xs ih =>
      intro vs q
      cases q with
      | cons q1 q2 =>
        cases q1
        exact ⟨_, _, rfl, ⟨_, rfl⟩, ih _ q2⟩
  cases hw with
  | list h1 h2 => exact ⟨_, _, 0, rfl, h1, (fun q => nomatch q), key _ _ h2⟩
theorem giv_of {w : World} {h : Heap} {os0 : OsState} {mg mb : Str → Option Value} {pp : Program} {loose : List Str} {mean : ExcName → Option Value} (X : (KF w.params).In h) (hT : TabsAt [(cC, cP)] h) (T : Top pp loose mean mg mb h) :
    Giv { prog := prog, w := w, h0 := ghostOf h [(cC, cP)], C := cC, P := cP, os0 := os0, mg := mg, mb := mb, tq := tq0, qn := qn0 } := by
  have X' : (KF w.params).In (ghostOf h [(cC, cP)]) := ghost_K hT X (by kernel_rfl)
  have gns := ghost_ns hT T.g
  have bns := ghost_ns hT T.b
  have none_of : ∀ x, nsIn (KF w.params) mainGlobals x = some none → mg x = none := fun x e => mg_none_of X T.g e
  have blt : ∀ (x : Str) (v : Value), (x == ("__name__" : Str)) = false → bootBuiltins x = some v → mb x = some v := fun x v h1 h2 => (T.builtins x (by simpa using h1)).trans h2
  refine ⟨X', ⟨gns, bns, fun x hx => ?_⟩, ?_, rfl, rfl, rfl, rfl⟩
  · simp only [bltTab, List.mem_cons, List.not_mem_nil, or_false] at hx
    rcases hx with rfl | rfl | rfl | rfl | rfl | rfl | rfl | rfl | rfl | rfl <;> exact ⟨none_of _ (by kernel_rfl), blt _ _ (by decide) rfl⟩
  refine ⟨codeHd_of_K X' (by kernel_rfl), ?_, (by decide : mainGlobals ≠ cP), hideAll_none _ (by simp), ?_, ?_, ?_⟩
  · obtain ⟨mc, a, r⟩ := T.nolimit; exact ⟨mc, ghost_ns hT a, r⟩
  · obtain ⟨bm, ob, a1, a2, a3, a4, a5, a6⟩ := T.bmain
    refine ⟨bm, ob, a1, a2, ?_, ?_, ghost_get hT a3 (fun q => by rw [q] at a4; cases a4), a4, a5, a6⟩
    · rintro rfl
      obtain ⟨o, es, ep, e1, e2, _⟩ := T.g
      rw [a3] at e1; cases e1; rw [a6] at e2; cases e2
    · rintro rfl
      have := (hT (cC, cP) (by simp)).2
      rw [a3] at this; cases this; cases a4
  · exact ⟨_, mg_of X T.g (by exact rfl), ⟨_, _, _, _, _, _, _, _, _, _, X' _ _ rfl, X' _ _ rfl, by kernel_rfl⟩⟩
  · exact mapTab_of (mg_of X T.g (by exact rfl)) (by rfl) (X' _ _ rfl) ⟨rfl, rfl, rfl⟩ rfl (by kernel_rfl) (by kernel_rfl)
/-- the whole of the head: what is left is the law's body, run in the small state -/
theorem head_go {w : World} {s₁ : Shared} {mg mb : Str → Option Value} {pp : Program} {loose : List Str} {mean mean' : ExcName → Option Value} {cl : Str → Option Addr} {cw : ClaimW} {fa : Addr} {v : Value} {xs : List Int} {args : List WData} {p : Str} {sc : Scope} {body : List Stmt} {trk : Pos → Bool}
    (F : ∀ G : GI, Giv G → FnOk G (Str.ofString "law") [p] sc body) (hp : sc.names.lookup p = some .local) (hmg : mg (Str.ofString "law") = some (.ref fa))
    (X : (KF w.params).In s₁.heap) (KT : ∀ P ∈ [cP], s₁.heap.get? P = some (tabObj #[])) (T : Top pp loose mean mg mb s₁.heap) (hg : s₁.gens = #[])
    (w1 : Well w.params s₁.heap v (ofPy (.list (xs.map .int)))) (hlen : ¬ (63 : Int) < xs.length)
    (hr : ∀ a x, cw.raises a x = false) (hpost : cw.post args (.bool true) args = true)
    (h : ∀ G : GI, Giv G → xs.length ≤ 63 → stL G 500 ⟨sc, trk⟩ (body.drop 0) (updL (fun _ => none) [p] [.list (xs.map .int)]) [] (EndC G [] fun pv _ => pv = .bool true)) :
    codeAny (model prog w) callerA (.call (.ref fa) ⟨[v], []⟩) (GoodWG cw cl mean' args s₁) s₁ := by
  have hT : TabsAt [(cC, cP)] s₁.heap := fun q hq => by
    simp only [List.mem_singleton] at hq; subst hq
    exact ⟨codeHd_of_K X (by kernel_rfl), KT cP (by simp)⟩
  have V := giv_of (os0 := s₁.os) X hT T
  have e2 := (hT (cC, cP) (by simp)).2
  refine top_end hT hr hpost (codeAny_mono (callTop (n := 500) (trk := trk) V.g V.po.nl (F _ V) hp (h _ V (by omega)) ⟨by decide, by decide, rfl, ⟨[], rfl⟩⟩ (fun tk hk => ?_) (rep_ints w1) (Nat.le_of_eq (hideAll_size _ _)) (fun lf hlf e he => by cases hlf; cases he) hmg) fun r s' hh => ?_)
  · exact ⟨fun a o e => ghost_base e, ⟨#[], e2, trivial, fun pos c q => by simp [codeAmong] at q⟩, rfl, .of_eq hg, hk, List.nodup_nil, rfl, (fun a ha => nomatch ha), fun i a m q => by simp at q⟩
  · obtain ⟨v, rfl, pv, hp', rfl, rv, HF, _⟩ := hh
    cases (show v = .bool true from rv)
    refine ⟨rfl, HF.base, HF.os, HF.gens, ?_⟩
    obtain ⟨ps, q, _⟩ := HF.tab
    exact ⟨ps, q⟩
end

section
open PySem PySem.W PyProof.Rows
theorem ofs_tr {a : String} {L : List Nat} (h : a.toList.map Char.toNat = L) : (Str.ofString a).cps.toList = L := (ofs_cps a).trans h
set_option compiler.extract_closed false
def wAt (s : String) : Lean.Syntax := .atom .none s
def wNd (k : String) (a : Array Lean.Syntax) : Lean.Syntax := .node .none (.str `Lean.Parser.Tactic k) a
def wNl (a : Array Lean.Syntax) : Lean.Syntax := .node .none `null a
def wSq (a : Array Lean.Syntax) : Lean.Syntax := wNd "tacticSeq" #[wNd "tacticSeq1Indented" #[wNl a]]
def wId (s : String) : Lean.Syntax := Lean.mkIdent s.toName
def wLm (x : Lean.Syntax) : Lean.Syntax := wNd "simpLemma" #[wNl #[], wNl #[], x]
def wWd (a : Array Lean.Syntax) : Lean.Syntax := wNd "simpArith" #[wAt "simp_arith", wNd "optConfig" #[wNl #[]], wNl #[], wNl #[], wNl #[wAt "[", wNl a, wAt "]"], wNl #[]]
def wCl (k : String) (a : Array Lean.Syntax) : Lean.Syntax :=
  let r := String.ofList (k.toList.drop 1)
  match k.toList.headD 'S' with
  | 'S' => wSq a
  | 'G' => .node .none `group #[wAt "|", wSq a]
  | 'L' => wLm (a.getD 0 .missing)
  | 'A' => wWd a
  | '(' => wNd r a
  | '{' => .node .none (.str `Lean.Parser.Term r) a
  | _ => .node .none r.toName a
abbrev WSt := List (String × Array Lean.Syntax)
def wPu (y : Array Lean.Syntax) : WSt → WSt
  | (k, a) :: r => (k, a ++ y) :: r
  | [] => []
/-- a text out of its pieces -/
def unp (sc : Lean.Name → Lean.Name) (fs : Array Lean.Syntax) (s : String) : Lean.Syntax :=
  let st := (s.splitOn " ").foldl (fun (st : WSt) t =>
    let r := String.ofList (t.toList.drop 1)
    match t.toList.headD ' ' with
    | ')' => match st with
      | (k, a) :: u => wPu #[wCl k a] u
      | [] => []
    | '!' => wPu #[wAt r] st
    | 'i' => wPu #[wId r] st
    | 'h' => wPu #[Lean.mkIdent (sc (.str .anonymous r))] st
    | '$' => wPu fs st
    | ' ' => st
    | _ => (t, #[]) :: st) [("S", #[])]
  match st with
  | (_, a) :: _ => a.getD 0 .missing
  | [] => .missing
def wTab : List (String × String) := [("L", "(first !first [null G A L iwX ) !, $0 ) ) G (withReducible !with_reducible S (exact !exact {app ilk_hit [null {hole !_ ) {hole !_ ) {hole !_ ) ) ) ) ) ) ) G (paren !( S (paren !( S (withReducible !with_reducible S (refine' !refine' {app ilk_miss [null {syntheticHole !? hqh ) {syntheticHole !? hqe ) ) ) ) ) ) ) !) ) !; (paren !( S (case !case [null (caseArg [Lean.binderIdent hqh ) [null ) ) ) !=> S (simp !simp (optConfig [null ) ) [null ) [null !only ) [null ![ [null L iString.reduceBEq ) ) !] ) [null ) ) ) ) ) !) ) !; (paren !( S (case !case [null (caseArg [Lean.binderIdent hqe ) [null ) ) ) !=> S A L iwL ) !, $0 ) ) ) ) !) ) ) !) ) ) ) )"),
  ("C", "(first !first [null G A L iwX ) !, $0 ) ) G (withReducible !with_reducible S (tacticRfl !rfl ) ) ) ) G (paren !( S (simp !simp (optConfig [null ) ) [null ) [null !only ) [null ![ [null $0 L idecide_true ) !, L idecide_false ) !, L idecide_eq_true_eq ) !, L idecide_eq_false_iff_not ) !, L iBool.not_true ) !, L iBool.not_false ) !, L iBool.not_eq_true ) !, L iBool.not_eq_false ) !, L iBool.false_eq_true ) !, L iBool.not_not ) !, L ireduceCtorEq ) !, L ieq_self ) !, L inot_true_eq_false ) !, L inot_false_eq_true ) !, L iList.isEmpty_cons ) !, L iList.isEmpty_nil ) !, L iList.contains_cons ) !, L iList.contains_nil ) !, L ibeq_iff_eq ) !, L ibne_iff_ne ) !, L iBool.or_eq_true ) !, L iBool.and_eq_true ) !, L iBool.or_false ) !, L iBool.or_true ) !, L iBool.false_or ) !, L iBool.true_or ) !, L iBool.and_true ) !, L iBool.and_false ) !, L iBool.true_and ) !, L iBool.false_and ) !, L iand_true ) !, L itrue_and ) !, L iand_false ) !, L ifalse_and ) !, L ior_false ) !, L ifalse_or ) !, L ior_true ) !, L itrue_or ) !, L ibeq_self_eq_true ) !, L ine_eq ) !, L iList.length_cons ) !, L iList.length_nil ) !, L iNat.zero_le ) !, L iofs_inj ) !, L iString.reduceEq ) !, L iOption.isSome_some ) !, L iList.map_cons ) !, L iList.map_nil ) !, L iforall_const ) !, L iOption.isNone_none ) !, L iOption.isNone_some ) !, L iimplies_true ) ) !] ) [null ) ) !; (done !done ) ) !) ) ) ) )"),
  ("T", "(paren !( S (refine' !refine' {app iofs_tr [null {syntheticHole !? hqk ) ) ) ) !; (case !case [null (caseArg [Lean.binderIdent hqk ) [null ) ) ) !=> S (first !first [null G (paren !( S (simp !simp (optConfig [null ) ) [null ) [null !only ) [null ![ [null L iString.reduceToList ) !, L iList.map_cons ) !, L iList.map_nil ) !, L iChar.reduceToNat ) !, (simpLemma [null (simpPre !↓ ) ) [null ) iChar.isValue ) ) !] ) [null ) ) !; (done !done ) ) !) ) ) G (paren !( S (paren !( S (tacticTry_ !try S (simp !simp (optConfig [null ) ) [null ) [null !only ) [null ![ [null L iString.reduceToList ) !, L iList.map_cons ) !, L iList.map_nil ) !, L iChar.reduceToNat ) !, (simpLemma [null (simpPre !↓ ) ) [null ) iChar.isValue ) ) !] ) [null ) ) ) ) ) !) ) !; (tacticRfl !rfl ) ) !) ) ) ) ) ) ) ) !) )"),
  ("B", "(paren !( S (paren !( S (withReducible !with_reducible S (refine !refine {app ibig_ge [null {syntheticHole !? !_ ) ) ) ) ) ) ) !) ) !; (first !first [null G (paren !( S (refine !refine {app iNat.le_of_ble_eq_true [null {syntheticHole !? !_ ) ) ) ) !; [PyProof.Rows.tacticKernel_rfl! !kernel_rfl! ) ) !) ) ) G (omega !omega (optConfig [null ) ) ) ) G (paren !( S (paren !( S (tacticTry_ !try S (simp !simp (optConfig [null ) ) [null ) [null !only ) [null ![ [null L iList.length_append ) !, L iList.length_cons ) !, L iList.length_nil ) !, L iList.length_map ) !, L iList.length_take ) !, L iList.length_drop ) !, L iList.length_tail ) !, L iList.length_dropLast ) ) !] ) [null ) ) ) ) ) !) ) !; (omega !omega (optConfig [null ) ) ) ) !) ) ) ) ) ) !) )"),
  ("P", "(first !first [null G A L iwX ) !, $0 ) ) G A L iwX ) !, L {app ibin_add [null {ellipsis !.. ) ) ) ) !, L {app ibin_sub [null {ellipsis !.. ) ) ) ) !, L {app icmp_lt [null {ellipsis !.. ) ) ) ) !, L {app icmp_le [null {ellipsis !.. ) ) ) ) !, L {app icmp_gt [null {ellipsis !.. ) ) ) ) !, L {app icmp_ge [null {ellipsis !.. ) ) ) ) !, L {app icmp_slt [null {ellipsis !.. ) ) ) ) !, L {app icmp_sle [null {ellipsis !.. ) ) ) ) !, L {app icmp_sgt [null {ellipsis !.. ) ) ) ) !, L {app icmp_sge [null {ellipsis !.. ) ) ) ) !, L {app itruth_bool [null {ellipsis !.. ) ) ) ) !, L {app itruth_int [null {ellipsis !.. ) ) ) ) !, L itruth_none ) !, L {app iaug_int [null {ellipsis !.. ) ) ) ) !, L {app id_eqs [null {ellipsis !.. ) ) ) ) !, L {app id_nes [null {ellipsis !.. ) ) ) ) !, L {app id_eqi [null {ellipsis !.. ) ) ) ) !, L {app id_nei [null {ellipsis !.. ) ) ) ) !, L {app id_in [null {ellipsis !.. ) ) ) ) !, L {app id_ni [null {ellipsis !.. ) ) ) ) !, L {app id_itt [null {ellipsis !.. ) ) ) ) !, L {app iiter_lst [null {ellipsis !.. ) ) ) ) !, L {app ilsr_lst [null {ellipsis !.. ) ) ) ) ) ) G (paren !( S (paren !( S (first !first [null G (withReducible !with_reducible S (refine' !refine' {app id_is [null {syntheticHole !? hqz ) ) ) ) ) ) ) G (withReducible !with_reducible S (refine' !refine' {app id_isn [null {syntheticHole !? hqz ) ) ) ) ) ) ) G (withReducible !with_reducible S (refine' !refine' {app iAppR.me [null {syntheticHole !? hqz ) ) ) ) ) ) ) ) ) ) !) ) !; (paren !( S (case !case [null (caseArg [Lean.binderIdent hqz ) [null ) ) ) !=> S A L iwX ) !, $0 ) ) ) ) !) ) ) !) ) ) G (paren !( S (paren !( S (first !first [null G (withReducible !with_reducible S (refine !refine {app id_mul [null {syntheticHole !? !_ ) ) ) ) ) ) ) G (withReducible !with_reducible S (refine !refine {app id_div [null {syntheticHole !? !_ ) ) ) ) ) ) ) G (withReducible !with_reducible S (refine !refine {app id_mod [null {syntheticHole !? !_ ) ) ) ) ) ) ) G (withReducible !with_reducible S (refine !refine {app id_pow [null {syntheticHole !? !_ ) ) ) ) ) ) ) ) ) ) !) ) !; (first !first [null G (decide !decide (optConfig [null ) ) ) ) G A L iwC ) !, $0 ) ) ) ) ) !) ) ) G (paren !( S (paren !( S (first !first [null G (withReducible !with_reducible S (refine !refine {app id_len [null {syntheticHole !? !_ ) ) ) ) ) ) ) G (withReducible !with_reducible S (refine !refine {app id_cat [null {syntheticHole !? !_ ) ) ) ) ) ) ) G (withReducible !with_reducible S (refine !refine {app id_as [null {syntheticHole !? !_ ) ) ) ) ) ) ) G (withReducible !with_reducible S (refine !refine {app id_ts [null {syntheticHole !? !_ ) ) ) ) ) ) ) ) ) ) !) ) !; A L iwB ) !, $0 ) ) !) ) ) ) )"),
  ("M", "(first !first [null G A L iwL ) !, $0 ) ) G A L iwC ) !, $0 ) ) G (paren !( S (paren !( S (refine' !refine' {app iEq.trans [null {namedArgument !( ib !:= {app isome [null {hole !_ ) ) ) !) ) {syntheticHole !? hqh ) {syntheticHole !? hqe ) ) ) ) ) !) ) !; (paren !( S (case !case [null (caseArg [Lean.binderIdent hqh ) [null ) ) ) !=> S A L iwL ) !, $0 ) ) ) ) !) ) !; (paren !( S (tacticTry_ !try S (withReducible !with_reducible S (tacticRfl !rfl ) ) ) ) ) ) !) ) ) !) ) ) G (paren !( S (tacticRepeat_ !repeat S A L iwS ) !, $0 ) ) ) ) !) ) ) ) )"),
  ("N", "(tacticRepeat_ !repeat S (paren !( S (first !first [null G (withReducible !with_reducible S (refine !refine {app is_cons [null {syntheticHole !? !_ ) ) ) ) ) ) ) G (withReducible !with_reducible S (refine !refine {app is_nil [null {syntheticHole !? !_ ) ) ) ) ) ) ) G A L iwS ) !, $0 ) ) ) ) ) !) ) ) )"),
  ("I", "(paren !( S (intros !intros [null ) ) !; (tacticRfl !rfl ) ) !) )"),
  ("K", "[PyProof.Rows.tacticKernel_rfl! !kernel_rfl! )"),
  ("G", "(first !first [null G (assumption !assumption ) ) G (paren !( S (refine !refine {app iGiv.g [null {syntheticHole !? !_ ) ) ) ) !; (assumption !assumption ) ) !) ) ) ) )"),
  ("Q", "(first !first [null G (withReducible !with_reducible S (exact !exact irc_str ) ) ) ) G (paren !( S (paren !( S (withReducible !with_reducible S (refine' !refine' {app irc_ref [null {syntheticHole !? hqz ) ) ) ) ) ) ) !) ) !; (paren !( S (case !case [null (caseArg [Lean.binderIdent hqz ) [null ) ) ) !=> S (first !first [null G A L iwC ) !, $0 ) ) G (paren !( S (exact !exact {app icont_end [null irfl ) ) ) ) !) ) ) G (paren !( S (tacticRfl !rfl ) ) !) ) ) ) ) ) ) ) !) ) ) !) ) ) ) )"),
  ("O", "(first !first [null G A L iwC ) !, $0 ) ) G (paren !( S (exact !exact {app icont_end [null irfl ) ) ) ) !) ) ) G (paren !( S (tacticRfl !rfl ) ) !) ) ) ) )"),
  ("E", "(first !first [null G A L iwC ) !, $0 ) ) G A L iwB ) !, $0 ) ) G (omega !omega (optConfig [null ) ) ) ) ) )"),
  ("H", "(first !first [null G (tacticTrivial !trivial ) ) G (paren !( S (intros !intros [null ) ) !; (tacticTrivial !trivial ) ) !) ) ) G (paren !( S (exact !exact {anonymousCtor !⟨ [null itrivial !, itrivial !, {app igetE_end [null {ellipsis !.. ) ) ) ) !⟩ ) ) ) !) ) ) G A L iwC ) !, $0 ) ) ) )"),
  ("J", "(first !first [null G (tacticRfl !rfl ) ) G A L iwC ) !, $0 ) ) ) )"),
  ("D", "(decide !decide (optConfig [null ) ) )"),
  ("U", "(omega !omega (optConfig [null ) ) )"),
  ("V", "(paren !( S (intro !intro [null {hole !_ ) {hole !_ ) ) ) !; (tacticRfl !rfl ) ) !) )"),
  ("Y", "(paren !( S (refine !refine {app iofs_ne [null {syntheticHole !? !_ ) ) ) ) !; (tacticRfl !rfl ) ) !) )"),
  ("Z", "(paren !( S (intros !intros [null ) ) !; [PyProof.Rows.tacticKernel_rfl! !kernel_rfl! ) ) !) )"),
  ("A", "(first !first [null G A L iwX ) !, $0 ) ) G (assumption !assumption ) ) ) )"),
  ("a", "A L iwX ) !, L ibt_list ) !, L ibt_str ) )"),
  ("b", "A L iwX ) !, L ibt_len ) !, L ibt_chr ) !, L ibt_range ) !, L ibt_list ) !, L ibt_str ) !, L ibt_sum ) )"),
  ("c", "A L iwX ) !, L {app {dotIdent !. ifn ) [null {hole !_ ) ) ) ) !, L {app {dotIdent !. ity ) [null {hole !_ ) ) ) ) )"),
  ("d", "A L iwX ) !, L imok_append ) !, L imok_find ) !, L imok_lstrip ) !, L imok_join ) !, L imok_insert ) !, L imok_extend ) !, L imok_pop ) )"),
  ("alt", "(withReducible !with_reducible S (refine' !refine' $0 ) ) )"),
  ("exa", "(withReducible !with_reducible S (exact !exact $0 ) ) )")]
def wRow : List String := [":kNeg kTl kSw2 kTs_nil kTs_one kI1 fk_brk fk_ret xx_next xx_ret xx_brk xx_cont", "P:kBin2 kC1 kCv kTr kMe2 kBl kSl3 kIt2 kAu kSt3 kNot kIs kAs2 kDe2 kAdd", "C:kIf_t kXa_t wt_t kAnd_t kOr_t kIfe_t kTi_t kAt if_t", "J:kCe", "C:kIf_f kXa_f wt_f kAnd_f kOr_f kIfe_f kTi_f if_f", "E:kRe kTu kLi kLt kJ", "H:fk_next fk_cont", "PP:kAs3", "PH:kFo", "PEH:kCo", "Q:kMe1", "O:kAp", "L:r_name", ":r_int r_bin l_nil", "T:r_str", "I:r_cmp t_cmp l_one l_cons", "IL:r_add", "GK:r_object", "aGKIK:r_isinstance", "bcGKI:r_blt", "AGKIU:r_fun", "TTDYII:r_replace", "dIIVI:r_meth", "I:r_attr r_item", "I:t_cmp2 r_cmp2", ":kCh1 kDh1 kTL2", "PC:kCh2_t kDh2_t", "PC:kCh2_f kDh2_f", ":r_tupTT", "I:r_tupT", "E:kTL kTT kTT2", "PC:kBa_t kBo_t", "PC:kBa_f kBo_f", ":r_band r_bor r_bone", "I:r_pairT0 r_pairT1", ":kPt0", "L:kPt1", ":r_slice r_tuple r_list r_not r_neg r_ife r_none r_bool r_joined t_not t_bool t_ife a_and a_or a_nilA a_nilO o_none o_some j_nil j_val i_nil i_one s_del s_if s_ret s_ret0 s_assert s_break s_cont s_pass", "I:t_whole", "TB:j_str", "K:bi_name", "KK:bi_tup2", "KKK:bi_tup3", "K:s_list", "IK:s_asgn", "IKIK:s_comp", "IK:s_asgnC", "IK:r_comp", "IZKK:s_swap2", "II:s_tup", "KL:s_aug", "GKI:s_zip", "I:s_for s_sub s_expr s_aug_sub", "PPHHE:kZi"]
def wGt (k : String) : String := ((wTab.find? fun x => x.1 == k).map (·.2)).getD ""
def wFs (fs : Array Lean.Syntax) : Array Lean.Syntax := fs.flatMap fun f => #[wLm f, wAt ","]
/-- a word of the walk with its facts -/
def wOf (w : String) (fs : Array Lean.Syntax) : Lean.Syntax := wWd (#[wLm (wId ("w" ++ w)), wAt ","] ++ wFs fs)
def wFi (a : Array Lean.Syntax) : Lean.Syntax := wNd "first" #[wAt "first", wNl (a.map fun t => .node .none `group #[wAt "|", wSq #[t]])]
def goW (ts : Array (Lean.TSyntax `term)) : Lean.MacroM Lean.Syntax := do
  let scp ← Lean.getCurrMacroScope
  let mn ← Lean.MonadQuotation.getMainModule
  let sc := fun n => Lean.addMacroScope mn n scp
  let w := String.ofList ((ts.getD 0 ⟨.missing⟩).raw.getId.toString.toList.drop 1)
  let fs := (ts.extract 1 ts.size).map (·.raw)
  if w == "X" then return wFi (fs.map fun f => unp sc #[f] (wGt "exa"))
  if w == "S" then return wFi ((List.range wRow.length).toArray.map fun i => wOf ("r" ++ toString i) fs)
  if w.toList.headD ' ' == 'r' then
    let row := (wRow.getD ((String.ofList (w.toList.drop 1)).toNat?.getD 0) "").splitOn ":"
    let sd := (row.getD 0 "").toList.toArray
    let hs := sd.mapIdx fun i _ => Lean.mkIdent (sc (.str .anonymous ("qh" ++ toString i)))
    let hole := fun (x : Lean.Syntax) => Lean.Syntax.node .none `Lean.Parser.Term.syntheticHole #[wAt "?", x]
    let alts := ((row.getD 1 "").splitOn " ").toArray.map fun n => unp sc #[.node .none `Lean.Parser.Term.app #[wId n, wNl (hs.map (fun h => hole h.raw) |>.push (hole (wAt "_")))]] (wGt "alt")
    if sd.size == 0 then return wFi alts
    let cs := (sd.zip hs).flatMap fun (c, h) => #[wAt ";", wNd "case" #[wAt "case", wNl #[wNd "caseArg" #[.node .none `Lean.binderIdent #[h.raw], wNl #[]]], wAt "=>", wSq #[wOf (String.ofList [c]) fs]]]
    return wNd "paren" #[wAt "(", wSq (#[wNd "paren" #[wAt "(", wSq #[wFi alts], wAt ")"]] ++ cs), wAt ")"]
  return unp sc (wFs fs) (wGt w)
end

local macro_rules | `(tactic| simp_arith [$[$ts:term],*]) => goW ts

section
open PySem PySem.W PyProof.Rows
set_option linter.unusedVariables false
set_option linter.unusedSimpArgs false
set_option maxRecDepth 100000
variable {G : GI} {n : Nat} {hp : Hp}
theorem is_ref_self (j : Nat) : IsR G hp (.ref j) (.ref j) true := isC fun H rx ry h => by
  obtain ⟨a, rfl, hm⟩ := rx
  obtain ⟨b, rfl, hm'⟩ := ry
  rw [hm] at hm'; cases hm'
  exact wpAny_isSame_ref_self h
theorem in_two {c a b : Nat} : CmpR G .In hp (.str [c]) (.tuple [.str [a], .str [b]]) (decide (c = a ∨ c = b)) := fun R H rx ry q => strE rx fun t => by
  obtain ⟨d, ws, ho, rs, _, _⟩ := tupAt ry
  obtain ⟨x, _, e, r0, y, _, rfl, r1, rfl⟩ := rs
  obtain ⟨t0, rfl⟩ := r0
  obtain ⟨t1, rfl⟩ := r1
  refine in_tuple_strs ⟨_, ho, rfl, 0, rfl⟩ (by rw [e]; exact .cons _ _ (.cons _ _ .nil)) ?_
  rwa [List.any_cons, List.any_cons, List.any_nil, beqS, beqS, show (decide ([a] = [c]) || (decide ([b] = [c]) || false)) = decide (c = a ∨ c = b) by simp [eq_comm]]
theorem ItR.to {x y r r' : PV} (a : ItR G hp x y r) (e : r = r') : ItR G hp x y r' := e ▸ a
theorem SlR.to {o x y r r' : PV} (a : SlR G hp o x y r) (e : r = r') : SlR G hp o x y r' := e ▸ a
theorem BltR.to {c : Value} {xs : List PV} {r r' : PV} (a : BltR G c hp xs r) (e : r = r') : BltR G c hp xs r' := e ▸ a
theorem StoR.to {o i x : PV} {h1 h2 : Hp} (a : StoR G hp o i x h1) (e : h1 = h2) : StoR G hp o i x h2 := e ▸ a
theorem DelR.to {o i : PV} {h1 h2 : Hp} (a : DelR G hp o i h1) (e : h1 = h2) : DelR G hp o i h2 := e ▸ a
theorem item_of {o r : PV} {vs : List PV} {i : Nat} (h : contents hp o = some vs) (hi : vs[i]? = some r) (hb : i ≤ 4100000) : ItR G hp o (.int i) r :=
  it_lst h (small_nat (big_ge hb)) (idx_nat (List.getElem?_eq_some_iff.mp hi).1) hi
theorem len_of {o : PV} {vs : List PV} {k : Nat} (h : contents hp o = some vs) (e : vs.length = k) (hb : k ≤ 4100000) : BltR G (.builtin "len") hp [o] (.int k) := e ▸ len_cont h (big_ge (e ▸ hb))
theorem join_of {o : PV} {xs : List (List Nat)} (h : contents hp o = some (xs.map .str)) (hb : xs.flatten.length ≤ 4100000) : MeR G "str.join" hp (.str []) [o] (.str xs.flatten) hp := joinL_nil xs ▸ meth_join h (big_ge ((joinL_nil xs).symm ▸ hb)) (Nat.zero_le _)
/-! escape, one sign -/
theorem c_escape (V : Giv G) (c : Nat) : CallW G n (Str.ofString "escape") [.str [c]] hp fun v h => v = .str (escC c) ∧ h = hp := by
  refine call_walk (fun _ => false) V.g V.po.nl (f_escape G G.w V.X V.g.gns) rfl ?_
  dsimp only [updL]
  ((first | with_reducible refine' stL_at ?hst ?_ | with_reducible refine' nx_next (stL_at ?hst ?_)); (case hst => exact rfl))
  have hi : IsaR G "str" hp (.str [c]) true := isa_str_str
  simp_arith [wN, hi]
  refine r_trans V.g V.po.map rfl (fun _ => rfl) rfl ?_
  simp_arith [wN]
  exact endC_same (frz_str) ⟨rfl, rfl⟩
/-! _join_translated_parts: none is a star -/
noncomputable def pvI (j : Nat) : Option (List Nat) → PV
  | none => .ref j
  | some t => .str t
noncomputable def leadI : List (Option (List Nat)) → List (List Nat)
  | some t :: r => t :: leadI r
  | _ => []
theorem leadI_le : ∀ l : List (Option (List Nat)), (leadI l).length ≤ l.length
  | [] => by simp [leadI]
  | some t :: r => by simp [leadI]; exact leadI_le r
  | none :: r => by simp [leadI]
noncomputable def jrI : List (Option (List Nat)) → List (List Nat)
  | none :: r => if r.isEmpty then [[46, 42]] else
      let f := (leadI r).flatten
      let r' := r.drop (leadI r).length
      if r'.isEmpty then [[46, 42], f] else ([40, 63, 62, 46, 42, 63] ++ f ++ [41]) :: jrI r'
  | _ => []
termination_by l => l.length
decreasing_by simp; omega
noncomputable def joinI (l : List (Option (List Nat))) : List Nat := [40, 63, 115, 58] ++ (leadI l ++ jrI (l.drop (leadI l).length)).flatten ++ [41, 92, 90]
/-- no two stars side by side -/
noncomputable def noDbl : List (Option (List Nat)) → Bool
  | none :: none :: _ => false
  | _ :: r => noDbl r
  | [] => true
/-- all signs together -/
noncomputable def sumI (l : List (Option (List Nat))) : Nat := (l.map fun o => match o with | some t => t.length | none => 0).sum
theorem isV_pv (h : Hp) (j : Nat) (o : Option (List Nat)) : IsR G h (pvI j o) (.ref j) o.isNone := by
  cases o
  · exact is_ref_self j
  · exact is_str_ref _ _
theorem leadI_drop : ∀ (l : List (Option (List Nat))) (t : List Nat) (a : Nat) (ha : a < l.length), l[a] = some t → leadI (l.drop a) = t :: leadI (l.drop (a + 1)) := by
  intro l t a ha e
  rw [List.drop_eq_getElem_cons ha, e, leadI]
theorem leadI_stop {l : List (Option (List Nat))} {a : Nat} (h : l.length ≤ a ∨ ∃ ha : a < l.length, l[a] = none) : leadI (l.drop a) = [] := by
  rcases h with h | ⟨ha, e⟩
  · rw [List.drop_eq_nil_of_le h]; rfl
  · rw [List.drop_eq_getElem_cons ha, e]; rfl
theorem sumI_cons (o : Option (List Nat)) (l : List (Option (List Nat))) : sumI (o :: l) = (match o with | some t => t.length | none => 0) + sumI l := by simp [sumI]
theorem lead_sum : ∀ l : List (Option (List Nat)), (leadI l).flatten.length + sumI (l.drop (leadI l).length) = sumI l
  | [] => by simp [leadI]
  | some t :: r => by
      have := lead_sum r
      simp only [leadI, List.flatten_cons, List.length_append, List.length_cons, List.drop_succ_cons, sumI_cons]; omega
  | none :: r => by simp [leadI]
theorem jr_len (l : List (Option (List Nat))) : (jrI l).length ≤ 2 * l.length ∧ (jrI l).flatten.length ≤ sumI l + 10 * l.length := by
  fun_induction jrI l with
  | case1 r h => simp [sumI_cons]; omega
  | case2 r h f r' h' =>
    have := lead_sum r
    simp only [sumI_cons, List.length_cons, List.length_nil, List.flatten_cons, List.length_append, List.flatten_nil]
    have hf : f = (leadI r).flatten := rfl
    cases r with
    | nil => simp at h
    | cons x r => simp only [List.length_cons]; rw [hf]; omega
  | case3 r h f r' h' ih =>
    have := lead_sum r
    have hf : f = (leadI r).flatten := rfl
    have hr : r' = r.drop (leadI r).length := rfl
    have hl : r'.length ≤ r.length := by rw [hr]; simp
    simp only [sumI_cons, List.length_cons, List.length_nil, List.flatten_cons, List.length_append]
    rw [← hr, ← hf] at this
    omega
  | case4 l h => simp
theorem jr_last {its : List (Option (List Nat))} {a : Nat} (ha : a < its.length) (e : its[a] = none) (h : a + 1 = its.length) : jrI (its.drop a) = [[46, 42]] := by
  rw [List.drop_eq_getElem_cons ha, e, List.drop_eq_nil_of_le (by omega), jrI]; rfl
theorem jr_step {its : List (Option (List Nat))} {a : Nat} (ha : a < its.length) (e : its[a] = none) (h : a + 1 < its.length) :
    jrI (its.drop a) = if a + 1 + (leadI (its.drop (a + 1))).length = its.length then [[46, 42], (leadI (its.drop (a + 1))).flatten] else ([40, 63, 62, 46, 42, 63] ++ (leadI (its.drop (a + 1))).flatten ++ [41]) :: jrI (its.drop (a + 1 + (leadI (its.drop (a + 1))).length)) := by
  have h1 : (its.drop (a + 1)).isEmpty = false := by simp; omega
  have hle := leadI_le (its.drop (a + 1))
  rw [List.length_drop] at hle
  rw [List.drop_eq_getElem_cons ha, e, jrI, h1]
  simp only [Bool.false_eq_true, if_false, List.drop_drop, List.isEmpty_iff, List.drop_eq_nil_iff]
  by_cases q : a + 1 + (leadI (its.drop (a + 1))).length = its.length
  · rw [if_pos q, if_pos (by omega)]
  · rw [if_neg q, if_neg (by omega)]
theorem nd_lead : ∀ {l : List (Option (List Nat))}, noDbl l = noDbl (l.drop (leadI l).length)
  | [] => rfl
  | none :: _ => rfl
  | some t :: r => by simpa [leadI, noDbl] using nd_lead (l := r)
theorem nd_two {l : List (Option (List Nat))} {a : Nat} (ha : a + 1 < l.length) (e : l[a] = none) (e1 : l[a + 1] = none) : noDbl (l.drop a) = false := by
  rw [List.drop_eq_getElem_cons (by omega), e, List.drop_eq_getElem_cons ha, e1]; rfl
theorem nd_star {l : List (Option (List Nat))} {a : Nat} {t : List Nat} (ha : a + 1 < l.length) (e : l[a] = none) (e1 : l[a + 1] = some t) : noDbl (l.drop a) = noDbl (l.drop (a + 1)) := by
  rw [List.drop_eq_getElem_cons (by omega), e, List.drop_eq_getElem_cons ha, e1]; rfl
theorem jr_tot {its : List (Option (List Nat))} (hb : its.length ≤ 100000) (hs : sumI its ≤ 3000000) {acc rest : List (List Nat)} (e : leadI its ++ jrI (its.drop (leadI its).length) = acc ++ rest) : acc.length < 1000000 ∧ acc.flatten.length ≤ 4000000 := by
  have h1 := lead_sum its
  have h2 := jr_len (its.drop (leadI its).length)
  have h3 := leadI_le its
  rw [List.length_drop] at h2
  have h4 : (jrI (its.drop (leadI its).length)).length ≤ 2 * its.length := Nat.le_trans h2.1 (Nat.mul_le_mul_left 2 (Nat.sub_le _ _))
  have h5 : (jrI (its.drop (leadI its).length)).flatten.length ≤ sumI (its.drop (leadI its).length) + 10 * its.length := Nat.le_trans h2.2 (Nat.add_le_add_left (Nat.mul_le_mul_left 10 (Nat.sub_le _ _)) _)
  clear h2
  have e1 := congrArg List.length e
  have e2 := congrArg (fun l => l.flatten.length) e
  simp only [List.flatten_append, List.length_append] at e1 e2
  omega
noncomputable abbrev Kj : Cfg := ⟨scopeAt prog 9, fun _ => false⟩
noncomputable abbrev Ej (G : GI) (hp : Hp) (its : List (Option (List Nat))) : Fl → Loc → Hp → Prop := EndC G hp fun v h => v = .str (joinI its) ∧ h = hp
theorem join_fin (its : List (Option (List Nat))) (hb : its.length ≤ 100000) (hs : sumI its ≤ 3000000) (l : Loc) (t : Hp) (l3 : l (Str.ofString "res") = some (.ref hp.length)) (l5 : l (Str.ofString "i") = some (.int its.length)) (l6 : l (Str.ofString "n") = some (.int its.length)) :
    stL G n Kj ((bodyAt prog 9).drop 5) l (hp ++ .list ((leadI its ++ jrI (its.drop (leadI its).length)).map .str) :: t) (Ej G hp its) := by
  have hp1 := jr_tot hb hs (List.append_nil _).symm
  have ej : joinI its = [40, 63, 115, 58] ++ (leadI its ++ jrI (its.drop (leadI its).length)).flatten ++ [41, 92, 90] := rfl
  unfold Ej
  rw [ej]
  generalize leadI its ++ jrI (its.drop (leadI its).length) = T at hp1
  ((first | with_reducible refine' stL_at ?hst ?_ | with_reducible refine' nx_next (stL_at ?hst ?_)); (case hst => exact rfl))
  simp_arith [wN, l5, l6]
  ((first | with_reducible refine' stL_at ?hst ?_ | with_reducible refine' nx_next (stL_at ?hst ?_)); (case hst => exact rfl))
  have e1 : MeR G "str.join" (hp ++ .list (T.map .str) :: t) (.str []) [.ref hp.length] (.str T.flatten) (hp ++ .list (T.map .str) :: t) := by
    exact join_of (cont_end rfl) (by omega)
  simp_arith [wN, l3, e1]
  ((first | with_reducible refine' stL_at ?hst ?_ | with_reducible refine' nx_next (stL_at ?hst ?_)); (case hst => exact rfl))
  simp_arith [wN, l3, e1]
  exact endC_of (frz_str) ⟨rfl, rfl⟩
noncomputable def Bj : List Stmt := subB (bodyAt prog 9) 4
/-- the run behind a star -/
theorem join_run (its : List (Option (List Nat))) (inp : PV) (j : Nat) (hc : contents hp inp = some (its.map (pvI j))) (hb : its.length ≤ 100000)
    (l : Loc) (b0 : Nat) (hb0 : b0 ≤ its.length) (X : List PV) (t : Hp) (Q : Fl → Loc → Hp → Prop)
    (l1 : l (Str.ofString "inp") = some inp) (l2 : l (Str.ofString "STAR") = some (.ref j)) (l3 : l (Str.ofString "res") = some (.ref hp.length)) (l4 : l (Str.ofString "add") = some (.app hp.length))
    (l5 : l (Str.ofString "i") = some (.int b0)) (l6 : l (Str.ofString "n") = some (.int its.length)) (l7 : l (Str.ofString "fixed") = some (.ref (hp ++ .list X :: t).length))
    (hq : ∀ l' : Loc, l' (Str.ofString "inp") = some inp → l' (Str.ofString "STAR") = some (.ref j) → l' (Str.ofString "res") = some (.ref hp.length) → l' (Str.ofString "add") = some (.app hp.length) →
      l' (Str.ofString "i") = some (.int (b0 + (leadI (its.drop b0)).length : Nat)) → l' (Str.ofString "n") = some (.int its.length) → l' (Str.ofString "fixed") = some (.ref (hp ++ .list X :: t).length) →
      stL G n Kj (Bj.drop 6) l' (hp ++ .list X :: t ++ [.list ((leadI (its.drop b0)).map .str)]) Q) : stL G n Kj (Bj.drop 5) l (hp ++ .list X :: t ++ [.list []]) Q := by
  ((first | with_reducible refine' stL_at ?hst ?_ | with_reducible refine' nx_next (stL_at ?hst ?_)); (case hst => exact rfl))
  refine s_while ?_
  refine whileW_of (fun m l h => ∃ a : Nat, a ≤ its.length ∧ m = its.length - a ∧ l (Str.ofString "inp") = some inp ∧ l (Str.ofString "STAR") = some (.ref j) ∧ l (Str.ofString "res") = some (.ref hp.length) ∧ l (Str.ofString "add") = some (.app hp.length) ∧
    l (Str.ofString "i") = some (.int a) ∧ l (Str.ofString "n") = some (.int its.length) ∧ l (Str.ofString "fixed") = some (.ref (hp ++ .list X :: t).length) ∧ ∃ acc : List (List Nat), h = hp ++ .list X :: t ++ [.list (acc.map .str)] ∧ a = b0 + acc.length ∧ leadI (its.drop b0) = acc ++ leadI (its.drop a)) ?_
    (m := its.length - b0) ⟨b0, hb0, rfl, l1, l2, l3, l4, l5, l6, l7, [], rfl, rfl, rfl⟩
  clear l1 l2 l3 l4 l5 l6 l7 l
  rintro I m l h hI ⟨a, ha, rfl, l1, l2, l3, l4, l5, l6, l7, acc, rfl, hacc, hlead⟩
  have out : leadI (its.drop a) = [] → stL G n Kj (Bj.drop 6) l (hp ++ .list X :: t ++ [.list (acc.map .str)]) Q := fun e => by
    rw [e, List.append_nil] at hlead
    have := hq l l1 l2 l3 l4 (by rw [hlead, ← hacc]; exact l5) l6 l7
    rwa [hlead] at this
  by_cases hlt : a < its.length
  · have q1 : ((a : Int) < (its.length : Int)) = True := by simp; omega
    have hi : ItR G (hp ++ .list X :: t ++ [.list (acc.map .str)]) inp (.int (a : Int)) (pvI j its[a]) := by
      rw [List.append_assoc]; exact item_of (contents_app hc) (by simp [hlt]) (by omega)
    cases e : its[a] with
    | none =>
      rw [e] at hi
      simp_arith [wN, l1, l2, l3, l4, l5, l6, l7, q1, hi, isV_pv _ _ _, isV_pv _ _ _]
      exact out (leadI_stop (.inr ⟨hlt, e⟩))
    | some x =>
      rw [e] at hi
      have hm : AppR (hp ++ .list X :: t ++ [.list (acc.map .str)]) (hp ++ .list X :: t).length (pvI j (some x)) (hp ++ .list X :: t ++ [.list ((acc ++ [x]).map .str)]) := by
        exact (meth_end rfl (by rw [List.length_map]; exact big_gt (by omega))).to (by simp [pvI])
      have hcon : contents (hp ++ .list X :: t ++ [.list (acc.map .str)]) (.ref (hp ++ .list X :: t).length) = some _ := cont_end rfl
      simp_arith [wN, l1, l2, l3, l4, l5, l6, l7, q1, hi, isV_pv _ _ _, isV_pv _ _ _, hm, hcon]
      refine hI _ _ _ ?_ ⟨a + 1, hlt, rfl, ?_, ?_, ?_, ?_, ?_, ?_, ?_, acc ++ [x], rfl, ?_, ?_⟩
      all_goals (try simp_arith [wM, l1, l2, l3, l4, l5, l6, l7])
      · omega
      · simp
      · simp; omega
      · rw [hlead, leadI_drop _ _ _ hlt e]; simp
  · have q1 : ((a : Int) < (its.length : Int)) = False := by simp; omega
    simp_arith [wN, l1, l2, l3, l4, l5, l6, l7, q1]
    exact out (leadI_stop (.inl (by omega)))
/-- one star and what is behind it -/
theorem join_mid (its : List (Option (List Nat))) (hd : noDbl its = true) (inp : PV) (j : Nat) (hc : contents hp inp = some (its.map (pvI j))) (hb : its.length ≤ 100000) (hs : sumI its ≤ 3000000)
    (l : Loc) (l1 : l (Str.ofString "inp") = some inp) (l2 : l (Str.ofString "STAR") = some (.ref j)) (l3 : l (Str.ofString "res") = some (.ref hp.length)) (l4 : l (Str.ofString "add") = some (.app hp.length))
    (l5 : l (Str.ofString "i") = some (.int (leadI its).length)) (l6 : l (Str.ofString "n") = some (.int its.length)) :
    stL G n Kj ((bodyAt prog 9).drop 4) l (hp ++ [.list ((leadI its).map .str)]) (Ej G hp its) := by
  have hlead : ∀ (l : List (Option (List Nat))) (ha : (leadI l).length < l.length), l[(leadI l).length] = none := by
    intro l
    induction l with
    | nil => intro ha; simp at ha
    | cons o r ih => cases o with
      | none => intro ha; simp [leadI]
      | some t => intro ha; simp only [leadI, List.length_cons, List.getElem_cons_succ]; exact ih (by simpa [leadI] using ha)
  ((first | with_reducible refine' stL_at ?hst ?_ | with_reducible refine' nx_next (stL_at ?hst ?_)); (case hst => exact rfl))
  refine s_while ?_
  refine whileW_of (fun m l h => ∃ a : Nat, a ≤ its.length ∧ m = its.length - a ∧ l (Str.ofString "inp") = some inp ∧ l (Str.ofString "STAR") = some (.ref j) ∧ l (Str.ofString "res") = some (.ref hp.length) ∧ l (Str.ofString "add") = some (.app hp.length) ∧
    l (Str.ofString "i") = some (.int a) ∧ l (Str.ofString "n") = some (.int its.length) ∧ noDbl its = noDbl (its.drop a) ∧ (∀ ha : a < its.length, its[a] = none) ∧ ∃ (acc : List (List Nat)) (t : Hp), h = hp ++ .list (acc.map .str) :: t ∧ leadI its ++ jrI (its.drop (leadI its).length) = acc ++ jrI (its.drop a)) ?_
    (m := its.length - (leadI its).length) ⟨(leadI its).length, leadI_le its, rfl, l1, l2, l3, l4, l5, l6, nd_lead, hlead its, leadI its, [], rfl, rfl⟩
  clear l1 l2 l3 l4 l5 l6 l
  rintro I m l h hI ⟨a, ha, rfl, l1, l2, l3, l4, l5, l6, hnd, hst, acc, t, rfl, hacc⟩
  have hbd := jr_tot hb hs hacc
  by_cases hlt : a < its.length
  · have q1 : ((a : Int) < (its.length : Int)) = True := by simp; omega
    have e := hst hlt
    have hi : ItR G (hp ++ .list (acc.map .str) :: t) inp (.int (a : Int)) (pvI j none) := by
      exact item_of (contents_app hc) (by simp [hlt, e]) (by omega)
    simp_arith [wM, l1, l2, l3, l4, l5, l6, q1]
    show stL G n Kj (Bj.drop 0) l _ _
    ((first | with_reducible refine' stL_at ?hst ?_ | with_reducible refine' nx_next (stL_at ?hst ?_)); (case hst => exact rfl))
    simp_arith [wN, l1, l2, l3, l4, l5, l6, hi, isV_pv _ _ _, isV_pv _ _ _]
    ((first | with_reducible refine' stL_at ?hst ?_ | with_reducible refine' nx_next (stL_at ?hst ?_)); (case hst => exact rfl))
    simp_arith [wN, l5]
    by_cases hlast : a + 1 = its.length
    · have q2 : ((a : Int) + 1 = (its.length : Int)) = True := by simp; omega
      have hm : AppR (hp ++ .list (acc.map .str) :: t) hp.length (.str [46, 42]) (hp ++ .list ((acc ++ [[46, 42]]).map .str) :: t) := by
        exact (meth_end rfl (by rw [List.length_map]; exact big_gt (by omega))).to (by simp)
      ((first | with_reducible refine' stL_at ?hst ?_ | with_reducible refine' nx_next (stL_at ?hst ?_)); (case hst => exact rfl))
      simp_arith [wN, l4, l6, q2, hm]
      rw [jr_last hlt e hlast] at hacc
      rw [← hacc]
      refine join_fin its hb hs _ t ?_ ?_ ?_ <;> simp_arith [wM, l3, l6]
      rw [← hlast]; simp
    · have q2 : ((a : Int) + 1 = (its.length : Int)) = False := by simp; omega
      have hlt1 : a + 1 < its.length := by omega
      have hi1 : ItR G (hp ++ .list (acc.map .str) :: t) inp (.int ((a : Int) + 1)) (pvI j its[a + 1]) := by
        exact item_of (i := a + 1) (contents_app hc) (by simp [hlt1]) (by omega)
      ((first | with_reducible refine' stL_at ?hst ?_ | with_reducible refine' nx_next (stL_at ?hst ?_)); (case hst => exact rfl))
      simp_arith [wN, l4, l6, q2]
      ((first | with_reducible refine' stL_at ?hst ?_ | with_reducible refine' nx_next (stL_at ?hst ?_)); (case hst => exact rfl))
      cases hx : its[a + 1] with
      | none =>
        rw [hx] at hi1
        rw [hd] at hnd
        exact absurd hnd.symm (by rw [nd_two hlt1 e hx]; exact Bool.false_ne_true)
      | some x =>
      rw [hx] at hi1
      simp_arith [wN, l1, l2, hi1, isV_pv _ _ _]
      ((first | with_reducible refine' stL_at ?hst ?_ | with_reducible refine' nx_next (stL_at ?hst ?_)); (case hst => exact rfl))
      simp_arith [wN]
      refine join_run its inp j hc hb _ (a + 1) (Nat.le_of_lt hlt1) _ t _ ?_ ?_ ?_ ?_ ?_ ?_ ?_ ?_
      all_goals (try (simp_arith [wM, l1, l2, l3, l4, l5, l6]; done))
      · simp_arith [wM]; simp
      · clear l1 l2 l3 l4 l5 l6 q1 q2 hi hi1 l
        intro l l1 l2 l3 l4 l5 l6 l7
        have hF := lead_sum (its.drop (a + 1))
        have hFl := leadI_le (its.drop (a + 1))
        rw [List.length_drop] at hFl
        rw [jr_step hlt e hlt1] at hacc
        generalize hb' : a + 1 + (leadI (its.drop (a + 1))).length = b at hacc l5
        have hndb : noDbl its = noDbl (its.drop b) := by rw [hnd, nd_star hlt1 e hx, nd_lead, List.drop_drop, hb']
        have hst' : ∀ hb : b < its.length, its[b] = none := fun hbl => by
          have := hlead (its.drop (a + 1)) (by rw [List.length_drop]; omega)
          rw [List.getElem_drop] at this
          subst hb'; exact this
        have hbd2 : (leadI (its.drop (a + 1))).flatten.length ≤ 4000000 := by
          by_cases q : b = its.length
          · rw [if_pos q, show acc ++ [[46, 42], (leadI (its.drop (a + 1))).flatten] = (acc ++ [[46, 42], (leadI (its.drop (a + 1))).flatten]) ++ [] by simp] at hacc
            have := (jr_tot hb hs hacc).2
            simp only [List.flatten_append, List.flatten_cons, List.length_append] at this; omega
          · rw [if_neg q, show ∀ (x : List Nat) (y : List (List Nat)), acc ++ (x :: y) = (acc ++ [x]) ++ y by simp] at hacc
            have := (jr_tot hb hs hacc).2
            simp only [List.flatten_append, List.flatten_cons, List.length_append] at this; omega
        generalize leadI (its.drop (a + 1)) = F at *
        rw [show hp ++ .list (acc.map .str) :: t ++ [.list (F.map .str)] = hp ++ .list (acc.map .str) :: (t ++ [.list (F.map .str)]) by simp]
        have hj : MeR G "str.join" (hp ++ .list (acc.map .str) :: (t ++ [.list (F.map .str)])) (.str []) [.ref (hp ++ .list (acc.map .str) :: t).length] (.str F.flatten) (hp ++ .list (acc.map .str) :: (t ++ [.list (F.map .str)])) := by
          refine join_of ?_ (by omega)
          rw [show hp ++ .list (acc.map .str) :: (t ++ [.list (F.map .str)]) = (hp ++ .list (acc.map .str) :: t) ++ .list (F.map .str) :: [] by simp]
          exact cont_end rfl
        have hm : ∀ (A : List (List Nat)) (x : List Nat) (T : Hp), A.length ≤ 2000000 → AppR (hp ++ .list (A.map .str) :: T) hp.length (.str x) (hp ++ .list ((A ++ [x]).map .str) :: T) := fun A x T hA => by
          exact (meth_end rfl (by rw [List.length_map]; exact big_gt (by omega))).to (by simp)
        ((first | with_reducible refine' stL_at ?hst ?_ | with_reducible refine' nx_next (stL_at ?hst ?_)); (case hst => exact rfl))
        simp_arith [wN, l7, hj]
        by_cases hlast : b = its.length
        · have q2 : ((b : Int) = (its.length : Int)) = True := by simp; omega
          rw [if_pos hlast] at hacc
          ((first | with_reducible refine' stL_at ?hst ?_ | with_reducible refine' nx_next (stL_at ?hst ?_)); (case hst => exact rfl))
          simp_arith [wN, l4, l5, l6, q2, hm acc _ _ (by omega)]
          simp_arith [wN, l4, l5, l6, q2, hm (acc ++ [[46, 42]]) _ _ (by simp; omega)]
          refine stL_end (by decide) ?_
          refine hI _ _ _ ?_ ⟨its.length, Nat.le_refl _, rfl, ?_, ?_, ?_, ?_, ?_, ?_, hlast ▸ hndb, fun h => absurd h (by omega), acc ++ [[46, 42], F.flatten], t ++ [.list (F.map .str)], ?_, ?_⟩
          all_goals (try (simp_arith [wM, l1, l2, l3, l4, l5, l6]; done))
          · omega
          · simp_arith [wM, l5]
            rw [hlast]
          · simp
          · have e0 : jrI (its.drop its.length) = [] := by rw [List.drop_length]; simp [jrI]
            rw [hacc, e0, List.append_nil]
        · have q2 : ((b : Int) = (its.length : Int)) = False := by simp; omega
          rw [if_neg hlast] at hacc
          ((first | with_reducible refine' stL_at ?hst ?_ | with_reducible refine' nx_next (stL_at ?hst ?_)); (case hst => exact rfl))
          simp_arith [wN, l4, l5, l6, q2, hm acc _ _ (by omega)]
          refine stL_end (by decide) ?_
          refine hI _ _ _ ?_ ⟨b, by omega, rfl, ?_, ?_, ?_, ?_, ?_, ?_, hndb, hst', acc ++ [40 :: 63 :: 62 :: 46 :: 42 :: 63 :: (F.flatten ++ [41])], t ++ [.list (F.map .str)], rfl, ?_⟩
          all_goals (try (simp_arith [wM, l1, l2, l3, l4, l5, l6]; done))
          · omega
          · rw [hacc]; simp
  · have q1 : ((a : Int) < (its.length : Int)) = False := by simp; omega
    simp_arith [wN, l1, l2, l3, l4, l5, l6, q1]
    have ea : a = its.length := by omega
    subst ea
    have e0 : jrI (its.drop its.length) = [] := by rw [List.drop_length]; simp [jrI]
    rw [e0, List.append_nil] at hacc
    rw [← hacc]
    exact join_fin its hb hs _ t l3 l5 l6
theorem c_join (V : Giv G) (inp : PV) (j : Nat) (its : List (Option (List Nat))) (hc : contents hp inp = some (its.map (pvI j))) (hd : noDbl its = true) (hb : its.length ≤ 100000) (hs : sumI its ≤ 3000000) :
    CallW G n (Str.ofString "_join_translated_parts") [inp, .ref j] hp fun v h => v = .str (joinI its) ∧ h = hp := by
  refine call_walk (fun _ => false) V.g V.po.nl (f_join G G.w V.X V.g.gns) rfl ?_
  dsimp only [updL]
  have hlen : ∀ t, BltR G (.builtin "len") (hp ++ t) [inp] (.int its.length) := fun t => by
    exact len_of (contents_app hc) (by simp) (by omega)
  ((first | with_reducible refine' stL_at ?hst ?_ | with_reducible refine' nx_next (stL_at ?hst ?_)); (case hst => exact rfl))
  simp_arith [wN]
  ((first | with_reducible refine' stL_at ?hst ?_ | with_reducible refine' nx_next (stL_at ?hst ?_)); (case hst => exact rfl))
  simp_arith [wN]
  ((first | with_reducible refine' stL_at ?hst ?_ | with_reducible refine' nx_next (stL_at ?hst ?_)); (case hst => exact rfl))
  simp_arith [wN, hlen _]
  ((first | with_reducible refine' stL_at ?hst ?_ | with_reducible refine' nx_next (stL_at ?hst ?_)); (case hst => exact rfl))
  refine s_while ?_
  refine whileW_of (fun m l h => ∃ a : Nat, a ≤ its.length ∧ m = its.length - a ∧ l (Str.ofString "inp") = some inp ∧ l (Str.ofString "STAR") = some (.ref j) ∧ l (Str.ofString "res") = some (.ref hp.length) ∧ l (Str.ofString "add") = some (.app hp.length) ∧
    l (Str.ofString "i") = some (.int a) ∧ l (Str.ofString "n") = some (.int its.length) ∧ ∃ acc : List (List Nat), h = hp ++ [.list (acc.map .str)] ∧ acc.length = a ∧ leadI its = acc ++ leadI (its.drop a)) ?_ (m := its.length) ⟨0, by simp, by simp, rfl, rfl, rfl, rfl, rfl, rfl, [], rfl, rfl, rfl⟩
  rintro I m l h hI ⟨a, ha, rfl, l1, l2, l3, l4, l5, l6, acc, rfl, hacc, hlead⟩
  have out : leadI (its.drop a) = [] → stL G n Kj ((bodyAt prog 9).drop 4) l (hp ++ [.list (acc.map .str)]) (Ej G hp its) := fun e => by
    rw [e, List.append_nil] at hlead
    rw [← hlead]
    exact join_mid its hd inp j hc hb hs l l1 l2 l3 l4 (by rw [hlead, hacc]; exact l5) l6
  by_cases hlt : a < its.length
  · have q1 : ((a : Int) < (its.length : Int)) = True := by simp; omega
    have hi : ItR G (hp ++ [.list (acc.map .str)]) inp (.int (a : Int)) (pvI j its[a]) := item_of (contents_app hc) (by simp [hlt]) (by omega)
    cases e : its[a] with
    | none =>
      rw [e] at hi
      simp_arith [wN, l1, l2, l3, l4, l5, l6, q1, hi, isV_pv _ _ _, isV_pv _ _ _]
      exact out (leadI_stop (.inr ⟨hlt, e⟩))
    | some x =>
      rw [e] at hi
      have hm : AppR (hp ++ [.list (acc.map .str)]) hp.length (pvI j (some x)) (hp ++ [.list ((acc ++ [x]).map .str)]) := by
        exact (meth_end rfl (by rw [List.length_map]; exact big_gt (by omega))).to (by simp [pvI])
      simp_arith [wN, l1, l2, l3, l4, l5, l6, q1, hi, isV_pv _ _ _, isV_pv _ _ _, hm]
      refine hI _ _ _ ?_ ⟨a + 1, hlt, rfl, ?_, ?_, ?_, ?_, ?_, ?_, acc ++ [x], rfl, ?_, ?_⟩
      all_goals (try (simp_arith [wM, l1, l2, l3, l4, l5, l6]; done))
      · omega
      · simp_arith [wM]; simp
      · simp; omega
      · rw [hlead, leadI_drop _ _ _ hlt e]; simp
  · have q1 : ((a : Int) < (its.length : Int)) = False := by simp; omega
    simp_arith [wN, l1, l2, l3, l4, l5, l6, q1]
    exact out (leadI_stop (.inl (by omega)))
end

section
open PySem PySem.W PyProof.Rows
set_option linter.unusedVariables false
set_option maxRecDepth 100000
/-! _translate in plain words -/
/-- where the search for a bracket's end begins -/
noncomputable def skipB (r : List Nat) : Nat :=
  let a := if r.head? = some 33 then 1 else 0
  if r[a]? = some 93 then a + 1 else a
noncomputable def endB (r : List Nat) : Nat := skipB r + ((r.drop (skipB r)).takeWhile (fun c => c != 93)).length
/-- the runs between the hyphens that stand for a range -/
noncomputable def cuts (s : List Nat) (i k : Nat) : List (List Nat) × Nat := match h : (s.drop k).findIdx? (· == 45) with
  | none => ([], i)
  | some d => let r := cuts s (k + d + 1) (k + d + 3); ((s.take (k + d)).drop i :: r.1, r.2)
termination_by s.length - k
decreasing_by
  have := (List.findIdx?_eq_some_iff_getElem.mp h).1
  rw [List.length_drop] at this
  have hd := Nat.add_lt_of_lt_sub' this
  exact Nat.sub_lt_sub_left (Nat.lt_of_le_of_lt (Nat.le_add_right ..) hd) (Nat.lt_of_lt_of_le (Nat.lt_succ_of_le (Nat.le_add_right k d)) (Nat.le_add_right (k + d + 1) 2))
noncomputable def chunks0 (s : List Nat) (k : Nat) : List (List Nat) :=
  let r := cuts s 0 k
  if (s.drop r.2).isEmpty then r.1.dropLast ++ [r.1.getLastD [] ++ [45]] else r.1 ++ [s.drop r.2]
/-- ranges that go down are dropped, from the right -/
noncomputable def mergeR : List (List Nat) → List (List Nat)
  | [] => []
  | x :: r => match mergeR r with
    | [] => [x]
    | y :: ys => if y.headD 0 < x.getLastD 0 then (x.dropLast ++ y.tail) :: ys else x :: y :: ys
noncomputable def stuffB (s : List Nat) : List Nat :=
  twS (if s.contains 45 then joinL [45] ((mergeR (chunks0 s (if s.head? = some 33 then 2 else 1))).map chunkS) else replC s 92 [92, 92])
noncomputable def brkU (u : List Nat) : List Nat :=
  if u.isEmpty then [40, 63, 33, 41] else if u = [33] then [46] else
    [91] ++ (if u.head? = some 33 then 94 :: u.tail else if u.head? = some 94 ∨ u.head? = some 91 then 92 :: u else u) ++ [93]
noncomputable def brkT (s : List Nat) : List Nat := brkU (stuffB s)
noncomputable def isSt (j : Nat) : PV → Bool
  | .ref k => k == j
  | _ => false
noncomputable def addSt (j : Nat) (acc : List PV) : List PV := match acc.getLast? with
  | some v => if isSt j v then acc else acc ++ [.ref j]
  | none => acc ++ [.ref j]
noncomputable def trP (j : Nat) (mk : PV) : List Nat → List PV → List PV
  | [], acc => acc
  | c :: r, acc =>
    if c = 42 then trP j mk r (addSt j acc)
    else if c = 63 then trP j mk r (acc ++ [mk])
    else if c = 91 then
      if r.length ≤ endB r then trP j mk r (acc ++ [.str [92, 91]])
      else trP j mk (r.drop (endB r + 1)) (acc ++ [.str (brkT (r.take (endB r)))])
    else trP j mk r (acc ++ [.str (escC c)])
termination_by r => r.length
decreasing_by
  all_goals simp only [List.length_cons, List.length_drop]
  all_goals first | exact Nat.lt_succ_self _ | exact Nat.lt_succ_of_le (Nat.sub_le _ _)
theorem skipB_le (r : List Nat) : skipB r ≤ r.length := by
  unfold skipB
  simp only []
  have h0 : (if r.head? = some 33 then 1 else 0) ≤ r.length := by
    split
    · cases r <;> simp_all
    · omega
  generalize (if r.head? = some 33 then 1 else 0) = a at h0
  split
  · rename_i h; have := (List.getElem?_eq_some_iff.mp h).1; omega
  · exact h0
theorem endB_le (r : List Nat) : endB r ≤ r.length := by
  unfold endB
  have h1 := skipB_le r
  have h2 := (List.takeWhile_prefix (fun c => c != 93) (l := r.drop (skipB r))).length_le
  rw [List.length_drop] at h2
  exact Nat.le_trans (Nat.add_le_add_left h2 _) (Nat.le_of_eq (Nat.add_sub_cancel' h1))
theorem cuts_len (s : List Nat) (i k : Nat) (hi : i ≤ s.length) (hk : i ≤ k) : (cuts s i k).2 ≤ s.length ∧ (cuts s i k).1.length + i ≤ s.length ∧ ((cuts s i k).1 = [] → (cuts s i k).2 = i) := by
  fun_induction cuts s i k with
  | case1 i k h => exact ⟨hi, by simpa using hi, fun _ => rfl⟩
  | case2 i k d h r ih =>
    have hd := (List.findIdx?_eq_some_iff_getElem.mp h).1
    rw [List.length_drop] at hd
    have hd := Nat.add_lt_of_lt_sub' hd
    obtain ⟨h1, h2, h3⟩ := ih hd (Nat.le_add_right (k + d + 1) 2)
    refine ⟨h1, ?_, fun q => by cases q⟩
    show (cuts s (k + d + 1) (k + d + 3)).1.length + 1 + i ≤ _
    change (cuts s (k + d + 1) (k + d + 3)).1.length + (k + d + 1) ≤ s.length at h2
    omega
/-- the chunks are never empty but the first and the last ones may be of one sign -/
noncomputable def okTail : List (List Nat) → Prop
  | [] => False
  | [x] => x ≠ []
  | x :: r => 2 ≤ x.length ∧ okTail r
theorem mergeR_tail : ∀ {l : List (List Nat)}, okTail l → ∃ y ys, mergeR l = y :: ys ∧ y ≠ []
  | [x], h => ⟨x, [], rfl, h⟩
  | x :: z :: r, h => by
      obtain ⟨h1, h2⟩ := h
      obtain ⟨y, ys, e, hy⟩ := mergeR_tail h2
      have hx : x ≠ [] := by intro q; subst q; simp at h1
      rw [mergeR, e]
      simp only []
      split
      · refine ⟨_, _, rfl, fun q => ?_⟩
        have := congrArg List.length q
        simp at this; omega
      · exact ⟨_, _, rfl, hx⟩
end

section
open PySem PySem.W PyProof.Rows
set_option linter.unusedVariables false
set_option linter.unusedSimpArgs false
set_option maxRecDepth 100000
set_option maxHeartbeats 4000000
variable {G : GI} {n : Nat} {hp : Hp}
noncomputable abbrev Kt : Cfg := ⟨scopeAt prog 8, fun _ => false⟩
noncomputable def Bt : List Stmt := subB (bodyAt prog 8) 3
noncomputable def Bb : List Stmt := subB (subE (subE Bt 2) 0) 0
noncomputable def Be : List Stmt := subE Bb 4
noncomputable def Bc : List Stmt := subE Be 1
/-- a part -/
noncomputable def okPart (k : Nat) (v : PV) : Prop := (∃ t, v = .str t) ∨ ∃ i, v = .ref i ∧ i < k
structure Lt (l : Loc) (pat : List Nat) (j : Nat) (mk : PV) (k0 i : Nat) : Prop where
  fpat : l (Str.ofString "pat") = some (.str pat)
  fstar : l (Str.ofString "STAR") = some (.ref j)
  fmark : l (Str.ofString "QUESTION_MARK") = some mk
  fres : l (Str.ofString "res") = some (.ref k0)
  fadd : l (Str.ofString "add") = some (.app k0)
  fi : l (Str.ofString "i") = some (.int i)
  fn : l (Str.ofString "n") = some (.int pat.length)
theorem isV_st {h : Hp} {j : Nat} {k : Nat} {v : PV} (ok : okPart k v) (hj : okRef h j = true) : IsR G h v (.ref j) (isSt j v) := by
  rcases ok with ⟨t, rfl⟩ | ⟨i, rfl, _⟩
  · exact is_str_ref _ _
  · exact isV_ref hj
theorem frz_part {h : Hp} {k : Nat} {v : PV} (ok : okPart k v) : FrzR G h k v v := by
  rcases ok with ⟨t, rfl⟩ | ⟨i, rfl, hi⟩
  · exact frz_str
  · exact frz_ref hi
theorem frz_parts {hp t : Hp} {acc : List PV} (h : ∀ v ∈ acc, okPart hp.length v) : FrzR G (hp ++ .list acc :: t) hp.length (.ref hp.length) (.list acc) :=
  frz_lst (getE_end ..) (Nat.le_refl _) (frl_all fun v hv => frz_part (h v hv))
theorem Lt.put {l : Loc} {pat : List Nat} {j : Nat} {mk : PV} {k0 i : Nat} (L : Lt l pat j mk k0 i) {x : Str} {v : PV}
    (hx : [Str.ofString "pat", Str.ofString "STAR", Str.ofString "QUESTION_MARK", Str.ofString "res", Str.ofString "add", Str.ofString "i", Str.ofString "n"].contains x = false) : Lt (upd l x v) pat j mk k0 i := by
  have h : ∀ y, y ∈ [Str.ofString "pat", Str.ofString "STAR", Str.ofString "QUESTION_MARK", Str.ofString "res", Str.ofString "add", Str.ofString "i", Str.ofString "n"] → upd l x v y = l y := fun y hy => by
    refine upd_other l v ?_
    rintro rfl
    have h2 := List.elem_eq_true_of_mem hy
    change List.contains _ _ = true at h2
    rw [hx] at h2; cases h2
  constructor
  · rw [h _ (by simp)]; exact L.fpat
  · rw [h _ (by simp)]; exact L.fstar
  · rw [h _ (by simp)]; exact L.fmark
  · rw [h _ (by simp)]; exact L.fres
  · rw [h _ (by simp)]; exact L.fadd
  · rw [h _ (by simp)]; exact L.fi
  · rw [h _ (by simp)]; exact L.fn
/-- the search for the bracket's end -/
theorem brk_find (pat : List Nat) (hpl : pat.length ≤ 800) (j : Nat) (mk : PV) (l : Loc) (i : Nat) (hi : i ≤ pat.length) (h : Hp) (L : Lt l pat j mk hp.length i) (Q : Fl → Loc → Hp → Prop)
    (hq : ∀ l', Lt l' pat j mk hp.length i → l' (Str.ofString "j") = some (.int (i + endB (pat.drop i) : Nat)) → stL G n Kt (Bb.drop 4) l' h Q) :
    stL G n Kt (Bb.drop 0) l h Q := by
  -- the loop
  have w3 : ∀ l', Lt l' pat j mk hp.length i → l' (Str.ofString "j") = some (.int (i + skipB (pat.drop i) : Nat)) → stL G n Kt (Bb.drop 3) l' h Q := by
    intro l' L' lj
    have hs := skipB_le (pat.drop i)
    rw [List.length_drop] at hs
    ((first | with_reducible refine' stL_at ?hst ?_ | with_reducible refine' nx_next (stL_at ?hst ?_)); (case hst => exact rfl))
    refine s_while ?_
    refine whileW_of (fun m l' h' => h' = h ∧ Lt l' pat j mk hp.length i ∧ ∃ b, i + b ≤ pat.length ∧ m = pat.length - (i + b) ∧ l' (Str.ofString "j") = some (.int (i + b : Nat)) ∧ skipB (pat.drop i) ≤ b ∧
      endB (pat.drop i) = b + (((pat.drop i).drop b).takeWhile (fun c => c != 93)).length) ?_ (m := pat.length - (i + skipB (pat.drop i))) ⟨rfl, L', _, by omega, rfl, lj, Nat.le_refl _, rfl⟩
    clear L' lj l'
    rintro I m l' h' hI ⟨rfl, L', b, hb, rfl, lj, hsb, he⟩
    by_cases hlt : i + b < pat.length
    · have q1 : (((i + b : Nat) : Int) < (pat.length : Int)) = True := by simp; omega
      have hd : (pat.drop i).drop b = pat[i + b] :: (pat.drop i).drop (b + 1) := by
        rw [List.drop_drop, List.drop_drop, List.drop_eq_getElem_cons hlt]; rfl
      rw [hd] at he
      by_cases c93 : pat[i + b] = 93
      · have q2 : ([pat[i + b]] = [93]) = True := by simp [c93]
        simp_arith [wN, lj, L'.fn, L'.fpat, (item_str hlt (big_ge (by omega))), q1, q2]
        refine hq _ L' ?_
        rw [he, lj]; simp [c93]
      · have q2 : ([pat[i + b]] = [93]) = False := by simp [c93]
        simp_arith [wN, lj, L'.fn, L'.fpat, (item_str hlt (big_ge (by omega))), q1, q2]
        refine hI _ _ _ ?_ ⟨rfl, L'.put rfl, b + 1, hlt, rfl, ?_, by omega, ?_⟩
        · omega
        · simp_arith [wM]; congr 2 <;> omega
        · rw [he]; simp [c93]; omega
    · have q1 : (((i + b : Nat) : Int) < (pat.length : Int)) = False := by simp; omega
      simp_arith [wN, lj, L'.fn, q1]
      refine hq _ L' ?_
      rw [he, lj, List.drop_drop, List.drop_eq_nil_of_le (by omega)]; simp
  have w2 : ∀ l' a, Lt l' pat j mk hp.length i → l' (Str.ofString "j") = some (.int (i + a : Nat)) → a = (if (pat.drop i).head? = some 33 then 1 else 0) → i + a ≤ pat.length → stL G n Kt (Bb.drop 2) l' h Q := by
    intro l' a L' lj ha hal
    have hsk : skipB (pat.drop i) = if (pat.drop i)[a]? = some 93 then a + 1 else a := by rw [ha]; rfl
    rw [List.getElem?_drop] at hsk
    ((first | with_reducible refine' stL_at ?hst ?_ | with_reducible refine' nx_next (stL_at ?hst ?_)); (case hst => exact rfl))
    by_cases hlt : i + a < pat.length
    · have q1 : (((i + a : Nat) : Int) < (pat.length : Int)) = True := by simp; omega
      by_cases c93 : pat[i + a] = 93
      · have q2 : ([pat[i + a]] = [93]) = True := by simp [c93]
        simp_arith [wN, lj, L'.fn, L'.fpat, (item_str hlt (big_ge (by omega))), q1, q2]
        refine w3 _ (L'.put rfl) ?_
        rw [hsk, if_pos (by rw [List.getElem?_eq_getElem hlt, c93])]
        simp_arith [wM]; congr 2 <;> omega
      · have q2 : ([pat[i + a]] = [93]) = False := by simp [c93]
        simp_arith [wN, lj, L'.fn, L'.fpat, (item_str hlt (big_ge (by omega))), q1, q2]
        refine w3 _ L' ?_
        rw [hsk, if_neg (by rw [List.getElem?_eq_getElem hlt]; simpa using c93)]
        exact lj
    · have q1 : (((i + a : Nat) : Int) < (pat.length : Int)) = False := by simp; omega
      simp_arith [wN, lj, L'.fn, q1]
      refine w3 _ L' ?_
      rw [hsk, if_neg (by rw [List.getElem?_eq_none (by omega)]; simp)]
      exact lj
  ((first | with_reducible refine' stL_at ?hst ?_ | with_reducible refine' nx_next (stL_at ?hst ?_)); (case hst => exact rfl))
  simp_arith [wN, L.fi]
  ((first | with_reducible refine' stL_at ?hst ?_ | with_reducible refine' nx_next (stL_at ?hst ?_)); (case hst => exact rfl))
  have L1 : Lt (Fnm.upd l (Str.ofString "j") (.int (i : Int))) pat j mk hp.length i := L.put rfl
  by_cases hlt : i < pat.length
  · have q1 : ((i : Int) < (pat.length : Int)) = True := by simp; omega
    have hh : (pat.drop i).head? = some pat[i] := by rw [List.drop_eq_getElem_cons hlt]; rfl
    by_cases c33 : pat[i] = 33
    · have q2 : ([pat[i]] = [33]) = True := by simp [c33]
      simp_arith [wN, L.fn, L.fpat, (item_str hlt (big_ge (by omega))), q1, q2]
      refine w2 _ 1 (L1.put rfl) ?_ ?_ hlt
      · simp_arith [wM]; congr 2
      · rw [hh, c33]; rfl
    · have q2 : ([pat[i]] = [33]) = False := by simp [c33]
      simp_arith [wN, L.fn, L.fpat, (item_str hlt (big_ge (by omega))), q1, q2]
      refine w2 _ 0 L1 ?_ ?_ (by omega)
      · simp_arith [wM]; rfl
      · rw [hh, if_neg (by simpa using c33)]
  · have q1 : ((i : Int) < (pat.length : Int)) = False := by simp; omega
    simp_arith [wN, L.fn, q1]
    refine w2 _ 0 L1 ?_ ?_ (by omega)
    · simp_arith [wM]; rfl
    · rw [List.drop_eq_nil_of_le (by omega)]; rfl
theorem be_tail (V : Giv G) (pat : List Nat) (hpl : pat.length ≤ 800) (j : Nat) (mk : PV) (l : Loc) (i' e : Nat) (acc : List PV) (t : Hp) (ha : acc.length ≤ 800) (L : Lt l pat j mk hp.length i') (v : List Nat) (hv : v.length ≤ 100000)
    (lj : l (Str.ofString "j") = some (.int (e : Nat))) (lv : l (Str.ofString "stuff") = some (.str v)) (Q : Fl → Loc → Hp → Prop)
    (hq : ∀ l', Lt l' pat j mk hp.length (e + 1) → Q .next l' (hp ++ .list (acc ++ [.str (brkU (twS v))]) :: t)) :
    stL G n Kt (Be.drop 2) l (hp ++ .list acc :: t) Q := by
  ((first | with_reducible refine' stL_at ?hst ?_ | with_reducible refine' nx_next (stL_at ?hst ?_)); (case hst => exact rfl))
  simp_arith [wN]
  intro env hs
  refine E_sub V.g V.po hs rfl (by rw [Env.kindOf, hs]; decide) rfl rfl ⟨fun _ _ _ _ _ _ _ => rfl, rfl, rfl, rfl, by decide, rfl, rfl⟩ (by rw [V.qn, V.tq]; rfl) rfl rfl lv hv ?_
  clear hs env
  have hu : (twS v).length ≤ 1000000 := by
    have : ∀ x : List Nat, (twS x).length ≤ 2 * x.length := by
      intro x
      induction x with
      | nil => simp [twS]
      | cons c r ih => rw [twS, List.flatMap_cons, List.length_append]; rw [twS] at ih; simp only [List.length_cons]; split <;> simp only [List.length_cons, List.length_nil] <;> omega
    have := this v; omega
  have hm : ∀ x, AppR (hp ++ .list acc :: t) hp.length (.str x) (hp ++ .list (acc ++ [.str x]) :: t) := fun x => meth_end rfl (big_gt (by omega))
  revert hq hu
  generalize twS v = u
  intro hq hu
  simp_arith [wN]
  ((first | with_reducible refine' stL_at ?hst ?_ | with_reducible refine' nx_next (stL_at ?hst ?_)); (case hst => exact rfl))
  simp_arith [wN, lj]
  have L2 : Lt (upd (upd l (Str.ofString "stuff") (.str u)) (Str.ofString "i") (.int ((e : Int) + 1))) pat j mk hp.length (e + 1) := by
    constructor <;> simp_arith [wM, L.fpat, L.fstar, L.fmark, L.fres, L.fadd, L.fn]; simp
  ((first | with_reducible refine' stL_at ?hst ?_ | with_reducible refine' nx_next (stL_at ?hst ?_)); (case hst => exact rfl))
  cases u with
  | nil =>
    simp_arith [wN, L.fadd, hm _]
    exact stL_end (by decide) (hq _ L2)
  | cons c r =>
    have hb : (c :: r).length ≤ big := big_ge (by omega)
    by_cases e33 : c :: r = [33]
    · have q1 : (c :: r = [33]) = True := by simp [e33]
      simp_arith [wN, q1, L.fadd, hm _]
      refine stL_end (by decide) ?_
      have := hq _ L2
      rwa [show brkU (c :: r) = [46] by rw [e33]; rfl] at this
    · have q1 : (c :: r = [33]) = False := by simp only [e33]
      by_cases c33 : c = 33
      · have q2 : ([c] = [33]) = True := by simp [c33]
        have hB : brkU (c :: r) = [91] ++ 94 :: r ++ [93] := by unfold brkU; rw [if_neg (by simp), if_neg e33, if_pos (by simp [c33])]; rfl
        rw [hB] at hq
        simp only [List.length_cons] at hu
        simp_arith [wN, q1, q2, L.fadd, hm _, item_head, (slice_tail hb)]
        exact stL_end (by decide) (hq _ (L2.put rfl))
      · have q2 : ([c] = [33]) = False := by simp [c33]
        by_cases c9 : c = 94 ∨ c = 91
        · have hB : brkU (c :: r) = [91] ++ 92 :: (c :: r) ++ [93] := by unfold brkU; rw [if_neg (by simp), if_neg e33, if_neg (by simp [c33]), if_pos (by simpa using c9)]
          rw [hB] at hq
          simp only [List.length_cons] at hu
          simp_arith [wN, q1, q2, c9, L.fadd, hm _, item_head, in_two]
          exact stL_end (by decide) (hq _ (L2.put rfl))
        · have hB : brkU (c :: r) = [91] ++ (c :: r) ++ [93] := by unfold brkU; rw [if_neg (by simp), if_neg e33, if_neg (by simp [c33]), if_neg (by simpa using c9)]
          rw [hB] at hq
          simp only [List.length_cons] at hu
          simp_arith [wN, q1, q2, c9, L.fadd, hm _, item_head, in_two]
          exact stL_end (by decide) (hq _ L2)
theorem tr_end (pat : List Nat) (j : Nat) (mk : PV) (l : Loc) (acc : List PV) (t : Hp) (L : Lt l pat j mk hp.length pat.length) (ok : ∀ v ∈ acc, okPart hp.length v) (Q : PV → Hp → Prop) (q : Q (.list acc) hp) :
    stL G n Kt ((bodyAt prog 8).drop 4) l (hp ++ .list acc :: t) (EndC G hp Q) := by
  ((first | with_reducible refine' stL_at ?hst ?_ | with_reducible refine' nx_next (stL_at ?hst ?_)); (case hst => exact rfl))
  simp_arith [wN, L.fi, L.fn]
  ((first | with_reducible refine' stL_at ?hst ?_ | with_reducible refine' nx_next (stL_at ?hst ?_)); (case hst => exact rfl))
  simp_arith [wN, L.fres]
  exact endC_of (frz_parts ok) q
end

section
open PySem PySem.W PyProof.Rows
set_option linter.unusedVariables false
set_option maxRecDepth 100000
theorem cuts_elem (s : List Nat) (a b : Nat) (hab : a + 1 ≤ b) : (∀ (i : Nat) (x : List Nat), (cuts s a b).1[i]? = some x → x ≠ [] ∧ (1 ≤ i → 2 ≤ x.length)) ∧ (a + 2 ≤ b → ∀ (i : Nat) (x : List Nat), (cuts s a b).1[i]? = some x → 2 ≤ x.length) := by
  fun_induction cuts s a b with
  | case1 i k h => exact ⟨fun i x q => by simp at q, fun _ i x q => by simp at q⟩
  | case2 a b d h r ih =>
    have hd := (List.findIdx?_eq_some_iff_getElem.mp h).1
    rw [List.length_drop] at hd
    have hd := Nat.add_lt_of_lt_sub' hd
    obtain ⟨ih1, ih2⟩ := ih (Nat.le_succ _)
    have ih2 := ih2 (Nat.le_refl _)
    have hl : ((s.take (b + d)).drop a).length = b + d - a := by rw [List.length_drop, List.length_take, Nat.min_eq_left (Nat.le_of_lt hd)]
    refine ⟨fun i x q => ?_, fun h2 i x q => ?_⟩
    · cases i with
      | zero =>
        simp at q; subst q
        refine ⟨fun e => ?_, fun h => by omega⟩
        rw [e] at hl; simp at hl; omega
      | succ i =>
        simp at q
        have := ih2 i x q
        exact ⟨fun e => by rw [e] at this; simp at this, fun _ => this⟩
    · cases i with
      | zero => simp at q; subst q; rw [hl]; omega
      | succ i => simp at q; exact ih2 i x q
theorem okTail_of : ∀ {l : List (List Nat)}, l ≠ [] → (∀ x ∈ l, x ≠ []) → (∀ i x, i + 1 < l.length → l[i]? = some x → 2 ≤ x.length) → okTail l
  | [], h, _, _ => absurd rfl h
  | [x], _, h, _ => h x (by simp)
  | x :: y :: r, _, h, k => ⟨k 0 x (by simp) (by simp), okTail_of (by simp) (fun z hz => h z (by simp [hz])) fun i z hi hz => k (i + 1) z (by simp at hi ⊢; omega) (by simpa using hz)⟩
/-- what is known of the chunks -/
theorem chunks_ok {s : List Nat} {k : Nat} (hk : 1 ≤ k) (hs : s ≠ []) : chunks0 s k ≠ [] ∧ (∀ x ∈ chunks0 s k, x ≠ []) ∧ ∀ m, 1 ≤ m → m < (chunks0 s k).length → okTail ((chunks0 s k).drop m) := by
  have hc := (cuts_elem s 0 k (by omega)).1
  have hl := cuts_len s 0 k (Nat.zero_le _) (Nat.zero_le _)
  have key : chunks0 s k ≠ [] ∧ (∀ x ∈ chunks0 s k, x ≠ []) ∧ ∀ i x, 1 ≤ i → i + 1 < (chunks0 s k).length → (chunks0 s k)[i]? = some x → 2 ≤ x.length := by
    unfold chunks0
    generalize cuts s 0 k = r at hc hl
    obtain ⟨C, f⟩ := r
    simp only [] at hc hl ⊢
    have hne : ∀ x ∈ C, x ≠ [] := fun x hx => by
      obtain ⟨i, hi⟩ := List.getElem?_of_mem hx
      exact (hc i x hi).1
    split
    · rename_i he
      have hC : C ≠ [] := fun q => by
        have := hl.2.2 q; subst this
        rw [List.drop_zero] at he; simp at he; exact hs he
      refine ⟨by simp, fun x hx => ?_, fun i x h1 h2 hx => ?_⟩
      · rcases List.mem_append.mp hx with q | q
        · exact hne x (List.dropLast_subset C q)
        · simp only [List.mem_singleton] at q; subst q; simp
      · simp only [List.length_append, List.length_dropLast, List.length_cons, List.length_nil] at h2
        rw [List.getElem?_append_left (by rw [List.length_dropLast]; omega), List.getElem?_dropLast] at hx
        split at hx
        · exact (hc i x hx).2 h1
        · cases hx
    · rename_i he
      refine ⟨by simp, fun x hx => ?_, fun i x h1 h2 hx => ?_⟩
      · rcases List.mem_append.mp hx with q | q
        · exact hne x q
        · simp only [List.mem_singleton] at q; subst q; intro e; rw [e] at he; simp at he
      · simp only [List.length_append, List.length_cons, List.length_nil] at h2
        rw [List.getElem?_append_left (by omega)] at hx
        exact (hc i x hx).2 h1
  refine ⟨key.1, key.2.1, fun m h1 h2 => okTail_of (by simp; omega) (fun x hx => key.2.1 x (List.mem_of_mem_drop hx)) fun i x hi hx => ?_⟩
  rw [List.getElem?_drop] at hx
  rw [List.length_drop] at hi
  exact key.2.2 (m + i) x (by omega) (by omega) hx
/-- the range that goes down -/
noncomputable def downP : Nat → List PV
  | 0 => []
  | k + 1 => .int ((k + 1 : Nat) : Int) :: downP k
theorem range_down (N : Nat) : (rangeL (N : Int) 0 (-1)).map PV.int = downP N := by
  unfold rangeL
  simp only [show ¬ ((0 : Int) < -1) by omega, if_false]
  rw [show ((N : Int) - 0).toNat = N by omega]
  induction N with
  | zero => rfl
  | succ k ih =>
    rw [List.range_succ_eq_map]
    simp only [List.map_cons, List.map_map, downP]
    refine List.cons_eq_cons.mpr ⟨by simp, ?_⟩
    rw [← ih, List.map_map]
    apply List.map_congr_left
    intro a _
    simp only [Function.comp]
    congr 1
    push_cast
    omega
/-- sizes -/
noncomputable def totL (l : List (List Nat)) : Nat := l.flatten.length
theorem mergeR_tot : ∀ l : List (List Nat), totL (mergeR l) ≤ totL l ∧ (mergeR l).length ≤ l.length
  | [] => by simp [mergeR]
  | x :: r => by
      obtain ⟨h1, h2⟩ := mergeR_tot r
      rw [mergeR]
      split
      · rename_i e; simp [totL]
      · rename_i y ys e
        rw [e] at h1 h2
        simp only [totL, List.flatten_cons, List.length_append, List.length_cons] at h1 h2 ⊢
        split
        · have q1 : x.dropLast.length ≤ x.length := by rw [List.length_dropLast]; exact Nat.sub_le _ _
          have q2 : y.tail.length ≤ y.length := by rw [List.length_tail]; exact Nat.sub_le _ _
          simp only [List.flatten_cons, List.length_append, List.length_cons]
          generalize x.dropLast.length = u at q1 ⊢
          generalize y.tail.length = v at q2 ⊢
          omega
        · simp only [List.flatten_cons, List.length_append, List.length_cons]; omega
theorem cuts_none {s : List Nat} {a b : Nat} (h : (s.drop b).findIdx? (· == 45) = none) : cuts s a b = ([], a) := by
  rw [cuts]; split <;> rename_i h' <;> rw [h] at h' <;> cases h' <;> rfl
theorem cuts_some {s : List Nat} {a b d : Nat} (h : (s.drop b).findIdx? (· == 45) = some d) : cuts s a b = ((s.take (b + d)).drop a :: (cuts s (b + d + 1) (b + d + 3)).1, (cuts s (b + d + 1) (b + d + 3)).2) := by
  rw [cuts]; split <;> rename_i h' <;> rw [h] at h' <;> cases h' <;> rfl
theorem joinL_len (c : Nat) (l : List (List Nat)) : (joinL [c] l).length ≤ totL l + l.length := by
  induction l with
  | nil => simp [joinL]
  | cons x r ih =>
    cases r with
    | nil => simp [joinL, totL]
    | cons y ys =>
      simp only [joinL, totL, List.flatten_cons, List.length_append, List.length_cons, List.length_nil] at ih ⊢
      omega
theorem replC_len2 (x : List Nat) (c : Nat) (z : List Nat) (hz : z.length = 2) : (replC x c z).length ≤ 2 * x.length := by
  induction x with
  | nil => simp [replC]
  | cons d r ih =>
    rw [replC, List.flatMap_cons, List.length_append]
    rw [replC] at ih
    simp only [List.length_cons]
    split
    · omega
    · simp only [List.length_cons, List.length_nil]; omega
theorem chunkS_len (x : List Nat) : (chunkS x).length ≤ 4 * x.length := by
  unfold chunkS
  have h1 := replC_len2 x 92 [92, 92] rfl
  have h2 := replC_len2 (replC x 92 [92, 92]) 45 [92, 45] rfl
  omega
theorem chunks_tot (l : List (List Nat)) : totL (l.map chunkS) ≤ 4 * totL l := by
  induction l with
  | nil => simp [totL]
  | cons x r ih =>
    have := chunkS_len x
    simp only [totL, List.map_cons, List.flatten_cons, List.length_append] at ih ⊢; omega
theorem mem_tot {l : List (List Nat)} {x : List Nat} (h : x ∈ l) : x.length ≤ totL l := by
  induction l with
  | nil => cases h
  | cons y r ih =>
    simp only [totL, List.flatten_cons, List.length_append] at ih ⊢
    rcases List.mem_cons.mp h with q | q
    · subst q; omega
    · have := ih q; omega
theorem cuts_tot (s : List Nat) (a b : Nat) (hab : a ≤ b) (ha : a ≤ s.length) : totL (cuts s a b).1 + (s.drop (cuts s a b).2).length + a ≤ s.length := by
  fun_induction cuts s a b with
  | case1 a b h => rw [totL, List.flatten_nil, List.length_nil, List.length_drop, Nat.zero_add, Nat.sub_add_cancel ha]; exact Nat.le_refl _
  | case2 a b d h r ih =>
    have hd := (List.findIdx?_eq_some_iff_getElem.mp h).1
    rw [List.length_drop] at hd
    have hd := Nat.add_lt_of_lt_sub' hd
    have ih := ih (Nat.le_add_right (b + d + 1) 2) hd
    have hl : ((s.take (b + d)).drop a).length + a = b + d := by rw [List.length_drop, List.length_take, Nat.min_eq_left (Nat.le_of_lt hd), Nat.sub_add_cancel (Nat.le_trans hab (Nat.le_add_right ..))]
    show totL (_ :: (cuts s (b + d + 1) (b + d + 3)).1) + (s.drop (cuts s (b + d + 1) (b + d + 3)).2).length + a ≤ _
    change totL (cuts s (b + d + 1) (b + d + 3)).1 + (s.drop (cuts s (b + d + 1) (b + d + 3)).2).length + (b + d + 1) ≤ s.length at ih
    rw [totL, List.flatten_cons, List.length_append]
    unfold totL at ih
    generalize ((s.take (b + d)).drop a).length = x at hl ⊢
    generalize (cuts s (b + d + 1) (b + d + 3)).1.flatten.length = y at ih ⊢
    generalize (s.drop (cuts s (b + d + 1) (b + d + 3)).2).length = z at ih ⊢
    omega
theorem chunks0_len (s : List Nat) (k : Nat) : totL (chunks0 s k) ≤ s.length + 1 ∧ (chunks0 s k).length ≤ s.length + 1 := by
  have h1 : totL (cuts s 0 k).1 + (s.drop (cuts s 0 k).2).length ≤ s.length := cuts_tot s 0 k (Nat.zero_le _) (Nat.zero_le _)
  have h2 : (cuts s 0 k).1.length ≤ s.length := (cuts_len s 0 k (Nat.zero_le _) (Nat.zero_le _)).2.1
  unfold chunks0
  generalize cuts s 0 k = r at h1 h2
  obtain ⟨C, f⟩ := r
  simp only [] at h1 h2 ⊢
  split
  · rcases List.eq_nil_or_concat C with e | ⟨D, x, e⟩
    · subst e; simp [totL]
    · rw [List.concat_eq_append] at e; subst e
      have e2 : (D ++ [x]).getLastD [] = x := by simp
      rw [e2]
      simp only [totL, List.dropLast_concat, List.flatten_append, List.length_append, List.flatten_cons, List.flatten_nil, List.append_nil, List.length_cons, List.length_nil] at h1 h2 ⊢
      omega
  · simp only [totL, List.flatten_append, List.length_append, List.flatten_cons, List.flatten_nil, List.append_nil, List.length_cons, List.length_nil] at h1 h2 ⊢
    omega
end

section
open PySem PySem.W PyProof.Rows
set_option linter.unusedVariables false
set_option linter.unusedSimpArgs false
set_option maxRecDepth 100000
set_option maxHeartbeats 4000000
variable {G : GI} {n : Nat} {hp : Hp}
theorem IterR.to {h : Hp} {v : PV} {xs ys : List PV} {chk : Hp → Prop} (a : IterR G h v xs chk) (e : xs = ys) : IterR G h v ys chk := e ▸ a
theorem find_at {h : Hp} {pat s : List Nat} {i b e : Nat} {r : Int} (hs : s = (pat.drop i).take e) (hl : i + e ≤ pat.length) (hr : findC (pat.take (i + e)) 45 (i + b) = r) : MeR G "str.find" h (.str pat) [.str [45], .int ((i + b : Nat) : Int), .int ((i + e : Nat) : Int)] (.int r) h :=
  hr ▸ find3_at (i := ((i + b : Nat) : Int)) (j := ((i + e : Nat) : Int)) (Int.natCast_nonneg _) (Int.natCast_nonneg _) (Int.ofNat_le.mpr hl)
theorem find_eq {pat s : List Nat} {i b e : Nat} (hs : s = (pat.drop i).take e) : (pat.take (i + e)).drop (i + b) = s.drop b := by
  rw [hs, List.take_drop, List.drop_drop]
theorem find_none {h : Hp} {pat s : List Nat} {i b e : Nat} (hs : s = (pat.drop i).take e) (hl : i + e ≤ pat.length) (hd : (s.drop b).findIdx? (· == 45) = none) : MeR G "str.find" h (.str pat) [.str [45], .int ((i + b : Nat) : Int), .int ((i + e : Nat) : Int)] (.int (-1)) h :=
  find_at hs hl (by unfold findC; rw [find_eq hs, hd])
theorem find_some {h : Hp} {pat s : List Nat} {i b e d : Nat} (hs : s = (pat.drop i).take e) (hl : i + e ≤ pat.length) (hd : (s.drop b).findIdx? (· == 45) = some d) : MeR G "str.find" h (.str pat) [.str [45], .int ((i + b : Nat) : Int), .int ((i + e : Nat) : Int)] (.int ((i + b + d : Nat) : Int)) h :=
  find_at hs hl (by unfold findC; rw [find_eq hs, hd])
theorem int_eq {a b : Int} (h : a = b) : (some (PV.int a)) = some (PV.int b) := by rw [h]
theorem sl_rel {pat : List Nat} {i e a b : Nat} (hb : b ≤ e) : (pat.take (i + b)).drop (i + a) = (((pat.drop i).take e).take b).drop a := by
  rw [List.take_take, Nat.min_eq_left hb, List.take_drop, List.drop_drop]
/-- the search for the hyphens -/
theorem bc_cut (pat : List Nat) (hpl : pat.length ≤ 800) (j : Nat) (mk : PV) (l : Loc) (i e : Nat) (he : i + e ≤ pat.length) (h0 : 0 < e) (H : Hp) (L : Lt l pat j mk hp.length i) (lj : l (Str.ofString "j") = some (.int (i + e : Nat)))
    (Q : Fl → Loc → Hp → Prop) (s : List Nat) (hs : s = (pat.drop i).take e) (r : List (List Nat) × Nat) (hr : r = cuts s 0 (if s.head? = some 33 then 2 else 1))
    (hq : ∀ l', Lt l' pat j mk hp.length (i + r.2) → l' (Str.ofString "j") = some (.int (i + e : Nat)) → l' (Str.ofString "chunks") = some (.ref H.length) → stL G n Kt (Bc.drop 3) l' (H ++ [.list (r.1.map .str)]) Q) :
    stL G n Kt (Bc.drop 0) l H Q := by
  have hsl : s.length = e := by rw [hs, List.length_take, List.length_drop]; omega
  have loop : ∀ (l : Loc) (k0 : Nat), Lt l pat j mk hp.length i → l (Str.ofString "j") = some (.int (i + e : Nat)) → l (Str.ofString "chunks") = some (.ref H.length) → l (Str.ofString "k") = some (.int (i + k0 : Nat)) → r = cuts s 0 k0 → k0 ≤ 2 →
      stL G n Kt (Bc.drop 2) l (H ++ [.list []]) Q := by
    intro l k0 L lj lc lk hr hk0
    ((first | with_reducible refine' stL_at ?hst ?_ | with_reducible refine' nx_next (stL_at ?hst ?_)); (case hst => exact rfl))
    refine s_while ?_
    refine whileW_of (fun m l h => ∃ (a b : Nat) (cs : List (List Nat)), m = e + 3 - b ∧ Lt l pat j mk hp.length (i + a) ∧ l (Str.ofString "j") = some (.int (i + e : Nat)) ∧ l (Str.ofString "chunks") = some (.ref H.length) ∧ l (Str.ofString "k") = some (.int (i + b : Nat)) ∧
      h = H ++ [.list (cs.map .str)] ∧ a ≤ b ∧ b ≤ e + 2 ∧ cs.length ≤ b ∧ r.1 = cs ++ (cuts s a b).1 ∧ r.2 = (cuts s a b).2) ?_ (m := e + 3 - k0) ⟨0, k0, [], rfl, L, lj, lc, lk, rfl, by omega, by omega, by simp, by rw [hr]; rfl, by rw [hr]⟩
    clear L lj lc lk hr l
    rintro I m l h hI ⟨a, b, cs, rfl, L, lj, lc, lk, rfl, hab, hbe, hcs, hr1, hr2⟩
    cases hd : (s.drop b).findIdx? (· == 45) with
    | none =>
      rw [cuts_none hd] at hr1 hr2
      simp_arith [wN, L.fpat, lk, lj, (find_none hs he hd), show ((-1 : Int) < 0) = True by simp]
      have := hq (upd l (Str.ofString "k") (.int (-1))) (hr2 ▸ L.put rfl) (by simp_arith [wM]; exact lj) (by simp_arith [wM]; exact lc)
      rwa [hr1, List.append_nil] at this
    | some d =>
      have hdl := (List.findIdx?_eq_some_iff_getElem.mp hd).1
      rw [List.length_drop] at hdl
      have hdl := Nat.add_lt_of_lt_sub' hdl
      rw [cuts_some hd] at hr1 hr2
      have hsl1 : SlR G (H ++ [.list (cs.map .str)]) (.str pat) (.int ((i + a : Nat) : Int)) (.int ((i + b + d : Nat) : Int)) (.str ((s.take (b + d)).drop a)) := by
        refine SlR.to (slice_any (big_ge (by omega))) ?_
        rw [show i + b + d = i + (b + d) by omega, sl_rel (e := e) (by omega), ← hs]
      have hm : AppR (H ++ [.list (cs.map .str)]) H.length (.str ((s.take (b + d)).drop a)) (H ++ [.list ((cs ++ [(s.take (b + d)).drop a]).map .str)]) := by
        exact (meth_end rfl (by rw [List.length_map]; exact big_gt (by omega))).to (by simp)
      have hcon : contents (H ++ [.list (cs.map .str)]) (.ref H.length) = some _ := cont_end rfl
      have q0 : (((i + b + d : Nat) : Int) < 0) = False := by simp; omega
      simp_arith [wN, L.fpat, L.fi, lk, lj, lc, (find_some hs he hd), q0, hsl1, hm, hcon]
      refine hI _ _ _ ?_ ⟨b + d + 1, b + d + 3, cs ++ [(s.take (b + d)).drop a], rfl, ?_, ?_, ?_, ?_, rfl, by omega, by omega, by simp; omega, ?_, hr2⟩
      · omega
      · constructor <;> simp_arith [wM, L.fpat, L.fstar, L.fmark, L.fres, L.fadd, L.fn]; exact int_eq (by omega)
      · simp_arith [wM, lj]
      · simp_arith [wM, lc]
      · simp_arith [wM]; exact int_eq (by omega)
      · rw [hr1]; simp
  ((first | with_reducible refine' stL_at ?hst ?_ | with_reducible refine' nx_next (stL_at ?hst ?_)); (case hst => exact rfl))
  simp_arith [wN]
  ((first | with_reducible refine' stL_at ?hst ?_ | with_reducible refine' nx_next (stL_at ?hst ?_)); (case hst => exact rfl))
  have hlt : i < pat.length := by omega
  have hh : s.head? = some pat[i] := by
    rw [hs, List.drop_eq_getElem_cons hlt]
    cases e with
    | zero => omega
    | succ e => rfl
  by_cases c33 : pat[i] = 33
  · have q2 : ([pat[i]] = [33]) = True := by simp [c33]
    simp_arith [wN, L.fi, L.fpat, (item_str hlt (big_ge (by omega))), q2]
    refine loop _ 2 ((L.put rfl).put rfl) ?_ ?_ ?_ ?_ (by omega)
    · simp_arith [wM, lj]
    · simp_arith [wM]
    · simp_arith [wM]; exact int_eq (by omega)
    · rw [hr, hh, if_pos (by rw [c33])]
  · have q2 : ([pat[i]] = [33]) = False := by simp [c33]
    simp_arith [wN, L.fi, L.fpat, (item_str hlt (big_ge (by omega))), q2]
    refine loop _ 1 ((L.put rfl).put rfl) ?_ ?_ ?_ ?_ (by omega)
    · simp_arith [wM, lj]
    · simp_arith [wM]
    · simp_arith [wM]; exact int_eq (by omega)
    · rw [hr, hh, if_neg (by simpa using c33)]
/-- the last chunk -/
theorem bc_last (pat : List Nat) (hpl : pat.length ≤ 800) (j : Nat) (mk : PV) (l : Loc) (i e k0 : Nat) (he : i + e ≤ pat.length) (H : Hp) (s : List Nat) (hs : s = (pat.drop i).take e) (hne : s ≠ []) (r : List (List Nat) × Nat) (hr : r = cuts s 0 k0)
    (L : Lt l pat j mk hp.length (i + r.2)) (lj : l (Str.ofString "j") = some (.int (i + e : Nat))) (lc : l (Str.ofString "chunks") = some (.ref H.length))
    (Q : Fl → Loc → Hp → Prop)
    (hq : ∀ l', Lt l' pat j mk hp.length (i + r.2) → l' (Str.ofString "j") = some (.int (i + e : Nat)) → l' (Str.ofString "chunks") = some (.ref H.length) → stL G n Kt (Bc.drop 5) l' (H ++ [.list ((chunks0 s k0).map .str)]) Q) :
    stL G n Kt (Bc.drop 3) l (H ++ [.list (r.1.map .str)]) Q := by
  have hsl : s.length = e := by rw [hs, List.length_take, List.length_drop]; omega
  have hcl := cuts_len s 0 k0 (Nat.zero_le _) (Nat.zero_le _)
  rw [← hr] at hcl
  have hc0 : chunks0 s k0 = if (s.drop r.2).isEmpty then r.1.dropLast ++ [r.1.getLastD [] ++ [45]] else r.1 ++ [s.drop r.2] := by rw [hr]; rfl
  have hsl1 : SlR G (H ++ [.list (r.1.map .str)]) (.str pat) (.int ((i + r.2 : Nat) : Int)) (.int ((i + e : Nat) : Int)) (.str (s.drop r.2)) := by
    refine SlR.to (slice_any (big_ge (by omega))) ?_
    rw [sl_rel (e := e) (Nat.le_refl _), ← hs, List.take_of_length_le (by omega)]
  have hcon : contents (H ++ [.list (r.1.map .str)]) (.ref H.length) = some _ := cont_end rfl
  ((first | with_reducible refine' stL_at ?hst ?_ | with_reducible refine' nx_next (stL_at ?hst ?_)); (case hst => exact rfl))
  simp_arith [wN, L.fpat, L.fi, lj, hsl1]
  have L1 : Lt (upd l (Str.ofString "chunk") (.str (s.drop r.2))) pat j mk hp.length (i + r.2) := L.put rfl
  have lj1 : upd l (Str.ofString "chunk") (.str (s.drop r.2)) (Str.ofString "j") = some (.int (i + e : Nat)) := by simp_arith [wM, lj]
  have lc1 : upd l (Str.ofString "chunk") (.str (s.drop r.2)) (Str.ofString "chunks") = some (.ref H.length) := by simp_arith [wM, lc]
  ((first | with_reducible refine' stL_at ?hst ?_ | with_reducible refine' nx_next (stL_at ?hst ?_)); (case hst => exact rfl))
  cases hd : (s.drop r.2).isEmpty with
  | false =>
    rw [hd] at hc0
    have hm : AppR (H ++ [.list (r.1.map .str)]) H.length (.str (s.drop r.2)) (H ++ [.list ((r.1 ++ [s.drop r.2]).map .str)]) := by
      exact (meth_end rfl (by rw [List.length_map]; exact big_gt (by omega))).to (by simp)
    simp_arith [wN, hd, lc, hm, hcon]
    refine ?_
    have := hq _ L1 lj1 lc1
    rw [hc0] at this; exact this
  | true =>
    rw [hd] at hc0
    have hC : r.1 ≠ [] := fun q => by
      have := hcl.2.2 q; rw [this, List.drop_zero] at hd; simp at hd; exact hne hd
    rcases List.eq_nil_or_concat r.1 with q | ⟨D, x, q⟩
    · exact absurd q hC
    rw [List.concat_eq_append] at q
    rw [q] at hcl hcon
    have hxl : x.length ≤ 100000 := by
      have h1 := cuts_tot s 0 k0 (Nat.zero_le _) (Nat.zero_le _)
      rw [← hr, q] at h1
      have := mem_tot (l := D ++ [x]) (x := x) (by simp)
      omega
    have hlen : (D ++ [x]).length ≤ 800 := by omega
    have ct : contents (H ++ [.list ((D ++ [x]).map .str)]) (.ref H.length) = some (D.map .str ++ [.str x]) := by rw [cont_end rfl]; simp
    have hst : ∀ w, StoR G (H ++ [.list ((D ++ [x]).map .str)]) (.ref H.length) (.int (-1)) (.str w) (H ++ [.list ((D ++ [w]).map .str)]) := fun w => by
      refine StoR.to (store_last (P := D.map .str) (v := .str x) (by simp) (by simp at hlen ⊢; exact big_ge (by omega))) ?_; simp
    rw [q]
    simp_arith [wN, hd, lc, (item_last ct), hst _]
    have := hq _ L1 lj1 lc1
    rw [hc0, q] at this
    simp only [if_true, List.dropLast_concat, List.getLastD_concat] at this
    exact this
/-- the ranges that go down -/
theorem bc_merge (V : Giv G) (pat : List Nat) (j : Nat) (mk : PV) (l : Loc) (i' e : Nat) (H : Hp) (cs : List (List Nat)) (hlen : cs.length ≤ 1000) (htot : totL cs ≤ 100000) (h0 : cs ≠ []) (h1 : ∀ x ∈ cs, x ≠ []) (h2 : ∀ m, 1 ≤ m → m < cs.length → okTail (cs.drop m))
    (L : Lt l pat j mk hp.length i') (lj : l (Str.ofString "j") = some (.int (e : Nat))) (lc : l (Str.ofString "chunks") = some (.ref H.length))
    (Q : Fl → Loc → Hp → Prop)
    (hq : ∀ l', Lt l' pat j mk hp.length i' → l' (Str.ofString "j") = some (.int (e : Nat)) → l' (Str.ofString "chunks") = some (.ref H.length) → stL G n Kt (Bc.drop 6) l' (H ++ [.list ((mergeR cs).map .str)]) Q) :
    stL G n Kt (Bc.drop 5) l (H ++ [.list (cs.map .str)]) Q := by
  have ct : contents (H ++ [.list (cs.map .str)]) (.ref H.length) = some (cs.map .str) := cont_end rfl
  have hln : BltR G (.builtin "len") (H ++ [.list (cs.map .str)]) [.ref H.length] (.int cs.length) := by
    exact len_of ct (by simp) (by omega)
  obtain ⟨N, hN⟩ : ∃ N, cs.length = N + 1 := by cases cs with
    | nil => exact absurd rfl h0
    | cons x r => exact ⟨r.length, rfl⟩
  have hsub : ((cs.length : Int) - 1) = (N : Int) := by omega
  have hrg : BltR G (.type "range") (H ++ [.list (cs.map .str)]) [.int ((cs.length : Int) - 1), .int 0, .int (-1)] (.range N 0 (-1)) := by
    rw [hsub]
    exact range_3 (.inr rfl)
  have hit : IterR G (H ++ [.list (cs.map .str)]) (.range N 0 (-1)) (downP N) (fun _ => True) := by
    have : rngOk (N : Int) 0 (-1) = true := by unfold rngOk tinyI; simp; omega
    exact @IterR.to G _ _ _ _ _ (@iter_rng G _ _ _ _ this) (range_down N)
  ((first | with_reducible refine' stL_at ?hst ?_ | with_reducible refine' nx_next (stL_at ?hst ?_)); (case hst => exact rfl))
  simp_arith [wN, lc, hln, hrg, hit]
  refine forL_of (fun xs l h => ∃ k, xs = downP k ∧ k < cs.length ∧ Lt l pat j mk hp.length i' ∧ l (Str.ofString "j") = some (.int (e : Nat)) ∧ l (Str.ofString "chunks") = some (.ref H.length) ∧ h = H ++ [.list ((cs.take k ++ mergeR (cs.drop k)).map .str)]) ?_ ?_ ⟨N, rfl, by omega, L, lj, lc, ?_⟩
  · clear L lj lc l hq
    rintro I x xs l h hI ⟨k, hk, hkl, L, lj, lc, rfl⟩
    cases k with
    | zero => cases hk
    | succ k =>
      cases hk
      obtain ⟨y, ys, hy, hyne⟩ := mergeR_tail (h2 (k + 1) (by omega) hkl)
      have hx : cs.take (k + 1) = cs.take k ++ [cs[k]] := by rw [List.take_add_one, List.getElem?_eq_getElem (by omega)]; rfl
      have hxne := h1 cs[k] (List.getElem_mem _)
      have hdk : cs.drop k = cs[k] :: cs.drop (k + 1) := List.drop_eq_getElem_cons (by omega)
      have hmk : mergeR (cs.drop k) = if y.headD 0 < cs[k].getLastD 0 then (cs[k].dropLast ++ y.tail) :: ys else cs[k] :: y :: ys := by rw [hdk, mergeR, hy]
      have hxt : cs[k].length ≤ totL cs := mem_tot (List.getElem_mem _)
      have hyt : y.length ≤ totL cs := by
        have q1 := (mergeR_tot (cs.drop (k + 1))).1
        rw [hy] at q1
        have q2 : totL (cs.drop (k + 1)) ≤ totL cs := by
          have : totL cs = totL (cs.take (k + 1)) + totL (cs.drop (k + 1)) := by
            unfold totL; rw [← List.length_append, ← List.flatten_append, List.take_append_drop]
          omega
        have := mem_tot (l := y :: ys) (x := y) (by simp)
        omega
      have hyl : ys.length ≤ cs.length := by
        have := (mergeR_tot (cs.drop (k + 1))).2
        rw [hy, List.length_drop] at this; simp at this; omega
      rw [hy, hx]
      have hJ : ∀ l', Lt l' pat j mk hp.length i' → l' (Str.ofString "j") = some (.int (e : Nat)) → l' (Str.ofString "chunks") = some (.ref H.length) → I l' (H ++ [.list ((cs.take k ++ mergeR (cs.drop k)).map .str)]) := fun l' a b c => hI _ _ ⟨k, rfl, by omega, a, b, c, rfl⟩
      rw [hmk] at hJ
      clear hI
      obtain ⟨D, d, hD⟩ : ∃ D d, cs[k] = D ++ [d] := by
        rcases List.eq_nil_or_concat cs[k] with q | ⟨D, d, q⟩
        · exact absurd q hxne
        · exact ⟨D, d, by rw [q, List.concat_eq_append]⟩
      obtain ⟨c, R, rfl⟩ : ∃ c R, y = c :: R := by cases y with
        | nil => exact absurd rfl hyne
        | cons c R => exact ⟨c, R, rfl⟩
      have hpl : ((cs.take k).map PV.str).length = k := by rw [List.length_map, List.length_take]; omega
      rw [hD] at hxt hJ ⊢
      simp only [List.headD_cons, List.getLastD_concat, List.dropLast_concat, List.tail_cons] at hJ
      have hh : H ++ [.list ((cs.take k ++ [D ++ [d]] ++ (c :: R) :: ys).map .str)] = H ++ [.list ((cs.take k).map .str ++ .str (D ++ [d]) :: .str (c :: R) :: ys.map .str)] := by simp
      rw [hh]
      have ct := cont_end (hp := H) (t := []) (X := (cs.take k).map PV.str ++ .str (D ++ [d]) :: .str (c :: R) :: ys.map .str) rfl
      have ct2 : contents (H ++ [.list ((cs.take k).map .str ++ .str (D ++ [d]) :: .str (c :: R) :: ys.map .str)]) (.ref H.length) = some (((cs.take k).map .str ++ [.str (D ++ [d])]) ++ .str (c :: R) :: ys.map .str) := by rw [ct]; simp
      have i1 : ItR G (H ++ [.list ((cs.take k).map .str ++ .str (D ++ [d]) :: .str (c :: R) :: ys.map .str)]) (.ref H.length) (.int (((k + 1 : Nat) : Int) - 1)) (.str (D ++ [d])) := item_at ct (by rw [hpl]; omega) (big_ge (by omega))
      have i2 : ItR G (H ++ [.list ((cs.take k).map .str ++ .str (D ++ [d]) :: .str (c :: R) :: ys.map .str)]) (.ref H.length) (.int ((k + 1 : Nat) : Int)) (.str (c :: R)) := item_at ct2 (by rw [List.length_append, hpl]; simp) (by rw [List.length_append, hpl]; exact big_ge (by simp; omega))
      have hxl : (D ++ [d]).length ≤ big := big_ge (by omega)
      have hyl2 : (c :: R).length ≤ big := big_ge (by omega)
      have hPl : ((cs.take k).map PV.str ++ PV.str (D ++ [d]) :: PV.str (c :: R) :: ys.map PV.str).length ≤ 4000 := by rw [List.length_append, hpl]; simp; omega
      have st : ∀ w, StoR G (H ++ [.list ((cs.take k).map .str ++ .str (D ++ [d]) :: .str (c :: R) :: ys.map .str)]) (.ref H.length) (.int (((k + 1 : Nat) : Int) - 1)) w (H ++ [.list ((cs.take k).map .str ++ w :: .str (c :: R) :: ys.map .str)]) := fun w => by
        exact StoR.to (store_at (getE_end ..) (by rw [hpl]; omega) (big_ge (by omega))) (set_end ..)
      have de : ∀ w, DelR G (H ++ [.list ((cs.take k).map .str ++ w :: .str (c :: R) :: ys.map .str)]) (.ref H.length) (.int ((k + 1 : Nat) : Int)) (H ++ [.list ((cs.take k).map .str ++ w :: ys.map .str)]) := fun w => by
        rw [show (cs.take k).map PV.str ++ w :: PV.str (c :: R) :: ys.map PV.str = ((cs.take k).map PV.str ++ [w]) ++ PV.str (c :: R) :: ys.map PV.str by simp]
        refine DelR.to (del_at (getE_end ..) (by rw [List.length_append, hpl]; simp) (big_ge (by simp at hPl ⊢; omega))) ?_
        rw [set_end]; simp
      have L1 : Lt (upd l (Str.ofString "k") (.int ((k + 1 : Nat) : Int))) pat j mk hp.length i' := L.put rfl
      have lj1 : upd l (Str.ofString "k") (.int ((k + 1 : Nat) : Int)) (Str.ofString "j") = some (.int (e : Nat)) := by simp_arith [wM, lj]
      have lc1 : upd l (Str.ofString "k") (.int ((k + 1 : Nat) : Int)) (Str.ofString "chunks") = some (.ref H.length) := by simp_arith [wM, lc]
      by_cases hlt : c < d
      · rw [if_pos hlt] at hJ
        simp only [List.length_append, List.length_cons] at hxt hyt
        simp_arith [wN, lc, i1, i2, item_strlast, item_head, gt_one, hlt, (slice_init hxl), (slice_tail hyl2), st _, de _]
        have := hJ _ L1 lj1 lc1
        simpa using this
      · rw [if_neg hlt] at hJ
        simp_arith [wN, lc, i1, i2, item_strlast, item_head, gt_one, hlt]
        have := hJ _ L1 lj1 lc1
        simpa using this
  · rintro l h ⟨k, hk, hkl, L, lj, lc, rfl⟩
    cases k with
    | zero => exact hq l L lj lc
    | succ k => cases hk
  · have : cs.drop N = [cs[N]] := by rw [List.drop_eq_getElem_cons (by omega), List.drop_eq_nil_of_le (by omega)]
    rw [this, show mergeR [cs[N]] = [cs[N]] from rfl, ← this, List.take_append_drop]
/-- the chunks joined -/
theorem bc_join (V : Giv G) (pat : List Nat) (j : Nat) (mk : PV) (l : Loc) (i' e : Nat) (H : Hp) (cs : List (List Nat)) (hlen : cs.length ≤ 1000) (htot : totL cs ≤ 100000)
    (L : Lt l pat j mk hp.length i') (lj : l (Str.ofString "j") = some (.int (e : Nat))) (lc : l (Str.ofString "chunks") = some (.ref H.length))
    (Q : Fl → Loc → Hp → Prop)
    (hq : ∀ l', Lt l' pat j mk hp.length i' → l' (Str.ofString "j") = some (.int (e : Nat)) → l' (Str.ofString "stuff") = some (.str (joinL [45] (cs.map chunkS))) → Q .next l' (H ++ [.list (cs.map .str)])) :
    stL G n Kt (Bc.drop 6) l (H ++ [.list (cs.map .str)]) Q := by
  ((first | with_reducible refine' stL_at ?hst ?_ | with_reducible refine' nx_next (stL_at ?hst ?_)); (case hst => exact rfl))
  refine s_asgn (fun _ => rfl) rfl ?_
  intro env hs
  have hb : (joinL [45] (cs.map chunkS)).length ≤ big := by
    have h1 := joinL_len 45 (cs.map chunkS)
    have h2 := chunks_tot cs
    rw [List.length_map] at h1
    exact big_ge (by omega)
  refine E_gen (sc := scopeAt prog 8) (ts := cs) V.g V.po (by rw [Env.kindOf, hs]; decide) rfl ⟨rfl, rfl, by decide, rfl, rfl, rfl⟩ (by rw [V.qn, V.tq]; rfl) rfl rfl rfl lc (getE_end H [] _) (fun x hx => ?_) (by omega) hb ?_
  · have := mem_tot hx; omega
  · refine stL_end (by decide) (hq _ (L.put rfl) ?_ ?_)
    · simp_arith [wM, lj]
    · simp_arith [wM]
end

section
open PySem PySem.W PyProof.Rows
set_option linter.unusedVariables false
set_option linter.unusedSimpArgs false
set_option maxRecDepth 100000
set_option maxHeartbeats 4000000
variable {G : GI} {n : Nat} {hp : Hp}
theorem endB_pos {r : List Nat} (h : r ≠ []) : 0 < endB r := by
  cases r with
  | nil => exact absurd rfl h
  | cons c r =>
    unfold endB skipB
    simp only [List.head?_cons, Option.some.injEq]
    by_cases c33 : c = 33
    · rw [if_pos c33]; split <;> omega
    · rw [if_neg c33]
      simp only [List.getElem?_cons_zero, Option.some.injEq]
      by_cases c93 : c = 93
      · rw [if_pos c93]; omega
      · rw [if_neg c93]; simp [c93]
theorem tr_brk (V : Giv G) (pat : List Nat) (hpl : pat.length ≤ 800) (j : Nat) (mk : PV) (l : Loc) (i : Nat) (hi : i ≤ pat.length) (acc : List PV) (t : Hp) (ha : acc.length ≤ 800) (L : Lt l pat j mk hp.length i) (Q : Fl → Loc → Hp → Prop)
    (h1 : (pat.drop i).length ≤ endB (pat.drop i) → ∀ l', Lt l' pat j mk hp.length i → Q .next l' (hp ++ .list (acc ++ [.str [92, 91]]) :: t))
    (h2 : endB (pat.drop i) < (pat.drop i).length → ∀ l' t', Lt l' pat j mk hp.length (i + (endB (pat.drop i) + 1)) → Q .next l' (hp ++ .list (acc ++ [.str (brkT ((pat.drop i).take (endB (pat.drop i))))]) :: t')) :
    stL G n Kt (Bb.drop 0) l (hp ++ .list acc :: t) Q := by
  refine brk_find pat hpl j mk l i hi _ L _ fun l L lj => ?_
  have hle := endB_le (pat.drop i)
  have hpos : (pat.drop i) ≠ [] → 0 < endB (pat.drop i) := endB_pos
  generalize he : endB (pat.drop i) = e at *
  rw [List.length_drop] at hle h1 h2
  have hm : ∀ x, AppR (hp ++ .list acc :: t) hp.length (.str x) (hp ++ .list (acc ++ [.str x]) :: t) := fun x => meth_end rfl (big_gt (by omega))
  ((first | with_reducible refine' stL_at ?hst ?_ | with_reducible refine' nx_next (stL_at ?hst ?_)); (case hst => exact rfl))
  by_cases hopen : pat.length - i ≤ e
  · have q1 : ((pat.length : Int) ≤ ((i + e : Nat) : Int)) = True := by simp; omega
    simp_arith [wN, lj, L.fn, q1, L.fadd, hm _]
    exact stL_end (by decide) (h1 hopen _ L)
  · have q1 : ((pat.length : Int) ≤ ((i + e : Nat) : Int)) = False := by simp; omega
    simp_arith [wM, lj, L.fn, q1]
    show stL G n Kt (Be.drop 0) l _ _
    have hie : i + e ≤ pat.length := by omega
    have he0 : 0 < e := hpos (by intro q; have := congrArg List.length q; rw [List.length_drop] at this; simp at this; omega)
    obtain ⟨s, hs⟩ : ∃ s, s = (pat.drop i).take e := ⟨_, rfl⟩
    have hsl : s.length = e := by rw [hs, List.length_take, List.length_drop]; omega
    rw [← hs] at h2
    have hne : s ≠ [] := by intro q; rw [q] at hsl; simp at hsl; omega
    have hsl1 : SlR G (hp ++ .list acc :: t) (.str pat) (.int (i : Int)) (.int ((i + e : Nat) : Int)) (.str s) := by
      refine SlR.to (slice_any (big_ge (by omega))) ?_
      rw [hs, List.take_drop]
    have fin : ∀ (l : Loc) (i' : Nat) (t' : Hp), Lt l pat j mk hp.length i' → l (Str.ofString "j") = some (.int (i + e : Nat)) → l (Str.ofString "stuff") = some (.str (if s.contains 45 then joinL [45] ((mergeR (chunks0 s (if s.head? = some 33 then 2 else 1))).map chunkS) else replC s 92 [92, 92])) →
        stL G n Kt (Be.drop 2) l (hp ++ .list acc :: t') (Nxt G n Kt (Bb.drop 5) Q) := fun l i' t' L lj lv => by
      refine be_tail V pat hpl j mk l i' (i + e) acc t' ha L _ ?_ lj lv _ fun l' L' => ?_
      · split
        · have h1 := joinL_len 45 ((mergeR (chunks0 s (if s.head? = some 33 then 2 else 1))).map chunkS)
          have h2 := chunks_tot (mergeR (chunks0 s (if s.head? = some 33 then 2 else 1)))
          have h3 := mergeR_tot (chunks0 s (if s.head? = some 33 then 2 else 1))
          have h4 := chunks0_len s (if s.head? = some 33 then 2 else 1)
          rw [List.length_map] at h1
          omega
        · have := replC_len2 s 92 [92, 92] rfl; omega
      · exact stL_end (by decide) (h2 (by omega) _ _ (by rw [Nat.add_assoc] at L'; exact L'))
    ((first | with_reducible refine' stL_at ?hst ?_ | with_reducible refine' nx_next (stL_at ?hst ?_)); (case hst => exact rfl))
    simp_arith [wN, L.fpat, L.fi, lj, hsl1]
    have L1 : Lt (upd l (Str.ofString "stuff") (.str s)) pat j mk hp.length i := L.put rfl
    have lj1 : upd l (Str.ofString "stuff") (.str s) (Str.ofString "j") = some (.int (i + e : Nat)) := by simp_arith [wM, lj]
    ((first | with_reducible refine' stL_at ?hst ?_ | with_reducible refine' nx_next (stL_at ?hst ?_)); (case hst => exact rfl))
    by_cases h45 : s.contains 45 = true
    · rw [h45] at fin
      simp_arith [wM, h45]
      show stL G n Kt (Bc.drop 0) _ _ _
      obtain ⟨k0, hk0⟩ : ∃ k0, k0 = (if s.head? = some 33 then 2 else 1) := ⟨_, rfl⟩
      have hk1 : 1 ≤ k0 := by rw [hk0]; split <;> omega
      have hck := chunks_ok (s := s) (k := k0) hk1 hne
      have hcl := chunks0_len s k0
      have hmt := mergeR_tot (chunks0 s k0)
      refine bc_cut pat hpl j mk _ i e hie he0 _ L1 lj1 _ s hs _ rfl fun l L lj lc => ?_
      rw [← hk0] at L ⊢
      rw [← hk0] at fin
      refine bc_last pat hpl j mk l i e k0 hie _ s hs hne _ rfl L lj lc _ fun l L lj lc => ?_
      refine bc_merge V pat j mk l _ (i + e) _ (chunks0 s k0) (by omega) (by omega) hck.1 hck.2.1 hck.2.2 L lj lc _ fun l L lj lc => ?_
      refine bc_join V pat j mk l _ (i + e) _ (mergeR (chunks0 s k0)) (by omega) (by omega) L lj lc _ fun l L lj lv => ?_
      simp_arith [wM]
      have := fin l _ (t ++ [.list ((mergeR (chunks0 s k0)).map .str)]) L lj (by rw [lv]; rfl)
      rw [show hp ++ .list acc :: (t ++ [.list ((mergeR (chunks0 s k0)).map .str)]) = hp ++ .list acc :: t ++ [.list ((mergeR (chunks0 s k0)).map .str)] by simp] at this
      exact this
    · have h45' : s.contains 45 = false := by simpa using h45
      rw [h45'] at fin
      simp_arith [wN, h45']
      refine fin _ i t (L1.put rfl) ?_ ?_
      · simp_arith [wM, lj]
      · simp_arith [wM]
        rfl
theorem c_tr (V : Giv G) (pat : List Nat) (hpl : pat.length ≤ 800) (j : Nat) (hj : okRef hp j = true) (mk : PV) (hmk : okPart hp.length mk) : CallW G (n + 2) (Str.ofString "_translate") [.str pat, .ref j, mk] hp fun v h => v = .list (trP j mk pat []) ∧ h = hp := by
  have hjl : j < hp.length := by
    unfold okRef at hj
    split at hj <;> first | exact (List.getElem?_eq_some_iff.mp (by assumption)).1 | cases hj
  refine call_walk (fun _ => false) V.g V.po.nl (f__translate G G.w V.X V.g.gns V.hC V.tq) rfl ?_
  dsimp only [updL]
  ((first | with_reducible refine' stL_at ?hst ?_ | with_reducible refine' nx_next (stL_at ?hst ?_)); (case hst => exact rfl))
  simp_arith [wN]
  ((first | with_reducible refine' stL_at ?hst ?_ | with_reducible refine' nx_next (stL_at ?hst ?_)); (case hst => exact rfl))
  simp_arith [wN]
  ((first | with_reducible refine' stL_at ?hst ?_ | with_reducible refine' nx_next (stL_at ?hst ?_)); (case hst => exact rfl))
  simp_arith [wN]
  refine ?_
  ((first | with_reducible refine' stL_at ?hst ?_ | with_reducible refine' nx_next (stL_at ?hst ?_)); (case hst => exact rfl))
  refine s_while ?_
  refine whileW_of (fun m l h => ∃ (i : Nat) (acc : List PV) (t : Hp), i ≤ pat.length ∧ m = pat.length - i ∧ Lt l pat j mk hp.length i ∧ h = hp ++ .list acc :: t ∧ (∀ v ∈ acc, okPart hp.length v) ∧ acc.length ≤ i ∧ trP j mk pat [] = trP j mk (pat.drop i) acc) ?_
    (m := pat.length) ⟨0, [], [], by simp, by simp, ⟨rfl, rfl, rfl, rfl, rfl, rfl, rfl⟩, rfl, by simp, by simp, rfl⟩
  rintro I m l h hI ⟨i, acc, t, hi, rfl, L, rfl, ok, hal, htr⟩
  by_cases hlt : i < pat.length
  · have q1 : ((i : Int) < (pat.length : Int)) = True := by simp; omega
    simp_arith [wM, L.fi, L.fn, q1]
    show stL G _ Kt (Bt.drop 0) l _ _
    ((first | with_reducible refine' stL_at ?hst ?_ | with_reducible refine' nx_next (stL_at ?hst ?_)); (case hst => exact rfl))
    simp_arith [wN, L.fpat, L.fi, (item_str hlt (big_ge (by omega)))]
    ((first | with_reducible refine' stL_at ?hst ?_ | with_reducible refine' nx_next (stL_at ?hst ?_)); (case hst => exact rfl))
    simp_arith [wN, L.fi]
    ((first | with_reducible refine' stL_at ?hst ?_ | with_reducible refine' nx_next (stL_at ?hst ?_)); (case hst => exact rfl))
    rw [List.drop_eq_getElem_cons hlt, trP] at htr
    generalize hc : pat[i] = c at htr ⊢
    have L2 : Lt (upd (upd l (Str.ofString "c") (.str [c])) (Str.ofString "i") (.int ((i : Int) + 1))) pat j mk hp.length (i + 1) := by
      constructor <;> simp_arith [wM, L.fpat, L.fstar, L.fmark, L.fres, L.fadd, L.fn]; simp
    have cont : ∀ (l' : Loc) (t' : Hp) (i' : Nat) (acc' : List PV), Lt l' pat j mk hp.length i' → i < i' → i' ≤ pat.length → (∀ v ∈ acc', okPart hp.length v) → acc'.length ≤ i' → trP j mk pat [] = trP j mk (pat.drop i') acc' → I l' (hp ++ .list acc' :: t') :=
      fun l' t' i' acc' L' h1 h2 h3 h4 h5 => hI _ _ _ (by omega) ⟨i', acc', t', h2, rfl, L', rfl, h3, h4, h5⟩
    have okA : ∀ v, okPart hp.length v → ∀ w ∈ acc ++ [v], okPart hp.length w := fun v hv w hw => by
      rcases List.mem_append.mp hw with q | q
      · exact ok w q
      · simp only [List.mem_singleton] at q; subst q; exact hv
    have hm : ∀ v, AppR (hp ++ .list acc :: t) hp.length v (hp ++ .list (acc ++ [v]) :: t) := fun v => meth_end rfl (big_gt (by omega))
    have hst : okRef (hp ++ .list acc :: t) j = true := okRef_app _ hj
    have ct : contents (hp ++ .list acc :: t) (.ref hp.length) = some acc := cont_end rfl
    by_cases c42 : c = 42
    · have q2 : ([c] = [42]) = True := by simp [c42]
      rw [if_pos c42] at htr
      rcases List.eq_nil_or_concat acc with e | ⟨A, w, e⟩
      · subst e
        simp_arith [wN, q2, L.fres, L.fadd, L.fstar, hm _, (truth_cont ct (by simp))]
        refine stL_end (by decide) ?_
        exact cont _ _ (i + 1) _ L2 (by omega) hlt (okA _ (.inr ⟨j, rfl, hjl⟩)) (by simp) htr
      · rw [List.concat_eq_append] at e; subst e
        have hg : addSt j (A ++ [w]) = if isSt j w then A ++ [w] else A ++ [w] ++ [.ref j] := by unfold addSt; simp
        rw [hg] at htr
        have hw := isV_st (G := G) (ok w (by simp)) hst
        have he : (A ++ [w]).isEmpty = false := by cases A <;> rfl
        cases hsw : isSt j w with
        | true =>
          rw [hsw] at hw htr
          simp_arith [wN, q2, he, L.fres, L.fadd, L.fstar, hm _, (truth_cont ct (big_ge (by omega))), (item_last ct), d_isn hw]
          refine stL_end (by decide) ?_
          exact cont _ _ (i + 1) _ L2 (by omega) hlt ok (by omega) htr
        | false =>
          rw [hsw] at hw htr
          simp_arith [wN, q2, he, L.fres, L.fadd, L.fstar, hm _, (truth_cont ct (big_ge (by omega))), (item_last ct), d_isn hw]
          refine stL_end (by decide) ?_
          exact cont _ _ (i + 1) _ L2 (by omega) hlt (okA _ (.inr ⟨j, rfl, hjl⟩)) (by simp at hal ⊢; omega) htr
    · have q2 : ([c] = [42]) = False := by simp [c42]
      rw [if_neg c42] at htr
      by_cases c63 : c = 63
      · have q3 : ([c] = [63]) = True := by simp [c63]
        rw [if_pos c63] at htr
        simp_arith [wN, q2, q3, L.fadd, L.fmark, hm _]
        refine stL_end (by decide) ?_
        exact cont _ _ (i + 1) _ L2 (by omega) hlt (okA _ hmk) (by simp; omega) htr
      · have q3 : ([c] = [63]) = False := by simp [c63]
        rw [if_neg c63] at htr
        by_cases c91 : c = 91
        · have q4 : ([c] = [91]) = True := by simp [c91]
          rw [if_pos c91] at htr
          simp_arith [wM, q2]
          refine stL_at (B := subE Bt 2) (k := 0) (by exact rfl) ?_
          simp_arith [wM, q3]
          refine stL_at (B := subE (subE Bt 2) 0) (k := 0) (by exact rfl) ?_
          simp_arith [wM, q4]
          show stL G _ Kt (Bb.drop 0) _ _ _
          refine tr_brk V pat hpl j mk _ (i + 1) hlt acc t (by omega) L2 _ (fun ho l' L' => ?_) (fun ho l' t' L' => ?_)
          · rw [if_pos ho] at htr
            exact stL_end (by decide) (stL_end (by decide) (stL_end (by decide) (cont _ _ (i + 1) _ L' (by omega) hlt (okA _ (.inl ⟨_, rfl⟩)) (by simp; omega) htr)))
          · rw [if_neg (by omega), List.drop_drop] at htr
            rw [List.length_drop] at ho
            exact stL_end (by decide) (stL_end (by decide) (stL_end (by decide) (cont _ _ _ _ L' (by omega) (by omega) (okA _ (.inl ⟨_, rfl⟩)) (by simp; omega) htr)))
        · have q4 : ([c] = [91]) = False := by simp [c91]
          rw [if_neg c91] at htr
          simp_arith [wN, q2, q3, q4, L.fadd, isFn_of (f_escape G G.w V.X V.g.gns)]
          refine callW_mono (c_escape V c) ?_
          rintro v h ⟨rfl, rfl⟩
          simp_arith [wN, hm _]
          refine stL_end (by decide) ?_
          exact cont _ _ (i + 1) _ L2 (by omega) hlt (okA _ (.inl ⟨_, rfl⟩)) (by simp; omega) htr
  · have q1 : ((i : Int) < (pat.length : Int)) = False := by simp; omega
    have ei : i = pat.length := by omega
    subst ei
    simp_arith [wN, L.fi, L.fn, q1]
    refine tr_end pat j mk l acc t L ok _ ⟨?_, rfl⟩
    rw [htr, List.drop_length, trP]
end

section
open PySem PySem.W PyProof.Rows
set_option linter.unusedVariables false
set_option maxRecDepth 100000
/-- the parts as items: none is a star -/
noncomputable def addI (acc : List (Option (List Nat))) : List (Option (List Nat)) := match acc.getLast? with
  | some none => acc
  | _ => acc ++ [none]
noncomputable def trI (m : List Nat) : List Nat → List (Option (List Nat)) → List (Option (List Nat))
  | [], acc => acc
  | c :: r, acc =>
    if c = 42 then trI m r (addI acc)
    else if c = 63 then trI m r (acc ++ [some m])
    else if c = 91 then
      if r.length ≤ endB r then trI m r (acc ++ [some [92, 91]])
      else trI m (r.drop (endB r + 1)) (acc ++ [some (brkT (r.take (endB r)))])
    else trI m r (acc ++ [some (escC c)])
termination_by r => r.length
decreasing_by
  all_goals simp only [List.length_cons, List.length_drop]
  all_goals first | exact Nat.lt_succ_self _ | exact Nat.lt_succ_of_le (Nat.sub_le _ _)
theorem addSt_addI (j : Nat) (acc : List (Option (List Nat))) : addSt j (acc.map (pvI j)) = (addI acc).map (pvI j) := by
  unfold addSt addI
  rw [List.getLast?_map]
  cases acc.getLast? with
  | none => simp [pvI]
  | some o => cases o <;> simp [pvI, isSt]
theorem trP_trI (j : Nat) (m : List Nat) (r : List Nat) (acc : List (Option (List Nat))) : trP j (.str m) r (acc.map (pvI j)) = (trI m r acc).map (pvI j) := by
  have ap : ∀ (acc : List (Option (List Nat))) (t : List Nat), acc.map (pvI j) ++ [.str t] = (acc ++ [some t]).map (pvI j) := fun acc t => by simp [pvI]
  fun_induction trI m r acc with
  | case1 acc => simp [trP]
  | case2 r acc ih => rw [trP, if_pos rfl, addSt_addI, ih]
  | case3 r acc h ih => rw [trP, if_neg h, if_pos rfl, ap, ih]
  | case4 r acc h4 h h2 ih => rw [trP, if_neg h, if_neg h2, if_pos rfl, if_pos h4, ap, ih]
  | case5 r acc h4 h h2 ih => rw [trP, if_neg h, if_neg h2, if_pos rfl, if_neg h4, ap, ih]
  | case6 acc c r h h2 h3 ih => rw [trP, if_neg h, if_neg h2, if_neg h3, ap, ih]
theorem noDbl_snoc : ∀ {acc : List (Option (List Nat))} (o : Option (List Nat)), noDbl acc = true → (o = none → acc.getLast? ≠ some none) → noDbl (acc ++ [o]) = true
  | [], o, _, _ => by cases o <;> rfl
  | [none], none, _, h => absurd rfl (h rfl)
  | [none], some t, _, _ => rfl
  | [some x], o, _, _ => by cases o <;> rfl
  | none :: none :: r, o, h, _ => by simp [noDbl] at h
  | none :: some t :: r, o, h, k => by
      have := noDbl_snoc (acc := some t :: r) o (by simpa [noDbl] using h) (fun e => by have := k e; rwa [List.getLast?_cons_cons] at this)
      simpa [noDbl] using this
  | some x :: y :: r, o, h, k => by
      have := noDbl_snoc (acc := y :: r) o (by simpa [noDbl] using h) (fun e => by have := k e; rwa [List.getLast?_cons_cons] at this)
      simpa [noDbl] using this
theorem noDbl_addI {acc : List (Option (List Nat))} (h : noDbl acc = true) : noDbl (addI acc) = true := by
  unfold addI
  split
  · exact h
  · rename_i k; exact noDbl_snoc none h fun _ q => k q
theorem noDbl_trI (m : List Nat) (r : List Nat) (acc : List (Option (List Nat))) (h : noDbl acc = true) : noDbl (trI m r acc) = true := by
  fun_induction trI m r acc with
  | case1 acc => exact h
  | case2 r acc ih => exact ih (noDbl_addI h)
  | case3 r acc _ ih => exact ih (noDbl_snoc _ h (fun e => by cases e))
  | case4 r acc _ _ _ ih => exact ih (noDbl_snoc _ h (fun e => by cases e))
  | case5 r acc _ _ _ ih => exact ih (noDbl_snoc _ h (fun e => by cases e))
  | case6 acc c r _ _ _ ih => exact ih (noDbl_snoc _ h (fun e => by cases e))
theorem twS_len2 (x : List Nat) : (twS x).length ≤ 2 * x.length := by
  induction x with
  | nil => simp [twS]
  | cons c r ih => rw [twS, List.flatMap_cons, List.length_append]; rw [twS] at ih; simp only [List.length_cons]; split <;> simp only [List.length_cons, List.length_nil] <;> omega
theorem brkU_len (u : List Nat) : (brkU u).length ≤ u.length + 4 := by
  unfold brkU
  split
  · simp
  · split
    · simp
    · simp only [List.length_append, List.length_cons, List.length_nil]
      split
      · simp only [List.length_cons, List.length_tail]; omega
      · split <;> (try simp only [List.length_cons]) <;> omega
theorem brkT_len (s : List Nat) : (brkT s).length ≤ 10 * s.length + 20 := by
  unfold brkT
  have h1 := brkU_len (stuffB s)
  have h2 : (stuffB s).length ≤ 10 * s.length + 10 := by
    unfold stuffB
    split
    · have h0 := twS_len2 (joinL [45] ((mergeR (chunks0 s (if s.head? = some 33 then 2 else 1))).map chunkS))
      have h1 := joinL_len 45 ((mergeR (chunks0 s (if s.head? = some 33 then 2 else 1))).map chunkS)
      have h2 := chunks_tot (mergeR (chunks0 s (if s.head? = some 33 then 2 else 1)))
      have h3 := mergeR_tot (chunks0 s (if s.head? = some 33 then 2 else 1))
      have h4 := chunks0_len s (if s.head? = some 33 then 2 else 1)
      rw [List.length_map] at h1
      omega
    · have h0 := twS_len2 (replC s 92 [92, 92])
      have := replC_len2 s 92 [92, 92] rfl
      omega
  omega
theorem sumI_snoc (acc : List (Option (List Nat))) (o : Option (List Nat)) : sumI (acc ++ [o]) = sumI acc + (match o with | some t => t.length | none => 0) := by
  unfold sumI; simp <;> rfl
theorem len_step {A S a s r x : Nat} (h : A ≤ a + (0 + 1) + r ∧ S ≤ s + x + 20 * r) (hx : x ≤ 20) : A ≤ a + (r + 1) ∧ S ≤ s + 20 * (r + 1) := by omega
theorem len_far {A S a s r x e : Nat} (he : e + 1 ≤ r) (h : A ≤ a + (0 + 1) + (r - (e + 1)) ∧ S ≤ s + x + 20 * (r - (e + 1))) (hx : x ≤ 10 * e + 20) : A ≤ a + (r + 1) ∧ S ≤ s + 20 * (r + 1) := by
  obtain ⟨q, rfl⟩ := Nat.exists_eq_add_of_le he
  rw [Nat.add_sub_cancel_left] at h
  omega
theorem trI_len (m : List Nat) (hm : m.length ≤ 20) (r : List Nat) (acc : List (Option (List Nat))) : (trI m r acc).length ≤ acc.length + r.length ∧ sumI (trI m r acc) ≤ sumI acc + 20 * r.length := by
  fun_induction trI m r acc with
  | case1 acc => simp
  | case2 r acc ih =>
    have h1 : (addI acc).length ≤ acc.length + 1 := by unfold addI; split <;> simp
    have h2 : sumI (addI acc) ≤ sumI acc := by
      unfold addI; split
      · exact Nat.le_refl _
      · rw [sumI_snoc]; exact Nat.le_refl _
    exact len_step (x := 0) ⟨Nat.le_trans ih.1 (Nat.add_le_add_right h1 _), Nat.le_trans ih.2 (Nat.add_le_add_right h2 _)⟩ (Nat.zero_le _)
  | case3 r acc _ ih =>
    rw [sumI_snoc] at ih
    simp only [List.length_cons, List.length_append, List.length_nil] at ih ⊢; exact len_step ih hm
  | case4 r acc _ _ _ ih =>
    rw [sumI_snoc] at ih
    simp only [List.length_cons, List.length_append, List.length_nil] at ih ⊢; exact len_step ih (by decide)
  | case5 r acc _ _ h4 ih =>
    rw [sumI_snoc] at ih
    have := brkT_len (r.take (endB r))
    rw [List.length_take] at this
    simp only [List.length_cons, List.length_append, List.length_nil, List.length_drop] at ih ⊢
    exact len_far (Nat.lt_of_not_le (by assumption)) ih (Nat.le_trans this (Nat.add_le_add_right (Nat.mul_le_mul_left _ (Nat.min_le_left _ _)) _))
  | case6 c r acc _ _ _ ih =>
    rw [sumI_snoc] at ih
    have : (escC c).length ≤ 2 := by unfold escC; split <;> simp
    simp only [List.length_cons, List.length_append, List.length_nil] at ih ⊢; exact len_step ih (Nat.le_trans this (by decide))
/-- translate in plain words -/
noncomputable def trT (pat : List Nat) : List Nat := joinI (trI [46] pat [])
end

section
open PySem PySem.W PyProof.Rows
set_option linter.unusedVariables false
set_option linter.unusedSimpArgs false
set_option maxRecDepth 100000
set_option maxHeartbeats 4000000
variable {G : GI} {n : Nat} {hp : Hp}
/-- _translate with a text for the mark -/
theorem c_trI (V : Giv G) (pat : List Nat) (hpl : pat.length ≤ 800) (j : Nat) (hj : okRef hp j = true) (m : List Nat) : CallW G (n + 2) (Str.ofString "_translate") [.str pat, .ref j, .str m] hp fun v h => v = .list ((trI m pat []).map (pvI j)) ∧ h = hp := by
  refine callW_mono (c_tr V pat hpl j hj (.str m) (.inl ⟨m, rfl⟩)) ?_
  rintro v h ⟨rfl, rfl⟩
  exact ⟨by rw [← trP_trI]; rfl, rfl⟩
theorem c_translate (V : Giv G) (pat : List Nat) (hpl : pat.length ≤ 800) : CallW G (n + 4) (Str.ofString "translate") [.str pat] hp fun v h => v = .str (trT pat) ∧ h = hp := by
  refine call_walk (fun _ => false) V.g V.po.nl (f_translate G G.w V.X V.g.gns) rfl ?_
  dsimp only [updL]
  have hl := trI_len [46] (by decide) pat []
  simp only [List.length_nil, show sumI [] = 0 from rfl] at hl
  ((first | with_reducible refine' stL_at ?hst ?_ | with_reducible refine' nx_next (stL_at ?hst ?_)); (case hst => exact rfl))
  simp_arith [wN]
  ((first | with_reducible refine' stL_at ?hst ?_ | with_reducible refine' nx_next (stL_at ?hst ?_)); (case hst => exact rfl))
  simp_arith [wN, isFn_of (f__translate G G.w V.X V.g.gns V.hC V.tq)]
  refine callW_mono (c_trI (n := n + 1) V pat hpl hp.length (by unfold okRef; rw [getE_end]) [46]) ?_
  rintro v h ⟨rfl, rfl⟩
  simp_arith [wN]
  ((first | with_reducible refine' stL_at ?hst ?_ | with_reducible refine' nx_next (stL_at ?hst ?_)); (case hst => exact rfl))
  simp_arith [wN, isFn_of (f_join G G.w V.X V.g.gns)]
  refine callW_mono (c_join V _ hp.length (trI [46] pat []) rfl (noDbl_trI _ _ _ rfl) (by omega) (by omega)) ?_
  rintro v h ⟨rfl, rfl⟩
  simp_arith [wN]
  exact endC_of (frz_str) ⟨rfl, rfl⟩
end

section
open PySem PySem.W PyProof.Rows
set_option linter.unusedVariables false
set_option linter.unusedSimpArgs false
set_option maxRecDepth 100000
/-! the plain part of law 04 that the other laws share (out of X1, X2, B1) -/
noncomputable def dressC (c : Nat) : List Nat := if c = 92 ∨ c = 45 ∨ c = 38 ∨ c = 126 ∨ c = 124 then [92, c] else [c]
noncomputable def memT : List Nat → List Nat
  | [] => []
  | c :: 45 :: d :: r => (if c ≤ d then dressC c ++ [45] ++ dressC d else []) ++ memT r
  | c :: r => dressC c ++ memT r
noncomputable def lawB (s : List Nat) : List Nat := brkU (if s.head? = some 33 then 33 :: memT s.tail else memT s)
theorem memT_one {c : Nat} {r : List Nat} (h : ¬ (r.head? = some 45 ∧ 2 ≤ r.length)) : memT (c :: r) = dressC c ++ memT r := by
  cases r with
  | nil => simp [memT]
  | cons x r =>
    cases r with
    | nil => rw [memT]; intro d r' q; simp at q
    | cons y r =>
      rw [memT]
      rintro d r' q
      simp at q
      exact h ⟨by simp [q.1], by simp⟩
/-! the brackets: the program's way through the chunks and the members from the left say the same -/
noncomputable def dressL (x : List Nat) : List Nat := x.flatMap dressC
theorem dressL_cons (c : Nat) (x : List Nat) : dressL (c :: x) = dressC c ++ dressL x := rfl
theorem dressL_app (x y : List Nat) : dressL (x ++ y) = dressL x ++ dressL y := by simp [dressL]
theorem twS_chunk (x : List Nat) : twS (chunkS x) = dressL x := by
  induction x with
  | nil => rfl
  | cons c r ih =>
    have h : chunkS (c :: r) = chunkS [c] ++ chunkS r := by simp [chunkS, replC]
    rw [h, twS_app, ih, dressL_cons]
    congr 1
    unfold chunkS replC dressC twS
    by_cases h1 : c = 92
    · subst h1; rfl
    · by_cases h2 : c = 45
      · subst h2; rfl
      · simp [h1, h2]
        by_cases h3 : c = 38
        · subst h3; rfl
        · by_cases h4 : c = 126
          · subst h4; rfl
          · by_cases h5 : c = 124
            · subst h5; rfl
            · simp [h3, h4, h5, isTw]
theorem twS_plain (x : List Nat) (h : 45 ∉ x) : twS (replC x 92 [92, 92]) = dressL x := by
  have : chunkS x = replC x 92 [92, 92] := by
    unfold chunkS
    have : ∀ y : List Nat, 45 ∉ y → replC y 45 [92, 45] = y := by
      intro y
      induction y with
      | nil => intro _; rfl
      | cons c r ih =>
        intro hy
        simp at hy
        have := ih hy.2
        unfold replC at this ⊢
        rw [List.flatMap_cons, this, if_neg (fun e => hy.1 e.symm)]; rfl
    refine this _ ?_
    intro hm
    unfold replC at hm
    rw [List.mem_flatMap] at hm
    obtain ⟨c, hc, hm⟩ := hm
    split at hm
    · simp at hm
    · simp at hm; exact h (hm ▸ hc)
  rw [← this, twS_chunk]
theorem twS_join (l : List (List Nat)) : twS (joinL [45] (l.map chunkS)) = joinL [45] (l.map dressL) := by
  induction l with
  | nil => rfl
  | cons x r ih =>
    cases r with
    | nil => simp only [List.map_cons, List.map_nil, joinL, twS_chunk]
    | cons y ys =>
      simp only [List.map_cons, joinL, twS_app, twS_chunk] at ih ⊢
      rw [ih]; rfl
noncomputable def rangeT (c d : Nat) : List Nat := if c ≤ d then dressC c ++ [45] ++ dressC d else []
/-- a run without a range -/
theorem memT_flat : ∀ (u : List Nat), (∀ x ∈ u.tail.dropLast, x ≠ 45) → memT u = dressL u
  | [], _ => rfl
  | [c], _ => by simp [memT, dressL]
  | c :: d :: r, h => by
      have hn : ¬ ((d :: r).head? = some 45 ∧ 2 ≤ (d :: r).length) := by
        rintro ⟨h1, h2⟩
        simp at h1 h2
        subst h1
        cases r with
        | nil => simp at h2
        | cons e r => exact h 45 (by simp) rfl
      rw [memT_one hn, dressL_cons, memT_flat (d :: r) (fun x hx => h x ?_)]
      simp only [List.tail_cons] at hx ⊢
      cases r with
      | nil => simp at hx
      | cons e r => rw [List.dropLast_cons_of_ne_nil (by simp)]; exact List.mem_cons_of_mem _ hx
theorem memT_run : ∀ (y : List Nat) (c d : Nat) (z : List Nat), (∀ x ∈ (y ++ [c]).tail, x ≠ 45) → memT (y ++ c :: 45 :: d :: z) = dressL y ++ rangeT c d ++ memT z
  | [], c, d, z, _ => by
      rw [List.nil_append, memT]; rfl
  | a :: y, c, d, z, h => by
      have hn : ¬ ((y ++ c :: 45 :: d :: z).head? = some 45 ∧ 2 ≤ (y ++ c :: 45 :: d :: z).length) := by
        rintro ⟨h1, _⟩
        cases y with
        | nil => simp at h1; exact h c (by simp) h1
        | cons b y => simp at h1; exact h b (by simp) h1
      rw [List.cons_append, memT_one hn, memT_run y c d z fun x hx => h x (by simp only [List.cons_append, List.tail_cons]; exact List.mem_of_mem_tail hx), dressL_cons]
      simp
noncomputable def JJ (l : List (List Nat)) : List Nat := joinL [45] ((mergeR l).map dressL)
theorem joinL_cons (x : List Nat) (l : List (List Nat)) (h : l ≠ []) : joinL [45] (x :: l) = x ++ [45] ++ joinL [45] l := by
  cases l with
  | nil => exact absurd rfl h
  | cons y l => rfl
theorem joinL_pre (d x : List Nat) (l : List (List Nat)) : joinL [45] ((d ++ x) :: l) = d ++ joinL [45] (x :: l) := by
  cases l with
  | nil => rfl
  | cons y l => simp [joinL]
/-- a sign ahead of the first chunk -/
theorem mergeR_pre (d : Nat) (z : List Nat) (r : List (List Nat)) (h : z ≠ [] ∨ r = []) : ∃ a t, mergeR (z :: r) = a :: t ∧ mergeR ((d :: z) :: r) = (d :: a) :: t := by
  rw [mergeR, mergeR]
  cases hm : mergeR r with
  | nil => exact ⟨z, [], rfl, rfl⟩
  | cons y ys =>
    have hz : z ≠ [] := by
      rcases h with h | h
      · exact h
      · subst h; simp [mergeR] at hm
    have hl : (d :: z).getLastD 0 = z.getLastD 0 := by cases z with
      | nil => exact absurd rfl hz
      | cons a z => simp
    simp only []
    rw [hl]
    split
    · exact ⟨_, _, rfl, by rw [List.dropLast_cons_of_ne_nil hz]; rfl⟩
    · exact ⟨_, _, rfl, rfl⟩
theorem JJ_pre (d : Nat) (z : List Nat) (r : List (List Nat)) (h : z ≠ [] ∨ r = []) : JJ ((d :: z) :: r) = dressC d ++ JJ (z :: r) := by
  obtain ⟨a, t, e1, e2⟩ := mergeR_pre d z r h
  unfold JJ
  rw [e1, e2]
  simp only [List.map_cons, dressL_cons]
  exact joinL_pre _ _ _
theorem JJ_step (y : List Nat) (c d : Nat) (z : List Nat) (r : List (List Nat)) (h : z ≠ [] ∨ r = []) : JJ ((y ++ [c]) :: (d :: z) :: r) = dressL y ++ rangeT c d ++ JJ (z :: r) := by
  obtain ⟨a, t, e1, e2⟩ := mergeR_pre d z r h
  unfold JJ rangeT
  rw [mergeR, e2, e1]
  simp only [List.headD_cons, List.getLastD_concat, List.dropLast_concat, List.tail_cons]
  by_cases hcd : d < c
  · rw [if_pos hcd, if_neg (by omega)]
    simp only [List.map_cons, dressL_app, List.append_nil]
    exact joinL_pre _ _ _
  · rw [if_neg hcd, if_pos (by omega)]
    simp only [List.map_cons, dressL_app, dressL_cons]
    rw [joinL_cons _ _ (by simp), joinL_pre]
    simp [dressL]
/-- the chunks, told from the left -/
noncomputable def chU (u : List Nat) : List (List Nat) := match h : (u.drop 1).findIdx? (· == 45) with
  | none => [u]
  | some q => match h2 : u.drop (q + 2) with
    | [] => [u]
    | d :: z => if z.isEmpty then [u.take (q + 1), [d]] else (u.take (q + 1)) :: (match chU z with
      | [] => []
      | a :: t => (d :: a) :: t)
termination_by u.length
decreasing_by
  have := congrArg List.length h2
  rw [List.length_drop, List.length_cons] at this; omega
theorem chU_head (u : List Nat) (hu : u ≠ []) : ∃ a t, chU u = a :: t ∧ a ≠ [] := by
  rw [chU]
  split
  · exact ⟨u, [], rfl, hu⟩
  · split
    · exact ⟨u, [], rfl, hu⟩
    · rename_i q hq d z hz
      have ht : u.take (q + 1) ≠ [] := by
        cases u with
        | nil => exact absurd rfl hu
        | cons c u => simp
      split
      · exact ⟨_, _, rfl, ht⟩
      · exact ⟨_, _, rfl, ht⟩
theorem JJ_chU (u : List Nat) (hu : u ≠ []) : JJ (chU u) = memT u := by
  induction hn : u.length using Nat.strongRecOn generalizing u with
  | ind n ih =>
    have flat : ∀ u : List Nat, (∀ x ∈ u.tail.dropLast, x ≠ 45) → JJ [u] = memT u := fun u h => by
      rw [memT_flat u h]; rfl
    rw [chU]
    split
    · rename_i hq
      refine flat u fun x hx e => ?_
      subst e
      have := List.findIdx?_eq_none_iff.mp hq 45 (by rw [List.drop_one]; exact List.dropLast_subset _ hx)
      simp at this
    · rename_i q hq
      obtain ⟨hq0, hq2, hq3⟩ := List.findIdx?_eq_some_iff_getElem.mp hq
      have hq1 := hq0
      rw [List.length_drop] at hq1
      have hq1 : q + 1 < u.length := Nat.add_lt_of_lt_sub hq1
      have h45 : u[q + 1]'(by omega) = 45 := by
        have : (u.drop 1)[q]'hq0 = 45 := by simpa using hq2
        rw [List.getElem_drop] at this
        simpa [Nat.add_comm] using this
      have hbefore : ∀ i (hi : i < u.length), 1 ≤ i → i < q + 1 → u[i] ≠ 45 := fun i hi h1 h2 => by
        have := hq3 (i - 1) (by omega)
        rw [List.getElem_drop] at this
        have e : 1 + (i - 1) = i := by omega
        simp only [e] at this
        simpa using this
      split
      · rename_i hd
        have hlen : u.length = q + 2 := by
          have := congrArg List.length hd
          rw [List.length_drop, List.length_nil] at this; omega
        refine flat u fun x hx => ?_
        obtain ⟨i, hi, rfl⟩ := List.getElem_of_mem hx
        rw [List.length_dropLast, List.length_tail] at hi
        rw [List.getElem_dropLast, List.getElem_tail]
        exact hbefore (i + 1) (by omega) (by omega) (by omega)
      · rename_i d z hd
        have hul : u = u.take (q + 1) ++ 45 :: d :: z := by
          have h1 : u.drop (q + 1) = 45 :: d :: z := by rw [List.drop_eq_getElem_cons (by omega), h45, hd]
          rw [← h1, List.take_append_drop]
        obtain ⟨y, c, hy⟩ : ∃ y c, u.take (q + 1) = y ++ [c] := by
          rcases List.eq_nil_or_concat (u.take (q + 1)) with e | ⟨y, c, e⟩
          · have := congrArg List.length e
            rw [List.length_take, List.length_nil] at this; omega
          · exact ⟨y, c, by rw [e, List.concat_eq_append]⟩
        have hrun : memT u = dressL y ++ rangeT c d ++ memT z := by
          conv => lhs; rw [hul, hy]
          rw [List.append_assoc]
          refine memT_run y c d z fun x hx => ?_
          rw [← hy] at hx
          obtain ⟨i, hi, rfl⟩ := List.getElem_of_mem hx
          rw [List.length_tail, List.length_take] at hi
          rw [List.getElem_tail, List.getElem_take]
          exact hbefore (i + 1) (by omega) (by omega) (by omega)
        rw [hrun, hy]
        split
        · rename_i hz
          have hz' : z = [] := by simpa using hz
          subst hz'
          rw [JJ_step y c d [] [] (.inr rfl)]
          simp [memT, JJ, mergeR, joinL, dressL]
        · rename_i hz
          have hz' : z ≠ [] := by simpa using hz
          obtain ⟨a, t, e, ha⟩ := chU_head z hz'
          rw [e]
          simp only []
          rw [JJ_step y c d a t (.inl ha), ← e, ih z.length (by rw [← hn, hul]; simp; omega) z hz' rfl]
/-- the chunks by places are the chunks from the left -/
noncomputable def finC (s : List Nat) (r : List (List Nat) × Nat) : List (List Nat) := if (s.drop r.2).isEmpty then r.1.dropLast ++ [r.1.getLastD [] ++ [45]] else r.1 ++ [s.drop r.2]
theorem finC_cons (s : List Nat) (x : List Nat) (r : List (List Nat) × Nat) (h : r.1 = [] → (s.drop r.2).isEmpty = false) : finC s (x :: r.1, r.2) = x :: finC s r := by
  unfold finC
  simp only []
  cases he : (s.drop r.2).isEmpty with
  | false => simp
  | true =>
    have hne : r.1 ≠ [] := fun q => by rw [h q] at he; cases he
    simp only [if_true]
    cases hr : r.1 with
    | nil => exact absurd hr hne
    | cons y ys => simp [List.getLastD_cons]
theorem cuts_chU (s : List Nat) (a b : Nat) (hab : a < b) (ha : a < s.length) :
    (∀ u, u = s.drop (b - 1) → u ≠ [] → ∃ h t, chU u = h :: t ∧ finC s (cuts s a b) = ((s.take (b - 1)).drop a ++ h) :: t) ∧ (s.drop (b - 1) = [] → finC s (cuts s a b) = [s.drop a]) := by
  fun_induction cuts s a b with
  | case1 a b hq =>
    have hsa : (s.drop a).isEmpty = false := by
      cases e : s.drop a with
      | nil => have := congrArg List.length e; rw [List.length_drop, List.length_nil] at this; omega
      | cons x r => rfl
    have hf : finC s ([], a) = [s.drop a] := by unfold finC; simp only [hsa]; rfl
    refine ⟨fun u hu hne => ?_, fun _ => hf⟩
    subst hu
    have hdb : (s.drop (b - 1)).drop 1 = s.drop b := by rw [List.drop_drop]; congr 1; omega
    refine ⟨s.drop (b - 1), [], ?_, ?_⟩
    · rw [chU]
      split
      · rfl
      · rename_i q hq'; rw [hdb, hq] at hq'; cases hq'
    · rw [hf]
      congr 1
      have : s.drop a = (s.take (b - 1)).drop a ++ s.drop (b - 1) := by
        have hle : a ≤ (s.take (b - 1)).length := by
          rw [List.length_take]
          have : b - 1 < s.length := by
            have := List.length_pos_iff.mpr hne
            rw [List.length_drop] at this; omega
          omega
        conv => lhs; rw [← List.take_append_drop (b - 1) s]
        rw [List.drop_append_of_le_length hle]
      exact this
  | case2 a b d hq r ih =>
    obtain ⟨hd0, hd2, hd3⟩ := List.findIdx?_eq_some_iff_getElem.mp hq
    have hd1 := hd0
    rw [List.length_drop] at hd1
    have hd1 : b + d < s.length := Nat.add_lt_of_lt_sub' hd1
    have hsd : s[b + d]'(by omega) = 45 := by
      have : (s.drop b)[d]'hd0 = 45 := by simpa using hd2
      rwa [List.getElem_drop] at this
    refine ⟨fun u hu hne => ?_, fun h0 => ?_⟩
    · subst hu
      have hdb : (s.drop (b - 1)).drop 1 = s.drop b := by rw [List.drop_drop]; congr 1; omega
      have hd4 : (s.drop (b - 1)).drop (d + 2) = s.drop (b + d + 1) := by rw [List.drop_drop]; congr 1; omega
      have htk : (s.take (b + d)).drop a = (s.take (b - 1)).drop a ++ (s.drop (b - 1)).take (d + 1) := by
        have e1 : s.take (b + d) = s.take (b - 1) ++ (s.drop (b - 1)).take (d + 1) := by
          rw [show b + d = (b - 1) + (d + 1) by omega, List.take_add]
        rw [e1, List.drop_append_of_le_length (by rw [List.length_take]; omega)]
      by_cases hend : b + d + 1 < s.length
      · have ih := ih (by omega) hend
        have hr1 : r.1 = [] → (s.drop r.2).isEmpty = false := fun q => by
          have := (cuts_len s (b + d + 1) (b + d + 3) (by omega) (Nat.le_add_right (b + d + 1) 2)).2.2 q
          have e : r.2 = b + d + 1 := this
          rw [e]
          cases e : s.drop (b + d + 1) with
          | nil => have := congrArg List.length e; rw [List.length_drop, List.length_nil] at this; omega
          | cons x r => rfl
        have hz : s.drop (b + d + 1) = s[b + d + 1] :: s.drop (b + d + 2) := List.drop_eq_getElem_cons hend
        rw [finC_cons s _ r hr1]
        rw [show b + d + 3 - 1 = b + d + 2 by omega] at ih
        by_cases hzz : s.drop (b + d + 2) = []
        · have := ih.2 hzz
          refine ⟨(s.drop (b - 1)).take (d + 1), [[s[b + d + 1]]], ?_, ?_⟩
          · rw [chU]
            split
            · rename_i hq'; rw [hdb, hq] at hq'; cases hq'
            · rename_i q hq'
              rw [hdb, hq] at hq'; cases hq'
              split
              · rename_i hh; rw [hd4, hz] at hh; cases hh
              · rename_i d' z' hh
                rw [hd4, hz] at hh; cases hh
                rw [if_pos (by rw [hzz]; rfl)]
          · rw [htk, this, hz, hzz]
        · obtain ⟨h, t, e1, e2⟩ := ih.1 _ rfl hzz
          refine ⟨(s.drop (b - 1)).take (d + 1), (s[b + d + 1] :: h) :: t, ?_, ?_⟩
          · rw [chU]
            split
            · rename_i hq'; rw [hdb, hq] at hq'; cases hq'
            · rename_i q hq'
              rw [hdb, hq] at hq'; cases hq'
              split
              · rename_i hh; rw [hd4, hz] at hh; cases hh
              · rename_i d' z' hh
                rw [hd4, hz] at hh; cases hh
                rw [if_neg (by simpa using hzz), e1]
          · rw [htk]
            have hpre : (s.take (b + d + 2)).drop (b + d + 1) = [s[b + d + 1]] := by
              rw [List.drop_take, show b + d + 2 - (b + d + 1) = 1 by omega, hz]; rfl
            rw [show r = cuts s (b + d + 1) (b + d + 3) from rfl, e2, hpre]; rfl
      · have hlen : s.length = b + d + 1 := by omega
        have hr : r = ([], b + d + 1) := by
          show cuts s (b + d + 1) (b + d + 3) = _
          exact cuts_none (by rw [List.drop_eq_nil_of_le (by omega)]; rfl)
        refine ⟨s.drop (b - 1), [], ?_, ?_⟩
        · rw [chU]
          split
          · rfl
          · rename_i q hq'
            rw [hdb, hq] at hq'; cases hq'
            split
            · rfl
            · rename_i d' z' hh
              rw [hd4, List.drop_eq_nil_of_le (by omega)] at hh; cases hh
        · rw [hr]
          unfold finC
          simp only []
          rw [List.drop_eq_nil_of_le (by omega)]
          simp only [List.isEmpty_nil, if_true, List.dropLast_singleton, List.nil_append]
          rw [show ∀ x : List Nat, [x].getLastD [] = x from fun _ => rfl, htk, List.append_assoc]
          have hX : (s.drop (b - 1)).take (d + 1) ++ [45] = s.drop (b - 1) := by
            have h1 : (s.drop (b - 1)).drop (d + 1) = [45] := by
              rw [List.drop_drop, show b - 1 + (d + 1) = b + d by omega, List.drop_eq_getElem_cons (by omega), hsd, List.drop_eq_nil_of_le (by omega)]
            rw [← h1, List.take_append_drop]
          rw [hX]
    · have := congrArg List.length h0
      rw [List.length_drop, List.length_nil] at this; omega
/-- the heart: a bracket's text is its members from the left -/
theorem stuff_told (s : List Nat) (hs : s ≠ []) : stuffB s = if s.head? = some 33 then 33 :: memT s.tail else memT s := by
  unfold stuffB
  cases h45 : s.contains 45 with
  | false =>
    simp only [Bool.false_eq_true, if_false]
    have hn : 45 ∉ s := by simpa using h45
    have hm : ∀ u : List Nat, 45 ∉ u → memT u = dressL u := fun u hu => memT_flat u fun x hx e => hu (by
      subst e; exact List.mem_of_mem_tail (List.dropLast_subset _ hx))
    rw [twS_plain s hn]
    split
    · rename_i h33
      cases s with
      | nil => exact absurd rfl hs
      | cons c r =>
        simp at h33; subst h33
        simp at hn
        rw [List.tail_cons, hm r hn, dressL_cons]; rfl
    · rw [hm s hn]
  | true =>
    simp only [if_true]
    rw [twS_join]
    have hc0 : ∀ k, chunks0 s k = finC s (cuts s 0 k) := fun k => rfl
    have hJ : ∀ l, joinL [45] ((mergeR l).map dressL) = JJ l := fun l => rfl
    rw [hJ, hc0]
    split
    · rename_i h33
      cases s with
      | nil => exact absurd rfl hs
      | cons c r =>
        simp at h33; subst h33
        have hr : r ≠ [] := by rintro rfl; simp at h45
        obtain ⟨h, t, e1, e2⟩ := (cuts_chU (33 :: r) 0 2 (by omega) (by simp)).1 r rfl hr
        rw [e2]
        show JJ ((33 :: h) :: t) = _
        have hh : h ≠ [] := by
          obtain ⟨a, t', e, ha⟩ := chU_head r hr
          rw [e1] at e; cases e; exact ha
        rw [JJ_pre 33 h t (.inl hh), ← e1, JJ_chU r hr]
        rfl
    · obtain ⟨h, t, e1, e2⟩ := (cuts_chU s 0 1 (by omega) (by cases s with | nil => exact absurd rfl hs | cons c r => simp)).1 s rfl hs
      rw [e2]
      show JJ (h :: t) = _
      rw [← e1, JJ_chU s hs]
theorem brk_told (s : List Nat) (hs : s ≠ []) : brkT s = lawB s := by
  unfold brkT lawB; rw [stuff_told s hs]
end

section
open PySem PySem.W PyProof.Rows
set_option linter.unusedVariables false
set_option linter.unusedSimpArgs false
set_option maxRecDepth 100000
/-! law 06: the plain part -/
theorem at_len (x y : List Nat) : (x ++ y)[x.length]? = y.head? := by
  rw [List.getElem?_append_right (Nat.le_refl _), Nat.sub_self]; cases y <;> rfl
theorem sl_len (x y : List Nat) (j k : Nat) : ((x ++ y).take (x.length + k)).drop (x.length + j) = (y.take k).drop j := by
  rw [List.take_length_add_append, List.drop_length_add_append]
theorem sl_len0 (x y : List Nat) (k : Nat) : ((x ++ y).take (x.length + k)).drop x.length = y.take k := sl_len x y 0 k
noncomputable abbrev Pt := List (Option (List Nat))
noncomputable def grp : List Nat := [40, 63, 62, 46, 42, 63]
noncomputable def hasN : Pt → Bool
  | [] => false
  | none :: _ => true
  | some _ :: r => hasN r
noncomputable def mtx : Bool → Pt → List Nat
  | _, [] => []
  | g, some s :: r => s ++ mtx g r
  | g, none :: r => (if g then [41] else []) ++ (if hasN r then grp ++ mtx true r else 46 :: 42 :: mtx false r)
/-- the text from a star on -/
noncomputable def starX (r : Pt) : List Nat := if hasN r then grp ++ mtx true r else 46 :: 42 :: mtx false r
theorem mtx_none (g : Bool) (r : Pt) : mtx g (none :: r) = (if g then [41] else []) ++ starX r := rfl
theorem mtx_lead (g : Bool) : ∀ L : Pt, mtx g L = (leadI L).flatten ++ mtx g (L.drop (leadI L).length) ∧ (hasN L = false ↔ L.drop (leadI L).length = [])
  | [] => ⟨rfl, by simp [hasN]⟩
  | none :: r => ⟨rfl, by simp [hasN, leadI]⟩
  | some t :: r => by
      obtain ⟨h1, h2⟩ := mtx_lead g r
      refine ⟨?_, h2⟩
      show t ++ mtx g r = (t :: leadI r).flatten ++ mtx g (r.drop (leadI r).length)
      rw [h1, List.flatten_cons, List.append_assoc]
theorem lead_split : ∀ L : List (Option (List Nat)), L = (leadI L).map some ++ L.drop (leadI L).length ∧ (L.drop (leadI L).length = [] ∨ ∃ r, L.drop (leadI L).length = none :: r)
  | [] => ⟨rfl, .inl rfl⟩
  | none :: r => ⟨rfl, .inr ⟨r, rfl⟩⟩
  | some t :: r => by
      obtain ⟨h1, h2⟩ := lead_split r
      refine ⟨?_, h2⟩
      show _ = some t :: ((leadI r).map some ++ r.drop (leadI r).length)
      rw [← h1]
theorem jr_nil : jrI [] = [] := by rw [jrI]; intro r e; cases e
/-- a star with a run behind it and another star -/
theorem jr_grp {r : List (Option (List Nat))} (h : r.drop (leadI r).length ≠ []) : (jrI (none :: r)).flatten = grp ++ ((leadI r).flatten ++ (41 :: (jrI (r.drop (leadI r).length)).flatten)) := by
  rw [jrI, if_neg (by intro q; have : r = [] := by simpa using q
                      rw [this] at h; exact h rfl)]
  simp only []
  rw [if_neg (by simpa using h)]
  simp [grp]
/-- the last star and its run -/
theorem jr_tail {r : List (Option (List Nat))} (h : r.drop (leadI r).length = []) : (jrI (none :: r)).flatten = [46, 42] ++ (leadI r).flatten := by
  rw [jrI]
  by_cases hr : r = []
  · subst hr; rfl
  · rw [if_neg (by simpa using hr)]
    simp only []
    rw [if_pos (by rw [h]; rfl)]
    simp
theorem jr_star : ∀ (k : Nat) (r : Pt), r.length ≤ k → (jrI (none :: r)).flatten = starX r := by
  intro k
  induction k with
  | zero =>
    intro r hr
    have : r = [] := List.length_eq_zero_iff.mp (Nat.le_zero.mp hr)
    subst this
    rw [jr_tail rfl]; rfl
  | succ k ih =>
    intro r hr
    have hs := lead_split r
    by_cases h : r.drop (leadI r).length = []
    · rw [jr_tail h, starX, (mtx_lead false r).2.mpr h, (mtx_lead false r).1, h]
      simp [mtx]
    · have hn : hasN r = true := by
        cases e : hasN r with
        | true => rfl
        | false => exact absurd ((mtx_lead false r).2.mp e) h
      obtain ⟨r', e⟩ := hs.2.resolve_left h
      rw [jr_grp h, starX, hn, if_pos rfl, (mtx_lead true r).1, e, mtx_none, if_pos rfl]
      rw [ih r' (by have := congrArg List.length e; rw [List.length_drop, List.length_cons] at this; omega)]
      simp
theorem joinI_mtx (L : Pt) : joinI L = [40, 63, 115, 58] ++ (mtx false L ++ [41, 92, 90]) := by
  have hs := lead_split L
  unfold joinI
  rw [(mtx_lead false L).1, List.flatten_append]
  rcases hs.2 with e | ⟨r, e⟩
  · rw [e, jr_nil]; simp [mtx]
  · rw [e, jr_star _ r (Nat.le_refl _), mtx_none]; simp
theorem tw_93 (t r : List Nat) (h : 93 ∉ t) : (t ++ 93 :: r).takeWhile (fun c => c != 93) = t := by
  induction t with
  | nil => rfl
  | cons c t ih =>
    simp only [List.mem_cons, not_or] at h
    rw [List.cons_append, List.takeWhile_cons_of_pos (by simp; exact fun e => h.1 e.symm), ih h.2]
theorem skip_a (r : List Nat) : skipB (33 :: 93 :: r) = 2 := rfl
theorem skip_b (c : Nat) (r : List Nat) (h : c ≠ 93) : skipB (33 :: c :: r) = 1 := by
  show (if (some c : Option Nat) = some 93 then 2 else 1) = 1
  rw [if_neg (by simpa using h)]
theorem skip_c (r : List Nat) : skipB (93 :: r) = 1 := rfl
theorem skip_d (c : Nat) (r : List Nat) (h33 : c ≠ 33) (h : c ≠ 93) : skipB (c :: r) = 0 := by unfold skipB; simp [h33, h]
theorem endB_at (b : Bool) (c : Nat) (t r : List Nat) (h : 93 ∉ t) (hb : b = false → c ≠ 33) : endB ((if b then [33] else []) ++ c :: t ++ 93 :: r) = ((if b then [33] else []) ++ c :: t).length := by
  unfold endB
  cases b with
  | true =>
    show skipB (33 :: c :: (t ++ 93 :: r)) + (((33 :: c :: (t ++ 93 :: r)).drop (skipB (33 :: c :: (t ++ 93 :: r)))).takeWhile _).length = (33 :: c :: t).length
    by_cases hc : c = 93
    · subst hc
      rw [skip_a]
      show 2 + ((t ++ 93 :: r).takeWhile _).length = _
      rw [tw_93 t r h]; simp only [List.length_cons]; omega
    · rw [skip_b c _ hc]
      show 1 + ((c :: (t ++ 93 :: r)).takeWhile _).length = _
      rw [List.takeWhile_cons_of_pos (by simpa using hc), tw_93 t r h]; simp only [List.length_cons]; omega
  | false =>
    have hc33 := hb rfl
    show skipB (c :: (t ++ 93 :: r)) + (((c :: (t ++ 93 :: r)).drop (skipB (c :: (t ++ 93 :: r)))).takeWhile _).length = (c :: t).length
    by_cases hc : c = 93
    · subst hc
      rw [skip_c]
      show 1 + ((t ++ 93 :: r).takeWhile _).length = _
      rw [tw_93 t r h]; simp only [List.length_cons]; omega
    · rw [skip_d c _ hc33 hc]
      show 0 + ((c :: (t ++ 93 :: r)).takeWhile _).length = _
      rw [List.takeWhile_cons_of_pos (by simpa using hc), tw_93 t r h]; simp only [List.length_cons]; omega
theorem step_brk (b : Bool) (c : Nat) (t r : List Nat) (acc : Pt) (h : 93 ∉ t) (hb : b = false → c ≠ 33) :
    trI [46] (91 :: ((if b then [33] else []) ++ c :: t ++ 93 :: r)) acc = trI [46] r (acc ++ [some (brkU ((if b then [33] else []) ++ memT (c :: t)))]) := by
  have hE := endB_at b c t r h hb
  have e1 : ((if b then [33] else []) ++ c :: t ++ 93 :: r).take (endB ((if b then [33] else []) ++ c :: t ++ 93 :: r)) = (if b then [33] else []) ++ c :: t := by rw [hE, List.take_left]
  have e2 : ((if b then [33] else []) ++ c :: t ++ 93 :: r).drop (endB ((if b then [33] else []) ++ c :: t ++ 93 :: r) + 1) = r := by
    rw [hE, show (if b then [33] else []) ++ c :: t ++ 93 :: r = ((if b then [33] else []) ++ c :: t ++ [93]) ++ r from List.append_cons _ 93 r]
    exact List.drop_left' (by rw [List.length_append]; rfl)
  have e3 : brkT ((if b then [33] else []) ++ c :: t) = brkU ((if b then [33] else []) ++ memT (c :: t)) := by
    rw [brk_told _ (by simp)]
    unfold lawB
    cases b with
    | true => rfl
    | false =>
      show brkU (if some c = some 33 then _ else memT (c :: t)) = _
      rw [if_neg (by simpa using hb rfl)]; rfl
  rw [trI, if_neg (by decide), if_neg (by decide), if_pos rfl, if_neg (by rw [hE]; simp), e1, e2, e3]
theorem joinI_len (l : List (Option (List Nat))) : (joinI l).length ≤ 7 + sumI l + 10 * l.length := by
  have h1 := lead_sum l
  have h2 := (jr_len (l.drop (leadI l).length)).2
  rw [List.length_drop] at h2
  have h2 := Nat.le_trans h2 (Nat.add_le_add_left (Nat.mul_le_mul_left 10 (Nat.sub_le l.length (leadI l).length)) _)
  unfold joinI
  rw [List.flatten_append, List.length_append, List.length_append, List.length_append, List.length_cons, List.length_cons, List.length_cons, List.length_cons, List.length_cons, List.length_cons, List.length_cons, List.length_nil]
  omega
/-! rows -/
noncomputable def clB : List Nat → Bool
  | [] => true
  | 92 :: _ :: r => clB r
  | [92] => false
  | c :: r => c != 93 && clB r
/-- what the reader takes for one part -/
inductive Rd : List Nat → Prop
  | no : Rd [40, 63, 33, 41]
  | esc (c : Nat) : Rd [92, c]
  | set (f s : Bool) (b : List Nat) (h : clB b = true) (h1 : f = false → s = false → b.head? ≠ some 94) (h2 : s = false → b ≠ []) : Rd (91 :: ((if f then [94] else []) ++ ((if s then [93] else []) ++ (b ++ [93]))))
  | one (c : Nat) (h : c ≠ 40 ∧ c ≠ 41 ∧ c ≠ 91 ∧ c ≠ 92 ∧ c ≠ 42) : Rd [c]
structure OkLf (p q : List Nat) : Prop where
  tr : ∀ r acc, trI [46] (p ++ r) acc = trI [46] r (acc ++ [some q])
  rd : Rd q
  lp : p.length ≤ 10
  lq : q.length ≤ 10
inductive Rw where
  | nil
  | star (r : Rw)
  | leaf (p q : List Nat) (r : Rw)
  | row (c r : Rw)
namespace Rw
noncomputable def app : Rw → Rw → Rw
  | .nil, B => B
  | .star r, B => .star (app r B)
  | .leaf p q r, B => .leaf p q (app r B)
  | .row c r, B => .row c (app r B)
noncomputable def vals : Rw → List PV
  | .nil => []
  | .star r => .str [42] :: vals r
  | .leaf p q r => .tuple [.str p, .str q] :: vals r
  | .row c r => .list (vals c) :: vals r
noncomputable def tval : Rw → List PV
  | .nil => []
  | .star r => .str [42] :: tval r
  | .leaf _ q r => .str q :: tval r
  | .row c r => .list (tval c) :: tval r
noncomputable def pts : Rw → Pt
  | .nil => []
  | .star r => none :: pts r
  | .leaf _ q r => some q :: pts r
  | .row c r => some (joinI (pts c)) :: pts r
noncomputable def size : Rw → Nat
  | .nil => 0
  | .star r => size r + 1
  | .leaf _ _ r => size r + 1
  | .row c r => size c + size r + 1
noncomputable def depth : Rw → Nat
  | .nil => 0
  | .star r => depth r
  | .leaf _ _ r => depth r
  | .row c r => max (depth c + 1) (depth r)
noncomputable def ok : Bool → Rw → Prop
  | _, .nil => True
  | s, .star r => s = false ∧ ok true r
  | _, .leaf p q r => OkLf p q ∧ ok false r
  | _, .row c r => ok false c ∧ ok false r
noncomputable def last : Bool → Rw → Bool
  | s, .nil => s
  | _, .star r => last true r
  | _, .leaf _ _ r => last false r
  | _, .row _ r => last false r
theorem size_app (B : Rw) : ∀ A : Rw, (A.app B).size = A.size + B.size
  | .nil => (Nat.zero_add _).symm
  | .star r => by rw [app, size, size, size_app B r]; omega
  | .leaf _ _ r => by rw [app, size, size, size_app B r]; omega
  | .row c r => by rw [app, size, size, size_app B r]; omega
theorem depth_app (B : Rw) (k : Nat) (hB : B.depth ≤ k) : ∀ A : Rw, A.depth ≤ k → (A.app B).depth ≤ k
  | .nil, _ => hB
  | .star r, h => depth_app B k hB r h
  | .leaf _ _ r, h => depth_app B k hB r h
  | .row c r, h => by
      rw [depth, Nat.max_le] at h
      rw [app, depth, Nat.max_le]; exact ⟨h.1, depth_app B k hB r h.2⟩
theorem ok_app (B : Rw) : ∀ (A : Rw) (s : Bool), ok s A → ok (last s A) B → ok s (A.app B)
  | .nil, _, _, h => h
  | .star r, _, a, h => ⟨a.1, ok_app B r _ a.2 h⟩
  | .leaf _ _ r, _, a, h => ⟨a.1, ok_app B r _ a.2 h⟩
  | .row c r, _, a, h => ⟨a.1, ok_app B r _ a.2 h⟩
theorem sum_cons (o : Option (List Nat)) (L : Pt) : sumI (o :: L) = (o.getD []).length + sumI L := by
  cases o <;> simp [sumI]
theorem sum_le : ∀ (r : Rw) (s : Bool), ok s r → sumI (pts r) + 10 * (pts r).length ≤ 20 * r.size
  | .nil, _, _ => Nat.le_refl _
  | .star r, s, h => by
      have := sum_le r _ h.2
      rw [pts, sum_cons, List.length_cons, size]; simp only [Option.getD, List.length_nil]; omega
  | .leaf p q r, s, h => by
      have h1 := sum_le r _ h.2
      have h2 := h.1.lq
      rw [pts, sum_cons, List.length_cons, size]; simp only [Option.getD]; omega
  | .row c r, s, h => by
      have h1 := sum_le r _ h.2
      have h2 := sum_le c _ h.1
      have h3 := joinI_len (pts c)
      rw [pts, sum_cons, List.length_cons, size]; simp only [Option.getD]; omega
theorem join_le {r : Rw} {s : Bool} (h : ok s r) : (joinI (pts r)).length ≤ 7 + 20 * r.size := by
  have h1 := sum_le r s h
  have h2 := joinI_len (pts r)
  omega
theorem noDbl_pts : ∀ (r : Rw) (s : Bool), ok s r → noDbl (pts r) = true ∧ (s = true → (pts r).head? ≠ some none)
  | .nil, _, _ => ⟨rfl, fun _ q => nomatch q⟩
  | .star r, s, h => by
      obtain ⟨h1, h2⟩ := noDbl_pts r _ h.2
      refine ⟨?_, fun e => by rw [h.1] at e; cases e⟩
      show noDbl (none :: pts r) = true
      cases hp : pts r with
      | nil => rfl
      | cons o L =>
        cases o with
        | none => exact absurd (by rw [hp]; rfl) (h2 rfl)
        | some t => rw [hp] at h1; exact h1
  | .leaf p q r, s, h => ⟨(noDbl_pts r _ h.2).1, fun _ q => by simp [pts] at q⟩
  | .row c r, s, h => ⟨(noDbl_pts r _ h.2).1, fun _ q => by simp [pts] at q⟩
end Rw
/-! the leaves -/
noncomputable def lfs : List (List Nat × List Nat) := [([63], [46]), ([97], [97]), ([46], [92, 46]), ([41], [92, 41]), ([40], [92, 40]), ([124], [92, 124]), ([92], [92, 92]), ([93], [92, 93]), ([33], [33]),
  ([91, 98, 45, 97, 93], [40, 63, 33, 41]), ([91, 33, 98, 45, 97, 93], [46]), ([91, 93, 93], [91, 93, 93]), ([91, 33, 93, 93], [91, 94, 93, 93]), ([91, 94, 93], [91, 92, 94, 93]), ([91, 33, 94, 93], [91, 94, 94, 93]),
  ([91, 91, 93], [91, 92, 91, 93]), ([91, 41, 124, 93], [91, 41, 92, 124, 93]), ([91, 40, 63, 115, 58, 93], [91, 40, 63, 115, 58, 93]), ([91, 92, 93], [91, 92, 92, 93]), ([91, 97, 45, 99, 45, 93], [91, 97, 45, 99, 92, 45, 93]),
  ([91, 98, 45, 97, 33, 45, 122, 93], [91, 94, 45, 122, 93]), ([91, 93, 45, 97, 41, 93], [91, 93, 45, 97, 41, 93]), ([90], [90])]
theorem lf_sign {c : Nat} (h42 : c ≠ 42) (h63 : c ≠ 63) (h91 : c ≠ 91) (h : Rd (escC c)) : OkLf [c] (escC c) := by
  refine ⟨fun r acc => ?_, h, (show 1 ≤ 10 by decide), ?_⟩
  · show trI [46] (c :: r) acc = _
    rw [trI, if_neg h42, if_neg h63, if_neg h91]
  · unfold escC; split
    · exact (show 2 ≤ 10 by decide)
    · exact (show 1 ≤ 10 by decide)
theorem lf_brk (b : Bool) (c : Nat) (t : List Nat) {p q : List Nat} (h : 93 ∉ t) (hb : b = false → c ≠ 33) (hp : p = 91 :: ((if b then [33] else []) ++ c :: t ++ [93])) (hq : brkU ((if b then [33] else []) ++ memT (c :: t)) = q) (rd : Rd q) (lp : p.length ≤ 10) (lq : q.length ≤ 10) : OkLf p q := by
  refine ⟨fun r acc => ?_, rd, lp, lq⟩
  have := step_brk b c t r acc h hb
  rw [hq] at this
  rw [hp, ← this]
  simp
theorem lf_all : ∀ x ∈ lfs, OkLf x.1 x.2 := by
  have q1 : OkLf [63] [46] := ⟨fun r acc => by show trI [46] (63 :: r) acc = _; rw [trI, if_neg (by decide), if_pos rfl], .one 46 (by decide), by decide, by decide⟩
  have sg : ∀ c, c ≠ 42 → c ≠ 63 → c ≠ 91 → c ≠ 40 ∧ c ≠ 41 ∧ c ≠ 91 ∧ c ≠ 92 ∧ c ≠ 42 → escC c = [c] → OkLf [c] [c] := fun c a b d e f => by
    have := lf_sign a b d (by rw [f]; exact .one c e)
    rwa [f] at this
  have sp : ∀ c, c ≠ 42 → c ≠ 63 → c ≠ 91 → escC c = [92, c] → OkLf [c] [92, c] := fun c a b d f => by
    have := lf_sign a b d (by rw [f]; exact .esc c)
    rwa [f] at this
  simp only [lfs, List.forall_mem_cons]
  refine ⟨q1, sg 97 (by decide) (by decide) (by decide) (by decide) (by decide), sp 46 (by decide) (by decide) (by decide) (by decide), sp 41 (by decide) (by decide) (by decide) (by decide), sp 40 (by decide) (by decide) (by decide) (by decide),
    sp 124 (by decide) (by decide) (by decide) (by decide), sp 92 (by decide) (by decide) (by decide) (by decide), sp 93 (by decide) (by decide) (by decide) (by decide), sg 33 (by decide) (by decide) (by decide) (by decide) (by decide),
    lf_brk false 98 [45, 97] (by decide) (by decide) rfl rfl .no (by decide) (by decide), lf_brk true 98 [45, 97] (by decide) (by decide) rfl rfl (.one 46 (by decide)) (by decide) (by decide),
    lf_brk false 93 [] (by decide) (by decide) rfl rfl (.set false true [] rfl (fun _ e => by cases e) (fun e => by cases e)) (by decide) (by decide), lf_brk true 93 [] (by decide) (by decide) rfl rfl (.set true true [] rfl (fun e => by cases e) (fun e => by cases e)) (by decide) (by decide),
    lf_brk false 94 [] (by decide) (by decide) rfl rfl (.set false false [92, 94] rfl (fun _ _ => by decide) (fun _ => by decide)) (by decide) (by decide), lf_brk true 94 [] (by decide) (by decide) rfl rfl (.set true false [94] rfl (fun e => by cases e) (fun _ => by decide)) (by decide) (by decide),
    lf_brk false 91 [] (by decide) (by decide) rfl rfl (.set false false [92, 91] rfl (fun _ _ => by decide) (fun _ => by decide)) (by decide) (by decide), lf_brk false 41 [124] (by decide) (by decide) rfl rfl (.set false false [41, 92, 124] rfl (fun _ _ => by decide) (fun _ => by decide)) (by decide) (by decide),
    lf_brk false 40 [63, 115, 58] (by decide) (by decide) rfl rfl (.set false false [40, 63, 115, 58] rfl (fun _ _ => by decide) (fun _ => by decide)) (by decide) (by decide), lf_brk false 92 [] (by decide) (by decide) rfl rfl (.set false false [92, 92] rfl (fun _ _ => by decide) (fun _ => by decide)) (by decide) (by decide),
    lf_brk false 97 [45, 99, 45] (by decide) (by decide) rfl rfl (.set false false [97, 45, 99, 92, 45] rfl (fun _ _ => by decide) (fun _ => by decide)) (by decide) (by decide), lf_brk false 98 [45, 97, 33, 45, 122] (by decide) (by decide) rfl rfl (.set true false [45, 122] rfl (fun e => by cases e) (fun _ => by decide)) (by decide) (by decide),
    lf_brk false 93 [45, 97, 41] (by decide) (by decide) rfl rfl (.set false true [45, 97, 41] rfl (fun _ e => by cases e) (fun e => by cases e)) (by decide) (by decide), sg 90 (by decide) (by decide) (by decide) (by decide) (by decide), fun x q => nomatch q⟩
theorem lf_c3 {c : Nat} (h : c = 42 ∨ c = 63 ∨ c = 91) : OkLf [91, 33, c, 93] [91, 94, c, 93] := by
  have k : clB [c] = true := by rcases h with rfl | rfl | rfl <;> rfl
  refine lf_brk true c [] (by decide) (fun e => by cases e) rfl ?_ (.set true false [c] k (fun e => by cases e) (fun _ => by simp)) (show 4 ≤ 10 by decide) (show 4 ≤ 10 by decide)
  rcases h with rfl | rfl | rfl <;> rfl
theorem rd_esc {c : Nat} (h42 : c ≠ 42) : Rd (escC c) := by
  unfold escC
  split
  · exact .esc c
  · rename_i h
    refine .one c ⟨?_, ?_, ?_, ?_, h42⟩ <;> (rintro rfl; exact h (by decide))
/-! the text of a row, as the reader goes over it -/
theorem rd_ne {q : List Nat} (h : Rd q) : ∃ c t, q = c :: t ∧ c ≠ 42 ∧ c ≠ 41 := by
  cases h with
  | no => exact ⟨_, _, rfl, by decide, by decide⟩
  | esc c => exact ⟨_, _, rfl, by decide, by decide⟩
  | set f s b h => exact ⟨_, _, rfl, by decide, by decide⟩
  | one c h => exact ⟨_, _, rfl, h.2.2.2.2, h.2.1⟩
theorem joinI_40 (L : Pt) : ∃ t, joinI L = 40 :: 63 :: 115 :: 58 :: t := ⟨_, joinI_mtx L⟩
theorem mtx_42 (g : Bool) (r : Rw) (s : Bool) (h : r.ok s) (y : List Nat) : (mtx g r.pts ++ 41 :: y).head? ≠ some 42 := by
  cases r with
  | nil => simp [Rw.pts, mtx]
  | star r =>
    rw [Rw.pts, mtx_none]
    unfold starX grp
    cases g <;> cases hasN r.pts <;> simp
  | leaf p q r =>
    obtain ⟨c, t, rfl, hc, _⟩ := rd_ne h.1.rd
    simpa [Rw.pts, mtx] using hc
  | row c r =>
    obtain ⟨t, e⟩ := joinI_40 c.pts
    simp [Rw.pts, mtx, e]
/-! the texts of all trees with a | between them -/
noncomputable def J6 (Rs : List Rw) : List Nat := joinL [124] (Rs.map fun r => joinI r.pts)
noncomputable def rest6 : List Rw → List Nat
  | [] => []
  | r :: B => 124 :: J6 (r :: B)
theorem J6_cons (D : Rw) (B : List Rw) : J6 (D :: B) = joinI D.pts ++ rest6 B := by
  cases B with
  | nil => exact (List.append_nil _).symm
  | cons E r => show joinI D.pts ++ [124] ++ J6 (E :: r) = _; rw [List.append_assoc]; rfl
noncomputable def tot (Rs : List Rw) : Nat := (Rs.map fun r => r.size + 1).sum
theorem tot_cons (r : Rw) (B : List Rw) : tot (r :: B) = r.size + 1 + tot B := by rw [tot, List.map_cons, List.sum_cons]; rfl
theorem tot_len : ∀ Rs : List Rw, Rs.length ≤ tot Rs
  | [] => Nat.le_refl _
  | r :: B => by have := tot_len B; rw [tot_cons, List.length_cons]; omega
theorem J6_len : ∀ Rs : List Rw, (∀ r ∈ Rs, r.ok false) → (J6 Rs).length ≤ 20 * tot Rs
  | [], _ => Nat.zero_le _
  | r :: B, h => by
      have h1 := Rw.join_le (h r (List.mem_cons_self ..))
      have h2 := J6_len B fun x q => h x (List.mem_cons_of_mem _ q)
      have h3 : (rest6 B).length ≤ 1 + (J6 B).length := by
        cases B with
        | nil => exact Nat.zero_le _
        | cons E r => show (124 :: J6 (E :: r)).length ≤ _; rw [List.length_cons]; omega
      rw [J6_cons, tot_cons, List.length_append]; omega
theorem plain_t : ∀ (d : Nat) (r : Rw), r.depth ≤ d → ∀ v ∈ r.tval, Plain d v
  | d, .nil, _ => fun v q => nomatch q
  | d, .star r, h => fun v q => by
      rcases List.mem_cons.mp q with rfl | q
      · exact .str _ _
      · exact plain_t d r h v q
  | d, .leaf p q r, h => fun v q => by
      rcases List.mem_cons.mp q with rfl | q
      · exact .str _ _
      · exact plain_t d r h v q
  | d, .row c r, h => fun v q => by
      rw [Rw.depth, Nat.max_le] at h
      rcases List.mem_cons.mp q with rfl | q
      · obtain ⟨e, rfl⟩ : ∃ e, d = e + 1 := ⟨d - 1, by omega⟩
        exact .list e _ (plain_t e c (by omega))
      · exact plain_t d r h.2 v q
end

section
open PySem PySem.W PyProof.Rows
set_option linter.unusedVariables false
set_option linter.unusedSimpArgs false
set_option maxRecDepth 100000
set_option maxHeartbeats 4000000
variable {G : GI}
/-! law 06: its functions -/
theorem f_leaf (V : Giv G) : FnOk G (Str.ofString "_law_leaf") [Str.ofString "number"] (scopeAt prog 11) (bodyAt prog 11) :=
  fnOk_of V.X V.g.gns rfl rfl rfl rfl rfl rfl rfl rfl rfl rfl rfl rfl (fun h => absurd (by rfl) h) (bd1 fun _ => rfl) rfl rfl rfl rfl rfl
theorem f_forest (V : Giv G) : FnOk G (Str.ofString "_law_forest") [Str.ofString "numbers"] (scopeAt prog 12) (bodyAt prog 12) :=
  fnOk_of V.X V.g.gns rfl rfl rfl rfl rfl rfl rfl rfl rfl rfl rfl rfl (fun h => absurd (by rfl) h) (bd1 fun _ => rfl) rfl rfl rfl rfl rfl
theorem f_text (V : Giv G) : FnOk G (Str.ofString "_law_text") [Str.ofString "row", Str.ofString "star"] (scopeAt prog 13) (bodyAt prog 13) :=
  fnOk_of V.X V.g.gns rfl rfl rfl rfl rfl rfl rfl rfl rfl rfl rfl rfl (fun h => absurd (by rfl) h) (bd2 fun _ _ => rfl) rfl rfl rfl rfl rfl
theorem f_told (V : Giv G) : FnOk G (Str.ofString "_law_told") [Str.ofString "row"] (scopeAt prog 14) (bodyAt prog 14) :=
  fnOk_of V.X V.g.gns rfl rfl rfl rfl rfl rfl rfl rfl rfl rfl rfl rfl (fun h => absurd (by rfl) h) (bd1 fun _ => rfl) rfl rfl rfl rfl rfl
theorem f_close (V : Giv G) : FnOk G (Str.ofString "_law_close") [Str.ofString "text", Str.ofString "place"] (scopeAt prog 15) (bodyAt prog 15) :=
  fnOk_of V.X V.g.gns rfl rfl rfl rfl rfl rfl rfl rfl rfl rfl rfl rfl (fun h => absurd (by rfl) h) (bd2 fun _ _ => rfl) rfl rfl rfl rfl rfl
theorem f_row (V : Giv G) : FnOk G (Str.ofString "_law_row") [Str.ofString "text", Str.ofString "place"] (scopeAt prog 16) (bodyAt prog 16) :=
  fnOk_of V.X V.g.gns rfl rfl rfl rfl rfl rfl rfl rfl rfl rfl rfl rfl (fun h => absurd (by rfl) h) (bd2 fun _ _ => rfl) rfl rfl rfl rfl rfl
theorem f_read (V : Giv G) : FnOk G (Str.ofString "_law_read") [Str.ofString "text"] (scopeAt prog 17) (bodyAt prog 17) :=
  fnOk_of V.X V.g.gns rfl rfl rfl rfl rfl rfl rfl rfl rfl rfl rfl rfl (fun h => absurd (by rfl) h) (bd1 fun _ => rfl) rfl rfl rfl rfl rfl
theorem f_law (G : GI) (V : Giv G) : FnOk G (Str.ofString "law") [Str.ofString "script"] (scopeAt prog 18) (bodyAt prog 18) :=
  fnOk_of V.X V.g.gns rfl rfl rfl rfl rfl rfl rfl rfl rfl rfl rfl rfl (fun h => absurd (by rfl) h) (bd1 fun _ => rfl) rfl rfl rfl rfl rfl
end

section
open PySem PySem.W PyProof.Rows
set_option linter.unusedVariables false
set_option linter.unusedSimpArgs false
set_option maxRecDepth 100000
set_option maxHeartbeats 4000000
variable {G : GI} {n : Nat} {hp : Hp}
/-! law 06: the leaves -/
theorem in_b {h : Hp} {c : Nat} {x : List Nat} {b : Bool} (e : x.contains c = b) : CmpR G .In h (.str [c]) (.str x) b := e ▸ d_in c x
theorem fmod_in (z m : Int) (hm : 0 < m) : 0 ≤ z.fmod m ∧ z.fmod m < m := ⟨Int.fmod_nonneg_of_pos z hm, Int.fmod_lt_of_pos z hm⟩
noncomputable def pvLf (x : List Nat × List Nat) : PV := .tuple [.str x.1, .str x.2]
theorem item_map {α : Type} {h : Hp} {f : α → PV} {P : List α} (hb : P.length ≤ 1000) (i : Int) (h0 : 0 ≤ i) (h1 : i < P.length) : ∃ x ∈ P, ItR G h (.tuple (P.map f)) (.int i) (f x) := by
  obtain ⟨k, rfl⟩ := Int.eq_ofNat_of_zero_le h0
  have hk : k < P.length := Int.ofNat_lt.mp h1
  exact ⟨P[k], List.getElem_mem _, it_tup (small_nat (big_ge (by omega))) (idx_nat (by rw [List.length_map]; exact hk)) (by rw [List.getElem?_map, List.getElem?_eq_getElem hk]; rfl)⟩
theorem frz_lf {k : Nat} (p q : List Nat) : FrzR G hp k (.tuple [.str p, .str q]) (.tuple [.str p, .str q]) := frz_tup (frl_cons frz_str (frl_cons frz_str frl_nil))
theorem c_leaf (V : Giv G) (k : Int) : CallW G n (Str.ofString "_law_leaf") [.int k] hp fun v h => (∃ p q, v = .tuple [.str p, .str q] ∧ OkLf p q) ∧ h = hp := by
  refine call_walk (fun _ => false) V.g V.po.nl (f_leaf V) rfl ?_
  dsimp only [updL]
  suffices after : ∀ T : List PV, T = lfs.map pvLf → stL G n ⟨scopeAt prog 11, fun _ => false⟩ ((bodyAt prog 11).drop 1) (upd (upd (fun _ => none) (Str.ofString "number") (.int k)) (Str.ofString "leaves") (.tuple T)) hp (EndC G hp fun v h => (∃ p q, v = .tuple [.str p, .str q] ∧ OkLf p q) ∧ h = hp) by
    ((first | with_reducible refine' stL_at ?hst ?_ | with_reducible refine' nx_next (stL_at ?hst ?_)); (case hst => exact rfl))
    simp_arith [wN]
    exact after _ rfl
  intro T hT
  obtain ⟨h0, h1⟩ := fmod_in k 24 (by decide)
  ((first | with_reducible refine' stL_at ?hst ?_ | with_reducible refine' nx_next (stL_at ?hst ?_)); (case hst => exact rfl))
  by_cases h : k.fmod 24 < 23
  · have q : (k.fmod 24 < 23) = True := eq_true h
    obtain ⟨x, hx, hd⟩ := @item_map G _ hp pvLf lfs (by decide) (k.fmod 24) h0 h
    rw [← hT] at hd
    have hd' : ItR G hp (.tuple T) (.int (k.fmod 24)) (.tuple [.str x.1, .str x.2]) := hd
    simp_arith [wN, show (24 : Int) ≠ 0 by decide, q, hd']
    exact endC_same (frz_lf _ _) ⟨⟨_, _, rfl, lf_all x hx⟩, rfl⟩
  · have q : (k.fmod 24 < 23) = False := eq_false h
    simp_arith [wN, show (24 : Int) ≠ 0 by decide, q]
    ((first | with_reducible refine' stL_at ?hst ?_ | with_reducible refine' nx_next (stL_at ?hst ?_)); (case hst => exact rfl))
    simp_arith [wN, show (24 : Int) ≠ 0 by decide, show (1112064 : Int) ≠ 0 by decide]
    have hm := fmod_in (k.fdiv 24) 1112064 (by decide)
    generalize (k.fdiv 24).fmod 1112064 = m at hm ⊢
    have last : ∀ (l : Loc) (i : Int), 0 ≤ i → i < 1114112 → l (Str.ofString "point") = some (.int i) → stL G n ⟨scopeAt prog 11, fun _ => false⟩ ((bodyAt prog 11).drop 4) l hp (EndC G hp fun v h => (∃ p q, v = .tuple [.str p, .str q] ∧ OkLf p q) ∧ h = hp) := by
      intro l i i0 i1 l1
      ((first | with_reducible refine' stL_at ?hst ?_ | with_reducible refine' nx_next (stL_at ?hst ?_)); (case hst => exact rfl))
      simp_arith [wN, l1, chr_at (i := i) i0 (by omega)]
      generalize i.toNat = c
      ((first | with_reducible refine' stL_at ?hst ?_ | with_reducible refine' nx_next (stL_at ?hst ?_)); (case hst => exact rfl))
      cases ha : ([42, 63, 91] : List Nat).contains c with
      | true =>
        have hc : c = 42 ∨ c = 63 ∨ c = 91 := by simpa using ha
        have q : (true = true) = True := eq_true rfl
        simp_arith [wN, in_b ha]
        exact endC_same (frz_lf _ _) ⟨⟨_, _, rfl, lf_c3 hc⟩, rfl⟩
      | false =>
        have hc : c ≠ 42 ∧ c ≠ 63 ∧ c ≠ 91 := by simpa using ha
        simp_arith [wN, in_b ha]
        ((first | with_reducible refine' stL_at ?hst ?_ | with_reducible refine' nx_next (stL_at ?hst ?_)); (case hst => exact rfl))
        have rd := lf_sign hc.1 hc.2.1 hc.2.2 (rd_esc hc.1)
        cases hb : ([40, 41, 93, 123, 125, 43, 45, 124, 94, 36, 92, 46, 38, 126, 35, 32, 9, 10, 13, 11, 12] : List Nat).contains c with
        | true =>
          simp_arith [wN, in_b hb]
          have e : escC c = [92, c] := by
            unfold escC
            rw [if_pos]
            simp only [List.contains_iff_mem, List.mem_cons, List.not_mem_nil, or_false] at hb
            rcases hb with rfl | rfl | rfl | rfl | rfl | rfl | rfl | rfl | rfl | rfl | rfl | rfl | rfl | rfl | rfl | rfl | rfl | rfl | rfl | rfl | rfl <;> decide
          exact endC_same (frz_lf _ _) ⟨⟨_, _, rfl, by rw [e] at rd; exact rd⟩, rfl⟩
        | false =>
          simp_arith [wN, in_b hb]
          have e : escC c = [c] := by
            unfold escC
            rw [if_neg]
            intro hs
            have hs2 : c ∈ spcl := List.contains_iff_mem.mp hs
            have hb2 : c ∉ ([40, 41, 93, 123, 125, 43, 45, 124, 94, 36, 92, 46, 38, 126, 35, 32, 9, 10, 13, 11, 12] : List Nat) := fun q => by
              rw [List.contains_iff_mem.mpr q] at hb; cases hb
            have hall : ∀ d ∈ spcl, d ∈ ([40, 41, 93, 123, 125, 43, 45, 124, 94, 36, 92, 46, 38, 126, 35, 32, 9, 10, 13, 11, 12] : List Nat) ∨ d = 42 ∨ d = 63 ∨ d = 91 := by decide
            rcases hall c hs2 with q | q | q | q
            · exact hb2 q
            · exact hc.1 q
            · exact hc.2.1 q
            · exact hc.2.2 q
          ((first | with_reducible refine' stL_at ?hst ?_ | with_reducible refine' nx_next (stL_at ?hst ?_)); (case hst => exact rfl))
          simp_arith [wN]
          exact endC_same (frz_lf _ _) ⟨⟨_, _, rfl, by rw [e] at rd; exact rd⟩, rfl⟩
    ((first | with_reducible refine' stL_at ?hst ?_ | with_reducible refine' nx_next (stL_at ?hst ?_)); (case hst => exact rfl))
    by_cases h : 55296 ≤ m
    · have q : (55296 ≤ m) = True := eq_true h
      simp_arith [wN, q]
      exact last _ (m + 2048) (by omega) (by omega) rfl
    · have q : (55296 ≤ m) = False := eq_false h
      simp_arith [wN, q]
      exact last _ m (by omega) (by omega) rfl
end

section
open PySem PySem.W PyProof.Rows
set_option linter.unusedVariables false
set_option linter.unusedSimpArgs false
set_option maxRecDepth 100000
variable {G : GI} {k : Nat} {X X' : List Nat} {h h' : Hp}
/-! law 06: the rows in the heap -/
/-- the values stand for the row; the lists in it are none of X -/
noncomputable def TrL (k : Nat) (X : List Nat) (h : Hp) : Rw → List PV → Prop
  | .nil, us => us = []
  | .star r, us => ∃ us', us = .str [42] :: us' ∧ TrL k X h r us'
  | .leaf p q r, us => ∃ us', us = .tuple [.str p, .str q] :: us' ∧ TrL k X h r us'
  | .row c r, us => ∃ j vs us', us = .ref j :: us' ∧ k ≤ j ∧ j ∉ X ∧ h[j]? = some (.list vs) ∧ TrL k X h c vs ∧ TrL k X h r us'
theorem TrL.frz : ∀ (r : Rw) {us : List PV}, TrL k X h r us → FrzL G h k us r.vals
  | .nil, us, t => by cases (show us = [] from t); exact frl_nil
  | .star r, _, ⟨us, rfl, t⟩ => frl_cons frz_str (TrL.frz r t)
  | .leaf p q r, _, ⟨us, rfl, t⟩ => frl_cons (frz_tup (frl_cons frz_str (frl_cons frz_str frl_nil))) (TrL.frz r t)
  | .row c r, _, ⟨j, vs, us, rfl, hk, _, hj, tc, t⟩ => frl_cons (frz_lst hj hk (TrL.frz c tc)) (TrL.frz r t)
/-- what the lists that are none of X hold, stands -/
noncomputable def Keep (X X' : List Nat) (h h' : Hp) : Prop := ∀ j vs, j ∉ X → h[j]? = some (.list vs) → j ∉ X' ∧ h'[j]? = some (.list vs)
theorem TrL.keep (kp : Keep X X' h h') : ∀ (r : Rw) {us : List PV}, TrL k X h r us → TrL k X' h' r us
  | .nil, us, t => t
  | .star r, _, ⟨us, rfl, t⟩ => ⟨us, rfl, TrL.keep kp r t⟩
  | .leaf p q r, _, ⟨us, rfl, t⟩ => ⟨us, rfl, TrL.keep kp r t⟩
  | .row c r, _, ⟨j, vs, us, rfl, hk, hX, hj, tc, t⟩ => ⟨j, vs, us, rfl, hk, (kp j vs hX hj).1, (kp j vs hX hj).2, TrL.keep kp c tc, TrL.keep kp r t⟩
theorem TrL.app {B : Rw} {ws : List PV} (b : TrL k X h B ws) : ∀ (r : Rw) {us : List PV}, TrL k X h r us → TrL k X h (r.app B) (us ++ ws)
  | .nil, us, t => by cases (show us = [] from t); exact b
  | .star r, _, ⟨us, rfl, t⟩ => ⟨_, rfl, TrL.app b r t⟩
  | .leaf p q r, _, ⟨us, rfl, t⟩ => ⟨_, rfl, TrL.app b r t⟩
  | .row c r, _, ⟨j, vs, us, rfl, hk, hX, hj, tc, t⟩ => ⟨j, vs, _, rfl, hk, hX, hj, tc, TrL.app b r t⟩
theorem TrL.len : ∀ (r : Rw) {us : List PV}, TrL k X h r us → us.length ≤ r.size
  | .nil, us, t => by cases (show us = [] from t); exact Nat.le_refl _
  | .star r, _, ⟨us, rfl, t⟩ => Nat.succ_le_succ (TrL.len r t)
  | .leaf p q r, _, ⟨us, rfl, t⟩ => Nat.succ_le_succ (TrL.len r t)
  | .row c r, _, ⟨j, vs, us, rfl, hk, hX, hj, tc, t⟩ => by
      have := TrL.len r t
      rw [Rw.size, List.length_cons]; omega
/-- the last one -/
inductive Lst (h : Hp) (s : Bool) : List PV → Bool → Prop
  | nil : Lst h s [] s
  | star (us : List PV) : Lst h s (us ++ [.str [42]]) true
  | oth (us : List PV) (v : PV) (e : noStr h v) : Lst h s (us ++ [v]) false
theorem Lst.cons {s s' b : Bool} {us : List PV} (v : PV) (hv : s' = true ∧ v = .str [42] ∨ s' = false ∧ noStr h v) (t : Lst h s' us b) : Lst h s (v :: us) b := by
  cases t with
  | nil =>
    rcases hv with ⟨rfl, rfl⟩ | ⟨rfl, e⟩
    · exact .star []
    · exact .oth [] v e
  | star us => exact .star (v :: us)
  | oth us w e => exact .oth (v :: us) w e
theorem TrL.lst : ∀ (r : Rw) (s : Bool) {us : List PV}, TrL k X h r us → Lst h s us (r.last s)
  | .nil, s, us, t => by cases (show us = [] from t); exact .nil
  | .star r, s, _, ⟨us, rfl, t⟩ => .cons _ (.inl ⟨rfl, rfl⟩) (TrL.lst r true t)
  | .leaf p q r, s, _, ⟨us, rfl, t⟩ => .cons _ (.inr ⟨rfl, trivial⟩) (TrL.lst r false t)
  | .row c r, s, _, ⟨j, vs, us, rfl, hk, hX, hj, tc, t⟩ => .cons _ (.inr ⟨rfl, vs, hj⟩) (TrL.lst r false t)
/-- the rows that are open, the innermost first; o is the list that its row has last -/
noncomputable def Fr (k : Nat) (X : List Nat) (h : Hp) : List PV → List (Nat × Rw) → Prop
  | _, [] => True
  | o, (a, R) :: fs => k ≤ a ∧ (∃ us, h[a]? = some (.list (us ++ o)) ∧ TrL k X h R us) ∧ R.ok false ∧ R.depth + fs.length ≤ 4 ∧ Fr k X h [.ref a] fs
theorem Fr.keep (kp : Keep X X' h h') : ∀ (fs : List (Nat × Rw)) (o : List PV), (∀ x ∈ fs, ∀ vs, h[x.1]? = some (.list vs) → h'[x.1]? = some (.list vs)) → Fr k X h o fs → Fr k X' h' o fs
  | [], _, _, _ => trivial
  | (a, R) :: fs, o, e, ⟨h1, ⟨us, h2, h3⟩, h4, h5, h6⟩ => ⟨h1, ⟨us, e (a, R) (List.mem_cons_self ..) _ h2, h3.keep kp⟩, h4, h5, Fr.keep kp fs _ (fun x q => e x (List.mem_cons_of_mem _ q)) h6⟩
noncomputable def szF (fs : List (Nat × Rw)) : Nat := (fs.map fun x => x.2.size + 1).sum
theorem szF_cons (a : Nat) (R : Rw) (fs : List (Nat × Rw)) : szF ((a, R) :: fs) = R.size + 1 + szF fs := by rw [szF, List.map_cons, List.sum_cons]; rfl
theorem szF_app (x y : List (Nat × Rw)) : szF (x ++ y) = szF x + szF y := by rw [szF, List.map_append, List.sum_append]; rfl
theorem szF_len : ∀ fs : List (Nat × Rw), fs.length ≤ szF fs
  | [] => Nat.le_refl _
  | (a, R) :: fs => by have := szF_len fs; rw [szF_cons, List.length_cons]; omega
/-- the trees that are closed -/
noncomputable def Tr (k : Nat) (X : List Nat) (h : Hp) (x : Nat × Rw) : Prop := k ≤ x.1 ∧ x.1 ∉ X ∧ (∃ us, h[x.1]? = some (.list us) ∧ TrL k X h x.2 us) ∧ x.2.ok false ∧ x.2.depth ≤ 4
theorem Tr.keep (kp : Keep X X' h h') {x : Nat × Rw} (t : Tr k X h x) : Tr k X' h' x := by
  obtain ⟨h1, h2, ⟨us, h3, h4⟩, h5⟩ := t
  exact ⟨h1, (kp _ _ h2 h3).1, ⟨us, (kp _ _ h2 h3).2, h4.keep kp⟩, h5⟩
noncomputable def root : Nat → List (Nat × Rw) → Nat
  | a, [] => a
  | _, (b, _) :: fs => root b fs
/-- all open rows closed -/
theorem Fr.close : ∀ (fs : List (Nat × Rw)) (a : Nat) (R : Rw), Fr k [] h [] ((a, R) :: fs) → ∃ x, Tr k [] h x ∧ x.2.size + 1 = szF ((a, R) :: fs) ∧ x.1 = root a fs
  | [], a, R, ⟨h1, ⟨us, h2, h3⟩, h4, h5, h6⟩ => by
      rw [List.append_nil] at h2
      exact ⟨(a, R), ⟨h1, by simp, ⟨us, h2, h3⟩, h4, h5⟩, by rw [szF_cons]; rfl, rfl⟩
  | (b, S) :: fs, a, R, ⟨h1, ⟨us, h2, h3⟩, h4, h5, ⟨g1, ⟨ws, g2, g3⟩, g4, g5, g6⟩⟩ => by
      rw [List.append_nil] at h2
      have hd : (S.app (.row R .nil)).depth + fs.length ≤ 4 := by
        rw [List.length_cons] at h5
        have := Rw.depth_app (.row R .nil) (4 - fs.length) (by rw [Rw.depth, Rw.depth, Nat.max_le]; omega) S (by omega)
        omega
      obtain ⟨x, t, e1, e2⟩ := Fr.close fs b (S.app (.row R .nil)) ⟨g1, ⟨_, by rw [List.append_nil]; exact g2, TrL.app (B := .row R .nil) ⟨a, us, [], rfl, h1, by simp, h2, h3, rfl⟩ S g3⟩, Rw.ok_app _ _ _ g4 ⟨h4, trivial⟩, hd, g6⟩
      exact ⟨x, t, by rw [e1, szF_cons, szF_cons, szF_cons, Rw.size_app, Rw.size, Rw.size]; omega, e2⟩
/-- a change of one of X -/
theorem keep_set {a : Nat} {m : MO} (ha : a ∈ X) : Keep X X h (h.set a m) := fun j vs hj e => ⟨hj, by rw [List.getElem?_set_ne (fun q => hj (by rw [← q]; exact ha))]; exact e⟩
/-- a new list -/
theorem keep_new {m : MO} : Keep X (h.length :: X) h (h ++ [m]) := fun j vs hj e => by
  have hl := (List.getElem?_eq_some_iff.mp e).1
  refine ⟨fun q => ?_, by rw [List.getElem?_append_left hl]; exact e⟩
  rcases List.mem_cons.mp q with q | q
  · omega
  · exact hj q
theorem Keep.trans {X2 : List Nat} {h2 : Hp} (a : Keep X X' h h') (b : Keep X' X2 h' h2) : Keep X X2 h h2 := fun j vs hj e => b j vs (a j vs hj e).1 (a j vs hj e).2
theorem keep_sub (hs : ∀ j ∈ X', j ∈ X) : Keep X X' h h := fun j vs hj e => ⟨fun q => hj (hs j q), e⟩
theorem get_set {a j : Nat} {m : MO} {vs : List PV} (hj : j ≠ a) (e : h[j]? = some (.list vs)) : (h.set a m)[j]? = some (.list vs) := by rw [List.getElem?_set_ne (Ne.symm hj)]; exact e
theorem get_self {a : Nat} {m m' : MO} (e : h[a]? = some m') : (h.set a m)[a]? = some m := by
  rw [List.getElem?_set_self (List.getElem?_eq_some_iff.mp e).1]
theorem get_app {j : Nat} {m : MO} {t : Hp} (e : h[j]? = some m) : (h ++ t)[j]? = some m := by rw [List.getElem?_append_left (List.getElem?_eq_some_iff.mp e).1]; exact e
theorem get_last {m : MO} : (h ++ [m])[h.length]? = some m := getE_end ..
theorem take_set {hp : Hp} {a : Nat} {m : MO} (ha : hp.length ≤ a) (e : h.take hp.length = hp) : (h.set a m).take hp.length = hp := by rw [List.take_set_of_le ha]; exact e
theorem Fr.lt : ∀ (fs : List (Nat × Rw)) (o : List PV), Fr k X h o fs → ∀ x ∈ fs, k ≤ x.1 ∧ x.1 < h.length
  | [], _, _ => fun x q => nomatch q
  | (a, R) :: fs, o, ⟨h1, ⟨us, h2, _⟩, _, _, h6⟩ => fun x q => by
      rcases List.mem_cons.mp q with rfl | q
      · exact ⟨h1, (List.getElem?_eq_some_iff.mp h2).1⟩
      · exact Fr.lt fs _ h6 x q
noncomputable abbrev rfs (T : List (Nat × Rw)) : List PV := T.map fun x => PV.ref x.1
noncomputable abbrev opn (k : Nat) (fs : List (Nat × Rw)) : List Nat := (k + 1) :: (k + 2) :: fs.map (·.1)
/-- what the loop keeps -/
structure St (hp : Hp) (T : List (Nat × Rw)) (a : Nat) (R : Rw) (fs : List (Nat × Rw)) (h : Hp) : Prop where
  nd : (opn hp.length ((a, R) :: fs)).Nodup
  tk : h.take hp.length = hp
  le : hp.length + 3 ≤ h.length
  fo : h[hp.length + 1]? = some (MO.list (rfs T ++ [PV.ref (root a fs)]))
  ou : h[hp.length + 2]? = some (MO.list (rfs fs).reverse)
  fr : Fr hp.length (opn hp.length ((a, R) :: fs)) h [] ((a, R) :: fs)
  tr : ∀ x ∈ T, Tr hp.length (opn hp.length ((a, R) :: fs)) h x
theorem St.cell {hp : Hp} {T fs : List (Nat × Rw)} {a : Nat} {R : Rw} (s : St hp T a R fs h) : ∃ us, h[a]? = some (MO.list us) ∧ TrL hp.length (opn hp.length ((a, R) :: fs)) h R us := by
  obtain ⟨_, ⟨us, h2, h3⟩, _⟩ := s.fr
  rw [List.append_nil] at h2
  exact ⟨us, h2, h3⟩
theorem St.add {hp : Hp} {T fs : List (Nat × Rw)} {a : Nat} {R : Rw} (s : St hp T a R fs h) (B : Rw) (v : PV) {us : List PV} (hu : h[a]? = some (MO.list us)) (hB : TrL hp.length (opn hp.length ((a, R) :: fs)) h B [v]) (ok : B.ok (R.last false)) (hd : B.depth = 0) :
    St hp T a (R.app B) fs (h.set a (MO.list (us ++ [v]))) := by
  obtain ⟨nd, tk, le, fo, ou, ⟨h1, ⟨us', h2, h3⟩, h4, h5, h6⟩, tr⟩ := s
  rw [List.append_nil, hu] at h2
  cases h2
  have hk : Keep (opn hp.length ((a, R) :: fs)) (opn hp.length ((a, R) :: fs)) h (h.set a (MO.list (us ++ [v]))) := keep_set (by simp)
  simp only [List.map_cons, List.nodup_cons, List.mem_cons, not_or] at nd
  obtain ⟨⟨n1, n2, n3⟩, ⟨n4, n5⟩, n6, n7⟩ := id nd
  refine ⟨by simp only [List.map_cons, List.nodup_cons, List.mem_cons, not_or]; exact nd, take_set h1 tk, by rw [List.length_set]; exact le, get_set n2 fo, get_set n4 ou, ⟨h1, ⟨us ++ [v], by rw [List.append_nil]; exact get_self hu, (hB.app R h3).keep hk⟩, Rw.ok_app _ _ _ h4 ok, ?_, ?_⟩, fun x q => (tr x q).keep hk⟩
  · have := Rw.depth_app B (4 - fs.length) (by omega) R (by omega)
    omega
  · exact Fr.keep hk fs _ (fun x q vs e => get_set (fun q2 => n6 (by rw [← q2]; exact List.mem_map.mpr ⟨x, q, rfl⟩)) e) h6
theorem St.enter {hp : Hp} {T fs : List (Nat × Rw)} {a : Nat} {R : Rw} (s : St hp T a R fs h) {us : List PV} (hu : h[a]? = some (MO.list us)) (hl : fs.length < 4) :
    St hp T h.length .nil ((a, R) :: fs) (((h.set (hp.length + 2) (MO.list ((rfs fs).reverse ++ [PV.ref a]))) ++ [MO.list []]).set a (MO.list (us ++ [PV.ref h.length]))) := by
  obtain ⟨nd, tk, le, fo, ou, ⟨h1, ⟨us', h2, h3⟩, h4, h5, h6⟩, tr⟩ := s
  rw [List.append_nil, hu] at h2
  cases h2
  have hlt := Fr.lt fs _ h6
  have hal := (List.getElem?_eq_some_iff.mp hu).1
  simp only [List.map_cons, List.nodup_cons, List.mem_cons, not_or] at nd
  obtain ⟨⟨n1, n2, n3⟩, ⟨n4, n5⟩, n6, n7⟩ := id nd
  have hlen : (h.set (hp.length + 2) (MO.list ((rfs fs).reverse ++ [PV.ref a]))).length = h.length := List.length_set ..
  have hk : Keep (opn hp.length ((a, R) :: fs)) (opn hp.length ((h.length, .nil) :: (a, R) :: fs)) h (((h.set (hp.length + 2) (MO.list ((rfs fs).reverse ++ [PV.ref a]))) ++ [MO.list []]).set a (MO.list (us ++ [PV.ref h.length]))) := by
    refine (keep_set (a := hp.length + 2) (by simp)).trans (keep_new.trans ((keep_set (a := a) (by simp)).trans (keep_sub fun j q => ?_)))
    rw [hlen]
    simp only [List.map_cons, List.mem_cons] at q ⊢
    rcases q with q | q | q | q | q <;> simp [q]
  have other : ∀ j vs, j ≠ hp.length + 2 → j ≠ a → h[j]? = some (MO.list vs) → (((h.set (hp.length + 2) (MO.list ((rfs fs).reverse ++ [PV.ref a]))) ++ [MO.list []]).set a (MO.list (us ++ [PV.ref h.length])))[j]? = some (MO.list vs) := fun j vs j1 j2 e => get_set j2 (get_app (get_set j1 e))
  refine ⟨?_, take_set h1 ?_, ?_, other _ _ (by omega) n2 fo, ?_, ⟨by omega, ⟨[], ?_, rfl⟩, trivial, ?_, ⟨h1, ⟨us, ?_, h3.keep hk⟩, h4, h5, ?_⟩⟩, fun x q => (tr x q).keep hk⟩
  · simp only [List.map_cons, List.nodup_cons, List.mem_cons, not_or]
    refine ⟨⟨n1, by omega, n2, n3⟩, ⟨by omega, n4, n5⟩, ⟨by omega, fun q => ?_⟩, n6, n7⟩
    obtain ⟨x, hx, e⟩ := List.mem_map.mp q
    have := (hlt x hx).2
    omega
  · rw [List.take_append_of_le_length (by rw [hlen]; omega)]
    exact take_set (by omega) tk
  · rw [List.length_set, List.length_append, hlen]; omega
  · refine get_set n4 (get_app ?_)
    rw [get_self ou]
    simp
  · rw [List.append_nil]
    refine get_set (by omega) ?_
    rw [← hlen]; exact get_last
  · show 0 + (fs.length + 1) ≤ 4
    omega
  · exact get_self (m' := .list us) (get_app (get_set (fun q => n4 q.symm) hu))
  · refine Fr.keep hk fs _ (fun x q vs e => other _ _ (fun q2 => n5 (by rw [← q2]; exact List.mem_map.mpr ⟨x, q, rfl⟩)) (fun q2 => n6 (by rw [← q2]; exact List.mem_map.mpr ⟨x, q, rfl⟩)) e) h6
theorem St.leave {hp : Hp} {T fs : List (Nat × Rw)} {a b : Nat} {R S : Rw} (s : St hp T a R ((b, S) :: fs) h) :
    St hp T b (S.app (.row R .nil)) fs (h.set (hp.length + 2) (MO.list (rfs fs).reverse)) := by
  obtain ⟨nd, tk, le, fo, ou, ⟨h1, ⟨us, h2, h3⟩, h4, h5, ⟨g1, ⟨ws, g2, g3⟩, g4, g5, g6⟩⟩, tr⟩ := s
  rw [List.append_nil] at h2
  simp only [List.map_cons, List.nodup_cons, List.mem_cons, not_or] at nd
  obtain ⟨⟨n1, n2, n3, n3'⟩, ⟨n4, n5, n5'⟩, ⟨n6, n6'⟩, n7, n8⟩ := id nd
  have hk : Keep (opn hp.length ((a, R) :: (b, S) :: fs)) (opn hp.length ((b, S.app (.row R .nil)) :: fs)) h (h.set (hp.length + 2) (MO.list (rfs fs).reverse)) := by
    refine (keep_set (a := hp.length + 2) (by simp)).trans (keep_sub fun j q => ?_)
    simp only [List.map_cons, List.mem_cons] at q ⊢
    rcases q with q | q | q | q <;> simp [q]
  rw [List.length_cons] at h5
  have hd := Rw.depth_app (.row R .nil) (4 - fs.length) (by rw [Rw.depth, Rw.depth, Nat.max_le]; omega) S (by omega)
  refine ⟨?_, take_set (by omega) tk, by rw [List.length_set]; exact le, get_set (by omega) fo, get_self ou, ⟨g1, ⟨ws ++ [PV.ref a], ?_, ?_⟩, Rw.ok_app _ _ _ g4 ⟨h4, trivial⟩, by omega, ?_⟩, fun x q => (tr x q).keep hk⟩
  · simp only [List.map_cons, List.nodup_cons, List.mem_cons, not_or]
    exact ⟨⟨n1, n3, n3'⟩, ⟨n5, n5'⟩, n7, n8⟩
  · rw [List.append_nil]; exact get_set (fun q => n5 q.symm) g2
  · refine TrL.app (B := .row R .nil) ⟨a, us, [], rfl, h1, ?_, get_set (fun q => n4 q.symm) h2, h3.keep hk, rfl⟩ S (g3.keep hk)
    simp only [List.map_cons, List.mem_cons, not_or]
    exact ⟨fun q => n2 q.symm, fun q => n4 q.symm, n6, n6'⟩
  · exact Fr.keep hk fs _ (fun x q vs e => get_set (fun q2 => n5' (by rw [← q2]; exact List.mem_map.mpr ⟨x, q, rfl⟩)) e) g6
theorem St.fresh {hp : Hp} {T : List (Nat × Rw)} {a : Nat} {R : Rw} (s : St hp T a R [] h) :
    St hp (T ++ [(a, R)]) h.length .nil [] ((h ++ [MO.list []]).set (hp.length + 1) (MO.list ((rfs T ++ [PV.ref a]) ++ [PV.ref h.length]))) := by
  obtain ⟨nd, tk, le, fo, ou, ⟨h1, ⟨us, h2, h3⟩, h4, h5, h6⟩, tr⟩ := s
  rw [List.append_nil] at h2
  have hal := (List.getElem?_eq_some_iff.mp h2).1
  simp only [List.map_cons, List.map_nil, List.nodup_cons, List.mem_cons, not_or] at nd
  obtain ⟨⟨n1, n2, n3⟩, ⟨n4, n5⟩, n6, n7⟩ := id nd
  have hk : Keep (opn hp.length [(a, R)]) (opn hp.length [(h.length, .nil)]) h ((h ++ [MO.list []]).set (hp.length + 1) (MO.list ((rfs T ++ [PV.ref a]) ++ [PV.ref h.length]))) := by
    refine keep_new.trans ((keep_set (a := hp.length + 1) (by simp)).trans (keep_sub fun j q => ?_))
    simp only [List.map_cons, List.map_nil, List.mem_cons] at q ⊢
    rcases q with q | q | q | q <;> simp [q]
  refine ⟨?_, take_set (by omega) (by rw [List.take_append_of_le_length (by omega)]; exact tk), by rw [List.length_set, List.length_append]; omega, ?_, get_set (by omega) (get_app ou), ⟨by omega, ⟨[], get_set (by omega) get_last, rfl⟩, trivial, Nat.zero_le _, trivial⟩, fun x q => ?_⟩
  · simp only [List.map_cons, List.map_nil, List.nodup_cons, List.mem_cons, not_or]
    exact ⟨⟨by omega, by omega, by simp⟩, ⟨by omega, by simp⟩, by simp⟩
  · rw [get_self (get_app fo)]
    simp [root]
  · rcases List.mem_append.mp q with q | q
    · exact (tr x q).keep hk
    · rw [List.mem_singleton] at q
      subst q
      refine ⟨h1, ?_, ⟨us, get_set (fun q => n2 q.symm) (get_app h2), h3.keep hk⟩, h4, h5⟩
      simp only [List.map_cons, List.map_nil, List.mem_cons, not_or]
      exact ⟨fun q => n2 q.symm, fun q => n4 q.symm, by omega, by simp⟩
/-- at the end -/
theorem St.done {hp : Hp} {T fs : List (Nat × Rw)} {a : Nat} {R : Rw} (s : St hp T a R fs h) : ∃ Rs : List Rw, Rs ≠ [] ∧ (∀ r ∈ Rs, r.ok false ∧ r.depth ≤ 4) ∧ tot Rs = szF T + szF ((a, R) :: fs) ∧ FrzR G h hp.length (.ref (hp.length + 1)) (.list (Rs.map fun r => .list r.vals)) := by
  obtain ⟨nd, tk, le, fo, ou, fr, tr⟩ := s
  have hk : Keep (opn hp.length ((a, R) :: fs)) [] h h := keep_sub fun j q => nomatch q
  obtain ⟨x, tx, e1, e2⟩ := Fr.close fs a R (Fr.keep hk _ _ (fun _ _ _ e => e) fr)
  refine ⟨(T ++ [x]).map (·.2), by simp, fun r q => ?_, ?_, ?_⟩
  · obtain ⟨y, hy, rfl⟩ := List.mem_map.mp q
    rcases List.mem_append.mp hy with q | q
    · exact (tr y q).2.2.2
    · rw [List.mem_singleton] at q; rw [q]; exact tx.2.2.2
  · rw [← e1]
    show (((T ++ [x]).map (·.2)).map fun r => r.size + 1).sum = (T.map fun x => x.2.size + 1).sum + (x.2.size + 1)
    rw [List.map_map, List.map_append, List.sum_append]
    simp
    rfl
  · refine frz_lst fo (Nat.le_succ _) ?_
    rw [← e2]
    have one : ∀ y, Tr hp.length [] h y → FrzR G h hp.length (.ref y.1) (.list y.2.vals) := fun y t => by
      obtain ⟨h1, _, ⟨us, h3, h4⟩, _⟩ := t
      exact frz_lst h3 h1 h4.frz
    have all : ∀ L : List (Nat × Rw), (∀ y ∈ L, Tr hp.length [] h y) → FrzL G h hp.length (L.map fun y => PV.ref y.1) (L.map fun y => .list y.2.vals) := fun L => by
      induction L with
      | nil => intro _; exact frl_nil
      | cons y L ih => intro q; exact frl_cons (one y (q y (List.mem_cons_self ..))) (ih fun z hz => q z (List.mem_cons_of_mem _ hz))
    have this : FrzL G h hp.length ((T ++ [x]).map fun y => PV.ref y.1) ((T ++ [x]).map fun y => .list y.2.vals) := all (T ++ [x]) fun y hy => by
      rcases List.mem_append.mp hy with q | q
      · exact (tr y q).keep hk
      · rw [List.mem_singleton] at q; rw [q]; exact tx
    have e : rfs T ++ [PV.ref x.1] = (T ++ [x]).map fun y => PV.ref y.1 := by rw [List.map_append]; rfl
    rw [List.map_map, e]
    exact @this
end

section
open PySem PySem.W PyProof.Rows
set_option linter.unusedVariables false
set_option linter.unusedSimpArgs false
set_option maxRecDepth 100000
set_option maxHeartbeats 4000000
variable {G : GI} {n : Nat} {hp : Hp}
/-! law 06: the forest -/
theorem cont_at {h : Hp} {j : Nat} {vs : List PV} (e : h[j]? = some (.list vs)) : contents h (.ref j) = some vs := by rw [contents, e]; rfl
theorem app_at {h : Hp} {j : Nat} {vs : List PV} {v : PV} (e : h[j]? = some (.list vs)) (hb : vs.length ≤ 1000) : AppR h j v (h.set j (.list (vs ++ [v]))) := ⟨vs, e, big_ge (by omega), rfl⟩
theorem st_init : St hp [] hp.length .nil [] (hp ++ [.list [], .list [.ref hp.length], .list []]) := by
  have g0 : (hp ++ [MO.list [], MO.list [.ref hp.length], MO.list []])[hp.length]? = some (.list []) := getE_end ..
  have g1 : (hp ++ [MO.list [], MO.list [.ref hp.length], MO.list []])[hp.length + 1]? = some (.list [.ref hp.length]) := by rw [List.getElem?_append_right (by omega), Nat.add_sub_cancel_left]; rfl
  have g2 : (hp ++ [MO.list [], MO.list [.ref hp.length], MO.list []])[hp.length + 2]? = some (.list []) := by rw [List.getElem?_append_right (by omega), Nat.add_sub_cancel_left]; rfl
  exact ⟨by simp, List.take_left, by rw [List.length_append]; exact Nat.le_refl _, g1, g2, ⟨Nat.le_refl _, ⟨[], g0, rfl⟩, trivial, Nat.zero_le _, trivial⟩, fun x q => nomatch q⟩
noncomputable def Bfo : List Stmt := subB (bodyAt prog 12) 3
theorem c_forest (V : Giv G) (xs : List Int) (hx : xs.length ≤ 32) : CallW G (n + 1) (Str.ofString "_law_forest") [.list (xs.map .int)] hp fun v h => (∃ Rs : List Rw, Rs ≠ [] ∧ (∀ r ∈ Rs, r.ok false ∧ r.depth ≤ 4) ∧ tot Rs ≤ 33 ∧ v = .list (Rs.map fun r => .list r.vals)) ∧ h = hp := by
  refine call_walk (fun _ => false) V.g V.po.nl (f_forest V) rfl ?_
  dsimp only [updL]
  ((first | with_reducible refine' stL_at ?hst ?_ | with_reducible refine' nx_next (stL_at ?hst ?_)); (case hst => exact rfl))
  simp_arith [wN]
  ((first | with_reducible refine' stL_at ?hst ?_ | with_reducible refine' nx_next (stL_at ?hst ?_)); (case hst => exact rfl))
  simp_arith [wN]
  ((first | with_reducible refine' stL_at ?hst ?_ | with_reducible refine' nx_next (stL_at ?hst ?_)); (case hst => exact rfl))
  simp_arith [wN]
  ((first | with_reducible refine' stL_at ?hst ?_ | with_reducible refine' nx_next (stL_at ?hst ?_)); (case hst => exact rfl))
  simp_arith [wM]
  refine forL_of (fun ys l h => ∃ (zs : List Int) (T fs : List (Nat × Rw)) (a : Nat) (R : Rw), ys = zs.map .int ∧ szF T + szF ((a, R) :: fs) + zs.length ≤ 33 ∧ l (Str.ofString "row") = some (.ref a) ∧ l (Str.ofString "forest") = some (.ref (hp.length + 1)) ∧ l (Str.ofString "outer") = some (.ref (hp.length + 2)) ∧ St hp T a R fs h) ?_ ?_
    ⟨xs, [], [], hp.length, .nil, rfl, by show 0 + 1 + xs.length ≤ 33; omega, ?_, ?_, ?_, ?_⟩
  · rintro I y ys l h hI ⟨zs, T, fs, a, R, hys, hz, l1, l2, l3, s⟩
    cases zs with
    | nil => cases hys
    | cons z zs =>
      cases hys
      rw [List.length_cons] at hz
      have hTl := szF_len T
      have hFl := szF_len ((a, R) :: fs)
      rw [List.length_cons] at hFl
      have hsz := szF_cons a R fs
      obtain ⟨us, hu, ht⟩ := s.cell
      have hul := TrL.len R ht
      have hlst := TrL.lst R false ht
      have ca : contents h (.ref a) = some us := cont_at hu
      have co : contents h (.ref (hp.length + 2)) = some (rfs fs).reverse := cont_at s.ou
      have cf : contents h (.ref (hp.length + 1)) = some (rfs T ++ [PV.ref (root a fs)]) := cont_at s.fo
      refine kbFor (bi_name rfl (kBd ?_))
      show stL G _ _ (Bfo.drop 0) _ _ _
      ((first | with_reducible refine' stL_at ?hst ?_ | with_reducible refine' nx_next (stL_at ?hst ?_)); (case hst => exact rfl))
      simp_arith [wN]
      generalize z.fmod ((10 : Int) ^ (9 : Int).toNat) = kept
      ((first | with_reducible refine' stL_at ?hst ?_ | with_reducible refine' nx_next (stL_at ?hst ?_)); (case hst => exact rfl))
      simp_arith [wN, show (8 : Int) ≠ 0 by decide]
      obtain ⟨hk0, hk1⟩ := fmod_in kept 8 (by decide)
      generalize kept.fmod 8 = kd at hk0 hk1 ⊢
      have fin : ∀ (l' : Loc) (T' fs' : List (Nat × Rw)) (a' : Nat) (R' : Rw) (h' : Hp), szF T' + szF ((a', R') :: fs') ≤ szF T + szF ((a, R) :: fs) + 1 → l' (Str.ofString "row") = some (.ref a') → l' (Str.ofString "forest") = some (.ref (hp.length + 1)) → l' (Str.ofString "outer") = some (.ref (hp.length + 2)) → St hp T' a' R' fs' h' → I l' h' := fun l' T' fs' a' R' h' e1 e2 e3 e4 s' =>
        hI _ _ ⟨zs, T', fs', a', R', rfl, by omega, e2, e3, e4, s'⟩
      ((first | with_reducible refine' stL_at ?hst ?_ | with_reducible refine' nx_next (stL_at ?hst ?_)); (case hst => exact rfl))
      -- a leaf
      have leaf : ∀ (p q : List Nat), OkLf p q → AppR h a (.tuple [.str p, .str q]) (h.set a (.list (us ++ [.tuple [.str p, .str q]]))) ∧ St hp T a (R.app (.leaf p q .nil)) fs (h.set a (.list (us ++ [.tuple [.str p, .str q]]))) ∧ szF T + szF ((a, R.app (.leaf p q .nil)) :: fs) ≤ szF T + szF ((a, R) :: fs) + 1 := fun p q ok => by
        refine ⟨app_at hu (by omega), s.add (.leaf p q .nil) _ hu ⟨[], rfl, rfl⟩ ⟨ok, trivial⟩ rfl, ?_⟩
        rw [szF_cons, szF_cons, Rw.size_app, Rw.size, Rw.size]; omega
      have hlr : BltR G (.builtin "len") h [.ref a] (.int us.length) := len_of ca rfl (by omega)
      have hlo : BltR G (.builtin "len") h [.ref (hp.length + 2)] (.int fs.length) := len_of co (by rw [List.length_reverse, List.length_map]) (by omega)
      rcases (show kd < 2 ∨ kd = 2 ∨ kd = 3 ∨ 3 < kd by omega) with h2 | h2 | h2 | h2
      · have q1 : (kd < 2) = True := eq_true h2
        have q2 : (kd = 2) = False := eq_false (by omega)
        have q3 : (kd = 3) = False := eq_false (by omega)
        generalize hb : R.last false = b at hlst
        cases hlst with
        | nil =>
          have hs : SlR G h (.ref a) (.int (-1)) .none (.list []) := slice_last0 ca
          have hn : CmpR G .NotEq h (.list []) (.list [.str [42]]) true := ne_len (by decide)
          have hap : AppR h a (.str [42]) (h.set a (.list ([] ++ [.str [42]]))) := app_at hu (by decide)
          simp_arith [wN, l1, q1, ca, hs, hn, hap]
          refine stL_end (by decide) (fk_next trivial (fin _ T fs a (R.app (.star .nil)) _ ?_ ?_ ?_ ?_ (s.add (.star .nil) _ hu ⟨[], rfl, rfl⟩ ⟨hb, trivial⟩ rfl)))
          · rw [szF_cons, szF_cons, Rw.size_app, Rw.size, Rw.size]; omega
          · simp_arith [wM, l1]
          · simp_arith [wM, l2]
          · simp_arith [wM, l3]
        | oth us v e =>
          have hs : SlR G h (.ref a) (.int (-1)) .none (.list [v]) := slice_lastA ca (big_ge (by omega))
          have hn : CmpR G .NotEq h (.list [v]) (.list [.str [42]]) true := ne_one e
          have hap : AppR h a (.str [42]) (h.set a (.list (us ++ [v] ++ [.str [42]]))) := app_at hu (by omega)
          simp_arith [wN, l1, q1, ca, hs, hn, hap]
          refine stL_end (by decide) (fk_next trivial (fin _ T fs a (R.app (.star .nil)) _ ?_ ?_ ?_ ?_ (s.add (.star .nil) _ hu ⟨[], rfl, rfl⟩ ⟨hb, trivial⟩ rfl)))
          · rw [szF_cons, szF_cons, Rw.size_app, Rw.size, Rw.size]; omega
          · simp_arith [wM, l1]
          · simp_arith [wM, l2]
          · simp_arith [wM, l3]
        | star us =>
          have hs : SlR G h (.ref a) (.int (-1)) .none (.list [.str [42]]) := slice_lastA ca (big_ge (by omega))
          have hn : CmpR G .NotEq h (.list [.str [42]]) (.list [.str [42]]) false := ne_same (d := 0) (fun v hv => by rw [List.mem_singleton] at hv; rw [hv]; exact .str _ _) (by omega)
          simp_arith [wN, l1, q1, q2, q3, ca, hs, hn, hlr, isFn_of (f_leaf V)]
          refine callW_mono (c_leaf V _) ?_
          rintro v h' ⟨⟨p, q, rfl, ok⟩, e⟩
          obtain rfl := e.symm
          obtain ⟨g1, g2, g3⟩ := leaf p q ok
          simp_arith [wN, l1, ca, g1]
          refine stL_end (by decide) (fk_next trivial (fin _ T fs a _ _ g3 ?_ ?_ ?_ g2)) <;> simp_arith [wM, l1, l2, l3]
      · have q1 : (kd < 2) = False := eq_false (by omega)
        have q2 : (kd = 2) = True := eq_true h2
        have q3 : (kd = 3) = False := eq_false (by omega)
        by_cases h4 : fs.length < 4
        · have q4 : ((fs.length : Int) < 4) = True := eq_true (by omega)
          have ap1 : AppR h (hp.length + 2) (.ref a) (h.set (hp.length + 2) (.list ((rfs fs).reverse ++ [.ref a]))) := app_at s.ou (by rw [List.length_reverse, List.length_map]; omega)
          have hne : a ≠ hp.length + 2 := fun q => by
            have := s.nd
            rw [q] at this
            simp at this
          have hu2 : (h.set (hp.length + 2) (MO.list ((rfs fs).reverse ++ [PV.ref a])) ++ [MO.list []])[a]? = some (.list us) := get_app (get_set hne hu)
          have ap2 : ∀ v, AppR (h.set (hp.length + 2) (MO.list ((rfs fs).reverse ++ [PV.ref a])) ++ [MO.list []]) a v ((h.set (hp.length + 2) (MO.list ((rfs fs).reverse ++ [PV.ref a])) ++ [MO.list []]).set a (MO.list (us ++ [v]))) := fun v => app_at hu2 (by omega)
          have s2 := s.enter hu h4
          rw [← List.length_set (as := h) (i := hp.length + 2) (a := MO.list ((rfs fs).reverse ++ [.ref a]))] at s2
          simp_arith [wN, l1, l3, q1, q2, q4, hlo, co, cont_at hu2, ap1, ap2 _]
          refine stL_end (by decide) (fk_next trivial (fin _ T ((a, R) :: fs) _ .nil _ ?_ ?_ ?_ ?_ s2))
          · rw [szF_cons]; show _ + (0 + 1 + _) ≤ _; omega
          · simp_arith [wM]
          · simp_arith [wM, l2]
          · simp_arith [wM, l3]
        · have q4 : ((fs.length : Int) < 4) = False := eq_false (by omega)
          simp_arith [wN, l1, l3, q1, q2, q3, q4, hlo, ca, hlr, isFn_of (f_leaf V)]
          refine callW_mono (c_leaf V _) ?_
          rintro v h' ⟨⟨p, q, rfl, ok⟩, e⟩
          obtain rfl := e.symm
          obtain ⟨g1, g2, g3⟩ := leaf p q ok
          simp_arith [wN, l1, ca, g1]
          refine stL_end (by decide) (fk_next trivial (fin _ T fs a _ _ g3 ?_ ?_ ?_ g2)) <;> simp_arith [wM, l1, l2, l3]
      · have q1 : (kd < 2) = False := eq_false (by omega)
        have q2 : (kd = 2) = False := eq_false (by omega)
        have q3 : (kd = 3) = True := eq_true h2
        cases fs with
        | nil =>
          have ht : TruR G h (.ref (hp.length + 2)) false := truth_is co (by decide) rfl
          have fo2 : (h ++ [MO.list []])[hp.length + 1]? = some (.list (rfs T ++ [PV.ref a])) := get_app s.fo
          have ap : ∀ v, AppR (h ++ [MO.list []]) (hp.length + 1) v ((h ++ [MO.list []]).set (hp.length + 1) (MO.list (rfs T ++ [PV.ref a] ++ [v]))) := fun v => app_at fo2 (by rw [List.length_append, List.length_map, List.length_singleton]; omega)
          simp_arith [wN, l1, l2, l3, q1, q2, q3, ht, co, cont_at fo2, ap _]
          refine stL_end (by decide) (fk_next trivial (fin _ (T ++ [(a, R)]) [] h.length .nil _ ?_ ?_ ?_ ?_ s.fresh))
          · rw [szF_app]; show szF T + szF [(a, R)] + (0 + 1) ≤ _; omega
          · simp_arith [wM]
          · simp_arith [wM, l2]
          · simp_arith [wM, l3]
        | cons x fs =>
          obtain ⟨b, S⟩ := x
          have ht : TruR G h (.ref (hp.length + 2)) true := truth_is co (by rw [List.length_reverse, List.length_map]; omega) (by show (!(PV.ref b :: rfs fs).reverse.isEmpty) = true; rw [List.reverse_cons]; exact snoc_ne rfl)
          have hpo : MeR G "list.pop" h (.ref (hp.length + 2)) [] (.ref b) (h.set (hp.length + 2) (.list (rfs fs).reverse)) := meth_pop (by rw [s.ou]; show some (MO.list (PV.ref b :: rfs fs).reverse) = _; rw [List.reverse_cons]) (big_ge (by rw [List.length_append, List.length_reverse, List.length_map, List.length_singleton]; rw [List.length_cons] at hFl; omega))
          simp_arith [wN, l1, l2, l3, q1, q2, q3, ht, co, hpo]
          refine stL_end (by decide) (fk_next trivial (fin _ T fs b _ _ ?_ ?_ ?_ ?_ s.leave))
          · rw [szF_cons, szF_cons, szF_cons, Rw.size_app, Rw.size, Rw.size]; omega
          · simp_arith [wM]
          · simp_arith [wM, l2]
          · simp_arith [wM, l3]
      · have q1 : (kd < 2) = False := eq_false (by omega)
        have q2 : (kd = 2) = False := eq_false (by omega)
        have q3 : (kd = 3) = False := eq_false (by omega)
        simp_arith [wN, l1, q1, q2, q3, ca, hlr, isFn_of (f_leaf V)]
        refine callW_mono (c_leaf V _) ?_
        rintro v h' ⟨⟨p, q, rfl, ok⟩, e⟩
        obtain rfl := e.symm
        obtain ⟨g1, g2, g3⟩ := leaf p q ok
        simp_arith [wN, l1, ca, g1]
        refine stL_end (by decide) (fk_next trivial (fin _ T fs a _ _ g3 ?_ ?_ ?_ g2)) <;> simp_arith [wM, l1, l2, l3]
  · rintro l h ⟨zs, T, fs, a, R, hys, hz, l1, l2, l3, s⟩
    ((first | with_reducible refine' stL_at ?hst ?_ | with_reducible refine' nx_next (stL_at ?hst ?_)); (case hst => exact rfl))
    simp_arith [wN, l2]
    obtain ⟨Rs, h1, h2, h3, h4⟩ := s.done (G := G)
    exact ⟨_, h4, by have := s.le; omega, .inl s.tk, ⟨Rs, h1, h2, by omega, rfl⟩, s.tk⟩
  · simp_arith [wM]
  · simp_arith [wM]; rw [List.length_append]; rfl
  · simp_arith [wM]; rw [List.length_append, List.length_append]; rfl
  · rw [List.append_assoc, List.append_assoc]; exact st_init
end

section
open PySem PySem.W PyProof.Rows
set_option linter.unusedVariables false
set_option linter.unusedSimpArgs false
set_option maxRecDepth 100000
set_option maxHeartbeats 4000000
variable {G : GI} {n : Nat} {hp : Hp}
/-! law 06: the texts and what is told -/
theorem ext_end {hp : Hp} {vs us : List PV} (hb : vs.length + us.length ≤ 1000) : MeR G "list.extend" (hp ++ [.list vs]) (.ref hp.length) [.list us] .none (hp ++ [.list (vs ++ us)]) := by
  have hb' : vs.length + us.length ≤ big := big_ge (by omega)
  have e : (hp ++ [MO.list vs]).set hp.length (MO.list (vs ++ us)) = hp ++ [MO.list (vs ++ us)] := set_end ..
  have m : MeR G "list.extend" (hp ++ [.list vs]) (.ref hp.length) [.list us] .none ((hp ++ [MO.list vs]).set hp.length (MO.list (vs ++ us))) := meth_ext (getE_end ..) rfl hb'
  rw [e] at m
  exact @m
theorem it_0 (h : Hp) (a : PV) (r : List PV) : ItR G h (.tuple (a :: r)) (.int 0) a := it_tup (by decide) (idx_nat (Nat.succ_pos _)) rfl
theorem it_1 (h : Hp) (a b : PV) (r : List PV) : ItR G h (.tuple (a :: b :: r)) (.int 1) b := it_tup (by decide) (idx_nat (Nat.succ_lt_succ (Nat.succ_pos _))) rfl
theorem addI_new {acc : Pt} (h : acc.getLast? ≠ some none) : addI acc = acc ++ [none] := by
  unfold addI
  split
  · rename_i e; exact absurd e h
  · rfl
noncomputable def Btx : List Stmt := subB (bodyAt prog 13) 3
theorem c_text (V : Giv G) : ∀ (d N : Nat), d + 6 ≤ N → ∀ {hp : Hp} (j : Nat), okRef hp j = true → ∀ r : Rw, r.ok false → r.depth ≤ d → r.size ≤ 33 → CallW G N (Str.ofString "_law_text") [.list r.vals, .ref j] hp fun v h => v = .str (joinI r.pts) ∧ h = hp := by
  intro d
  induction d using Nat.strongRecOn with
  | ind d ih =>
  intro N hN hp j hj r hok hd hs
  obtain ⟨M, rfl⟩ : ∃ M, N = M + 6 := ⟨N - 6, by omega⟩
  refine call_walk (fun _ => false) V.g V.po.nl (f_text V) rfl ?_
  dsimp only [updL]
  ((first | with_reducible refine' stL_at ?hst ?_ | with_reducible refine' nx_next (stL_at ?hst ?_)); (case hst => exact rfl))
  simp_arith [wN]
  ((first | with_reducible refine' stL_at ?hst ?_ | with_reducible refine' nx_next (stL_at ?hst ?_)); (case hst => exact rfl))
  simp_arith [wN]
  ((first | with_reducible refine' stL_at ?hst ?_ | with_reducible refine' nx_next (stL_at ?hst ?_)); (case hst => exact rfl))
  simp_arith [wN]
  ((first | with_reducible refine' stL_at ?hst ?_ | with_reducible refine' nx_next (stL_at ?hst ?_)); (case hst => exact rfl))
  simp_arith [wM]
  refine forL_of (fun ys l h => ∃ (B : Rw) (P : Pt) (W : List Nat) (f s : Bool), ys = B.vals ∧ P ++ B.pts = r.pts ∧ l (Str.ofString "star") = some (.ref j) ∧ l (Str.ofString "parts") = some (.ref hp.length) ∧ l (Str.ofString "pattern") = some (.str W) ∧ l (Str.ofString "flat") = some (.bool f) ∧ h = hp ++ [.list (P.map (pvI j))] ∧
      (f = true → ∀ z, trI [46] (W ++ z) [] = trI [46] z P) ∧ W.length + 10 * B.size ≤ 330 ∧ P.length + B.size ≤ 33 ∧ B.size ≤ r.size ∧ B.depth ≤ d ∧ B.ok s ∧ (s = false → P.getLast? ≠ some none)) ?_ ?_
    ⟨r, [], [], true, false, rfl, rfl, rfl, rfl, rfl, rfl, rfl, fun _ z => rfl, by show 0 + _ ≤ _; omega, by show 0 + _ ≤ _; omega, Nat.le_refl _, hd, hok, fun _ q => nomatch q⟩
  · rintro I y ys l h hI ⟨B, P, W, f, s, hys, hP, l1, l2, l3, l4, rfl, hf, hW, hPl, hBs, hBd, hB, hlast⟩
    have hc : contents (hp ++ [.list (P.map (pvI j))]) (.ref hp.length) = some (P.map (pvI j)) := cont_end rfl
    have hap : ∀ o v, v = pvI j o → P.length < 1000 → AppR (hp ++ [.list (P.map (pvI j))]) hp.length v (hp ++ [.list ((P ++ [o]).map (pvI j))]) := fun o v hv hl => by
      subst hv
      exact (meth_end rfl (by rw [List.length_map]; exact big_gt (by omega))).to (by simp)
    refine kbFor (bi_name rfl (kBd ?_))
    show stL G _ _ (Btx.drop 0) _ _ _
    cases B with
    | nil => cases hys
    | star B =>
      cases hys
      rw [Rw.size] at hW hPl hBs
      have i1 : ∀ h, IsaR G "list" h (.str [42]) false := fun h => isa_str_list
      have q1 : (([42] : List Nat) = [42]) = True := eq_true rfl
      ((first | with_reducible refine' stL_at ?hst ?_ | with_reducible refine' nx_next (stL_at ?hst ?_)); (case hst => exact rfl))
      simp_arith [wN, l1, l2, l3, i1 _, q1, hc, hap none _ rfl (by omega)]
      refine stL_end (by decide) (fk_next trivial (hI _ _ ⟨B, P ++ [none], W ++ [42], f, true, rfl, by rw [List.append_assoc]; exact hP, ?_, ?_, ?_, ?_, rfl, fun e z => ?_, by rw [List.length_append, List.length_singleton]; omega, by rw [List.length_append, List.length_singleton]; omega, by omega, hBd, hB.2, fun e => by cases e⟩))
      · simp_arith [wM, l1]
      · simp_arith [wM, l2]
      · simp_arith [wM]
      · simp_arith [wM, l4]
      · rw [List.append_assoc, hf e]
        show trI [46] (42 :: z) P = _
        rw [trI, if_pos rfl, addI_new (hlast hB.1)]
    | leaf p q B =>
      cases hys
      rw [Rw.size] at hW hPl hBs
      have ok := hB.1
      have i1 : ∀ h, IsaR G "list" h (.tuple [.str p, .str q]) false := fun h => isa_tup_list
      have i2 : ∀ h, CmpR G .Eq h (.tuple [.str p, .str q]) (.str [42]) false := fun h => eq_tup_str
      have hp10 := ok.lp
      have hT : trI [46] p [] = [some q] := by
        have := ok.tr [] []
        rw [List.append_nil] at this
        rw [this, trI]; rfl
      have hj' : okRef (hp ++ [.list (P.map (pvI j))]) j = true := okRef_app _ hj
      have hex : MeR G "list.extend" (hp ++ [.list (P.map (pvI j))]) (.ref hp.length) [.list ([some q].map (pvI j))] .none (hp ++ [.list (P.map (pvI j) ++ [some q].map (pvI j))]) := ext_end (by rw [List.length_map]; show _ + 1 ≤ _; omega)
      ((first | with_reducible refine' stL_at ?hst ?_ | with_reducible refine' nx_next (stL_at ?hst ?_)); (case hst => exact rfl))
      simp_arith [wN, l1, l2, i1 _, i2 _, hc, it_0 _ _ _, isFn_of (f__translate G G.w V.X V.g.gns V.hC V.tq)]
      refine callW_mono (c_trI (n := M + 3) V p (by omega) j hj' [46]) ?_
      rintro v h ⟨rfl, e⟩
      obtain rfl := e.symm
      rw [hT]
      simp_arith [wN, l3, hc, hex, it_0 _ _ _]
      refine stL_end (by decide) (fk_next trivial (hI _ _ ⟨B, P ++ [some q], W ++ p, f, false, rfl, by rw [List.append_assoc]; exact hP, ?_, ?_, ?_, ?_, by rw [List.map_append], fun e z => ?_, by rw [List.length_append]; omega, by rw [List.length_append, List.length_singleton]; omega, by omega, hBd, hB.2, fun _ => by simp⟩))
      · simp_arith [wM, l1]
      · simp_arith [wM, l2]
      · simp_arith [wM]
      · simp_arith [wM, l4]
      · rw [List.append_assoc, hf e, ok.tr]
    | row c B =>
      cases hys
      rw [Rw.size] at hW hPl hBs
      rw [Rw.depth, Nat.max_le] at hBd
      have i1 : ∀ h, IsaR G "list" h (.list c.vals) true := fun h => isa_list rfl
      have hj' : okRef (hp ++ [.list (P.map (pvI j))]) j = true := okRef_app _ hj
      ((first | with_reducible refine' stL_at ?hst ?_ | with_reducible refine' nx_next (stL_at ?hst ?_)); (case hst => exact rfl))
      simp_arith [wN, l1, l2, i1 _, hc, isFn_of (f_text V)]
      refine callW_mono (ih (d - 1) (by omega) (M + 5) (by omega) j hj' c hB.1 (by omega) (by omega)) ?_
      rintro v h ⟨rfl, e⟩
      obtain rfl := e.symm
      simp_arith [wN, l2, hc, hap (some (joinI c.pts)) _ rfl (by omega)]
      refine stL_end (by decide) (fk_next trivial (hI _ _ ⟨B, P ++ [some (joinI c.pts)], W, false, false, rfl, by rw [List.append_assoc]; exact hP, ?_, ?_, ?_, ?_, rfl, (fun e => by cases e), by omega, by rw [List.length_append, List.length_singleton]; omega, by omega, hBd.2, hB.2, fun _ => by simp⟩))
      · simp_arith [wM, l1]
      · simp_arith [wM, l2]
      · simp_arith [wM, l3]
      · simp_arith [wM]
  · rintro l h ⟨B, P, W, f, s, hys, hP, l1, l2, l3, l4, rfl, hf, hW, hPl, hBs, hBd, hB, hlast⟩
    have hB0 : B = .nil := by cases B with
      | nil => rfl
      | _ => cases hys
    subst hB0
    rw [show (Rw.nil.pts) = [] from rfl, List.append_nil] at hP
    subst hP
    have hnd := (Rw.noDbl_pts r false hok).1
    have hsum := Rw.sum_le r false hok
    have hjl := Rw.join_le hok
    have fj := isFn_of (f_join G G.w V.X V.g.gns)
    have ft := isFn_of (f_translate G G.w V.X V.g.gns)
    ((first | with_reducible refine' stL_at ?hst ?_ | with_reducible refine' nx_next (stL_at ?hst ?_)); (case hst => exact rfl))
    simp_arith [wN, l1, l2, fj]
    refine callW_mono (c_join V (.ref hp.length) j r.pts (cont_end rfl) hnd (by omega) (by omega)) ?_
    rintro v h ⟨rfl, e⟩
    obtain rfl := e.symm
    simp_arith [wN]
    ((first | with_reducible refine' stL_at ?hst ?_ | with_reducible refine' nx_next (stL_at ?hst ?_)); (case hst => exact rfl))
    cases f with
    | true =>
      have e : trT W = joinI r.pts := by
        have := hf rfl []
        rw [List.append_nil, trI] at this
        unfold trT; rw [this]
      have qt : (joinI r.pts = joinI r.pts) = True := eq_true rfl
      simp_arith [wN, l3, l4, ft]
      refine callW_mono (c_translate (n := M + 1) V W (by omega)) ?_
      rintro v h ⟨rfl, e2⟩
      obtain rfl := e2.symm
      rw [e]
      simp_arith [wN, qt]
      ((first | with_reducible refine' stL_at ?hst ?_ | with_reducible refine' nx_next (stL_at ?hst ?_)); (case hst => exact rfl))
      simp_arith [wN]
      exact endC_of frz_str ⟨rfl, rfl⟩
    | false =>
      simp_arith [wN, l4]
      ((first | with_reducible refine' stL_at ?hst ?_ | with_reducible refine' nx_next (stL_at ?hst ?_)); (case hst => exact rfl))
      simp_arith [wN]
      exact endC_of frz_str ⟨rfl, rfl⟩
theorem frl_t {k : Nat} {h : Hp} : ∀ r : Rw, FrzL G h k r.tval r.tval
  | .nil => frl_nil
  | .star r => frl_cons frz_str (frl_t r)
  | .leaf _ _ r => frl_cons frz_str (frl_t r)
  | .row c r => frl_cons (frz_lsf (frl_t c)) (frl_t r)
noncomputable def Bto : List Stmt := subB (bodyAt prog 14) 1
theorem c_told (V : Giv G) : ∀ (d N : Nat), d + 2 ≤ N → ∀ {hp : Hp} (r : Rw), r.depth ≤ d → r.size ≤ 33 → CallW G N (Str.ofString "_law_told") [.list r.vals] hp fun v h => v = .list r.tval ∧ h = hp := by
  intro d
  induction d using Nat.strongRecOn with
  | ind d ih =>
  intro N hN hp r hd hs
  obtain ⟨M, rfl⟩ : ∃ M, N = M + 2 := ⟨N - 2, by omega⟩
  refine call_walk (fun _ => false) V.g V.po.nl (f_told V) rfl ?_
  dsimp only [updL]
  ((first | with_reducible refine' stL_at ?hst ?_ | with_reducible refine' nx_next (stL_at ?hst ?_)); (case hst => exact rfl))
  simp_arith [wN]
  ((first | with_reducible refine' stL_at ?hst ?_ | with_reducible refine' nx_next (stL_at ?hst ?_)); (case hst => exact rfl))
  simp_arith [wM]
  refine forL_of (fun ys l h => ∃ (B : Rw) (us : List PV), ys = B.vals ∧ us ++ B.tval = r.tval ∧ l (Str.ofString "told") = some (.ref hp.length) ∧ h = hp ++ [.list us] ∧ us.length + B.size ≤ 33 ∧ B.size ≤ r.size ∧ B.depth ≤ d) ?_ ?_
    ⟨r, [], rfl, rfl, rfl, rfl, by show 0 + _ ≤ _; omega, Nat.le_refl _, hd⟩
  · rintro I y ys l h hI ⟨B, us, hys, hP, l1, rfl, hl, hBs, hBd⟩
    have hc : contents (hp ++ [.list us]) (.ref hp.length) = some us := cont_end rfl
    have hap : ∀ v, us.length < 1000 → AppR (hp ++ [.list us]) hp.length v (hp ++ [.list (us ++ [v])]) := fun v hl => meth_end rfl (big_gt (by omega))
    refine kbFor (bi_name rfl (kBd ?_))
    show stL G _ _ (Bto.drop 0) _ _ _
    cases B with
    | nil => cases hys
    | star B =>
      cases hys
      rw [Rw.size] at hl hBs
      have i1 : ∀ h, IsaR G "list" h (.str [42]) false := fun h => isa_str_list
      have q1 : (([42] : List Nat) = [42]) = True := eq_true rfl
      ((first | with_reducible refine' stL_at ?hst ?_ | with_reducible refine' nx_next (stL_at ?hst ?_)); (case hst => exact rfl))
      simp_arith [wN, l1, i1 _, q1, hc, hap _ (by omega)]
      refine stL_end (by decide) (fk_next trivial (hI _ _ ⟨B, us ++ [.str [42]], rfl, by rw [List.append_assoc]; exact hP, by simp_arith [wM, l1], rfl, by rw [List.length_append, List.length_singleton]; omega, by omega, hBd⟩))
    | leaf p q B =>
      cases hys
      rw [Rw.size] at hl hBs
      have i1 : ∀ h, IsaR G "list" h (.tuple [.str p, .str q]) false := fun h => isa_tup_list
      have i2 : ∀ h, CmpR G .Eq h (.tuple [.str p, .str q]) (.str [42]) false := fun h => eq_tup_str
      ((first | with_reducible refine' stL_at ?hst ?_ | with_reducible refine' nx_next (stL_at ?hst ?_)); (case hst => exact rfl))
      simp_arith [wN, l1, i1 _, i2 _, hc, hap _ (by omega), it_1 _ _ _ _]
      refine stL_end (by decide) (fk_next trivial (hI _ _ ⟨B, us ++ [.str q], rfl, by rw [List.append_assoc]; exact hP, by simp_arith [wM, l1], rfl, by rw [List.length_append, List.length_singleton]; omega, by omega, hBd⟩))
    | row c B =>
      cases hys
      rw [Rw.size] at hl hBs
      rw [Rw.depth, Nat.max_le] at hBd
      have i1 : ∀ h, IsaR G "list" h (.list c.vals) true := fun h => isa_list rfl
      ((first | with_reducible refine' stL_at ?hst ?_ | with_reducible refine' nx_next (stL_at ?hst ?_)); (case hst => exact rfl))
      simp_arith [wN, l1, i1 _, hc, isFn_of (f_told V)]
      refine callW_mono (ih (d - 1) (by omega) (M + 1) (by omega) c (by omega) (by omega)) ?_
      rintro v h ⟨rfl, e⟩
      obtain rfl := e.symm
      simp_arith [wN, l1, hc, hap _ (by omega)]
      refine stL_end (by decide) (fk_next trivial (hI _ _ ⟨B, us ++ [.list c.tval], rfl, by rw [List.append_assoc]; exact hP, by simp_arith [wM, l1], rfl, by rw [List.length_append, List.length_singleton]; omega, by omega, hBd.2⟩))
  · rintro l h ⟨B, us, hys, hP, l1, rfl, hl, hBs, hBd⟩
    have hB0 : B = .nil := by cases B with
      | nil => rfl
      | _ => cases hys
    subst hB0
    rw [show (Rw.nil.tval) = [] from rfl, List.append_nil] at hP
    subst hP
    ((first | with_reducible refine' stL_at ?hst ?_ | with_reducible refine' nx_next (stL_at ?hst ?_)); (case hst => exact rfl))
    simp_arith [wN, l1]
    exact endC_of (frz_lst (getE_end ..) (Nat.le_refl _) (frl_t r)) ⟨rfl, rfl⟩
end

section
open PySem PySem.W PyProof.Rows
set_option linter.unusedVariables false
set_option linter.unusedSimpArgs false
set_option maxRecDepth 100000
set_option maxHeartbeats 4000000
variable {G : GI} {n : Nat} {hp : Hp}
/-! law 06: the end of a bracket -/
theorem sl_at {h : Hp} {T x y : List Nat} (hT : T = x ++ y) (hl : T.length ≤ 1000000) {i j : Int} (k : Nat) (hi : i = x.length) (hj : j = (x.length : Int) + k) : SlR G h (.str T) (.int i) (.int j) (.str (y.take k)) := by
  subst hi hj
  exact SlR.to (@slice_any G h T x.length (x.length + k) (big_ge (Nat.le_trans hl (by decide)))) (by rw [hT, sl_len0])
/-- the sign at a place -/
theorem it_at {h : Hp} {T x y : List Nat} {c : Nat} (hT : T = x ++ c :: y) (hl : T.length ≤ 1000000) {i : Int} (hi : i = x.length) : ItR G h (.str T) (.int i) (.str [c]) := by
  subst hi
  have hlt : x.length < T.length := by rw [hT, List.length_append, List.length_cons]; omega
  have e : T[x.length] = c := by
    have : T[x.length]? = some c := by rw [hT, at_len]; rfl
    rw [List.getElem?_eq_getElem hlt] at this; exact Option.some.inj this
  have := @item_str G h T x.length hlt (big_ge (Nat.le_trans (Nat.le_of_lt hlt) (Nat.le_trans hl (by decide))))
  rwa [e] at this
theorem take1 {y : List Nat} {c : Nat} (h : y.head? ≠ some c) : (y.take 1 = [c]) = False := eq_false fun q => h (by
  cases y with
  | nil => cases q
  | cons a y => simp at q; rw [q]; rfl)
theorem clB_cases {c : List Nat} (h : clB c = true) : c = [] ∨ (∃ d r, c = 92 :: d :: r ∧ clB r = true) ∨ ∃ a r, c = a :: r ∧ a ≠ 92 ∧ a ≠ 93 ∧ clB r = true := by
  cases c with
  | nil => exact .inl rfl
  | cons a r =>
    by_cases ha : a = 92
    · subst ha
      cases r with
      | nil => cases h
      | cons d r => exact .inr (.inl ⟨d, r, rfl, h⟩)
    · rw [clB] at h
      · rw [Bool.and_eq_true] at h
        exact .inr (.inr ⟨a, r, rfl, ha, by simpa using h.1, h.2⟩)
      · rintro _ _ q; exact absurd q ha
      · rintro q; exact absurd q ha
noncomputable def Bcl : List Stmt := subB (bodyAt prog 15) 3
theorem c_close (V : Giv G) (f s : Bool) (b : List Nat) (hb : clB b = true) (h1 : f = false → s = false → b.head? ≠ some 94) (h2 : s = false → b ≠ []) (T x z : List Nat) (hT : T = x ++ 91 :: ((if f then [94] else []) ++ ((if s then [93] else []) ++ (b ++ 93 :: z)))) (hl : T.length ≤ 100000) :
    CallW G (n + 1) (Str.ofString "_law_close") [.str T, .int (x.length : Nat)] hp fun v h => v = .int ((x.length + (91 :: ((if f then [94] else []) ++ ((if s then [93] else []) ++ (b ++ [93])))).length : Nat) : Int) ∧ h = hp := by
  refine call_walk (fun _ => false) V.g V.po.nl (f_close V) rfl ?_
  dsimp only [updL]
  have hl6 : T.length ≤ 1000000 := Nat.le_trans hl (by decide)
  have hln : ∀ h, BltR G (.builtin "len") h [.str T] (.int T.length) := fun h => d_len (big_ge (by omega))
  have hb93 : (b ++ 93 :: z).head? = some 93 → s = false → False := fun q e => by
    rcases clB_cases hb with rfl | ⟨d, r, rfl, _⟩ | ⟨a, r, rfl, _, ha, _⟩
    · exact h2 e rfl
    · simp at q
    · simp at q; exact ha q
  -- the end of what stands ahead, and on
  have loop : ∀ (l : Loc) (y : List Nat), T = y ++ (b ++ 93 :: z) → y.length + b.length + 1 = x.length + (91 :: ((if f then [94] else []) ++ ((if s then [93] else []) ++ (b ++ [93])))).length → l (Str.ofString "text") = some (.str T) → l (Str.ofString "place") = some (.int (y.length : Nat)) →
      stL G (n + 1) ⟨scopeAt prog 15, fun _ => false⟩ ((bodyAt prog 15).drop 3) l hp (EndC G hp fun v h => v = .int ((x.length + (91 :: ((if f then [94] else []) ++ ((if s then [93] else []) ++ (b ++ [93])))).length : Nat) : Int) ∧ h = hp) := by
    intro l y hT2 hy l1 l2
    generalize x.length + (91 :: ((if f then [94] else []) ++ ((if s then [93] else []) ++ (b ++ [93])))).length = N at *
    ((first | with_reducible refine' stL_at ?hst ?_ | with_reducible refine' nx_next (stL_at ?hst ?_)); (case hst => exact rfl))
    refine s_while ?_
    refine whileW_of (fun m l h => ∃ y c : List Nat, m = c.length ∧ T = y ++ (c ++ 93 :: z) ∧ clB c = true ∧ y.length + c.length + 1 = N ∧ l (Str.ofString "text") = some (.str T) ∧ l (Str.ofString "place") = some (.int (y.length : Nat)) ∧ h = hp) ?_
      (m := b.length) ⟨y, b, rfl, hT2, hb, hy, l1, l2, rfl⟩
    clear hT2 hy l1 l2 hb hb93 h1 h2 hT
    rintro I m l h hI ⟨y, c, rfl, hT, hc, hN, l1, l2, rfl⟩
    have hTl := congrArg List.length hT
    rw [List.length_append, List.length_append, List.length_cons] at hTl
    have q1 : ((y.length : Int) < (T.length : Nat)) = True := eq_true (by omega)
    rcases clB_cases hc with rfl | ⟨d, r, rfl, hr⟩ | ⟨a, r, rfl, ha, ha2, hr⟩
    · have i0 : ∀ h, ItR G h (.str T) (.int (y.length : Nat)) (.str [93]) := fun h => it_at (y := z) hT hl6 rfl
      have q2 : (([93] : List Nat) = [93]) = True := eq_true rfl
      simp_arith [wN, l1, l2, hln _, q1, i0 _, q2]
      ((first | with_reducible refine' stL_at ?hst ?_ | with_reducible refine' nx_next (stL_at ?hst ?_)); (case hst => exact rfl))
      simp_arith [wN, l2]
      exact endC_same frz_int ⟨by rw [← hN]; rfl, rfl⟩
    · have i0 : ∀ h, ItR G h (.str T) (.int (y.length : Nat)) (.str [92]) := fun h => it_at (y := d :: (r ++ 93 :: z)) hT hl6 rfl
      have q2 : (([92] : List Nat) = [93]) = False := eq_false (by decide)
      have q3 : (([92] : List Nat) = [92]) = True := eq_true rfl
      simp_arith [wM, l1, l2, hln _, q1, i0 _, q2]
      show stL G _ _ (Bcl.drop 0) _ _ _
      ((first | with_reducible refine' stL_at ?hst ?_ | with_reducible refine' nx_next (stL_at ?hst ?_)); (case hst => exact rfl))
      simp_arith [wN, l1, l2, i0 _, q3]
      refine stL_end (by decide) (hI _ _ _ (show r.length < (92 :: d :: r).length by simp only [List.length_cons]; omega) ⟨y ++ [92, d], r, rfl, by rw [hT]; simp, hr, by rw [← hN]; simp; omega, by simp_arith [wM, l1], ?_, rfl⟩)
      simp_arith [wM]
      rw [List.length_append]; rfl
    · have i0 : ∀ h, ItR G h (.str T) (.int (y.length : Nat)) (.str [a]) := fun h => it_at (y := r ++ 93 :: z) hT hl6 rfl
      have q2 : ([a] = [93]) = False := eq_false (by simpa using ha2)
      have q3 : ([a] = [92]) = False := eq_false (by simpa using ha)
      simp_arith [wM, l1, l2, hln _, q1, i0 _, q2]
      show stL G _ _ (Bcl.drop 0) _ _ _
      ((first | with_reducible refine' stL_at ?hst ?_ | with_reducible refine' nx_next (stL_at ?hst ?_)); (case hst => exact rfl))
      simp_arith [wN, l1, l2, i0 _, q3]
      refine stL_end (by decide) (hI _ _ _ (Nat.lt_succ_self _) ⟨y ++ [a], r, rfl, by rw [hT]; simp, hr, by rw [← hN]; simp; omega, by simp_arith [wM, l1], ?_, rfl⟩)
      simp_arith [wM]
      rw [List.length_append]; rfl
  have mid : ∀ (l : Loc) (y : List Nat), T = y ++ ((if s then [93] else []) ++ (b ++ 93 :: z)) → y.length = x.length + 1 + (if f then [94] else [] : List Nat).length → l (Str.ofString "text") = some (.str T) → l (Str.ofString "place") = some (.int (y.length : Nat)) →
      stL G (n + 1) ⟨scopeAt prog 15, fun _ => false⟩ ((bodyAt prog 15).drop 2) l hp (EndC G hp fun v h => v = .int ((x.length + (91 :: ((if f then [94] else []) ++ ((if s then [93] else []) ++ (b ++ [93])))).length : Nat) : Int) ∧ h = hp) := by
    intro l y hT2 hy l1 l2
    have s1 : ∀ h, SlR G h (.str T) (.int (y.length : Nat)) (.int ((y.length : Int) + 1)) (.str (((if s then [93] else []) ++ (b ++ 93 :: z)).take 1)) := fun h => sl_at hT2 hl6 1 rfl rfl
    ((first | with_reducible refine' stL_at ?hst ?_ | with_reducible refine' nx_next (stL_at ?hst ?_)); (case hst => exact rfl))
    cases hs : s with
    | true =>
      rw [hs] at hT2 loop s1
      have q : (([93] : List Nat) = [93]) = True := eq_true rfl
      have s1 : ∀ h, SlR G h (.str T) (.int (y.length : Nat)) (.int ((y.length : Int) + 1)) (.str [93]) := s1
      simp_arith [wN, l1, l2, s1 _, q]
      refine loop _ (y ++ [93]) (by rw [hT2]; simp) ?_ ?_ ?_
      · simp [hy]; omega
      · simp_arith [wM, l1]
      · simp_arith [wM]; rw [List.length_append]; rfl
    | false =>
      rw [hs] at hT2 loop s1
      have q : ((b ++ 93 :: z).take 1 = [93]) = False := take1 fun q => hb93 q hs
      have s1 : ∀ h, SlR G h (.str T) (.int (y.length : Nat)) (.int ((y.length : Int) + 1)) (.str ((b ++ 93 :: z).take 1)) := s1
      simp_arith [wN, l1, l2, s1 _, q]
      refine loop _ y hT2 ?_ l1 l2
      simp [hy]; omega
  have hT1 : T = (x ++ [91]) ++ ((if f then [94] else []) ++ ((if s then [93] else []) ++ (b ++ 93 :: z))) := by rw [hT]; simp
  have s1 : ∀ h, SlR G h (.str T) (.int ((x.length : Int) + 1)) (.int ((x.length : Int) + 1 + 1)) (.str (((if f then [94] else []) ++ ((if s then [93] else []) ++ (b ++ 93 :: z))).take 1)) := fun h => sl_at hT1 hl6 1 (by rw [List.length_append]; rfl) (by rw [List.length_append]; rfl)
  ((first | with_reducible refine' stL_at ?hst ?_ | with_reducible refine' nx_next (stL_at ?hst ?_)); (case hst => exact rfl))
  simp_arith [wN]
  ((first | with_reducible refine' stL_at ?hst ?_ | with_reducible refine' nx_next (stL_at ?hst ?_)); (case hst => exact rfl))
  cases hf : f with
  | true =>
    rw [hf] at hT1 s1 mid
    have q : (([94] : List Nat) = [94]) = True := eq_true rfl
    have s1 : ∀ h, SlR G h (.str T) (.int ((x.length : Int) + 1)) (.int ((x.length : Int) + 1 + 1)) (.str [94]) := s1
    simp_arith [wN, s1 _, q]
    refine mid _ (x ++ [91, 94]) (by rw [hT1]; simp) (by simp) ?_ ?_
    · simp_arith [wM]
    · simp_arith [wM]; rw [List.length_append]; rfl
  | false =>
    rw [hf] at hT1 s1 mid
    obtain ⟨w, hw⟩ : ∃ w, w = (if s then [93] else []) ++ (b ++ 93 :: z) := ⟨_, rfl⟩
    have s1 : ∀ h, SlR G h (.str T) (.int ((x.length : Int) + 1)) (.int ((x.length : Int) + 1 + 1)) (.str (w.take 1)) := by rw [hw]; exact s1
    have q : (w.take 1 = [94]) = False := take1 (by
      rw [hw]
      cases hs : s with
      | true => simp
      | false =>
        have e1 := h1 hf hs
        have e2 := h2 hs
        cases hbb : b with
        | nil => exact absurd hbb e2
        | cons a r => rw [hbb] at e1; simpa using e1)
    simp_arith [wN, s1 _, q]
    refine mid _ (x ++ [91]) hT1 (by simp) ?_ ?_
    · simp_arith [wM]
    · simp_arith [wM]; rw [List.length_append]; rfl
end

section
open PySem PySem.W PyProof.Rows
set_option linter.unusedVariables false
set_option linter.unusedSimpArgs false
set_option maxRecDepth 100000
set_option maxHeartbeats 4000000
variable {G : GI} {n : Nat} {hp : Hp}
/-! law 06: the reader of a row -/
theorem rd_cases (V : Giv G) {q : List Nat} (rd : Rd q) : q = [40, 63, 33, 41] ∨ (∃ c, q = [92, c]) ∨ (∃ c, q = [c] ∧ c ≠ 40 ∧ c ≠ 41 ∧ c ≠ 91 ∧ c ≠ 92 ∧ c ≠ 42) ∨
    ∃ t, q = 91 :: t ∧ ∀ (n : Nat) (hp : Hp) (T x z : List Nat), T = x ++ (q ++ z) → T.length ≤ 100000 → CallW G (n + 1) (Str.ofString "_law_close") [.str T, .int (x.length : Nat)] hp fun v h => v = .int ((x.length + q.length : Nat) : Int) ∧ h = hp := by
  cases rd with
  | no => exact .inl rfl
  | esc c => exact .inr (.inl ⟨c, rfl⟩)
  | one c h => exact .inr (.inr (.inl ⟨c, rfl, h⟩))
  | set f s b hb h1 h2 => exact .inr (.inr (.inr ⟨_, rfl, fun n hp T x z hT hl => c_close V f s b hb h1 h2 T x z (by rw [hT]; simp) hl⟩))
noncomputable def tS6 (g mu : Bool) (d : Rw) : List Nat := if mu then starX d.pts else mtx g d.pts
noncomputable def wM (mu : Bool) (d : Rw) : Rw := if mu then .star d else d
noncomputable def Brw : List Stmt := subB (bodyAt prog 16) 4
noncomputable abbrev Krw : Cfg := ⟨scopeAt prog 16, fun _ => false⟩
noncomputable def Qrw (hp : Hp) (us : List PV) (e : Nat) : PV → Hp → Prop := fun v h => v = .tuple [.list us, .int (e : Nat)] ∧ h = hp
theorem c_row (V : Giv G) : ∀ (D N : Nat), D + 3 ≤ N → ∀ {hp : Hp} (r : Rw), r.ok false → r.depth ≤ D → r.size ≤ 33 → ∀ (T x z : List Nat), T = x ++ (mtx false r.pts ++ 41 :: 92 :: 90 :: z) → T.length ≤ 100000 → ∀ p : Int, p = x.length →
    CallW G N (Str.ofString "_law_row") [.str T, .int p] hp (Qrw hp r.tval (x.length + (mtx false r.pts).length + 3)) := by
  intro D
  induction D using Nat.strongRecOn with
  | ind D ih =>
  intro N hN hp r hok hD hsz T x z hT hl p hp0
  subst hp0
  obtain ⟨M, rfl⟩ : ∃ M, N = M + 3 := ⟨N - 3, by omega⟩
  refine call_walk (fun _ => false) V.g V.po.nl (f_row V) rfl ?_
  dsimp only [updL]
  have hl6 : T.length ≤ 1000000 := Nat.le_trans hl (by decide)
  have hln : ∀ h, BltR G (.builtin "len") h [.str T] (.int T.length) := fun h => d_len (big_ge (by omega))
  obtain ⟨E, hE⟩ : ∃ E, E = x.length + (mtx false r.pts).length + 3 := ⟨_, rfl⟩
  rw [← hE]
  ((first | with_reducible refine' stL_at ?hst ?_ | with_reducible refine' nx_next (stL_at ?hst ?_)); (case hst => exact rfl))
  simp_arith [wN]
  ((first | with_reducible refine' stL_at ?hst ?_ | with_reducible refine' nx_next (stL_at ?hst ?_)); (case hst => exact rfl))
  simp_arith [wN]
  ((first | with_reducible refine' stL_at ?hst ?_ | with_reducible refine' nx_next (stL_at ?hst ?_)); (case hst => exact rfl))
  simp_arith [wN]
  ((first | with_reducible refine' stL_at ?hst ?_ | with_reducible refine' nx_next (stL_at ?hst ?_)); (case hst => exact rfl))
  simp_arith [wN]
  ((first | with_reducible refine' stL_at ?hst ?_ | with_reducible refine' nx_next (stL_at ?hst ?_)); (case hst => exact rfl))
  refine s_while ?_
  refine whileW_of (fun m l h => ∃ (g tl mu s : Bool) (d : Rw) (us : List PV) (y : List Nat), m = 2 * d.size + (if mu then 1 else 0) ∧ (mu = true → g = false ∧ tl = false ∧ s = true) ∧ (g = true → tl = false ∧ hasN d.pts = true) ∧ (tl = true → hasN d.pts = false) ∧ d.ok s ∧ d.depth ≤ D ∧ us.length + (wM mu d).size ≤ 33 ∧ d.size ≤ 33 ∧
      T = y ++ (tS6 g mu d ++ 41 :: 92 :: 90 :: z) ∧ y.length + (tS6 g mu d).length + 3 = E ∧ us ++ (wM mu d).tval = r.tval ∧
      l (Str.ofString "text") = some (.str T) ∧ l (Str.ofString "place") = some (.int (y.length : Nat)) ∧ l (Str.ofString "group") = some (.bool g) ∧ l (Str.ofString "tail") = some (.bool tl) ∧ l (Str.ofString "must") = some (.bool mu) ∧
      l (Str.ofString "row") = some (.ref hp.length) ∧ h = hp ++ [.list us]) ?_
    (m := 2 * r.size + 0) ⟨false, false, false, false, r, [], x, rfl, (fun e => by cases e), (fun e => by cases e), (fun e => by cases e), hok, hD, by show 0 + r.size ≤ 33; omega, hsz, hT, hE.symm, rfl, rfl, rfl, rfl, rfl, rfl, rfl, rfl⟩
  clear hT hE hok hD hsz
  rintro I m l h hI ⟨g, tl, mu, s, d, us, y, rfl, im, ig, itl, hok, hD, hul, hsz, hT, hE, hus, l1, l2, l3, l4, l5, l6, rfl⟩
  have cc : contents (hp ++ [.list us]) (.ref hp.length) = some us := cont_end rfl
  have hap : ∀ v, us.length ≤ 33 → AppR (hp ++ [.list us]) hp.length v (hp ++ [.list (us ++ [v])]) := fun v hv => meth_end rfl (big_gt (by omega))
  have hTl := congrArg List.length hT
  rw [List.length_append, List.length_append] at hTl
  simp only [List.length_cons] at hTl
  have q1 : ((y.length : Int) < (T.length : Nat)) = True := eq_true (by omega)
  obtain ⟨w, hw⟩ : ∃ w, w = tS6 g mu d ++ 41 :: 92 :: 90 :: z := ⟨_, rfl⟩
  obtain ⟨t6, h6⟩ : ∃ t, t = w.take 6 := ⟨_, rfl⟩
  obtain ⟨t4, h4⟩ : ∃ t, t = w.take 4 := ⟨_, rfl⟩
  obtain ⟨t3, h3⟩ : ∃ t, t = w.take 3 := ⟨_, rfl⟩
  obtain ⟨t2, h2⟩ : ∃ t, t = w.take 2 := ⟨_, rfl⟩
  have hTw : T = y ++ w := by rw [hT, hw]
  have s6 : ∀ h, SlR G h (.str T) (.int (y.length : Nat)) (.int ((y.length : Int) + 6)) (.str t6) := fun h => by rw [h6]; exact sl_at hTw hl6 6 rfl rfl
  have s4 : ∀ h, SlR G h (.str T) (.int (y.length : Nat)) (.int ((y.length : Int) + 4)) (.str t4) := fun h => by rw [h4]; exact sl_at hTw hl6 4 rfl rfl
  have s3 : ∀ h, SlR G h (.str T) (.int (y.length : Nat)) (.int ((y.length : Int) + 3)) (.str t3) := fun h => by rw [h3]; exact sl_at hTw hl6 3 rfl rfl
  have s2 : ∀ h, SlR G h (.str T) (.int (y.length : Nat)) (.int ((y.length : Int) + 2)) (.str t2) := fun h => by rw [h2]; exact sl_at hTw hl6 2 rfl rfl
  have i0 : ∀ (c : Nat) (t : List Nat), w = c :: t → ∀ h, ItR G h (.str T) (.int (y.length : Nat)) (.str [c]) := fun c t e h => it_at (y := t) (by rw [hTw, e]) hl6 rfl
  simp_arith [wM, l1, l2, hln _, q1]
  show stL G _ _ (Brw.drop 0) _ _ _
  -- a star
  have star : ∀ d' : Rw, d'.ok true → d'.depth ≤ D → us.length + d'.size + 1 ≤ 33 → 2 * d'.size < 2 * d.size + (if mu then 1 else 0) → tS6 g mu d = starX d'.pts → us ++ (Rw.star d').tval = r.tval → g = false → tl = false →
      stL G (M + 3) Krw (Brw.drop 0) l (hp ++ [.list us]) (WhK I (Nxt G (M + 3) Krw ((bodyAt prog 16).drop 5) (EndC G hp (Qrw hp r.tval E)))) := by
    intro d' o1 o2 o3 hm ht htv hg htl
    subst hg htl
    rw [ht] at hw hT hE
    ((first | with_reducible refine' stL_at ?hst ?_ | with_reducible refine' nx_next (stL_at ?hst ?_)); (case hst => exact rfl))
    cases hn : hasN d'.pts with
    | true =>
      have es : starX d'.pts = grp ++ mtx true d'.pts := by unfold starX; rw [hn, if_pos rfl]
      rw [es] at hw hT hE
      have q6 : (t6 = [40, 63, 62, 46, 42, 63]) = True := eq_true (by rw [h6, hw]; rfl)
      simp_arith [wN, l1, l2, l3, l4, l6, s6 _, q6, cc, hap _ (by omega)]
      refine stL_end (by decide) (hI _ _ _ hm ⟨true, false, false, true, d', us ++ [.str [42]], y ++ grp, rfl, (fun e => by cases e), fun _ => ⟨rfl, hn⟩, (fun e => by cases e), o1, o2, by rw [List.length_append, List.length_singleton]; show _ + d'.size ≤ 33; omega, by omega, by rw [hT]; simp [tS6], ?_, by rw [List.append_assoc]; exact htv, ?_, ?_, ?_, ?_, ?_, ?_, rfl⟩)
      · rw [← hE, List.length_append, List.length_append]; show _ + _ + (mtx true d'.pts).length + 3 = _; omega
      · simp_arith [wM, l1]
      · simp_arith [wM]; rw [List.length_append]; rfl
      · simp_arith [wM]
      · simp_arith [wM, l4]
      · simp_arith [wM]
      · simp_arith [wM, l6]
    | false =>
      have es : starX d'.pts = 46 :: 42 :: mtx false d'.pts := by unfold starX; rw [hn, if_neg Bool.false_ne_true]
      rw [es] at hw hT hE
      have q6 : (t6 = [40, 63, 62, 46, 42, 63]) = False := eq_false (by rw [h6, hw]; simp)
      have q2 : (t2 = [46, 42]) = True := eq_true (by rw [h2, hw]; rfl)
      simp_arith [wN, l1, l2, l3, l4, l6, s6 _, q6, s2 _, q2, cc, hap _ (by omega)]
      refine stL_end (by decide) (hI _ _ _ hm ⟨false, true, false, true, d', us ++ [.str [42]], y ++ [46, 42], rfl, (fun e => by cases e), (fun e => by cases e), fun _ => hn, o1, o2, by rw [List.length_append, List.length_singleton]; show _ + d'.size ≤ 33; omega, by omega, by rw [hT]; simp [tS6], ?_, by rw [List.append_assoc]; exact htv, ?_, ?_, ?_, ?_, ?_, ?_, rfl⟩)
      · rw [← hE, List.length_append]; simp only [List.length_cons, List.length_nil]; show _ + _ + (mtx false d'.pts).length + 3 = _; omega
      · simp_arith [wM, l1]
      · simp_arith [wM]; rw [List.length_append]; rfl
      · simp_arith [wM, l3]
      · simp_arith [wM]
      · simp_arith [wM]
      · simp_arith [wM, l6]
  cases mu with
  | true =>
    obtain ⟨rfl, rfl, rfl⟩ := im rfl
    have hul : us.length + (d.size + 1) ≤ 33 := hul
    exact star d hok hD (by omega) (show 2 * d.size < 2 * d.size + 1 by omega) rfl hus rfl rfl
  | false =>
    cases d with
    | star d =>
      have hul : us.length + (d.size + 1) ≤ 33 := hul
      have hsz : d.size + 1 ≤ 33 := hsz
      cases g with
      | false =>
        have ht : tl = false := by
          cases tl with
          | false => rfl
          | true => exact absurd (itl rfl) (by simp [Rw.pts, hasN])
        exact star d hok.2 hD (by omega) (show 2 * d.size < 2 * (d.size + 1) + 0 by omega) rfl hus rfl ht
      | true =>
        obtain rfl := (ig rfl).1
        have hw : w = 41 :: (starX d.pts ++ 41 :: 92 :: 90 :: z) := hw
        have q6 : (t6 = [40, 63, 62, 46, 42, 63]) = False := eq_false (by rw [h6, hw]; simp)
        have q2 : (t2 = [46, 42]) = False := eq_false (by rw [h2, hw]; simp)
        have qa : (([41] : List Nat) = [41]) = True := eq_true rfl
        have i1 : ∀ h, ItR G h (.str T) (.int (y.length : Nat)) (.str [41]) := i0 _ _ hw
        ((first | with_reducible refine' stL_at ?hst ?_ | with_reducible refine' nx_next (stL_at ?hst ?_)); (case hst => exact rfl))
        simp_arith [wN, l1, l2, l3, s6 _, q6, s2 _, q2, i1 _, qa]
        refine stL_end (by decide) (hI _ _ _ (show 2 * d.size + 1 < 2 * (d.size + 1) + 0 by omega) ⟨false, false, true, true, d, us, y ++ [41], rfl, fun _ => ⟨rfl, rfl, rfl⟩, (fun e => by cases e), (fun e => by cases e), hok.2, hD, hul, by omega, by rw [hT, List.append_assoc]; rfl, ?_, hus, ?_, ?_, ?_, ?_, ?_, ?_, rfl⟩)
        · rw [← hE, List.length_append]; show _ + 1 + (starX d.pts).length + 3 = _ + ((starX d.pts).length + 1) + 3; omega
        · simp_arith [wM, l1]
        · simp_arith [wM]; rw [List.length_append]; rfl
        · simp_arith [wM]
        · simp_arith [wM, l4]
        · simp_arith [wM]
        · simp_arith [wM, l6]
    | nil =>
      cases g with
      | true => exact absurd (ig rfl).2 (by simp [Rw.pts, hasN])
      | false =>
        have hw : w = 41 :: 92 :: 90 :: z := hw
        have q6 : (t6 = [40, 63, 62, 46, 42, 63]) = False := eq_false (by rw [h6, hw]; simp)
        have q2 : (t2 = [46, 42]) = False := eq_false (by rw [h2, hw]; simp)
        have qa : (([41] : List Nat) = [41]) = True := eq_true rfl
        have q3 : (t3 = [41, 92, 90]) = True := eq_true (by rw [h3, hw]; rfl)
        have i1 : ∀ h, ItR G h (.str T) (.int (y.length : Nat)) (.str [41]) := i0 _ _ hw
        have hus : us = r.tval := (List.append_nil us).symm.trans hus
        ((first | with_reducible refine' stL_at ?hst ?_ | with_reducible refine' nx_next (stL_at ?hst ?_)); (case hst => exact rfl))
        simp_arith [wN, l1, l2, l3, l5, l6, s6 _, q6, s2 _, q2, i1 _, qa, s3 _, q3]
        rw [hus]
        exact endC_of (frz_tup (frl_cons (frz_lst (getE_end ..) (Nat.le_refl _) (frl_t r)) (frl_cons frz_int frl_nil))) ⟨by rw [← hE]; rfl, rfl⟩
    | row c d =>
      obtain ⟨hc, hd⟩ := hok
      rw [Rw.depth, Nat.max_le] at hD
      have hul : us.length + (c.size + d.size + 1) ≤ 33 := hul
      have hsz : c.size + d.size + 1 ≤ 33 := hsz
      have hw : w = (joinI c.pts ++ mtx g d.pts) ++ 41 :: 92 :: 90 :: z := hw
      have hT : T = y ++ ((joinI c.pts ++ mtx g d.pts) ++ 41 :: 92 :: 90 :: z) := hT
      have hE : y.length + (joinI c.pts ++ mtx g d.pts).length + 3 = E := hE
      have hj := joinI_mtx c.pts
      have hjl := congrArg List.length hj
      simp only [List.length_append, List.length_cons, List.length_nil] at hjl
      have hw : w = 40 :: 63 :: 115 :: 58 :: (mtx false c.pts ++ 41 :: 92 :: 90 :: (mtx g d.pts ++ 41 :: 92 :: 90 :: z)) := by rw [hw, hj]; simp
      have q6 : (t6 = [40, 63, 62, 46, 42, 63]) = False := eq_false (by rw [h6, hw]; simp)
      have q2 : (t2 = [46, 42]) = False := eq_false (by rw [h2, hw]; simp)
      have qa : (([40] : List Nat) = [41]) = False := eq_false (by decide)
      have q4 : (t4 = [40, 63, 115, 58]) = True := eq_true (by rw [h4, hw]; rfl)
      have i1 : ∀ h, ItR G h (.str T) (.int (y.length : Nat)) (.str [40]) := i0 _ _ hw
      ((first | with_reducible refine' stL_at ?hst ?_ | with_reducible refine' nx_next (stL_at ?hst ?_)); (case hst => exact rfl))
      simp_arith [wN, l1, l2, l3, l5, l6, s6 _, q6, s2 _, q2, i1 _, qa, s4 _, q4, isFn_of (f_row V)]
      refine callW_mono (ih (D - 1) (by omega) (M + 2) (by omega) c hc (by omega) (by omega) T (y ++ [40, 63, 115, 58]) (mtx g d.pts ++ 41 :: 92 :: 90 :: z) (by rw [hTw, hw]; simp) hl _ (by rw [List.length_append]; rfl)) ?_
      rintro v h ⟨rfl, e⟩
      obtain rfl := e.symm
      have ii : ∀ h, IsR G h (.list c.tval) .none false := fun h => is_ln
      simp_arith [wN, ii _, l6, cc, hap _ (by omega)]
      refine stL_end (by decide) (hI _ _ _ (show 2 * d.size + 0 < 2 * (c.size + d.size + 1) + 0 by omega) ⟨g, tl, false, false, d, us ++ [.list c.tval], y ++ joinI c.pts, rfl, (fun e => by cases e), ig, itl, hd, hD.2, ?_, by omega, by rw [hT, List.append_assoc, List.append_assoc]; rfl, ?_, by rw [List.append_assoc]; exact hus, ?_, ?_, ?_, ?_, ?_, ?_, rfl⟩)
      · rw [List.length_append, List.length_singleton]; show _ + d.size ≤ 33; omega
      · rw [← hE, List.length_append, List.length_append]; show _ + (mtx g d.pts).length + 3 = _; omega
      · simp_arith [wM, l1]
      · simp_arith [wM]; rw [List.length_append, List.length_append, hjl]; exact congrArg (fun i : Nat => some (PV.int i)) (by simp only [List.length_cons, List.length_nil]; omega)
      · simp_arith [wM, l3]
      · simp_arith [wM, l4]
      · simp_arith [wM, l5]
      · simp_arith [wM, l6]
    | leaf p q d =>
      obtain ⟨⟨_, rd, _, _⟩, hd⟩ := hok
      have hul : us.length + (d.size + 1) ≤ 33 := hul
      have hsz : d.size + 1 ≤ 33 := hsz
      have hw : w = q ++ (mtx g d.pts ++ 41 :: 92 :: 90 :: z) := hw.trans (List.append_assoc ..)
      have hE : y.length + (q ++ mtx g d.pts).length + 3 = E := hE
      have fin : ∀ l' : Loc, l' (Str.ofString "text") = some (.str T) → l' (Str.ofString "place") = some (.int ((y.length : Int) + q.length)) → l' (Str.ofString "group") = some (.bool g) → l' (Str.ofString "tail") = some (.bool tl) → l' (Str.ofString "must") = some (.bool false) → l' (Str.ofString "row") = some (.ref hp.length) → I l' (hp ++ [.list (us ++ [.str q])]) := by
        intro l' a1 a2 a3 a4 a5 a6
        refine hI _ _ _ (show 2 * d.size + 0 < 2 * (d.size + 1) + 0 by omega) ⟨g, tl, false, false, d, us ++ [.str q], y ++ q, rfl, (fun e => by cases e), ig, itl, hd, hD, ?_, by omega, by rw [hTw, hw, List.append_assoc]; rfl, ?_, by rw [List.append_assoc]; exact hus, a1, ?_, a3, a4, a5, a6, rfl⟩
        · rw [List.length_append, List.length_singleton]; show _ + d.size ≤ 33; omega
        · rw [← hE, List.length_append, List.length_append]; show _ + (mtx g d.pts).length + 3 = _; omega
        · rw [a2, List.length_append]; rfl
      have sq : ∀ (h : Hp) (j : Int), j = (y.length : Int) + q.length → SlR G h (.str T) (.int (y.length : Nat)) (.int j) (.str q) := fun h j e => SlR.to (sl_at hTw hl6 q.length rfl e) (by rw [hw, List.take_left])
      have h42 := mtx_42 g d false hd (92 :: 90 :: z)
      generalize mtx g d.pts ++ 41 :: 92 :: 90 :: z = u at hw h42
      ((first | with_reducible refine' stL_at ?hst ?_ | with_reducible refine' nx_next (stL_at ?hst ?_)); (case hst => exact rfl))
      rcases rd_cases V rd with rfl | ⟨c, rfl⟩ | ⟨c, rfl, c40, c41, c91, c92, c42⟩ | ⟨t, hq, cl⟩
      · have hw : w = 40 :: 63 :: 33 :: 41 :: u := hw
        have q6 : (t6 = [40, 63, 62, 46, 42, 63]) = False := eq_false (by rw [h6, hw]; simp)
        have q2 : (t2 = [46, 42]) = False := eq_false (by rw [h2, hw]; simp)
        have qa : (([40] : List Nat) = [41]) = False := eq_false (by decide)
        obtain rfl : t4 = [40, 63, 33, 41] := by rw [h4, hw]; rfl
        have q4 : (([40, 63, 33, 41] : List Nat) = [40, 63, 115, 58]) = False := eq_false (by decide)
        have q5 : (([40, 63, 33, 41] : List Nat) = [40, 63, 33, 41]) = True := eq_true rfl
        have i1 : ∀ h, ItR G h (.str T) (.int (y.length : Nat)) (.str [40]) := i0 _ _ hw
        simp_arith [wN, l1, l2, l3, l5, l6, s6 _, q6, s2 _, q2, i1 _, qa, s4 _, q4, q5, cc, hap _ (by omega)]
        refine stL_end (by decide) (fin _ ?_ ?_ ?_ ?_ ?_ ?_)
        · simp_arith [wM, l1]
        · simp_arith [wM]; rfl
        · simp_arith [wM, l3]
        · simp_arith [wM, l4]
        · simp_arith [wM, l5]
        · simp_arith [wM, l6]
      · have hw : w = 92 :: c :: u := hw
        have q6 : (t6 = [40, 63, 62, 46, 42, 63]) = False := eq_false (by rw [h6, hw]; simp)
        obtain rfl : t2 = [92, c] := by rw [h2, hw]; rfl
        have q2 : (([92, c] : List Nat) = [46, 42]) = False := eq_false (by simp)
        have qa : (([92] : List Nat) = [41]) = False := eq_false (by decide)
        have q4 : (t4 = [40, 63, 115, 58]) = False := eq_false (by rw [h4, hw]; simp)
        have q5 : (t4 = [40, 63, 33, 41]) = False := eq_false (by rw [h4, hw]; simp)
        have qb : (([92] : List Nat) = [92]) = True := eq_true rfl
        have i1 : ∀ h, ItR G h (.str T) (.int (y.length : Nat)) (.str [92]) := i0 _ _ hw
        simp_arith [wN, l1, l2, l3, l5, l6, s6 _, q6, s2 _, q2, i1 _, qa, s4 _, q4, q5, qb, cc, hap _ (by omega)]
        refine stL_end (by decide) (fin _ ?_ ?_ ?_ ?_ ?_ ?_)
        · simp_arith [wM, l1]
        · simp_arith [wM]; rfl
        · simp_arith [wM, l3]
        · simp_arith [wM, l4]
        · simp_arith [wM, l5]
        · simp_arith [wM, l6]
      · have hw : w = c :: u := hw
        have q6 : (t6 = [40, 63, 62, 46, 42, 63]) = False := eq_false (by rw [h6, hw]; simp [c40])
        have q2 : (t2 = [46, 42]) = False := eq_false (by
          rw [h2, hw]; intro e
          cases u with
          | nil => cases e
          | cons a u =>
            have e : [c, a] = [46, 42] := e
            cases e; exact h42 rfl)
        have qa : (([c] : List Nat) = [41]) = False := eq_false (by simpa using c41)
        have q4 : (t4 = [40, 63, 115, 58]) = False := eq_false (by rw [h4, hw]; simp [c40])
        have q5 : (t4 = [40, 63, 33, 41]) = False := eq_false (by rw [h4, hw]; simp [c40])
        have qb : (([c] : List Nat) = [92]) = False := eq_false (by simpa using c92)
        have qd : (([c] : List Nat) = [91]) = False := eq_false (by simpa using c91)
        have i1 : ∀ h, ItR G h (.str T) (.int (y.length : Nat)) (.str [c]) := i0 _ _ hw
        have s1 : ∀ h, SlR G h (.str T) (.int (y.length : Nat)) (.int ((y.length : Int) + 1)) (.str [c]) := fun h => sq h _ rfl
        simp_arith [wN, l1, l2, l3, l5, l6, s6 _, q6, s2 _, q2, i1 _, qa, s4 _, q4, q5, qb, qd, s1 _, cc, hap _ (by omega)]
        refine stL_end (by decide) (fin _ ?_ ?_ ?_ ?_ ?_ ?_)
        · simp_arith [wM, l1]
        · simp_arith [wM]; rfl
        · simp_arith [wM, l3]
        · simp_arith [wM, l4]
        · simp_arith [wM, l5]
        · simp_arith [wM, l6]
      · have hw2 : w = 91 :: (t ++ u) := by rw [hw, hq]; rfl
        have q6 : (t6 = [40, 63, 62, 46, 42, 63]) = False := eq_false (by rw [h6, hw2]; simp)
        have q2 : (t2 = [46, 42]) = False := eq_false (by rw [h2, hw2]; simp)
        have qa : (([91] : List Nat) = [41]) = False := eq_false (by decide)
        have q4 : (t4 = [40, 63, 115, 58]) = False := eq_false (by rw [h4, hw2]; simp)
        have q5 : (t4 = [40, 63, 33, 41]) = False := eq_false (by rw [h4, hw2]; simp)
        have qb : (([91] : List Nat) = [92]) = False := eq_false (by decide)
        have qd : (([91] : List Nat) = [91]) = True := eq_true rfl
        have i1 : ∀ h, ItR G h (.str T) (.int (y.length : Nat)) (.str [91]) := i0 _ _ hw2
        have s1 : ∀ h, SlR G h (.str T) (.int (y.length : Nat)) (.int ((y.length : Int) + (((y.length + q.length : Nat) : Int) - (y.length : Nat)))) (.str q) := fun h => sq h _ (by omega)
        simp_arith [wN, l1, l2, l3, l5, l6, s6 _, q6, s2 _, q2, i1 _, qa, s4 _, q4, q5, qb, qd, isFn_of (f_close V)]
        refine callW_mono (cl _ _ T y u (by rw [hTw, hw]) hl) ?_
        rintro v h ⟨rfl, e⟩
        obtain rfl := e.symm
        simp_arith [wN, l1, l2, l6, s1 _, cc, hap _ (by omega)]
        refine stL_end (by decide) (fin _ ?_ ?_ ?_ ?_ ?_ ?_)
        · simp_arith [wM, l1]
        · simp_arith [wM]; exact congrArg (fun i : Int => some (PV.int i)) (by omega)
        · simp_arith [wM, l3]
        · simp_arith [wM, l4]
        · simp_arith [wM, l5]
        · simp_arith [wM, l6]
end

section
open PySem PySem.W PyProof.Rows
set_option linter.unusedVariables false
set_option linter.unusedSimpArgs false
set_option maxRecDepth 100000
set_option maxHeartbeats 4000000
variable {G : GI} {n : Nat} {hp : Hp}
/-! law 06: the reader of all the texts, and the law -/
noncomputable def Bre : List Stmt := subB (bodyAt prog 17) 2
theorem c_read (V : Giv G) (Rs : List Rw) (hRs : ∀ r ∈ Rs, r.ok false ∧ r.depth ≤ 4 ∧ r.size ≤ 33) (hne : Rs ≠ []) (hn : Rs.length ≤ 1000) (T : List Nat) (hT : T = J6 Rs) (hl : T.length ≤ 100000) :
    CallW G (n + 8) (Str.ofString "_law_read") [.str T] hp fun v h => v = .list (Rs.map fun r => .list r.tval) ∧ h = hp := by
  refine call_walk (fun _ => false) V.g V.po.nl (f_read V) rfl ?_
  dsimp only [updL]
  have hl6 : T.length ≤ 1000000 := Nat.le_trans hl (by decide)
  have hln : ∀ h, BltR G (.builtin "len") h [.str T] (.int T.length) := fun h => d_len (big_ge (by omega))
  ((first | with_reducible refine' stL_at ?hst ?_ | with_reducible refine' nx_next (stL_at ?hst ?_)); (case hst => exact rfl))
  simp_arith [wN]
  ((first | with_reducible refine' stL_at ?hst ?_ | with_reducible refine' nx_next (stL_at ?hst ?_)); (case hst => exact rfl))
  simp_arith [wN]
  ((first | with_reducible refine' stL_at ?hst ?_ | with_reducible refine' nx_next (stL_at ?hst ?_)); (case hst => exact rfl))
  refine s_while ?_
  refine whileW_of (fun m l h => ∃ (A B : List Rw) (p : Int), m = B.length ∧ Rs = A ++ B ∧ ((B = [] ∧ p = T.length) ∨ (B ≠ [] ∧ ∃ z, p = (z.length : Int) - 1 ∧ T = z ++ J6 B ∧ (z = [] ∨ ∃ y, z = y ++ [124]))) ∧
      l (Str.ofString "text") = some (.str T) ∧ l (Str.ofString "place") = some (.int p) ∧ l (Str.ofString "forest") = some (.ref hp.length) ∧ h = hp ++ [.list (A.map fun r => .list r.tval)]) ?_
    (m := Rs.length) ⟨[], Rs, -1, rfl, rfl, .inr ⟨hne, [], rfl, hT, .inl rfl⟩, rfl, rfl, rfl, rfl⟩
  rintro I m l h hI ⟨A, B, p, rfl, hAB, hp', l1, l2, l3, rfl⟩
  have hAl : A.length ≤ 1000 := by
    have := congrArg List.length hAB
    rw [List.length_append] at this; omega
  rcases hp' with ⟨rfl, rfl⟩ | ⟨hB, z, rfl, hz, hz2⟩
  · have q1 : ((T.length : Int) < (T.length : Nat)) = False := eq_false (by omega)
    simp_arith [wN, l1, l2, hln _, q1]
    rw [List.append_nil] at hAB
    subst hAB
    ((first | with_reducible refine' stL_at ?hst ?_ | with_reducible refine' nx_next (stL_at ?hst ?_)); (case hst => exact rfl))
    simp_arith [wN, l3]
    exact endC_of (frz_lst (getE_end ..) (Nat.le_refl _) (frl_all fun v hv => by
      obtain ⟨r, _, rfl⟩ := List.mem_map.mp hv
      exact frz_lsf (frl_t r))) ⟨rfl, rfl⟩
  · obtain ⟨D, B, rfl⟩ : ∃ D B', B = D :: B' := by
      cases B with
      | nil => exact absurd rfl hB
      | cons D B => exact ⟨_, _, rfl⟩
    obtain ⟨hD, hDd, hDs⟩ := hRs D (by rw [hAB]; simp)
    have hj := joinI_mtx D.pts
    rw [J6_cons] at hz
    have hT2 : T = (z ++ [40, 63, 115, 58]) ++ (mtx false D.pts ++ 41 :: 92 :: 90 :: rest6 B) := by rw [hz, hj]; simp
    have hTl := congrArg List.length hT2
    simp only [List.length_append, List.length_cons] at hTl
    have q1 : ((z.length : Int) - 1 < (T.length : Nat)) = True := eq_true (by omega)
    have s4 : ∀ h, SlR G h (.str T) (.int ((z.length : Int) - 1 + 1)) (.int ((z.length : Int) - 1 + 5)) (.str [40, 63, 115, 58]) := fun h => sl_at (x := z) (y := [40, 63, 115, 58] ++ (mtx false D.pts ++ 41 :: 92 :: 90 :: rest6 B)) (by rw [hT2, List.append_assoc]) hl6 4 (by omega) (by omega)
    have qa : (([40, 63, 115, 58] : List Nat) = [40, 63, 115, 58]) = True := eq_true rfl
    have hap : AppR (hp ++ [.list (A.map fun r => .list r.tval)]) hp.length (.list D.tval) (hp ++ [.list ((A ++ [D]).map fun r => .list r.tval)]) := by
      exact (meth_end rfl (by rw [List.length_map]; exact big_gt (by omega))).to (by simp)
    have hcc : contents (hp ++ [.list (A.map fun r => .list r.tval)]) (.ref hp.length) = some (A.map fun r => .list r.tval) := cont_end rfl
    have body : ∀ Q, stL G (n + 8) ⟨scopeAt prog 17, fun _ => false⟩ (Bre.drop 1) l (hp ++ [.list (A.map fun r => .list r.tval)]) (WhK I Q) := fun Q => by
      ((first | with_reducible refine' stL_at ?hst ?_ | with_reducible refine' nx_next (stL_at ?hst ?_)); (case hst => exact rfl))
      simp_arith [wN, l1, l2, isFn_of (f_row V)]
      refine callW_mono (c_row V 4 (n + 7) (by omega) D hD hDd hDs T (z ++ [40, 63, 115, 58]) (rest6 B) hT2 hl _ (by rw [List.length_append]; simp only [List.length_cons, List.length_nil]; omega)) ?_
      rintro v h ⟨rfl, e⟩
      obtain rfl := e.symm
      simp_arith [wN]
      have hi : ∀ h, IsR G h (.list D.tval) .none false := fun h => is_ln
      ((first | with_reducible refine' stL_at ?hst ?_ | with_reducible refine' nx_next (stL_at ?hst ?_)); (case hst => exact rfl))
      simp_arith [wN, hi _]
      ((first | with_reducible refine' stL_at ?hst ?_ | with_reducible refine' nx_next (stL_at ?hst ?_)); (case hst => exact rfl))
      simp_arith [wN, l3, hcc, hap]
      refine stL_end (by decide) (hI _ _ _ (Nat.lt_succ_self _) ⟨A ++ [D], B, _, rfl, by rw [hAB, List.append_assoc]; rfl, ?_, by simp_arith [wM, l1], by simp_arith [wM], by simp_arith [wM, l3], rfl⟩)
      cases B with
      | nil =>
        refine .inl ⟨rfl, ?_⟩
        rw [hT2]
        simp only [List.length_append, List.length_cons, List.length_nil, rest6]; omega
      | cons E r =>
        refine .inr ⟨List.cons_ne_nil _ _, z ++ [40, 63, 115, 58] ++ mtx false D.pts ++ [41, 92, 90] ++ [124], ?_, ?_, .inr ⟨_, rfl⟩⟩
        · simp only [List.length_append, List.length_cons, List.length_nil]; omega
        · rw [hT2]; simp [rest6]
    rcases hz2 with rfl | ⟨y, rfl⟩
    · have q0 : ((0 : Int) ≤ -1) = False := eq_false (by decide)
      have l2' : l (Str.ofString "place") = some (.int (-1)) := l2
      have q1' : ((-1 : Int) < (T.length : Nat)) = True := q1
      have s4' : ∀ h, SlR G h (.str T) (.int (-1 + 1)) (.int (-1 + 5)) (.str [40, 63, 115, 58]) := s4
      simp_arith [wM, l1, l2', hln _, q1']
      show stL G _ _ (Bre.drop 0) _ _ _
      ((first | with_reducible refine' stL_at ?hst ?_ | with_reducible refine' nx_next (stL_at ?hst ?_)); (case hst => exact rfl))
      simp_arith [wN, l1, l2', q0, s4' _, qa]
      exact body _
    · have q0 : ((0 : Int) ≤ (((y ++ [124]).length : Nat) : Int) - 1) = True := eq_true (by rw [List.length_append, List.length_singleton]; omega)
      have i0 : ∀ h, ItR G h (.str T) (.int ((((y ++ [124]).length : Nat) : Int) - 1)) (.str [124]) := fun h => it_at (x := y) (y := joinI D.pts ++ rest6 B) (by rw [hz]; simp) hl6 (by rw [List.length_append, List.length_singleton]; omega)
      have qb : (([124] : List Nat) = [124]) = True := eq_true rfl
      simp_arith [wM, l1, l2, hln _, q1]
      show stL G _ _ (Bre.drop 0) _ _ _
      ((first | with_reducible refine' stL_at ?hst ?_ | with_reducible refine' nx_next (stL_at ?hst ?_)); (case hst => exact rfl))
      simp_arith [wN, l1, l2, q0, i0 _, qb, s4 _, qa]
      exact body _
theorem compL_map {α : Type} {xs : List α} {f g : α → PV} {test : List PV → Loc → (Bool → Prop) → Prop} {elt : List PV → Loc → (PV → Prop) → Prop} {bnd : PV → (Loc → Prop) → Prop} {Q : List PV → Prop}
    (step : ∀ (I : List PV → Prop) (x : α) (acc : List PV), x ∈ xs → I (acc ++ [g x]) → bnd (f x) fun l1 => test acc l1 fun c => if c then elt acc l1 fun v => I (acc ++ [v]) else I acc) (q : Q (xs.map g)) : compL test elt bnd Q (xs.map f) [] := by
  refine compL_of (fun ys acc => ∃ A B : List α, xs = A ++ B ∧ ys = B.map f ∧ acc = A.map g) ?_ ?_ ⟨[], xs, rfl, rfl, rfl⟩
  · rintro I x ys acc hI ⟨A, B, hR, hx, rfl⟩
    cases B with
    | nil => cases hx
    | cons b B =>
      rw [List.map_cons] at hx
      obtain ⟨rfl, rfl⟩ := List.cons.inj hx
      exact step I b _ (by rw [hR]; simp) (hI _ ⟨A ++ [b], B, by rw [hR]; simp, rfl, by simp⟩)
  · rintro acc ⟨A, B, hR, hx, rfl⟩
    have hz : B = [] := by cases B with
      | nil => rfl
      | cons _ _ => cases hx
    subst hz
    rw [List.append_nil] at hR
    rw [← hR]; exact q
theorem inTo_t (k : Nat) : ∀ r : Rw, inToL k r.tval = true
  | .nil => rfl
  | .star r => by show (true && inToL k r.tval) = true; rw [inTo_t k r]; rfl
  | .leaf _ q r => by show (true && inToL k r.tval) = true; rw [inTo_t k r]; rfl
  | .row c r => by show (inToL k c.tval && inToL k r.tval) = true; rw [inTo_t k c, inTo_t k r]; rfl
theorem inTo_tl (k : Nat) (r : Rw) : inTo k (.list r.tval) = true := inTo_t k r
theorem law_body (V : Giv G) (xs : List Int) (hx : xs.length ≤ 63) : stL G 500 ⟨scopeAt prog 18, fun _ => false⟩ ((bodyAt prog 18).drop 0) (updL (fun _ => none) [Str.ofString "script"] [.list (xs.map .int)]) [] (EndC G [] fun pv _ => pv = .bool true) := by
  dsimp only [updL]
  have hsl : SlR G [] (.list (xs.map .int)) .none (.int 32) (.list ((xs.take 32).map .int)) := by
    exact SlR.to (slice_cont (a' := none) (b' := some ((32 : Nat) : Int)) rfl .none (.int _) (by rw [List.length_map]; exact big_ge (by omega))) (by rw [slc_toA, List.map_take])
  have hx32 : (xs.take 32).length ≤ 32 := by rw [List.length_take]; omega
  generalize xs.take 32 = ys at hsl hx32
  ((first | with_reducible refine' stL_at ?hst ?_ | with_reducible refine' nx_next (stL_at ?hst ?_)); (case hst => exact rfl))
  simp_arith [wN, hsl, isFn_of (f_forest V)]
  refine callW_mono (c_forest (n := 498) V ys hx32) ?_
  rintro v h ⟨⟨Rs, hne, hRs, hRt, rfl⟩, rfl⟩
  have hsz : ∀ B : List Rw, ∀ r ∈ B, r.size + 1 ≤ tot B := fun B => by
    induction B with
    | nil => intro r q; cases q
    | cons x B ih =>
      intro r q
      rw [tot_cons]
      rcases List.mem_cons.mp q with rfl | q
      · omega
      · have := ih r q; omega
  have hRs : ∀ r ∈ Rs, r.ok false ∧ r.depth ≤ 4 ∧ r.size ≤ 33 := fun r q => ⟨(hRs r q).1, (hRs r q).2, by have := hsz Rs r q; omega⟩
  have hRl : Rs.length ≤ 33 := Nat.le_trans (tot_len Rs) hRt
  have hJl := J6_len Rs fun r q => (hRs r q).1
  have hTl : (J6 Rs).length ≤ 100000 := by omega
  have hRb : (Rs.map fun r => PV.list r.vals).length ≤ big := by rw [List.length_map]; exact big_ge (by omega)
  have hTb : (Rs.map fun r => PV.str (joinI r.pts)).length ≤ big := by rw [List.length_map]; exact big_ge (by omega)
  clear hRt hsz
  simp_arith [wN]
  ((first | with_reducible refine' stL_at ?hst ?_ | with_reducible refine' nx_next (stL_at ?hst ?_)); (case hst => exact rfl))
  simp_arith [wN]
  ((first | with_reducible refine' stL_at ?hst ?_ | with_reducible refine' nx_next (stL_at ?hst ?_)); (case hst => exact rfl))
  simp_arith [wN, hRb]
  generalize hl0 : restr _ _ = l0
  have k1 : l0 (Str.ofString "star") = some (.ref 0) := by
    subst hl0
    show (if _ then _ else _) = _
    rw [if_pos (by rfl)]
    simp_arith [wM]
    rfl
  clear hl0
  refine compL_map (g := fun r => PV.str (joinI r.pts)) ?_ ?_
  · rintro K r acc hr hK
    obtain ⟨r1, r2, r3⟩ := hRs r hr
    refine bi_name rfl ?_
    simp_arith [wN, k1, isFn_of (f_text V)]
    refine callW_mono (c_text V 4 499 (by omega) 0 (by rfl) r r1 r2 r3) ?_
    rintro v h ⟨rfl, e⟩
    obtain rfl := e.symm
    simp_arith [wN]
    exact hK
  have hj : ∀ h, MeR G "str.join" h (.str [124]) [.list (Rs.map fun r => PV.str (joinI r.pts))] (.str (J6 Rs)) h := fun h => by
    have e : joinL [124] (Rs.map fun r => joinI r.pts) = J6 Rs := rfl
    rw [← e] at hTl ⊢
    have hc : contents h (.list (Rs.map fun r => PV.str (joinI r.pts))) = some ((Rs.map fun r => joinI r.pts).map .str) := by rw [List.map_map]; rfl
    have h1 : (joinL [124] (Rs.map fun r => joinI r.pts)).length ≤ big := big_ge (Nat.le_trans hTl (by decide))
    exact @meth_join G h [124] _ _ hc h1 (show 1 ≤ big by decide)
  simp_arith [wN]
  ((first | with_reducible refine' stL_at ?hst ?_ | with_reducible refine' nx_next (stL_at ?hst ?_)); (case hst => exact rfl))
  simp_arith [wN, hj _, isFn_of (f_read V)]
  refine callW_mono (c_read (n := 491) V Rs hRs hne (by omega) _ rfl hTl) ?_
  rintro v h ⟨rfl, e⟩
  obtain rfl := e.symm
  simp_arith [wN, hRb]
  generalize restr _ _ = l1
  refine compL_map (g := fun r => PV.list r.tval) ?_ ?_
  · rintro K r acc hr hK
    obtain ⟨r1, r2, r3⟩ := hRs r hr
    refine bi_name rfl ?_
    simp_arith [wN, isFn_of (f_told V)]
    refine callW_mono (c_told V 4 499 (by omega) r r2 r3) ?_
    rintro v h ⟨rfl, e⟩
    obtain rfl := e.symm
    simp_arith [wN, inTo_tl _ _]
    exact hK
  have heq : ∀ h, CmpR G .Eq h (.list (Rs.map fun r => PV.list r.tval)) (.list (Rs.map fun r => PV.list r.tval)) true := fun h => eq_same (d := 6) (.list 5 _ fun v hv => by
    obtain ⟨r, hr, rfl⟩ := List.mem_map.mp hv
    exact .list 4 _ (plain_t 4 r (hRs r hr).2.1)) (by omega)
  simp_arith [wN, heq _]
  exact endC_of (hp := []) (t := [.list [.str [42]]]) frz_bool rfl

end

end Fnm

section
open PySem PySem.W PyProof.Rows
set_option linter.unusedVariables false
set_option linter.unusedSimpArgs false
set_option maxRecDepth 100000
set_option maxHeartbeats 4000000
open Fnm
theorem PySem.Challenge.cw_in0089_06_holds : PySem.Challenge.rw_in0089_06.Holds :=
  hdW (by
  w_strict (intro w s₀ s₁ mg mb Gd Y fa o pm cd doc dV kV ho hd hcd hD hmg hg args vals as hpre hlay hrd hwl hlo; (have KX := km_in_of Y); (have KT := km_tabs_of Y); (refine Ground.open Gd ?_); (intro T B D TE TW); wrow_args hpre hlay hrd hwl hlo; (clear hd hcd hD B D TE TW); refine enter_call (head_go (trk := fun _ => false) f_law (by rfl) hmg KX KT T hg (by assumption) (by assumption) ?_ ?_ ?_); (· exact fun _ _ => rfl); (· exact postW_of (by wrow_shape) (by wtm_val) (by w_fin)); (· exact fun G V h => law_body V _ h)))
end
