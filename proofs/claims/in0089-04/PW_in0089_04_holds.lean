import PyProof.Rows.All
import Wide.All
import OpenK.AllK
import Wide.FinOn
import KE.KNestM
import Lean
import PySem.Challenge.RW_in0089_04
set_option Elab.async false
namespace Fnm
section
open PySem PySem.W PyProof.Rows


/-! ## values -/
inductive PV where
  | none
  | bool (b : Bool)
  | int (i : Int)
  | str (s : List Nat)
  | tuple (vs : List PV)
  | list (vs : List PV)
  | ref (n : Nat)
  | app (n : Nat)
  | range (a b c : Int)
deriving Inhabited

abbrev Loc := Str → Option PV
inductive MO where
  | list (vs : List PV)
  | obj
  | hid
abbrev Hp := List MO

def upd (l : Loc) (x : Str) (v : PV) : Loc := fun y => if y = x then some v else l y
theorem upd_same (l : Loc) (x : Str) (v : PV) : upd l x v x = some v := by simp [upd]
theorem upd_other (l : Loc) {x y : Str} (v : PV) (h : y ≠ x) : upd l x v y = l y := by simp [upd, h]

/-! ## the real side -/
structure GI where
  prog : Program
  w : World
  h0 : Heap
  C : Addr
  P : Addr
  os0 : OsState
  mg : Str → Option Value
  mb : Str → Option Value
  tq : Str
  qn : Nat → Nat → Str
def QM : Str := Str.ofString "QUESTION_MARK"

abbrev GI.M (G : GI) : Model := model G.prog G.w

abbrev tupO (ws : Array Value) : Obj := { cls := .type "tuple", data := .seq ws }
abbrev lstO (ws : Array Value) (n : Nat) : Obj := { cls := .type "list", data := .seq ws n }
abbrev appO (a : Addr) : Obj := { cls := .type "builtin_function_or_method", data := .fields #[.builtin "list.append", .ref a] }
abbrev objO : Obj := { cls := .type "object", data := .plain }

mutual
def Rep (μ : List Addr) (h : Heap) : PV → Value → Prop
  | .none, v => v = .none
  | .bool b, v => v = .bool b
  | .int i, v => ∃ t, v = .int i t
  | .str l, v => ∃ t, v = .str ⟨l.toArray⟩ t
  | .tuple vs, v => ∃ a ws, v = .ref a ∧ h.get? a = some (tupO ws) ∧ RepL μ h vs ws.toList ∧ a ∉ μ
  | .list vs, v => ∃ a ws n, v = .ref a ∧ h.get? a = some (lstO ws n) ∧ a ∉ μ ∧ RepL μ h vs ws.toList
  | .ref n, v => ∃ a, v = .ref a ∧ μ[n]? = some a
  | .app n, v => ∃ b a, v = .ref b ∧ h.get? b = some (appO a) ∧ μ[n]? = some a
  | .range a b c, v => ∃ r ta tb tc, v = .ref r ∧ h.get? r = some { cls := .type "range", data := .fields #[.int a ta, .int b tb, .int c tc] }
def RepL (μ : List Addr) (h : Heap) : List PV → List Value → Prop
  | [], ws => ws = []
  | x :: xs, ws => ∃ w wr, ws = w :: wr ∧ Rep μ h x w ∧ RepL μ h xs wr
end

/-- objects that values are made of -/
def IsVal (o : Obj) : Prop := match o.data with
  | .seq .. => True
  | .fields _ => o.cls = .type "range" ∨ o.cls = .type "builtin_function_or_method"
  | _ => False

/-- keeps the value objects out of the tracked ones -/
def VKeep (μ : List Addr) (h h' : Heap) : Prop := ∀ a o, h.get? a = some o → IsVal o → (o.cls = .type "list" ∨ o.cls = .type "tuple" → a ∉ μ) → h'.get? a = some o

def ObjR (μ : List Addr) (h : Heap) (a : Addr) : MO → Prop
  | .list vs => ∃ ws n, h.get? a = some (lstO ws n) ∧ RepL μ h vs ws.toList
  | .obj => h.get? a = some objO
  | .hid => ∃ p : Value × Value, h.get? a = some (tupO #[p.1, p.2])

/-- what stands still stands -/
def Live (h h' : Heap) : Prop := ∀ a o, h.get? a = some o → ∃ o', h'.get? a = some o'
theorem Live.refl (h : Heap) : Live h h := fun _ o e => ⟨o, e⟩
theorem Live.trans {h h' h'' : Heap} (x : Live h h') (y : Live h' h'') : Live h h'' := fun a o e => let ⟨o', e'⟩ := x a o e; y a o' e'
/-- μ' grows out of μ by addresses at which nothing stood -/
def Grow (h : Heap) (μ μ' : List Addr) : Prop := ∃ ν, μ' = μ ++ ν ∧ ∀ a ∈ ν, h.get? a = none

theorem Grow.refl (h : Heap) (μ : List Addr) : Grow h μ μ := ⟨[], by simp, by simp⟩
theorem Grow.trans {h h' : Heap} {μ μ' μ'' : List Addr} (x : Grow h μ μ') (y : Grow h' μ' μ'') (lv : Live h h') : Grow h μ μ'' := by
  obtain ⟨ν, rfl, h1⟩ := x
  obtain ⟨ν', rfl, h2⟩ := y
  refine ⟨ν ++ ν', by simp, fun a ha => ?_⟩
  rcases List.mem_append.mp ha with q | q
  · exact h1 a q
  · cases e : h.get? a with
    | none => rfl
    | some o => obtain ⟨o', e'⟩ := lv a o e; rw [h2 a q] at e'; cases e'
theorem Grow.get {h : Heap} {μ μ' : List Addr} (x : Grow h μ μ') {i : Nat} {a : Addr} (e : μ[i]? = some a) : μ'[i]? = some a := by
  obtain ⟨ν, rfl, _⟩ := x
  rw [List.getElem?_append_left (List.getElem?_eq_some_iff.mp e).1]; exact e
theorem Grow.not {h : Heap} {μ μ' : List Addr} (x : Grow h μ μ') {a : Addr} {o : Obj} (hm : a ∉ μ) (ho : h.get? a = some o) : a ∉ μ' := by
  obtain ⟨ν, rfl, h1⟩ := x
  intro hm'
  rcases List.mem_append.mp hm' with q | q
  · exact hm q
  · rw [h1 a q] at ho; cases ho
theorem Heap.get?_size (h : Heap) : h.get? h.objs.size = none := by
  cases e : h.get? h.objs.size with
  | none => rfl
  | some o => exact absurd (Heap.lt_size e) (Nat.lt_irrefl _)
theorem Grow.one (h : Heap) (μ : List Addr) : Grow h μ (μ ++ [h.objs.size]) := ⟨_, rfl, fun a ha => by simp at ha; subst ha; exact Heap.get?_size h⟩
theorem Grow.sub {h : Heap} {μ μ' : List Addr} (x : Grow h μ μ') {a : Addr} (h : a ∈ μ) : a ∈ μ' := by
  obtain ⟨ν, rfl, _⟩ := x
  exact List.mem_append_left _ h

mutual
theorem Rep.mono {μ μ' : List Addr} {h h' : Heap} (k : VKeep μ h h') (g : Grow h μ μ') : ∀ {p : PV} {v : Value}, Rep μ h p v → Rep μ' h' p v
  | .none, _, e => by simpa only [Rep] using e
  | .bool _, _, e => by simpa only [Rep] using e
  | .int _, _, e => by simpa only [Rep] using e
  | .str _, _, e => by simpa only [Rep] using e
  | .tuple vs, _, e => by
      simp only [Rep] at e ⊢
      obtain ⟨a, ws, e, ho, r, hm⟩ := e
      exact ⟨a, ws, e, k _ _ ho trivial (fun _ => hm), RepL.mono k g r, g.not hm ho⟩
  | .list vs, _, e => by
      simp only [Rep] at e ⊢
      obtain ⟨a, ws, n, e, ho, hm, r⟩ := e
      exact ⟨a, ws, n, e, k _ _ ho trivial (fun _ => hm), g.not hm ho, RepL.mono k g r⟩
  | .ref n, _, e => by
      simp only [Rep] at e ⊢
      obtain ⟨a, e, hm⟩ := e
      exact ⟨a, e, g.get hm⟩
  | .app n, _, e => by
      simp only [Rep] at e ⊢
      obtain ⟨b, a, e, ho, hm⟩ := e
      exact ⟨b, a, e, k _ _ ho (.inr rfl) (fun q => by simp at q), g.get hm⟩
  | .range a b c, _, e => by
      simp only [Rep] at e ⊢
      obtain ⟨r, ta, tb, tc, e, ho⟩ := e
      exact ⟨r, ta, tb, tc, e, k _ _ ho (.inl rfl) (fun q => by simp at q)⟩
theorem RepL.mono {μ μ' : List Addr} {h h' : Heap} (k : VKeep μ h h') (g : Grow h μ μ') : ∀ {ps : List PV} {vs : List Value}, RepL μ h ps vs → RepL μ' h' ps vs
  | [], _, e => by simpa only [RepL] using e
  | _ :: _, _, e => by
      simp only [RepL] at e ⊢
      obtain ⟨w, wr, e, r, rs⟩ := e
      exact ⟨w, wr, e, Rep.mono k g r, RepL.mono k g rs⟩
end

theorem RepL.length {μ : List Addr} {h : Heap} : ∀ {ps : List PV} {vs : List Value}, RepL μ h ps vs → vs.length = ps.length
  | [], _, e => by simp only [RepL] at e; simp [e]
  | _ :: ps, _, e => by
      simp only [RepL] at e
      obtain ⟨w, wr, rfl, _, rs⟩ := e
      simp [RepL.length rs]
theorem RepL.get {μ : List Addr} {h : Heap} : ∀ {ps : List PV} {vs : List Value}, RepL μ h ps vs → ∀ {i : Nat} {p : PV}, ps[i]? = some p → ∃ v, vs[i]? = some v ∧ Rep μ h p v
  | [], _, _, i, p, hi => by simp at hi
  | q :: ps, _, e, i, p, hi => by
      simp only [RepL] at e
      obtain ⟨w, wr, rfl, r, rs⟩ := e
      cases i with
      | zero => simp at hi; subst hi; exact ⟨w, rfl, r⟩
      | succ i => simp at hi; obtain ⟨v, h1, h2⟩ := RepL.get rs hi; exact ⟨v, by simpa using h1, h2⟩
theorem RepL.append {μ : List Addr} {h : Heap} : ∀ {ps qs : List PV} {vs ws : List Value}, RepL μ h ps vs → RepL μ h qs ws → RepL μ h (ps ++ qs) (vs ++ ws)
  | [], _, _, _, e, f => by simp only [RepL] at e; subst e; exact f
  | _ :: ps, _, _, _, e, f => by
      simp only [RepL] at e
      obtain ⟨w, wr, rfl, r, rs⟩ := e
      exact ⟨w, _, rfl, r, RepL.append rs f⟩
theorem RepL.one {μ : List Addr} {h : Heap} {p : PV} {v : Value} (r : Rep μ h p v) : RepL μ h [p] [v] := ⟨v, [], rfl, r, rfl⟩
theorem RepL.take {μ : List Addr} {h : Heap} : ∀ {ps : List PV} {vs : List Value} (n : Nat), RepL μ h ps vs → RepL μ h (ps.take n) (vs.take n)
  | _, _, 0, _ => by simp [RepL]
  | [], _, n + 1, e => by simp only [RepL] at e; subst e; simp [RepL]
  | _ :: ps, _, n + 1, e => by
      simp only [RepL] at e
      obtain ⟨w, wr, rfl, r, rs⟩ := e
      exact ⟨w, _, rfl, r, RepL.take n rs⟩
theorem RepL.drop {μ : List Addr} {h : Heap} : ∀ {ps : List PV} {vs : List Value} (n : Nat), RepL μ h ps vs → RepL μ h (ps.drop n) (vs.drop n)
  | _, _, 0, e => by simpa using e
  | [], _, n + 1, e => by simp only [RepL] at e; subst e; simp [RepL]
  | _ :: ps, _, n + 1, e => by
      simp only [RepL] at e
      obtain ⟨w, wr, rfl, r, rs⟩ := e
      simpa using RepL.drop n rs

end

section
open PySem PySem.W PyProof.Rows


/-! ## pure operations on values -/
inductive Fl where
  | next | brk | cont
  | ret (v : PV)

def contents (hp : Hp) : PV → Option (List PV)
  | .list vs => some vs
  | .ref n => match hp[n]? with
    | some (.list vs) => some vs
    | _ => none
  | _ => none

/-- a place from the left or from the right -/
def idx (i : Int) (n : Nat) : Option Nat :=
  if 0 ≤ i then (if i < n then some i.toNat else none) else if 0 ≤ i + n then some (i + n).toNat else none

def sldef (i : Option Int) (n d : Nat) : Nat := match i with
  | none => d
  | some i => if i < 0 then (if i + n < 0 then 0 else (i + n).toNat) else if (n : Int) < i then n else i.toNat
/-- l[a:b] -/
def slc {α : Type} (l : List α) (a b : Option Int) : List α :=
  let lo := sldef a l.length 0
  let hi := sldef b l.length l.length
  (l.take hi).drop lo

def big : Nat := 4194304

def truthV (hp : Hp) : PV → Option Bool
  | .none => some false
  | .bool b => some b
  | .int i => some (i != 0)
  | .str s => if s.length ≤ big then some (!s.isEmpty) else none
  | v => (contents hp v).bind fun vs => if vs.length ≤ big then some (!vs.isEmpty) else none

def smallI (b : Int) : Bool := decide (-(2 : Int) ^ 63 < b ∧ b < (2 : Int) ^ 63)

def binV (op : Operator) (hp : Hp) (x y : PV) : Option PV :=
  match op, x, y with
  | .Add, .int a, .int b => some (.int (a + b))
  | .Sub, .int a, .int b => some (.int (a - b))
  | .Mult, .int a, .int b => if smallI a || smallI b then some (.int (a * b)) else none
  | .FloorDiv, .int a, .int b => if b ≠ 0 ∧ smallI b then some (.int (a.fdiv b)) else none
  | .Mod, .int a, .int b => if b ≠ 0 then some (.int (a.fmod b)) else none
  | .Pow, .int a, .int b => if 0 ≤ b ∧ b ≤ 64 ∧ -1000 ≤ a ∧ a ≤ 1000 then some (.int (a ^ b.toNat)) else none
  | .Add, .str a, .str b => if a.length + b.length ≤ big then some (.str (a ++ b)) else none
  | .Mult, v, .int k => (contents hp v).bind fun vs => if 0 ≤ k ∧ k ≤ 1000 ∧ vs.length ≤ 1000 then some (.list (List.replicate k.toNat vs).flatten) else none
  | .Add, v, w => (contents hp v).bind fun vs => (contents hp w).bind fun ws => if vs.length + ws.length ≤ big then some (.list (vs ++ ws)) else none
  | _, _, _ => none

/-- plain data: no refs; ints, bools as said; d deep at most; no huge lists -/
def flat : Nat → Bool → Bool → PV → Bool
  | _, _, _, .none => true
  | _, i, _, .int _ => i
  | _, _, b, .bool _ => b
  | _, _, _, .str _ => true
  | d + 1, i, b, .tuple vs => vs.all (flat d i b)
  | d + 1, i, b, .list vs => vs.all (flat d i b)
  | _, _, _, _ => false
def eqOk (x y : PV) : Bool := (flat 16 true false x && flat 16 true false y) || (flat 16 false true x && flat 16 false true y)
open Classical in
noncomputable def eqV (x y : PV) : Option Bool := if eqOk x y then some (decide (x = y)) else none

def ltL : List Nat → List Nat → Bool := fun a b => decide (a < b)

def okRef (hp : Hp) (n : Nat) : Bool := match hp[n]? with
  | some (.list _) => true
  | some .obj => true
  | _ => false
def isV (hp : Hp) : PV → PV → Option Bool
  | .none, .none => some true
  | .none, .ref _ => some false
  | .none, .str _ => some false
  | .none, .list _ => some false
  | .none, .tuple _ => some false
  | .ref a, .ref b => if a = b then some true else if okRef hp a || okRef hp b then some false else none
  | .ref _, .none => some false
  | .ref _, .str _ => some false
  | .ref _, .list _ => some false
  | .str _, .none => some false
  | .str _, .ref _ => some false
  | .tuple _, .none => some false
  | .list _, .none => some false
  | .list _, .ref _ => some false
  | _, _ => none

open Classical in
noncomputable def inV (hp : Hp) : PV → PV → Option Bool
  | .str [], .str _ => some true
  | .str [c], .str x => some (x.contains c)
  | .str _, .str _ => none
  | x, .tuple ys => if ys.all (fun y => eqOk y x) then some (decide (x ∈ ys)) else none
  | x, w => (contents hp w).bind fun ys => if ys.all (fun y => eqOk y x) then some (decide (x ∈ ys)) else none

/-- a tracked list as the list that it is -/
def deref (hp : Hp) (x : PV) : PV := match contents hp x with
  | some a => .list a
  | none => x
noncomputable def eqP (hp : Hp) (x y : PV) : Option Bool := eqV (deref hp x) (deref hp y)

noncomputable def cmpV (op : CmpOp) (hp : Hp) (x y : PV) : Option Bool :=
  match op with
  | .Eq => eqP hp x y
  | .NotEq => (eqP hp x y).map not
  | .Lt => match x, y with
    | .int a, .int b => some (decide (a < b))
    | .str a, .str b => some (ltL a b)
    | _, _ => none
  | .LtE => match x, y with
    | .int a, .int b => some (decide (a ≤ b))
    | .str a, .str b => some (!ltL b a)
    | _, _ => none
  | .Gt => match x, y with
    | .int a, .int b => some (decide (b < a))
    | .str a, .str b => some (ltL b a)
    | _, _ => none
  | .GtE => match x, y with
    | .int a, .int b => some (decide (b ≤ a))
    | .str a, .str b => some (!ltL a b)
    | _, _ => none
  | .Is => isV hp x y
  | .IsNot => (isV hp x y).map not
  | .In => inV hp x y
  | .NotIn => (inV hp x y).map not

def itemV (hp : Hp) (o i : PV) : Option PV := match i with
  | .int i => if smallI i then (match o with
      | .str s => (idx i s.length).bind fun k => s[k]?.map fun c => .str [c]
      | .tuple vs => (idx i vs.length).bind fun k => vs[k]?
      | o => (contents hp o).bind fun vs => (idx i vs.length).bind fun k => vs[k]?) else none
  | _ => none

def bndV : PV → Option (Option Int)
  | .none => some none
  | .int i => if smallI i then some (some i) else none
  | _ => none

def sliceV (hp : Hp) (o a b : PV) : Option PV := match bndV a, bndV b with
  | some a, some b => (match o with
    | .str s => if s.length ≤ big then some (.str (slc s a b)) else none
    | .list vs => if vs.length ≤ big then some (.list (slc vs a b)) else none
    | .ref n => (contents hp (.ref n)).bind fun vs => if vs.length ≤ big then some (.list (slc vs a b)) else none
    | _ => none)
  | _, _ => none

def charsOf (s : List Nat) : List PV := s.map fun c => .str [c]
def rangeL (a b c : Int) : List Int := (List.range (if 0 < c then b - a else a - b).toNat).map fun (k : Nat) => a + k * c
def tinyI (b : Int) : Bool := decide (-(2 : Int) ^ 40 < b ∧ b < (2 : Int) ^ 40)
def rngOk (a b c : Int) : Bool := tinyI a && tinyI b && (c == 1 || c == -1)

def iterV (hp : Hp) : PV → Option (List PV)
  | .str s => some (charsOf s)
  | .tuple vs => some vs
  | .range a b c => if rngOk a b c ∧ (rangeL a b c).length ≤ big then some ((rangeL a b c).map .int) else none
  | v => contents hp v
/-- what a walked list must be behind a turn -/
def chkV (hp hp' : Hp) : PV → Prop
  | .ref n => hp'[n]? = hp[n]?
  | _ => True

def strsOf : List PV → Option (List (List Nat))
  | [] => some []
  | .str s :: r => (strsOf r).map (s :: ·)
  | _ => none
def joinL (sep : List Nat) : List (List Nat) → List Nat
  | [] => []
  | [x] => x
  | x :: r => x ++ sep ++ joinL sep r

/-- the first place of c in x from i on (-1: none) -/
def findC (x : List Nat) (c : Nat) (i : Nat) : Int :=
  match (x.drop i).findIdx? (· == c) with
  | some k => (i + k : Nat)
  | none => -1

/-- a method's answer: the value and the tracked heap behind it -/
def methV (m : Str) (hp : Hp) (o : PV) (args : List PV) : Option (PV × Hp) :=
  if m = Str.ofString "append" then match o, args with
    | .ref n, [v] => (match hp[n]? with
      | some (.list vs) => if vs.length < big then some (.none, hp.set n (.list (vs ++ [v]))) else none
      | _ => none)
    | _, _ => none
  else if m = Str.ofString "extend" then match o, args with
    | .ref n, [w] => (match hp[n]?, contents hp w with
      | some (.list vs), some ws => if vs.length + ws.length < big then some (.none, hp.set n (.list (vs ++ ws))) else none
      | _, _ => none)
    | _, _ => none
  else if m = Str.ofString "insert" then match o, args with
    | .ref n, [.int 0, v] => (match hp[n]? with
      | some (.list vs) => if vs.length < big then some (.none, hp.set n (.list (v :: vs))) else none
      | _ => none)
    | _, _ => none
  else if m = Str.ofString "pop" then match o, args with
    | .ref n, [] => (match hp[n]? with
      | some (.list vs) => (match vs.getLast? with
        | some v => if vs.length < big then some (v, hp.set n (.list vs.dropLast)) else none
        | none => none)
      | _ => none)
    | _, _ => none
  else if m = Str.ofString "find" then match o, args with
    | .str x, [.str [c], .int i] => if 0 ≤ i ∧ x.length ≤ big then some (.int (findC x c i.toNat), hp) else none
    | .str x, [.str [c], .int i, .int j] => if 0 ≤ i ∧ 0 ≤ j ∧ i < 2 ^ 63 ∧ j ≤ x.length ∧ x.length ≤ big then some (.int (findC (x.take j.toNat) c i.toNat), hp) else none
    | _, _ => none
  else if m = Str.ofString "lstrip" then match o, args with
    | .str x, [.str [c]] => if x.length ≤ big then some (.str (x.dropWhile (· == c)), hp) else none
    | _, _ => none
  else if m = Str.ofString "join" then match o, args with
    | .str x, [v] => (contents hp v).bind fun vs => (strsOf vs).bind fun ts =>
        if (joinL x ts).length ≤ big ∧ x.length ≤ big ∧ ts.length ≤ big then some (.str (joinL x ts), hp) else none
    | _, _ => none
  else none

/-- calls of builtin functions by their name -/
def bltV (f : Str) (hp : Hp) (args : List PV) : Option PV :=
  if f = Str.ofString "len" then match args with
    | [.str s] => if s.length ≤ big then some (.int s.length) else none
    | [.tuple s] => if s.length ≤ big then some (.int s.length) else none
    | [v] => (contents hp v).bind fun vs => if vs.length ≤ big then some (.int vs.length) else none
    | _ => none
  else if f = Str.ofString "chr" then match args with
    | [.int i] => if 0 ≤ i ∧ i ≤ 1114111 then some (.str [i.toNat]) else none
    | _ => none
  else if f = Str.ofString "range" then match args with
    | [.int b] => if rngOk 0 b 1 then some (.range 0 b 1) else none
    | [.int a, .int b] => if rngOk a b 1 then some (.range a b 1) else none
    | [.int a, .int b, .int c] => if rngOk a b c then some (.range a b c) else none
    | _ => none
  else if f = Str.ofString "list" then match args with
    | [.range a b c] => (iterV hp (.range a b c)).map .list
    | [.str s] => if s.length ≤ big then some (.list (charsOf s)) else none
    | _ => none
  else none

end

section
open PySem PySem.W PyProof.Rows
set_option linter.unusedVariables false


/-! ## relation between the small state and the real one -/
def TabOk (G : GI) (h : Heap) : Prop := ∃ ps, h.get? G.P = some (tabObj ps) ∧ TriplesOk ps.toList ∧
  ∀ pos c, codeAmong pos ps.toList = some c → ∃ a o, c = .ref a ∧ h.get? a = some o ∧ G.h0.objs.size ≤ a ∧ ∃ vs q t, o.data = .fields vs ∧ (vs[1]? = some (.str q t) ∧ q = G.qn pos.line pos.col) ∧ o.cls = .type "code"

structure HR (G : GI) (μ : List Addr) (hp : Hp) (s : Shared) : Prop where
  base : ∀ a o, G.h0.get? a = some o → s.heap.get? a = some o
  tab : TabOk G s.heap
  os : s.os = G.os0
  gens : AllBare s.gens
  toks : 1 ≤ s.toks
  nodup : μ.Nodup
  len : μ.length = hp.length
  low : ∀ a ∈ μ, G.h0.objs.size ≤ a
  obj : ∀ (i : Nat) a m, μ[i]? = some a → hp[i]? = some m → ObjR μ s.heap a m

/-- the object stands as it was, or it is a dict whose slots alone have changed (a frame that was looked at) -/
def UpS (h' : Heap) (a : Addr) (o : Obj) : Prop := h'.get? a = some o ∨ ∃ es k sl, o.data = .dict es k ∧ h'.get? a = some { o with slots := sl }
structure Stp (G : GI) (own : Addr → Prop) (μ : List Addr) (s : Shared) (μ' : List Addr) (s' : Shared) : Prop where
  keepU : ∀ a o, s.heap.get? a = some o → a ∉ μ → a ≠ G.P → ¬ own a → UpS s'.heap a o
  grow : Grow s.heap μ μ'
  live : Live s.heap s'.heap

def noOwn : Addr → Prop := fun _ => False

/-- the frames of the stack are there, as dicts (a frame that is looked at is one) -/
def FrsOk (G : GI) (A : Around) (h : Heap) : Prop := ∀ l, A.frames = some l → ∀ e ∈ l, e.scope.kind ≠ .module ∧ ∃ L o es k, e.frame = some L ∧ h.get? L = some o ∧ o.data = .dict es k ∧ G.h0.objs.size ≤ L

structure EnvR (G : GI) (A : Around) (env : Env) (loc : Loc) (μ : List Addr) (h : Heap) : Prop where
  dom : ∀ x pv, loc x = some pv → (env.kindOf x = some .local ∨ env.kindOf x = some .cell ∨ env.kindOf x = some .free) ∧ (x == ("__debug__" : Str)) = false ∧ (x == ("__classdict__" : Str)) = false
  kind : env.scope.kind = .function
  glob : env.globals = mainGlobals
  blt : env.builtins = builtinsNs
  low : G.h0.objs.size ≤ env.locals
  lows : ∀ x c, (x, c) ∈ env.cells → G.h0.objs.size ≤ c
  apart : env.cells.Pairwise fun x y => x.2 ≠ y.2
  code : env.kindOf QM ≠ none → env.code = .ref G.C ∧ env.qual = G.tq
  frs : FrsOk G A h
  ns : ∃ m, h.Ns env.locals m ∧ ∀ x pv, env.kindOf x = some .local → loc x = some pv → ∃ v, m x = some v ∧ Rep μ h pv v
  cel : ∀ x, env.kindOf x = some .cell ∨ env.kindOf x = some .free → ∃ c ov, env.cells.lookup x = some c ∧ h.IsCell c ov ∧ ∀ pv, loc x = some pv → ∃ v, ov = some v ∧ Rep μ h pv v

/-- what a frame (or a comprehension's block) may store into -/
def ownOf (env : Env) : Addr → Prop := fun a => a = env.locals ∨ ∃ x, env.kindOf x = some .cell ∧ env.cells.lookup x = some a

structure Room (n : Nat) (A : Around) : Prop where
  depth : A.depth + n ≤ 900
  units : A.units + 10 * n ≤ 9000
  handled : A.handled = none
  frames : ∃ l, A.frames = some l

def WE (G : GI) (n : Nat) (env : Env) (loc : Loc) (hp : Hp) (t : Sem Value) (Q : PV → Hp → Prop) : Prop :=
  ∀ A μ s, Room n A → HR G μ hp s → EnvR G A env loc μ s.heap →
    wpAny G.M A t (fun v s' => ∃ pv hp' μ', Q pv hp' ∧ Rep μ' s'.heap pv v ∧ HR G μ' hp' s' ∧ Stp G noOwn μ s μ' s') (fun _ _ => False) s

def WT (G : GI) (n : Nat) (env : Env) (loc : Loc) (hp : Hp) (t : Sem Bool) (Q : Bool → Hp → Prop) : Prop :=
  ∀ A μ s, Room n A → HR G μ hp s → EnvR G A env loc μ s.heap →
    wpAny G.M A t (fun b s' => ∃ hp' μ', Q b hp' ∧ HR G μ' hp' s' ∧ Stp G noOwn μ s μ' s') (fun _ _ => False) s

def WEs (G : GI) (n : Nat) (env : Env) (loc : Loc) (hp : Hp) (t : Sem (List Value)) (Q : List PV → Hp → Prop) : Prop :=
  ∀ A μ s, Room n A → HR G μ hp s → EnvR G A env loc μ s.heap →
    wpAny G.M A t (fun vs s' => ∃ ps hp' μ', Q ps hp' ∧ RepL μ' s'.heap ps vs ∧ HR G μ' hp' s' ∧ Stp G noOwn μ s μ' s') (fun _ _ => False) s

def FlR (μ : List Addr) (h : Heap) : Fl → Flow → Prop
  | .next, .next => True
  | .brk, .brk => True
  | .cont, .cont => True
  | .ret p, .ret v => Rep μ h p v
  | _, _ => False

def WS (G : GI) (n : Nat) (env : Env) (loc : Loc) (hp : Hp) (t : Sem Flow) (Q : Fl → Loc → Hp → Prop) : Prop :=
  ∀ A μ s, Room n A → HR G μ hp s → EnvR G A env loc μ s.heap →
    wpAny G.M A t (fun f s' => ∃ fl loc' hp' μ', Q fl loc' hp' ∧ FlR μ' s'.heap fl f ∧ HR G μ' hp' s' ∧ EnvR G A env loc' μ' s'.heap ∧ Stp G (ownOf env) μ s μ' s') (fun _ _ => False) s

def isFn (G : GI) (f : Str) : Prop := ∃ a o fd, G.mg f = some (.ref a) ∧ G.h0.get? a = some o ∧ o.data = .func fd
/-- a call of the global f -/
def CallW (G : GI) (n : Nat) (f : Str) (ps : List PV) (hp : Hp) (Q : PV → Hp → Prop) : Prop :=
  ∃ a o fd, (G.mg f = some (.ref a) ∧ G.h0.get? a = some o ∧ o.data = .func fd) ∧ ∀ A μ s vs, Room (n + 1) A → HR G μ hp s → RepL μ s.heap ps vs → G.h0.objs.size ≤ s.heap.objs.size → FrsOk G A s.heap →
    codeAny G.M A (.call (.ref a) ⟨vs, []⟩) (fun r s' => ∃ pv hp' v, r = .ok (.ret v) ∧ Q pv hp' ∧ Rep μ s'.heap pv v ∧ HR G μ hp' s' ∧ Stp G noOwn μ s μ s') s

def LeafE (G : GI) (n : Nat) (sc : Scope) (e : Expr) (loc : Loc) (hp : Hp) (Q : PV → Hp → Prop) : Prop :=
  ∀ env, env.scope = sc → WE G n env loc hp (eval e env) Q
def LeafS (G : GI) (n : Nat) (sc : Scope) (st : Stmt) (loc : Loc) (hp : Hp) (Q : Fl → Loc → Hp → Prop) : Prop :=
  ∀ env, env.scope = sc → WS G n env loc hp (exec st env) Q

/-! ## what a text does to the small state: conditions reckoned from the syntax -/
def optP {α : Type} (o : Option α) (Q : α → Prop) : Prop := ∃ a, o = some a ∧ Q a

def tgtNames : List Expr → Option (List Str)
  | [] => some []
  | .Name x _ :: r => (tgtNames r).map (x :: ·)
  | _ => none
def updL (l : Loc) : List Str → List PV → Loc
  | x :: xs, v :: vs => updL (upd l x v) xs vs
  | _, _ => l

/-- a target of a for or a comprehension -/
def bindT (t : Expr) (hp : Hp) (v : PV) (l : Loc) (Q : Loc → Prop) : Prop := match t with
  | .Name x _ => Q (upd l x v)
  | .Tuple es _ _ => optP (tgtNames es) fun xs => (match v with
    | .tuple vs => vs.length = xs.length ∧ Q (updL l xs vs)
    | _ => False)
  | _ => False

def forL (body : PV → Loc → Hp → (Fl → Loc → Hp → Prop) → Prop) (chk : Hp → Prop) (Q : Fl → Loc → Hp → Prop) : List PV → Loc → Hp → Prop
  | [], l, hp => Q .next l hp
  | x :: xs, l, hp => body x l hp fun f l' hp' => match f with
    | .next => chk hp' ∧ forL body chk Q xs l' hp'
    | .cont => chk hp' ∧ forL body chk Q xs l' hp'
    | .brk => Q .next l' hp'
    | .ret v => Q (.ret v) l' hp'

def WhileW (test : Loc → Hp → (Bool → Hp → Prop) → Prop) (body : Loc → Hp → (Fl → Loc → Hp → Prop) → Prop) (Q : Fl → Loc → Hp → Prop) (l : Loc) (hp : Hp) : Prop :=
  ∀ I : Loc → Hp → Prop, (∀ l hp, test l hp (fun c h1 => if c then body l h1 (fun f l' hp' => match f with
      | .next => I l' hp'
      | .cont => I l' hp'
      | .brk => Q .next l' hp'
      | .ret v => Q (.ret v) l' hp') else Q .next l h1) → I l hp) → I l hp

def compL (test : List PV → Loc → (Bool → Prop) → Prop) (elt : List PV → Loc → (PV → Prop) → Prop) (bnd : PV → (Loc → Prop) → Prop) (Q : List PV → Prop) : List PV → List PV → Prop
  | [], acc => Q acc
  | x :: xs, acc => bnd x fun l1 => test acc l1 fun c => if c then elt acc l1 fun v => compL test elt bnd Q xs (acc ++ [v]) else compL test elt bnd Q xs acc

def bltNames : List Str := [Str.ofString "len", Str.ofString "chr", Str.ofString "range", Str.ofString "list"]
def methNames : List Str := [Str.ofString "append", Str.ofString "extend", Str.ofString "insert", Str.ofString "pop", Str.ofString "find", Str.ofString "lstrip", Str.ofString "join"]

def recv (m : Str) (hp : Hp) (x : PV) : Prop :=
  if m = Str.ofString "find" ∨ m = Str.ofString "lstrip" ∨ m = Str.ofString "join" then (match x with
    | .str _ => True
    | _ => False) else (contents hp x).isSome = true

structure Cfg where
  sc : Scope
  trk : Pos → Bool

def relabelS (csc sc : Scope) : Scope :=
  { csc with names := csc.names.map fun (n, k) => if (k == .free && sc.kind == .function && sc.names.lookup n == some .cell) then (n, .cell) else (n, k) }

/-- a single sign doubled or put behind another -/
def replC (x : List Nat) (c : Nat) (z : List Nat) : List Nat := x.flatMap fun d => if d = c then z else [d]

def isList (hp : Hp) (v : PV) : Option Bool := match v with
  | .list _ => some true
  | .ref n => (match hp[n]? with
    | some (.list _) => some true
    | _ => none)
  | .str _ => some false
  | .none => some false
  | .tuple _ => some false
  | _ => none
def isStr (hp : Hp) (v : PV) : Option Bool := match v with
  | .str _ => some true
  | .list _ => some false
  | .ref n => (match hp[n]? with
    | some (.list _) => some false
    | _ => none)
  | .none => some false
  | .tuple _ => some false
  | _ => none
def isaV (hp : Hp) (v : PV) (t : Str) : Option Bool :=
  if t = Str.ofString "list" then isList hp v else if t = Str.ofString "str" then isStr hp v else none

def augV (op : Operator) (hp : Hp) (old v : PV) : Option PV := match op, old with
  | .Add, .int _ => binV .Add hp old v
  | .Add, .str _ => binV .Add hp old v
  | _, _ => none

def storeV (hp : Hp) (o i v : PV) : Option Hp := match o, i with
  | .ref j, .int i => if smallI i then (match hp[j]? with
    | some (.list vs) => if vs.length ≤ big then (idx i vs.length).map fun k => hp.set j (.list (vs.set k v)) else none
    | _ => none) else none
  | _, _ => none
def delV (hp : Hp) (o i : PV) : Option Hp := match o, i with
  | .ref j, .int i => if smallI i then (match hp[j]? with
    | some (.list vs) => if vs.length ≤ big then (idx i vs.length).map fun k => hp.set j (.list (vs.eraseIdx k)) else none
    | _ => none) else none
  | _, _ => none

def zipP (as bs : List PV) : List PV := (as.zip bs).map fun p => .tuple [p.1, p.2]

def isTupE : Expr → Bool
  | .Tuple _ _ _ => true
  | _ => false
mutual
def inTo (k : Nat) : PV → Bool
  | .ref n => decide (n < k)
  | .app n => decide (n < k)
  | .tuple vs => inToL k vs
  | .list vs => inToL k vs
  | _ => true
def inToL (k : Nat) : List PV → Bool
  | [] => true
  | v :: vs => inTo k v && inToL k vs
end
/-- what a comprehension's block sees of the frame around -/
def restr (csc : Scope) (l : Loc) : Loc := fun y => if csc.names.lookup y = some .free then l y else none
mutual
def exE (G : GI) (n : Nat) (K : Cfg) : Expr → Loc → Hp → (PV → Hp → Prop) → Prop
  | .Constant .none _ _, _, hp, Q => Q .none hp
  | .Constant (.bool b) _ _, _, hp, Q => Q (.bool b) hp
  | .Constant (.int i) _ _, _, hp, Q => Q (.int i) hp
  | .Constant (.str s) _ _, _, hp, Q => Q (.str s.cps.toList) hp
  | .Name x _, l, hp, Q => optP (l x) fun v => Q v hp
  | .BoolOp op vs _, l, hp, Q => exB G n K op vs l hp Q
  | .BinOp a op b _, l, hp, Q => exE G n K a l hp fun x h1 => exE G n K b l h1 fun y h2 => optP (binV op h2 x y) fun v => Q v h2
  | .UnaryOp .Not a _, l, hp, Q => exE G n K a l hp fun x h1 => optP (truthV h1 x) fun b => Q (.bool !b) h1
  | .UnaryOp .USub a _, l, hp, Q => exE G n K a l hp fun x h1 => (match x with
    | .int i => Q (.int (-i)) h1
    | _ => False)
  | .IfExp t a b _, l, hp, Q => exT G n K t (exE G n K t l hp) l hp fun c h1 => if c then exE G n K a l h1 Q else exE G n K b l h1 Q
  | .Compare a ops rs _, l, hp, Q => exE G n K a l hp fun x h1 => exC G n K ops rs x l h1 fun b h2 => Q (.bool b) h2
  | .Call (.Name f fp) args [] cp, l, hp, Q =>
      if f = Str.ofString "add" then optP (l f) fun p => (match p with
        | .app j => exL G n K args l hp fun vs h1 => optP (methV (Str.ofString "append") h1 (.ref j) vs) fun r => Q r.1 r.2
        | _ => False)
      else if f = Str.ofString "object" then args = [] ∧ Q (.ref hp.length) (hp ++ [.obj])
      else if f = Str.ofString "isinstance" then (match args with
        | [e, .Name t _] => exE G n K e l hp fun v h1 => optP (isaV h1 v t) fun b => Q (.bool b) h1
        | _ => False)
      else if bltNames.contains f then exL G n K args l hp fun vs h1 => optP (bltV f h1 vs) fun r => Q r h1
      else isFn G f ∧ 0 < n ∧ exL G n K args l hp fun vs h1 => CallW G (n - 1) f vs h1 Q
  | .Call (.Attribute o m mp) [.Constant (.str a) ka pa, .Constant (.str b) kb pb] [] cp, l, hp, Q =>
      if m = Str.ofString "replace" then exE G n K o l hp fun v h1 => (match v, a.cps.toList with
        | .str x, [c] => (x.length ≤ 100000 ∧ b.cps.size ≤ 8 ∧ b ≠ a) ∧ Q (.str (replC x c b.cps.toList)) h1
        | _, _ => False)
      else False
  | .Call (.Attribute o m mp) [.GeneratorExp ge gg gs gp] [] cp, l, hp, Q => LeafE G n K.sc (.Call (.Attribute o m mp) [.GeneratorExp ge gg gs gp] [] cp) l hp Q
  | .Call (.Attribute o m mp) args [] cp, l, hp, Q =>
      if methNames.contains m then exE G n K o l hp fun x h1 => recv m h1 x ∧ exL G n K args l h1 fun vs h2 => optP (methV m h2 x vs) fun r => Q r.1 r.2
      else LeafE G n K.sc (.Call (.Attribute o m mp) args [] cp) l hp Q
  | .Attribute o m _, l, hp, Q => exE G n K o l hp fun v h1 => (match v with
      | .ref j => m = Str.ofString "append" ∧ (contents h1 (.ref j)).isSome = true ∧ Q (.app j) h1
      | _ => False)
  | .Subscript o (.Slice a b none _) _, l, hp, Q => exE G n K o l hp fun x h1 => exO G n K a l h1 fun y h2 => exO G n K b l h2 fun z h3 => optP (sliceV h3 x y z) fun v => Q v h3
  | .Subscript o i _, l, hp, Q => exE G n K o l hp fun x h1 => exE G n K i l h1 fun y h2 => optP (itemV h2 x y) fun v => Q v h2
  | .Tuple es _ _, l, hp, Q => exL G n K es l hp fun vs h1 => vs.length ≤ big ∧ Q (.tuple vs) h1
  | .List es p, l, hp, Q => exL G n K es l hp fun vs h1 => vs.length ≤ big ∧ (if K.trk p then Q (.ref h1.length) (h1 ++ [.list vs]) else Q (.list vs) h1)
  | .JoinedStr ps _, l, hp, Q => exJ G n K ps [] l hp Q
  | .ListComp elt [⟨tgt, iter, ifs, 0⟩] csc _, l, hp, Q => exE G n K iter l hp fun v h1 => optP (iterV h1 v) fun xs => xs.length ≤ big ∧
      compL (fun acc l1 k => exI G n ⟨relabelS csc K.sc, K.trk⟩ ifs l1 (h1 ++ [.list acc]) k) (fun acc l1 k => exE G n ⟨relabelS csc K.sc, K.trk⟩ elt l1 (h1 ++ [.list acc]) fun v h2 => h2 = h1 ++ [.list acc] ∧ inTo h1.length v = true ∧ k v)
        (fun x k => bindT tgt h1 x (restr csc l) k) (fun vs => Q (.list vs) h1) xs []
  | e, l, hp, Q => LeafE G n K.sc e l hp Q
def exT (G : GI) (n : Nat) (K : Cfg) : Expr → ((PV → Hp → Prop) → Prop) → Loc → Hp → (Bool → Hp → Prop) → Prop
  | .UnaryOp .Not a _, _, l, hp, Q => exT G n K a (exE G n K a l hp) l hp fun b h1 => Q (!b) h1
  | .BoolOp op vs _, _, l, hp, Q => exA G n K op vs l hp Q
  | .IfExp t a b _, _, l, hp, Q => exT G n K t (exE G n K t l hp) l hp fun c h1 => if c then exT G n K a (exE G n K a l h1) l h1 Q else exT G n K b (exE G n K b l h1) l h1 Q
  | .Compare a ops rs _, _, l, hp, Q => exE G n K a l hp fun x h1 => exC G n K ops rs x l h1 Q
  | _, whole, _, _, Q => whole fun v h1 => optP (truthV h1 v) fun b => Q b h1
def exA (G : GI) (n : Nat) (K : Cfg) : BoolOp → List Expr → Loc → Hp → (Bool → Hp → Prop) → Prop
  | op, [], _, hp, Q => Q (op == .And) hp
  | op, e :: r, l, hp, Q => exT G n K e (exE G n K e l hp) l hp fun b h1 => (match op, b with
    | .And, false => Q false h1
    | .Or, true => Q true h1
    | _, _ => exA G n K op r l h1 Q)
def exI (G : GI) (n : Nat) (K : Cfg) : List Expr → Loc → Hp → (Bool → Prop) → Prop
  | [], _, _, Q => Q true
  | [e], l, hp, Q => exT G n K e (exE G n K e l hp) l hp fun b h1 => h1 = hp ∧ Q b
  | _, _, _, _ => False
def exB (G : GI) (n : Nat) (K : Cfg) : BoolOp → List Expr → Loc → Hp → (PV → Hp → Prop) → Prop
  | _, [], _, _, _ => False
  | op, e :: r, l, hp, Q => exE G n K e l hp fun v h1 => if r.isEmpty then Q v h1 else optP (truthV h1 v) fun b => (match op, b with
    | .And, false => Q v h1
    | .Or, true => Q v h1
    | _, _ => exB G n K op r l h1 Q)
def exC (G : GI) (n : Nat) (K : Cfg) : List CmpOp → List Expr → PV → Loc → Hp → (Bool → Hp → Prop) → Prop
  | op :: ops, e :: r, x, l, hp, Q => exE G n K e l hp fun y h1 => optP (cmpV op h1 x y) fun b => if r.isEmpty then Q b h1 else (if b then exC G n K ops r y l h1 Q else Q false h1)
  | _, _, _, _, _, _ => False
def exL (G : GI) (n : Nat) (K : Cfg) : List Expr → Loc → Hp → (List PV → Hp → Prop) → Prop
  | [], _, hp, Q => Q [] hp
  | e :: r, l, hp, Q => exE G n K e l hp fun v h1 => exL G n K r l h1 fun vs h2 => Q (v :: vs) h2
def exO (G : GI) (n : Nat) (K : Cfg) : Option Expr → Loc → Hp → (PV → Hp → Prop) → Prop
  | none, _, hp, Q => Q .none hp
  | some e, l, hp, Q => exE G n K e l hp Q
def exJ (G : GI) (n : Nat) (K : Cfg) : List Expr → List Nat → Loc → Hp → (PV → Hp → Prop) → Prop
  | [], acc, _, hp, Q => Q (.str acc) hp
  | .Constant (.str s) _ _ :: r, acc, l, hp, Q => acc.length + s.cps.size ≤ big ∧ exJ G n K r (acc ++ s.cps.toList) l hp Q
  | .FormattedValue e (-1) none _ :: r, acc, l, hp, Q => exE G n K e l hp fun v h1 => (match v with
    | .str x => acc.length + x.length ≤ big ∧ exJ G n K r (acc ++ x) l h1 Q
    | _ => False)
  | _, _, _, _, _ => False
end

mutual
def stS (G : GI) (n : Nat) (K : Cfg) : Stmt → Loc → Hp → (Fl → Loc → Hp → Prop) → Prop
  | .Expr e _, l, hp, Q => exE G n K e l hp fun v h1 => v = .none ∧ Q .next l h1
  | .Assign [.Name x _] (.List es _) _, l, hp, Q => exL G n K es l hp fun vs h1 => vs.length ≤ big ∧ Q .next (upd l x (.ref h1.length)) (h1 ++ [.list vs])
  | .Assign [.Name x _] e _, l, hp, Q => exE G n K e l hp fun v h1 => Q .next (upd l x v) h1
  | .Assign [.Tuple ts k p] e _, l, hp, Q => exE G n K e l hp fun v h1 => bindT (.Tuple ts k p) h1 v l fun l1 => Q .next l1 h1
  | .Assign [.Subscript o i _] e _, l, hp, Q => exE G n K e l hp fun v h1 => exE G n K o l h1 fun x h2 => exE G n K i l h2 fun y h3 => optP (storeV h3 x y v) fun h4 => Q .next l h4
  | .AugAssign (.Name x _) op e _, l, hp, Q => optP (l x) fun old => exE G n K e l hp fun v h1 => optP (augV op h1 old v) fun r => Q .next (upd l x r) h1
  | .AugAssign (.Subscript o i _) op e _, l, hp, Q => exE G n K o l hp fun x h1 => exE G n K i l h1 fun y h2 => optP (itemV h2 x y) fun old =>
      exE G n K e l h2 fun v h3 => optP (augV op h3 old v) fun r => optP (storeV h3 x y r) fun h4 => Q .next l h4
  | .Delete [.Subscript o i _] _, l, hp, Q => exE G n K o l hp fun x h1 => exE G n K i l h1 fun y h2 => optP (delV h2 x y) fun h3 => Q .next l h3
  | .If t b o _, l, hp, Q => exT G n K t (exE G n K t l hp) l hp fun c h1 => if c then stL G n K b l h1 Q else stL G n K o l h1 Q
  | .While t b [] _, l, hp, Q => WhileW (fun l h k => exT G n K t (exE G n K t l h) l h k) (fun l h k => stL G n K b l h k) Q l hp
  | .For tgt (.Call (.Name f fp) [a, b] [] cp) body [] p, l, hp, Q =>
      if f = Str.ofString "zip" then isTupE tgt = true ∧ exE G n K a l hp fun x h1 => exE G n K b l h1 fun y h2 => optP (contents h2 x) fun xs => optP (contents h2 y) fun ys =>
        (xs.length ≤ ys.length ∧ ys.length ≤ big) ∧ forL (fun z l h k => bindT tgt h z l fun l1 => stL G n K body l1 h k) (fun h' => chkV h2 h' x ∧ chkV h2 h' y ∧ h'[h2.length]? = some .hid) Q (zipP xs ys) l (h2 ++ [.hid])
      else exE G n K (.Call (.Name f fp) [a, b] [] cp) l hp fun v h1 => optP (iterV h1 v) fun xs => xs.length ≤ big ∧
        forL (fun z l h k => bindT tgt h z l fun l1 => stL G n K body l1 h k) (fun h' => chkV h1 h' v) Q xs l h1
  | .For tgt iter body [] _, l, hp, Q => exE G n K iter l hp fun v h1 => optP (iterV h1 v) fun xs => xs.length ≤ big ∧
      forL (fun z l h k => bindT tgt h z l fun l1 => stL G n K body l1 h k) (fun h' => chkV h1 h' v) Q xs l h1
  | .Return (some e) _, l, hp, Q => exE G n K e l hp fun v h1 => Q (.ret v) l h1
  | .Return none _, l, hp, Q => Q (.ret .none) l hp
  | .Assert t none _, l, hp, Q => exT G n K t (exE G n K t l hp) l hp fun c h1 => c = true ∧ Q .next l h1
  | .Break _, l, hp, Q => Q .brk l hp
  | .Continue _, l, hp, Q => Q .cont l hp
  | .Pass _, l, hp, Q => Q .next l hp
  | st, l, hp, Q => LeafS G n K.sc st l hp Q
def stL (G : GI) (n : Nat) (K : Cfg) : List Stmt → Loc → Hp → (Fl → Loc → Hp → Prop) → Prop
  | [], l, hp, Q => Q .next l hp
  | st :: r, l, hp, Q => stS G n K st l hp fun f l1 h1 => match f with
    | .next => stL G n K r l1 h1 Q
    | f => Q f l1 h1
end

/-! ## what of a text can be looked over once -/
def glbOk (sc : Scope) (f : Str) : Bool := sc.names.lookup f == some .globalImplicit && !(f == Str.ofString "__debug__")
def stoOk (sc : Scope) (f : Str) : Bool := (sc.names.lookup f == some .local || sc.names.lookup f == some .cell) && !(f == ("__debug__" : Str)) && !(f == ("__classdict__" : Str))
def tgtOk (sc : Scope) : Expr → Bool
  | .Name x _ => stoOk sc x
  | .Tuple es _ _ => es.all fun e => match e with
    | .Name x _ => stoOk sc x
    | _ => false
  | _ => false
def notSuper : Expr → Bool
  | .Call (.Name _ _) [] [] _ => false
  | _ => true
def okC (sc csc : Scope) : Bool := csc.names.lookup QM == none && csc.kind == .function && decide ((csc.names.map (·.1)).Nodup) && csc.names.all fun x => x.2 != .free || sc.names.lookup x.1 == some .cell || sc.names.lookup x.1 == some .free
def okTg (csc : Scope) : List Comprehension → Bool
  | [] => true
  | ⟨t, _, _, _⟩ :: r => tgtOk csc t && okTg csc r
mutual
def okE (sc : Scope) : Expr → Bool
  | .Starred _ _ => false
  | .Set _ _ _ => false
  | .BoolOp _ vs _ => okEs sc vs
  | .BinOp a _ b _ => okE sc a && okE sc b
  | .UnaryOp _ a _ => okE sc a
  | .IfExp t a b _ => okE sc t && okE sc a && okE sc b
  | .Compare a ops rs _ => okE sc a && okEs sc rs && ops.length == rs.length
  | .Call (.Name f _) args _ _ => (f == Str.ofString "add" || glbOk sc f) && decide (args.length ≤ 20) && okEs sc args && (match args with
    | [_, .Name t _] => !(f == Str.ofString "isinstance") || glbOk sc t
    | _ => true)
  | .Call (.Attribute o _ mp) args _ cp => okE sc o && okEs sc args && decide (args.length ≤ 20) && notSuper o && (mp.endLine == cp.line)
  | .Attribute o _ _ => okE sc o && notSuper o
  | .Subscript o i _ => okE sc o && okE sc i
  | .Slice a b c _ => okO sc a && okO sc b && okO sc c
  | .Tuple es _ _ => okEs sc es
  | .List es _ => okEs sc es
  | .JoinedStr ps _ => decide (2 ≤ ps.length) && okEs sc ps
  | .FormattedValue e _ _ _ => okE sc e
  | .ListComp elt gens csc _ => okE (relabelS csc sc) elt && okG sc (relabelS csc sc) gens && okC sc csc && okTg csc gens
  | _ => true
def okEs (sc : Scope) : List Expr → Bool
  | [] => true
  | e :: r => okE sc e && okEs sc r
def okO (sc : Scope) : Option Expr → Bool
  | none => true
  | some e => okE sc e
def okG (sc csc : Scope) : List Comprehension → Bool
  | [] => true
  | ⟨t, it, ifs, _⟩ :: r => tgtOk csc t && okE sc it && okEs csc ifs && okG csc csc r
end
def notSlice : Expr → Bool
  | .Slice _ _ _ _ => false
  | _ => true
def notComp : Expr → Bool
  | .ListComp _ _ _ _ => false
  | .SetComp _ _ _ _ => false
  | .DictComp _ _ _ _ _ => false
  | _ => true
def oneLine (sc : Scope) (x : Str) : Expr → Bool
  | .ListComp _ [⟨_, _, _, 0⟩] csc _ => !(csc.names.any fun (n, k) => n == x && (k == .local || k == .cell))
  | _ => false
def okSwap : Expr → Bool
  | .Tuple vs _ _ => !(vs.all (constantsAlone 8)) || vs.all (foldedForSure 8)
  | _ => true
mutual
def okS (sc : Scope) : Stmt → Bool
  | .Expr e _ => okE sc e && notComp e
  | .Assign [.Subscript o i _] e _ => okE sc o && okE sc i && okE sc e && notComp e
  | .Assign [.Name x _] e _ => stoOk sc x && okE sc e && (notComp e || oneLine sc x e)
  | .Assign [.Tuple es k p] e _ => tgtOk sc (.Tuple es k p) && okE sc e && notComp e && decide (((tgtNames es).getD []).Nodup) && okSwap e
  | .AugAssign (.Subscript o i _) _ e _ => okE sc o && okE sc i && okE sc e && notSlice i
  | .AugAssign t _ e _ => tgtOk sc t && okE sc e
  | .Delete es _ => okEs sc es
  | .If t b o _ => okE sc t && okL sc b && okL sc o
  | .While t b o _ => okE sc t && okL sc b && okL sc o
  | .For t i b o _ => tgtOk sc t && okE sc i && okL sc b && okL sc o
  | .Return e _ => okO sc e
  | .Assert t _ _ => okE sc t
  | _ => true
def okL (sc : Scope) : List Stmt → Bool
  | [] => true
  | s :: r => okS sc s && okL sc r
end

end

section
open PySem PySem.W PyProof.Rows
set_option linter.unusedVariables false

variable {G : GI} {A : Around}

/-! ## steps -/
structure StpS (G : GI) (own : Addr → Prop) (μ : List Addr) (s : Shared) (μ' : List Addr) (s' : Shared) : Prop where
  keep : ∀ a o, s.heap.get? a = some o → a ∉ μ → a ≠ G.P → ¬ own a → s'.heap.get? a = some o
  grow : Grow s.heap μ μ'
  live : Live s.heap s'.heap
theorem StpS.w {own : Addr → Prop} {μ μ' : List Addr} {s s' : Shared} (x : StpS G own μ s μ' s') : Stp G own μ s μ' s' := ⟨fun a o e h1 h2 h3 => .inl (x.keep a o e h1 h2 h3), x.grow, x.live⟩
theorem Stp.of {own : Addr → Prop} {μ μ' : List Addr} {s s' : Shared} (k : ∀ a o, s.heap.get? a = some o → a ∉ μ → a ≠ G.P → ¬ own a → s'.heap.get? a = some o) (g : Grow s.heap μ μ') (v : Live s.heap s'.heap) : Stp G own μ s μ' s' :=
  ⟨fun a o e h1 h2 h3 => .inl (k a o e h1 h2 h3), g, v⟩
theorem UpS.same {h' : Heap} {a : Addr} {o : Obj} (x : UpS h' a o) (hd : ∀ es k, o.data ≠ .dict es k) : h'.get? a = some o := by
  rcases x with e | ⟨es, k, sl, q, _⟩
  · exact e
  · exact absurd q (hd es k)
theorem UpS.obj {h' : Heap} {a : Addr} {o : Obj} (x : UpS h' a o) : ∃ o', h'.get? a = some o' ∧ o'.data = o.data ∧ o'.cls = o.cls := by
  rcases x with e | ⟨es, k, sl, q, e⟩
  · exact ⟨o, e, rfl, rfl⟩
  · exact ⟨_, e, rfl, rfl⟩
theorem UpS.trans {h1 h2 : Heap} {a : Addr} {o : Obj} (x : UpS h1 a o) (y : ∀ o', h1.get? a = some o' → UpS h2 a o') : UpS h2 a o := by
  rcases x with e | ⟨es, k, sl, q, e⟩
  · exact y o e
  · rcases y _ e with e2 | ⟨es2, k2, sl2, q2, e2⟩
    · exact .inr ⟨es, k, sl, q, e2⟩
    · exact .inr ⟨es, k, sl2, q, e2⟩
theorem Stp.keep {own : Addr → Prop} {μ μ' : List Addr} {s s' : Shared} (x : Stp G own μ s μ' s') (a : Addr) (o : Obj) (e : s.heap.get? a = some o) (h1 : a ∉ μ) (h2 : a ≠ G.P) (h3 : ¬ own a) (hd : ∀ es k, o.data ≠ .dict es k) : s'.heap.get? a = some o :=
  (x.keepU a o e h1 h2 h3).same hd
theorem IsVal.noDict {o : Obj} (hv : IsVal o) : ∀ es k, o.data ≠ .dict es k := fun es k q => by
  unfold IsVal at hv; rw [q] at hv; exact hv
theorem Stp.refl {own : Addr → Prop} (μ : List Addr) (s : Shared) : Stp G own μ s μ s := .of (fun _ _ e _ _ _ => e) (Grow.refl _ _) (Live.refl _)
theorem Stp.toks {own : Addr → Prop} (μ : List Addr) (s : Shared) (k : Nat) : Stp G own μ s μ { s with toks := k } := .of (fun _ _ e _ _ _ => e) (Grow.refl _ _) (Live.refl _)
theorem Stp.trans {own : Addr → Prop} {μ μ' μ'' : List Addr} {s s' s'' : Shared} (x : Stp G own μ s μ' s') (y : Stp G own μ' s' μ'' s'') : Stp G own μ s μ'' s'' :=
  ⟨fun a o e h1 h2 h3 => UpS.trans (x.keepU a o e h1 h2 h3) fun o' e' => y.keepU a o' e' (x.grow.not h1 e) h2 h3, x.grow.trans y.grow x.live, x.live.trans y.live⟩
theorem Stp.weak {own own' : Addr → Prop} {μ μ' : List Addr} {s s' : Shared} (x : Stp G own μ s μ' s') (h : ∀ a, own a → own' a) : Stp G own' μ s μ' s' :=
  ⟨fun a o e h1 h2 h3 => x.keepU a o e h1 h2 fun q => h3 (h a q), x.grow, x.live⟩
theorem Stp.up {own : Addr → Prop} {μ μ' : List Addr} {s s' : Shared} (x : Stp G noOwn μ s μ' s') : Stp G own μ s μ' s' := x.weak fun _ q => q.elim

theorem HR.notTracked {μ : List Addr} {hp : Hp} {s : Shared} (H : HR G μ hp s) {a : Addr} {o : Obj} (ho : s.heap.get? a = some o) (hv : IsVal o) (hl : o.cls = .type "list" ∨ o.cls = .type "tuple" → a ∉ μ) : a ∉ μ := by
  intro hm
  obtain ⟨i, hi⟩ := List.getElem?_of_mem hm
  have hlt : i < hp.length := by rw [← H.len]; exact (List.getElem?_eq_some_iff.mp hi).1
  have hO := H.obj i a (hp[i]) hi (List.getElem?_eq_getElem hlt)
  cases hq : hp[i] with
  | list vs =>
    rw [hq] at hO
    obtain ⟨ws, n, e, _⟩ := hO
    rw [ho] at e; cases e
    exact hl (.inl rfl) hm
  | obj =>
    rw [hq] at hO
    have e : s.heap.get? a = some objO := hO
    rw [ho] at e; cases e
    exact hv
  | hid => rw [hq] at hO; obtain ⟨ws, e⟩ := hO; rw [ho] at e; cases e; exact hl (.inr rfl) hm

theorem HR.notTab {μ : List Addr} {hp : Hp} {s : Shared} (H : HR G μ hp s) {a : Addr} {o : Obj} (ho : s.heap.get? a = some o) (hv : IsVal o) : a ≠ G.P := by
  rintro rfl
  obtain ⟨ps, e, _⟩ := H.tab
  rw [ho] at e; cases e
  rcases hv with q | q <;> simp [tabObj] at q

theorem HR.vkeep {own : Addr → Prop} {μ μ' : List Addr} {hp : Hp} {s s' : Shared} (H : HR G μ hp s) (x : Stp G own μ s μ' s')
    (hown : ∀ a o, own a → s.heap.get? a = some o → ¬ IsVal o) : VKeep μ s.heap s'.heap := fun a o ho hv hl =>
  x.keep a o ho (H.notTracked ho hv hl) (H.notTab ho hv) (fun q => hown a o q ho hv) hv.noDict

theorem HR.vkeep0 {μ μ' : List Addr} {hp : Hp} {s s' : Shared} (H : HR G μ hp s) (x : Stp G noOwn μ s μ' s') : VKeep μ s.heap s'.heap := H.vkeep x fun _ _ q => q.elim

theorem HR.rep {μ μ' : List Addr} {hp : Hp} {s s' : Shared} (H : HR G μ hp s) (x : Stp G noOwn μ s μ' s') {p : PV} {v : Value} (r : Rep μ s.heap p v) : Rep μ' s'.heap p v := r.mono (H.vkeep0 x) x.grow
theorem HR.repL {μ μ' : List Addr} {hp : Hp} {s s' : Shared} (H : HR G μ hp s) (x : Stp G noOwn μ s μ' s') {p : List PV} {v : List Value} (r : RepL μ s.heap p v) : RepL μ' s'.heap p v := r.mono (H.vkeep0 x) x.grow

theorem EnvR.ownVal {env : Env} {loc : Loc} {μ : List Addr} {h : Heap} (X : EnvR G A env loc μ h) : ∀ a o, ownOf env a → h.get? a = some o → ¬ IsVal o := by
  intro a o ha ho hv
  rcases ha with rfl | ⟨x, hx, hc⟩
  · obtain ⟨m, ⟨o', es, ep, e, hd, _⟩, _⟩ := X.ns
    rw [ho] at e; cases e
    simp [IsVal, hd] at hv
  · obtain ⟨c, ov, e1, ⟨o', e2, hd⟩, _⟩ := X.cel x (.inl hx)
    rw [hc] at e1; cases e1
    rw [ho] at e2; cases e2
    simp [IsVal, hd] at hv

theorem FrsOk.of {h h' : Heap} (X : FrsOk G A h) (k : ∀ L o es kk, h.get? L = some o → o.data = .dict es kk → ∃ o' es' k', h'.get? L = some o' ∧ o'.data = .dict es' k') : FrsOk G A h' := fun l hl e he => by
  obtain ⟨h1, L, o, es, kk, h2, h3, h4, h5⟩ := X l hl e he
  obtain ⟨o', es', k', h6, h7⟩ := k L o es kk h3 h4
  exact ⟨h1, L, o', es', k', h2, h6, h7, h5⟩
theorem FrsOk.keep {h h' : Heap} (X : FrsOk G A h) (k : ∀ b o, h.get? b = some o → h'.get? b = some o) : FrsOk G A h' := X.of fun L o es kk e hd => ⟨o, es, kk, k _ _ e, hd⟩
/-- one object alone has changed, and a dict is a dict still -/
theorem FrsOk.but {h h' : Heap} {a : Addr} (X : FrsOk G A h) (sb : Heap.SameBut a h h') (k : ∀ o es kk, h.get? a = some o → o.data = .dict es kk → ∃ o' es' k', h'.get? a = some o' ∧ o'.data = .dict es' k') : FrsOk G A h' := X.of fun L o es kk e hd => by
  by_cases q : L = a
  · subst q; exact k o es kk e hd
  · exact ⟨o, es, kk, (sb.2 L q).trans e, hd⟩
/-- the frame behind a step that stores into nothing of it -/
theorem EnvR.step {env : Env} {loc : Loc} {μ μ' : List Addr} {hp : Hp} {s s' : Shared} (X : EnvR G A env loc μ s.heap) (H : HR G μ hp s) (x : Stp G noOwn μ s μ' s') : EnvR G A env loc μ' s'.heap := by
  have notM : ∀ a o, s.heap.get? a = some o → (∀ ws n, o.data ≠ .seq ws n) → o.data ≠ .plain → a ∉ μ := by
    intro a o ho h1 h2 hm
    obtain ⟨i, hi⟩ := List.getElem?_of_mem hm
    have hlt : i < hp.length := by rw [← H.len]; exact (List.getElem?_eq_some_iff.mp hi).1
    have hO := H.obj i a (hp[i]) hi (List.getElem?_eq_getElem hlt)
    cases hq : hp[i] with
    | list vs => rw [hq] at hO; obtain ⟨ws, n, e, _⟩ := hO; rw [ho] at e; cases e; exact h1 _ _ rfl
    | obj => rw [hq] at hO; have e : s.heap.get? a = some objO := hO; rw [ho] at e; cases e; exact h2 rfl
    | hid => rw [hq] at hO; obtain ⟨ws, e⟩ := hO; rw [ho] at e; cases e; exact h1 _ _ rfl
  have notP : ∀ a o, s.heap.get? a = some o → (∀ vs, o.data ≠ .fields vs) → a ≠ G.P := by
    rintro a o ho h1 rfl
    obtain ⟨ps, e, _⟩ := H.tab
    rw [ho] at e; cases e
    exact h1 _ rfl
  refine ⟨X.dom, X.kind, X.glob, X.blt, X.low, X.lows, X.apart, X.code, X.frs.of fun L o es kk e hd => ?_, ?_, fun y hy => ?_⟩
  · obtain ⟨o', e', hd', _⟩ := (x.keepU _ _ e (notM _ _ e (fun _ _ q => by rw [hd] at q; cases q) fun q => by rw [hd] at q; cases q) (notP _ _ e fun _ q => by rw [hd] at q; cases q) id).obj
    exact ⟨o', es, kk, e', hd'.trans hd⟩
  · obtain ⟨m, ⟨o, es, ep, e, hd, hr⟩, hm⟩ := X.ns
    obtain ⟨o', e', hd', _⟩ := (x.keepU _ _ e (notM _ _ e (fun _ _ q => by rw [hd] at q; cases q) fun q => by rw [hd] at q; cases q) (notP _ _ e fun _ q => by rw [hd] at q; cases q) id).obj
    refine ⟨m, ⟨o', es, ep, e', hd'.trans hd, hr⟩, fun y pv hk hl => ?_⟩
    obtain ⟨v, h1, h2⟩ := hm y pv hk hl
    exact ⟨v, h1, H.rep x h2⟩
  · obtain ⟨c, ov, h1, ⟨o, e, hd⟩, h3⟩ := X.cel y hy
    refine ⟨c, ov, h1, ⟨o, x.keep _ _ e (notM _ _ e (fun _ _ q => by rw [hd] at q; cases q) fun q => by rw [hd] at q; cases q) (notP _ _ e fun _ q => by rw [hd] at q; cases q) id (fun _ _ q => by rw [hd] at q; cases q), hd⟩, fun pv hl => ?_⟩
    obtain ⟨v, h4, h5⟩ := h3 pv hl
    exact ⟨v, h4, H.rep x h5⟩

theorem HR.tok {μ : List Addr} {hp : Hp} {s : Shared} (H : HR G μ hp s) {k : Nat} (hk : 1 ≤ k) : HR G μ hp { s with toks := k } :=
  ⟨H.base, H.tab, H.os, H.gens, hk, H.nodup, H.len, H.low, H.obj⟩

/-- a value of one of the machine's heap ops that only pushes objects -/
theorem HR.push {μ : List Addr} {hp : Hp} {s : Shared} (H : HR G μ hp s) (o : Obj) : HR G μ hp { s with heap := s.heap.push o } := by
  have k : ∀ a x, s.heap.get? a = some x → (s.heap.push o).get? a = some x := fun a x e => Heap.get?_push_of_some _ e
  have vk : VKeep μ s.heap (s.heap.push o) := fun a x e _ _ => k a x e
  refine ⟨fun a x e => k _ _ (H.base a x e), ?_, H.os, H.gens, H.toks, H.nodup, H.len, H.low, fun i a m h1 h2 => ?_⟩
  · obtain ⟨ps, e, ht, hc⟩ := H.tab
    refine ⟨ps, k _ _ e, ht, fun pos c hp' => ?_⟩
    obtain ⟨a, o', q1, q2, q3⟩ := hc pos c hp'
    exact ⟨a, o', q1, k _ _ q2, q3⟩
  · have := H.obj i a m h1 h2
    cases m with
    | list vs => obtain ⟨ws, n, e, r⟩ := this; exact ⟨ws, n, k _ _ e, r.mono vk (Grow.refl _ _)⟩
    | obj => exact k _ _ this
    | hid => obtain ⟨ws, e⟩ := this; exact ⟨ws, k _ _ e⟩
theorem Stp.push {own : Addr → Prop} (μ : List Addr) (s : Shared) (o : Obj) : Stp G own μ s μ { s with heap := s.heap.push o } :=
  StpS.w ⟨fun _ _ e _ _ _ => Heap.get?_push_of_some _ e, Grow.refl _ _, fun _ o e => ⟨o, Heap.get?_push_of_some _ e⟩⟩

theorem wtk {α : Type} {M : Model} {A : Around} {t : Sem α} {Q : α → Shared → Prop} {E : Value → Shared → Prop} {s : Shared} (h0 : 1 ≤ s.toks)
    (h : wpAny M A t (fun a s' => 1 ≤ s'.toks → Q a s') (fun e s' => 1 ≤ s'.toks → E e s') s) : wpAny M A t Q E s := wpAny_with_toks h0 h

/-! ## the logic -/
variable {n : Nat} {env : Env} {loc : Loc} {hp : Hp}

theorem WE.mono {t : Sem Value} {Q Q' : PV → Hp → Prop} (h : WE G n env loc hp t Q) (hQ : ∀ v h', Q v h' → Q' v h') : WE G n env loc hp t Q' := fun A μ s R H X =>
  wpAny_mono (h A μ s R H X) (fun v s' ⟨pv, hp', μ', q, r⟩ => ⟨pv, hp', μ', hQ _ _ q, r⟩) fun _ _ e => e
theorem WS.mono {t : Sem Flow} {Q Q' : Fl → Loc → Hp → Prop} (h : WS G n env loc hp t Q) (hQ : ∀ f l h', Q f l h' → Q' f l h') : WS G n env loc hp t Q' := fun A μ s R H X =>
  wpAny_mono (h A μ s R H X) (fun v s' ⟨fl, l, hp', μ', q, r⟩ => ⟨fl, l, hp', μ', hQ _ _ _ q, r⟩) fun _ _ e => e
theorem CallW.mono {f : Str} {ps : List PV} {Q Q' : PV → Hp → Prop} (h : CallW G n f ps hp Q) (hQ : ∀ v h', Q v h' → Q' v h') : CallW G n f ps hp Q' := by
  obtain ⟨a, o, fd, ha, h⟩ := h
  exact ⟨a, o, fd, ha, fun A μ s vs R H r hb hf => codeAny_mono (h A μ s vs R H r hb hf) fun r s' ⟨pv, hp', v, e, q, x⟩ => ⟨pv, hp', v, e, hQ _ _ q, x⟩⟩

/-- bind in the logic: what was reckoned is handed on -/
theorem WE.bind {t : Sem Value} {f : Value → Sem Value} {Q Q' : PV → Hp → Prop} (h : WE G n env loc hp t Q)
    (hf : ∀ A μ s v pv hp', Room n A → HR G μ hp' s → EnvR G A env loc μ s.heap → Q pv hp' → Rep μ s.heap pv v →
      wpAny G.M A (f v) (fun v s' => ∃ pv hp' μ', Q' pv hp' ∧ Rep μ' s'.heap pv v ∧ HR G μ' hp' s' ∧ Stp G noOwn μ s μ' s') (fun _ _ => False) s) :
    WE G n env loc hp (t >>= f) Q' := fun A μ s R H X => by
  refine wpAny_bind (wpAny_mono (h A μ s R H X) (fun v s' ⟨pv, hp', μ', q, r, H', st⟩ => ?_) fun _ _ e => e)
  refine wpAny_mono (hf A μ' s' v pv hp' R H' (X.step H st) q r) (fun v' s'' ⟨pv', hp'', μ'', q', r', H'', st'⟩ => ⟨pv', hp'', μ'', q', r', H'', st.trans st'⟩) fun _ _ e => e

end

section
open PySem PySem.W PyProof.Rows
set_option linter.unusedVariables false
set_option linter.unusedSimpArgs false

open PySem.SeqAt
variable {G : GI}

theorem decT {p : Prop} {i : Decidable p} (h : p) : decide p = true := decide_eq_true h
theorem decF {p : Prop} {i : Decidable p} (h : ¬ p) : decide p = false := decide_eq_false h

theorem RepL.ptw {μ : List Addr} {h : Heap} {ps : List PV} {vs : List Value} (r : RepL μ h ps vs) (j : Nat) (h1 : j < vs.length) (h2 : j < ps.length) : Rep μ h ps[j] vs[j] := by
  obtain ⟨v, e, r'⟩ := RepL.get r (i := j) (List.getElem?_eq_getElem h2)
  rw [List.getElem?_eq_getElem h1] at e
  cases e; exact r'

open Classical in
noncomputable def pairD (xs ys : List PV) (j : Nat) : Bool := decide (xs[j]? = ys[j]?)
theorem pairD_eq {i : (j : Nat) → (xs ys : List PV) → (h1 : j < xs.length) → (h2 : j < ys.length) → Decidable (xs[j] = ys[j])} {xs ys : List PV} {j : Nat} (h1 : j < xs.length) (h2 : j < ys.length) :
    pairD xs ys j = @decide (xs[j] = ys[j]) (i j xs ys h1 h2) := by
  unfold pairD
  rw [List.getElem?_eq_getElem h1, List.getElem?_eq_getElem h2]
  by_cases q : xs[j] = ys[j] <;> simp [q]
theorem pairD_iff {xs ys : List PV} {j : Nat} (h1 : j < xs.length) (h2 : j < ys.length) : pairD xs ys j = true ↔ xs[j] = ys[j] := by
  unfold pairD
  rw [List.getElem?_eq_getElem h1, List.getElem?_eq_getElem h2]
  simp

theorem all_ext {n m : Nat} (e : Nat → Bool) {xs ys : List PV} (hn : n = xs.length) (hm : m = ys.length)
    (he : ∀ j (h1 : j < xs.length) (h2 : j < ys.length), e j = true ↔ xs[j] = ys[j]) :
    (((List.range (min n m)).all e && n == m) = true ↔ xs = ys) := by
  subst hn hm
  rw [Bool.and_eq_true, List.all_eq_true, beq_iff_eq]
  constructor
  · rintro ⟨h1, h2⟩
    refine List.ext_getElem h2 fun j j1 j2 => (he j j1 j2).mp (h1 j (List.mem_range.mpr (by omega)))
  · rintro rfl
    exact ⟨fun j hj => (he j (by have := List.mem_range.mp hj; omega) (by have := List.mem_range.mp hj; omega)).mpr rfl, rfl⟩
theorem dec_all {n m : Nat} (e : Nat → Bool) {xs ys : List PV} {p : Prop} {i : Decidable p} (hn : n = xs.length) (hm : m = ys.length)
    (he : ∀ j (h1 : j < xs.length) (h2 : j < ys.length), e j = true ↔ xs[j] = ys[j]) (hp : p ↔ xs = ys) : decide p = ((List.range (min n m)).all e && n == m) := by
  rw [Bool.eq_iff_iff, decide_eq_true_iff, hp]
  exact (all_ext e hn hm he).symm
theorem dec_allL {n m : Nat} (e : Nat → Bool) {xs ys : List PV} {p : Prop} {i : Decidable p} (hn : n = xs.length) (hm : m = ys.length) (hnm : n = m)
    (he : ∀ j (h1 : j < xs.length) (h2 : j < ys.length), e j = true ↔ xs[j] = ys[j]) (hp : p ↔ xs = ys) : decide p = (List.range n).all e := by
  rw [dec_all e hn hm he hp, ← hnm, Nat.min_self]
  simp

def RepT (μ : List Addr) (h : Heap) : PV → Value → Prop
  | .list vs, v => ∃ a ws n, v = .ref a ∧ h.get? a = some (lstO ws n) ∧ RepL μ h vs ws.toList
  | p, v => Rep μ h p v
theorem Rep.toT {μ : List Addr} {h : Heap} {p : PV} {v : Value} (r : Rep μ h p v) : RepT μ h p v := by
  cases p <;> first | exact r | (simp only [Rep] at r; obtain ⟨a, ws, n, e, ho, _, rs⟩ := r; exact ⟨a, ws, n, e, ho, rs⟩)

theorem lenL {μ : List Addr} {h : Heap} {d : Nat} (f : ∀ (x y : PV) (v : Value), flat d i b x = true → flat d i b y = true → Rep μ h x v → Rep μ h y v → x = y) :
    ∀ {ps qs : List PV} {vs : List Value}, (∀ x ∈ ps, flat d i b x = true) → (∀ x ∈ qs, flat d i b x = true) → RepL μ h ps vs → RepL μ h qs vs → ps = qs
  | [], [], _, _, _, _, _ => rfl
  | [], _ :: _, _, _, _, e, e' => by
      simp only [RepL] at e e'
      obtain ⟨w, wr, q, _⟩ := e'
      rw [e] at q; cases q
  | _ :: _, [], _, _, _, e, e' => by
      simp only [RepL] at e e'
      obtain ⟨w, wr, q, _⟩ := e
      rw [e'] at q; cases q
  | x :: ps, y :: qs, _, h1, h2, e, e' => by
      simp only [RepL] at e e'
      obtain ⟨w, wr, rfl, r, rs⟩ := e
      obtain ⟨w', wr', q, r', rs'⟩ := e'
      cases q
      rw [f x y w (h1 x (.head _)) (h2 y (.head _)) r r', lenL f (fun z hz => h1 z (.tail _ hz)) (fun z hz => h2 z (.tail _ hz)) rs rs']

theorem Rep.uniq {μ : List Addr} {h : Heap} : ∀ (d : Nat) (i b : Bool), (i && b) = false → ∀ (x y : PV) (v : Value), flat d i b x = true → flat d i b y = true → Rep μ h x v → Rep μ h y v → x = y := by
  intro d
  induction d with
  | zero =>
    intro i b hib x y v fx fy rx ry
    cases x <;> cases y <;> simp only [flat, Bool.false_eq_true] at fx fy <;> simp only [Rep] at rx ry <;>
      first
      | rfl
      | (subst rx; cases ry; done)
      | (subst rx; cases ry; rfl)
      | (obtain ⟨t, rfl⟩ := rx; cases ry; done)
      | (obtain ⟨t, rfl⟩ := rx; obtain ⟨u, e⟩ := ry; cases e; rfl)
      | (obtain ⟨t, rfl⟩ := rx; obtain ⟨u, e⟩ := ry; cases e; done)
      | (obtain ⟨t, rfl⟩ := rx; obtain ⟨u, e⟩ := ry; simp at e; simp [e]; done)
      | (subst rx; obtain ⟨u, e⟩ := ry; cases e; done)
  | succ d ih =>
    intro i b hib x y v fx fy rx ry
    cases x <;> cases y <;> simp only [flat, Bool.false_eq_true, List.all_eq_true] at fx fy <;> simp only [Rep] at rx ry <;>
      first
      | rfl
      | (subst rx; cases ry; done)
      | (subst rx; cases ry; rfl)
      | (obtain ⟨t, rfl⟩ := rx; cases ry; done)
      | (obtain ⟨t, rfl⟩ := rx; obtain ⟨u, e⟩ := ry; cases e; rfl)
      | (obtain ⟨t, rfl⟩ := rx; obtain ⟨u, e⟩ := ry; cases e; done)
      | (obtain ⟨t, rfl⟩ := rx; obtain ⟨u, e⟩ := ry; simp at e; simp [e]; done)
      | (subst rx; obtain ⟨u, e⟩ := ry; cases e; done)
      | (subst rx; obtain ⟨u, ws, e, _⟩ := ry; cases e; done)
      | (subst rx; obtain ⟨u, ws, n, e, _⟩ := ry; cases e; done)
      | (obtain ⟨t, rfl⟩ := rx; obtain ⟨u, ws, e, _⟩ := ry; cases e; done)
      | (obtain ⟨t, rfl⟩ := rx; obtain ⟨u, ws, n, e, _⟩ := ry; cases e; done)
      | (obtain ⟨t, ws, rfl, _⟩ := rx; cases ry; done)
      | (obtain ⟨t, ws, n, rfl, _⟩ := rx; cases ry; done)
      | (obtain ⟨t, ws, rfl, _⟩ := rx; obtain ⟨u, e⟩ := ry; cases e; done)
      | (obtain ⟨t, ws, n, rfl, _⟩ := rx; obtain ⟨u, e⟩ := ry; cases e; done)
      | (obtain ⟨t, ws, rfl, ho, r, _⟩ := rx; obtain ⟨u, ws', e, ho', r', _⟩ := ry; cases e; rw [ho] at ho'; cases ho'; rw [lenL (ih i b hib) fx fy r r'])
      | (obtain ⟨t, ws, n, rfl, ho, _, r⟩ := rx; obtain ⟨u, ws', n', e, ho', _, r'⟩ := ry; cases e; rw [ho] at ho'; cases ho'; rw [lenL (ih i b hib) fx fy r r'])
      | (obtain ⟨t, ws, rfl, ho, r, _⟩ := rx; obtain ⟨u, ws', n', e, ho', _, r'⟩ := ry; cases e; rw [ho] at ho'; simp at ho')
      | (obtain ⟨t, ws, n, rfl, ho, _, r⟩ := rx; obtain ⟨u, ws', e, ho', r', _⟩ := ry; cases e; rw [ho] at ho'; simp at ho')
theorem RepL.uniq {μ : List Addr} {h : Heap} (d : Nat) (i b : Bool) (hib : (i && b) = false) {ps qs : List PV} {vs : List Value} (f1 : ∀ x ∈ ps, flat d i b x = true) (f2 : ∀ x ∈ qs, flat d i b x = true)
    (r1 : RepL μ h ps vs) (r2 : RepL μ h qs vs) : ps = qs := lenL (Rep.uniq d i b hib) f1 f2 r1 r2

open Classical in
theorem eqAt_pv : ∀ (d : Nat) (i b : Bool), (i && b) = false → ∀ (x y : PV) (A : Around) (s : Shared) (v w : Value) (μ : List Addr), flat d i b x = true → flat d i b y = true →
    Rep μ s.heap x v → Rep μ s.heap y w → A.units + d < cLine → EqAt A s v w (decide (x = y)) := by
  intro d
  induction d with
  | zero =>
    intro i b hib x y A s v w μ fx fy rx ry hu
    cases x with
    | none =>
      cases y with
      | none =>
        simp only [Rep] at rx ry
        subst rx
        subst ry
        rw [decT rfl]; exact EqAt.same _
      | bool b' =>
        simp only [Rep] at rx ry
        subst rx
        subst ry
        rw [decF (by simp)]
        exact EqAt.none_bool _
      | int b' =>
        simp only [Rep] at rx ry
        subst rx
        obtain ⟨ty, rfl⟩ := ry
        rw [decF (by simp)]
        exact EqAt.none_int _ _
      | str b' =>
        simp only [Rep] at rx ry
        subst rx
        obtain ⟨ty, rfl⟩ := ry
        rw [decF (by simp)]
        exact EqAt.none_str _ _
      | tuple b' =>
        simp [flat] at fx fy
      | list b' =>
        simp [flat] at fx fy
      | ref b' => simp [flat] at fy
      | app b' => simp [flat] at fy
      | range b' c' d' => simp [flat] at fy
    | bool a =>
      cases y with
      | none =>
        simp only [Rep] at rx ry
        subst rx
        subst ry
        rw [decF (by simp)]
        exact EqAt.bool_none _
      | bool b' =>
        simp only [Rep] at rx ry
        subst rx
        subst ry
        rw [show decide (PV.bool a = PV.bool b') = (a == b') by by_cases q : a = b' <;> simp [q]]; exact EqAt.bool_bool a b'
      | int b' =>
        simp only [flat] at fx fy; subst fx fy; exact absurd hib (by decide)
      | str b' =>
        simp only [Rep] at rx ry
        subst rx
        obtain ⟨ty, rfl⟩ := ry
        rw [decF (by simp)]
        exact EqAt.bool_str _ _ _
      | tuple b' =>
        simp [flat] at fx fy
      | list b' =>
        simp [flat] at fx fy
      | ref b' => simp [flat] at fy
      | app b' => simp [flat] at fy
      | range b' c' d' => simp [flat] at fy
    | int a =>
      cases y with
      | none =>
        simp only [Rep] at rx ry
        obtain ⟨tx, rfl⟩ := rx
        subst ry
        rw [decF (by simp)]
        exact EqAt.int_none _ _
      | bool b' =>
        simp only [flat] at fx fy; subst fx fy; exact absurd hib (by decide)
      | int b' =>
        simp only [Rep] at rx ry
        obtain ⟨tx, rfl⟩ := rx
        obtain ⟨ty, rfl⟩ := ry
        rw [show decide (PV.int a = PV.int b') = (a == b') by by_cases q : a = b' <;> simp [q]]; exact EqAt.int_int a _ b' _
      | str b' =>
        simp only [Rep] at rx ry
        obtain ⟨tx, rfl⟩ := rx
        obtain ⟨ty, rfl⟩ := ry
        rw [decF (by simp)]
        exact EqAt.int_str _ _ _ _
      | tuple b' =>
        simp [flat] at fx fy
      | list b' =>
        simp [flat] at fx fy
      | ref b' => simp [flat] at fy
      | app b' => simp [flat] at fy
      | range b' c' d' => simp [flat] at fy
    | str a =>
      cases y with
      | none =>
        simp only [Rep] at rx ry
        obtain ⟨tx, rfl⟩ := rx
        subst ry
        rw [decF (by simp)]
        exact EqAt.str_none _ _
      | bool b' =>
        simp only [Rep] at rx ry
        obtain ⟨tx, rfl⟩ := rx
        subst ry
        rw [decF (by simp)]
        exact EqAt.str_bool _ _ _
      | int b' =>
        simp only [Rep] at rx ry
        obtain ⟨tx, rfl⟩ := rx
        obtain ⟨ty, rfl⟩ := ry
        rw [decF (by simp)]
        exact EqAt.str_int _ _ _ _
      | str b' =>
        simp only [Rep] at rx ry
        obtain ⟨tx, rfl⟩ := rx
        obtain ⟨ty, rfl⟩ := ry
        rw [show decide (PV.str a = PV.str b') = ((⟨a.toArray⟩ : Str) == ⟨b'.toArray⟩) by by_cases q : a = b' <;> simp [q]]; exact EqAt.str_str _ _ _ _
      | tuple b' =>
        simp [flat] at fx fy
      | list b' =>
        simp [flat] at fx fy
      | ref b' => simp [flat] at fy
      | app b' => simp [flat] at fy
      | range b' c' d' => simp [flat] at fy
    | tuple a =>
      cases y with
      | none =>
        simp [flat] at fx fy
      | bool b' =>
        simp [flat] at fx fy
      | int b' =>
        simp [flat] at fx fy
      | str b' =>
        simp [flat] at fx fy
      | tuple b' =>
        simp [flat] at fx fy
      | list b' =>
        simp [flat] at fx fy
      | ref b' => simp [flat] at fy
      | app b' => simp [flat] at fy
      | range b' c' d' => simp [flat] at fy
    | list a =>
      cases y with
      | none =>
        simp [flat] at fx fy
      | bool b' =>
        simp [flat] at fx fy
      | int b' =>
        simp [flat] at fx fy
      | str b' =>
        simp [flat] at fx fy
      | tuple b' =>
        simp [flat] at fx fy
      | list b' =>
        simp [flat] at fx fy
      | ref b' => simp [flat] at fy
      | app b' => simp [flat] at fy
      | range b' c' d' => simp [flat] at fy
    | ref a => simp [flat] at fx
    | app a => simp [flat] at fx
    | range a b c => simp [flat] at fx
  | succ d ih =>
    intro i b hib x y A s v w μ fx fy rx ry hu
    cases x with
    | none =>
      cases y with
      | none =>
        simp only [Rep] at rx ry
        subst rx
        subst ry
        rw [decT rfl]; exact EqAt.same _
      | bool b' =>
        simp only [Rep] at rx ry
        subst rx
        subst ry
        rw [decF (by simp)]
        exact EqAt.none_bool _
      | int b' =>
        simp only [Rep] at rx ry
        subst rx
        obtain ⟨ty, rfl⟩ := ry
        rw [decF (by simp)]
        exact EqAt.none_int _ _
      | str b' =>
        simp only [Rep] at rx ry
        subst rx
        obtain ⟨ty, rfl⟩ := ry
        rw [decF (by simp)]
        exact EqAt.none_str _ _
      | tuple b' =>
        simp only [Rep] at rx ry
        subst rx
        obtain ⟨ly, wsy, rfl, hoy, rsy, _⟩ := ry
        rw [decF (by simp)]
        exact EqAt.none_tuple  ⟨_, hoy, rfl, _, rfl⟩ (by omega)
      | list b' =>
        simp only [Rep] at rx ry
        subst rx
        obtain ⟨ly, wsy, ny, rfl, hoy, hmy, rsy⟩ := ry
        rw [decF (by simp)]
        exact EqAt.none_list  ⟨_, hoy, rfl, _, rfl⟩ (by omega)
      | ref b' => simp [flat] at fy
      | app b' => simp [flat] at fy
      | range b' c' d' => simp [flat] at fy
    | bool a =>
      cases y with
      | none =>
        simp only [Rep] at rx ry
        subst rx
        subst ry
        rw [decF (by simp)]
        exact EqAt.bool_none _
      | bool b' =>
        simp only [Rep] at rx ry
        subst rx
        subst ry
        rw [show decide (PV.bool a = PV.bool b') = (a == b') by by_cases q : a = b' <;> simp [q]]; exact EqAt.bool_bool a b'
      | int b' =>
        simp only [flat] at fx fy; subst fx fy; exact absurd hib (by decide)
      | str b' =>
        simp only [Rep] at rx ry
        subst rx
        obtain ⟨ty, rfl⟩ := ry
        rw [decF (by simp)]
        exact EqAt.bool_str _ _ _
      | tuple b' =>
        simp only [Rep] at rx ry
        subst rx
        obtain ⟨ly, wsy, rfl, hoy, rsy, _⟩ := ry
        rw [decF (by simp)]
        exact EqAt.bool_tuple _ ⟨_, hoy, rfl, _, rfl⟩ (by omega)
      | list b' =>
        simp only [Rep] at rx ry
        subst rx
        obtain ⟨ly, wsy, ny, rfl, hoy, hmy, rsy⟩ := ry
        rw [decF (by simp)]
        exact EqAt.bool_list _ ⟨_, hoy, rfl, _, rfl⟩ (by omega)
      | ref b' => simp [flat] at fy
      | app b' => simp [flat] at fy
      | range b' c' d' => simp [flat] at fy
    | int a =>
      cases y with
      | none =>
        simp only [Rep] at rx ry
        obtain ⟨tx, rfl⟩ := rx
        subst ry
        rw [decF (by simp)]
        exact EqAt.int_none _ _
      | bool b' =>
        simp only [flat] at fx fy; subst fx fy; exact absurd hib (by decide)
      | int b' =>
        simp only [Rep] at rx ry
        obtain ⟨tx, rfl⟩ := rx
        obtain ⟨ty, rfl⟩ := ry
        rw [show decide (PV.int a = PV.int b') = (a == b') by by_cases q : a = b' <;> simp [q]]; exact EqAt.int_int a _ b' _
      | str b' =>
        simp only [Rep] at rx ry
        obtain ⟨tx, rfl⟩ := rx
        obtain ⟨ty, rfl⟩ := ry
        rw [decF (by simp)]
        exact EqAt.int_str _ _ _ _
      | tuple b' =>
        simp only [Rep] at rx ry
        obtain ⟨tx, rfl⟩ := rx
        obtain ⟨ly, wsy, rfl, hoy, rsy, _⟩ := ry
        rw [decF (by simp)]
        exact EqAt.int_tuple _ _ ⟨_, hoy, rfl, _, rfl⟩ (by omega)
      | list b' =>
        simp only [Rep] at rx ry
        obtain ⟨tx, rfl⟩ := rx
        obtain ⟨ly, wsy, ny, rfl, hoy, hmy, rsy⟩ := ry
        rw [decF (by simp)]
        exact EqAt.int_list _ _ ⟨_, hoy, rfl, _, rfl⟩ (by omega)
      | ref b' => simp [flat] at fy
      | app b' => simp [flat] at fy
      | range b' c' d' => simp [flat] at fy
    | str a =>
      cases y with
      | none =>
        simp only [Rep] at rx ry
        obtain ⟨tx, rfl⟩ := rx
        subst ry
        rw [decF (by simp)]
        exact EqAt.str_none _ _
      | bool b' =>
        simp only [Rep] at rx ry
        obtain ⟨tx, rfl⟩ := rx
        subst ry
        rw [decF (by simp)]
        exact EqAt.str_bool _ _ _
      | int b' =>
        simp only [Rep] at rx ry
        obtain ⟨tx, rfl⟩ := rx
        obtain ⟨ty, rfl⟩ := ry
        rw [decF (by simp)]
        exact EqAt.str_int _ _ _ _
      | str b' =>
        simp only [Rep] at rx ry
        obtain ⟨tx, rfl⟩ := rx
        obtain ⟨ty, rfl⟩ := ry
        rw [show decide (PV.str a = PV.str b') = ((⟨a.toArray⟩ : Str) == ⟨b'.toArray⟩) by by_cases q : a = b' <;> simp [q]]; exact EqAt.str_str _ _ _ _
      | tuple b' =>
        simp only [Rep] at rx ry
        obtain ⟨tx, rfl⟩ := rx
        obtain ⟨ly, wsy, rfl, hoy, rsy, _⟩ := ry
        rw [decF (by simp)]
        exact EqAt.str_tuple _ _ ⟨_, hoy, rfl, _, rfl⟩ (by omega)
      | list b' =>
        simp only [Rep] at rx ry
        obtain ⟨tx, rfl⟩ := rx
        obtain ⟨ly, wsy, ny, rfl, hoy, hmy, rsy⟩ := ry
        rw [decF (by simp)]
        exact EqAt.str_list _ _ ⟨_, hoy, rfl, _, rfl⟩ (by omega)
      | ref b' => simp [flat] at fy
      | app b' => simp [flat] at fy
      | range b' c' d' => simp [flat] at fy
    | tuple a =>
      cases y with
      | none =>
        simp only [Rep] at rx ry
        obtain ⟨lx, wsx, rfl, hox, rsx, _⟩ := rx
        subst ry
        rw [decF (by simp)]
        exact EqAt.tuple_none  ⟨_, hox, rfl, _, rfl⟩ (by omega)
      | bool b' =>
        simp only [Rep] at rx ry
        obtain ⟨lx, wsx, rfl, hox, rsx, _⟩ := rx
        subst ry
        rw [decF (by simp)]
        exact EqAt.tuple_bool _ ⟨_, hox, rfl, _, rfl⟩ (by omega)
      | int b' =>
        simp only [Rep] at rx ry
        obtain ⟨lx, wsx, rfl, hox, rsx, _⟩ := rx
        obtain ⟨ty, rfl⟩ := ry
        rw [decF (by simp)]
        exact EqAt.tuple_int _ _ ⟨_, hox, rfl, _, rfl⟩ (by omega)
      | str b' =>
        simp only [Rep] at rx ry
        obtain ⟨lx, wsx, rfl, hox, rsx, _⟩ := rx
        obtain ⟨ty, rfl⟩ := ry
        rw [decF (by simp)]
        exact EqAt.tuple_str _ _ ⟨_, hox, rfl, _, rfl⟩ (by omega)
      | tuple b' =>
        simp only [Rep] at rx ry
        obtain ⟨lx, wsx, rfl, hox, rsx, _⟩ := rx
        obtain ⟨ly, wsy, rfl, hoy, rsy, _⟩ := ry
        simp only [flat, List.all_eq_true] at fx fy
        have n1 : wsx.size = a.length := by simpa using RepL.length rsx
        have n2 : wsy.size = b'.length := by simpa using RepL.length rsy
        have he : ∀ j (j1 : j < wsx.size) (j2 : j < wsy.size), EqAt A.in1 s wsx[j] wsy[j] (pairD a b' j) := fun j j1 j2 => by
          have k1 : j < a.length := by omega
          have k2 : j < b'.length := by omega
          have r1 := rsx.ptw j (by simpa using j1) k1
          have r2 := rsy.ptw j (by simpa using j2) k2
          rw [pairD_eq k1 k2]
          have := ih i b hib a[j] b'[j] A.in1 s _ _ μ (fx _ (List.getElem_mem k1)) (fy _ (List.getElem_mem k2)) r1 r2 (by show A.units + 1 + d < cLine; omega)
          simpa using this
        by_cases hll : lx = ly
        · subst hll
          rw [hox] at hoy; cases hoy
          rw [decT (by rw [RepL.uniq d i b hib fx fy rsx rsy])]; exact EqAt.same _
        · rw [dec_all (pairD a b') n1 n2 (fun j h1 h2 => pairD_iff h1 h2) (by simp)]
          exact EqAt.of_refs hll (RcAt.tuples ⟨_, hox, rfl, _, rfl⟩ ⟨_, hoy, rfl, _, rfl⟩ (by omega) he)
      | list b' =>
        simp only [Rep] at rx ry
        obtain ⟨lx, wsx, rfl, hox, rsx, _⟩ := rx
        obtain ⟨ly, wsy, ny, rfl, hoy, hmy, rsy⟩ := ry
        rw [decF (by simp)]
        exact EqAt.tuple_list  ⟨_, hox, rfl, _, rfl⟩ ⟨_, hoy, rfl, _, rfl⟩ (by omega)
      | ref b' => simp [flat] at fy
      | app b' => simp [flat] at fy
      | range b' c' d' => simp [flat] at fy
    | list a =>
      cases y with
      | none =>
        simp only [Rep] at rx ry
        obtain ⟨lx, wsx, nx, rfl, hox, hmx, rsx⟩ := rx
        subst ry
        rw [decF (by simp)]
        exact EqAt.list_none  ⟨_, hox, rfl, _, rfl⟩ (by omega)
      | bool b' =>
        simp only [Rep] at rx ry
        obtain ⟨lx, wsx, nx, rfl, hox, hmx, rsx⟩ := rx
        subst ry
        rw [decF (by simp)]
        exact EqAt.list_bool _ ⟨_, hox, rfl, _, rfl⟩ (by omega)
      | int b' =>
        simp only [Rep] at rx ry
        obtain ⟨lx, wsx, nx, rfl, hox, hmx, rsx⟩ := rx
        obtain ⟨ty, rfl⟩ := ry
        rw [decF (by simp)]
        exact EqAt.list_int _ _ ⟨_, hox, rfl, _, rfl⟩ (by omega)
      | str b' =>
        simp only [Rep] at rx ry
        obtain ⟨lx, wsx, nx, rfl, hox, hmx, rsx⟩ := rx
        obtain ⟨ty, rfl⟩ := ry
        rw [decF (by simp)]
        exact EqAt.list_str _ _ ⟨_, hox, rfl, _, rfl⟩ (by omega)
      | tuple b' =>
        simp only [Rep] at rx ry
        obtain ⟨lx, wsx, nx, rfl, hox, hmx, rsx⟩ := rx
        obtain ⟨ly, wsy, rfl, hoy, rsy, _⟩ := ry
        rw [decF (by simp)]
        exact EqAt.list_tuple  ⟨_, hox, rfl, _, rfl⟩ ⟨_, hoy, rfl, _, rfl⟩ (by omega)
      | list b' =>
        simp only [Rep] at rx ry
        obtain ⟨lx, wsx, nx, rfl, hox, hmx, rsx⟩ := rx
        obtain ⟨ly, wsy, ny, rfl, hoy, hmy, rsy⟩ := ry
        simp only [flat, List.all_eq_true] at fx fy
        have n1 : wsx.size = a.length := by simpa using RepL.length rsx
        have n2 : wsy.size = b'.length := by simpa using RepL.length rsy
        have he : ∀ j (j1 : j < wsx.size) (j2 : j < wsy.size), EqAt A.in1 s wsx[j] wsy[j] (pairD a b' j) := fun j j1 j2 => by
          have k1 : j < a.length := by omega
          have k2 : j < b'.length := by omega
          have r1 := rsx.ptw j (by simpa using j1) k1
          have r2 := rsy.ptw j (by simpa using j2) k2
          rw [pairD_eq k1 k2]
          have := ih i b hib a[j] b'[j] A.in1 s _ _ μ (fx _ (List.getElem_mem k1)) (fy _ (List.getElem_mem k2)) r1 r2 (by show A.units + 1 + d < cLine; omega)
          simpa using this
        by_cases hll : lx = ly
        · subst hll
          rw [hox] at hoy; cases hoy
          rw [decT (by rw [RepL.uniq d i b hib fx fy rsx rsy])]; exact EqAt.same _
        · by_cases hsz : wsx.size = wsy.size
          · rw [dec_allL (pairD a b') n1 n2 hsz (fun j h1 h2 => pairD_iff h1 h2) (by simp)]
            exact EqAt.of_refs hll (RcAt.lists ⟨_, hox, rfl, _, rfl⟩ ⟨_, hoy, rfl, _, rfl⟩ hsz (by omega) he)
          · rw [decF (fun q => hsz (by rw [n1, n2]; injection q with q; rw [q]))]
            exact EqAt.of_refs hll (RcAt.lists_lengths ⟨_, hox, rfl, _, rfl⟩ ⟨_, hoy, rfl, _, rfl⟩ (by simpa using hsz) (by omega))
      | ref b' => simp [flat] at fy
      | app b' => simp [flat] at fy
      | range b' c' d' => simp [flat] at fy
    | ref a => simp [flat] at fx
    | app a => simp [flat] at fx
    | range a b c => simp [flat] at fx

open Classical in
theorem rcAt_pv (d : Nat) (i b : Bool) (hib : (i && b) = false) (x y : PV) (A : Around) (s : Shared) (v w : Value) (μ : List Addr) (fx : flat (d + 1) i b x = true) (fy : flat (d + 1) i b y = true)
    (rx : RepT μ s.heap x v) (ry : RepT μ s.heap y w) (hu : A.units + (d + 1) < cLine) : RcAt A s v w (decide (x = y)) := by
    cases x with
    | none =>
      cases y with
      | none =>
        simp only [RepT, Rep] at rx ry
        subst rx
        subst ry
        rw [decT rfl]; exact RcAt.none_none
      | bool b' =>
        simp only [RepT, Rep] at rx ry
        subst rx
        subst ry
        rw [decF (by simp)]
        exact RcAt.none_bool _
      | int b' =>
        simp only [RepT, Rep] at rx ry
        subst rx
        obtain ⟨ty, rfl⟩ := ry
        rw [decF (by simp)]
        exact RcAt.none_int _ _
      | str b' =>
        simp only [RepT, Rep] at rx ry
        subst rx
        obtain ⟨ty, rfl⟩ := ry
        rw [decF (by simp)]
        exact RcAt.none_str _ _
      | tuple b' =>
        simp only [RepT, Rep] at rx ry
        subst rx
        obtain ⟨ly, wsy, rfl, hoy, rsy, _⟩ := ry
        rw [decF (by simp)]
        exact RcAt.none_tuple  ⟨_, hoy, rfl, _, rfl⟩ (by omega)
      | list b' =>
        simp only [RepT, Rep] at rx ry
        subst rx
        obtain ⟨ly, wsy, ny, rfl, hoy, rsy⟩ := ry
        rw [decF (by simp)]
        exact RcAt.none_list  ⟨_, hoy, rfl, _, rfl⟩ (by omega)
      | ref b' => simp [flat] at fy
      | app b' => simp [flat] at fy
      | range b' c' d' => simp [flat] at fy
    | bool a =>
      cases y with
      | none =>
        simp only [RepT, Rep] at rx ry
        subst rx
        subst ry
        rw [decF (by simp)]
        exact RcAt.bool_none _
      | bool b' =>
        simp only [RepT, Rep] at rx ry
        subst rx
        subst ry
        rw [show decide (PV.bool a = PV.bool b') = (a == b') by by_cases q : a = b' <;> simp [q]]; exact RcAt.bool_bool a b'
      | int b' =>
        simp only [flat] at fx fy; subst fx fy; exact absurd hib (by decide)
      | str b' =>
        simp only [RepT, Rep] at rx ry
        subst rx
        obtain ⟨ty, rfl⟩ := ry
        rw [decF (by simp)]
        exact RcAt.bool_str _ _ _
      | tuple b' =>
        simp only [RepT, Rep] at rx ry
        subst rx
        obtain ⟨ly, wsy, rfl, hoy, rsy, _⟩ := ry
        rw [decF (by simp)]
        exact RcAt.bool_tuple _ ⟨_, hoy, rfl, _, rfl⟩ (by omega)
      | list b' =>
        simp only [RepT, Rep] at rx ry
        subst rx
        obtain ⟨ly, wsy, ny, rfl, hoy, rsy⟩ := ry
        rw [decF (by simp)]
        exact RcAt.bool_list _ ⟨_, hoy, rfl, _, rfl⟩ (by omega)
      | ref b' => simp [flat] at fy
      | app b' => simp [flat] at fy
      | range b' c' d' => simp [flat] at fy
    | int a =>
      cases y with
      | none =>
        simp only [RepT, Rep] at rx ry
        obtain ⟨tx, rfl⟩ := rx
        subst ry
        rw [decF (by simp)]
        exact RcAt.int_none _ _
      | bool b' =>
        simp only [flat] at fx fy; subst fx fy; exact absurd hib (by decide)
      | int b' =>
        simp only [RepT, Rep] at rx ry
        obtain ⟨tx, rfl⟩ := rx
        obtain ⟨ty, rfl⟩ := ry
        rw [show decide (PV.int a = PV.int b') = (a == b') by by_cases q : a = b' <;> simp [q]]; exact RcAt.int_int a _ b' _
      | str b' =>
        simp only [RepT, Rep] at rx ry
        obtain ⟨tx, rfl⟩ := rx
        obtain ⟨ty, rfl⟩ := ry
        rw [decF (by simp)]
        exact RcAt.int_str _ _ _ _
      | tuple b' =>
        simp only [RepT, Rep] at rx ry
        obtain ⟨tx, rfl⟩ := rx
        obtain ⟨ly, wsy, rfl, hoy, rsy, _⟩ := ry
        rw [decF (by simp)]
        exact RcAt.int_tuple _ _ ⟨_, hoy, rfl, _, rfl⟩ (by omega)
      | list b' =>
        simp only [RepT, Rep] at rx ry
        obtain ⟨tx, rfl⟩ := rx
        obtain ⟨ly, wsy, ny, rfl, hoy, rsy⟩ := ry
        rw [decF (by simp)]
        exact RcAt.int_list _ _ ⟨_, hoy, rfl, _, rfl⟩ (by omega)
      | ref b' => simp [flat] at fy
      | app b' => simp [flat] at fy
      | range b' c' d' => simp [flat] at fy
    | str a =>
      cases y with
      | none =>
        simp only [RepT, Rep] at rx ry
        obtain ⟨tx, rfl⟩ := rx
        subst ry
        rw [decF (by simp)]
        exact RcAt.str_none _ _
      | bool b' =>
        simp only [RepT, Rep] at rx ry
        obtain ⟨tx, rfl⟩ := rx
        subst ry
        rw [decF (by simp)]
        exact RcAt.str_bool _ _ _
      | int b' =>
        simp only [RepT, Rep] at rx ry
        obtain ⟨tx, rfl⟩ := rx
        obtain ⟨ty, rfl⟩ := ry
        rw [decF (by simp)]
        exact RcAt.str_int _ _ _ _
      | str b' =>
        simp only [RepT, Rep] at rx ry
        obtain ⟨tx, rfl⟩ := rx
        obtain ⟨ty, rfl⟩ := ry
        rw [show decide (PV.str a = PV.str b') = ((⟨a.toArray⟩ : Str) == ⟨b'.toArray⟩) by by_cases q : a = b' <;> simp [q]]; exact RcAt.str_str _ _ _ _
      | tuple b' =>
        simp only [RepT, Rep] at rx ry
        obtain ⟨tx, rfl⟩ := rx
        obtain ⟨ly, wsy, rfl, hoy, rsy, _⟩ := ry
        rw [decF (by simp)]
        exact RcAt.str_tuple _ _ ⟨_, hoy, rfl, _, rfl⟩ (by omega)
      | list b' =>
        simp only [RepT, Rep] at rx ry
        obtain ⟨tx, rfl⟩ := rx
        obtain ⟨ly, wsy, ny, rfl, hoy, rsy⟩ := ry
        rw [decF (by simp)]
        exact RcAt.str_list _ _ ⟨_, hoy, rfl, _, rfl⟩ (by omega)
      | ref b' => simp [flat] at fy
      | app b' => simp [flat] at fy
      | range b' c' d' => simp [flat] at fy
    | tuple a =>
      cases y with
      | none =>
        simp only [RepT, Rep] at rx ry
        obtain ⟨lx, wsx, rfl, hox, rsx, _⟩ := rx
        subst ry
        rw [decF (by simp)]
        exact RcAt.tuple_none  ⟨_, hox, rfl, _, rfl⟩ (by omega)
      | bool b' =>
        simp only [RepT, Rep] at rx ry
        obtain ⟨lx, wsx, rfl, hox, rsx, _⟩ := rx
        subst ry
        rw [decF (by simp)]
        exact RcAt.tuple_bool _ ⟨_, hox, rfl, _, rfl⟩ (by omega)
      | int b' =>
        simp only [RepT, Rep] at rx ry
        obtain ⟨lx, wsx, rfl, hox, rsx, _⟩ := rx
        obtain ⟨ty, rfl⟩ := ry
        rw [decF (by simp)]
        exact RcAt.tuple_int _ _ ⟨_, hox, rfl, _, rfl⟩ (by omega)
      | str b' =>
        simp only [RepT, Rep] at rx ry
        obtain ⟨lx, wsx, rfl, hox, rsx, _⟩ := rx
        obtain ⟨ty, rfl⟩ := ry
        rw [decF (by simp)]
        exact RcAt.tuple_str _ _ ⟨_, hox, rfl, _, rfl⟩ (by omega)
      | tuple b' =>
        simp only [RepT, Rep] at rx ry
        obtain ⟨lx, wsx, rfl, hox, rsx, _⟩ := rx
        obtain ⟨ly, wsy, rfl, hoy, rsy, _⟩ := ry
        simp only [flat, List.all_eq_true] at fx fy
        have n1 : wsx.size = a.length := by simpa using RepL.length rsx
        have n2 : wsy.size = b'.length := by simpa using RepL.length rsy
        have he : ∀ j (j1 : j < wsx.size) (j2 : j < wsy.size), EqAt A.in1 s wsx[j] wsy[j] (pairD a b' j) := fun j j1 j2 => by
          have k1 : j < a.length := by omega
          have k2 : j < b'.length := by omega
          have r1 := rsx.ptw j (by simpa using j1) k1
          have r2 := rsy.ptw j (by simpa using j2) k2
          rw [pairD_eq k1 k2]
          have := eqAt_pv d i b hib a[j] b'[j] A.in1 s _ _ μ (fx _ (List.getElem_mem k1)) (fy _ (List.getElem_mem k2)) r1 r2 (by show A.units + 1 + d < cLine; omega)
          simpa using this
        rw [dec_all (pairD a b') n1 n2 (fun j h1 h2 => pairD_iff h1 h2) (by simp)]
        exact RcAt.tuples ⟨_, hox, rfl, _, rfl⟩ ⟨_, hoy, rfl, _, rfl⟩ (by omega) he
      | list b' =>
        simp only [RepT, Rep] at rx ry
        obtain ⟨lx, wsx, rfl, hox, rsx, _⟩ := rx
        obtain ⟨ly, wsy, ny, rfl, hoy, rsy⟩ := ry
        rw [decF (by simp)]
        exact RcAt.tuple_list  ⟨_, hox, rfl, _, rfl⟩ ⟨_, hoy, rfl, _, rfl⟩ (by omega)
      | ref b' => simp [flat] at fy
      | app b' => simp [flat] at fy
      | range b' c' d' => simp [flat] at fy
    | list a =>
      cases y with
      | none =>
        simp only [RepT, Rep] at rx ry
        obtain ⟨lx, wsx, nx, rfl, hox, rsx⟩ := rx
        subst ry
        rw [decF (by simp)]
        exact RcAt.list_none  ⟨_, hox, rfl, _, rfl⟩ (by omega)
      | bool b' =>
        simp only [RepT, Rep] at rx ry
        obtain ⟨lx, wsx, nx, rfl, hox, rsx⟩ := rx
        subst ry
        rw [decF (by simp)]
        exact RcAt.list_bool _ ⟨_, hox, rfl, _, rfl⟩ (by omega)
      | int b' =>
        simp only [RepT, Rep] at rx ry
        obtain ⟨lx, wsx, nx, rfl, hox, rsx⟩ := rx
        obtain ⟨ty, rfl⟩ := ry
        rw [decF (by simp)]
        exact RcAt.list_int _ _ ⟨_, hox, rfl, _, rfl⟩ (by omega)
      | str b' =>
        simp only [RepT, Rep] at rx ry
        obtain ⟨lx, wsx, nx, rfl, hox, rsx⟩ := rx
        obtain ⟨ty, rfl⟩ := ry
        rw [decF (by simp)]
        exact RcAt.list_str _ _ ⟨_, hox, rfl, _, rfl⟩ (by omega)
      | tuple b' =>
        simp only [RepT, Rep] at rx ry
        obtain ⟨lx, wsx, nx, rfl, hox, rsx⟩ := rx
        obtain ⟨ly, wsy, rfl, hoy, rsy, _⟩ := ry
        rw [decF (by simp)]
        exact RcAt.list_tuple  ⟨_, hox, rfl, _, rfl⟩ ⟨_, hoy, rfl, _, rfl⟩ (by omega)
      | list b' =>
        simp only [RepT, Rep] at rx ry
        obtain ⟨lx, wsx, nx, rfl, hox, rsx⟩ := rx
        obtain ⟨ly, wsy, ny, rfl, hoy, rsy⟩ := ry
        simp only [flat, List.all_eq_true] at fx fy
        have n1 : wsx.size = a.length := by simpa using RepL.length rsx
        have n2 : wsy.size = b'.length := by simpa using RepL.length rsy
        have he : ∀ j (j1 : j < wsx.size) (j2 : j < wsy.size), EqAt A.in1 s wsx[j] wsy[j] (pairD a b' j) := fun j j1 j2 => by
          have k1 : j < a.length := by omega
          have k2 : j < b'.length := by omega
          have r1 := rsx.ptw j (by simpa using j1) k1
          have r2 := rsy.ptw j (by simpa using j2) k2
          rw [pairD_eq k1 k2]
          have := eqAt_pv d i b hib a[j] b'[j] A.in1 s _ _ μ (fx _ (List.getElem_mem k1)) (fy _ (List.getElem_mem k2)) r1 r2 (by show A.units + 1 + d < cLine; omega)
          simpa using this
        by_cases hsz : wsx.size = wsy.size
        · rw [dec_allL (pairD a b') n1 n2 hsz (fun j h1 h2 => pairD_iff h1 h2) (by simp)]
          exact RcAt.lists ⟨_, hox, rfl, _, rfl⟩ ⟨_, hoy, rfl, _, rfl⟩ hsz (by omega) he
        · rw [decF (fun q => hsz (by rw [n1, n2]; injection q with q; rw [q]))]
          exact RcAt.lists_lengths ⟨_, hox, rfl, _, rfl⟩ ⟨_, hoy, rfl, _, rfl⟩ (by simpa using hsz) (by omega)
      | ref b' => simp [flat] at fy
      | app b' => simp [flat] at fy
      | range b' c' d' => simp [flat] at fy
    | ref a => simp [flat] at fx
    | app a => simp [flat] at fx
    | range a b c => simp [flat] at fx

open Classical in
theorem rcNeAt_pv (d : Nat) (i b : Bool) (hib : (i && b) = false) (x y : PV) (A : Around) (s : Shared) (v w : Value) (μ : List Addr) (fx : flat (d + 1) i b x = true) (fy : flat (d + 1) i b y = true)
    (rx : RepT μ s.heap x v) (ry : RepT μ s.heap y w) (hu : A.units + (d + 1) < cLine) : RcNeAt A s v w (!decide (x = y)) := by
    cases x with
    | none =>
      cases y with
      | none =>
        simp only [RepT, Rep] at rx ry
        subst rx
        subst ry
        rw [decT rfl]; exact RcNeAt.none_none
      | bool b' =>
        simp only [RepT, Rep] at rx ry
        subst rx
        subst ry
        rw [decF (by simp)]; show RcNeAt _ _ _ _ true
        exact RcNeAt.none_bool _
      | int b' =>
        simp only [RepT, Rep] at rx ry
        subst rx
        obtain ⟨ty, rfl⟩ := ry
        rw [decF (by simp)]; show RcNeAt _ _ _ _ true
        exact RcNeAt.none_int _ _
      | str b' =>
        simp only [RepT, Rep] at rx ry
        subst rx
        obtain ⟨ty, rfl⟩ := ry
        rw [decF (by simp)]; show RcNeAt _ _ _ _ true
        exact RcNeAt.none_str _ _
      | tuple b' =>
        simp only [RepT, Rep] at rx ry
        subst rx
        obtain ⟨ly, wsy, rfl, hoy, rsy, _⟩ := ry
        rw [decF (by simp)]; show RcNeAt _ _ _ _ true
        exact RcNeAt.none_tuple  ⟨_, hoy, rfl, _, rfl⟩ (by omega)
      | list b' =>
        simp only [RepT, Rep] at rx ry
        subst rx
        obtain ⟨ly, wsy, ny, rfl, hoy, rsy⟩ := ry
        rw [decF (by simp)]; show RcNeAt _ _ _ _ true
        exact RcNeAt.none_list  ⟨_, hoy, rfl, _, rfl⟩ (by omega)
      | ref b' => simp [flat] at fy
      | app b' => simp [flat] at fy
      | range b' c' d' => simp [flat] at fy
    | bool a =>
      cases y with
      | none =>
        simp only [RepT, Rep] at rx ry
        subst rx
        subst ry
        rw [decF (by simp)]; show RcNeAt _ _ _ _ true
        exact RcNeAt.bool_none _
      | bool b' =>
        simp only [RepT, Rep] at rx ry
        subst rx
        subst ry
        rw [show decide (PV.bool a = PV.bool b') = (a == b') by by_cases q : a = b' <;> simp [q]]; exact RcNeAt.bool_bool a b'
      | int b' =>
        simp only [flat] at fx fy; subst fx fy; exact absurd hib (by decide)
      | str b' =>
        simp only [RepT, Rep] at rx ry
        subst rx
        obtain ⟨ty, rfl⟩ := ry
        rw [decF (by simp)]; show RcNeAt _ _ _ _ true
        exact RcNeAt.bool_str _ _ _
      | tuple b' =>
        simp only [RepT, Rep] at rx ry
        subst rx
        obtain ⟨ly, wsy, rfl, hoy, rsy, _⟩ := ry
        rw [decF (by simp)]; show RcNeAt _ _ _ _ true
        exact RcNeAt.bool_tuple _ ⟨_, hoy, rfl, _, rfl⟩ (by omega)
      | list b' =>
        simp only [RepT, Rep] at rx ry
        subst rx
        obtain ⟨ly, wsy, ny, rfl, hoy, rsy⟩ := ry
        rw [decF (by simp)]; show RcNeAt _ _ _ _ true
        exact RcNeAt.bool_list _ ⟨_, hoy, rfl, _, rfl⟩ (by omega)
      | ref b' => simp [flat] at fy
      | app b' => simp [flat] at fy
      | range b' c' d' => simp [flat] at fy
    | int a =>
      cases y with
      | none =>
        simp only [RepT, Rep] at rx ry
        obtain ⟨tx, rfl⟩ := rx
        subst ry
        rw [decF (by simp)]; show RcNeAt _ _ _ _ true
        exact RcNeAt.int_none _ _
      | bool b' =>
        simp only [flat] at fx fy; subst fx fy; exact absurd hib (by decide)
      | int b' =>
        simp only [RepT, Rep] at rx ry
        obtain ⟨tx, rfl⟩ := rx
        obtain ⟨ty, rfl⟩ := ry
        rw [show decide (PV.int a = PV.int b') = (a == b') by by_cases q : a = b' <;> simp [q]]; exact RcNeAt.int_int a _ b' _
      | str b' =>
        simp only [RepT, Rep] at rx ry
        obtain ⟨tx, rfl⟩ := rx
        obtain ⟨ty, rfl⟩ := ry
        rw [decF (by simp)]; show RcNeAt _ _ _ _ true
        exact RcNeAt.int_str _ _ _ _
      | tuple b' =>
        simp only [RepT, Rep] at rx ry
        obtain ⟨tx, rfl⟩ := rx
        obtain ⟨ly, wsy, rfl, hoy, rsy, _⟩ := ry
        rw [decF (by simp)]; show RcNeAt _ _ _ _ true
        exact RcNeAt.int_tuple _ _ ⟨_, hoy, rfl, _, rfl⟩ (by omega)
      | list b' =>
        simp only [RepT, Rep] at rx ry
        obtain ⟨tx, rfl⟩ := rx
        obtain ⟨ly, wsy, ny, rfl, hoy, rsy⟩ := ry
        rw [decF (by simp)]; show RcNeAt _ _ _ _ true
        exact RcNeAt.int_list _ _ ⟨_, hoy, rfl, _, rfl⟩ (by omega)
      | ref b' => simp [flat] at fy
      | app b' => simp [flat] at fy
      | range b' c' d' => simp [flat] at fy
    | str a =>
      cases y with
      | none =>
        simp only [RepT, Rep] at rx ry
        obtain ⟨tx, rfl⟩ := rx
        subst ry
        rw [decF (by simp)]; show RcNeAt _ _ _ _ true
        exact RcNeAt.str_none _ _
      | bool b' =>
        simp only [RepT, Rep] at rx ry
        obtain ⟨tx, rfl⟩ := rx
        subst ry
        rw [decF (by simp)]; show RcNeAt _ _ _ _ true
        exact RcNeAt.str_bool _ _ _
      | int b' =>
        simp only [RepT, Rep] at rx ry
        obtain ⟨tx, rfl⟩ := rx
        obtain ⟨ty, rfl⟩ := ry
        rw [decF (by simp)]; show RcNeAt _ _ _ _ true
        exact RcNeAt.str_int _ _ _ _
      | str b' =>
        simp only [RepT, Rep] at rx ry
        obtain ⟨tx, rfl⟩ := rx
        obtain ⟨ty, rfl⟩ := ry
        rw [show decide (PV.str a = PV.str b') = ((⟨a.toArray⟩ : Str) == ⟨b'.toArray⟩) by by_cases q : a = b' <;> simp [q]]; exact RcNeAt.str_str _ _ _ _
      | tuple b' =>
        simp only [RepT, Rep] at rx ry
        obtain ⟨tx, rfl⟩ := rx
        obtain ⟨ly, wsy, rfl, hoy, rsy, _⟩ := ry
        rw [decF (by simp)]; show RcNeAt _ _ _ _ true
        exact RcNeAt.str_tuple _ _ ⟨_, hoy, rfl, _, rfl⟩ (by omega)
      | list b' =>
        simp only [RepT, Rep] at rx ry
        obtain ⟨tx, rfl⟩ := rx
        obtain ⟨ly, wsy, ny, rfl, hoy, rsy⟩ := ry
        rw [decF (by simp)]; show RcNeAt _ _ _ _ true
        exact RcNeAt.str_list _ _ ⟨_, hoy, rfl, _, rfl⟩ (by omega)
      | ref b' => simp [flat] at fy
      | app b' => simp [flat] at fy
      | range b' c' d' => simp [flat] at fy
    | tuple a =>
      cases y with
      | none =>
        simp only [RepT, Rep] at rx ry
        obtain ⟨lx, wsx, rfl, hox, rsx, _⟩ := rx
        subst ry
        rw [decF (by simp)]; show RcNeAt _ _ _ _ true
        exact RcNeAt.tuple_none  ⟨_, hox, rfl, _, rfl⟩ (by omega)
      | bool b' =>
        simp only [RepT, Rep] at rx ry
        obtain ⟨lx, wsx, rfl, hox, rsx, _⟩ := rx
        subst ry
        rw [decF (by simp)]; show RcNeAt _ _ _ _ true
        exact RcNeAt.tuple_bool _ ⟨_, hox, rfl, _, rfl⟩ (by omega)
      | int b' =>
        simp only [RepT, Rep] at rx ry
        obtain ⟨lx, wsx, rfl, hox, rsx, _⟩ := rx
        obtain ⟨ty, rfl⟩ := ry
        rw [decF (by simp)]; show RcNeAt _ _ _ _ true
        exact RcNeAt.tuple_int _ _ ⟨_, hox, rfl, _, rfl⟩ (by omega)
      | str b' =>
        simp only [RepT, Rep] at rx ry
        obtain ⟨lx, wsx, rfl, hox, rsx, _⟩ := rx
        obtain ⟨ty, rfl⟩ := ry
        rw [decF (by simp)]; show RcNeAt _ _ _ _ true
        exact RcNeAt.tuple_str _ _ ⟨_, hox, rfl, _, rfl⟩ (by omega)
      | tuple b' =>
        simp only [RepT, Rep] at rx ry
        obtain ⟨lx, wsx, rfl, hox, rsx, _⟩ := rx
        obtain ⟨ly, wsy, rfl, hoy, rsy, _⟩ := ry
        simp only [flat, List.all_eq_true] at fx fy
        have n1 : wsx.size = a.length := by simpa using RepL.length rsx
        have n2 : wsy.size = b'.length := by simpa using RepL.length rsy
        have he : ∀ j (j1 : j < wsx.size) (j2 : j < wsy.size), EqAt A.in1 s wsx[j] wsy[j] (pairD a b' j) := fun j j1 j2 => by
          have k1 : j < a.length := by omega
          have k2 : j < b'.length := by omega
          have r1 := rsx.ptw j (by simpa using j1) k1
          have r2 := rsy.ptw j (by simpa using j2) k2
          rw [pairD_eq k1 k2]
          have := eqAt_pv d i b hib a[j] b'[j] A.in1 s _ _ μ (fx _ (List.getElem_mem k1)) (fy _ (List.getElem_mem k2)) r1 r2 (by show A.units + 1 + d < cLine; omega)
          simpa using this
        rw [dec_all (pairD a b') n1 n2 (fun j h1 h2 => pairD_iff h1 h2) (by simp)]
        exact RcNeAt.tuples ⟨_, hox, rfl, _, rfl⟩ ⟨_, hoy, rfl, _, rfl⟩ (by omega) he
      | list b' =>
        simp only [RepT, Rep] at rx ry
        obtain ⟨lx, wsx, rfl, hox, rsx, _⟩ := rx
        obtain ⟨ly, wsy, ny, rfl, hoy, rsy⟩ := ry
        rw [decF (by simp)]; show RcNeAt _ _ _ _ true
        exact RcNeAt.tuple_list  ⟨_, hox, rfl, _, rfl⟩ ⟨_, hoy, rfl, _, rfl⟩ (by omega)
      | ref b' => simp [flat] at fy
      | app b' => simp [flat] at fy
      | range b' c' d' => simp [flat] at fy
    | list a =>
      cases y with
      | none =>
        simp only [RepT, Rep] at rx ry
        obtain ⟨lx, wsx, nx, rfl, hox, rsx⟩ := rx
        subst ry
        rw [decF (by simp)]; show RcNeAt _ _ _ _ true
        exact RcNeAt.list_none  ⟨_, hox, rfl, _, rfl⟩ (by omega)
      | bool b' =>
        simp only [RepT, Rep] at rx ry
        obtain ⟨lx, wsx, nx, rfl, hox, rsx⟩ := rx
        subst ry
        rw [decF (by simp)]; show RcNeAt _ _ _ _ true
        exact RcNeAt.list_bool _ ⟨_, hox, rfl, _, rfl⟩ (by omega)
      | int b' =>
        simp only [RepT, Rep] at rx ry
        obtain ⟨lx, wsx, nx, rfl, hox, rsx⟩ := rx
        obtain ⟨ty, rfl⟩ := ry
        rw [decF (by simp)]; show RcNeAt _ _ _ _ true
        exact RcNeAt.list_int _ _ ⟨_, hox, rfl, _, rfl⟩ (by omega)
      | str b' =>
        simp only [RepT, Rep] at rx ry
        obtain ⟨lx, wsx, nx, rfl, hox, rsx⟩ := rx
        obtain ⟨ty, rfl⟩ := ry
        rw [decF (by simp)]; show RcNeAt _ _ _ _ true
        exact RcNeAt.list_str _ _ ⟨_, hox, rfl, _, rfl⟩ (by omega)
      | tuple b' =>
        simp only [RepT, Rep] at rx ry
        obtain ⟨lx, wsx, nx, rfl, hox, rsx⟩ := rx
        obtain ⟨ly, wsy, rfl, hoy, rsy, _⟩ := ry
        rw [decF (by simp)]; show RcNeAt _ _ _ _ true
        exact RcNeAt.list_tuple  ⟨_, hox, rfl, _, rfl⟩ ⟨_, hoy, rfl, _, rfl⟩ (by omega)
      | list b' =>
        simp only [RepT, Rep] at rx ry
        obtain ⟨lx, wsx, nx, rfl, hox, rsx⟩ := rx
        obtain ⟨ly, wsy, ny, rfl, hoy, rsy⟩ := ry
        simp only [flat, List.all_eq_true] at fx fy
        have n1 : wsx.size = a.length := by simpa using RepL.length rsx
        have n2 : wsy.size = b'.length := by simpa using RepL.length rsy
        have he : ∀ j (j1 : j < wsx.size) (j2 : j < wsy.size), EqAt A.in1 s wsx[j] wsy[j] (pairD a b' j) := fun j j1 j2 => by
          have k1 : j < a.length := by omega
          have k2 : j < b'.length := by omega
          have r1 := rsx.ptw j (by simpa using j1) k1
          have r2 := rsy.ptw j (by simpa using j2) k2
          rw [pairD_eq k1 k2]
          have := eqAt_pv d i b hib a[j] b'[j] A.in1 s _ _ μ (fx _ (List.getElem_mem k1)) (fy _ (List.getElem_mem k2)) r1 r2 (by show A.units + 1 + d < cLine; omega)
          simpa using this
        by_cases hsz : wsx.size = wsy.size
        · rw [dec_allL (pairD a b') n1 n2 hsz (fun j h1 h2 => pairD_iff h1 h2) (by simp)]
          exact RcNeAt.lists ⟨_, hox, rfl, _, rfl⟩ ⟨_, hoy, rfl, _, rfl⟩ hsz (by omega) he
        · rw [decF (fun q => hsz (by rw [n1, n2]; injection q with q; rw [q]))]; show RcNeAt _ _ _ _ true
          exact RcNeAt.lists_lengths ⟨_, hox, rfl, _, rfl⟩ ⟨_, hoy, rfl, _, rfl⟩ (by simpa using hsz) (by omega)
      | ref b' => simp [flat] at fy
      | app b' => simp [flat] at fy
      | range b' c' d' => simp [flat] at fy
    | ref a => simp [flat] at fx
    | app a => simp [flat] at fx
    | range a b c => simp [flat] at fx

end

section
open PySem PySem.W PyProof.Rows
set_option linter.unusedVariables false
set_option linter.unusedSimpArgs false

variable {G : GI}

def PE (G : GI) (μ : List Addr) (s : Shared) (Q : PV → Hp → Prop) : Value → Shared → Prop :=
  fun v s' => ∃ pv hp' μ', Q pv hp' ∧ Rep μ' s'.heap pv v ∧ HR G μ' hp' s' ∧ Stp G noOwn μ s μ' s'

variable {n : Nat} {A : Around} {μ : List Addr} {hp : Hp} {s : Shared} {Q : PV → Hp → Prop}

theorem PE_here {p : PV} {v : Value} (H : HR G μ hp s) (r : Rep μ s.heap p v) (q : Q p hp) : PE G μ s Q v s := ⟨p, hp, μ, q, r, H, Stp.refl _ _⟩
theorem PE_tok {p : PV} {v : Value} {k : Nat} (H : HR G μ hp s) (hk : 1 ≤ k) (r : Rep μ s.heap p v) (q : Q p hp) : PE G μ s Q v { s with toks := k } :=
  ⟨p, hp, μ, q, r, H.tok hk, Stp.toks _ _ _⟩

theorem HR.lt (H : HR G μ hp s) {a : Addr} (hm : a ∈ μ) : a < s.heap.objs.size := by
  obtain ⟨i, hi⟩ := List.getElem?_of_mem hm
  have hlt : i < hp.length := by rw [← H.len]; exact (List.getElem?_eq_some_iff.mp hi).1
  have hO := H.obj i a (hp[i]) hi (List.getElem?_eq_getElem hlt)
  cases hq : hp[i] with
  | list vs => rw [hq] at hO; obtain ⟨ws, m, e, _⟩ := hO; exact Heap.lt_size e
  | obj => rw [hq] at hO; exact Heap.lt_size hO
  | hid => rw [hq] at hO; obtain ⟨ws, e⟩ := hO; exact Heap.lt_size e

theorem pushKeep (s : Shared) (o : Obj) : VKeep μ s.heap (s.heap.push o) := fun a x e _ _ => Heap.get?_push_of_some _ e
theorem Rep.push {p : PV} {v : Value} (r : Rep μ s.heap p v) (o : Obj) : Rep μ (s.heap.push o) p v := r.mono (pushKeep s o) (Grow.refl _ _)
theorem RepL.push {p : List PV} {v : List Value} (r : RepL μ s.heap p v) (o : Obj) : RepL μ (s.heap.push o) p v := r.mono (pushKeep s o) (Grow.refl _ _)

/-- a fresh frozen list -/
theorem PE_list {vs : List PV} {ws : Array Value} (H : HR G μ hp s) (r : RepL μ s.heap vs ws.toList) (q : Q (.list vs) hp) :
    PE G μ s Q (.ref s.heap.objs.size) { s with heap := s.heap.push (lstO ws 0) } := by
  refine ⟨.list vs, hp, μ, q, ?_, H.push _, Stp.push _ _ _⟩
  simp only [Rep]
  exact ⟨_, ws, 0, rfl, Heap.get?_push_size _ rfl, fun hm => Nat.lt_irrefl _ (H.lt hm), r.push _⟩
/-- a fresh tuple -/
theorem PE_tuple {vs : List PV} {ws : Array Value} (H : HR G μ hp s) (r : RepL μ s.heap vs ws.toList) (q : Q (.tuple vs) hp) :
    PE G μ s Q (.ref s.heap.objs.size) { s with heap := s.heap.push (tupO ws) } := by
  refine ⟨.tuple vs, hp, μ, q, ?_, H.push _, Stp.push _ _ _⟩
  simp only [Rep]
  exact ⟨_, ws, rfl, Heap.get?_push_size _ rfl, r.push _, fun hm => Nat.lt_irrefl _ (H.lt hm)⟩
theorem HR.track (H : HR G μ hp s) (hb : G.h0.objs.size ≤ s.heap.objs.size) {o : Obj} {m : MO} (hO : ObjR (μ ++ [s.heap.objs.size]) (s.heap.push o) s.heap.objs.size m) :
    HR G (μ ++ [s.heap.objs.size]) (hp ++ [m]) { s with heap := s.heap.push o } := by
  have g : Grow s.heap μ (μ ++ [s.heap.objs.size]) := Grow.one _ _
  have P := H.push o
  refine ⟨P.base, P.tab, P.os, P.gens, P.toks, ?_, by simp [H.len], fun a ha => ?_, fun i a m' h1 h2 => ?_⟩
  · rw [List.nodup_append]
    refine ⟨H.nodup, by simp, fun a ha b hb => ?_⟩
    simp at hb; subst hb
    exact Nat.ne_of_lt (H.lt ha)
  · rcases List.mem_append.mp ha with q | q
    · exact H.low a q
    · simp at q; subst q; exact hb
  · rcases Nat.lt_or_ge i μ.length with hl | hl
    · rw [List.getElem?_append_left hl] at h1
      rw [List.getElem?_append_left (by rw [← H.len]; exact hl)] at h2
      have := H.obj i a m' h1 h2
      cases m' with
      | list vs =>
        obtain ⟨ws, k, e, r⟩ := this
        exact ⟨ws, k, Heap.get?_push_of_some _ e, r.mono (pushKeep s o) g⟩
      | obj => exact Heap.get?_push_of_some _ this
      | hid => obtain ⟨ws, e⟩ := this; exact ⟨ws, Heap.get?_push_of_some _ e⟩
    · rw [List.getElem?_append_right hl] at h1
      rw [List.getElem?_append_right (by rw [← H.len]; exact hl)] at h2
      have hi : i - μ.length = 0 := by
        cases q : i - μ.length with
        | zero => rfl
        | succ k => rw [q] at h1; simp at h1
      have hi' : i - hp.length = 0 := by rw [← H.len]; exact hi
      rw [hi] at h1; rw [hi'] at h2
      simp at h1 h2
      subst h1 h2
      exact hO
theorem HR.sizes (H : HR G μ hp s) : ∀ a o, G.h0.get? a = some o → a < s.heap.objs.size := fun a o e => Heap.lt_size (H.base a o e)
theorem Stp.track {own : Addr → Prop} (μ : List Addr) (s : Shared) (o : Obj) : Stp G own μ s (μ ++ [s.heap.objs.size]) { s with heap := s.heap.push o } :=
  StpS.w ⟨fun _ _ e _ _ _ => Heap.get?_push_of_some _ e, Grow.one _ _, fun _ o e => ⟨o, Heap.get?_push_of_some _ e⟩⟩

theorem contents_rep {p : PV} {vs : List PV} {v : Value} (H : HR G μ hp s) (r : Rep μ s.heap p v) (e : contents hp p = some vs) :
    ∃ a ws m, v = .ref a ∧ s.heap.get? a = some (lstO ws m) ∧ RepL μ s.heap vs ws.toList := by
  cases p <;> simp only [contents] at e <;> try (cases e; done)
  · cases e
    simp only [Rep] at r
    obtain ⟨a, ws, m, rfl, ho, _, rs⟩ := r
    exact ⟨a, ws, m, rfl, ho, rs⟩
  · rename_i j
    split at e
    · rename_i vs' hj
      cases e
      simp only [Rep] at r
      obtain ⟨a, rfl, hm⟩ := r
      obtain ⟨ws, m, ho, rs⟩ := H.obj j a _ hm hj
      exact ⟨a, ws, m, rfl, ho, rs⟩
    · cases e
theorem contents_ref {j : Nat} {vs : List PV} (e : contents hp (.ref j) = some vs) : hp[j]? = some (.list vs) := by
  simp only [contents] at e
  split at e
  · rename_i vs' hj; cases e; exact hj
  · cases e
theorem deref_rep {p : PV} {v : Value} (H : HR G μ hp s) (r : Rep μ s.heap p v) : RepT μ s.heap (deref hp p) v := by
  unfold deref
  cases e : contents hp p with
  | none => exact r.toT
  | some vs =>
    obtain ⟨a, ws, m, e1, e2, e3⟩ := contents_rep H r e
    exact ⟨a, ws, m, e1, e2, e3⟩

theorem big_fits {k : Nat} (h : k ≤ big) : k ≤ sizeLine := by rw [sizeLine_eq]; unfold big at h; omega

theorem smallI_iff {b : Int} (h : smallI b = true) : -(2 : Int) ^ 63 < b ∧ b < (2 : Int) ^ 63 := by simpa [smallI] using h
theorem pylong_small {a b : Int} (h : smallI b = true) : Builtin.divisionGoesByPylong a b = false := by
  obtain ⟨h1, h2⟩ := smallI_iff h
  unfold Builtin.divisionGoesByPylong
  have : b.natAbs < 2 ^ 63 := by omega
  have hl : b.natAbs.log2 < 64 := by
    rcases Nat.eq_zero_or_pos b.natAbs with h0 | hp
    · rw [h0]; decide
    · have := (Nat.log2_lt (Nat.ne_of_gt hp)).mpr this; omega
  simp only [Bool.and_eq_false_iff, decide_eq_false_iff_not]
  left
  split <;> omega

theorem rep_bounds {j : Int} (h : smallI j = true) : Builtin.Int.intBits j ≤ 64 := by
  obtain ⟨h1, h2⟩ := smallI_iff h
  exact intBits_le_64 (by omega) (by omega)

theorem RepL.flat_rep {h : Heap} {vs : List PV} {ws : List Value} (r : RepL μ h vs ws) : ∀ k : Nat, RepL μ h (List.replicate k vs).flatten (List.replicate k ws).flatten
  | 0 => by simp [RepL]
  | k + 1 => by
      simp only [List.replicate_succ, List.flatten_cons]
      exact r.append (r.flat_rep k)

theorem foldl_app (l : List (Array Value)) : ∀ acc : Array Value, (l.foldl (fun x y => x ++ y) acc).toList = acc.toList ++ (l.map (·.toList)).flatten := by
  induction l with
  | nil => intro acc; simp
  | cons x r ih => intro acc; rw [List.foldl_cons, ih]; simp

theorem op_bin {op : Operator} {x y r : PV} {v w : Value} (R : Room n A) (H : HR G μ hp s) (rx : Rep μ s.heap x v) (ry : Rep μ s.heap y w) (e : binV op hp x y = some r) (q : Q r hp) :
    wpAny G.M A (binaryOp op v w) (PE G μ s Q) (fun _ _ => False) s := by
  have ht := H.toks
  unfold binV at e
  split at e
  · cases e; simp only [Rep] at rx ry; obtain ⟨t, rfl⟩ := rx; obtain ⟨u, rfl⟩ := ry
    exact add_int (PE_tok H (by omega) (by simp [Rep]) q)
  · cases e; simp only [Rep] at rx ry; obtain ⟨t, rfl⟩ := rx; obtain ⟨u, rfl⟩ := ry
    exact sub_int (PE_tok H (by omega) (by simp [Rep]) q)
  · rename_i a b
    split at e
    · rename_i hs
      cases e; simp only [Rep] at rx ry; obtain ⟨t, rfl⟩ := rx; obtain ⟨u, rfl⟩ := ry
      refine mul_int (PE_tok H (by omega) (by simp [Rep]) q) ?_
      rcases Bool.or_eq_true_iff.mp hs with h | h
      · exact IntMulOk.of_left (rep_bounds h)
      · exact IntMulOk.of_right (rep_bounds h)
    · cases e
  · split at e
    · rename_i hs
      cases e; simp only [Rep] at rx ry; obtain ⟨t, rfl⟩ := rx; obtain ⟨u, rfl⟩ := ry
      exact floordiv_int hs.1 (PE_tok H (by omega) (by simp [Rep]) q) (.inl (pylong_small hs.2))
    · cases e
  · split at e
    · rename_i hs
      cases e; simp only [Rep] at rx ry; obtain ⟨t, rfl⟩ := rx; obtain ⟨u, rfl⟩ := ry
      exact mod_int' hs (PE_tok H (by omega) (by simp [Rep]) q)
    · cases e
  · rename_i a b
    split at e
    · rename_i hs
      cases e; simp only [Rep] at rx ry; obtain ⟨t, rfl⟩ := rx; obtain ⟨u, rfl⟩ := ry
      obtain ⟨h1, h2, h3, h4⟩ := hs
      refine pow_int h1 ?_ (PE_tok H (by omega) (by simp [Rep]) q)
      have := intBits_le_64 (k := a) (by omega) (by omega)
      have h5 : (Builtin.Int.intBits a : Int) * b ≤ 64 * 64 := Int.mul_le_mul (by omega) h2 h1 (by omega)
      omega
    · cases e
  · rename_i a b
    split at e
    · rename_i hs
      cases e; simp only [Rep] at rx ry; obtain ⟨t, rfl⟩ := rx; obtain ⟨u, rfl⟩ := ry
      refine wtk ht (add_str (fun t' tk => fun hk => PE_tok H hk ?_ q) (big_fits (by simpa [Str.length] using hs)))
      simp only [Rep]
      exact ⟨t', by congr 1; show (⟨a.toArray ++ b.toArray⟩ : Str) = _; simp⟩
    · cases e
  · rename_i v' k hno
    obtain ⟨vs, h1, h2⟩ := Option.bind_eq_some_iff.mp e
    split at h2
    · rename_i hs
      cases h2
      obtain ⟨a, ws, m, rfl, ho, rs⟩ := contents_rep H rx h1
      simp only [Rep] at ry; obtain ⟨u, rfl⟩ := ry
      obtain ⟨k0, k1, k2⟩ := hs
      have n1 : ws.size = vs.length := by simpa using rs.length
      have hm : ws.size * k.toNat ≤ 1000 * 1000 := Nat.mul_le_mul (by omega) (by omega)
      refine wpAny_binaryOp_repeat_ref (T := "list") (U := "int") (by decide) ⟨_, ho, rfl⟩ (fun s' => typeIs_int s' k u) noFill_list_mul F.fills_int_mul F.slot_int_rmul repeat_list F.slot_int_index.lookup
        (call_meets F.slot_int_rmul (typeIs_int s k u) F.entry_int_rmul (F.args_int_rmul_2 _ _) (lm_int_rmul_list_any k u a ws m none #[])
          ⟨ho, rfl, ⟨_, ho, rfl⟩, call_meets F.slot_list_mul ⟨_, ho, rfl⟩ F.entry_list_mul (F.args_list_mul_2 _ _)
            (lm_list_mul_any a ws m none #[] k u (by simp [Builtin.List.listFitsIndex]; omega) (by omega) (by simp [Builtin.List.listTooLong, sizeLine]; omega)) ⟨ho, ?_⟩⟩)
      refine PE_list H ?_ q
      rw [foldl_app]
      simp only [List.map_replicate, List.nil_append]
      split
      · rename_i he
        have h0 : ws = #[] := by simpa using he
        have hv : vs = [] := by
          have : vs.length = 0 := by rw [← n1, h0]; rfl
          exact List.eq_nil_of_length_eq_zero this
        subst hv
        simp [RepL]
      · simpa using rs.flat_rep k.toNat
    · cases h2
  · rename_i v' w' hno1 hno2
    obtain ⟨vs, h1, h2⟩ := Option.bind_eq_some_iff.mp e
    obtain ⟨ws', h3, h4⟩ := Option.bind_eq_some_iff.mp h2
    split at h4
    · rename_i hs
      cases h4
      obtain ⟨a, ws, m, rfl, ho, rs⟩ := contents_rep H rx h1
      obtain ⟨a', ws2, m', rfl, ho', rs'⟩ := contents_rep H ry h3
      have n1 : ws.size = vs.length := by simpa using rs.length
      have n2 : ws2.size = ws'.length := by simpa using rs'.length
      refine PySem.P.add_list (n := m) (n2 := m') ho ho' ?_ (big_fits (by omega))
      exact PE_list (ws := ws ++ ws2) H (by rw [Array.toList_append]; exact rs.append rs') q
    · cases h4
  · cases e

end

section
open PySem PySem.W PyProof.Rows
set_option linter.unusedVariables false
set_option linter.unusedSimpArgs false

variable {G : GI} {n : Nat} {A : Around} {μ : List Addr} {hp : Hp} {s : Shared} {Q : PV → Hp → Prop}

theorem Room.cl (R : Room n A) (k : Nat) (h : k ≤ 100) : A.units + k < cLine := by
  have := R.units
  have e : cLine = 9900 := rfl
  omega

theorem op_aug {op : Operator} {x y r : PV} {v w : Value} (R : Room n A) (H : HR G μ hp s) (rx : Rep μ s.heap x v) (ry : Rep μ s.heap y w) (e : augV op hp x y = some r) (q : Q r hp) :
    wpAny G.M A (inplaceOp op v w) (PE G μ s Q) (fun _ _ => False) s := by
  have ht := H.toks
  unfold augV at e
  split at e
  · rename_i a
    cases y <;> simp [binV, contents] at e
    cases e; simp only [Rep] at rx ry; obtain ⟨t, rfl⟩ := rx; obtain ⟨u, rfl⟩ := ry
    exact wpAny_iadd_int (PE_tok H (by omega) (by simp [Rep]) q)
  · rename_i a
    cases y <;> simp [binV, contents] at e
    rename_i b
    obtain ⟨hs, e⟩ := e
    subst e; simp only [Rep] at rx ry; obtain ⟨t, rfl⟩ := rx; obtain ⟨u, rfl⟩ := ry
    refine wtk ht (PyProof.Rows.iadd_str (fun t' tk => fun hk => PE_tok H hk ?_ q) (big_fits (by simpa [Str.length] using hs)))
    simp only [Rep]
    exact ⟨t', by congr 1; show (⟨a.toArray ++ b.toArray⟩ : Str) = _; simp⟩
  · cases e

theorem rep_eq {b : Bool} {x y : PV} (e : eqV x y = some b) : ∃ d i j, d = 15 ∧ (i && j) = false ∧ flat (d + 1) i j x = true ∧ flat (d + 1) i j y = true ∧ (b = true ↔ x = y) := by
  unfold eqV at e
  split at e
  · rename_i h
    cases e
    unfold eqOk at h
    rcases Bool.or_eq_true_iff.mp h with h | h <;> obtain ⟨h1, h2⟩ := Bool.and_eq_true_iff.mp h
    · exact ⟨15, true, false, rfl, rfl, h1, h2, by simp⟩
    · exact ⟨15, false, true, rfl, rfl, h1, h2, by simp⟩
  · cases e

theorem str_contains (x : List Nat) (c : Nat) : (!(Builtin.Str.occurrences ⟨x.toArray⟩ ⟨#[c]⟩ 0 (⟨x.toArray⟩ : Str).length 1).isEmpty) = x.contains c := by
  rw [StrLaws.found_one]
  show decide (c ∈ x.toArray.toList) = _
  rw [List.contains_eq_mem]
theorem str_contains_nil (x : List Nat) : (!(Builtin.Str.occurrences ⟨x.toArray⟩ ⟨#[]⟩ 0 (⟨x.toArray⟩ : Str).length 1).isEmpty) = true := by
  rw [StrLaws.found_iff]
  refine ⟨0, by simp [Str.length], ?_⟩
  rw [StrLaws.subAt_eq]
  simp [Str.length]

theorem rep_obj {j : Nat} {v : Value} (H : HR G μ hp s) (r : Rep μ s.heap (.ref j) v) : ∃ a o, v = .ref a ∧ μ[j]? = some a ∧ s.heap.get? a = some o ∧ (okRef hp j = true → o.cls ≠ .type "tuple") := by
  simp only [Rep] at r
  obtain ⟨a, rfl, hm⟩ := r
  have hlt : j < hp.length := by rw [← H.len]; exact (List.getElem?_eq_some_iff.mp hm).1
  have hO := H.obj j a (hp[j]) hm (List.getElem?_eq_getElem hlt)
  cases hq : hp[j] with
  | list vs => rw [hq] at hO; obtain ⟨ws, m, e, _⟩ := hO; exact ⟨a, _, rfl, hm, e, fun _ => by simp⟩
  | obj => rw [hq] at hO; exact ⟨a, _, rfl, hm, hO, fun _ => by simp⟩
  | hid => rw [hq] at hO; obtain ⟨ws, e⟩ := hO; exact ⟨a, _, rfl, hm, e, fun q => by simp [okRef, List.getElem?_eq_getElem hlt, hq] at q⟩

theorem isSame_refs {M : Model} {E : Value → Shared → Prop} {x y : Addr} {ox oy : Obj} {R : Bool → Shared → Prop} (hxy : x ≠ y) (hx : s.heap.get? x = some ox) (hy : s.heap.get? y = some oy)
    (hnt : ox.cls ≠ .type "tuple" ∨ oy.cls ≠ .type "tuple") (h : R false s) : wpAny M A (isSame (.ref x) (.ref y)) R E s := by
  show wpAny M A (if (x == y) = true then pure true else _) R E s
  rw [if_neg (by simpa using hxy)]
  refine wpAny_bind (wpAny_load hx (wpAny_bind (wpAny_load hy ?_)))
  split
  · rename_i h1 h2 _ _; rcases hnt with q | q
    · exact absurd h1 q
    · exact absurd h2 q
  · exact wpAny_pure h

theorem op_same {x y : PV} {v w : Value} {b : Bool} {M : Model} {E : Value → Shared → Prop} {R : Bool → Shared → Prop} (H : HR G μ hp s) (rx : Rep μ s.heap x v) (ry : Rep μ s.heap y w) (e : isV hp x y = some b) (h : R b s) :
    wpAny M A (isSame v w) R E s := by
  have plain : ∀ {v w : Value} {b : Bool}, plainIs v w = true → (v == w) = b → R b s → wpAny M A (isSame v w) R E s := fun hp he hr => wpAny_isSame_plain hp (by rw [he]; exact hr)
  unfold isV at e
  split at e
  · cases e; simp only [Rep] at rx ry; subst rx ry; exact plain rfl rfl h
  · cases e; simp only [Rep] at rx ry; subst rx; obtain ⟨a, rfl, _⟩ := ry; exact plain rfl rfl h
  · cases e; simp only [Rep] at rx ry; subst rx; obtain ⟨a, rfl⟩ := ry; exact plain rfl rfl h
  · cases e; simp only [Rep] at rx ry; subst rx; obtain ⟨a, ws, k, rfl, _⟩ := ry; exact plain rfl rfl h
  · cases e; simp only [Rep] at rx ry; subst rx; obtain ⟨a, ws, rfl, _⟩ := ry; exact plain rfl rfl h
  · rename_i i j
    obtain ⟨a, o, rfl, hm, ho, hc⟩ := rep_obj H rx
    obtain ⟨a', o', rfl, hm', ho', hc'⟩ := rep_obj H ry
    by_cases hij : i = j
    · subst hij
      rw [if_pos rfl] at e; cases e
      rw [hm] at hm'; cases hm'
      exact wpAny_isSame_ref_self h
    · rw [if_neg hij] at e
      split at e
      · rename_i hok
        cases e
        have hne : a ≠ a' := by
          rintro rfl
          have h1 := List.getElem?_eq_some_iff.mp hm
          have h2 := List.getElem?_eq_some_iff.mp hm'
          exact hij ((List.getElem_inj H.nodup).mp (h1.2.trans h2.2.symm))
        simp only [Bool.or_eq_true] at hok
        exact isSame_refs hne ho ho' (hok.imp hc hc') h
      · cases e
  · cases e; simp only [Rep] at rx ry; subst ry; obtain ⟨a, rfl, _⟩ := rx; exact plain rfl rfl h
  · cases e; simp only [Rep] at rx ry; obtain ⟨a, rfl, _⟩ := rx; obtain ⟨t, rfl⟩ := ry; exact plain rfl rfl h
  · cases e
    obtain ⟨a, o, rfl, hm, ho, hc⟩ := rep_obj H rx
    simp only [Rep] at ry; obtain ⟨a', ws, k, rfl, ho', hn, _⟩ := ry
    have hne : a ≠ a' := by
      rintro rfl
      exact hn (List.mem_of_getElem? hm)
    exact isSame_refs hne ho ho' (.inr (by simp)) h
  · cases e; simp only [Rep] at rx ry; subst ry; obtain ⟨a, rfl⟩ := rx; exact plain rfl rfl h
  · cases e; simp only [Rep] at rx ry; obtain ⟨a, rfl⟩ := rx; obtain ⟨t, rfl, _⟩ := ry; exact plain rfl rfl h
  · cases e; simp only [Rep] at rx ry; subst ry; obtain ⟨a, ws, rfl, _⟩ := rx; exact plain rfl rfl h
  · cases e; simp only [Rep] at rx ry; subst ry; obtain ⟨a, ws, k, rfl, _⟩ := rx; exact plain rfl rfl h
  · cases e
    obtain ⟨a, o, rfl, hm, ho, hc⟩ := rep_obj H ry
    simp only [Rep] at rx; obtain ⟨a', ws, k, rfl, ho', hn, _⟩ := rx
    have hne : a' ≠ a := by
      rintro rfl
      exact hn (List.mem_of_getElem? hm)
    exact isSame_refs hne ho' ho (.inl (by simp)) h
  · cases e

open Classical in
theorem bd {b : Bool} {x y : PV} {b' : Bool} (h1 : b = true ↔ x = y) (h2 : b' = true ↔ x = y) : b = b' := by
  rw [Bool.eq_iff_iff, h1, h2]

def PB (G : GI) (μ : List Addr) (hp : Hp) (s : Shared) (b : Bool) : Value → Shared → Prop := fun v s' => v = .bool b ∧ HR G μ hp s' ∧ s'.heap = s.heap

open Classical PySem.SeqAt in
theorem op_in {x y : PV} {v w : Value} {b : Bool} (R : Room n A) (H : HR G μ hp s) (rx : Rep μ s.heap x v) (ry : Rep μ s.heap y w) (e : inV hp x y = some b) {neg : Bool} {Q : Value → Shared → Prop} {E : Value → Shared → Prop}
    (q : Q (.bool (if neg then !b else b)) s) : wpAny G.M A (compareOp (if neg then .NotIn else .In) v w) Q E s := by
  have lst : ∀ (ys : List PV) (ws : List Value), RepL μ s.heap ys ws → (ys.all fun y => eqOk y x) = true → ∃ f : Value → Bool, (∀ z, z ∈ ws → EqAt A.in1 s z v (f z)) ∧ (ws.any f = true ↔ x ∈ ys) := by
    intro ys ws r hall
    refine ⟨fun z => decide (∃ y ∈ ys, Rep μ s.heap y z ∧ y = x), fun z hz => ?_, ?_⟩
    · obtain ⟨k, hk, rfl⟩ := List.getElem_of_mem hz
      have hk' : k < ys.length := by rw [← r.length]; exact hk
      have r1 := r.ptw k hk hk'
      have hok := List.all_eq_true.mp hall _ (List.getElem_mem hk')
      have : eqV ys[k] x = some (decide (ys[k] = x)) := by unfold eqV; rw [if_pos hok]
      obtain ⟨d, i, j, rfl, hij, f1, f2, _⟩ := rep_eq this
      have hq := eqAt_pv 16 i j hij ys[k] x A.in1 s _ _ μ f1 f2 r1 rx (by have := R.cl 17 (by omega); show A.units + 1 + 16 < cLine; omega)
      have he : decide (∃ y ∈ ys, Rep μ s.heap y ws[k] ∧ y = x) = decide (ys[k] = x) := by
        by_cases hh : ys[k] = x
        · rw [decT hh, decT ⟨ys[k], List.getElem_mem hk', r1, hh⟩]
        · rw [decF hh]
          refine decF fun ⟨y, hy, ry', hyx⟩ => hh ?_
          subst hyx
          exact Rep.uniq 16 i j hij _ _ _ f1 f2 r1 ry'
      show EqAt A.in1 s ws[k] v (decide (∃ y ∈ ys, Rep μ s.heap y ws[k] ∧ y = x))
      rw [he]
      exact hq
    · rw [List.any_eq_true]
      constructor
      · rintro ⟨z, hz, hd⟩
        obtain ⟨y, hy, _, rfl⟩ := of_decide_eq_true hd
        exact hy
      · intro hm
        obtain ⟨k, hk, rfl⟩ := List.getElem_of_mem hm
        have hk' : k < ws.length := by rw [r.length]; exact hk
        exact ⟨ws[k], List.getElem_mem hk', decide_eq_true ⟨_, List.getElem_mem hk, r.ptw k hk' hk, rfl⟩⟩
  unfold inV at e
  split at e
  · cases e; simp only [Rep] at rx ry; obtain ⟨t, rfl⟩ := rx; obtain ⟨u, rfl⟩ := ry
    cases neg
    · exact in_str (by rw [str_contains_nil]; exact q)
    · exact notIn_str (by rw [str_contains_nil]; exact q)
  · cases e; simp only [Rep] at rx ry; obtain ⟨t, rfl⟩ := rx; obtain ⟨u, rfl⟩ := ry
    cases neg
    · exact in_str (by rw [str_contains]; exact q)
    · exact notIn_str (by rw [str_contains]; exact q)
  · cases e
  · rename_i ys
    split at e
    · rename_i hall
      cases e
      simp only [Rep] at ry
      obtain ⟨a, ws, rfl, ho, r, _⟩ := ry
      obtain ⟨f, h1, h2⟩ := lst ys ws.toList r hall
      have hb : ws.any f = decide (x ∈ ys) := by
        rw [Bool.eq_iff_iff, decide_eq_true_iff, ← h2, ← Array.any_toList]
      cases neg
      · exact in_tupleAt f ⟨_, ho, rfl, _, rfl⟩ (fun z hz => h1 z (by simpa using hz)) (by rw [hb]; exact q)
      · exact notIn_tupleAt f ⟨_, ho, rfl, _, rfl⟩ (fun z hz => h1 z (by simpa using hz)) (by rw [hb]; exact q)
    · cases e
  · rename_i y' _ _ _ _
    obtain ⟨ys, hc, e⟩ := Option.bind_eq_some_iff.mp e
    split at e
    · rename_i hall
      cases e
      obtain ⟨a, ws, m, rfl, ho, r⟩ := contents_rep H ry hc
      obtain ⟨f, h1, h2⟩ := lst ys ws.toList r hall
      have hb : ws.any f = decide (x ∈ ys) := by
        rw [Bool.eq_iff_iff, decide_eq_true_iff, ← h2, ← Array.any_toList]
      cases neg
      · exact in_listAt f ⟨_, ho, rfl, _, rfl⟩ (fun z hz => h1 z (by simpa using hz)) (by rw [hb]; exact q)
      · exact notIn_listAt f ⟨_, ho, rfl, _, rfl⟩ (fun z hz => h1 z (by simpa using hz)) (by rw [hb]; exact q)
    · cases e

open Classical PySem.SeqAt in
theorem op_cmp {op : CmpOp} {x y : PV} {v w : Value} {b : Bool} {E : Value → Shared → Prop} {Q : Value → Shared → Prop} (R : Room n A) (H : HR G μ hp s) (rx : Rep μ s.heap x v) (ry : Rep μ s.heap y w) (e : cmpV op hp x y = some b)
    (q : Q (.bool b) s) : wpAny G.M A (compareOp op v w) Q E s := by
  unfold cmpV at e
  cases op with
  | Eq =>
    obtain ⟨d, i, j, rfl, hij, f1, f2, hb⟩ := rep_eq (x := deref hp x) (y := deref hp y) e
    have := rcAt_pv 15 i j hij _ _ A s v w μ f1 f2 (deref_rep H rx) (deref_rep H ry) (R.cl 16 (by omega))
    refine this G.prog G.w E Q ?_
    rw [bd (b := decide _) (b' := b) (by simp) hb]; exact q
  | NotEq =>
    obtain ⟨b0, e', rfl⟩ := Option.map_eq_some_iff.mp (show Option.map not (eqP hp x y) = some b from e)
    clear e
    have e := e'
    obtain ⟨d, i, j, rfl, hij, f1, f2, hb⟩ := rep_eq (x := deref hp x) (y := deref hp y) e
    have := rcNeAt_pv 15 i j hij _ _ A s v w μ f1 f2 (deref_rep H rx) (deref_rep H ry) (R.cl 16 (by omega))
    refine this G.prog G.w E Q ?_
    rw [bd (b := decide _) (b' := b0) (by simp) hb]; exact q
  | Lt =>
    dsimp only at e
    split at e <;> cases e <;> simp only [Rep] at rx ry <;> obtain ⟨t, rfl⟩ := rx <;> obtain ⟨u, rfl⟩ := ry
    · exact lt_int q
    · exact lt_str (by simpa [ltL] using q)
  | LtE =>
    dsimp only at e
    split at e <;> cases e <;> simp only [Rep] at rx ry <;> obtain ⟨t, rfl⟩ := rx <;> obtain ⟨u, rfl⟩ := ry
    · exact le_int q
    · exact P.le_str (by simpa [ltL] using q)
  | Gt =>
    dsimp only at e
    split at e <;> cases e <;> simp only [Rep] at rx ry <;> obtain ⟨t, rfl⟩ := rx <;> obtain ⟨u, rfl⟩ := ry
    · exact gt_int q
    · exact P.gt_str (by simpa [ltL] using q)
  | GtE =>
    dsimp only at e
    split at e <;> cases e <;> simp only [Rep] at rx ry <;> obtain ⟨t, rfl⟩ := rx <;> obtain ⟨u, rfl⟩ := ry
    · exact ge_int q
    · exact P.ge_str (by simpa [ltL] using q)
  | Is =>
    show wpAny G.M A (do return .bool (← isSame v w)) Q E s
    exact wpAny_bind (op_same H rx ry e (wpAny_pure q))
  | IsNot =>
    obtain ⟨b0, e', rfl⟩ := Option.map_eq_some_iff.mp (show Option.map not (isV hp x y) = some b from e)
    show wpAny G.M A (do return .bool (!(← isSame v w))) Q E s
    exact wpAny_bind (op_same H rx ry e' (wpAny_pure q))
  | In => exact op_in (neg := false) R H rx ry e q
  | NotIn =>
    obtain ⟨b0, e', rfl⟩ := Option.map_eq_some_iff.mp (show Option.map not (inV hp x y) = some b from e)
    exact op_in (neg := true) R H rx ry e' q

theorem op_truth {x : PV} {v : Value} {b : Bool} {E : Value → Shared → Prop} {Q : Bool → Shared → Prop} (H : HR G μ hp s) (rx : Rep μ s.heap x v) (e : truthV hp x = some b)
    (q : ∀ k, 1 ≤ k → Q b { s with toks := k }) : wpAny G.M A (truthy v) Q E s := by
  have q0 : Q b s := q s.toks H.toks
  have ht := H.toks
  unfold truthV at e
  split at e
  · cases e; simp only [Rep] at rx; subst rx; exact fun _ _ _ => q0
  · cases e; simp only [Rep] at rx; subst rx; exact wpAny_truthy_bool q0
  · cases e; simp only [Rep] at rx; obtain ⟨t, rfl⟩ := rx; exact truthy_int q0
  · rename_i l
    split at e
    · rename_i hl
      cases e; simp only [Rep] at rx; obtain ⟨t, rfl⟩ := rx
      refine P.truthy_str (by simp [Str.length]; unfold big at hl; omega) ?_
      have := q (s.toks + 1 + 1) (by omega)
      cases l with
      | nil => simpa [Str.length] using this
      | cons c l =>
        have h1 : (((⟨(c :: l).toArray⟩ : Str).length : Int) != 0) = true := by
          simp [Str.length]; omega
        rw [h1]; simpa using this
    · cases e
  · obtain ⟨vs, hc, e⟩ := Option.bind_eq_some_iff.mp e
    split at e
    · rename_i hl
      cases e
      obtain ⟨a, ws, m, rfl, ho, r⟩ := contents_rep H rx hc
      have n1 : ws.size = vs.length := by simpa using r.length
      refine wpAny_truthy_list ⟨_, ho, rfl, _, rfl⟩ (by unfold big at hl; omega) ?_
      have := q (s.toks + 1 + 1) (by omega)
      have hb : ws.isEmpty = vs.isEmpty := by
        cases vs with
        | nil => simp at n1; simp [n1]
        | cons y ys => simp only [List.isEmpty_cons]; rw [Bool.eq_false_iff]; intro he; simp at he; simp [he] at n1
      rw [hb]; exact this
    · cases e

end

section
open PySem PySem.W PyProof.Rows
set_option linter.unusedVariables false
set_option linter.unusedSimpArgs false

variable {G : GI} {n : Nat} {A : Around} {μ : List Addr} {hp : Hp} {s : Shared} {Q : PV → Hp → Prop}

theorem idx_eq (i : Int) (k : Nat) : seqIndex? i k = idx i k := by
  unfold seqIndex? idx
  by_cases h : 0 ≤ i
  · have h' : ¬ i < 0 := by omega
    simp only [h', if_false, h, if_true, decide_true, Bool.true_and, decide_eq_true_eq]
  · have h' : i < 0 := by omega
    simp only [h', if_true, h, if_false]
    by_cases h2 : 0 ≤ i + k
    · have : i + (k : Int) < k := by omega
      simp [h2, this]
    · simp [h2]

theorem idx_lt {i : Int} {n k : Nat} (h : idx i n = some k) : k < n := by
  unfold idx at h
  split at h
  · split at h
    · cases h; omega
    · cases h
  · split at h
    · cases h; omega
    · cases h

theorem op_item {o i r : PV} {v w : Value} (R : Room n A) (H : HR G μ hp s) (ro : Rep μ s.heap o v) (ri : Rep μ s.heap i w) (e : itemV hp o i = some r) (q : Q r hp) :
    wpAny G.M A (getItem v w) (PE G μ s Q) (fun _ _ => False) s := by
  have ht := H.toks
  unfold itemV at e
  split at e
  · rename_i i
    split at e
    · rename_i hs
      obtain ⟨b1, b2⟩ := smallI_iff hs
      simp only [Rep] at ri; obtain ⟨u, rfl⟩ := ri
      split at e
      · rename_i l
        obtain ⟨k, hk, e⟩ := Option.bind_eq_some_iff.mp e
        obtain ⟨c, hc, rfl⟩ := Option.map_eq_some_iff.mp e
        simp only [Rep] at ro; obtain ⟨t, rfl⟩ := ro
        refine P.getItem_str (c := c) (by simp; omega) ?_ (PE_tok H (by omega) ?_ q)
        · rw [idx_eq]; show (idx i l.toArray.size).bind _ = _
          rw [List.size_toArray, hk]; simpa using hc
        · simp [Rep]
      · rename_i vs
        obtain ⟨k, hk, e⟩ := Option.bind_eq_some_iff.mp e
        simp only [Rep] at ro; obtain ⟨a, ws, rfl, ho, rs, _⟩ := ro
        obtain ⟨x, hx, rx⟩ := rs.get e
        have n1 : ws.size = vs.length := by simpa using rs.length
        exact PySem.P.getItem_tuple (n := 0) ho (by omega) (by omega) (by rw [idx_eq, n1]; exact hk) (by simpa using hx) (PE_here H rx q)
      · obtain ⟨vs, hc, e⟩ := Option.bind_eq_some_iff.mp e
        obtain ⟨k, hk, e⟩ := Option.bind_eq_some_iff.mp e
        obtain ⟨a, ws, m, rfl, ho, rs⟩ := contents_rep H ro hc
        obtain ⟨x, hx, rx⟩ := rs.get e
        have n1 : ws.size = vs.length := by simpa using rs.length
        unfold idx at hk
        split at hk
        · split at hk
          · cases hk
            exact wpAny_getItem_list ⟨_, ho, rfl, _, rfl⟩ (by omega) (by omega) (by simpa using hx) (PE_here H rx q)
          · cases hk
        · split at hk
          · cases hk
            exact wpAny_getItem_list_neg ⟨_, ho, rfl, _, rfl⟩ (by omega) (by omega) (by omega) (by rw [n1]; simpa using hx) (PE_here H rx q)
          · cases hk
    · cases e
  · cases e

/-! slices -/
theorem sldef_le (i : Option Int) (n d : Nat) (h : d ≤ n) : sldef i n d ≤ n := by
  unfold sldef
  cases i with
  | none => exact h
  | some i => dsimp only; split <;> split <;> omega

theorem slc_eq {α : Type} (l : List α) (a b : Option Int) : slc l a b = (l.drop (sldef a l.length 0)).take (sldef b l.length l.length - sldef a l.length 0) := by
  unfold slc
  rw [List.drop_take]

theorem clip_eq (i : Option Int) (n d : Nat) (h : d ≤ n) : (match i with
    | none => (d : Int)
    | some i => max 0 (min (if i < 0 then i + n else i) n)) = (sldef i n d : Int) := by
  unfold sldef
  cases i with
  | none => rfl
  | some i => dsimp only; split <;> split <;> omega

theorem sliceRange_eq (lo hi : Nat) : sliceRange lo hi 1 = (List.range (hi - lo)).map fun k => lo + k := by
  unfold sliceRange
  simp only [show ((1 : Int) > 0) = True from by simp, if_true]
  by_cases hlt : (lo : Int) < hi
  · have e3 : (((hi : Int) - lo + 1 - 1) / 1).toNat = hi - lo := by omega
    simp only [hlt, if_true, e3]
    refine List.map_congr_left fun k _ => ?_
    omega
  · have : hi - lo = 0 := by omega
    simp [hlt, this]

theorem strSlice_eq (a b : Option Int) (n : Nat) : Builtin.Str.strSliceIndices a b 1 n = (List.range (sldef b n n - sldef a n 0)).map fun k => sldef a n 0 + k := by
  rw [← sliceRange_eq, ← clip_eq a n 0 (Nat.zero_le _), ← clip_eq b n n (Nat.le_refl _)]
  unfold Builtin.Str.strSliceIndices
  simp only [show ((1 : Int) > 0) = True from by simp, if_true]
  cases a <;> cases b <;> rfl

theorem slice_pick (l : List Nat) (a b : Option Int) : (Builtin.Str.strSliceIndices a b 1 l.length).filterMap (l.toArray[·]?) = slc l a b := by
  rw [strSlice_eq, slc_eq]
  have h1 := sldef_le a l.length 0 (Nat.zero_le _)
  have h2 := sldef_le b l.length l.length (Nat.le_refl _)
  rcases Nat.le_total (sldef a l.length 0) (sldef b l.length l.length) with h | h
  · have := StrLaws.picks l (sldef b l.length l.length - sldef a l.length 0) (sldef a l.length 0) (by omega)
    rw [← this]
    simp
  · have e0 : sldef b l.length l.length - sldef a l.length 0 = 0 := by omega
    rw [e0]; simp

theorem slc_le {α : Type} (l : List α) (a b : Option Int) : (slc l a b).length ≤ l.length := by
  rw [slc_eq, List.length_take, List.length_drop]; omega

theorem slc_full {α : Type} (l : List α) (a b : Option Int) (h : (slc l a b).length = l.length) : slc l a b = l := by
  rw [slc_eq] at h ⊢
  rw [List.length_take, List.length_drop] at h
  have h2 := sldef_le b l.length l.length (Nat.le_refl _)
  have h1 := sldef_le a l.length 0 (Nat.zero_le _)
  cases l with
  | nil => simp
  | cons x xs =>
    have e0 : sldef a (x :: xs).length 0 = 0 := by simp only [List.length_cons] at *; omega
    rw [e0] at h ⊢
    rw [List.drop_zero, List.take_of_length_le]
    omega

theorem slice_str (l : List Nat) (a b : Option Int) : Txt.slice ⟨l.toArray⟩ a b = ⟨(slc l a b).toArray⟩ := by
  unfold Txt.slice
  have e : (⟨l.toArray⟩ : Str).length = l.length := by simp [Str.length]
  rw [e, slice_pick]
  split
  · rename_i h
    have hlen : (slc l a b).length = l.length := by
      have h' : (Builtin.Str.strSliceIndices a b 1 l.length).length = l.length := by simpa using h
      rw [strSlice_eq] at h'
      rw [slc_eq, List.length_take, List.length_drop]
      have h2 := sldef_le b l.length l.length (Nat.le_refl _)
      simp at h'
      omega
    rw [slc_full _ _ _ hlen]
  · rfl

theorem slice_list (ws : Array Value) (a b : Option Int) : slicePick ws a b none = (slc ws.toList a b).toArray := by
  have key : sliceBounds a b none ws.size = ((sldef a ws.size 0 : Int), (sldef b ws.size ws.size : Int), 1) := by
    rw [← clip_eq a ws.size 0 (Nat.zero_le _), ← clip_eq b ws.size ws.size (Nat.le_refl _)]
    unfold sliceBounds
    simp only [Option.getD_none, show ((1 : Int) > 0) = True from by simp, if_true]
    cases a <;> cases b <;> rfl
  unfold slicePick
  rw [key, slc_eq]
  congr 1
  simp only [sliceRange_eq]
  have := pick_run ws (sldef a ws.size 0) (sldef b ws.size ws.size - sldef a ws.size 0)
  simpa using this

theorem RepL.slc {h : Heap} {ps : List PV} {vs : List Value} (a b : Option Int) (r : RepL μ h ps vs) : RepL μ h (slc ps a b) (slc vs a b) := by
  rw [slc_eq, slc_eq, r.length]
  exact (r.drop _).take _

/-- the keeping of what is known, over pushes of new objects -/
structure After (G : GI) (μ : List Addr) (hp : Hp) (s : Shared) (s' : Shared) : Prop where
  hr : HR G μ hp { s' with toks := 1 }
  st : Stp G noOwn μ s μ s'
theorem After.kept : KeptByPush (After G μ hp s) := fun s' o k h => ⟨h.hr.push o, (h.st.trans (Stp.push μ s' o)).trans (Stp.toks μ _ k)⟩
theorem After.start (H : HR G μ hp s) : After G μ hp s s := ⟨H.tok (Nat.le_refl 1), Stp.refl _ _⟩
theorem After.end {s' : Shared} (h : After G μ hp s s') (hk : 1 ≤ s'.toks) : HR G μ hp s' := h.hr.tok hk

theorem bnd_rep {p : PV} {v : Value} {b : Option Int} (r : Rep μ s.heap p v) (e : bndV p = some b) : IsPart v b ∧ ∃ b' : Option (Int × Tok), b = b'.map (·.1) ∧ v = partValue b' := by
  unfold bndV at e
  split at e
  · cases e; simp only [Rep] at r; subst r; exact ⟨.none, none, rfl, rfl⟩
  · split at e
    · cases e; simp only [Rep] at r; obtain ⟨t, rfl⟩ := r; exact ⟨.int _ _, some (_, t), rfl, rfl⟩
    · cases e
  · cases e

theorem op_slice {o x y r : PV} {vo vx vy : Value} (R : Room n A) (H : HR G μ hp s) (ro : Rep μ s.heap o vo) (rx : Rep μ s.heap x vx) (ry : Rep μ s.heap y vy) (e : sliceV hp o x y = some r) (q : Q r hp) :
    wpAny G.M A (getItem vo (.ref s.heap.objs.size)) (PE G μ s Q) (fun _ _ => False) { s with heap := s.heap.push { cls := .type "slice", data := .fields #[vx, vy, .none] } } := by
  have ht := H.toks
  have P := After.kept s { cls := .type "slice", data := .fields #[vx, vy, .none] } s.toks (After.start H)
  unfold sliceV at e
  split at e
  · rename_i a b ha hb
    obtain ⟨p1, a', ea, va⟩ := bnd_rep rx ha
    obtain ⟨p2, b', eb, vb⟩ := bnd_rep ry hb
    have lst : ∀ (ad : Addr) (vs : List PV) (ws : Array Value) (m : Nat), vo = .ref ad → s.heap.get? ad = some (lstO ws m) → RepL μ s.heap vs ws.toList → vs.length ≤ big → Q (.list (slc vs a b)) hp →
        wpAny G.M A (getItem vo (.ref s.heap.objs.size)) (PE G μ s Q) (fun _ _ => False) { s with heap := s.heap.push { cls := .type "slice", data := .fields #[vx, vy, .none] } } := by
      intro ad vs ws m hv ho rs hl q
      subst hv
      have n1 : ws.size = vs.length := by simpa using rs.length
      refine wpAny_getItem_list_slice ⟨_, Heap.get?_push_of_some _ ho, rfl, _, rfl⟩ (Heap.IsSliceOf.new _ _ _ _) p1 p2 .none (by simp) ?_ (big_fits (by omega))
      have H' : HR G μ hp { s with heap := s.heap.push { cls := .type "slice", data := .fields #[vx, vy, .none] } } := H.push _
      obtain ⟨pv, hp', μ', k1, k2, k3, k4⟩ := PE_list (Q := Q) (ws := slicePick ws a b none) (vs := slc vs a b) H' (by rw [slice_list]; exact (rs.slc a b).push _) q
      exact ⟨pv, hp', μ', k1, k2, k3, (Stp.push μ s _).trans k4⟩
    split at e
    · rename_i l
      split at e
      · rename_i hl
        cases e
        simp only [Rep] at ro; obtain ⟨t, rfl⟩ := ro
        subst va vb
        have fin : ∀ s' t', After G μ hp s s' → 1 ≤ s'.toks → PE G μ s Q (.str (Txt.slice ⟨l.toArray⟩ a b) t') s' := fun s' t' h hk => by
          refine ⟨_, hp, μ, q, ?_, h.end hk, h.st⟩
          simp only [Rep]
          exact ⟨t', by rw [slice_str]⟩
        refine wtk (s := { s with heap := s.heap.push { cls := .type "slice", data := .fields #[partValue a', partValue b', .none] } }) ht ?_
        have fits : (⟨l.toArray⟩ : Str).length ≤ sizeLine := big_fits (by simpa [Str.length] using hl)
        cases a' with
        | none =>
          cases b' with
          | none => subst ea eb; exact (SBG.sliceItem_nn After.kept (After.start H) (fun s' t' h hk => fin s' t' h hk) fits).choose_spec.choose_spec.2.2
          | some b' => subst ea eb; exact (SBG.sliceItem_ns After.kept (After.start H) (fun s' t' h hk => fin s' t' h hk) fits).choose_spec.choose_spec.2.2
        | some a' =>
          cases b' with
          | none => subst ea eb; exact (SBG.sliceItem_sn After.kept (After.start H) (fun s' t' h hk => fin s' t' h hk) fits).choose_spec.choose_spec.2.2
          | some b' => subst ea eb; exact (SBG.sliceItem_ss After.kept (After.start H) (fun s' t' h hk => fin s' t' h hk) fits).choose_spec.choose_spec.2.2
      · cases e
    · rename_i vs
      split at e
      · rename_i hl
        cases e
        simp only [Rep] at ro
        obtain ⟨ad, ws, m, hv, ho, _, rs⟩ := ro
        exact lst ad vs ws m hv ho rs hl q
      · cases e
    · rename_i j
      obtain ⟨vs, hc, e⟩ := Option.bind_eq_some_iff.mp e
      split at e
      · rename_i hl
        cases e
        obtain ⟨ad, ws, m, hv, ho, rs⟩ := contents_rep H ro hc
        exact lst ad vs ws m hv ho rs hl q
      · cases e
    · cases e
  · cases e

/-! the node of a subscript -/
theorem rep_type {o : PV} {v : Value} (H : HR G μ hp s) (r : Rep μ s.heap o v) (h : (∃ l, o = .str l) ∨ (∃ vs, o = .tuple vs) ∨ (contents hp o).isSome = true) :
    ∃ T id, s.TypeIs v T ∧ typeLookup (.type T) "__getitem__" = pure (some (.builtin id)) := by
  rcases h with ⟨l, rfl⟩ | ⟨vs, rfl⟩ | h
  · simp only [Rep] at r; obtain ⟨t, rfl⟩ := r
    exact ⟨"str", _, typeIs_str _ _ _, PySem.F.slot_str_getitem.lookup⟩
  · simp only [Rep] at r; obtain ⟨a, ws, rfl, ho, _⟩ := r
    exact ⟨"tuple", _, ⟨_, ho, rfl⟩, PySem.F.slot_tuple_getitem.lookup⟩
  · obtain ⟨vs, hc⟩ := Option.isSome_iff_exists.mp h
    obtain ⟨a, ws, m, rfl, ho, _⟩ := contents_rep H r hc
    exact ⟨"list", _, ⟨_, ho, rfl⟩, PySem.F.slot_list_getitem.lookup⟩

theorem subscripted_ops (slice : Expr) (o i : Value) : ∃ ops, subscripted slice false o i = operate ops (getItem o i) := by
  unfold subscripted
  split
  · exact ⟨_, rfl⟩
  · rename_i h; cases h
  · exact ⟨_, rfl⟩

theorem sub_tail {value slice : Expr} {o i : Value} {T id : String} {Q : Value → Shared → Prop} {E : Value → Shared → Prop} (hT : s.TypeIs o T) (hl : typeLookup (.type T) "__getitem__" = pure (some (.builtin id)))
    (h : wpAny G.M A (getItem o i) Q E s) : wpAny G.M A (subscriptTail value slice o i) Q E s := by
  unfold subscriptTail
  refine wpAny_bind ?_
  rw [getitemInPython_of_ne hT.not_modules]
  refine wpAny_bind (wpAny_specialOf hT hl ?_)
  obtain ⟨ops, hs⟩ := subscripted_ops slice o i
  have fin : wpAny G.M A (subscripted slice false o i) (fun r s₃ => wpAny G.M A (letTemporaryGo value o r >>= fun _ => pure r) Q E s₃) E s := by
    rw [hs]
    exact wpAny_operating (wpAny_mono h (fun r s₃ h₃ => wpAny_bind (wpAny_letTemporaryGo (wpAny_pure h₃))) fun _ _ x => x)
  first
    | exact wpAny_pure (wpAny_bind fin)
    | exact wpAny_bind (wpAny_pure (wpAny_bind fin))
    | exact wpAny_bind fin

end

section
open PySem PySem.W PyProof.Rows
set_option linter.unusedVariables false
set_option linter.unusedSimpArgs false

variable {G : GI} {n : Nat} {A : Around} {μ : List Addr} {hp : Hp} {s : Shared} {Q : PV → Hp → Prop}

/-! a tracked list is changed -/
theorem updKeep (s : Shared) {a : Addr} (ha : a ∈ μ) (f : Obj → Obj) (hl : ∀ o, s.heap.get? a = some o → o.cls = .type "list" ∨ ¬ IsVal o) : VKeep μ s.heap (s.heap.update a f) := by
  intro b o ho hv hm
  by_cases e : a = b
  · subst e
    rcases hl o ho with q | q
    · exact absurd ha (hm (.inl q))
    · exact absurd hv q
  · rw [Heap.get?_update_other _ f e]; exact ho

theorem HR.upd {j : Nat} {a : Addr} {vs vs' : List PV} {ws ws' : Array Value} {m : Nat} {f : Array Value → Array Value} (H : HR G μ hp s) (hm : μ[j]? = some a) (hj : hp[j]? = some (.list vs))
    (ho : s.heap.get? a = some (lstO ws m)) (hf : f ws = ws') (r : RepL μ s.heap vs' ws'.toList) :
    HR G μ (hp.set j (.list vs')) { s with heap := s.heap.update a (Obj.mapSeq f) } ∧ Stp G noOwn μ s μ { s with heap := s.heap.update a (Obj.mapSeq f) } := by
  have hin : a ∈ μ := List.mem_of_getElem? hm
  have vk : VKeep μ s.heap (s.heap.update a (Obj.mapSeq f)) := updKeep s hin _ fun o e => by rw [ho] at e; cases e; exact .inl rfl
  have other : ∀ b o, a ≠ b → s.heap.get? b = some o → (s.heap.update a (Obj.mapSeq f)).get? b = some o := fun b o hb e => by
    rw [Heap.get?_update_other _ _ hb]; exact e
  have here : ∃ m', (s.heap.update a (Obj.mapSeq f)).get? a = some (lstO ws' m') := ⟨_, by subst hf; exact IsL.update (n := m) ho f⟩
  obtain ⟨m', here⟩ := here
  have nP : a ≠ G.P := by
    rintro rfl
    obtain ⟨ps, e, _⟩ := H.tab
    rw [ho] at e; cases e
  have nB : ∀ b o, G.h0.get? b = some o → a ≠ b := by
    rintro b o e rfl
    exact absurd (Heap.lt_size e) (Nat.not_lt.mpr (H.low _ hin))
  refine ⟨⟨fun b o e => other _ _ (nB b o e) (H.base b o e), ?_, H.os, H.gens, H.toks, H.nodup, by rw [List.length_set]; exact H.len, H.low, fun i b x h1 h2 => ?_⟩, ?_⟩
  · obtain ⟨ps, e, ht, hc⟩ := H.tab
    refine ⟨ps, other _ _ nP e, ht, fun pos c hp' => ?_⟩
    obtain ⟨c', o', q1, q2, q3, vs, q, t, q4, q5⟩ := hc pos c hp'
    refine ⟨c', o', q1, other _ _ ?_ q2, q3, vs, q, t, q4, q5⟩
    rintro rfl
    rw [ho] at q2; cases q2; cases q4
  · by_cases e : i = j
    · subst e
      rw [hm] at h1; cases h1
      have hlt : i < hp.length := (List.getElem?_eq_some_iff.mp hj).1
      rw [List.getElem?_set_self hlt] at h2
      cases h2
      exact ⟨ws', m', here, r.mono vk (Grow.refl _ _)⟩
    · rw [List.getElem?_set_ne (Ne.symm e)] at h2
      have hab : a ≠ b := by
        rintro rfl
        have l1 : i < μ.length := (List.getElem?_eq_some_iff.mp h1).1
        have l2 : j < μ.length := (List.getElem?_eq_some_iff.mp hm).1
        exact e ((List.getElem?_inj l1 H.nodup).mp (by rw [h1, hm]))
      have := H.obj i b x h1 h2
      cases x with
      | list vs0 => obtain ⟨w0, k0, e0, r0⟩ := this; exact ⟨w0, k0, other _ _ hab e0, r0.mono vk (Grow.refl _ _)⟩
      | obj => exact other _ _ hab this
      | hid => obtain ⟨w0, e0⟩ := this; exact ⟨w0, other _ _ hab e0⟩
  · exact StpS.w ⟨fun b o e h1 _ _ => other _ _ (fun q => h1 (q ▸ hin)) e, Grow.refl _ _, fun b o e => by
      by_cases q : a = b
      · subst q; exact ⟨_, here⟩
      · exact ⟨o, other _ _ q e⟩⟩

theorem PE_upd {j : Nat} {a : Addr} {vs vs' : List PV} {ws ws' : Array Value} {m : Nat} {f : Array Value → Array Value} {r : PV} {v : Value} (H : HR G μ hp s) (hm : μ[j]? = some a) (hj : hp[j]? = some (.list vs))
    (ho : s.heap.get? a = some (lstO ws m)) (hf : f ws = ws') (rr : RepL μ s.heap vs' ws'.toList) (rv : Rep μ s.heap r v) (q : Q r (hp.set j (.list vs'))) :
    PE G μ s Q v { s with heap := s.heap.update a (Obj.mapSeq f) } := by
  obtain ⟨h1, h2⟩ := H.upd hm hj ho hf rr
  refine ⟨r, _, μ, q, H.rep h2 rv, h1, h2⟩

theorem ref_list {j : Nat} {vs : List PV} {v : Value} (H : HR G μ hp s) (r : Rep μ s.heap (.ref j) v) (hj : hp[j]? = some (.list vs)) :
    ∃ a ws m, v = .ref a ∧ μ[j]? = some a ∧ s.heap.get? a = some (lstO ws m) ∧ RepL μ s.heap vs ws.toList := by
  simp only [Rep] at r
  obtain ⟨a, rfl, hm⟩ := r
  obtain ⟨ws, m, e, rs⟩ := H.obj j a _ hm hj
  exact ⟨a, ws, m, rfl, hm, e, rs⟩

theorem RepL.set {h : Heap} : ∀ {ps : List PV} {vs : List Value} {p : PV} {v : Value} (k : Nat), RepL μ h ps vs → Rep μ h p v → RepL μ h (ps.set k p) (vs.set k v)
  | [], _, _, _, k, e, r => by simp only [RepL] at e; subst e; simp [RepL]
  | _ :: ps, _, _, _, 0, e, r => by
      simp only [RepL] at e
      obtain ⟨w, wr, rfl, _, rs⟩ := e
      exact ⟨_, wr, rfl, r, rs⟩
  | _ :: ps, _, _, _, k + 1, e, r => by
      simp only [RepL] at e
      obtain ⟨w, wr, rfl, r0, rs⟩ := e
      exact ⟨_, _, rfl, r0, RepL.set k rs r⟩
theorem RepL.eraseIdx {h : Heap} : ∀ {ps : List PV} {vs : List Value} (k : Nat), RepL μ h ps vs → RepL μ h (ps.eraseIdx k) (vs.eraseIdx k)
  | [], _, k, e => by simp only [RepL] at e; subst e; simp [RepL]
  | _ :: ps, _, 0, e => by
      simp only [RepL] at e
      obtain ⟨w, wr, rfl, _, rs⟩ := e
      simpa using rs
  | _ :: ps, _, k + 1, e => by
      simp only [RepL] at e
      obtain ⟨w, wr, rfl, r0, rs⟩ := e
      exact ⟨_, _, rfl, r0, RepL.eraseIdx k rs⟩
theorem RepL.dropLast {h : Heap} {ps : List PV} {vs : List Value} (r : RepL μ h ps vs) : RepL μ h ps.dropLast vs.dropLast := by
  rw [List.dropLast_eq_take, List.dropLast_eq_take, r.length]; exact r.take _

theorem op_del {o i : PV} {v w : Value} {hp' : Hp} {R : Hp → Prop} (H : HR G μ hp s) (ro : Rep μ s.heap o v) (ri : Rep μ s.heap i w) (e : delV hp o i = some hp') (q : R hp') :
    wpAny G.M A (delItem v w) (fun _ s' => ∃ hp', R hp' ∧ HR G μ hp' s' ∧ Stp G noOwn μ s μ s') (fun _ _ => False) s := by
  unfold delV at e
  split at e
  · rename_i j i
    split at e
    · rename_i hs
      obtain ⟨b1, b2⟩ := smallI_iff hs
      simp only [Rep] at ri; obtain ⟨u, rfl⟩ := ri
      split at e
      · rename_i vs hj
        split at e
        · rename_i hl
          obtain ⟨k, hk, rfl⟩ := Option.map_eq_some_iff.mp e
          obtain ⟨a, ws, m, rfl, hm, ho, rs⟩ := ref_list H ro hj
          have n1 : ws.size = vs.length := by simpa using rs.length
          refine PySem.P.delItem_list (n := m) (k := k) ho (by simp [Builtin.List.listFitsIndex]; omega) (by rw [idx_eq, n1]; exact hk) ?_ (big_fits (by omega))
          obtain ⟨h1, h2⟩ := H.upd (f := fun xs => xs.eraseIdxIfInBounds k) hm hj ho rfl (vs' := vs.eraseIdx k) (by
            have : (ws.eraseIdxIfInBounds k).toList = ws.toList.eraseIdx k := by
              unfold Array.eraseIdxIfInBounds
              split
              · simp
              · rename_i hh
                rw [List.eraseIdx_of_length_le]
                simpa using hh
            rw [this]; exact rs.eraseIdx k)
          exact ⟨_, q, h1, h2⟩
        · cases e
      · cases e
    · cases e
  · cases e

theorem list_setitem_pos (l : Addr) (items : Array Value) (n : Nat) (i : Int) (u : Tok) (v : Value) (k : Nat) (hfit : Builtin.List.listFitsIndex i = true) (hk : seqIndex? i items.size = some k) (hlt : k < items.size) (hs1 : items.size ≤ sizeLine) (h0 : 0 ≤ i) :
    Meets (Builtin.«list.__setitem__» ⟨[.ref l, .int i u, v], []⟩)
      (fun _ R s => s.heap.get? l = some { cls := .type "list", dict := none, data := .seq items n, slots := #[] } ∧ R (.ok (.ret .none)) { s with heap := s.heap.update l (Obj.mapSeq fun xs => xs.setIfInBounds k v) }) :=
  .of_wp fun prog w A R s h => by
    obtain ⟨ho, h⟩ := h
    have hd : ({ cls := .type "list", dict := none, data := .seq items n, slots := #[] } : Obj).data = .seq items n := rfl
    show wpAny _ _ (Builtin.List.listSubscript? (.int i u) >>= _) _ _ s
    refine wpAny_bind (wpAny_listSubscript_int hfit ?_)
    have hx' : items[k]? = some items[k] := Array.getElem?_eq_getElem hlt
    clear hfit
    obtain ⟨j, rfl⟩ := Int.eq_ofNat_of_zero_le h0
    have hj : k = j := by
      rw [idx_eq] at hk
      unfold idx at hk
      rw [if_pos h0] at hk
      split at hk
      · simp at hk; exact hk.symm
      · cases hk
    subst hj
    show wpAny _ _ ((seqItemAt l k >>= fun r => pure (r.map (k, ·))) >>= _) _ _ s
    refine wpAny_bind (wpAny_bind (wpAny_seqItemAt ho hd (wpAny_pure ?_)))
    rw [hx']
    show wpAny _ _ (setSeqItemAt l k v >>= _) _ _ s
    refine wpAny_bind (wpAny_setSeqItemAt ho hd ?_)
    first
      | exact wpAny_bind (wpAny_pure (wpAny_pure ⟨_, rfl, h⟩))
      | exact wpAny_pure ⟨_, rfl, h⟩

theorem list_setitem_neg (l : Addr) (items : Array Value) (n : Nat) (i : Int) (u : Tok) (v : Value) (k : Nat) (hfit : Builtin.List.listFitsIndex i = true) (hk : seqIndex? i items.size = some k) (hlt : k < items.size) (hs1 : items.size ≤ sizeLine) (h0 : i < 0) :
    Meets (Builtin.«list.__setitem__» ⟨[.ref l, .int i u, v], []⟩)
      (fun _ R s => s.heap.get? l = some { cls := .type "list", dict := none, data := .seq items n, slots := #[] } ∧ R (.ok (.ret .none)) { s with heap := s.heap.update l (Obj.mapSeq fun xs => xs.setIfInBounds k v) }) :=
  .of_wp fun prog w A R s h => by
    obtain ⟨ho, h⟩ := h
    have hd : ({ cls := .type "list", dict := none, data := .seq items n, slots := #[] } : Obj).data = .seq items n := rfl
    show wpAny _ _ (Builtin.List.listSubscript? (.int i u) >>= _) _ _ s
    refine wpAny_bind (wpAny_listSubscript_int hfit ?_)
    have hx' : items[k]? = some items[k] := Array.getElem?_eq_getElem hlt
    clear hfit
    obtain ⟨j, rfl⟩ := Int.eq_negSucc_of_lt_zero h0
    show wpAny _ _ ((Builtin.List.listItems (.ref l) >>= fun xs => pure ((seqIndex? (Int.negSucc j) xs.size).bind fun j => xs[j]?.map (j, ·))) >>= _) _ _ s
    refine wpAny_bind (wpAny_bind ?_)
    unfold Builtin.List.listItems
    refine wpAny_bind (wpAny_seqItems ho hd (wpAny_pure ?_))
    simp only [hk, hx', Option.bind_some, Option.map_some]
    refine wpAny_pure ?_
    show wpAny _ _ (setSeqItemAt l k v >>= _) _ _ s
    refine wpAny_bind (wpAny_setSeqItemAt ho hd ?_)
    first
      | exact wpAny_bind (wpAny_pure (wpAny_pure ⟨_, rfl, h⟩))
      | exact wpAny_pure ⟨_, rfl, h⟩

theorem op_store {o i x : PV} {v w y : Value} {hp' : Hp} {R : Hp → Prop} (H : HR G μ hp s) (ro : Rep μ s.heap o v) (ri : Rep μ s.heap i w) (rx : Rep μ s.heap x y) (e : storeV hp o i x = some hp') (q : R hp') :
    wpAny G.M A (setItem v w y) (fun _ s' => ∃ hp', R hp' ∧ HR G μ hp' s' ∧ Stp G noOwn μ s μ s') (fun _ _ => False) s := by
  unfold storeV at e
  split at e
  · rename_i j i
    split at e
    · rename_i hs
      obtain ⟨b1, b2⟩ := smallI_iff hs
      simp only [Rep] at ri; obtain ⟨u, rfl⟩ := ri
      split at e
      · rename_i vs hj
        split at e
        · rename_i hl
          obtain ⟨k, hk, rfl⟩ := Option.map_eq_some_iff.mp e
          obtain ⟨a, ws, m, rfl, hm, ho, rs⟩ := ref_list H ro hj
          have n1 : ws.size = vs.length := by simpa using rs.length
          have hfit : Builtin.List.listFitsIndex i = true := by simp [Builtin.List.listFitsIndex]; omega
          have hk' : seqIndex? i ws.size = some k := by rw [idx_eq, n1]; exact hk
          have hlt : k < ws.size := by rw [n1]; exact idx_lt hk
          have hsz : ws.size ≤ sizeLine := big_fits (by omega)
          have fin : ∃ hp', R hp' ∧ HR G μ hp' { s with heap := s.heap.update a (Obj.mapSeq fun xs => xs.setIfInBounds k y) } ∧ Stp G noOwn μ s μ { s with heap := s.heap.update a (Obj.mapSeq fun xs => xs.setIfInBounds k y) } := by
            obtain ⟨h1, h2⟩ := H.upd (f := fun xs => xs.setIfInBounds k y) hm hj ho rfl (vs' := vs.set k x) (by simpa using rs.set k rx)
            exact ⟨_, q, h1, h2⟩
          unfold setItem
          try with_reducible refine wpAny_holding ?_
          first | refine wpAny_bind (wpAny_pure ?_) | skip
          have hT : s.TypeIs (.ref a) "list" := ⟨_, ho, rfl⟩
          refine wpAny_bind (wpAny_sequenceKey hT (by decide) ?_)
          rcases Int.lt_or_le i 0 with h0 | h0
          · exact wpAny_bind (wpAny_callSpecial?_slot (name := Str.ofString "__setitem__") hT slot_list_setitem
              (call_meets slot_list_setitem hT entry_list_setitem (args_list_setitem _ _ _) (list_setitem_neg a ws m i u y k hfit hk' hlt hsz h0) ⟨ho, wpAny_pure fin⟩))
          · exact wpAny_bind (wpAny_callSpecial?_slot (name := Str.ofString "__setitem__") hT slot_list_setitem
              (call_meets slot_list_setitem hT entry_list_setitem (args_list_setitem _ _ _) (list_setitem_pos a ws m i u y k hfit hk' hlt hsz h0) ⟨ho, wpAny_pure fin⟩))
        · cases e
      · cases e
    · cases e
  · cases e

end

section
open PySem PySem.W PyProof.Rows
set_option linter.unusedVariables false
set_option linter.unusedSimpArgs false

variable {G : GI} {n : Nat} {A : Around} {μ : List Addr} {hp : Hp} {s : Shared} {Q : PV → Hp → Prop}
open Builtin Builtin.Str

/-! ## texts -/
theorem at_one (l : List Nat) (c hi i : Nat) : StrLaws.At ⟨l.toArray⟩ ⟨#[c]⟩ hi i ↔ i < hi ∧ l[i]? = some c := by
  unfold StrLaws.At
  have := StrLaws.subAt_one ⟨l.toArray⟩ c i
  have e : (⟨#[c]⟩ : Str).length = 1 := rfl
  have e2 : (⟨l.toArray⟩ : Str).length = l.length := by simp [Str.length]
  simp only [e, e2] at this ⊢
  constructor
  · rintro ⟨h1, h2⟩
    refine ⟨h1, ?_⟩
    rcases Nat.lt_or_ge i l.length with q | q
    · exact this.mp ⟨q, h2⟩
    · exfalso
      rw [StrLaws.subAt_eq] at h2
      simp at h2
      rw [List.drop_of_length_le q] at h2
      simp [Str.length] at h2
  · rintro ⟨h1, h2⟩
    exact ⟨h1, (this.mpr h2).2⟩

theorem occ_findC (l : List Nat) (c lo hi : Nat) : (match occurrences ⟨l.toArray⟩ ⟨#[c]⟩ lo hi 1 with | k :: _ => (k : Int) | [] => -1) = findC (l.take hi) c lo := by
  have none_case : (∀ i, lo ≤ i → i < hi → l[i]? ≠ some c) → findC (l.take hi) c lo = -1 := by
    intro h
    unfold findC
    have : ((l.take hi).drop lo).findIdx? (· == c) = none := by
      rw [List.findIdx?_eq_none_iff]
      intro x hx
      obtain ⟨k, hk⟩ := List.getElem?_of_mem hx
      rw [List.getElem?_drop] at hk
      rcases Nat.lt_or_ge (lo + k) hi with q | q
      · rw [List.getElem?_take_of_lt q] at hk
        have := h _ (Nat.le_add_right _ _) q
        rw [hk] at this
        simpa using this
      · rw [List.getElem?_take_eq_none q] at hk; cases hk
    rw [this]
  have some_case : ∀ i, lo ≤ i → i < hi → l[i]? = some c → (∀ k, lo ≤ k → k < i → l[k]? ≠ some c) → findC (l.take hi) c lo = (i : Int) := by
    intro i h1 h2 h3 h4
    unfold findC
    have hlen : i < l.length := (List.getElem?_eq_some_iff.mp h3).1
    have : ((l.take hi).drop lo).findIdx? (· == c) = some (i - lo) := by
      rw [List.findIdx?_eq_some_iff_getElem]
      refine ⟨by simp; omega, ?_, fun k hk => ?_⟩
      · simp only [List.getElem_drop, List.getElem_take, beq_iff_eq]
        have e : lo + (i - lo) = i := by omega
        have := List.getElem?_eq_some_iff.mp h3
        obtain ⟨_, q⟩ := this
        simp only [e]; exact q
      · simp only [List.getElem_drop, List.getElem_take, beq_iff_eq]
        intro q
        refine h4 (lo + k) (by omega) (by omega) ?_
        rw [List.getElem?_eq_getElem (by omega), q]
    rw [this]
    simp only []
    congr 1; omega
  rw [StrLaws.occ_eq]
  rcases StrLaws.occ_first ⟨l.toArray⟩ ⟨#[c]⟩ hi 1 (Nat.le_refl 1) (List.range' lo (hi + 1 - lo)) lo (fun i hi => by have := List.mem_range'_1.mp hi; omega) with ⟨h0, hn⟩ | ⟨pre, a, post, e, h0, ha, hn⟩
  · rw [h0]
    rw [none_case]
    intro i h1 h2 h3
    exact hn i (by rw [List.mem_range'_1]; omega) ((at_one l c hi i).mpr ⟨h2, h3⟩)
  · have hs := StrLaws.range'_split_from e
    obtain ⟨a1, a2⟩ := (at_one l c hi a).mp ha
    rw [some_case a hs.1 a1 a2 fun k h1 h2 h3 => hn k (hs.2 k h1 h2) ((at_one l c hi k).mpr ⟨by omega, h3⟩)]
    generalize (forIn (List.range' lo (hi + 1 - lo)) ((#[] : Array Nat), lo) (StrLaws.occBody ⟨l.toArray⟩ ⟨#[c]⟩ hi 1)).run.fst = arr at h0
    have h1 : arr.toList[0]? = some a := by simpa using h0
    cases hL : arr.toList with
    | nil => rw [hL] at h1; cases h1
    | cons b t => rw [hL] at h1; simp at h1; rw [h1]

theorem gives_find_to (x : List Nat) (c : Nat) (i j : Int) (t u v v' : Tok) (hi : 0 ≤ i) (hj : 0 ≤ j) (hl : j ≤ x.length) : Gives («str.find» ⟨[.str ⟨x.toArray⟩ t, .str ⟨#[c]⟩ u, .int i v, .int j v'], []⟩) (.int (findC (x.take j.toNat) c i.toNat)) := by
  rw [← occ_findC]
  show Gives (match occurrences ⟨x.toArray⟩ ⟨#[c]⟩ (fromIndex (⟨x.toArray⟩ : Str).length i) (min (fromIndex (⟨x.toArray⟩ : Str).length j) (⟨x.toArray⟩ : Str).length) 1 with | k :: _ => retInt k | [] => (do rule "str.find.not-found"; retInt (-1))) _
  have e1 : fromIndex (⟨x.toArray⟩ : Str).length i = i.toNat := by unfold fromIndex; rw [if_neg (by omega)]; omega
  have e2 : min (fromIndex (⟨x.toArray⟩ : Str).length j) (⟨x.toArray⟩ : Str).length = j.toNat := by
    unfold fromIndex; rw [if_neg (by omega)]
    have : (⟨x.toArray⟩ : Str).length = x.length := by simp [Str.length]
    omega
  rw [e1, e2]
  cases occurrences ⟨x.toArray⟩ ⟨#[c]⟩ i.toNat j.toNat 1 with
  | nil => exact .rule (.of_eq rfl)
  | cons k _ => exact .of_eq rfl

theorem call_find_to {x : List Nat} {c : Nat} {i j : Int} {t u v v' : Tok} {M : Program} {w : World} {E Q : Value → Shared → Prop} (hi : 0 ≤ i) (hj : 0 ≤ j) (hl : j ≤ x.length)
    (h : Q (.int (findC (x.take j.toNat) c i.toNat) s.toks) { s with toks := s.toks + 1 }) : wpAny (model M w) A (call (.builtin "str.find") [.str ⟨x.toArray⟩ t, .str ⟨#[c]⟩ u, .int i v, .int j v']) Q E s :=
  call_gives F.slot_str_find (typeIs_str _ _ _) F.entry_str_find (F.args_str_find_4 _ _ _ _) (gives_find_to x c i j t u v v' hi hj hl) h
theorem call_find_from {x : List Nat} {c : Nat} {i : Int} {t u v : Tok} {M : Program} {w : World} {E Q : Value → Shared → Prop} (hi : 0 ≤ i)
    (h : Q (.int (findC x c i.toNat) s.toks) { s with toks := s.toks + 1 }) : wpAny (model M w) A (call (.builtin "str.find") [.str ⟨x.toArray⟩ t, .str ⟨#[c]⟩ u, .int i v]) Q E s := by
  refine SC.find3 ?_
  have : Txt.find3 ⟨x.toArray⟩ ⟨#[c]⟩ i = findC x c i.toNat := by
    have := occ_findC x c i.toNat x.length
    rw [List.take_length] at this
    rw [← this]
    unfold Txt.find3
    have e1 : fromIndex (⟨x.toArray⟩ : Str).length i = i.toNat := by unfold fromIndex; rw [if_neg (by omega)]; omega
    have e2 : (⟨x.toArray⟩ : Str).length = x.length := by simp [Str.length]
    rw [e1, e2]
    cases occurrences ⟨x.toArray⟩ ⟨#[c]⟩ i.toNat x.length 1 <;> rfl
  rw [this]; exact h

theorem drop_takeWhile (p : Nat → Bool) : ∀ l : List Nat, l.drop (l.takeWhile p).length = l.dropWhile p
  | [] => rfl
  | x :: l => by
      by_cases h : p x = true
      · simp [List.takeWhile_cons, List.dropWhile_cons, h, drop_takeWhile p l]
      · simp [List.takeWhile_cons, List.dropWhile_cons, h]

theorem lstrip_eq (x : List Nat) (c : Nat) : Txt.lstripChars ⟨x.toArray⟩ ⟨#[c]⟩ = ⟨(x.dropWhile (· == c)).toArray⟩ := by
  have hp : ((⟨#[c]⟩ : Str).cps.contains) = fun d => d == c := by
    funext d
    show (#[c] : Array Nat).contains d = _
    by_cases h : c = d
    · subst h; simp
    · have h' : ¬ d = c := fun q => h q.symm
      simp [h, h']
  have hw : (x.takeWhile (fun d => d == c)).length ≤ x.length := List.Sublist.length_le (List.takeWhile_sublist _)
  have key : (⟨x.toArray.extract (x.takeWhile (fun d => d == c)).length x.length⟩ : Str) = ⟨(x.dropWhile (· == c)).toArray⟩ := by
    congr 1
    rw [← drop_takeWhile]
    apply Array.toList_inj.mp
    simp only [Array.toList_extract, List.extract_eq_take_drop]
    rw [List.take_of_length_le (by simp)]
  rw [← key]
  unfold Txt.lstripChars Txt.stripBy
  rw [hp]
  split
  · rename_i h
    simp only [stripSame, stripLo, stripHi, Bool.and_eq_true, beq_iff_eq, if_true] at h
    rw [show (x.takeWhile (fun d => d == c)).length = 0 from h.1]
    simp
  · simp only [PySem.stripped, stripLo, stripHi, if_true, if_false, Bool.false_eq_true]
    simp [strSub, Str.length]

theorem strs_rep {h : Heap} : ∀ {ps : List PV} {vs : List Value} {ts : List (List Nat)}, RepL μ h ps vs → strsOf ps = some ts → ∃ l : List (Str × Tok), vs = strValues l ∧ l.map (·.1) = ts.map fun t => ⟨t.toArray⟩
  | [], _, _, r, e => by
      simp only [RepL] at r; subst r
      simp only [strsOf] at e; cases e
      exact ⟨[], rfl, rfl⟩
  | p :: ps, _, ts, r, e => by
      simp only [RepL] at r
      obtain ⟨w, wr, rfl, r0, rs⟩ := r
      cases p <;> simp only [strsOf] at e <;> try (cases e; done)
      obtain ⟨ts', h1, rfl⟩ := Option.map_eq_some_iff.mp e
      obtain ⟨l, rfl, h2⟩ := strs_rep rs h1
      simp only [Rep] at r0; obtain ⟨t, rfl⟩ := r0
      exact ⟨(_, t) :: l, rfl, by simp [h2]⟩

theorem join_eq (sep : List Nat) : ∀ ts : List (List Nat), Str.join ⟨sep.toArray⟩ (ts.map fun t => (⟨t.toArray⟩ : Str)) = ⟨(joinL sep ts).toArray⟩
  | [] => rfl
  | [x] => rfl
  | x :: y :: r => by
      have ih := join_eq sep (y :: r)
      simp only [List.map_cons] at ih ⊢
      show (⟨x.toArray⟩ : Str) ++ ⟨sep.toArray⟩ ++ Str.join ⟨sep.toArray⟩ (⟨y.toArray⟩ :: r.map fun t => (⟨t.toArray⟩ : Str)) = _
      rw [ih]
      show (⟨x.toArray ++ sep.toArray ++ (joinL sep (y :: r)).toArray⟩ : Str) = _
      simp [joinL]

theorem joinL_weight (sep : List Nat) : ∀ ts : List (List Nat), (ts.map (·.length)).sum + ts.length * sep.length ≤ (joinL sep ts).length + sep.length
  | [] => by simp [joinL]
  | [x] => by simp [joinL]
  | x :: y :: r => by
      have ih := joinL_weight sep (y :: r)
      simp only [joinL, List.map_cons, List.sum_cons, List.length_cons, List.length_append] at ih ⊢
      have : (r.length + 1 + 1) * sep.length = (r.length + 1) * sep.length + sep.length := by rw [Nat.add_mul, Nat.one_mul]
      omega

theorem join_ok {sep : List Nat} {ts : List (List Nat)} (h1 : (joinL sep ts).length ≤ big) (h2 : sep.length ≤ big) : JoinOk ⟨sep.toArray⟩ (ts.map fun t => (⟨t.toArray⟩ : Str)) = true := by
  apply joinOk_of
  have := joinL_weight sep ts
  simp only [List.map_map, List.length_map]
  have e : ((fun x : Str => x.length) ∘ fun t : List Nat => (⟨t.toArray⟩ : Str)) = fun t => t.length := by funext t; simp [Str.length]
  have e2 : (⟨sep.toArray⟩ : Str).length = sep.length := by simp [Str.length]
  rw [e, e2]
  unfold big at h1 h2
  omega

theorem call_join {sep : List Nat} {ts : List (List Nat)} {a : Addr} {ws : Array Value} {m : Nat} {vs : List PV} {t : Tok} {M : Program} {w : World} {E Q : Value → Shared → Prop} (ho : s.heap.get? a = some (lstO ws m)) (rs : RepL μ s.heap vs ws.toList) (e : strsOf vs = some ts)
    (h1 : (joinL sep ts).length ≤ big) (h2 : sep.length ≤ big) (h : ∀ t' k, Q (.str ⟨(joinL sep ts).toArray⟩ t') { s with toks := k }) :
    wpAny (model M w) A (call (.builtin "str.join") [.str ⟨sep.toArray⟩ t, .ref a]) Q E s := by
  obtain ⟨l, h3, h4⟩ := strs_rep rs e
  refine SC.join (l := l) ⟨_, ho, rfl, m, ?_⟩ h4 (join_ok h1 h2) ?_
  · show Data.seq ws m = _
    congr 1
    apply Array.toList_inj.mp
    rw [h3]
  · intro t' k
    have : Txt.join ⟨sep.toArray⟩ (ts.map fun t => (⟨t.toArray⟩ : Str)) = ⟨(joinL sep ts).toArray⟩ := by
      unfold Txt.join
      rw [StrLaws.glued_eq_join, join_eq]
    rw [this]; exact h t' k

end

section
open PySem PySem.W PyProof.Rows
set_option linter.unusedVariables false
set_option linter.unusedSimpArgs false
set_option maxRecDepth 100000

variable {G : GI} {n : Nat} {A : Around} {μ : List Addr} {hp : Hp} {s : Shared} {Q : PV → Hp → Prop}

/-! what keeps all objects -/
theorem HR.ext {s' : Shared} (H : HR G μ hp s) (k : ∀ a o, s.heap.get? a = some o → s'.heap.get? a = some o) (ho : s'.os = s.os) (hg : s'.gens = s.gens) (ht : 1 ≤ s'.toks) : HR G μ hp s' := by
  have vk : VKeep μ s.heap s'.heap := fun a x e _ _ => k a x e
  refine ⟨fun a x e => k _ _ (H.base a x e), ?_, ho.trans H.os, hg ▸ H.gens, ht, H.nodup, H.len, H.low, fun i a m h1 h2 => ?_⟩
  · obtain ⟨ps, e, ht, hc⟩ := H.tab
    refine ⟨ps, k _ _ e, ht, fun pos c hp' => ?_⟩
    obtain ⟨a, o', q1, q2, q3⟩ := hc pos c hp'
    exact ⟨a, o', q1, k _ _ q2, q3⟩
  · have := H.obj i a m h1 h2
    cases m with
    | list vs => obtain ⟨ws, n, e, r⟩ := this; exact ⟨ws, n, k _ _ e, r.mono vk (Grow.refl _ _)⟩
    | obj => exact k _ _ this
    | hid => obtain ⟨ws, e⟩ := this; exact ⟨ws, k _ _ e⟩
theorem objs_le_of_keep {h h' : Heap} (k : ∀ a o, h.get? a = some o → h'.get? a = some o) (h1 : ∀ n, n = h.objs.size → 0 < n → h'.objs.size < n → False) : h.objs.size ≤ h'.objs.size := by
  rcases Nat.lt_or_ge h'.objs.size h.objs.size with q | q
  · exact (h1 _ rfl (by omega) q).elim
  · exact q

theorem op_len {args : List PV} {vals : List Value} {r : PV} (H : HR G μ hp s) (ra : RepL μ s.heap args vals) (e : bltV (Str.ofString "len") hp args = some r) (q : Q r hp) :
    wpAny G.M A (call (.builtin "len") vals) (PE G μ s Q) (fun _ _ => False) s := by
  have ht := H.toks
  simp only [bltV, if_true] at e
  have gen : ∀ (v : PV), args = [v] → ((contents hp v).bind fun vs => if vs.length ≤ big then some (PV.int vs.length) else none) = some r → wpAny G.M A (call (.builtin "len") vals) (PE G μ s Q) (fun _ _ => False) s := by
    rintro v rfl e
    simp only [RepL] at ra
    obtain ⟨w, wr, rfl, r0, rfl⟩ := ra
    obtain ⟨vs, hc, e⟩ := Option.bind_eq_some_iff.mp e
    split at e
    · rename_i hl
      cases e
      obtain ⟨a, ws, m, rfl, ho, rs⟩ := contents_rep H r0 hc
      have n1 : ws.size = vs.length := by simpa using rs.length
      unfold big at hl
      refine Calls.call_len_list ⟨_, ho, rfl, m, rfl⟩ (by omega) ?_
      rw [n1]
      exact PE_tok H (by omega) (by simp [Rep]) q
    · cases e
  split at e
  · rename_i l
    split at e
    · rename_i hl
      cases e
      simp only [RepL, Rep] at ra
      obtain ⟨w, wr, rfl, ⟨t, rfl⟩, rfl⟩ := ra
      unfold big at hl
      have e1 : (⟨l.toArray⟩ : Str).length = l.length := by simp [Str.length]
      refine PySem.P.len_str (by rw [e1]; omega) ?_
      rw [e1]
      exact PE_tok H (by omega) (by simp [Rep]) q
    · cases e
  · rename_i vs
    split at e
    · rename_i hl
      cases e
      simp only [RepL, Rep] at ra
      obtain ⟨w, wr, rfl, ⟨a, ws, rfl, ho, rs, _⟩, rfl⟩ := ra
      unfold big at hl
      have n1 : ws.size = vs.length := by simpa using rs.length
      refine call_len_meets (n := (vs.length : Nat)) (T := "tuple") ⟨_, ho, rfl⟩ F.slot_tuple_len F.entry_tuple_len (F.args_tuple_len_1 _) (AutoSeq1.tuple___len___tuple_0 a ws 0) (by omega) (by omega) (fun Q' h' => ⟨ho, by rw [n1]; exact h'⟩) ?_
      exact PE_tok H (by omega) (by simp [Rep]) q
    · cases e
  · rename_i v _ _; exact gen v rfl e
  · cases e

theorem op_chr {args : List PV} {vals : List Value} {r : PV} (H : HR G μ hp s) (ra : RepL μ s.heap args vals) (e : bltV (Str.ofString "chr") hp args = some r) (q : Q r hp) :
    wpAny G.M A (call (.builtin "chr") vals) (PE G μ s Q) (fun _ _ => False) s := by
  have ht := H.toks
  have n1 : ¬ Str.ofString "chr" = Str.ofString "len" := by decide
  simp only [bltV, if_true, if_neg n1] at e
  split at e
  · split at e
    · rename_i i hi
      cases e
      simp only [RepL, Rep] at ra
      obtain ⟨w, wr, rfl, ⟨t, rfl⟩, rfl⟩ := ra
      refine PySem.P.chr_of_int (by simp; omega) ?_
      exact PE_tok H (by omega) (by simp [Rep]) q
    · cases e
  · cases e

theorem tiny_iff {b : Int} (h : tinyI b = true) : -(2 : Int) ^ 40 < b ∧ b < (2 : Int) ^ 40 := by simpa [tinyI] using h
theorem rng_iff {a b c : Int} (h : rngOk a b c = true) : (-(2 : Int) ^ 40 < a ∧ a < (2 : Int) ^ 40) ∧ (-(2 : Int) ^ 40 < b ∧ b < (2 : Int) ^ 40) ∧ (c = 1 ∨ c = -1) := by
  simp only [rngOk, Bool.and_eq_true, Bool.or_eq_true, beq_iff_eq] at h
  exact ⟨tiny_iff h.1.1, tiny_iff h.1.2, h.2⟩

theorem PE_range {a b c : Int} {ta tb tc : Tok} {k : Nat} (H : HR G μ hp s) (hk : 1 ≤ k) (q : Q (.range a b c) hp) :
    PE G μ s Q (.ref s.heap.objs.size) { s with heap := s.heap.push { cls := .type "range", data := .fields #[.int a ta, .int b tb, .int c tc] }, toks := k } := by
  refine ⟨.range a b c, hp, μ, q, ?_, (H.push _).tok hk, (Stp.push _ _ _).trans (Stp.toks _ _ _)⟩
  simp only [Rep]
  exact ⟨_, ta, tb, tc, rfl, Heap.get?_push_size _ rfl⟩

theorem op_range {args : List PV} {vals : List Value} {r : PV} (H : HR G μ hp s) (ra : RepL μ s.heap args vals) (e : bltV (Str.ofString "range") hp args = some r) (q : Q r hp) :
    wpAny G.M A (call (.type "range") vals) (PE G μ s Q) (fun _ _ => False) s := by
  have ht := H.toks
  have n1 : ¬ Str.ofString "range" = Str.ofString "len" := by decide
  have n2 : ¬ Str.ofString "range" = Str.ofString "chr" := by decide
  simp only [bltV, if_true, if_neg n1, if_neg n2] at e
  split at e
  · split at e
    · cases e
      simp only [RepL, Rep] at ra
      obtain ⟨w, wr, rfl, ⟨t, rfl⟩, rfl⟩ := ra
      exact call_range_1 (PE_range H (by omega) q)
    · cases e
  · split at e
    · cases e
      simp only [RepL, Rep] at ra
      obtain ⟨w, wr, rfl, ⟨t, rfl⟩, _, _, rfl, ⟨u, rfl⟩, rfl⟩ := ra
      exact call_range_2 (PE_range H (by omega) q)
    · cases e
  · split at e
    · rename_i a b c hr
      cases e
      simp only [RepL, Rep] at ra
      obtain ⟨w, wr, rfl, ⟨t, rfl⟩, _, _, rfl, ⟨u, rfl⟩, _, _, rfl, ⟨v, rfl⟩, rfl⟩ := ra
      obtain ⟨_, _, h3⟩ := rng_iff hr
      exact call_range_3 (by omega) (PE_range H (by exact ht) q) (.inl (pylong_small (by rcases h3 with rfl | rfl <;> decide)))
    · cases e
  · cases e

theorem rangeSize_eq {a b c : Int} (h : c = 1 ∨ c = -1) : Builtin.Range.rangeSize a b c = ((rangeL a b c).length : Nat) := by
  unfold Builtin.Range.rangeSize rangeL
  rw [List.length_map, List.length_range]
  rcases h with rfl | rfl
  · simp only [show (1 : Int) > 0 by decide, if_true, Int.ediv_one]
    split <;> omega
  · have e : ¬ ((-1 : Int) > 0) := by decide
    have e' : ¬ ((0 : Int) < -1) := by decide
    simp only [if_neg e, if_neg e', show -(-1 : Int) = 1 by decide, Int.ediv_one]
    split <;> omega

theorem range_small {a b c : Int} (h : rngOk a b c = true) : Builtin.Range.small a b c = true := by
  obtain ⟨h1, h2, h3⟩ := rng_iff h
  have e := rangeSize_eq (a := a) (b := b) h3
  unfold Builtin.Range.small
  rw [e]
  have hl : (rangeL a b c).length ≤ 2 ^ 41 := by
    unfold rangeL
    rw [List.length_map, List.length_range]
    rcases h3 with rfl | rfl
    · simp only [show (0 : Int) < 1 by decide, if_true]; omega
    · simp only [show ¬ ((0 : Int) < -1) by decide, if_false]; omega
  rcases h3 with rfl | rfl
  · simp [Builtin.Range.rangeFitsLong]; omega
  · simp [Builtin.Range.rangeFitsLong]; omega

/-! object() -/
theorem mro_object' : mroOf (.type "object") = pure [.type "object"] := by rw [mroOf_type]; kernel_rfl
theorem lookup_object_new : typeLookup (.type "object") "__new__" = pure (some (.builtin "object.__new__")) := by rw [typeLookup_type, builtinLookup_eq_fast]; kernel_rfl
theorem called_object : TypeCalled "object" "object.__new__" "object.__init__" :=
  ⟨by decide +kernel, by decide +kernel, ⟨_, _, mro_object'⟩, madeBy_type mro_object' lookup_object_new (by decide +kernel), by decide +kernel, by rw [isSubtype_type]; kernel_rfl, F.slot_object_init⟩
theorem typeCall_object : checkTypeCall "object" ⟨[], []⟩ = pure () := by kernel_rfl
theorem newCall_object : checkBuiltinCall "object.__new__" ⟨[.type "object"], []⟩ = pure () := by kernel_rfl
theorem madeHere_object : Bind.madeHere "object.__new__" (.type "object") = pure () := by
  unfold Bind.madeHere
  have e : Bind.staticBase (.type "object") = pure (.type "object") := by first | rfl | kernel_rfl
  rw [e]
  simp only [pure_bind, called_object.made]
  first | rfl | kernel_rfl | (simp; rfl)
theorem meets_object_new : Meets (Builtin.«object.__new__» ⟨[.type "object"], []⟩) (fun _ R s => R (.ok (.ret (.ref s.heap.objs.size))) { s with heap := s.heap.push objO }) :=
  .of_wp fun prog w A R s h => by
    have hmh := madeHere_object
    unfold Builtin.«object.__new__»
    obtain ⟨hp, g, d, tk, os⟩ := s
    wp_walk
    exact ⟨_, rfl, h⟩

end

section
open PySem PySem.W PyProof.Rows
set_option linter.unusedVariables false
set_option linter.unusedSimpArgs false
set_option maxRecDepth 100000

variable {G : GI} {n : Nat} {A : Around} {μ : List Addr} {hp : Hp} {s : Shared} {Q : PV → Hp → Prop}

theorem object_init1 {T newId : String} {self : Value} (hl : typeLookup (.type T) "__init__" = pure (some (.builtin "object.__init__"))) :
    Meets (Builtin.«object.__init__» ⟨[self], []⟩) (fun _ R s => s.TypeIs self T ∧ R (.ok (.ret .none)) s) := by
  refine Meets.of_wp fun prog w A R s hs => ?_
  obtain ⟨hT, hq⟩ := hs
  exact wpAny_pure ⟨_, rfl, hq⟩

theorem op_object (hb : G.h0.objs.size ≤ s.heap.objs.size) (H : HR G μ hp s) (q : Q (.ref hp.length) (hp ++ [.obj])) : wpAny G.M A (call (.type "object") []) (PE G μ s Q) (fun _ _ => False) s := by
  refine callType_meets (Q₁ := fun obj s₁ => obj = .ref s.heap.objs.size ∧ s₁ = { s with heap := s.heap.push objO }) called_object typeCall_object newCall_object F.entry_object_new F.entry_object_init meets_object_new ⟨rfl, rfl⟩ fun obj s₁ h₁ => ?_
  obtain ⟨rfl, rfl⟩ := h₁
  have hT : ({ s with heap := s.heap.push objO } : Shared).TypeIs (.ref s.heap.objs.size) "object" := ⟨_, Heap.get?_push_size _ rfl, rfl⟩
  refine ⟨hT, F.args_object_init_1 _, _, object_init1 (T := "object") (newId := "object.__new__") F.slot_object_init.lookup, hT, rfl, ?_⟩
  refine ⟨_, _, _, q, ?_, H.track hb (m := .obj) (Heap.get?_push_size _ rfl), Stp.track _ _ _⟩
  simp only [Rep]
  exact ⟨_, rfl, by rw [← H.len]; simp⟩

theorem op_isa {v : PV} {x : Value} {t : Str} {b : Bool} (H : HR G μ hp s) (r : Rep μ s.heap v x) (e : isaV hp v t = some b) (q : Q (.bool b) hp) :
    ∃ T, (t = Str.ofString T ∧ (T = "list" ∨ T = "str")) ∧ wpAny G.M A (call (.builtin "isinstance") [x, .type T]) (PE G μ s Q) (fun _ _ => False) s := by
  have ht := H.toks
  have f0 : PE G μ s Q (.bool b) s := PE_here H (by simp [Rep]) q
  have f1 : PE G μ s Q (.bool b) { s with toks := s.toks + 1 } := PE_tok H (by omega) (by simp [Rep]) q
  unfold isaV at e
  split at e
  · rename_i h
    refine ⟨"list", ⟨h, .inl rfl⟩, ?_⟩
    unfold isList at e
    split at e
    · cases e; simp only [Rep] at r; obtain ⟨a, ws, m, rfl, ho, _⟩ := r
      exact IsiPair.list_list ho rfl f0
    · split at e
      · rename_i hj
        cases e
        obtain ⟨a, ws, m, rfl, _, ho, _⟩ := ref_list H r hj
        exact IsiPair.list_list ho rfl f0
      · cases e
    · cases e; simp only [Rep] at r; obtain ⟨u, rfl⟩ := r
      exact IsiPair.str_list f1
    · cases e; simp only [Rep] at r; subst r
      exact IsiPair.NoneType_list f1
    · cases e; simp only [Rep] at r; obtain ⟨a, ws, rfl, ho, _⟩ := r
      exact IsiPair.tuple_list ho rfl f1
    · cases e
  · split at e
    · rename_i h
      refine ⟨"str", ⟨h, .inr rfl⟩, ?_⟩
      unfold isStr at e
      split at e
      · cases e; simp only [Rep] at r; obtain ⟨u, rfl⟩ := r
        exact IsiPair.str_str f0
      · cases e; simp only [Rep] at r; obtain ⟨a, ws, m, rfl, ho, _⟩ := r
        exact IsiPair.list_str ho rfl f1
      · split at e
        · rename_i hj
          cases e
          obtain ⟨a, ws, m, rfl, _, ho, _⟩ := ref_list H r hj
          exact IsiPair.list_str ho rfl f1
        · cases e
      · cases e; simp only [Rep] at r; subst r
        exact IsiPair.NoneType_str f1
      · cases e; simp only [Rep] at r; obtain ⟨a, ws, rfl, ho, _⟩ := r
        exact IsiPair.tuple_str ho rfl f1
      · cases e
    · cases e

theorem RepL.of_get {h : Heap} : ∀ {ps : List PV} {vs : List Value}, vs.length = ps.length → (∀ (i : Nat) p v, ps[i]? = some p → vs[i]? = some v → Rep μ h p v) → RepL μ h ps vs
  | [], vs, hl, _ => by simp only [RepL]; exact List.eq_nil_of_length_eq_zero (by simpa using hl)
  | p :: ps, [], hl, _ => by simp at hl
  | p :: ps, v :: vs, hl, hg => by
      simp only [RepL]
      exact ⟨v, vs, rfl, hg 0 p v rfl rfl, RepL.of_get (by simpa using hl) fun i p' v' h1 h2 => hg (i + 1) p' v' (by simpa using h1) (by simpa using h2)⟩

theorem PE_ext_list {vs : List PV} {ws : Array Value} {m : Nat} {s' : Shared} (H : HR G μ hp s) (k : ∀ b o, s.heap.get? b = some o → s'.heap.get? b = some o) (ho : s'.os = s.os) (hg : s'.gens = s.gens) (ht : 1 ≤ s'.toks)
    (hn : s'.heap.get? s.heap.objs.size = some (lstO ws m)) (r : RepL μ s'.heap vs ws.toList) (q : Q (.list vs) hp) : PE G μ s Q (.ref s.heap.objs.size) s' := by
  refine ⟨.list vs, hp, μ, q, ?_, H.ext k ho hg ht, StpS.w ⟨fun a o e _ _ _ => k a o e, Grow.refl _ _, fun a o e => ⟨o, k a o e⟩⟩⟩
  simp only [Rep]
  exact ⟨_, ws, m, rfl, hn, fun hm => Nat.lt_irrefl _ (H.lt hm), r⟩

theorem op_list {args : List PV} {vals : List Value} {r : PV} (hh : A.handled = none) (H : HR G μ hp s) (ra : RepL μ s.heap args vals) (e : bltV (Str.ofString "list") hp args = some r) (q : Q r hp) :
    wpAny G.M A (call (.type "list") vals) (PE G μ s Q) (fun _ _ => False) s := by
  have ht := H.toks
  have n1 : ¬ Str.ofString "list" = Str.ofString "len" := by decide
  have n2 : ¬ Str.ofString "list" = Str.ofString "chr" := by decide
  have n3 : ¬ Str.ofString "list" = Str.ofString "range" := by decide
  simp only [bltV, if_true, if_neg n1, if_neg n2, if_neg n3] at e
  split at e
  · rename_i a b c
    obtain ⟨vs, e, rfl⟩ := Option.map_eq_some_iff.mp e
    unfold iterV at e
    simp only [] at e
    split at e
    · rename_i hr
      cases e
      simp only [RepL, Rep] at ra
      obtain ⟨w, wr, rfl, ⟨rr, ta, tb, tc, rfl, ho⟩, rfl⟩ := ra
      obtain ⟨h1, h2⟩ := hr
      obtain ⟨_, _, h3⟩ := rng_iff h1
      refine wtk ht (call_list_range hh ho (range_small h1) (rangeSize_eq h3) (by unfold big at h2; omega) fun h' tk acc' c' hk hS hI => fun hk1 => ?_)
      refine PE_ext_list (ws := acc') H hk rfl rfl hk1 hS ?_ q
      refine RepL.of_get (by simp [hI.1]) fun i p v hp' hv => ?_
      obtain ⟨x, hx, rfl⟩ := List.getElem?_map .. ▸ hp' |> Option.map_eq_some_iff.mp
      obtain ⟨t, ht'⟩ := hI.2 i v (by simpa using hv)
      simp only [Rep]
      refine ⟨t, ?_⟩
      rw [ht']
      unfold rangeL at hx
      rw [List.getElem?_map] at hx
      obtain ⟨k, hk2, rfl⟩ := Option.map_eq_some_iff.mp hx
      have := List.getElem?_eq_some_iff.mp hk2
      obtain ⟨_, hk3⟩ := this
      rw [List.getElem_range] at hk3
      rw [hk3]
    · cases e
  · rename_i l
    split at e
    · rename_i hl
      cases e
      simp only [RepL, Rep] at ra
      obtain ⟨w, wr, rfl, ⟨t, rfl⟩, rfl⟩ := ra
      refine wtk ht (call_list_str hh ⟨l.toArray⟩ t (hn := big_fits (by simpa using hl)) fun h' tk acc' c' hk hS hI => fun hk1 => ?_)
      refine PE_ext_list (ws := acc') H hk rfl rfl hk1 hS ?_ q
      refine RepL.of_get (by simp [hI.1, charsOf]) fun i p v hp' hv => ?_
      unfold charsOf at hp'
      rw [List.getElem?_map] at hp'
      obtain ⟨x, hx, rfl⟩ := Option.map_eq_some_iff.mp hp'
      obtain ⟨c, u, h1, rfl⟩ := hI.2 i v (by simpa using hv)
      have h1' : l[i]? = some c := by simpa using h1
      rw [hx] at h1'
      cases h1'
      simp [Rep]
    · cases e
  · cases e

theorem replC_free (c : Nat) (z : List Nat) : ∀ l : List Nat, c ∉ l → replC l c z = l
  | [], _ => rfl
  | x :: l, h => by
      have hx : ¬ x = c := fun e => h (e ▸ List.mem_cons_self ..)
      have ih := replC_free c z l fun m => h (List.mem_cons_of_mem _ m)
      unfold replC at ih ⊢
      rw [List.flatMap_cons, ih, if_neg hx]; rfl
theorem replC_app (c : Nat) (z a b : List Nat) : replC (a ++ b) c z = replC a c z ++ replC b c z := by
  unfold replC; rw [List.flatMap_append]
theorem replC_join (c : Nat) (z : Str) : ∀ parts : List Str, (∀ p ∈ parts, c ∉ p.cps.toList) → replC (Str.join ⟨#[c]⟩ parts).cps.toList c z.cps.toList = (Str.join z parts).cps.toList
  | [], _ => rfl
  | [p], h => replC_free c _ _ (h p (List.mem_singleton.mpr rfl))
  | p :: q :: r, h => by
    have ih := replC_join c z (q :: r) fun a ha => h a (List.mem_cons_of_mem _ ha)
    show replC (p ++ ⟨#[c]⟩ ++ Str.join ⟨#[c]⟩ (q :: r)).cps.toList c _ = (p ++ z ++ Str.join z (q :: r)).cps.toList
    simp only [Str.cps_append, Array.toList_append]
    rw [replC_app, replC_app, ih, replC_free c _ _ (h p (List.mem_cons_self ..))]
    simp [replC]

theorem op_replace {x : List Nat} {a b : Str} {c : Nat} {t u v : Tok} (H : HR G μ hp s) (hu : u ≠ 0) (hv : v ≠ 0) (huv : u ≠ v) (ha : a.cps.toList = [c]) (hab : b ≠ a) (hx : x.length ≤ 100000) (hz : b.cps.size ≤ 8) (q : Q (.str (replC x c b.cps.toList)) hp) :
    wpAny G.M A (call (.builtin "str.replace") [.str ⟨x.toArray⟩ t, .str a u, .str b v]) (PE G μ s Q) (fun _ _ => False) s := by
  have ht := H.toks
  have ea : a = ⟨#[c]⟩ := by
    obtain ⟨⟨l⟩⟩ := a
    simp at ha; subst ha; rfl
  subst ea
  refine wtk ht (SC.replaceW hu hv huv (by simpa using Ne.symm hab) (by simp [Str.length]; omega) (by show b.cps.size ≤ 14; omega) fun t' k => fun hk => ?_)
  refine PE_tok H hk ?_ q
  simp only [Rep]
  refine ⟨t', ?_⟩
  congr 1
  have := replC_join c b (Txt.split ⟨x.toArray⟩ ⟨#[c]⟩) (StrLaws.split_free _ c)
  rw [StrLaws.join_split] at this
  rw [StrLaws.replace_one]
  generalize Str.join b (Txt.split ⟨x.toArray⟩ ⟨#[c]⟩) = y at this ⊢
  obtain ⟨⟨y⟩⟩ := y
  simp at this
  rw [← this]

end

section
open PySem PySem.W PyProof.Rows
set_option linter.unusedVariables false
set_option linter.unusedSimpArgs false
set_option maxRecDepth 100000

variable {G : GI} {n : Nat} {A : Around} {μ : List Addr} {hp : Hp} {s : Shared} {Q : PV → Hp → Prop}

/-! methods -/
def methId (m : Str) : String :=
  if m = Str.ofString "append" then "list.append" else if m = Str.ofString "extend" then "list.extend" else if m = Str.ofString "insert" then "list.insert"
  else if m = Str.ofString "pop" then "list.pop" else if m = Str.ofString "find" then "str.find" else if m = Str.ofString "lstrip" then "str.lstrip" else "str.join"

def methT (m : Str) : String := if m = Str.ofString "find" ∨ m = Str.ofString "lstrip" ∨ m = Str.ofString "join" then "str" else "list"
theorem recv_ok {m : Str} {o : PV} {v : Value} (hm : methNames.contains m = true) (H : HR G μ hp s) (ro : Rep μ s.heap o v) (e : recv m hp o) :
    s.TypeIs v (methT m) ∧ PlainAttrs (methT m) ∧ Slot (methT m) m (methId m) ∧ typeOf (.builtin (methId m)) = pure (.type "method_descriptor") ∧ ∀ a, v = .ref a → ∃ ob, s.heap.get? a = some ob ∧ ob.dict = none := by
  unfold recv at e
  have lst : (contents hp o).isSome = true → s.TypeIs v "list" ∧ ∀ a, v = .ref a → ∃ ob, s.heap.get? a = some ob ∧ ob.dict = none := by
    intro h
    obtain ⟨vs, hc⟩ := Option.isSome_iff_exists.mp h
    obtain ⟨a, ws, k, rfl, ho, _⟩ := contents_rep H ro hc
    exact ⟨⟨_, ho, rfl⟩, fun a' e => by cases e; exact ⟨_, ho, rfl⟩⟩
  have str : (∃ l, o = .str l) → s.TypeIs v "str" ∧ ∀ a, v = .ref a → ∃ ob, s.heap.get? a = some ob ∧ ob.dict = none := by
    rintro ⟨l, rfl⟩
    simp only [Rep] at ro; obtain ⟨t, rfl⟩ := ro
    exact ⟨typeIs_str _ _ _, fun a e => by cases e⟩
  have hm' : m = Str.ofString "append" ∨ m = Str.ofString "extend" ∨ m = Str.ofString "insert" ∨ m = Str.ofString "pop" ∨ m = Str.ofString "find" ∨ m = Str.ofString "lstrip" ∨ m = Str.ofString "join" := by
    simpa [methNames] using hm
  rcases hm' with rfl | rfl | rfl | rfl | rfl | rfl | rfl
  · rw [if_neg (by decide)] at e
    exact ⟨(lst e).1, F.plainAttrs_list, F.slot_list_append, F.type_list_append, (lst e).2⟩
  · rw [if_neg (by decide)] at e
    exact ⟨(lst e).1, F.plainAttrs_list, F.slot_list_extend, F.type_list_extend, (lst e).2⟩
  · rw [if_neg (by decide)] at e
    exact ⟨(lst e).1, F.plainAttrs_list, F.slot_list_insert, F.type_list_insert, (lst e).2⟩
  · rw [if_neg (by decide)] at e
    exact ⟨(lst e).1, F.plainAttrs_list, F.slot_list_pop, F.type_list_pop, (lst e).2⟩
  · rw [if_pos (by decide)] at e
    replace e : ∃ l, o = .str l := by cases o <;> simp at e ⊢
    exact ⟨(str e).1, F.plainAttrs_str, F.slot_str_find, F.type_str_find, (str e).2⟩
  · rw [if_pos (by decide)] at e
    replace e : ∃ l, o = .str l := by cases o <;> simp at e ⊢
    exact ⟨(str e).1, F.plainAttrs_str, F.slot_str_lstrip, F.type_str_lstrip, (str e).2⟩
  · rw [if_pos (by decide)] at e
    replace e : ∃ l, o = .str l := by cases o <;> simp at e ⊢
    exact ⟨(str e).1, F.plainAttrs_str, F.slot_str_join, F.type_str_join, (str e).2⟩

theorem op_meth {m : Str} {o : PV} {ps : List PV} {v : Value} {vals : List Value} {r : PV × Hp} (R : Room n A) (H : HR G μ hp s) (ro : Rep μ s.heap o v) (rs : RepL μ s.heap ps vals) (e : methV m hp o ps = some r) (q : Q r.1 r.2) :
    wpAny G.M A (call (.builtin (methId m)) (v :: vals)) (PE G μ s Q) (fun _ _ => False) s := by
  have ht := H.toks
  unfold methV at e
  split at e
  · rename_i h; subst h
    show wpAny G.M A (call (.builtin "list.append") (v :: vals)) _ _ _
    split at e
    · rename_i j x
      split at e
      · rename_i vs hj
        split at e
        · rename_i hl
          cases e
          obtain ⟨a, ws, k, rfl, hm, ho, rl⟩ := ref_list H ro hj
          have n1 : ws.size = vs.length := by simpa using rl.length
          simp only [RepL] at rs
          obtain ⟨w, wr, rfl, rw', rfl⟩ := rs
          refine call_meets F.slot_list_append ⟨_, ho, rfl⟩ F.entry_list_append (F.args_list_append_2 _ _) (list_append a ws k w (big_fits (by omega))) ⟨ho, ?_⟩
          exact PE_upd (f := fun xs => xs.push w) H hm hj ho rfl (by simpa using rl.append (RepL.one rw')) (by simp [Rep]) q
        · cases e
      · cases e
    · cases e
  split at e
  · rename_i h0 h; subst h
    show wpAny G.M A (call (.builtin "list.extend") (v :: vals)) _ _ _
    split at e
    · rename_i j x
      split at e
      · rename_i vs ws2 hj hc
        split at e
        · rename_i hl
          cases e
          obtain ⟨a, ws, k, rfl, hm, ho, rl⟩ := ref_list H ro hj
          have n1 : ws.size = vs.length := by simpa using rl.length
          simp only [RepL] at rs
          obtain ⟨w, wr, rfl, rw', rfl⟩ := rs
          obtain ⟨b, wb, kb, rfl, hob, rb⟩ := contents_rep H rw' hc
          have n2 : wb.size = ws2.length := by simpa using rb.length
          refine call_meets F.slot_list_extend ⟨_, ho, rfl⟩ F.entry_list_extend (F.args_list_extend_2 _ _) (AutoSeq1.list_extend_list_list_0 a ws k b wb kb ?_ (big_fits (by omega)) (Nat.le_succ_of_le (big_fits (by omega)))) ⟨ho, hob, ?_⟩
          · have := big_fits (k := ws.size + wb.size) (by omega)
            simp [Builtin.List.listTooLong]; intro _; exact this
          · exact PE_upd (f := fun xs => xs ++ wb) H hm hj ho rfl (by simpa using rl.append rb) (by simp [Rep]) q
        · cases e
      · cases e
    · cases e
  split at e
  · rename_i h0 h1 h; subst h
    show wpAny G.M A (call (.builtin "list.insert") (v :: vals)) _ _ _
    split at e
    · rename_i j x
      split at e
      · rename_i vs hj
        split at e
        · rename_i hl
          cases e
          obtain ⟨a, ws, k, rfl, hm, ho, rl⟩ := ref_list H ro hj
          have n1 : ws.size = vs.length := by simpa using rl.length
          simp only [RepL] at rs
          obtain ⟨w0, wr0, rfl, r0, w, wr, rfl, rw', rfl⟩ := rs
          simp only [Rep] at r0; obtain ⟨t0, rfl⟩ := r0
          refine call_meets F.slot_list_insert ⟨_, ho, rfl⟩ F.entry_list_insert (F.args_list_insert_3 _ _ _) (AutoSeq1.list_insert_list_int_val_1 a ws k 0 t0 w (by decide) (big_fits (by omega))) ⟨ho, ?_⟩
          refine PE_upd (ws' := #[w] ++ ws) H hm hj ho ?_ ?_ (by simp [Rep]) q
          · apply Array.toList_inj.mp; simp
          · simp only [Array.toList_append]; exact (RepL.one rw').append rl
        · cases e
      · cases e
    · cases e
  split at e
  · rename_i h0 h1 h2 h; subst h
    show wpAny G.M A (call (.builtin "list.pop") (v :: vals)) _ _ _
    split at e
    · rename_i j
      split at e
      · rename_i vs hj
        split at e
        · rename_i x hx
          split at e
          · rename_i hl
            cases e
            obtain ⟨a, ws, k, rfl, hm, ho, rl⟩ := ref_list H ro hj
            have n1 : ws.size = vs.length := by simpa using rl.length
            simp only [RepL] at rs
            subst rs
            rw [List.getLast?_eq_getElem?] at hx
            obtain ⟨w, hw, rw'⟩ := rl.get hx
            refine call_meets F.slot_list_pop ⟨_, ho, rfl⟩ F.entry_list_pop (F.args_list_pop_1 _) (MeetsSeq.list_pop_last a ws k w (by rw [n1]; simpa using hw) (big_fits (by omega))) ⟨ho, ?_⟩
            have e2 : (ws.eraseIdxIfInBounds (ws.size - 1)).toList = ws.toList.dropLast := by
              have hpos : 0 < ws.size := by
                rcases Nat.eq_zero_or_pos vs.length with q0 | q0
                · have : vs = [] := List.eq_nil_of_length_eq_zero q0
                  subst this; simp at hx
                · omega
              unfold Array.eraseIdxIfInBounds
              rw [dif_pos (by omega)]
              simp [List.eraseIdx_eq_take_drop_succ, List.dropLast_eq_take]
              omega
            exact PE_upd (f := fun xs => xs.eraseIdxIfInBounds (ws.size - 1)) H hm hj ho rfl (by rw [e2]; exact rl.dropLast) rw' q
          · cases e
        · cases e
      · cases e
    · cases e
  split at e
  · rename_i h0 h1 h2 h3 h; subst h
    show wpAny G.M A (call (.builtin "str.find") (v :: vals)) _ _ _
    split at e
    · split at e
      · rename_i hl
        cases e
        simp only [Rep] at ro; obtain ⟨t, rfl⟩ := ro
        simp only [RepL, Rep] at rs
        obtain ⟨_, _, rfl, ⟨t1, rfl⟩, _, _, rfl, ⟨t2, rfl⟩, rfl⟩ := rs
        exact call_find_from hl.1 (PE_tok H (by omega) (by simp [Rep]) q)
      · cases e
    · split at e
      · rename_i hl
        cases e
        simp only [Rep] at ro; obtain ⟨t, rfl⟩ := ro
        simp only [RepL, Rep] at rs
        obtain ⟨_, _, rfl, ⟨t1, rfl⟩, _, _, rfl, ⟨t2, rfl⟩, _, _, rfl, ⟨t3, rfl⟩, rfl⟩ := rs
        exact call_find_to hl.1 hl.2.1 hl.2.2.2.1 (PE_tok H (by omega) (by simp [Rep]) q)
      · cases e
    · cases e
  split at e
  · rename_i h0 h1 h2 h3 h4 h; subst h
    show wpAny G.M A (call (.builtin "str.lstrip") (v :: vals)) _ _ _
    split at e
    · rename_i x c
      split at e
      · rename_i hl
        cases e
        simp only [Rep] at ro; obtain ⟨t, rfl⟩ := ro
        simp only [RepL, Rep] at rs
        obtain ⟨_, _, rfl, ⟨t1, rfl⟩, rfl⟩ := rs
        refine wtk ht (SC.lstripChars (fun t' k => fun hk => PE_tok H hk ?_ q) (big_fits (by simpa [Str.length] using hl)))
        simp only [Rep]
        exact ⟨t', by rw [← lstrip_eq]⟩
      · cases e
    · cases e
  split at e
  · rename_i h0 h1 h2 h3 h4 h5 h; subst h
    show wpAny G.M A (call (.builtin "str.join") (v :: vals)) _ _ _
    split at e
    · rename_i x w
      obtain ⟨vs, hc, e⟩ := Option.bind_eq_some_iff.mp e
      obtain ⟨ts, hs, e⟩ := Option.bind_eq_some_iff.mp e
      split at e
      · rename_i hl
        cases e
        simp only [Rep] at ro; obtain ⟨t, rfl⟩ := ro
        simp only [RepL] at rs
        obtain ⟨w1, wr, rfl, r1, rfl⟩ := rs
        obtain ⟨a, ws, k, rfl, ho, rl⟩ := contents_rep H r1 hc
        refine wtk ht (call_join ho rl hs hl.1 hl.2.1 fun t' k => fun hk => PE_tok H hk (by simp [Rep]) q)
      · cases e
    · cases e
  · cases e

end

section
open PySem PySem.W PyProof.Rows
open Sem (wp)
set_option linter.unusedVariables false
set_option linter.unusedSimpArgs false
set_option maxRecDepth 100000

theorem slot_md_get : Slot "method_descriptor" "__get__" "method_descriptor.__get__" :=
  .of (owner := "method_descriptor") (n := "__get__") (by rw [typeLookup_type, builtinLookup_eq_fast]; kernel_rfl) (by decide +kernel) (by decide +kernel) (by decide +kernel)
    (by first | exact .inl (by decide +kernel) | exact .inr (by decide +kernel)) (by rw [isSubtype_type]; kernel_rfl)
theorem entry_md_get : entryFor table "method_descriptor.__get__" = some Builtin.«method_descriptor.__get__» := entryFor_of_tree (by kernel_rfl)
theorem args_md_get (a b c : Value) : argsOk "method_descriptor.__get__" ⟨[a, b, c], []⟩ := by unfold argsOk; kernel_rfl
theorem md_set : typeLookup (.type "method_descriptor") "__set__" = pure none := by rw [typeLookup_type, builtinLookup_eq_fast]; kernel_rfl
theorem md_del : typeLookup (.type "method_descriptor") "__delete__" = pure none := by rw [typeLookup_type, builtinLookup_eq_fast]; kernel_rfl
theorem told_append : Manifest.toldItsClass.contains "list.append" = false := by decide +kernel
theorem owner_append : (".".intercalate ("list.append".cutAt '.').dropLast) = "list" := by
  have e0 : "list.append".cutAt '.' = ["list", "append"] := by first | rfl | decide +kernel
  rw [e0]; decide +kernel
theorem last_append : ("list.append".cutAt '.').getLastD "" = "append" := by
  have e0 : "list.append".cutAt '.' = ["list", "append"] := by first | rfl | decide +kernel
  rw [e0]; rfl
section
variable {prog : Program} {w : World} {A : Around} {E : Value → Shared → Prop} {h : Heap} {g : Array GenState} {d : Drawn} {t : Nat} {os : OsState} {a : Addr} {o : Obj} {ws : Array Value} {m : Nat}

theorem append_get {R : Result → Shared → Prop} (hx : h.get? a = some o) (hc : o.cls = .type "list") (hq : R (.ok (.ret (.ref h.objs.size))) ⟨h.push (appO a), g, d, t, os⟩) :
    codeAny (model prog w) A (.call (.builtin "method_descriptor.__get__") ⟨[.builtin "list.append", .ref a, .type "list"], []⟩) R ⟨h, g, d, t, os⟩ := by
  have hT : (⟨h, g, d, t, os⟩ : Shared).TypeIs (.ref a) "list" := ⟨_, hx, hc⟩
  have hT5 : (⟨h, g, d, t, os⟩ : Shared).TypeIs (.builtin "list.append") "method_descriptor" := F.type_list_append
  have f8 := F.sub_list_list
  refine codeAny_call_builtin slot_md_get.plain entry_md_get (slot_md_get.check _ _ _ _ _ _ _ _ hT5 (args_md_get _ _ _) ?_)
  have f1 := told_append
  have f2 := owner_append
  have f3 := last_append
  unfold Builtin.«method_descriptor.__get__»
  refine wpAny_bind (wpAny_pure (a := (Value.builtin "list.append", some (Value.ref a), some (Value.type "list"))) ?_)
  simp only [f1, Bool.false_eq_true, if_false]
  refine wpAny_bind ?_
  · refine wpAny_bind (wpAny_of_eq (a := ((Str.ofString "append" : Str), Value.type "list")) (by kernel_rfl) ?_)
    refine wpAny_bind (wpAny_isInstance hT f8 ?_)
    refine wpAny_pure ?_
    refine wpAny_bind (wpAny_newObj_type ?_)
    exact wpAny_pure hq

theorem lk_list_append : typeLookup (.type "list") "append" = pure (some (.builtin "list.append")) := F.slot_list_append.lookup

theorem append_entry {tk : Tok} {Q : Fin → Shared → Prop} (hx : h.get? a = some (lstO ws m)) (hq : Q (.done (.ret (.ref h.objs.size))) ⟨h.push (appO a), g, d, t, os⟩) :
    wpAny (model prog w) A (Builtin.«object.__getattribute__» ⟨[.ref a, .str "append" tk], []⟩) Q E ⟨h, g, d, t, os⟩ := by
  have hT : (⟨h, g, d, t, os⟩ : Shared).TypeIs (.ref a) "list" := ⟨_, hx, rfl⟩
  have hT5 : (⟨h, g, d, t, os⟩ : Shared).TypeIs (.builtin "list.append") "method_descriptor" := F.type_list_append
  have f4 := lk_list_append
  have f5 := F.type_list_append
  have f6 := slot_md_get.lookup
  have f7 := md_set
  have f8 := md_del
  repeat (any_goals (first | assumption | wp_step))
  refine append_get hx rfl ?_
  repeat (any_goals (first | assumption | wp_step))

theorem append_call {tk : Tok} {R : Result → Shared → Prop} (hx : h.get? a = some (lstO ws m)) (hq : R (.ok (.ret (.ref h.objs.size))) ⟨h.push (appO a), g, d, t, os⟩) :
    codeAny (model prog w) A (.call (.builtin "list.__getattribute__") ⟨[.ref a, .str "append" tk], []⟩) R ⟨h, g, d, t, os⟩ :=
  codeAny_call_builtin F.slot_list_getattribute.plain F.entry_list_ga (F.slot_list_getattribute.check _ _ _ _ _ _ _ _ (show (⟨h, g, d, t, os⟩ : Shared).TypeIs (.ref a) "list" from ⟨_, hx, rfl⟩) (F.args_list_getattribute_2 _ _) (append_entry hx hq))

theorem append_by {tk : Tok} {Q : Value → Shared → Prop} (hx : h.get? a = some (lstO ws m)) (hq : Q (.ref h.objs.size) ⟨h.push (appO a), g, d, t, os⟩) :
    wpAny (model prog w) A (getAttrBy (.ref a) (.str "append" tk) true true) Q E ⟨h, g, d, t, os⟩ := by
  have hT : (⟨h, g, d, t, os⟩ : Shared).TypeIs (.ref a) "list" := ⟨_, hx, rfl⟩
  have f2 := F.slot_list_getattribute.lookup
  have f3 := F.slot_list_getattribute.bind (.ref a)
  repeat (any_goals (first | assumption | wp_step))
  refine append_call hx ?_
  repeat (any_goals (first | assumption | wp_step))
end

variable {G : GI} {n : Nat} {A : Around} {μ : List Addr} {hp : Hp} {s : Shared} {Q : PV → Hp → Prop}
theorem op_attr {j : Nat} {v : Value} (H : HR G μ hp s) (r : Rep μ s.heap (.ref j) v) (hc : (contents hp (.ref j)).isSome = true) (q : Q (.app j) hp) :
    wpAny G.M A (getAttr v (Str.ofString "append") true) (PE G μ s Q) (fun _ _ => False) s := by
  have ht := H.toks
  obtain ⟨vs, hc⟩ := Option.isSome_iff_exists.mp hc
  obtain ⟨a, ws, m, rfl, hm, ho, _⟩ := ref_list H r (contents_ref hc)
  obtain ⟨h, g, d, t, os⟩ := s
  unfold getAttr
  refine wpAny_bind (wpAny_mkText (append_by ho ?_))
  refine ⟨.app j, hp, μ, q, ?_, (H.push (appO a)).tok (k := t + 1) (by show 1 ≤ t + 1; omega), (Stp.push _ _ _).trans (Stp.toks _ _ _)⟩
  simp only [Rep]
  exact ⟨_, a, rfl, Heap.get?_push_size _ rfl, hm⟩

theorem sub_list_module : isSubtype (.type "list") (.type "module") = pure false := by rw [isSubtype_type]; kernel_rfl
theorem sub_list_type : isSubtype (.type "list") (.type "type") = pure false := by rw [isSubtype_type]; kernel_rfl
theorem kind_list_append : builtinKind "list.append" = some .method := by decide +kernel
theorem var_list_append : Manifest.varargsMethods.contains "list.append" = false := by decide +kernel

theorem check_bound (a : Addr) (v : Value) {ws : Array Value} {m : Nat} {E : Value → Shared → Prop} {Q : Unit → Shared → Prop} {prog : Program} {w : World} (ho : s.heap.get? a = some (lstO ws m)) (h : Q () s) :
    wpAny (model prog w) A (checkBoundCall "list.append" ⟨[.ref a, v], []⟩) Q E s := by
  have hT : s.TypeIs (.ref a) "list" := ⟨_, ho, rfl⟩
  unfold checkBoundCall
  rw [signature?_of (id := "list.append") (n := ['d', 'n', 'e', 'p', 'p', 'a']) (o := ['t', 's', 'i', 'l']) (by kernel_rfl) F.owner_list]
  have e : Manifest.sig_list.lookup (String.ofList ['d', 'n', 'e', 'p', 'p', 'a'].reverse) = some ⟨.oneArg, "list.append", "append", .self, [⟨"object", .posOnly, true⟩]⟩ := by kernel_rfl
  rw [e]
  simp only [kind_list_append]
  rw [if_neg (by decide)]
  refine wpAny_bind (wpAny_isInstance hT sub_list_module ?_)
  rw [if_neg (by rw [var_list_append]; decide)]
  unfold isType loadHead
  refine wpAny_bind (wpAny_bind (wpAny_loadPart ho (wpAny_pure ?_)))
  refine wpAny_bind (wpAny_typeOf hT ?_)
  exact wpAny_of_eq (a := ()) (by kernel_rfl) h

theorem call_app {b a : Addr} {w : Value} (hb : s.heap.get? b = some (appO a)) {ws : Array Value} {m : Nat} (ho : s.heap.get? a = some (lstO ws m)) {E Q : Value → Shared → Prop} {prog : Program} {wd : World}
    (hz : ws.size ≤ sizeLine) (h : Q .none { s with heap := s.heap.update a (Obj.mapSeq fun xs => xs.push w) }) : wpAny (model prog wd) A (call (.ref b) [w]) Q E s := by
  refine wpAny_call (codeAny_of_tree ?_)
  show wpAny _ _ (callAny (.ref b) ⟨[w], []⟩) _ _ _
  unfold callAny
  refine wpAny_bind (wpAny_load hb ?_)
  show wpAny _ _ (checkBoundCall "list.append" ⟨[.ref a, w], []⟩ >>= fun _ => again (.builtin "list.append" ⟨[.ref a, w], []⟩)) _ _ s
  refine wpAny_bind (check_bound a w ho (wpAny_pure ⟨plainId_quiet (by decide +kernel) _, codeAny_builtin F.entry_list_append ?_⟩))
  rw [Around.under_plainId (by decide +kernel)]
  exact list_append a ws m w hz prog wd A (wants Q E) s ⟨ho, h⟩

theorem callWith_app {pos : Pos} {b : Addr} {args : List (Bool × Sem Value)} {E Q : Value → Shared → Prop} {M : Model} (hplain : args.any (·.1) = false)
    (h : wpAny M A (evalArgs (.ref b) true args []) (fun a s₁ => (∃ c, s₁.heap.get? b = some (appO c)) ∧ wpAny M A (call (.ref b) a.pos a.kw) Q E s₁) E s) :
    wpAny M A (callWith pos (.ref b) [] args []) Q E s := by
  unfold callWith
  refine wpAny_bind (wpAny_holding (wpAny_mono h (fun a s₁ h₁ => wpAny_bind (wpAny_standAt ?_)) fun _ _ x => x))
  obtain ⟨⟨c, hb⟩, h₁⟩ := h₁
  simp only [hplain, List.any_nil, Bool.or_false]
  refine wpAny_bind (m := keeperOf (.ref b)) ?_
  unfold keeperOf
  refine wpAny_bind (wpAny_load hb ?_)
  show wpAny _ _ (pure Keeper.machine) _ _ _
  refine wpAny_pure ?_
  show wpAny _ _ (call (.ref b) ([] ++ a.pos) a.kw >>= _) _ _ _
  exact wpAny_bind (wpAny_mono h₁ (fun r s₂ hr => wpAny_bind (wpAny_holding (wpAny_point (wpAny_pure hr)))) fun _ _ x => x)

/-- add(x), add being the bound append of a tracked list -/
theorem op_add {j : Nat} {v w : Value} {x : PV} {r : PV × Hp} (H : HR G μ hp s) (rv : Rep μ s.heap (.app j) v) (rx : Rep μ s.heap x w) (e : methV (Str.ofString "append") hp (.ref j) [x] = some r) (q : Q r.1 r.2) :
    ∃ b c, v = .ref b ∧ s.heap.get? b = some (appO c) ∧ wpAny G.M A (call (.ref b) [w]) (PE G μ s Q) (fun _ _ => False) s := by
  simp only [methV, if_true] at e
  split at e
  · rename_i vs hj
    split at e
    · rename_i hl
      cases e
      simp only [Rep] at rv
      obtain ⟨b, a, rfl, hb, hm⟩ := rv
      obtain ⟨ws, k, ho, rl⟩ := H.obj j a _ hm hj
      have n1 : ws.size = vs.length := by simpa using rl.length
      refine ⟨b, a, rfl, hb, call_app hb ho (big_fits (by omega)) ?_⟩
      exact PE_upd (f := fun xs => xs.push w) H hm hj ho rfl (by simpa using rl.append (RepL.one rx)) (by simp [Rep]) q
    · cases e
  · cases e

end

section
open PySem PySem.W PyProof.Rows
open Sem (wp)
set_option linter.unusedVariables false
set_option linter.unusedSimpArgs false
set_option maxRecDepth 100000

variable {G : GI} {n : Nat} {A : Around} {μ μ' : List Addr} {hp hp' : Hp} {s s' : Shared} {Q : PV → Hp → Prop} {env : Env} {l : Loc} {K : Cfg}
abbrev noE : Value → Shared → Prop := fun _ _ => False

theorem PE.from {v : Value} {s'' : Shared} (x : Stp G noOwn μ s μ' s') (h : PE G μ' s' Q v s'') : PE G μ s Q v s'' := by
  obtain ⟨pv, h1, m, q, r, H, st⟩ := h
  exact ⟨pv, h1, m, q, r, H, x.trans st⟩
theorem PE.back {t : Sem Value} {s'' : Shared} (x : Stp G noOwn μ s μ' s') (h : wpAny G.M A t (PE G μ' s' Q) noE s'') : wpAny G.M A t (PE G μ s Q) noE s'' :=
  wpAny_mono h (fun _ _ h => PE.from x h) fun _ _ e => e

def PBo (G : GI) (μ : List Addr) (s : Shared) (Q : Bool → Hp → Prop) : Bool → Shared → Prop := fun b s' => ∃ hp' μ', Q b hp' ∧ HR G μ' hp' s' ∧ Stp G noOwn μ s μ' s'
theorem PBo.from {Q : Bool → Hp → Prop} {v : Bool} {s'' : Shared} (x : Stp G noOwn μ s μ' s') (h : PBo G μ' s' Q v s'') : PBo G μ s Q v s'' := by
  obtain ⟨h1, m, q, H, st⟩ := h
  exact ⟨h1, m, q, H, x.trans st⟩
theorem PBo.back {Q : Bool → Hp → Prop} {t : Sem Bool} {s'' : Shared} (x : Stp G noOwn μ s μ' s') (h : wpAny G.M A t (PBo G μ' s' Q) noE s'') : wpAny G.M A t (PBo G μ s Q) noE s'' :=
  wpAny_mono h (fun _ _ h => PBo.from x h) fun _ _ e => e

theorem WE.run {t : Sem Value} {P : Value → Shared → Prop} (h : WE G n env l hp t Q) (R : Room n A) (H : HR G μ hp s) (X : EnvR G A env l μ s.heap)
    (hf : ∀ v s' pv hp' μ', Q pv hp' → Rep μ' s'.heap pv v → HR G μ' hp' s' → EnvR G A env l μ' s'.heap → Stp G noOwn μ s μ' s' → P v s') : wpAny G.M A t P noE s :=
  wpAny_mono (h A μ s R H X) (fun v s' ⟨pv, hp', μ', q, r, H', st⟩ => hf v s' pv hp' μ' q r H' (X.step H st) st) fun _ _ e => e
theorem WT.run {t : Sem Bool} {Q : Bool → Hp → Prop} {P : Bool → Shared → Prop} (h : WT G n env l hp t Q) (R : Room n A) (H : HR G μ hp s) (X : EnvR G A env l μ s.heap)
    (hf : ∀ b s' hp' μ', Q b hp' → HR G μ' hp' s' → EnvR G A env l μ' s'.heap → Stp G noOwn μ s μ' s' → P b s') : wpAny G.M A t P noE s :=
  wpAny_mono (h A μ s R H X) (fun v s' ⟨hp', μ', q, H', st⟩ => hf v s' hp' μ' q H' (X.step H st) st) fun _ _ e => e
theorem WEs.run {t : Sem (List Value)} {Q : List PV → Hp → Prop} {P : List Value → Shared → Prop} (h : WEs G n env l hp t Q) (R : Room n A) (H : HR G μ hp s) (X : EnvR G A env l μ s.heap)
    (hf : ∀ v s' pv hp' μ', Q pv hp' → RepL μ' s'.heap pv v → HR G μ' hp' s' → EnvR G A env l μ' s'.heap → Stp G noOwn μ s μ' s' → P v s') : wpAny G.M A t P noE s :=
  wpAny_mono (h A μ s R H X) (fun v s' ⟨pv, hp', μ', q, r, H', st⟩ => hf v s' pv hp' μ' q r H' (X.step H st) st) fun _ _ e => e

/-! the small arms -/
theorem E_none {k p} (q : Q .none hp) : WE G n env l hp (eval (.Constant .none k p) env) Q := fun A μ s R H X =>
  wpAny_pure (PE_here H (by simp [Rep]) q)
theorem E_bool {b k p} (q : Q (.bool b) hp) : WE G n env l hp (eval (.Constant (.bool b) k p) env) Q := fun A μ s R H X =>
  wpAny_pure (PE_here H (by simp [Rep]) q)
theorem E_int {i k p} (q : Q (.int i) hp) : WE G n env l hp (eval (.Constant (.int i) k p) env) Q := fun A μ s R H X =>
  wpAny_mkInt (PE_tok H (Nat.le_succ_of_le H.toks) (by simp [Rep]) q)
theorem E_str {x : Str} {k p} (q : Q (.str x.cps.toList) hp) : WE G n env l hp (eval (.Constant (.str x) k p) env) Q := fun A μ s R H X =>
  wpAny_mkText (PE_tok H (Nat.le_succ_of_le H.toks) (by simp [Rep]) q)

theorem loadName_free {env : Env} {name : Str} {c : Addr} {v : Value} {M : Model} {E Q : Value → Shared → Prop} (hk : env.scope.kind = .function) (hl : env.kindOf name = some .free)
    (hc : env.cells.lookup name = some c) (hn : (name == ("__classdict__" : Str)) = false) (hv : s.heap.IsCell c (some v)) (h : Q v s) : wpAny M A (loadName env name) Q E s := by
  unfold loadName
  simp only [Env.blockKind, hk, hl, ScopeKind.isAnnotationScope, Bool.false_and, Bool.false_eq_true, if_false, hn]
  exact wpAny_bind (wpAny_cellOf hc (wpAny_bind (wpAny_cellGet hv (wpAny_pure h))))

theorem E_name {x : Str} {p : Pos} {pv : PV} (e : l x = some pv) (q : Q pv hp) : WE G n env l hp (eval (.Name x p) env) Q := fun A μ s R H X => by
  obtain ⟨hk, hd, hcd⟩ := X.dom x pv e
  refine wpAny_Name ?_ hd
  rcases hk with hk | hk | hk
  · obtain ⟨m, hns, hm⟩ := X.ns
    obtain ⟨v, h1, h2⟩ := hm x pv hk e
    unfold loadName
    simp only [Env.blockKind, X.kind, hk, ScopeKind.isAnnotationScope, Bool.false_and, Bool.false_eq_true, if_false]
    refine wpAny_bind (wpAny_nsGet hns ?_)
    rw [h1]
    exact wpAny_pure (PE_here H h2 q)
  · obtain ⟨c, ov, h1, h2, h3⟩ := X.cel x (.inl hk)
    obtain ⟨v, rfl, h4⟩ := h3 pv e
    exact wpAny_loadName_cell X.kind hk h1 h2 (PE_here H h4 q)
  · obtain ⟨c, ov, h1, h2, h3⟩ := X.cel x (.inr hk)
    obtain ⟨v, rfl, h4⟩ := h3 pv e
    exact loadName_free X.kind hk h1 hcd h2 (PE_here H h4 q)

theorem E_binop {a b : Expr} {op : Operator} {p : Pos} {Qa : PV → Hp → Prop} (ha : WE G n env l hp (eval a env) Qa) (hb : ∀ x h1, Qa x h1 → WE G n env l h1 (eval b env) fun y h2 => optP (binV op h2 x y) fun v => Q v h2) :
    WE G n env l hp (eval (.BinOp a op b p) env) Q := fun A μ s R H X => by
  rw [arm_eval_BinOp]
  refine wpAny_bind (ha.run R H X fun v s1 pv hp1 μ1 q r H1 X1 st1 => ?_)
  refine wpAny_bind (wpAny_holding ((hb _ _ q).run R H1 X1 fun w s2 pw hp2 μ2 q2 r2 H2 X2 st2 => ?_))
  obtain ⟨z, e, qz⟩ := q2
  exact wpAny_bind (wpAny_standAt (wpAny_operating (PE.back (st1.trans st2) (op_bin R H2 (H1.rep st2 r) r2 e qz))))

theorem truth_run {pv : PV} {v : Value} {b : Bool} {P : Bool → Shared → Prop} (H : HR G μ hp s) (r : Rep μ s.heap pv v) (e : truthV hp pv = some b)
    (hf : ∀ s', s'.heap = s.heap → HR G μ hp s' → Stp G noOwn μ s μ s' → P b s') : wpAny G.M A (truthy v) P noE s :=
  op_truth H r e fun k hk => hf _ rfl (H.tok hk) (Stp.toks _ _ _)

theorem EnvR.same {s' : Shared} (X : EnvR G A env l μ s.heap) (h : s'.heap = s.heap) : EnvR G A env l μ s'.heap := by rw [h]; exact X

theorem E_not {a : Expr} {p : Pos} {Qa : PV → Hp → Prop} (ha : WE G n env l hp (eval a env) Qa) (hq : ∀ x h1, Qa x h1 → optP (truthV h1 x) fun b => Q (.bool !b) h1) :
    WE G n env l hp (eval (.UnaryOp .Not a p) env) Q := fun A μ s R H X => by
  rw [arm_eval_UnaryOp]
  refine wpAny_bind (ha.run R H X fun v s1 pv hp1 μ1 q r H1 X1 st1 => ?_)
  obtain ⟨b, e, qb⟩ := hq _ _ q
  refine wpAny_bind (wpAny_standAt (wpAny_holding ?_))
  show wpAny _ _ (holding [v] (truthy v >>= fun b => pure (Value.bool (!b)))) _ _ _
  refine wpAny_holding ?_
  exact wpAny_bind (truth_run H1 r e fun s2 h2 H2 st2 => wpAny_pure (PE.from (st1.trans st2) (PE_here H2 (by simp [Rep]) qb)))

theorem E_neg {a : Expr} {p : Pos} {Qa : PV → Hp → Prop} (ha : WE G n env l hp (eval a env) Qa) (hq : ∀ x h1, Qa x h1 → (match x with | .int i => Q (.int (-i)) h1 | _ => False)) :
    WE G n env l hp (eval (.UnaryOp .USub a p) env) Q := fun A μ s R H X => by
  rw [arm_eval_UnaryOp]
  refine wpAny_bind (ha.run R H X fun v s1 pv hp1 μ1 q r H1 X1 st1 => ?_)
  have q2 := hq _ _ q
  cases pv <;> simp only [] at q2 <;> try exact q2.elim
  simp only [Rep] at r; obtain ⟨t, rfl⟩ := r
  refine wpAny_bind (wpAny_standAt (wpAny_holding (PE.back st1 ?_)))
  exact neg_int (PE_tok H1 (Nat.le_succ_of_le H1.toks) (by simp [Rep]) q2)

theorem E_if {t a b : Expr} {p : Pos} {Qt : Bool → Hp → Prop} (ht : WT G n env l hp (isTrue t env (eval t env)) Qt)
    (hq : ∀ c h1, Qt c h1 → WE G n env l h1 (if c then eval a env else eval b env) Q) : WE G n env l hp (eval (.IfExp t a b p) env) Q := fun A μ s R H X => by
  rw [arm_eval_IfExp]
  refine wpAny_bind (ht.run R H X fun c s1 hp1 μ1 q H1 X1 st1 => ?_)
  have := hq c hp1 q A μ1 s1 R H1 X1
  cases c
  · exact PE.back st1 this
  · exact PE.back st1 this

theorem T_not {a : Expr} {p : Pos} {w : Sem Value} {Q Qa : Bool → Hp → Prop} (ha : WT G n env l hp (isTrue a env (eval a env)) Qa) (hq : ∀ b h1, Qa b h1 → Q (!b) h1) :
    WT G n env l hp (isTrue (.UnaryOp .Not a p) env w) Q := fun A μ s R H X => by
  rw [arm_isTrue_UnaryOp]
  exact wpAny_bind (ha.run R H X fun c s1 hp1 μ1 q H1 X1 st1 => wpAny_pure ⟨hp1, μ1, hq _ _ q, H1, st1⟩)
theorem T_if {t a b : Expr} {p : Pos} {w : Sem Value} {Q Qt : Bool → Hp → Prop} (ht : WT G n env l hp (isTrue t env (eval t env)) Qt)
    (hq : ∀ c h1, Qt c h1 → WT G n env l h1 (if c then isTrue a env (eval a env) else isTrue b env (eval b env)) Q) : WT G n env l hp (isTrue (.IfExp t a b p) env w) Q := fun A μ s R H X => by
  rw [arm_isTrue_IfExp]
  refine wpAny_bind (ht.run R H X fun c s1 hp1 μ1 q H1 X1 st1 => ?_)
  have := hq c hp1 q A μ1 s1 R H1 X1
  cases c
  · exact PBo.back st1 this
  · exact PBo.back st1 this
theorem T_whole {e : Expr} {w : Sem Value} {Qa : PV → Hp → Prop} {Q : Bool → Hp → Prop} (hd : isTrue e env w = (do let v ← w; standAt e.pos; holding [v] (truthy v))) (ha : WE G n env l hp w Qa)
    (hq : ∀ x h1, Qa x h1 → optP (truthV h1 x) fun b => Q b h1) : WT G n env l hp (isTrue e env w) Q := fun A μ s R H X => by
  rw [hd]
  refine wpAny_bind (ha.run R H X fun v s1 pv hp1 μ1 q r H1 X1 st1 => ?_)
  obtain ⟨b, e, qb⟩ := hq _ _ q
  refine wpAny_bind (wpAny_standAt (wpAny_holding ?_))
  exact truth_run H1 r e fun s2 h2 H2 st2 => ⟨hp1, μ1, qb, H2, st1.trans st2⟩

theorem A_nil {op : BoolOp} {Q : Bool → Hp → Prop} (q : Q (op == .And) hp) : WT G n env l hp (allTrue op [] env) Q := fun A μ s R H X => wpAny_pure ⟨hp, μ, q, H, Stp.refl _ _⟩
theorem A_cons {op : BoolOp} {x : Expr} {rest : List Expr} {Q Qx : Bool → Hp → Prop} (hx : WT G n env l hp (isTrue x env (eval x env)) Qx)
    (hq : ∀ b h1, Qx b h1 → (match op, b with | .And, false => Q false h1 | .Or, true => Q true h1 | _, _ => WT G n env l h1 (allTrue op rest env) Q)) :
    WT G n env l hp (allTrue op (x :: rest) env) Q := fun A μ s R H X => by
  rw [arm_allTrue_cons]
  refine wpAny_bind (hx.run R H X fun c s1 hp1 μ1 q H1 X1 st1 => ?_)
  have q2 := hq _ _ q
  cases op <;> cases c <;> simp only [] at q2 ⊢
  · exact wpAny_pure ⟨hp1, μ1, q2, H1, st1⟩
  · exact PBo.back st1 (q2 A μ1 s1 R H1 X1)
  · exact PBo.back st1 (q2 A μ1 s1 R H1 X1)
  · exact wpAny_pure ⟨hp1, μ1, q2, H1, st1⟩

theorem B_one {op : BoolOp} {x : Expr} {p : Pos} (hx : WE G n env l hp (eval x env) Q) : WE G n env l hp (boolOp p op (evalEach [x] env)) Q := hx
theorem B_cons {op : BoolOp} {x y : Expr} {rest : List Expr} {p : Pos} {Qx : PV → Hp → Prop} (hx : WE G n env l hp (eval x env) Qx)
    (hq : ∀ v h1, Qx v h1 → optP (truthV h1 v) fun b => (match op, b with | .And, false => Q v h1 | .Or, true => Q v h1 | _, _ => WE G n env l h1 (boolOp p op (evalEach (y :: rest) env)) Q)) :
    WE G n env l hp (boolOp p op (evalEach (x :: y :: rest) env)) Q := fun A μ s R H X => by
  show wpAny _ _ (do
    let v ← eval x env
    standAt p
    let t ← holding [v] (truthy v)
    match op, t with
    | .And, false | .Or, true => pure v
    | _, _ => boolOp p op (evalEach (y :: rest) env)) _ _ _
  refine wpAny_bind (hx.run R H X fun v s1 pv hp1 μ1 q r H1 X1 st1 => ?_)
  obtain ⟨b, e, q2⟩ := hq _ _ q
  refine wpAny_bind (wpAny_standAt (wpAny_bind (wpAny_holding (truth_run H1 r e fun s2 h2 H2 st2 => ?_))))
  have st := st1.trans st2
  have X2 := X1.same h2
  have r2 := H1.rep st2 r
  cases op <;> cases b <;> simp only [] at q2 ⊢
  · exact wpAny_pure (PE.from st (PE_here H2 r2 q2))
  · exact PE.back st (q2 A μ1 s2 R H2 X2)
  · exact PE.back st (q2 A μ1 s2 R H2 X2)
  · exact wpAny_pure (PE.from st (PE_here H2 r2 q2))

end

section
open PySem PySem.W PyProof.Rows
open Sem (wp)
set_option linter.unusedVariables false
set_option linter.unusedSimpArgs false
set_option maxRecDepth 100000

variable {G : GI} {n : Nat} {A : Around} {μ μ' : List Addr} {hp hp' : Hp} {s s' : Shared} {Q : PV → Hp → Prop} {env : Env} {l : Loc} {K : Cfg}

/-! compares -/
def CW (G : GI) (n : Nat) (env : Env) (l : Loc) (hp : Hp) (x : PV) (t : Value → Sem Value) (u : Value → Sem Bool) (Q : Bool → Hp → Prop) : Prop :=
  ∀ A μ s v, Room n A → HR G μ hp s → EnvR G A env l μ s.heap → Rep μ s.heap x v →
    wpAny G.M A (t v) (PE G μ s (fun p h => ∃ b, p = .bool b ∧ Q b h)) noE s ∧ wpAny G.M A (u v) (PBo G μ s Q) noE s

theorem okE_marks {e : Expr} {op : CmpOp} {sc : Scope} (h : okE sc e = true) : behindInMarks op e = false := by
  cases e <;> first | rfl | (simp [okE] at h)

theorem C_one {x : PV} {op : CmpOp} {e : Expr} {pos : Pos} {Q : Bool → Hp → Prop} {Qe : PV → Hp → Prop} (hm : behindInMarks op e = false) (he : WE G n env l hp (eval e env) Qe)
    (hq : ∀ y h1, Qe y h1 → optP (cmpV op h1 x y) fun b => Q b h1) :
    CW G n env l hp x (fun v => compareChain pos v [op] (markedEach [op] [e] (evalEach [e] env))) (fun v => testChain pos v [op] (markedEach [op] [e] (evalEach [e] env))) Q := fun A μ s v R H X r => by
  constructor
  · show wpAny _ _ (do
      let rv ← holding [v] (markedBehindIn op e (eval e env))
      standAt pos
      operate [v, rv] (compareOp op v rv)) _ _ _
    rw [markedBehindIn_of_false hm]
    refine wpAny_bind (wpAny_holding (he.run R H X fun w s1 pw hp1 μ1 q r1 H1 X1 st1 => ?_))
    obtain ⟨b, e1, qb⟩ := hq _ _ q
    exact wpAny_bind (wpAny_standAt (wpAny_operating (op_cmp R H1 (H.rep st1 r) r1 e1 (PE.from st1 (PE_here H1 (by simp [Rep]) ⟨b, rfl, qb⟩)))))
  · show wpAny _ _ (do
      let rv ← holding [v] (markedBehindIn op e (eval e env))
      standAt pos
      let c ← operate [v, rv] (compareOp op v rv)
      holding [c] (truthy c)) _ _ _
    rw [markedBehindIn_of_false hm]
    refine wpAny_bind (wpAny_holding (he.run R H X fun w s1 pw hp1 μ1 q r1 H1 X1 st1 => ?_))
    obtain ⟨b, e1, qb⟩ := hq _ _ q
    exact wpAny_bind (wpAny_standAt (wpAny_bind (wpAny_operating (op_cmp R H1 (H.rep st1 r) r1 e1 (wpAny_holding (wpAny_pure ⟨hp1, μ1, qb, H1, st1⟩))))))

theorem C_cons {x : PV} {op op2 : CmpOp} {ops : List CmpOp} {e e2 : Expr} {es : List Expr} {pos : Pos} {Q : Bool → Hp → Prop} {Qe : PV → Hp → Prop} (he : WE G n env l hp (eval e env) Qe)
    (hq : ∀ y h1, Qe y h1 → optP (cmpV op h1 x y) fun b => if b then
      CW G n env l h1 y (fun v => compareChain pos v (op2 :: ops) (markedEach (op2 :: ops) (e2 :: es) (evalEach (e2 :: es) env))) (fun v => testChain pos v (op2 :: ops) (markedEach (op2 :: ops) (e2 :: es) (evalEach (e2 :: es) env))) Q else Q false h1) :
    CW G n env l hp x (fun v => compareChain pos v (op :: op2 :: ops) (markedEach (op :: op2 :: ops) (e :: e2 :: es) (evalEach (e :: e2 :: es) env)))
      (fun v => testChain pos v (op :: op2 :: ops) (markedEach (op :: op2 :: ops) (e :: e2 :: es) (evalEach (e :: e2 :: es) env))) Q := fun A μ s v R H X r => by
  constructor
  · show wpAny _ _ (do
      let rv ← holding [v] (eval e env)
      standAt pos
      let c ← holding [v, rv] (compareOp op v rv)
      release [v, rv] [c]
      if ← holding [c, rv] (truthy c) then compareChain pos rv (op2 :: ops) (markedEach (op2 :: ops) (e2 :: es) (evalEach (e2 :: es) env)) else pure c) _ _ _
    refine wpAny_bind (wpAny_holding (he.run R H X fun w s1 pw hp1 μ1 q r1 H1 X1 st1 => ?_))
    obtain ⟨b, e1, qb⟩ := hq _ _ q
    refine wpAny_bind (wpAny_standAt (wpAny_bind (wpAny_holding (op_cmp R H1 (H.rep st1 r) r1 e1 (wpAny_bind (wpAny_release (wpAny_bind (wpAny_holding (wpAny_pure ?_)))))))))
    cases b
    · exact wpAny_pure (PE.from st1 (PE_here H1 (by simp [Rep]) ⟨false, rfl, qb⟩))
    · exact PE.back st1 (qb A μ1 s1 w R H1 X1 r1).1
  · show wpAny _ _ (do
      let rv ← holding [v] (eval e env)
      standAt pos
      let c ← holding [v, rv] (compareOp op v rv)
      release [v, rv] [c]
      if ← holding [c, rv] (truthy c) then testChain pos rv (op2 :: ops) (markedEach (op2 :: ops) (e2 :: es) (evalEach (e2 :: es) env)) else pure false) _ _ _
    refine wpAny_bind (wpAny_holding (he.run R H X fun w s1 pw hp1 μ1 q r1 H1 X1 st1 => ?_))
    obtain ⟨b, e1, qb⟩ := hq _ _ q
    refine wpAny_bind (wpAny_standAt (wpAny_bind (wpAny_holding (op_cmp R H1 (H.rep st1 r) r1 e1 (wpAny_bind (wpAny_release (wpAny_bind (wpAny_holding (wpAny_pure ?_)))))))))
    cases b
    · exact wpAny_pure ⟨hp1, μ1, qb, H1, st1⟩
    · exact PBo.back st1 (qb A μ1 s1 w R H1 X1 r1).2

theorem E_compare {a : Expr} {ops : List CmpOp} {rs : List Expr} {pos : Pos} {Qa : PV → Hp → Prop} (ha : WE G n env l hp (eval a env) Qa)
    (hc : ∀ x h1, Qa x h1 → CW G n env l h1 x (fun v => compareChain pos v ops (markedEach ops rs (evalEach rs env))) (fun v => testChain pos v ops (markedEach ops rs (evalEach rs env))) fun b h2 => Q (.bool b) h2) :
    WE G n env l hp (eval (.Compare a ops rs pos) env) Q := fun A μ s R H X => by
  rw [arm_eval_Compare]
  refine wpAny_bind (ha.run R H X fun v s1 pv hp1 μ1 q r H1 X1 st1 => ?_)
  refine wpAny_mono (hc _ _ q A μ1 s1 v R H1 X1 r).1 (fun w s2 h => ?_) fun _ _ e => e
  obtain ⟨_, h2, m2, ⟨b, rfl, qb⟩, r2, H2, st2⟩ := h
  exact ⟨_, h2, m2, qb, r2, H2, st1.trans st2⟩
theorem T_compare {a : Expr} {ops : List CmpOp} {rs : List Expr} {pos : Pos} {w : Sem Value} {Q : Bool → Hp → Prop} {Qa : PV → Hp → Prop} (ha : WE G n env l hp (eval a env) Qa)
    (hc : ∀ x h1, Qa x h1 → CW G n env l h1 x (fun v => compareChain pos v ops (markedEach ops rs (evalEach rs env))) (fun v => testChain pos v ops (markedEach ops rs (evalEach rs env))) Q) :
    WT G n env l hp (isTrue (.Compare a ops rs pos) env w) Q := fun A μ s R H X => by
  rw [arm_isTrue_Compare]
  refine wpAny_bind (ha.run R H X fun v s1 pv hp1 μ1 q r H1 X1 st1 => ?_)
  exact PBo.back st1 (hc _ _ q A μ1 s1 v R H1 X1 r).2

/-! arguments and displays -/
theorem star_cons {sc : Scope} {e : Expr} {es : List Expr} (h : okE sc e = true) : starEach (e :: es) env = (false, eval e env) :: starEach es env := by
  cases e <;> first | rfl | (simp [okE] at h)
theorem L_nil {pos : Pos} {Q : List PV → Hp → Prop} (q : Q [] hp) : WEs G n env l hp (spliced (backTo pos (starEach [] env))) Q := fun A μ s R H X =>
  args_nil ⟨[], hp, μ, q, by simp [RepL], H, Stp.refl _ _⟩
theorem L_cons {sc : Scope} {e : Expr} {es : List Expr} {pos : Pos} {Q : List PV → Hp → Prop} {Qe : PV → Hp → Prop} (ok : okE sc e = true) (he : WE G n env l hp (eval e env) Qe)
    (hq : ∀ v h1, Qe v h1 → WEs G n env l h1 (spliced (backTo pos (starEach es env))) fun vs h2 => Q (v :: vs) h2) :
    WEs G n env l hp (spliced (backTo pos (starEach (e :: es) env))) Q := fun A μ s R H X => by
  refine args_cons (he.run R H X fun v s1 pv hp1 μ1 q r H1 X1 st1 => ?_) (star_cons ok)
  refine (hq _ _ q).run R H1 X1 fun vs s2 ps hp2 μ2 q2 r2 H2 X2 st2 => ?_
  refine ⟨pv :: ps, hp2, μ2, q2, ?_, H2, st1.trans st2⟩
  simp only [RepL]
  exact ⟨_, _, rfl, H1.rep st2 r, r2⟩

theorem E_tuple {es : List Expr} {k : Nat} {pos : Pos} {Ql : List PV → Hp → Prop} (hl : WEs G n env l hp (spliced (backTo pos (starEach es env))) Ql) (hq : ∀ vs h1, Ql vs h1 → vs.length ≤ big ∧ Q (.tuple vs) h1) :
    WE G n env l hp (eval (.Tuple es k pos) env) Q := fun A μ s R H X => by
  rw [arm_eval_Tuple]
  refine wpAny_bind (wpAny_standAt (wpAny_bind (hl.run R H X fun vs s1 ps hp1 μ1 q r H1 X1 st1 => ?_)))
  obtain ⟨h1, h2⟩ := hq _ _ q
  exact wpAny_newTuple (PE.from st1 (PE_tuple H1 (ws := vs.toArray) (by simpa using r) h2)) (big_fits (by rw [r.length]; exact h1))
theorem E_list {es : List Expr} {pos : Pos} {Ql : List PV → Hp → Prop} (hl : WEs G n env l hp (spliced (backTo pos (starEach es env))) Ql) (hq : ∀ vs h1, Ql vs h1 → vs.length ≤ big ∧ Q (.list vs) h1) :
    WE G n env l hp (eval (.List es pos) env) Q := fun A μ s R H X => by
  rw [arm_eval_List]
  refine wpAny_bind (wpAny_standAt (wpAny_bind (hl.run R H X fun vs s1 ps hp1 μ1 q r H1 X1 st1 => ?_)))
  obtain ⟨h1, h2⟩ := hq _ _ q
  exact wpAny_newList (PE.from st1 (PE_list H1 (ws := vs.toArray) (by simpa using r) h2)) (big_fits (by rw [r.length]; exact h1))
theorem EnvR.base (X : EnvR G A env l μ s.heap) (H : HR G μ hp s) : G.h0.objs.size ≤ s.heap.objs.size := by
  obtain ⟨m, ⟨o, es, ep, e, _⟩, _⟩ := X.ns
  exact Nat.le_of_lt (Nat.lt_of_le_of_lt X.low (Heap.lt_size e))
theorem E_list_trk {es : List Expr} {pos : Pos} {Ql : List PV → Hp → Prop} (hl : WEs G n env l hp (spliced (backTo pos (starEach es env))) Ql) (hq : ∀ vs h1, Ql vs h1 → vs.length ≤ big ∧ Q (.ref h1.length) (h1 ++ [.list vs])) :
    WE G n env l hp (eval (.List es pos) env) Q := fun A μ s R H X => by
  rw [arm_eval_List]
  refine wpAny_bind (wpAny_standAt (wpAny_bind (hl.run R H X fun vs s1 ps hp1 μ1 q r H1 X1 st1 => ?_)))
  obtain ⟨h1, h2⟩ := hq _ _ q
  refine wpAny_newList (PE.from st1 ⟨_, _, _, h2, ?_, H1.track (X1.base H1) (m := .list ps) ?_, Stp.track _ _ _⟩) (big_fits (by rw [r.length]; exact h1))
  · simp only [Rep]; exact ⟨_, rfl, by rw [← H1.len]; simp⟩
  · have g : Grow s1.heap μ1 (μ1 ++ [s1.heap.objs.size]) := Grow.one _ _
    exact ⟨vs.toArray, 0, Heap.get?_push_size _ rfl, by simpa using r.mono (pushKeep s1 _) g⟩

/-! subscripts and slices -/
theorem E_item {o i : Expr} {pos : Pos} {Qo : PV → Hp → Prop} (ho : WE G n env l hp (eval o env) Qo) (hi : ∀ x h1, Qo x h1 → WE G n env l h1 (eval i env) fun y h2 => optP (itemV h2 x y) fun v => Q v h2) :
    WE G n env l hp (eval (.Subscript o i pos) env) Q := fun A μ s R H X => by
  refine Subscript_ (ho.run R H X fun v s1 pv hp1 μ1 q r H1 X1 st1 => (hi _ _ q).run R H1 X1 fun w s2 pw hp2 μ2 q2 r2 H2 X2 st2 => ?_)
  obtain ⟨z, e, qz⟩ := q2
  have rr := H1.rep st2 r
  have hty : (∃ l, pv = .str l) ∨ (∃ vs, pv = .tuple vs) ∨ (contents hp2 pv).isSome = true := by
    unfold itemV at e
    split at e
    · split at e
      · split at e
        · exact .inl ⟨_, rfl⟩
        · exact .inr (.inl ⟨_, rfl⟩)
        · obtain ⟨vs, hc, _⟩ := Option.bind_eq_some_iff.mp e
          exact .inr (.inr (by rw [hc]; rfl))
      · cases e
    · cases e
  obtain ⟨T, id, hT, hl⟩ := rep_type H2 rr hty
  exact sub_tail hT hl (PE.back (st1.trans st2) (op_item R H2 rr r2 e qz))

theorem O_none {Q : PV → Hp → Prop} (q : Q .none hp) : WE G n env l hp (valueOrNone (evalOpt none env)) Q := fun A μ s R H X => wpAny_pure (PE_here H (by simp [Rep]) q)
theorem O_some {e : Expr} (he : WE G n env l hp (eval e env) Q) : WE G n env l hp (valueOrNone (evalOpt (some e) env)) Q := he

theorem E_slice {o : Expr} {a b : Option Expr} {pos p2 : Pos} {Qo : PV → Hp → Prop} {Qa : PV → PV → Hp → Prop} (ho : WE G n env l hp (eval o env) Qo)
    (ha : ∀ x h1, Qo x h1 → WE G n env l h1 (valueOrNone (evalOpt a env)) (Qa x))
    (hb : ∀ x y h2, Qa x y h2 → WE G n env l h2 (valueOrNone (evalOpt b env)) fun z h3 => optP (sliceV h3 x y z) fun v => Q v h3) :
    WE G n env l hp (eval (.Subscript o (.Slice a b none p2) pos) env) Q := fun A μ s R H X => by
  refine Subscript_ (ho.run R H X fun v s1 pv hp1 μ1 q r H1 X1 st1 => ?_)
  rw [arm_eval_Slice]
  refine wpAny_bind ((ha _ _ q).run R H1 X1 fun va s2 pa hp2 μ2 q2 r2 H2 X2 st2 => ?_)
  refine wpAny_bind (wpAny_holding ((hb _ _ _ q2).run R H2 X2 fun vb s3 pb hp3 μ3 q3 r3 H3 X3 st3 => ?_))
  refine wpAny_bind (wpAny_holding (wpAny_pure ?_))
  refine wpAny_newObj_type ?_
  obtain ⟨z, e, qz⟩ := q3
  have rr := H2.rep st3 (H1.rep st2 r)
  have hty : (∃ l, pv = .str l) ∨ (∃ vs, pv = .tuple vs) ∨ (contents hp3 pv).isSome = true := by
    unfold sliceV at e
    split at e
    · split at e
      · exact .inl ⟨_, rfl⟩
      · exact .inr (.inr rfl)
      · obtain ⟨vs, hc, _⟩ := Option.bind_eq_some_iff.mp e
        exact .inr (.inr (by rw [hc]; rfl))
      · cases e
    · cases e
  obtain ⟨T, id, hT, hl⟩ := rep_type (H3.push { cls := .type "slice", data := .fields #[va, vb, .none] }) (rr.push _) hty
  exact sub_tail hT hl (PE.back ((st1.trans st2).trans st3) (op_slice R H3 rr (H2.rep st3 r2) r3 e qz))

/-! f-strings -/
def JW (G : GI) (n : Nat) (env : Env) (l : Loc) (hp : Hp) (ps : List Expr) (acc : List Nat) (Q : PV → Hp → Prop) : Prop := acc.length ≤ big → WE G n env l hp (joinParts ⟨acc.toArray⟩ (evalEach ps env)) Q
theorem J_nil {acc : List Nat} (q : Q (.str acc) hp) : JW G n env l hp [] acc Q := fun hb A μ s R H X =>
  wpAny_mkStr (PE_tok H (Nat.le_succ_of_le H.toks) (by simp [Rep]) q) (big_fits (by simpa [Str.length] using hb))
theorem J_part {e : Expr} {ps : List Expr} {acc : List Nat} {Qe : PV → Hp → Prop} (he : WE G n env l hp (eval e env) Qe)
    (hq : ∀ v h1, Qe v h1 → ∃ x, v = .str x ∧ acc.length + x.length ≤ big ∧ JW G n env l h1 ps (acc ++ x) Q) : JW G n env l hp (e :: ps) acc Q := fun hb A μ s R H X => by
  show wpAny _ _ (joinParts ⟨acc.toArray⟩ (eval e env :: evalEach ps env)) _ _ _
  rw [joinParts]
  refine wpAny_bind (he.run R H X fun v s1 pv hp1 μ1 q r H1 X1 st1 => ?_)
  obtain ⟨x, rfl, hl, hj⟩ := hq _ _ q
  simp only [Rep] at r; obtain ⟨t, rfl⟩ := r
  have hz' : ¬ ((⟨acc.toArray⟩ : Str).length + (⟨x.toArray⟩ : Str).length > sizeLine) := Nat.not_lt.mpr (big_fits (by simpa [Str.length] using hl))
  refine wpAny_bind (wpAny_pure ?_)
  show wpAny _ A (if (⟨acc.toArray⟩ : Str).length + (⟨x.toArray⟩ : Str).length > sizeLine then _ else _) _ _ s1
  rw [if_neg hz']
  have e1 : (⟨acc.toArray⟩ : Str) ++ ⟨x.toArray⟩ = ⟨(acc ++ x).toArray⟩ := by show (⟨acc.toArray ++ x.toArray⟩ : Str) = _; simp
  rw [e1]
  exact PE.back st1 (hj (by simpa using hl) A μ1 s1 R H1 X1)
theorem E_fval {e : Expr} {p : Pos} {Qe : PV → Hp → Prop} (he : WE G n env l hp (eval e env) Qe) (hq : ∀ v h1, Qe v h1 → ∃ x, v = .str x ∧ x.length ≤ big ∧ Q (.str x) h1) :
    WE G n env l hp (eval (.FormattedValue e (-1) none p) env) Q := fun A μ s R H X => by
  rw [arm_eval_FormattedValue]
  refine wpAny_bind (he.run R H X fun v s1 pv hp1 μ1 q r H1 X1 st1 => ?_)
  obtain ⟨x, rfl, hl, qx⟩ := hq _ _ q
  simp only [Rep] at r; obtain ⟨t, rfl⟩ := r
  refine wpAny_bind (wpAny_standAt (wpAny_bind (wpAny_holding (wpAny_pure ?_))))
  have e0 : evalOpt none env = none := rfl
  rw [e0]
  show wpAny _ _ (formatField (.str ⟨x.toArray⟩ t) Str.empty) _ _ _
  exact PE.back st1 (wpAny_formatField_str (PE_here H1 (by simp [Rep]) qx) (PE_tok H1 (Nat.le_succ_of_le H1.toks) (by simp [Rep]) qx) (big_fits (by simpa [Str.length] using hl)))
theorem E_joined {a b : Expr} {r : List Expr} {p : Pos} (h : JW G n env l hp (a :: b :: r) [] Q) : WE G n env l hp (eval (.JoinedStr (a :: b :: r) p) env) Q := h (Nat.zero_le _)

end

section
open PySem PySem.W PyProof.Rows
open Sem (wp)
set_option linter.unusedVariables false
set_option linter.unusedSimpArgs false
set_option maxRecDepth 100000

variable {G : GI} {n : Nat} {A : Around} {μ μ' : List Addr} {hp hp' : Hp} {s s' : Shared} {Q : PV → Hp → Prop} {env : Env} {l : Loc} {K : Cfg}

structure GOk (G : GI) : Prop where
  gns : G.h0.Ns mainGlobals G.mg
  bns : G.h0.Ns builtinsNs G.mb
  m_len : G.mg (Str.ofString "len") = none
  m_chr : G.mg (Str.ofString "chr") = none
  m_range : G.mg (Str.ofString "range") = none
  m_list : G.mg (Str.ofString "list") = none
  m_str : G.mg (Str.ofString "str") = none
  m_object : G.mg (Str.ofString "object") = none
  m_isinstance : G.mg (Str.ofString "isinstance") = none
  m_zip : G.mg (Str.ofString "zip") = none
  b_len : G.mb (Str.ofString "len") = some (.builtin "len")
  b_chr : G.mb (Str.ofString "chr") = some (.builtin "chr")
  b_range : G.mb (Str.ofString "range") = some (.type "range")
  b_list : G.mb (Str.ofString "list") = some (.type "list")
  b_str : G.mb (Str.ofString "str") = some (.type "str")
  b_object : G.mb (Str.ofString "object") = some (.type "object")
  b_isinstance : G.mb (Str.ofString "isinstance") = some (.builtin "isinstance")
  b_zip : G.mb (Str.ofString "zip") = some (.type "zip")

theorem HR.ns (H : HR G μ hp s) {a : Addr} {m : Str → Option Value} (h : G.h0.Ns a m) : s.heap.Ns a m := by
  obtain ⟨o, es, ep, e, r⟩ := h
  exact ⟨o, es, ep, H.base _ _ e, r⟩

theorem glb_fn {f : Str} {p : Pos} {v : Value} {sc : Scope} {E Qv : Value → Shared → Prop} (g : GOk G) (hs : env.scope = sc) (ok : glbOk sc f = true) (H : HR G μ hp s) (X : EnvR G A env l μ s.heap) (hv : G.mg f = some v) (h : Qv v s) :
    wpAny G.M A (eval (.Name f p) env) Qv E s := by
  simp only [glbOk, Bool.and_eq_true, Bool.not_eq_true', beq_iff_eq] at ok
  refine Calls.Name_function_global X.kind (by rw [Env.kindOf, hs]; exact ok.1) ?_ ok.2
  exact Calls.loadGlobal_global (by rw [X.glob]; exact H.ns g.gns) hv h
theorem glb_blt {f : Str} {p : Pos} {v : Value} {sc : Scope} {E Qv : Value → Shared → Prop} (g : GOk G) (hs : env.scope = sc) (ok : glbOk sc f = true) (H : HR G μ hp s) (X : EnvR G A env l μ s.heap) (hm : G.mg f = none) (hv : G.mb f = some v) (h : Qv v s) :
    wpAny G.M A (eval (.Name f p) env) Qv E s := by
  simp only [glbOk, Bool.and_eq_true, Bool.not_eq_true', beq_iff_eq] at ok
  refine Calls.Name_function_global X.kind (by rw [Env.kindOf, hs]; exact ok.1) ?_ ok.2
  exact Calls.loadGlobal_builtin (by rw [X.glob]; exact H.ns g.gns) hm (by rw [X.blt]; exact H.ns g.bns) hv h

theorem stars_plain {sc : Scope} {pos : Pos} : ∀ {es : List Expr}, okEs sc es = true → (backTo pos (starEach es env)).any (·.1) = false
  | [], _ => rfl
  | e :: es, h => by
      simp only [okEs, Bool.and_eq_true] at h
      rw [star_cons h.1]
      show (false || (backTo pos (starEach es env)).any (·.1)) = false
      rw [stars_plain h.2]; rfl
theorem args_run {sc : Scope} {f : Value} {es : List Expr} {pos : Pos} {Ql : List PV → Hp → Prop} {P : Args → Shared → Prop} (ok : okEs sc es = true) (hl : WEs G n env l hp (spliced (backTo pos (starEach es env))) Ql)
    (R : Room n A) (H : HR G μ hp s) (X : EnvR G A env l μ s.heap)
    (hf : ∀ vs s' ps hp' μ', Ql ps hp' → RepL μ' s'.heap ps vs → HR G μ' hp' s' → EnvR G A env l μ' s'.heap → Stp G noOwn μ s μ' s' → P ⟨vs, []⟩ s') :
    wpAny G.M A (evalArgs f true (backTo pos (starEach es env)) []) P noE s := by
  cases es with
  | nil =>
    show wpAny _ _ (evalArgs f true [] []) _ _ _
    unfold evalArgs
    show wpAny _ _ (spliced [] >>= _) _ _ _
    refine wpAny_bind (hl.run R H X fun vs s1 ps hp1 μ1 q r H1 X1 st1 => ?_)
    refine wpAny_bind (wpAny_pure ?_)
    refine wpAny_holding ?_
    exact wpAny_bind (wpAny_pure (wpAny_bind (wpAny_pure (wpAny_pure (hf _ _ _ _ _ q r H1 X1 st1)))))
  | cons e es =>
    simp only [okEs, Bool.and_eq_true] at ok
    have hs := star_cons (env := env) (es := es) ok.1
    have := hl.run R H X (P := fun vs s' => P ⟨vs, []⟩ s') hf
    rw [hs] at this ⊢
    exact Calls.evalArgs_plain this

theorem call_node {f : Str} {fp pos : Pos} {es : List Expr} {P : Value → Shared → Prop} (h : wpAny G.M A (eval (.Name f fp) env) (fun fv s₁ => wpAny G.M A (callWith pos fv [] (backTo pos (starEach es env)) []) P noE s₁) noE s) :
    wpAny G.M A (eval (.Call (.Name f fp) es [] pos) env) P noE s := Call_ h

/-- a builtin function or a builtin type by its name -/
theorem E_call_builtin {f : Str} {fp pos : Pos} {es : List Expr} {id : String} {sc : Scope} {Ql : List PV → Hp → Prop} (g : GOk G) (hs : env.scope = sc) (okf : glbOk sc f = true) (ok : okEs sc es = true)
    (hm : G.mg f = none) (hv : G.mb f = some (.builtin id)) (hl : WEs G n env l hp (spliced (backTo pos (starEach es env))) Ql)
    (hq : ∀ A μ s ps hp vs, Room n A → HR G μ hp s → Ql ps hp → RepL μ s.heap ps vs → G.h0.objs.size ≤ s.heap.objs.size → wpAny G.M A (call (.builtin id) vs) (PE G μ s Q) noE s) :
    WE G n env l hp (eval (.Call (.Name f fp) es [] pos) env) Q := fun A μ s R H X => by
  refine call_node (glb_blt g hs okf H X hm hv ?_)
  refine Calls.callWith_builtin (stars_plain ok) (args_run ok hl R H X fun vs s1 ps hp1 μ1 q r H1 X1 st1 => ?_)
  exact PE.back st1 (hq A μ1 s1 ps hp1 vs R H1 q r (X1.base H1))
theorem E_call_type {f : Str} {fp pos : Pos} {es : List Expr} {T : String} {sc : Scope} {Ql : List PV → Hp → Prop} (g : GOk G) (hs : env.scope = sc) (okf : glbOk sc f = true) (ok : okEs sc es = true)
    (hm : G.mg f = none) (hv : G.mb f = some (.type T)) (hl : WEs G n env l hp (spliced (backTo pos (starEach es env))) Ql)
    (hq : ∀ A μ s ps hp vs, Room n A → HR G μ hp s → Ql ps hp → RepL μ s.heap ps vs → G.h0.objs.size ≤ s.heap.objs.size → wpAny G.M A (call (.type T) vs) (PE G μ s Q) noE s) :
    WE G n env l hp (eval (.Call (.Name f fp) es [] pos) env) Q := fun A μ s R H X => by
  refine call_node (glb_blt g hs okf H X hm hv ?_)
  refine PySem.callWith_type (stars_plain ok) (args_run ok hl R H X fun vs s1 ps hp1 μ1 q r H1 X1 st1 => ?_)
  exact PE.back st1 (hq A μ1 s1 ps hp1 vs R H1 q r (X1.base H1))

theorem E_blt {f : Str} {fp pos : Pos} {es : List Expr} {sc : Scope} {Ql : List PV → Hp → Prop} (g : GOk G) (hs : env.scope = sc) (okf : glbOk sc f = true) (ok : okEs sc es = true) (hb : bltNames.contains f = true)
    (hl : WEs G n env l hp (spliced (backTo pos (starEach es env))) Ql) (hq : ∀ vs h1, Ql vs h1 → optP (bltV f h1 vs) fun r => Q r h1) :
    WE G n env l hp (eval (.Call (.Name f fp) es [] pos) env) Q := by
  have hf : f = Str.ofString "len" ∨ f = Str.ofString "chr" ∨ f = Str.ofString "range" ∨ f = Str.ofString "list" := by simpa [bltNames] using hb
  rcases hf with rfl | rfl | rfl | rfl
  · exact E_call_builtin g hs okf ok g.m_len g.b_len hl fun A μ s ps hp vs R H q r hb => by obtain ⟨x, e, q⟩ := hq _ _ q; exact op_len H r e q
  · exact E_call_builtin g hs okf ok g.m_chr g.b_chr hl fun A μ s ps hp vs R H q r hb => by obtain ⟨x, e, q⟩ := hq _ _ q; exact op_chr H r e q
  · exact E_call_type g hs okf ok g.m_range g.b_range hl fun A μ s ps hp vs R H q r hb => by obtain ⟨x, e, q⟩ := hq _ _ q; exact op_range H r e q
  · exact E_call_type g hs okf ok g.m_list g.b_list hl fun A μ s ps hp vs R H q r hb => by obtain ⟨x, e, q⟩ := hq _ _ q; exact op_list R.handled H r e q

theorem E_object {fp pos : Pos} {sc : Scope} (g : GOk G) (hs : env.scope = sc) (okf : glbOk sc (Str.ofString "object") = true) (q : Q (.ref hp.length) (hp ++ [.obj])) :
    WE G n env l hp (eval (.Call (.Name (Str.ofString "object") fp) [] [] pos) env) Q :=
  E_call_type (Ql := fun ps h => ps = [] ∧ h = hp) (es := []) g hs okf rfl g.m_object g.b_object (L_nil ⟨rfl, rfl⟩) fun A μ s ps h1 vs R H q1 r hb => by
    obtain ⟨rfl, rfl⟩ := q1
    simp only [RepL] at r; subst r
    exact op_object hb H q

theorem isa_name {hp : Hp} {v : PV} {t : Str} {b : Bool} (g : GOk G) (e : isaV hp v t = some b) : ∃ T, t = Str.ofString T ∧ (T = "list" ∨ T = "str") ∧ G.mg t = none ∧ G.mb t = some (.type T) := by
  unfold isaV at e
  split at e
  · rename_i h; subst h; exact ⟨_, rfl, .inl rfl, g.m_list, g.b_list⟩
  · split at e
    · rename_i h; subst h; exact ⟨_, rfl, .inr rfl, g.m_str, g.b_str⟩
    · cases e

theorem E_isinstance {fp pos tp : Pos} {e : Expr} {t : Str} {sc : Scope} {Qe : PV → Hp → Prop} (g : GOk G) (hs : env.scope = sc) (okf : glbOk sc (Str.ofString "isinstance") = true) (ok : okE sc e = true) (okt : glbOk sc t = true)
    (he : WE G n env l hp (eval e env) Qe) (hq : ∀ v h1, Qe v h1 → optP (isaV h1 v t) fun b => Q (.bool b) h1) :
    WE G n env l hp (eval (.Call (.Name (Str.ofString "isinstance") fp) [e, .Name t tp] [] pos) env) Q := fun A μ s R H X => by
  refine call_node (glb_blt g hs okf H X g.m_isinstance g.b_isinstance ?_)
  have okl : okEs sc [e, .Name t tp] = true := by simp [okEs, ok, okE]
  refine Calls.callWith_builtin (stars_plain okl) ?_
  have hc := star_cons (env := env) (es := [.Name t tp]) ok
  rw [hc]
  refine Calls.evalArgs_plain ?_
  show wpAny _ _ (spliced ((false, eval e env) :: (false, eval (.Name t tp) env) :: [])) _ _ _
  refine Calls.spliced_cons (he.run R H X fun v s1 pv hp1 μ1 q r H1 X1 st1 => ?_)
  obtain ⟨b, e1, qb⟩ := hq _ _ q
  obtain ⟨T, rfl, hT, hm, hv⟩ := isa_name g e1
  refine Calls.spliced_cons (glb_blt g hs okt H1 X1 hm hv (Calls.spliced_nil ?_))
  obtain ⟨T', ⟨hT1, hT2⟩, h⟩ := op_isa H1 r e1 qb
  have : T = T' := by rcases hT with rfl | rfl <;> rcases hT2 with rfl | rfl <;> first | rfl | (exact absurd hT1 (by decide))
  subst this
  exact PE.back st1 h

/-- a function of the program -/
theorem E_fun {f : Str} {fp pos : Pos} {es : List Expr} {sc : Scope} {Ql : List PV → Hp → Prop} (g : GOk G) (hs : env.scope = sc) (okf : glbOk sc f = true) (ok : okEs sc es = true) 
    (hl : WEs G n env l hp (spliced (backTo pos (starEach es env))) Ql) (h0 : 0 < n) (hq : ∀ vs h1, Ql vs h1 → CallW G (n - 1) f vs h1 Q) (hx : isFn G f) :
    WE G n env l hp (eval (.Call (.Name f fp) es [] pos) env) Q := fun A μ s R H X => by
  obtain ⟨a, o, fd, hm, ho, hd⟩ := hx
  refine call_node (glb_fn g hs okf H X hm ?_)
  refine Calls.callWith_function (o := o) (fd := fd) (args_run ok hl R H X fun vs s1 ps hp1 μ1 q r H1 X1 st1 => ⟨⟨H1.base _ _ ho, hd⟩, ?_⟩)
  obtain ⟨a', o', fd', ⟨hm', _, _⟩, h⟩ := hq _ _ q
  rw [hm] at hm'; cases hm'
  have e : n - 1 + 1 = n := by omega
  have := h A μ1 s1 vs (by rw [e]; exact R) H1 r (X1.base H1) X1.frs
  refine wpAny_call (codeAny_mono this fun r s2 h2 => ?_)
  obtain ⟨pv, hp2, v, rfl, q2, r2, H2, st2⟩ := h2
  exact PE.from st1 ⟨pv, hp2, μ1, q2, r2, H2, st2⟩

theorem E_add {fp pos : Pos} {es : List Expr} {sc : Scope} {Ql : List PV → Hp → Prop} (ok : okEs sc es = true) {j : Nat} {f : Str}
    (hl : WEs G n env l hp (spliced (backTo pos (starEach es env))) Ql) (hj : l f = some (.app j)) (hq : ∀ vs h1, Ql vs h1 → optP (methV (Str.ofString "append") h1 (.ref j) vs) fun r => Q r.1 r.2) :
    WE G n env l hp (eval (.Call (.Name f fp) es [] pos) env) Q := fun A μ s R H X => by
  refine call_node ((E_name (Q := fun p h => p = .app j ∧ h = hp) hj ⟨rfl, rfl⟩).run R H X fun fv s0 p hp0 μ0 q0 rf H0 X0 st0 => ?_)
  obtain ⟨rfl, rfl⟩ := q0
  have rf' := rf
  simp only [Rep] at rf'
  obtain ⟨b, a, rfl, hb, hm⟩ := rf'
  refine callWith_app (stars_plain ok) (args_run ok hl R H0 X0 fun vs s1 ps hp1 μ1 q r H1 X1 st1 => ?_)
  obtain ⟨z, e1, qz⟩ := hq _ _ q
  match ps, e1, r with
  | [v], e1, r =>
    simp only [RepL] at r
    obtain ⟨w, wr, rfl, rw', rfl⟩ := r
    obtain ⟨b', c, hb1, hb2, h⟩ := op_add H1 (H0.rep st1 rf) rw' e1 qz
    cases hb1
    exact ⟨⟨c, hb2⟩, PE.back (st0.trans st1) h⟩
  | [], e1, _ => simp [methV] at e1
  | _ :: _ :: _, e1, _ => simp [methV] at e1

theorem base_eq {o : Expr} {m : Str} (h : notSuper o = true) : attributeBase o m env (eval o env) = eval o env := by
  unfold attributeBase
  split
  · simp [notSuper] at h
  · rfl

theorem E_attr {o : Expr} {m : Str} {pos : Pos} {Qo : PV → Hp → Prop} (hn : notSuper o = true) (ho : WE G n env l hp (eval o env) Qo)
    (hq : ∀ v h1, Qo v h1 → ∃ j, v = .ref j ∧ m = Str.ofString "append" ∧ (contents h1 (.ref j)).isSome = true ∧ Q (.app j) h1) : WE G n env l hp (eval (.Attribute o m pos) env) Q := fun A μ s R H X => by
  rw [arm_eval_Attribute, base_eq hn]
  refine wpAny_bind (ho.run R H X fun v s1 pv hp1 μ1 q r H1 X1 st1 => ?_)
  obtain ⟨j, rfl, rfl, hc, q2⟩ := hq _ _ q
  refine wpAny_bind (wpAny_standAt (wpAny_bind (wpAny_holding ?_)))
  refine wpAny_mono (op_attr H1 r hc q2) (fun r2 s2 h => wpAny_bind (wpAny_letTemporaryGo (wpAny_pure (PE.from st1 h)))) fun _ _ e => e

theorem args_few {sc : Scope} {pos : Pos} : ∀ {es : List Expr}, okEs sc es = true → (backTo pos (starEach es env)).all (fun x => !x.1) = true
  | [], _ => rfl
  | e :: es, h => by
      simp only [okEs, Bool.and_eq_true] at h
      rw [star_cons h.1]
      show (true && (backTo pos (starEach es env)).all fun x => !x.1) = true
      rw [args_few h.2]; rfl

theorem E_meth {o : Expr} {m : Str} {mp pos : Pos} {es : List Expr} {sc : Scope} {Qo : PV → Hp → Prop} {Ql : PV → List PV → Hp → Prop} (hm : methNames.contains m = true) (hn : notSuper o = true) (ok : okEs sc es = true) (hlen : es.length ≤ 20) (hline : (mp.endLine == pos.line) = true)
    (ho : WE G n env l hp (eval o env) Qo) (ha : ∀ x h1, Qo x h1 → recv m h1 x ∧ WEs G n env l h1 (spliced (backTo pos (starEach es env))) (Ql x))
    (hq : ∀ x vs h2, Ql x vs h2 → optP (methV m h2 x vs) fun r => Q r.1 r.2) : WE G n env l hp (eval (.Call (.Attribute o m mp) es [] pos) env) Q := fun A μ s R H X => by
  have facts : PlainAttrs (methT m) ∧ Slot (methT m) m (methId m) ∧ typeOf (.builtin (methId m)) = pure (.type "method_descriptor") := by
    have hm' : m = Str.ofString "append" ∨ m = Str.ofString "extend" ∨ m = Str.ofString "insert" ∨ m = Str.ofString "pop" ∨ m = Str.ofString "find" ∨ m = Str.ofString "lstrip" ∨ m = Str.ofString "join" := by
      simpa [methNames] using hm
    rcases hm' with rfl | rfl | rfl | rfl | rfl | rfl | rfl
    · exact ⟨F.plainAttrs_list, F.slot_list_append, F.type_list_append⟩
    · exact ⟨F.plainAttrs_list, F.slot_list_extend, F.type_list_extend⟩
    · exact ⟨F.plainAttrs_list, F.slot_list_insert, F.type_list_insert⟩
    · exact ⟨F.plainAttrs_list, F.slot_list_pop, F.type_list_pop⟩
    · exact ⟨F.plainAttrs_str, F.slot_str_find, F.type_str_find⟩
    · exact ⟨F.plainAttrs_str, F.slot_str_lstrip, F.type_str_lstrip⟩
    · exact ⟨F.plainAttrs_str, F.slot_str_join, F.type_str_join⟩
  refine wpAny_Call_method (base_eq hn) (by rw [args_few ok]; simp [backToKw, keywordEach]; omega) hline facts.1 facts.2.1 facts.2.2 ?_
  refine ho.run R H X fun v s1 pv hp1 μ1 q r H1 X1 st1 => ?_
  obtain ⟨hr, hl⟩ := ha _ _ q
  obtain ⟨hT, _, _, _, hd⟩ := recv_ok hm H1 r hr
  refine ⟨hT, hd, ?_⟩
  refine Calls.callWith_builtin (stars_plain ok) (args_run ok hl R H1 X1 fun vs s2 ps hp2 μ2 q2 r2 H2 X2 st2 => ?_)
  obtain ⟨z, e, qz⟩ := hq _ _ _ q2
  exact PE.back (st1.trans st2) (op_meth R H2 (H1.rep st2 r) r2 e qz)

end

section
open PySem PySem.W PyProof.Rows
open Sem (wp)
set_option linter.unusedVariables false
set_option linter.unusedSimpArgs false
set_option maxRecDepth 100000

variable {G : GI} {n : Nat} {A : Around} {μ μ' : List Addr} {hp hp' : Hp} {s s' : Shared} {Q : PV → Hp → Prop} {env : Env} {l : Loc} {K : Cfg}

/-- a dict or a cell of a frame: nothing that a value or a tracked object is made of -/
def IsStore (o : Obj) : Prop := (∃ es ep, o.data = .dict es ep) ∨ ∃ v, o.data = .cell v
theorem IsStore.notVal {o : Obj} (h : IsStore o) : ¬ IsVal o := by
  rcases h with ⟨_, _, h⟩ | ⟨_, h⟩ <;> simp [IsVal, h]
theorem HR.notMem (H : HR G μ hp s) {a : Addr} {o : Obj} (ho : s.heap.get? a = some o) (h : IsStore o) : a ∉ μ := by
  intro hm
  obtain ⟨i, hi⟩ := List.getElem?_of_mem hm
  have hlt : i < hp.length := by rw [← H.len]; exact (List.getElem?_eq_some_iff.mp hi).1
  have hO := H.obj i a (hp[i]) hi (List.getElem?_eq_getElem hlt)
  cases hq : hp[i] with
  | list vs =>
    rw [hq] at hO; obtain ⟨ws, m, e, _⟩ := hO; rw [ho] at e; cases e
    rcases h with ⟨_, _, h⟩ | ⟨_, h⟩ <;> cases h
  | obj =>
    rw [hq] at hO
    have e : s.heap.get? a = some objO := hO
    rw [ho] at e; cases e
    rcases h with ⟨_, _, h⟩ | ⟨_, h⟩ <;> cases h
  | hid =>
    rw [hq] at hO; obtain ⟨ws, e⟩ := hO; rw [ho] at e; cases e
    rcases h with ⟨_, _, h⟩ | ⟨_, h⟩ <;> cases h
theorem HR.own {a : Addr} {o : Obj} {h' : Heap} {k : Nat} (H : HR G μ hp s) (ha : G.h0.objs.size ≤ a) (ho : s.heap.get? a = some o) (hs : IsStore o) (sb : Heap.SameBut a s.heap h') (hk : 1 ≤ k) :
    HR G μ hp { s with heap := h', toks := k } := by
  have nm : a ∉ μ := H.notMem ho hs
  have keep : ∀ b x, b ≠ a → s.heap.get? b = some x → h'.get? b = some x := fun b x hb e => (sb.2 b hb).trans e
  have vk : VKeep μ s.heap h' := fun b x e hv _ => keep b x (by rintro rfl; rw [ho] at e; cases e; exact hs.notVal hv) e
  refine ⟨fun b x e => keep b x (by rintro rfl; exact absurd (Heap.lt_size e) (Nat.not_lt.mpr ha)) (H.base b x e), ?_, H.os, H.gens, hk, H.nodup, H.len, H.low, fun i b m h1 h2 => ?_⟩
  · obtain ⟨ps, e, ht, hc⟩ := H.tab
    refine ⟨ps, keep _ _ (by rintro rfl; rw [ho] at e; cases e; rcases hs with ⟨_, _, h⟩ | ⟨_, h⟩ <;> cases h) e, ht, fun pos c hp' => ?_⟩
    obtain ⟨b, o', q1, q2, q3, vs, q, t, q4, q5⟩ := hc pos c hp'
    exact ⟨b, o', q1, keep _ _ (by rintro rfl; rw [ho] at q2; cases q2; rcases hs with ⟨_, _, h⟩ | ⟨_, h⟩ <;> (rw [h] at q4; cases q4)) q2, q3, vs, q, t, q4, q5⟩
  · have hb : b ≠ a := fun e => nm (e ▸ List.mem_of_getElem? h1)
    have := H.obj i b m h1 h2
    cases m with
    | list vs => obtain ⟨ws, k, e, r⟩ := this; exact ⟨ws, k, keep _ _ hb e, r.mono vk (Grow.refl _ _)⟩
    | obj => exact keep _ _ hb this
    | hid => obtain ⟨ws, e⟩ := this; exact ⟨ws, keep _ _ hb e⟩
theorem HR.ownRep {a : Addr} {o : Obj} {h' : Heap} (H : HR G μ hp s) (ho : s.heap.get? a = some o) (hs : IsStore o) (sb : Heap.SameBut a s.heap h') {p : PV} {v : Value} (r : Rep μ s.heap p v) : Rep μ h' p v :=
  r.mono (fun b x e hv _ => (sb.2 b (by rintro rfl; rw [ho] at e; cases e; exact hs.notVal hv)).trans e) (Grow.refl _ _)
theorem Stp.own {own : Addr → Prop} {a : Addr} {h' : Heap} {k : Nat} (ha : own a) (sb : Heap.SameBut a s.heap h') (lv : ∃ o, h'.get? a = some o) : Stp G own μ s μ { s with heap := h', toks := k } :=
  StpS.w ⟨fun b o e _ _ h3 => (sb.2 b (fun q => h3 (q ▸ ha))).trans e, Grow.refl _ _, fun b o e => by
    by_cases q : b = a
    · subst q; exact lv
    · exact ⟨o, (sb.2 b q).trans e⟩⟩

theorem lookup_mem {α β : Type} [BEq α] [LawfulBEq α] {x : α} {b : β} : ∀ {l : List (α × β)}, l.lookup x = some b → (x, b) ∈ l
  | [], h => by simp at h
  | (y, c) :: l, h => by
      rw [List.lookup_cons] at h
      split at h
      · rename_i e
        have : x = y := by simpa using e
        cases h; subst this; exact List.mem_cons_self ..
      · exact List.mem_cons_of_mem _ (lookup_mem h)

theorem pair_ne {α : Type} : ∀ {l : List (α × Addr)} {x y : α} {a b : Addr}, l.Pairwise (fun p q => p.2 ≠ q.2) → (x, a) ∈ l → (y, b) ∈ l → x ≠ y → a ≠ b
  | [], _, _, _, _, _, h, _, _ => by simp at h
  | p :: l, x, y, a, b, hp, h1, h2, hne => by
      rw [List.pairwise_cons] at hp
      rcases List.mem_cons.mp h1 with e1 | e1 <;> rcases List.mem_cons.mp h2 with e2 | e2
      · rw [← e1] at e2; cases e2; exact absurd rfl hne
      · have := hp.1 _ e2; rw [← e1] at this; exact this
      · have := hp.1 _ e1; rw [← e2] at this; exact this.symm
      · exact pair_ne hp.2 e1 e2 hne

def ownX (env : Env) (x : Str) : Addr → Prop := fun a => (env.kindOf x = some .local ∧ a = env.locals) ∨ (env.kindOf x = some .cell ∧ env.cells.lookup x = some a)
theorem ownX_of {env : Env} {x : Str} {a : Addr} (h : ownX env x a) : ownOf env a := by
  rcases h with ⟨_, h⟩ | h
  · exact .inl h
  · exact .inr ⟨x, h⟩
def PSX (G : GI) (A : Around) (env : Env) (own : Addr → Prop) (μ : List Addr) (s : Shared) (hp : Hp) (Q : Loc → Prop) : Unit → Shared → Prop := fun _ s' => ∃ l', Q l' ∧ HR G μ hp s' ∧ EnvR G A env l' μ s'.heap ∧ Stp G own μ s μ s'
def PS (G : GI) (A : Around) (env : Env) (μ : List Addr) (s : Shared) (hp : Hp) (Q : Loc → Prop) : Unit → Shared → Prop := fun _ s' => ∃ l', Q l' ∧ HR G μ hp s' ∧ EnvR G A env l' μ s'.heap ∧ Stp G (ownOf env) μ s μ s'

theorem sto_iff {sc : Scope} {x : Str} (h : stoOk sc x = true) : (sc.names.lookup x = some .local ∨ sc.names.lookup x = some .cell) ∧ (x == ("__debug__" : Str)) = false ∧ (x == ("__classdict__" : Str)) = false := by
  simp only [stoOk, Bool.and_eq_true, Bool.or_eq_true, Bool.not_eq_true', beq_iff_eq] at h
  exact ⟨h.1.1, h.1.2, h.2⟩

theorem store_runX {x : Str} {pv : PV} {v : Value} {P : Loc → Prop} (hs : stoOk env.scope x = true) (H : HR G μ hp s) (X : EnvR G A env l μ s.heap) (r : Rep μ s.heap pv v) (q : P (upd l x pv)) :
    wpAny G.M A (storeName env x v) (PSX G A env (ownX env x) μ s hp P) noE s := by
  obtain ⟨hk, hd, hc⟩ := sto_iff hs
  have ht := H.toks
  obtain ⟨m, hns, hm⟩ := X.ns
  have hns' := hns
  obtain ⟨o, es, ep, e, hdat, hr⟩ := hns
  rcases hk with hk | hk
  · refine wpAny_storeName_local (m := m) hk hns' (fun h' hn' sb => ?_) (by simp [X.kind])
    have st : IsStore o := .inl ⟨es, ep, hdat⟩
    refine ⟨_, q, H.own X.low e st sb (by omega), ⟨?_, X.kind, X.glob, X.blt, X.low, X.lows, X.apart, X.code, X.frs.but sb (fun _ _ _ _ _ => let ⟨o', es', ep', e', hd', _⟩ := hn'; ⟨o', es', ep', e', hd'⟩), ⟨_, hn', ?_⟩, ?_⟩, Stp.own (.inl ⟨hk, rfl⟩) sb (let ⟨o', _, _, e', _⟩ := hn'; ⟨o', e'⟩)⟩
    · intro y pv' hy
      unfold upd at hy
      split at hy
      · rename_i e; subst e; exact ⟨.inl hk, hd, hc⟩
      · exact X.dom y pv' hy
    · intro y pv' hy1 hy2
      unfold upd at hy2
      split at hy2
      · rename_i e; subst e; cases hy2
        exact ⟨v, by simp, H.ownRep (by exact ‹s.heap.get? env.locals = some o›) st sb r⟩
      · rename_i hne
        obtain ⟨w, h1, h2⟩ := hm y pv' hy1 hy2
        exact ⟨w, by simp [hne, h1], H.ownRep (by assumption) st sb h2⟩
    · intro y hy
      have hyx : y ≠ x := by rintro rfl; rcases hy with q | q <;> (rw [Env.kindOf, hk] at q; cases q)
      obtain ⟨c, ov, h1, ⟨o2, h2, h3⟩, h4⟩ := X.cel y hy
      have hca : c ≠ env.locals := by rintro rfl; rw [e] at h2; cases h2; rw [hdat] at h3; cases h3
      refine ⟨c, ov, h1, ⟨o2, (sb.2 c hca).trans h2, h3⟩, fun pv' hl => ?_⟩
      rw [upd_other _ _ hyx] at hl
      obtain ⟨w, h5, h6⟩ := h4 pv' hl
      exact ⟨w, h5, H.ownRep e st sb h6⟩
  · obtain ⟨c, ov, h1, h2, h4⟩ := X.cel x (.inl hk)
    have h2' := h2
    obtain ⟨o2, h2, h3⟩ := h2
    refine wpAny_storeName_cell X.kind hk h1 h2' fun h' hc' sb => ?_
    have st : IsStore o2 := .inr ⟨_, h3⟩
    have hcl : G.h0.objs.size ≤ c := X.lows x c (lookup_mem h1)
    have hca : env.locals ≠ c := by rintro hq; rw [hq, h2] at e; cases e; rw [hdat] at h3; cases h3
    have HH := H.own (k := s.toks) hcl h2 st sb ht
    refine ⟨_, q, HH, ⟨?_, X.kind, X.glob, X.blt, X.low, X.lows, X.apart, X.code, X.frs.but sb (fun o5 _ _ e5 hd5 => by rw [h2] at e5; cases e5; rw [h3] at hd5; cases hd5), ⟨m, hns'.sameBut sb hca, ?_⟩, ?_⟩, Stp.own (k := s.toks) (.inr ⟨hk, h1⟩) sb (let ⟨o', e', _⟩ := hc'; ⟨o', e'⟩)⟩
    · intro y pv' hy
      unfold upd at hy
      split at hy
      · rename_i e; subst e; exact ⟨.inr (.inl hk), hd, hc⟩
      · exact X.dom y pv' hy
    · intro y pv' hy1 hy2
      have hyx : y ≠ x := by rintro rfl; rw [Env.kindOf, hk] at hy1; cases hy1
      rw [upd_other _ _ hyx] at hy2
      obtain ⟨w, h5, h6⟩ := hm y pv' hy1 hy2
      exact ⟨w, h5, H.ownRep h2 st sb h6⟩
    · intro y hy
      by_cases hyx : y = x
      · subst hyx
        refine ⟨c, some v, h1, hc', fun pv' hl => ?_⟩
        rw [upd_same] at hl; cases hl
        exact ⟨v, rfl, H.ownRep h2 st sb r⟩
      · obtain ⟨c2, ov2, h5, ⟨o3, h6, h7⟩, h8⟩ := X.cel y hy
        have hcc : c2 ≠ c := pair_ne X.apart (lookup_mem h5) (lookup_mem h1) hyx
        refine ⟨c2, ov2, h5, ⟨o3, (sb.2 c2 hcc).trans h6, h7⟩, fun pv' hl => ?_⟩
        rw [upd_other _ _ hyx] at hl
        obtain ⟨w, h9, h10⟩ := h8 pv' hl
        exact ⟨w, h9, H.ownRep h2 st sb h10⟩

theorem store_run {x : Str} {pv : PV} {v : Value} {P : Loc → Prop} (hs : stoOk env.scope x = true) (H : HR G μ hp s) (X : EnvR G A env l μ s.heap) (r : Rep μ s.heap pv v) (q : P (upd l x pv)) :
    wpAny G.M A (storeName env x v) (PS G A env μ s hp P) noE s :=
  wpAny_mono (store_runX hs H X r q) (fun _ s' ⟨l', q, H, X, st⟩ => ⟨l', q, H, X, st.weak fun _ h => ownX_of h⟩) fun _ _ e => e

end

section
open PySem PySem.W PyProof.Rows
open Sem (wp)
set_option linter.unusedVariables false
set_option linter.unusedSimpArgs false
set_option maxRecDepth 100000

variable {G : GI} {n : Nat} {A : Around} {μ μ' : List Addr} {hp hp' : Hp} {s s' : Shared} {Q : PV → Hp → Prop} {env : Env} {l : Loc} {K : Cfg}

theorem EnvR.rep {p : PV} {v : Value} (X : EnvR G A env l μ s.heap) (H : HR G μ hp s) (x : Stp G (ownOf env) μ s μ' s') (r : Rep μ s.heap p v) : Rep μ' s'.heap p v := r.mono (H.vkeep x X.ownVal) x.grow
theorem EnvR.repL {p : List PV} {v : List Value} (X : EnvR G A env l μ s.heap) (H : HR G μ hp s) (x : Stp G (ownOf env) μ s μ' s') (r : RepL μ s.heap p v) : RepL μ' s'.heap p v := r.mono (H.vkeep x X.ownVal) x.grow
theorem Stp.ext {own : Addr → Prop} (μ : List Addr) {s' : Shared} (k : ∀ a o, s.heap.get? a = some o → s'.heap.get? a = some o) : Stp G own μ s μ s' := StpS.w ⟨fun a o e _ _ _ => k a o e, Grow.refl _ _, fun a o e => ⟨o, k a o e⟩⟩

theorem updL_snoc : ∀ (xs : List Str) (vs : List PV) (l : Loc) (x : Str) (v : PV), xs.length = vs.length → updL l (xs ++ [x]) (vs ++ [v]) = upd (updL l xs vs) x v
  | [], [], l, x, v, _ => rfl
  | y :: ys, w :: ws, l, x, v, h => by
      show updL (upd l y w) (ys ++ [x]) (ws ++ [v]) = _
      rw [updL_snoc ys ws _ x v (by simpa using h)]; rfl
  | [], _ :: _, _, _, _, h => by simp at h
  | _ :: _, [], _, _, _, h => by simp at h
theorem upd_comm (l : Loc) {x y : Str} (v w : PV) (h : x ≠ y) : upd (upd l x v) y w = upd (upd l y w) x v := by
  funext z; unfold upd
  by_cases h1 : z = y <;> by_cases h2 : z = x
  · subst h1; exact absurd h2.symm h
  · rw [if_pos h1, if_neg h2, if_pos h1]
  · rw [if_neg h1, if_pos h2, if_pos h2]
  · rw [if_neg h1, if_neg h2, if_neg h2, if_neg h1]
theorem updL_upd : ∀ (xs : List Str) (vs : List PV) (l : Loc) (x : Str) (v : PV), x ∉ xs → updL (upd l x v) xs vs = upd (updL l xs vs) x v
  | [], _, l, x, v, _ => by cases ‹List PV› <;> rfl
  | _ :: _, [], l, x, v, _ => rfl
  | y :: ys, w :: ws, l, x, v, h => by
      simp only [List.mem_cons, not_or] at h
      show updL (upd (upd l x v) y w) ys ws = upd (updL (upd l y w) ys ws) x v
      rw [upd_comm _ _ _ h.1, updL_upd ys ws _ x v h.2]
theorem updL_rev : ∀ (xs : List Str) (vs : List PV) (l : Loc), xs.Nodup → xs.length = vs.length → updL l xs.reverse vs.reverse = updL l xs vs
  | [], [], l, _, _ => rfl
  | x :: xs, v :: vs, l, hd, hl => by
      rw [List.nodup_cons] at hd
      rw [List.reverse_cons, List.reverse_cons, updL_snoc _ _ _ _ _ (by simpa using hl), updL_rev xs vs l hd.2 (by simpa using hl), ← updL_upd _ _ _ _ _ hd.1]; rfl
  | [], _ :: _, _, _, h => by simp at h
  | _ :: _, [], _, _, h => by simp at h

/-- stores into names, in order -/
inductive Stores (G : GI) (env : Env) : List (Value → Sem Unit) → List Str → Prop where
  | nil : Stores G env [] []
  | cons {t : Value → Sem Unit} {ts : List (Value → Sem Unit)} {x : Str} {xs : List Str} (h : ∀ A s v Q E, wpAny G.M A (storeName env x v) Q E s → wpAny G.M A (t v) Q E s) (hs : stoOk env.scope x = true) (r : Stores G env ts xs) : Stores G env (t :: ts) (x :: xs)

theorem PSX.trans {own : Addr → Prop} {P : Loc → Prop} {t : Sem Unit} {s1 : Shared} (st : Stp G own μ s μ s1) (h : wpAny G.M A t (PSX G A env own μ s1 hp P) noE s1) : wpAny G.M A t (PSX G A env own μ s hp P) noE s1 :=
  wpAny_mono h (fun _ s2 ⟨l2, q, H, X, st2⟩ => ⟨l2, q, H, X, st.trans st2⟩) fun _ _ e => e

theorem Stores.run {own : Addr → Prop} {ts : List (Value → Sem Unit)} {xs : List Str} (S : Stores G env ts xs) : ∀ {s : Shared} {l : Loc} {ps : List PV} {vs : List Value} {P : Loc → Prop}, (∀ x ∈ xs, ∀ a, ownX env x a → own a) → ps.length = xs.length → HR G μ hp s → EnvR G A env l μ s.heap → RepL μ s.heap ps vs → P (updL l xs ps) →
    wpAny G.M A (assignInOrder ts vs) (PSX G A env own μ s hp P) noE s := by
  induction S with
  | nil =>
    intro s l ps vs P ho hl H X r q
    exact assignInOrder_nil ⟨l, by cases ps <;> exact q, H, X, Stp.refl _ _⟩
  | cons h hs _ ih =>
    intro s l ps vs P ho hl H X r q
    cases ps with
    | nil => simp at hl
    | cons p ps =>
      simp only [RepL] at r
      obtain ⟨w, wr, rfl, r0, rs⟩ := r
      refine assignInOrder_cons (h _ _ _ _ _ (wpAny_mono (store_runX (P := fun l' => l' = upd l _ p) hs H X r0 rfl) (fun _ s1 h1 => ?_) fun _ _ e => e))
      obtain ⟨l1, rfl, H1, X1, st1⟩ := h1
      exact PSX.trans (st1.weak (ho _ (List.mem_cons_self ..))) (ih (fun x hx => ho x (List.mem_cons_of_mem _ hx)) (by simpa using hl) H1 X1 (X.repL H (st1.weak fun _ h => ownX_of h) rs) q)

theorem names_stores : ∀ {es : List Expr} {xs : List Str}, tgtNames es = some xs → (∀ x ∈ xs, stoOk env.scope x = true) →
    Stores G env ((assignEach es env).map (·.2)) xs ∧ (assignEach es env).length = xs.length ∧ (assignEach es env).findIdx? (·.1) = none
  | [], xs, h, _ => by simp only [tgtNames] at h; cases h; exact ⟨.nil, rfl, rfl⟩
  | e :: es, xs, h, hs => by
      cases e <;> simp only [tgtNames] at h <;> try (cases h; done)
      rename_i x p
      obtain ⟨ys, h1, rfl⟩ := Option.map_eq_some_iff.mp h
      obtain ⟨a, b, c⟩ := names_stores (es := es) (xs := ys) h1 fun y hy => hs y (List.mem_cons_of_mem _ hy)
      refine ⟨.cons (fun A s v Q E hh => wpAny_assign_Name hh) (hs x (List.mem_cons_self ..)) a, ?_, ?_⟩
      · show (assignEach es env).length + 1 = _; rw [b]; rfl
      · show List.findIdx? (·.1) ((false, assign (.Name x p) env) :: assignEach es env) = none
        rw [List.findIdx?_cons]; simp [c]
theorem swap_stores : ∀ {xs : List Str}, (∀ x ∈ xs, stoOk env.scope x = true) → Stores G env (xs.map fun n => bindName env n) xs
  | [], _ => .nil
  | x :: xs, h => .cons (fun A s v Q E hh => wpAny_bindName hh) (h x (List.mem_cons_self ..)) (swap_stores fun y hy => h y (List.mem_cons_of_mem _ hy))

theorem tgt_names {es : List Expr} {xs : List Str} {k : Nat} {p : Pos} {sc : Scope} (h : tgtNames es = some xs) (ok : tgtOk sc (.Tuple es k p) = true) : ∀ x ∈ xs, stoOk sc x = true := by
  simp only [tgtOk] at ok
  induction es generalizing xs with
  | nil => simp only [tgtNames] at h; cases h; intro x hx; cases hx
  | cons e es ih =>
    cases e <;> simp only [tgtNames] at h <;> try (cases h; done)
    rename_i y p
    obtain ⟨ys, h1, rfl⟩ := Option.map_eq_some_iff.mp h
    simp only [List.all_cons, Bool.and_eq_true] at ok
    intro x hx
    rcases List.mem_cons.mp hx with rfl | hx
    · exact ok.1
    · exact ih h1 ok.2 x hx

def tNames : Expr → List Str
  | .Name x _ => [x]
  | .Tuple es _ _ => (tgtNames es).getD []
  | _ => []
/-- a target takes a value -/
theorem bind_runX {own : Addr → Prop} {t : Expr} {pv : PV} {v : Value} {P : Loc → Prop} (hh : A.handled = none) (ok : tgtOk env.scope t = true) (ho : ∀ x ∈ tNames t, ∀ a, ownX env x a → own a) (H : HR G μ hp s) (X : EnvR G A env l μ s.heap) (r : Rep μ s.heap pv v) (q : bindT t hp pv l P) :
    wpAny G.M A (assign t env v) (PSX G A env own μ s hp P) noE s := by
  unfold bindT at q
  split at q
  · exact wpAny_assign_Name (wpAny_mono (store_runX ok H X r q) (fun _ s' ⟨l', q, H, X, st⟩ => ⟨l', q, H, X, st.weak (ho _ (by simp [tNames]))⟩) fun _ _ e => e)
  · obtain ⟨xs, hx, q⟩ := q
    split at q
    · rename_i vs
      obtain ⟨hl, q⟩ := q
      simp only [Rep] at r
      obtain ⟨a, ws, rfl, hob, rs, _⟩ := r
      obtain ⟨h1, h2, h3⟩ := names_stores (G := G) (env := env) hx (tgt_names hx ok)
      have n1 : ws.size = vs.length := by simpa using rs.length
      refine wpAny_assign_Tuple hh ⟨_, hob, rfl, _, rfl⟩ (by rw [h2, n1, hl]) h3 fun h' he => ?_
      have k : ∀ b o, s.heap.get? b = some o → h'.get? b = some o := fun b o e => he b o (by rintro rfl; rw [Heap.get?_size] at e; cases e) e
      have st0 : Stp G noOwn μ s μ { s with heap := h' } := Stp.ext μ k
      have H' : HR G μ hp { s with heap := h' } := H.ext k rfl rfl H.toks
      exact PSX.trans st0.up (h1.run (fun x hx' => ho x (by simp [tNames, hx]; exact hx')) hl H' (X.step H st0) (H.repL st0 rs) q)
    · exact q.elim
  · exact q.elim
theorem bind_run {t : Expr} {pv : PV} {v : Value} {P : Loc → Prop} (hh : A.handled = none) (ok : tgtOk env.scope t = true) (H : HR G μ hp s) (X : EnvR G A env l μ s.heap) (r : Rep μ s.heap pv v) (q : bindT t hp pv l P) :
    wpAny G.M A (assign t env v) (PS G A env μ s hp P) noE s := bind_runX hh ok (fun _ _ _ h => ownX_of h) H X r q

theorem unpack_run {a : Addr} {ws : Array Value} {P : List Value → Shared → Prop} (hh : A.handled = none) (ho : s.heap.get? a = some (tupO ws)) (H : HR G μ hp s)
    (h : ∀ s', HR G μ hp s' → Stp G noOwn μ s μ s' → P ws.toList s') : wpAny G.M A (unpackItems (.ref a) ws.size none) P noE s := by
  refine wpAny_unpackItems_tuple hh ⟨_, ho, rfl, _, rfl⟩ fun h' he => ?_
  have k : ∀ b o, s.heap.get? b = some o → h'.get? b = some o := fun b o e => he b o (by rintro rfl; rw [Heap.get?_size] at e; cases e) e
  exact h _ (H.ext k rfl rfl H.toks) (Stp.ext μ k)

def PF (G : GI) (A : Around) (env : Env) (μ : List Addr) (s : Shared) (Q : Fl → Loc → Hp → Prop) : Flow → Shared → Prop :=
  fun f s' => ∃ fl loc' hp' μ', Q fl loc' hp' ∧ FlR μ' s'.heap fl f ∧ HR G μ' hp' s' ∧ EnvR G A env loc' μ' s'.heap ∧ Stp G (ownOf env) μ s μ' s'
theorem PF.back {Q : Fl → Loc → Hp → Prop} {t : Sem Flow} {s'' : Shared} (x : Stp G (ownOf env) μ s μ' s') (h : wpAny G.M A t (PF G A env μ' s' Q) noE s'') : wpAny G.M A t (PF G A env μ s Q) noE s'' :=
  wpAny_mono h (fun _ _ ⟨f, l, h1, m, q, r, H, X, st⟩ => ⟨f, l, h1, m, q, r, H, X, x.trans st⟩) fun _ _ e => e

theorem swaps_none {e : Expr} {t : Option Expr} {ln : Nat} (h : notComp e = true) : swapsWith e t ln env = pure false := by
  cases e <;> first | rfl | (simp [notComp] at h)

theorem S_expr {e : Expr} {p : Pos} {Q : Fl → Loc → Hp → Prop} {Qe : PV → Hp → Prop} (hc : notComp e = true) (he : WE G n env l hp (eval e env) Qe) (hq : ∀ v h1, Qe v h1 → v = .none ∧ Q .next l h1) :
    WS G n env l hp (exec (.Expr e p) env) Q := fun A μ s R H X => by
  rw [arm_exec_Expr]
  refine wpAny_bind (wpAny_standAt ?_)
  rw [if_neg (by simp [interactive, X.kind])]
  rw [swaps_none hc]
  refine wpAny_bind (wpAny_pure ?_)
  rw [if_neg (by decide)]
  refine wpAny_bind (he.run R H X fun v s1 pv hp1 μ1 q r H1 X1 st1 => ?_)
  obtain ⟨rfl, q2⟩ := hq _ _ q
  simp only [Rep] at r; subst r
  have : dropValue e p Value.none = pure .next := by unfold dropValue; split <;> first | rfl | (rename_i h; cases h)
  rw [this]
  exact wpAny_pure ⟨.next, l, hp1, μ1, q2, trivial, H1, X1, st1.up⟩

theorem S_assign {x : Str} {xp p : Pos} {e : Expr} {Q : Fl → Loc → Hp → Prop} {Qe : PV → Hp → Prop} (hc : notComp e = true) (ok : stoOk env.scope x = true) (he : WE G n env l hp (eval e env) Qe) (hq : ∀ v h1, Qe v h1 → Q .next (upd l x v) h1) :
    WS G n env l hp (exec (.Assign [.Name x xp] e p) env) Q := fun A μ s R H X => by
  rw [exec_Assign]
  refine wpAny_bind (wpAny_standAt ?_)
  show wpAny _ _ (swapsWith e (some (.Name x xp)) p.line env >>= _) _ _ _
  rw [swaps_none hc]
  refine wpAny_bind (wpAny_pure ?_)
  rw [if_neg (by decide)]
  refine wpAny_bind (he.run R H X fun v s1 pv hp1 μ1 q r H1 X1 st1 => ?_)
  have hw : swappedStores [.Name x xp] e env = pure none := by unfold swappedStores; split <;> first | rfl | (rename_i h; simp at h)
  rw [hw]
  refine wpAny_bind (wpAny_pure ?_)
  show wpAny _ _ (assign (.Name x xp) env v >>= fun _ => pure Flow.next) _ _ _
  refine wpAny_bind (wpAny_mono (wpAny_assign_Name (store_run ok H1 X1 r (P := fun l' => l' = upd l x pv) rfl)) (fun _ s2 h2 => ?_) fun _ _ e => e)
  obtain ⟨l2, rfl, H2, X2, st2⟩ := h2
  exact wpAny_pure ⟨.next, _, hp1, μ1, hq _ _ q, trivial, H2, X2, st1.up.trans st2⟩

theorem RepL.reverse {h : Heap} : ∀ {ps : List PV} {vs : List Value}, RepL μ h ps vs → RepL μ h ps.reverse vs.reverse
  | [], _, e => by simp only [RepL] at e; subst e; simp [RepL]
  | p :: ps, _, e => by
      simp only [RepL] at e
      obtain ⟨w, wr, rfl, h0, h1⟩ := e
      rw [List.reverse_cons, List.reverse_cons]
      exact (RepL.reverse h1).append (RepL.one h0)

theorem filter_names (f : Str → Pos → Bool) : ∀ {es : List Expr} {xs : List Str}, tgtNames es = some xs →
    (es.filterMap fun e => match e with | .Name id pos => if f id pos = true then some id else none | _ => none).length ≤ es.length ∧
    ((es.filterMap fun e => match e with | .Name id pos => if f id pos = true then some id else none | _ => none).length = es.length →
      (es.filterMap fun e => match e with | .Name id pos => if f id pos = true then some id else none | _ => none) = xs)
  | [], xs, h => by simp only [tgtNames] at h; cases h; simp
  | e :: es, xs, h => by
      cases e <;> simp only [tgtNames] at h <;> try (cases h; done)
      rename_i x p
      obtain ⟨ys, h1, rfl⟩ := Option.map_eq_some_iff.mp h
      obtain ⟨a, b⟩ := filter_names f h1
      rw [List.filterMap_cons]
      by_cases hf : f x p = true
      · simp only [hf, if_true, List.length_cons]
        exact ⟨by omega, fun q => by rw [b (by omega)]⟩
      · have hf' : f x p = false := by simpa using hf
        simp only [hf', Bool.false_eq_true, if_false, List.length_cons]
        exact ⟨by omega, fun q => by omega⟩

theorem swapped_cases {es : List Expr} {k : Nat} {tp : Pos} {e : Expr} {xs : List Str} (hx : tgtNames es = some xs) (ok : okSwap e = true) :
    swappedStores [.Tuple es k tp] e env = pure none ∨ swappedStores [.Tuple es k tp] e env = pure (some xs) := by
  cases e with
  | Tuple vs kk pp =>
    unfold swappedStores
    simp only []
    split
    · exact .inl rfl
    split
    · exact .inl rfl
    split
    · exact .inl rfl
    rename_i h1 h2 h3
    split
    · exact .inl rfl
    rename_i h4
    split
    · rename_i h5
      simp only [okSwap, Bool.or_eq_true, Bool.not_eq_true'] at ok
      rcases ok with ok | ok
      · rw [h5] at ok; cases ok
      · exact absurd ok h4
    · right
      simp only [Bool.or_eq_true, not_or, bne_iff_ne, ne_eq, Decidable.not_not] at h3
      have := (filter_names (fun id pos => env.kindOf id == some .local && pos.line == (es.head?.map (·.pos.line)).getD 0) hx).2 h3.1
      exact congrArg (fun z => pure (some z)) this
  | _ => exact .inl rfl

theorem S_assign_tuple {es : List Expr} {k : Nat} {tp p : Pos} {e : Expr} {Q : Fl → Loc → Hp → Prop} {Qe : PV → Hp → Prop} (hc : notComp e = true) (ok : tgtOk env.scope (.Tuple es k tp) = true) (hn : ((tgtNames es).getD []).Nodup) (hsw : okSwap e = true)
    (he : WE G n env l hp (eval e env) Qe) (hq : ∀ v h1, Qe v h1 → bindT (.Tuple es k tp) h1 v l fun l1 => Q .next l1 h1) :
    WS G n env l hp (exec (.Assign [.Tuple es k tp] e p) env) Q := fun A μ s R H X => by
  rw [exec_Assign]
  refine wpAny_bind (wpAny_standAt ?_)
  show wpAny _ _ (swapsWith e (some (.Tuple es k tp)) p.line env >>= _) _ _ _
  rw [swaps_none hc]
  refine wpAny_bind (wpAny_pure ?_)
  rw [if_neg (by decide)]
  refine wpAny_bind (he.run R H X fun v s1 pv hp1 μ1 q r H1 X1 st1 => ?_)
  have q2 := hq _ _ q
  have q2' := q2
  unfold bindT at q2'
  obtain ⟨xs, hx, q3⟩ := q2'
  rcases swapped_cases (env := env) (k := k) (tp := tp) hx hsw with hw | hw
  · rw [hw]
    refine wpAny_bind (wpAny_pure ?_)
    show wpAny _ _ (assign (.Tuple es k tp) env v >>= fun _ => pure Flow.next) _ _ _
    refine wpAny_bind (wpAny_mono (bind_run R.handled ok H1 X1 r q2) (fun _ s2 h2 => ?_) fun _ _ e => e)
    obtain ⟨l2, q4, H2, X2, st2⟩ := h2
    exact wpAny_pure ⟨.next, _, hp1, μ1, q4, trivial, H2, X2, st1.up.trans st2⟩
  · rw [hw]
    refine wpAny_bind (wpAny_pure ?_)
    show wpAny _ _ (do rule "assign.swapped-stores"; let items ← unpackItems v xs.length none; assignInOrder (xs.reverse.map fun n => bindName env n) items.reverse; pure Flow.next) _ _ _
    refine wpAny_bind (wpAny_rule ?_)
    split at q3
    · rename_i vs
      obtain ⟨hl, q4⟩ := q3
      simp only [Rep] at r
      obtain ⟨a, ws, rfl, ho, rs, _⟩ := r
      have n1 : ws.size = vs.length := by simpa using rs.length
      rw [show xs.length = ws.size by omega]
      refine wpAny_bind (unpack_run R.handled ho H1 fun s2 H2 st2 => ?_)
      have X2 := X1.step H1 st2
      have hn' : xs.Nodup := by rw [hx] at hn; exact hn
      have S : Stores G env (xs.reverse.map fun n => bindName env n) xs.reverse := swap_stores fun x hx' => tgt_names hx ok x (by simpa using hx')
      have rr : RepL μ1 s2.heap vs.reverse ws.toList.reverse := (H1.repL st2 rs).reverse
      refine wpAny_bind (wpAny_mono (S.run (own := ownOf env) (P := fun l' => l' = updL l xs vs) (fun _ _ _ h => ownX_of h) (by simpa using hl) H2 X2 rr (updL_rev xs vs l hn' hl.symm)) (fun _ s3 h3 => ?_) fun _ _ e => e)
      obtain ⟨l2, rfl, H3, X3, st3⟩ := h3
      exact wpAny_pure ⟨.next, _, hp1, μ1, q4, trivial, H3, X3, (st1.trans st2).up.trans st3⟩
    · exact q3.elim

theorem S_assign_sub {o i e : Expr} {sp p : Pos} {Q : Fl → Loc → Hp → Prop} {Qe : PV → Hp → Prop} {Qo : PV → PV → Hp → Prop} (hc : notComp e = true)
    (he : WE G n env l hp (eval e env) Qe) (ho : ∀ v h1, Qe v h1 → WE G n env l h1 (eval o env) (Qo v)) (hi : ∀ v x h2, Qo v x h2 → WE G n env l h2 (eval i env) fun y h3 => optP (storeV h3 x y v) fun h4 => Q .next l h4) :
    WS G n env l hp (exec (.Assign [.Subscript o i sp] e p) env) Q := fun A μ s R H X => by
  rw [exec_Assign]
  refine wpAny_bind (wpAny_standAt ?_)
  show wpAny _ _ (swapsWith e (some (.Subscript o i sp)) p.line env >>= _) _ _ _
  rw [swaps_none hc]
  refine wpAny_bind (wpAny_pure ?_)
  rw [if_neg (by decide)]
  refine wpAny_bind (he.run R H X fun v s1 pv hp1 μ1 q r H1 X1 st1 => ?_)
  have hw : swappedStores [.Subscript o i sp] e env = pure none := by unfold swappedStores; split <;> first | rfl | (rename_i h; simp at h)
  rw [hw]
  refine wpAny_bind (wpAny_pure ?_)
  show wpAny _ _ (assign (.Subscript o i sp) env v >>= fun _ => pure Flow.next) _ _ _
  rw [arm_assign_Subscript]
  refine wpAny_bind (wpAny_bind (wpAny_holding ((ho _ _ q).run R H1 X1 fun ov s2 po hp2 μ2 q2 r2 H2 X2 st2 => ?_)))
  refine wpAny_bind (wpAny_holding ((hi _ _ _ q2).run R H2 X2 fun iv s3 pi hp3 μ3 q3 r3 H3 X3 st3 => ?_))
  obtain ⟨h4, e4, q4⟩ := q3
  refine wpAny_bind (wpAny_standAt (wpAny_bind (wpAny_holding (wpAny_mono (op_store (R := fun h => h = h4) H3 (H2.rep st3 r2) r3 (H2.rep st3 (H1.rep st2 r)) e4 rfl) (fun _ s4 h => ?_) fun _ _ e => e))))
  obtain ⟨hp4, rfl, H4, st4⟩ := h
  refine wpAny_release (wpAny_pure ⟨.next, l, hp4, μ3, q4, trivial, H4, X3.step H3 st4, (((st1.trans st2).trans st3).trans st4).up⟩)

theorem S_aug {x : Str} {xp p : Pos} {op : Operator} {e : Expr} {old : PV} {Q : Fl → Loc → Hp → Prop} (ok : stoOk env.scope x = true) (ho : l x = some old)
    (he : WE G n env l hp (eval e env) fun v h1 => optP (augV op h1 old v) fun r => Q .next (upd l x r) h1) :
    WS G n env l hp (exec (.AugAssign (.Name x xp) op e p) env) Q := fun A μ s R H X => by
  rw [arm_exec_AugAssign]
  refine wpAny_bind (wpAny_standAt ?_)
  have hd := (X.dom x old ho).2.1
  have hN := E_name (G := G) (n := n) (env := env) (hp := hp) (p := xp) (Q := fun p h => p = old ∧ h = hp) ho ⟨rfl, rfl⟩
  have hN' : WE G n env l hp (loadName env x) (fun p h => p = old ∧ h = hp) := by
    obtain ⟨hk, hd, hcd⟩ := X.dom x old ho
    intro A μ s R H X
    have hPE : ∀ v, Rep μ s.heap old v → PE G μ s (fun p h => p = old ∧ h = hp) v s := fun v r => PE_here H r ⟨rfl, rfl⟩
    rcases hk with hk | hk | hk
    · obtain ⟨m, hns, hm⟩ := X.ns
      obtain ⟨v, h1, h2⟩ := hm x old hk ho
      unfold loadName
      simp only [Env.blockKind, X.kind, hk, ScopeKind.isAnnotationScope, Bool.false_and, Bool.false_eq_true, if_false]
      refine wpAny_bind (wpAny_nsGet hns ?_)
      rw [h1]
      exact wpAny_pure (hPE v h2)
    · obtain ⟨c, ov, h1, h2, h3⟩ := X.cel x (.inl hk)
      obtain ⟨v, rfl, h4⟩ := h3 old ho
      exact wpAny_loadName_cell X.kind hk h1 h2 (hPE v h4)
    · obtain ⟨c, ov, h1, h2, h3⟩ := X.cel x (.inr hk)
      obtain ⟨v, rfl, h4⟩ := h3 old ho
      exact loadName_free X.kind hk h1 hcd h2 (hPE v h4)
  refine wpAny_bind (hN'.run R H X fun v0 s0 p0 hp0 μ0 q0 r0 H0 X0 st0 => ?_)
  obtain ⟨rfl, rfl⟩ := q0
  refine wpAny_bind (wpAny_holding (he.run R H0 X0 fun v s1 pv hp1 μ1 q r H1 X1 st1 => ?_))
  obtain ⟨z, ez, qz⟩ := q
  refine wpAny_bind (wpAny_standAt (wpAny_bind (wpAny_operating (wpAny_mono (op_aug (Q := fun p h => p = z ∧ h = hp1) R H1 (H0.rep st1 r0) r ez ⟨rfl, rfl⟩) (fun v2 s2 h2 => ?_) fun _ _ e => e))))
  obtain ⟨_, _, μ2, ⟨rfl, rfl⟩, r2, H2, st2⟩ := h2
  have X2 := X1.step H1 st2
  refine wpAny_bind (wpAny_standAt (wpAny_bind (wpAny_bindName (wpAny_mono (store_run (P := fun l' => l' = upd l x _) ok H2 X2 r2 rfl) (fun _ s3 h3 => ?_) fun _ _ e => e))))
  obtain ⟨l2, rfl, H3, X3, st3⟩ := h3
  exact wpAny_pure ⟨.next, _, _, μ2, qz, trivial, H3, X3, ((st0.trans st1).trans st2).up.trans st3⟩

theorem S_aug_sub {o i e : Expr} {sp p : Pos} {op : Operator} {Q : Fl → Loc → Hp → Prop} {Qo : PV → Hp → Prop} {Qi : PV → PV → PV → Hp → Prop} (hsl : notSlice i = true)
    (ho : WE G n env l hp (eval o env) Qo) (hi : ∀ x h1, Qo x h1 → WE G n env l h1 (eval i env) fun y h2 => optP (itemV h2 x y) fun old => Qi x y old h2)
    (he : ∀ x y old h2, Qi x y old h2 → WE G n env l h2 (eval e env) fun v h3 => optP (augV op h3 old v) fun r => optP (storeV h3 x y r) fun h4 => Q .next l h4) :
    WS G n env l hp (exec (.AugAssign (.Subscript o i sp) op e p) env) Q := fun A μ s R H X => by
  rw [arm_exec_AugAssign_3]
  refine wpAny_bind (wpAny_standAt (wpAny_bind (ho.run R H X fun ov s1 po hp1 μ1 q1 r1 H1 X1 st1 => ?_)))
  refine wpAny_bind (wpAny_holding ((hi _ _ q1).run R H1 X1 fun iv s2 pi hp2 μ2 q2 r2 H2 X2 st2 => ?_))
  obtain ⟨old, e2, q2⟩ := q2
  have ro := H1.rep st2 r1
  refine wpAny_bind (wpAny_holding (wpAny_bind (wpAny_standAt (wpAny_bind (wpAny_mono (op_item (Q := fun p h => p = old ∧ h = hp2) R H2 ro r2 e2 ⟨rfl, rfl⟩) (fun v3 s3 h3 => ?_) fun _ _ e => e)))))
  obtain ⟨_, _, μ3, ⟨rfl, rfl⟩, r3, H3, st3⟩ := h3
  have X3 := X2.step H2 st3
  refine wpAny_bind (wpAny_holding ((he _ _ _ _ q2).run R H3 X3 fun v s4 pv hp4 μ4 q4 r4 H4 X4 st4 => ?_))
  obtain ⟨z, ez, h5, e5, q5⟩ := q4
  refine wpAny_bind (wpAny_standAt (wpAny_operating (wpAny_mono (op_aug (Q := fun p h => p = z ∧ h = hp4) R H4 (H3.rep st4 r3) r4 ez ⟨rfl, rfl⟩) (fun v5 s5 h5' => ?_) fun _ _ e => e)))
  obtain ⟨_, _, μ5, ⟨rfl, rfl⟩, r5, H5, st5⟩ := h5'
  have st25 := (st3.trans st4).trans st5
  refine wpAny_bind (wpAny_standAt ?_)
  have haug : augStore i ov iv v5 = (do holding [v5, ov, iv] (setItem ov iv v5); release [v5, ov, iv] []; pure .next) := by
    cases i <;> first | rfl | (simp [notSlice] at hsl)
  rw [haug]
  refine wpAny_bind (wpAny_holding (wpAny_mono (op_store (R := fun h => h = h5) H5 (H2.rep st25 ro) (H2.rep st25 r2) r5 e5 rfl) (fun _ s6 h => ?_) fun _ _ e => e))
  obtain ⟨hp6, rfl, H6, st6⟩ := h
  exact wpAny_bind (wpAny_release (wpAny_pure ⟨.next, l, hp6, μ5, q5, trivial, H6, ((X4.step H4 st5).step H5 st6), (((st1.trans st2).trans st25).trans st6).up⟩))

theorem S_del {o i : Expr} {sp p : Pos} {Q : Fl → Loc → Hp → Prop} {Qo : PV → Hp → Prop} (ho : WE G n env l hp (eval o env) Qo) (hi : ∀ x h1, Qo x h1 → WE G n env l h1 (eval i env) fun y h2 => optP (delV h2 x y) fun h3 => Q .next l h3) :
    WS G n env l hp (exec (.Delete [.Subscript o i sp] p) env) Q := fun A μ s R H X => by
  rw [arm_exec_Delete]
  refine wpAny_bind (wpAny_standAt (wpAny_bind ?_))
  rw [arm_deleteEach_cons, arm_delete_Subscript]
  refine wpAny_bind (wpAny_bind (ho.run R H X fun ov s1 po hp1 μ1 q1 r1 H1 X1 st1 => ?_))
  refine wpAny_bind (wpAny_holding ((hi _ _ q1).run R H1 X1 fun iv s2 pi hp2 μ2 q2 r2 H2 X2 st2 => ?_))
  obtain ⟨h3, e3, q3⟩ := q2
  refine wpAny_bind (wpAny_standAt (wpAny_bind (wpAny_holding (wpAny_mono (op_del (R := fun h => h = h3) H2 (H1.rep st2 r1) r2 e3 rfl) (fun _ s4 h => ?_) fun _ _ e => e))))
  obtain ⟨hp4, rfl, H4, st4⟩ := h
  refine wpAny_release ?_
  exact wpAny_pure (wpAny_pure ⟨.next, l, hp4, μ2, q3, trivial, H4, X2.step H2 st4, ((st1.trans st2).trans st4).up⟩)

theorem S_if {t : Expr} {b o : List Stmt} {p : Pos} {Q : Fl → Loc → Hp → Prop} {Qt : Bool → Hp → Prop} (ht : WT G n env l hp (isTrue t env (eval t env)) Qt) (hq : ∀ c h1, Qt c h1 → WS G n env l h1 (if c then execs b env else execs o env) Q) :
    WS G n env l hp (exec (.If t b o p) env) Q := fun A μ s R H X => by
  rw [arm_exec_If]
  refine wpAny_bind (wpAny_standAt (wpAny_bind (ht.run R H X fun c s1 hp1 μ1 q H1 X1 st1 => ?_)))
  have := hq c hp1 q A μ1 s1 R H1 X1
  cases c
  · exact PF.back st1.up this
  · exact PF.back st1.up this

theorem S_assert {t : Expr} {m : Option Expr} {p : Pos} {Q : Fl → Loc → Hp → Prop} {Qt : Bool → Hp → Prop} (ht : WT G n env l hp (isTrue t env (eval t env)) Qt) (hq : ∀ c h1, Qt c h1 → c = true ∧ Q .next l h1) :
    WS G n env l hp (exec (.Assert t m p) env) Q := fun A μ s R H X => by
  rw [arm_exec_Assert]
  refine wpAny_bind (wpAny_standAt (wpAny_bind (ht.run R H X fun c s1 hp1 μ1 q H1 X1 st1 => ?_)))
  obtain ⟨rfl, q2⟩ := hq _ _ q
  exact wpAny_pure ⟨.next, l, hp1, μ1, q2, trivial, H1, X1, st1.up⟩

theorem S_return {e : Expr} {p : Pos} {Q : Fl → Loc → Hp → Prop} {Qe : PV → Hp → Prop} (he : WE G n env l hp (eval e env) Qe) (hq : ∀ v h1, Qe v h1 → Q (.ret v) l h1) : WS G n env l hp (exec (.Return (some e) p) env) Q := fun A μ s R H X =>
  wpAny_Return_some (he.run R H X fun v s1 pv hp1 μ1 q r H1 X1 st1 => ⟨.ret pv, l, hp1, μ1, hq _ _ q, r, H1, X1, st1.up⟩)
theorem S_return0 {p : Pos} {Q : Fl → Loc → Hp → Prop} (q : Q (.ret .none) l hp) : WS G n env l hp (exec (.Return none p) env) Q := fun A μ s R H X =>
  wpAny_Return_none ⟨.ret .none, l, hp, μ, q, by simp [FlR, Rep], H, X, Stp.refl _ _⟩
theorem S_break {p : Pos} {Q : Fl → Loc → Hp → Prop} (q : Q .brk l hp) : WS G n env l hp (exec (.Break p) env) Q := fun A μ s R H X =>
  wpAny_bind (wpAny_standAt (wpAny_pure ⟨.brk, l, hp, μ, q, trivial, H, X, Stp.refl _ _⟩))
theorem S_continue {p : Pos} {Q : Fl → Loc → Hp → Prop} (q : Q .cont l hp) : WS G n env l hp (exec (.Continue p) env) Q := fun A μ s R H X =>
  wpAny_bind (wpAny_standAt (wpAny_pure ⟨.cont, l, hp, μ, q, trivial, H, X, Stp.refl _ _⟩))
theorem S_pass {p : Pos} {Q : Fl → Loc → Hp → Prop} (q : Q .next l hp) : WS G n env l hp (exec (.Pass p) env) Q := fun A μ s R H X =>
  wpAny_bind (wpAny_standAt (wpAny_pure ⟨.next, l, hp, μ, q, trivial, H, X, Stp.refl _ _⟩))

theorem Ss_nil {Q : Fl → Loc → Hp → Prop} (q : Q .next l hp) : WS G n env l hp (execs [] env) Q := fun A μ s R H X => wpAny_execs_nil ⟨.next, l, hp, μ, q, trivial, H, X, Stp.refl _ _⟩
theorem Ss_cons {st : Stmt} {r : List Stmt} {Q Qs : Fl → Loc → Hp → Prop} (hs : WS G n env l hp (exec st env) Qs)
    (hq : ∀ f l1 h1, Qs f l1 h1 → (match f with | .next => WS G n env l1 h1 (execs r env) Q | f => Q f l1 h1)) : WS G n env l hp (execs (st :: r) env) Q := fun A μ s R H X => by
  refine wpAny_execs_cons (wpAny_mono (hs A μ s R H X) (fun f s1 h => ?_) fun _ _ e => e)
  obtain ⟨fl, l1, hp1, μ1, q, r1, H1, X1, st1⟩ := h
  have q2 := hq _ _ _ q
  cases fl <;> cases f <;> simp only [FlR] at r1 <;> try (exact r1.elim)
  · exact PF.back st1 (q2 A μ1 s1 R H1 X1)
  · exact ⟨.brk, l1, hp1, μ1, q2, trivial, H1, X1, st1⟩
  · exact ⟨.cont, l1, hp1, μ1, q2, trivial, H1, X1, st1⟩
  · exact ⟨.ret _, l1, hp1, μ1, q2, r1, H1, X1, st1⟩

end

section
open PySem PySem.W PyProof.Rows
open Sem (wp)
set_option linter.unusedVariables false
set_option linter.unusedSimpArgs false
set_option maxRecDepth 100000

variable {G : GI} {n : Nat} {A : Around} {μ μ' : List Addr} {hp hp' : Hp} {s s' : Shared} {Q : PV → Hp → Prop} {env : Env} {l : Loc} {K : Cfg}

/-! while -/
section
variable {prog : Program} {w : World} {R : Result → Shared → Prop}
theorem while_step {test : Expr} {body orelse : List Stmt}
    (turn : wpAny (model prog w) A (isTrue test env (eval test env)) (fun b s₂ =>
        if b then wpAny (model prog w) A (execs body env) (fun f s₃ => match f with
            | .next | .cont => codeAny (model prog w) A (.whileLoop test body orelse env) R s₃
            | .brk => R (.ok .next) s₃
            | .ret v => R (.ok (.ret v)) s₃) noE s₂
        else wpAny (model prog w) A (execs orelse env) (fun f s₃ => R (.ok f) s₃) noE s₂) noE s) :
    codeAny (model prog w) A (.whileLoop test body orelse env) R s := by
  refine codeAny_of_tree ?_
  show wpAny _ A ((whileTurn test body orelse env).onRaise (fun x => do noteFrame x env; theTreesLotGoes x)) _ _ s
  refine wpAny_noted ?_
  simp only [whileTurn]
  refine wpAny_bind (wpAny_mono turn (fun b s₂ h₂ => ?_) fun _ _ h' => h'.elim)
  cases b with
  | false =>
    simp only [Bool.false_eq_true, if_false] at h₂ ⊢
    exact wpAny_bind (wpAny_mono h₂ (fun f s₃ h₃ => wpAny_pure h₃) fun _ _ h' => h'.elim)
  | true =>
    simp only [if_true] at h₂ ⊢
    refine wpAny_bind (wpAny_mono h₂ (fun f s₃ h₃ => ?_) fun _ _ h' => h'.elim)
    cases f with
    | next => exact wpAny_pure ⟨rfl, h₃⟩
    | cont => exact wpAny_pure ⟨rfl, h₃⟩
    | brk => exact wpAny_pure h₃
    | ret v => exact wpAny_pure h₃
theorem for_step {target : Expr} {it : Value} {body orelse : List Stmt}
    (turn : wpAny (model prog w) A (pyNext it) (fun r s₁ => match r with
      | none => wpAny (model prog w) A (execs orelse env) (fun f s₃ => R (.ok f) s₃) noE s₁
      | some v => wpAny (model prog w) A (letOwnedTupleGo target it v) (fun _ s₁' => wpAny (model prog w) A (assign target env v) (fun _ s₂ => wpAny (model prog w) A (execs body env) (fun f s₃ => match f with
          | .next | .cont => codeAny (model prog w) A (.forLoop target it body orelse env) R s₃
          | .brk => R (.ok .next) s₃
          | .ret v => R (.ok (.ret v)) s₃) noE s₂) noE s₁') noE s₁) noE s) : codeAny (model prog w) A (.forLoop target it body orelse env) R s := by
  refine codeAny_of_tree ?_
  show wpAny _ A ((forTurn target it body orelse env).onRaise (fun x => do noteFrame x env; theTreesLotGoes x)) _ _ s
  refine wpAny_noted ?_
  simp only [forTurn]
  refine wpAny_bind (wpAny_standAt (wpAny_bind (wpAny_onRaise (wpAny_mono turn (fun r s₁ h₁ => ?_) fun _ _ h' => h'.elim))))
  cases r with
  | none => exact wpAny_pure ⟨rfl, codeAny_block (wpAny_mono h₁ (fun _ _ h => h) fun _ _ h' => h'.elim)⟩
  | some v =>
    refine wpAny_bind (wpAny_mono h₁ (fun _ s1' h1' => ?_) fun _ _ h' => h'.elim)
    refine wpAny_bind (wpAny_mono h1' (fun _ s₂ h₂ => wpAny_bind (wpAny_mono h₂ (fun f s₃ h₃ => ?_) fun _ _ h' => h'.elim)) fun _ _ h' => h'.elim)
    cases f with
    | next => exact wpAny_pure ⟨rfl, h₃⟩
    | cont => exact wpAny_pure ⟨rfl, h₃⟩
    | brk => exact wpAny_pure h₃
    | ret v => exact wpAny_pure h₃
end

theorem S_while {t : Expr} {b : List Stmt} {p : Pos} {T : Loc → Hp → (Bool → Hp → Prop) → Prop} {B : Loc → Hp → (Fl → Loc → Hp → Prop) → Prop} {Q : Fl → Loc → Hp → Prop}
    (hT : ∀ l h k, T l h k → WT G n env l h (isTrue t env (eval t env)) k) (hB : ∀ l h k, B l h k → WS G n env l h (execs b env) k) (h : WhileW T B Q l hp) :
    WS G n env l hp (exec (.While t b [] p) env) Q := fun A μ s R H X => by
  refine wpAny_While ?_
  refine h (fun l1 hp1 => ∀ μ1 s1, HR G μ1 hp1 s1 → EnvR G A env l1 μ1 s1.heap → Stp G (ownOf env) μ s μ1 s1 →
    codeAny G.M A (.whileLoop t b [] env) (fun r s' => match r with | .ok f => PF G A env μ s Q f s' | .error e => cameBackBy G.M A env noE e s') s1) ?_ μ s H X (Stp.refl _ _)
  intro l1 hp1 hstep μ1 s1 H1 X1 st1
  refine while_step ((hT _ _ _ hstep).run R H1 X1 fun c s2 hp2 μ2 q H2 X2 st2 => ?_)
  cases c with
  | false =>
    simp only [Bool.false_eq_true, if_false] at q ⊢
    exact wpAny_execs_nil ⟨.next, l1, hp2, μ2, q, trivial, H2, X2, st1.trans st2.up⟩
  | true =>
    simp only [if_true] at q ⊢
    refine wpAny_mono (hB _ _ _ q A μ2 s2 R H2 X2) (fun f s3 h3 => ?_) fun _ _ e => e
    obtain ⟨fl, l3, hp3, μ3, q3, r3, H3, X3, st3⟩ := h3
    have st := (st1.trans st2.up).trans st3
    cases fl <;> cases f <;> simp only [FlR] at r3 <;> (try (exact r3.elim)) <;> simp only [] at q3 ⊢
    · exact q3 μ3 s3 H3 X3 st
    · exact ⟨.next, l3, hp3, μ3, q3, trivial, H3, X3, st⟩
    · exact q3 μ3 s3 H3 X3 st
    · exact ⟨.ret _, l3, hp3, μ3, q3, r3, H3, X3, st⟩

/-! iterators -/
def itCls : List String := ["list_iterator", "tuple_iterator", "str_ascii_iterator", "str_iterator", "range_iterator"]
def IsIt (h : Heap) (I : Addr) : Prop := ∃ o c vs, h.get? I = some o ∧ o.cls = .type c ∧ c ∈ itCls ∧ o.data = .fields vs

structure Mv (I : Addr) (s s' : Shared) : Prop where
  keep : ∀ b o, b ≠ I → s.heap.get? b = some o → s'.heap.get? b = some o
  os : s'.os = s.os
  gens : s'.gens = s.gens
  toks : 1 ≤ s'.toks

theorem HR.it (H : HR G μ hp s) {I : Addr} (hI : IsIt s.heap I) : I ∉ μ ∧ I ≠ G.P := by
  obtain ⟨o, c, vs, ho, hc, hm, hd⟩ := hI
  constructor
  · intro hin
    obtain ⟨i, hi⟩ := List.getElem?_of_mem hin
    have hlt : i < hp.length := by rw [← H.len]; exact (List.getElem?_eq_some_iff.mp hi).1
    have hO := H.obj i I (hp[i]) hi (List.getElem?_eq_getElem hlt)
    cases hq : hp[i] with
    | list vs => rw [hq] at hO; obtain ⟨ws, m, e, _⟩ := hO; rw [ho] at e; cases e; cases hd
    | obj => rw [hq] at hO; have e : s.heap.get? I = some objO := hO; rw [ho] at e; cases e; cases hd
    | hid => rw [hq] at hO; obtain ⟨ws, e⟩ := hO; rw [ho] at e; cases e; cases hd
  · rintro rfl
    obtain ⟨ps, e, _⟩ := H.tab
    rw [ho] at e; cases e
    simp [tabObj] at hc
theorem IsIt.notVal {h : Heap} {I : Addr} (hI : IsIt h I) {o : Obj} (ho : h.get? I = some o) : ¬ IsVal o := by
  obtain ⟨o', c, vs, ho', hc, hm, hd⟩ := hI
  rw [ho] at ho'; cases ho'
  intro hv
  unfold IsVal at hv
  rw [hd] at hv
  simp only [hc] at hv
  rcases hv with q | q <;> (cases q; simp [itCls] at hm)
theorem HR.mvk (H : HR G μ hp s) {I : Addr} (hI : IsIt s.heap I) (mv : Mv I s s') : VKeep μ s.heap s'.heap := fun b o e hv _ => mv.keep b o (by rintro rfl; exact hI.notVal e hv) e
theorem HR.mv (H : HR G μ hp s) {I : Addr} (hI : IsIt s.heap I) (h0 : G.h0.objs.size ≤ I) (mv : Mv I s s') : HR G μ hp s' := by
  obtain ⟨nm, nP⟩ := H.it hI
  have vk := H.mvk hI mv
  refine ⟨fun b x e => mv.keep _ _ (by rintro rfl; exact absurd (Heap.lt_size e) (Nat.not_lt.mpr h0)) (H.base b x e), ?_, mv.os.trans H.os, mv.gens ▸ H.gens, mv.toks, H.nodup, H.len, H.low, fun i b m h1 h2 => ?_⟩
  · obtain ⟨ps, e, ht, hc⟩ := H.tab
    refine ⟨ps, mv.keep _ _ (Ne.symm nP) e, ht, fun pos c hp' => ?_⟩
    obtain ⟨b, o', q1, q2, q3, vs, q, t, q4, q5, q6⟩ := hc pos c hp'
    refine ⟨b, o', q1, mv.keep _ _ ?_ q2, q3, vs, q, t, q4, q5, q6⟩
    rintro rfl
    obtain ⟨o2, c2, v2, e1, e2, e3, _⟩ := hI
    rw [q2] at e1; cases e1
    rw [q6] at e2; cases e2; simp [itCls] at e3
  · have hb : b ≠ I := fun e => nm (e ▸ List.mem_of_getElem? h1)
    have := H.obj i b m h1 h2
    cases m with
    | list vs => obtain ⟨ws, k, e, r⟩ := this; exact ⟨ws, k, mv.keep _ _ hb e, r.mono vk (Grow.refl _ _)⟩
    | obj => exact mv.keep _ _ hb this
    | hid => obtain ⟨ws, e⟩ := this; exact ⟨ws, mv.keep _ _ hb e⟩
theorem EnvR.it (X : EnvR G A env l μ s.heap) {I : Addr} (hI : IsIt s.heap I) : ¬ ownOf env I := by
  obtain ⟨o, c, vs, ho, hc, hm, hd⟩ := hI
  rintro (rfl | ⟨x, hx, hl⟩)
  · obtain ⟨m, ⟨o2, es, ep, e, hd2, _⟩, _⟩ := X.ns
    rw [ho] at e; cases e; rw [hd] at hd2; cases hd2
  · obtain ⟨c2, ov, e1, ⟨o2, e2, hd2⟩, _⟩ := X.cel x (.inl hx)
    rw [hl] at e1; cases e1
    rw [ho] at e2; cases e2; rw [hd] at hd2; cases hd2
theorem EnvR.mv (X : EnvR G A env l μ s.heap) (H : HR G μ hp s) {I : Addr} (hI : IsIt s.heap I) (mv : Mv I s s') : EnvR G A env l μ s'.heap := by
  have vk := H.mvk hI mv
  have nI : ∀ b o, s.heap.get? b = some o → (∀ vs, o.data ≠ .fields vs) → b ≠ I := by
    rintro b o e hd rfl
    obtain ⟨o2, c2, v2, e1, _, _, e4⟩ := hI
    rw [e] at e1; cases e1; exact hd _ e4
  refine ⟨X.dom, X.kind, X.glob, X.blt, X.low, X.lows, X.apart, X.code, X.frs.of fun L o es kk e hd => ⟨o, es, kk, mv.keep _ _ (nI _ _ e fun _ q => by rw [hd] at q; cases q) e, hd⟩, ?_, fun y hy => ?_⟩
  · obtain ⟨m, ⟨o, es, ep, e, hd, hr⟩, hm⟩ := X.ns
    refine ⟨m, ⟨o, es, ep, mv.keep _ _ (nI _ _ e fun _ q => by rw [hd] at q; cases q) e, hd, hr⟩, fun y pv hk hl => ?_⟩
    obtain ⟨v, h1, h2⟩ := hm y pv hk hl
    exact ⟨v, h1, h2.mono vk (Grow.refl _ _)⟩
  · obtain ⟨c, ov, h1, ⟨o, e, hd⟩, h3⟩ := X.cel y hy
    refine ⟨c, ov, h1, ⟨o, mv.keep _ _ (nI _ _ e fun _ q => by rw [hd] at q; cases q) e, hd⟩, fun pv hl => ?_⟩
    obtain ⟨v, h4, h5⟩ := h3 pv hl
    exact ⟨v, h4, h5.mono vk (Grow.refl _ _)⟩
theorem Stp.mv {own : Addr → Prop} {μ0 : List Addr} {s0 : Shared} (st : Stp G own μ0 s0 μ s) {I : Addr} (h0 : s0.heap.get? I = none) (mv : Mv I s s') : Stp G own μ0 s0 μ s' := by
  have ne : ∀ b o, s0.heap.get? b = some o → b ≠ I := by rintro b o e rfl; rw [h0] at e; cases e
  refine ⟨fun b o e h1 h2 h3 => UpS.trans (st.keepU b o e h1 h2 h3) fun o' e' => .inl (mv.keep _ _ (ne b o e) e'), st.grow, fun b o e => ?_⟩
  obtain ⟨o', e'⟩ := st.live b o e
  exact ⟨o', mv.keep _ _ (ne b o e) e'⟩

/-- the iterator at I stands before the i-th of xs, the members of v -/
def StI (μ : List Addr) (hp : Hp) (h : Heap) (v : PV) (xs : List PV) (I : Addr) (i : Nat) : Prop := match v with
  | .str l => xs = charsOf l ∧ ∃ t, h.IsStrIter I "str_ascii_iterator" ⟨l.toArray⟩ t i ∨ h.IsStrIter I "str_iterator" ⟨l.toArray⟩ t i
  | .tuple _ => ∃ a ws, h.IsTupleIter I a i ∧ h.get? a = some (tupO ws) ∧ a ∉ μ ∧ RepL μ h xs ws.toList
  | .range a b c => xs = (rangeL a b c).map .int ∧ IsRangeIter h I (a + i * c) ((xs.length : Int) - i) c
  | .list _ => ∃ a ws m, h.IsListIter I a i ∧ h.get? a = some (lstO ws m) ∧ a ∉ μ ∧ RepL μ h xs ws.toList
  | .ref j => ∃ a, h.IsListIter I a i ∧ μ[j]? = some a ∧ hp[j]? = some (.list xs)
  | _ => False

theorem StI.it {v : PV} {xs : List PV} {I : Addr} {i : Nat} {h : Heap} (x : StI μ hp h v xs I i) : IsIt h I := by
  cases v <;> simp only [StI] at x <;> try (exact x.elim)
  · obtain ⟨_, t, ⟨o, a, b, c⟩ | ⟨o, a, b, c⟩⟩ := x
    · exact ⟨o, _, _, a, b, by simp [itCls], c⟩
    · exact ⟨o, _, _, a, b, by simp [itCls], c⟩
  · obtain ⟨_, _, ⟨o, a, b, c⟩, _⟩ := x; exact ⟨o, _, _, a, b, by simp [itCls], c⟩
  · obtain ⟨_, _, _, ⟨o, a, b, c⟩, _⟩ := x; exact ⟨o, _, _, a, b, by simp [itCls], c⟩
  · obtain ⟨_, ⟨o, a, b, c⟩, _⟩ := x; exact ⟨o, _, _, a, b, by simp [itCls], c⟩
  · obtain ⟨_, a⟩ := x; exact ⟨_, "range_iterator", _, a, rfl, by simp [itCls], rfl⟩

theorem mv_but {I : Addr} {h' : Heap} {k : Nat} (he : Heap.ExtBut I s.heap h') (hk : 1 ≤ k) : Mv I s { s with heap := h', toks := k } := ⟨fun b o hb e => he b o hb e, rfl, rfl, hk⟩

theorem iter_item {v : PV} {xs : List PV} {I : Addr} {i : Nat} {p : PV} {P : Option Value → Shared → Prop} (hh : A.handled = none) (H : HR G μ hp s) (h0 : G.h0.objs.size ≤ I) (st : StI μ hp s.heap v xs I i) (hi : xs[i]? = some p)
    (hQ : ∀ w s', Rep μ s.heap p w → StI μ hp s'.heap v xs I (i + 1) → Mv I s s' → P (some w) s') : wpAny G.M A (pyNext (.ref I)) P noE s := by
  have ht := H.toks
  have hit := st.it
  obtain ⟨nm, nP⟩ := H.it hit
  have nV : ∀ a o, s.heap.get? a = some o → IsVal o → a ≠ I := by rintro a o e hv rfl; exact hit.notVal e hv
  cases v <;> simp only [StI] at st <;> try (exact st.elim)
  · rename_i l
    obtain ⟨rfl, t, st⟩ := st
    unfold charsOf at hi
    rw [List.getElem?_map] at hi
    obtain ⟨c, hc, rfl⟩ := Option.map_eq_some_iff.mp hi
    have hr : ∀ tk, Rep μ s.heap (.str [c]) (.str ⟨#[c]⟩ tk) := fun tk => by simp [Rep]
    rcases st with st | st
    · exact wpAny_pyNext_ascii_item st (c := c) (by simpa using hc) fun h' hit' hs' => hQ _ { s with heap := h', toks := s.toks + 1 } (hr _) ⟨rfl, t, .inl hit'⟩ (mv_but hs'.extBut (by omega))
    · exact wpAny_pyNext_wide_item st (c := c) (by simpa using hc) fun h' hit' hs' => hQ _ { s with heap := h', toks := s.toks + 1 } (hr _) ⟨rfl, t, .inr hit'⟩ (mv_but hs'.extBut (by omega))
  · obtain ⟨a, ws, st, ho, hm, rs⟩ := st
    obtain ⟨w, hw, rw'⟩ := rs.get hi
    have na : a ≠ I := nV a _ ho trivial
    refine wpAny_pyNext_tuple_item st ⟨_, ho, rfl, _, rfl⟩ (x := w) (by simpa using hw) fun h' hit' hs' => ?_
    have mv : Mv I s { s with heap := h' } := mv_but hs'.extBut ht
    exact hQ _ { s with heap := h' } rw' ⟨a, ws, hit', mv.keep _ _ na ho, hm, rs.mono (H.mvk hit mv) (Grow.refl _ _)⟩ mv
  · obtain ⟨a, ws, m, st, ho, hm, rs⟩ := st
    obtain ⟨w, hw, rw'⟩ := rs.get hi
    have na : a ≠ I := nV a _ ho trivial
    refine wpAny_pyNext_list_item st ⟨_, ho, rfl, _, rfl⟩ (x := w) (by simpa using hw) fun h' hit' hs' => ?_
    have mv : Mv I s { s with heap := h' } := mv_but hs'.extBut ht
    exact hQ _ { s with heap := h' } rw' ⟨a, ws, m, hit', mv.keep _ _ na ho, hm, rs.mono (H.mvk hit mv) (Grow.refl _ _)⟩ mv
  · obtain ⟨a, st, hm, hj⟩ := st
    obtain ⟨ws, m, ho, rs⟩ := H.obj _ a _ hm hj
    obtain ⟨w, hw, rw'⟩ := rs.get hi
    refine wpAny_pyNext_list_item st ⟨_, ho, rfl, _, rfl⟩ (x := w) (by simpa using hw) fun h' hit' hs' => ?_
    exact hQ _ { s with heap := h' } rw' ⟨a, hit', hm, hj⟩ (mv_but hs'.extBut ht)
  · rename_i a b c
    obtain ⟨rfl, st⟩ := st
    have hlt : i < ((rangeL a b c).map PV.int).length := (List.getElem?_eq_some_iff.mp hi).1
    rw [List.getElem?_map] at hi
    obtain ⟨x, hx, rfl⟩ := Option.map_eq_some_iff.mp hi
    have hx' : x = a + i * c := by
      unfold rangeL at hx
      rw [List.getElem?_map] at hx
      obtain ⟨k, hk, rfl⟩ := Option.map_eq_some_iff.mp hx
      obtain ⟨_, hk2⟩ := List.getElem?_eq_some_iff.mp hk
      rw [List.getElem_range] at hk2; rw [hk2]
    refine wpAny_pyNext_range_item st (by omega) fun h' hit' hs' => ?_
    refine hQ _ { s with heap := h', toks := s.toks + 1 } (by subst hx'; simp [Rep]) ⟨rfl, ?_⟩ (mv_but hs'.extBut (by omega))
    have e1 : a + ((i + 1 : Nat) : Int) * c = a + (i : Int) * c + c := by push_cast; rw [Int.add_mul, Int.one_mul, Int.add_assoc]
    have e2 : ((((rangeL a b c).map PV.int).length : Nat) : Int) - ((i + 1 : Nat) : Int) = ((((rangeL a b c).map PV.int).length : Nat) : Int) - (i : Int) - 1 := by push_cast; omega
    rw [e1, e2]; exact hit'

theorem iter_done {v : PV} {xs : List PV} {I : Addr} {i : Nat} {P : Option Value → Shared → Prop} (hh : A.handled = none) (H : HR G μ hp s) (st : StI μ hp s.heap v xs I i) (hi : i = xs.length)
    (hQ : ∀ s', Mv I s s' → P none s') : wpAny G.M A (pyNext (.ref I)) P noE s := by
  have ht := H.toks
  subst hi
  cases v <;> simp only [StI] at st <;> try (exact st.elim)
  · rename_i l
    obtain ⟨rfl, t, st⟩ := st
    rcases st with st | st
    · exact wpAny_pyNext_ascii_end hh st (by simp [charsOf]) fun h' he' => hQ { s with heap := h' } (mv_but he' ht)
    · exact wpAny_pyNext_wide_end hh st (by simp [charsOf]) fun h' he' => hQ { s with heap := h' } (mv_but he' ht)
  · obtain ⟨a, ws, st, ho, hm, rs⟩ := st
    have n1 : ws.size = xs.length := by simpa using rs.length
    exact wpAny_pyNext_tuple_end hh st ⟨_, ho, rfl, _, rfl⟩ (by simp [n1]) fun h' he' => hQ { s with heap := h' } (mv_but he' ht)
  · obtain ⟨a, ws, m, st, ho, hm, rs⟩ := st
    have n1 : ws.size = xs.length := by simpa using rs.length
    exact wpAny_pyNext_list_end hh st ⟨_, ho, rfl, _, rfl⟩ (by simp [n1]) fun h' he' => hQ { s with heap := h' } (mv_but he' ht)
  · obtain ⟨a, st, hm, hj⟩ := st
    obtain ⟨ws, m, ho, rs⟩ := H.obj _ a _ hm hj
    have n1 : ws.size = xs.length := by simpa using rs.length
    exact wpAny_pyNext_list_end hh st ⟨_, ho, rfl, _, rfl⟩ (by simp [n1]) fun h' he' => hQ { s with heap := h' } (mv_but he' ht)
  · obtain ⟨rfl, st⟩ := st
    exact wpAny_pyNext_range_end hh st (by omega) fun h' he' => hQ { s with heap := h' } (mv_but he' ht)

theorem StI.step {v : PV} {xs : List PV} {I : Addr} {i : Nat} {own : Addr → Prop} (st : StI μ hp s.heap v xs I i) (H : HR G μ hp s) (H' : HR G μ' hp' s') (x : Stp G own μ s μ' s') (hown : ∀ a o, own a → s.heap.get? a = some o → ¬ IsVal o)
    (no : ¬ own I) (hc : chkV hp hp' v) : StI μ' hp' s'.heap v xs I i := by
  have hit := st.it
  obtain ⟨nm, nP⟩ := H.it hit
  have vk := H.vkeep x hown
  have kI : ∀ o, s.heap.get? I = some o → s'.heap.get? I = some o := fun o e => x.keep _ _ e nm nP no fun es k q => by
    obtain ⟨o2, c, vs, e2, _, _, hd⟩ := hit; rw [e] at e2; cases e2; rw [hd] at q; cases q
  cases v <;> simp only [StI] at st ⊢ <;> try (exact st.elim)
  · obtain ⟨h1, t, ⟨o, a, b⟩ | ⟨o, a, b⟩⟩ := st
    · exact ⟨h1, t, .inl ⟨o, kI _ a, b⟩⟩
    · exact ⟨h1, t, .inr ⟨o, kI _ a, b⟩⟩
  · obtain ⟨a, ws, ⟨o, e, r⟩, ho, hm, rs⟩ := st
    exact ⟨a, ws, ⟨o, kI _ e, r⟩, vk _ _ ho trivial (fun _ => hm), x.grow.not hm ho, rs.mono vk x.grow⟩
  · obtain ⟨a, ws, m, ⟨o, e, r⟩, ho, hm, rs⟩ := st
    exact ⟨a, ws, m, ⟨o, kI _ e, r⟩, vk _ _ ho trivial (fun _ => hm), x.grow.not hm ho, rs.mono vk x.grow⟩
  · obtain ⟨a, ⟨o, e, r⟩, hm, hj⟩ := st
    refine ⟨a, ⟨o, kI _ e, r⟩, x.grow.get hm, ?_⟩
    simp only [chkV] at hc
    rw [hc]; exact hj
  · exact ⟨st.1, kI _ st.2⟩

theorem iter_start {v : PV} {xs : List PV} {w : Value} {P : Value → Shared → Prop} (H : HR G μ hp s) (r : Rep μ s.heap v w) (e : iterV hp v = some xs)
    (hQ : ∀ s', StI μ hp s'.heap v xs s.heap.objs.size 0 → HR G μ hp s' → Stp G noOwn μ s μ s' → P (.ref s.heap.objs.size) s') : wpAny G.M A (pyIter w) P noE s := by
  cases v <;> simp only [iterV, contents] at e <;> try (cases e; done)
  · cases e
    simp only [Rep] at r; obtain ⟨t, rfl⟩ := r
    cases ha : (⟨(‹List Nat›).toArray⟩ : Str).cps.all (· < 128)
    · exact wpAny_pyIter_wide ha (hQ { s with heap := s.heap.push _ } ⟨rfl, t, .inr ⟨_, Heap.get?_push_size _ rfl, rfl, rfl⟩⟩ (H.push _) (Stp.push _ _ _))
    · exact wpAny_pyIter_ascii ha (hQ { s with heap := s.heap.push _ } ⟨rfl, t, .inl ⟨_, Heap.get?_push_size _ rfl, rfl, rfl⟩⟩ (H.push _) (Stp.push _ _ _))
  · cases e
    simp only [Rep] at r; obtain ⟨a, ws, rfl, ho, rs, hm⟩ := r
    exact wpAny_pyIter_tuple ⟨_, ho, rfl, _, rfl⟩ (hQ { s with heap := s.heap.push _ } ⟨a, ws, ⟨_, Heap.get?_push_size _ rfl, rfl, rfl⟩, Heap.get?_push_of_some _ ho, hm, rs.push _⟩ (H.push _) (Stp.push _ _ _))
  · cases e
    simp only [Rep] at r; obtain ⟨a, ws, m, rfl, ho, hm, rs⟩ := r
    exact wpAny_pyIter_list ⟨_, ho, rfl, _, rfl⟩ (hQ { s with heap := s.heap.push _ } ⟨a, ws, m, ⟨_, Heap.get?_push_size _ rfl, rfl, rfl⟩, Heap.get?_push_of_some _ ho, hm, rs.push _⟩ (H.push _) (Stp.push _ _ _))
  · rename_i j
    split at e
    · rename_i hj
      cases e
      obtain ⟨a, ws, m, rfl, hm, ho, rs⟩ := ref_list H r hj
      exact wpAny_pyIter_list ⟨_, ho, rfl, _, rfl⟩ (hQ { s with heap := s.heap.push _ } ⟨a, ⟨_, Heap.get?_push_size _ rfl, rfl, rfl⟩, hm, hj⟩ (H.push _) (Stp.push _ _ _))
    · cases e
  · rename_i a b c
    split at e
    · rename_i hr
      cases e
      simp only [Rep] at r; obtain ⟨rr, ta, tb, tc, rfl, ho⟩ := r
      obtain ⟨h1, h2⟩ := hr
      refine wpAny_pyIter_range ho (range_small h1) (hQ { s with heap := s.heap.push _ } ⟨rfl, ?_⟩ (H.push _) (Stp.push _ _ _))
      have e1 : a + ((0 : Nat) : Int) * c = a := by simp
      have e2 : (((rangeL a b c).length : Nat) : Int) - ((0 : Nat) : Int) = Builtin.Range.rangeSize a b c := by rw [rangeSize_eq (rng_iff h1).2.2]; simp
      rw [e1, List.length_map, e2]
      exact Heap.get?_push_size _ rfl
    · cases e

theorem go_run {t : Expr} {I : Addr} {w : Value} {P : Unit → Shared → Prop} (hI : IsIt s.heap I) (h : P () s) : wpAny G.M A (letOwnedTupleGo t (.ref I) w) P noE s := by
  obtain ⟨o, c, vs, ho, hc, hm, hd⟩ := hI
  have key : ∀ a : Addr, wpAny G.M A (do
      let o ← load I
      match o.cls, o.data with
      | .type n, .fields vs =>
        if ["enumerate", "zip", "dict_itemiterator", "dict_reverseitemiterator", "odict_iterator", "itertools.zip_longest", "itertools.pairwise"].contains n && vs[0]? == some (rawInt a) then
          rule "for.unpacks-the-owned-tuple"
          updateField I 0 .none
      | _, _ => pure ()) P noE s := by
    intro a
    refine wpAny_bind (wpAny_load ho ?_)
    rw [hc, hd]
    simp only []
    rw [if_neg]
    · exact wpAny_pure h
    · simp only [itCls, List.mem_cons, List.not_mem_nil, or_false] at hm
      rcases hm with rfl | rfl | rfl | rfl | rfl <;> simp
  unfold letOwnedTupleGo
  split
  · cases w <;> first | exact wpAny_pure h | exact key _
  · cases w <;> first | exact wpAny_pure h | exact key _
  · exact wpAny_pure h

theorem for_loop {t : Expr} {b : List Stmt} {v : PV} {xs : List PV} {I : Addr} {μ0 : List Addr} {s0 : Shared} {B : Loc → Hp → (Fl → Loc → Hp → Prop) → Prop} {hp0 : Hp} {chk : Hp → Prop} {Q : Fl → Loc → Hp → Prop} (R : Room n A) (okt : tgtOk env.scope t = true)
    (hB : ∀ l h k, B l h k → WS G n env l h (execs b env) k) (hchk : ∀ h, chk h → chkV hp0 h v) (hI0 : G.h0.objs.size ≤ I) (hI1 : s0.heap.get? I = none) :
    ∀ (ys : List PV) (i : Nat) (l : Loc) (hp : Hp) (μ : List Addr) (s : Shared), xs.drop i = ys → i ≤ xs.length → HR G μ hp s → EnvR G A env l μ s.heap → Stp G (ownOf env) μ0 s0 μ s → StI μ hp s.heap v xs I i → chkV hp0 hp v →
      forL (fun z l h k => bindT t h z l fun l1 => B l1 h k) chk Q ys l hp →
      codeAny G.M A (.forLoop t (.ref I) b [] env) (fun r s' => match r with | .ok f => PF G A env μ0 s0 Q f s' | .error e => cameBackBy G.M A env noE e s') s := by
  intro ys
  induction ys with
  | nil =>
    intro i l hp μ s hd hle H X st stI hc h
    have hi : i = xs.length := by
      have := congrArg List.length hd
      simp at this; omega
    refine for_step (iter_done R.handled H stI hi fun s1 mv => ?_)
    have hit := stI.it
    exact wpAny_execs_nil ⟨.next, l, hp, μ, h, trivial, H.mv hit hI0 mv, X.mv H hit mv, st.mv hI1 mv⟩
  | cons y ys ih =>
    intro i l hp μ s hd hle H X st stI hc h
    have hi : xs[i]? = some y := by
      have := congrArg (fun z => z[0]?) hd
      simpa using this
    have hlt : i < xs.length := (List.getElem?_eq_some_iff.mp hi).1
    have hd' : xs.drop (i + 1) = ys := by
      have := congrArg List.tail hd
      simpa [List.tail_drop] using this
    have hit := stI.it
    refine for_step (iter_item R.handled H hI0 stI hi fun w s1 rw' stI1 mv => ?_)
    have H1 := H.mv hit hI0 mv
    have X1 := X.mv H hit mv
    have st1 := st.mv hI1 mv
    have r1 : Rep μ s1.heap y w := rw'.mono (H.mvk hit mv) (Grow.refl _ _)
    have hit1 := stI1.it
    refine go_run hit1 ?_
    simp only [forL] at h
    refine wpAny_mono (bind_run (P := fun l1 => B l1 hp fun f l' hp' => match f with
      | .next => chk hp' ∧ forL (fun z l h k => bindT t h z l fun l1 => B l1 h k) chk Q ys l' hp'
      | .cont => chk hp' ∧ forL (fun z l h k => bindT t h z l fun l1 => B l1 h k) chk Q ys l' hp'
      | .brk => Q .next l' hp'
      | .ret v => Q (.ret v) l' hp') R.handled okt H1 X1 r1 h) (fun _ s2 h2 => ?_) fun _ _ e => e
    obtain ⟨l2, q2, H2, X2, st2⟩ := h2
    have stI2 : StI μ hp s2.heap v xs I (i + 1) := stI1.step H1 H2 st2 X1.ownVal (X1.it hit1) (by cases v <;> simp [chkV])
    refine wpAny_mono (hB _ _ _ q2 A μ s2 R H2 X2) (fun f s3 h3 => ?_) fun _ _ e => e
    obtain ⟨fl, l3, hp3, μ3, q3, r3, H3, X3, st3⟩ := h3
    have stt := (st1.trans st2).trans st3
    have fin : chk hp3 → StI μ3 hp3 s3.heap v xs I (i + 1) ∧ chkV hp0 hp3 v := by
      intro hk
      have hc3 := hchk _ hk
      have : chkV hp hp3 v := by
        cases v <;> simp only [chkV] at hc hc3 ⊢
        rw [hc3, hc]
      exact ⟨stI2.step H2 H3 st3 X2.ownVal (X2.it stI2.it) this, hc3⟩
    cases fl <;> cases f <;> simp only [FlR] at r3 <;> (try (exact r3.elim)) <;> simp only [] at q3 ⊢
    · obtain ⟨a, b⟩ := fin q3.1
      exact ih (i + 1) l3 hp3 μ3 s3 hd' (by omega) H3 X3 stt a b q3.2
    · exact ⟨.next, l3, hp3, μ3, q3, trivial, H3, X3, stt⟩
    · obtain ⟨a, b⟩ := fin q3.1
      exact ih (i + 1) l3 hp3 μ3 s3 hd' (by omega) H3 X3 stt a b q3.2
    · exact ⟨.ret _, l3, hp3, μ3, q3, r3, H3, X3, stt⟩

theorem fold_set {sc : Scope} {e : Expr} {x : Value} (h : okE sc e = true) : foldedSetIterable e env x = pure x := by
  cases e <;> first | rfl | (simp [okE] at h)

theorem S_for {t iter : Expr} {b : List Stmt} {p : Pos} {sc : Scope} {B : Loc → Hp → (Fl → Loc → Hp → Prop) → Prop} {Q : Fl → Loc → Hp → Prop} {Qe : PV → Hp → Prop} (okt : tgtOk env.scope t = true) (oki : okE sc iter = true)
    (he : WE G n env l hp (eval iter env) Qe) (hB : ∀ l h k, B l h k → WS G n env l h (execs b env) k)
    (hq : ∀ v h1, Qe v h1 → optP (iterV h1 v) fun xs => forL (fun z l h k => bindT t h z l fun l1 => B l1 h k) (fun h' => chkV h1 h' v) Q xs l h1) :
    WS G n env l hp (exec (.For t iter b [] p) env) Q := fun A μ s R H X => by
  refine wpAny_For (he.run R H X fun v s1 pv hp1 μ1 q r H1 X1 st1 => ?_) (fun x => fold_set oki)
  obtain ⟨xs, e1, hf⟩ := hq _ _ q
  refine iter_start H1 r e1 fun s2 stI H2 st2 => ?_
  have X2 := X1.step H1 st2
  have hI1 : s.heap.get? s1.heap.objs.size = none := by
    cases e : s.heap.get? s1.heap.objs.size with
    | none => rfl
    | some o => obtain ⟨o', e'⟩ := st1.live _ _ e; rw [Heap.get?_size] at e'; cases e'
  exact for_loop R okt hB (fun h hh => hh) (X1.base H1) hI1 xs 0 l hp1 μ1 s2 rfl (Nat.zero_le _) H2 X2 (st1.trans st2).up stI (by cases pv <;> simp [chkV]) hf

end

section
open PySem PySem.W PyProof.Rows
open Sem (wp)
set_option linter.unusedVariables false
set_option linter.unusedSimpArgs false
set_option maxRecDepth 100000
set_option maxHeartbeats 2000000

variable {G : GI} {n : Nat}

def SE (G : GI) (n : Nat) (e : Expr) : Prop := ∀ (K : Cfg) env l hp Q, env.scope = K.sc → okE K.sc e = true → exE G n K e l hp Q → WE G n env l hp (eval e env) Q
def ST (G : GI) (n : Nat) (e : Expr) : Prop := ∀ (K : Cfg) env l hp Q, env.scope = K.sc → okE K.sc e = true → exT G n K e (exE G n K e l hp) l hp Q → WT G n env l hp (isTrue e env (eval e env)) Q
def SL (G : GI) (n : Nat) (es : List Expr) : Prop := ∀ (K : Cfg) env l hp Q pos, env.scope = K.sc → okEs K.sc es = true → exL G n K es l hp Q → WEs G n env l hp (spliced (backTo pos (starEach es env))) Q
def SA (G : GI) (n : Nat) (es : List Expr) : Prop := ∀ (K : Cfg) env l hp Q op, env.scope = K.sc → okEs K.sc es = true → exA G n K op es l hp Q → WT G n env l hp (allTrue op es env) Q
def SB (G : GI) (n : Nat) (es : List Expr) : Prop := ∀ (K : Cfg) env l hp Q op pos, env.scope = K.sc → okEs K.sc es = true → exB G n K op es l hp Q → WE G n env l hp (boolOp pos op (evalEach es env)) Q
def SC' (G : GI) (n : Nat) (es : List Expr) : Prop := ∀ (K : Cfg) env l hp Q ops x pos, env.scope = K.sc → okEs K.sc es = true → ops.length = es.length → exC G n K ops es x l hp Q →
  CW G n env l hp x (fun v => compareChain pos v ops (markedEach ops es (evalEach es env))) (fun v => testChain pos v ops (markedEach ops es (evalEach es env))) Q
def SJ (G : GI) (n : Nat) (es : List Expr) : Prop := ∀ (K : Cfg) env l hp Q acc, env.scope = K.sc → okEs K.sc es = true → exJ G n K es acc l hp Q → JW G n env l hp es acc Q
def SO (G : GI) (n : Nat) (o : Option Expr) : Prop := ∀ (K : Cfg) env l hp Q, env.scope = K.sc → okO K.sc o = true → exO G n K o l hp Q → WE G n env l hp (valueOrNone (evalOpt o env)) Q

structure IHs (G : GI) (n k : Nat) : Prop where
  e : ∀ e : Expr, sizeOf e < k → SE G n e
  t : ∀ e : Expr, sizeOf e < k → ST G n e
  l : ∀ es : List Expr, sizeOf es < k → SL G n es
  a : ∀ es : List Expr, sizeOf es < k → SA G n es
  b : ∀ es : List Expr, sizeOf es < k → SB G n es
  c : ∀ es : List Expr, sizeOf es < k → SC' G n es
  j : ∀ es : List Expr, sizeOf es < k → SJ G n es
  o : ∀ es : Option Expr, sizeOf es < k → SO G n es

theorem sL {k : Nat} (I : IHs G n k) (es : List Expr) (hk : sizeOf es < k + 1) : SL G n es := by
  intro K env l hp Q pos hs ok h
  cases es with
  | nil => unfold exL at h; exact L_nil h
  | cons e r =>
    simp only [List.cons.sizeOf_spec] at hk
    simp only [okEs, Bool.and_eq_true] at ok
    unfold exL at h
    exact L_cons ok.1 (I.e e (by omega) K env l hp _ hs ok.1 h) fun v h1 q => I.l r (by omega) K env l h1 _ pos hs ok.2 q
theorem sA {k : Nat} (I : IHs G n k) (es : List Expr) (hk : sizeOf es < k + 1) : SA G n es := by
  intro K env l hp Q op hs ok h
  cases es with
  | nil => unfold exA at h; exact A_nil h
  | cons e r =>
    simp only [List.cons.sizeOf_spec] at hk
    simp only [okEs, Bool.and_eq_true] at ok
    unfold exA at h
    refine A_cons (I.t e (by omega) K env l hp _ hs ok.1 h) fun b h1 q => ?_
    cases op <;> cases b <;> simp only [] at q ⊢
    · exact q
    · exact I.a r (by omega) K env l h1 _ _ hs ok.2 q
    · exact I.a r (by omega) K env l h1 _ _ hs ok.2 q
    · exact q
theorem sB {k : Nat} (I : IHs G n k) (es : List Expr) (hk : sizeOf es < k + 1) : SB G n es := by
  intro K env l hp Q op pos hs ok h
  cases es with
  | nil => unfold exB at h; exact h.elim
  | cons e r =>
    simp only [List.cons.sizeOf_spec] at hk
    simp only [okEs, Bool.and_eq_true] at ok
    unfold exB at h
    cases r with
    | nil => 
      simp only [List.isEmpty_nil, if_true] at h
      exact B_one (I.e e (by omega) K env l hp _ hs ok.1 h)
    | cons e2 r =>
      simp only [List.isEmpty_cons, Bool.false_eq_true, if_false] at h
      refine B_cons (I.e e (by omega) K env l hp _ hs ok.1 h) fun v h1 q => ?_
      obtain ⟨b, e1, q⟩ := q
      refine ⟨b, e1, ?_⟩
      cases op <;> cases b <;> simp only [] at q ⊢
      · exact q
      · exact I.b _ (by omega) K env l h1 _ _ pos hs ok.2 q
      · exact I.b _ (by omega) K env l h1 _ _ pos hs ok.2 q
      · exact q
theorem sC {k : Nat} (I : IHs G n k) (es : List Expr) (hk : sizeOf es < k + 1) : SC' G n es := by
  intro K env l hp Q ops x pos hs ok hl h
  cases es with
  | nil => unfold exC at h; cases ops <;> exact h.elim
  | cons e r =>
    cases ops with
    | nil => simp at hl
    | cons op ops =>
      simp only [List.cons.sizeOf_spec] at hk
      simp only [okEs, Bool.and_eq_true] at ok
      unfold exC at h
      cases r with
      | nil =>
        cases ops with
        | nil =>
          simp only [List.isEmpty_nil, if_true] at h
          exact C_one (okE_marks ok.1) (I.e e (by omega) K env l hp _ hs ok.1 h) fun y h1 q => q
        | cons _ _ => simp at hl
      | cons e2 r =>
        cases ops with
        | nil => simp at hl
        | cons op2 ops =>
          simp only [List.isEmpty_cons, Bool.false_eq_true, if_false] at h
          refine C_cons (I.e e (by omega) K env l hp _ hs ok.1 h) fun y h1 q => ?_
          obtain ⟨b, e1, q⟩ := q
          refine ⟨b, e1, ?_⟩
          cases b
          · simpa using q
          · simp only [if_true] at q ⊢
            exact I.c (e2 :: r) (by omega) K env l h1 _ _ _ pos hs ok.2 (by simpa using hl) q
theorem sJ {k : Nat} (I : IHs G n k) (es : List Expr) (hk : sizeOf es < k + 1) : SJ G n es := by
  intro K env l hp Q acc hs ok h
  cases es with
  | nil => unfold exJ at h; exact J_nil h
  | cons e r =>
    simp only [List.cons.sizeOf_spec] at hk
    simp only [okEs, Bool.and_eq_true] at ok
    cases e with
    | Constant c kk p =>
      cases c with
      | str x =>
        simp only [exJ] at h
        obtain ⟨h1, h2⟩ := h
        exact J_part (E_str (Q := fun v hh => v = .str x.cps.toList ∧ hh = hp) ⟨rfl, rfl⟩) fun v hh q => by
          obtain ⟨rfl, rfl⟩ := q
          exact ⟨_, rfl, by simpa using h1, I.j _ (by omega) K env l _ _ _ hs ok.2 h2⟩
      | _ => simp only [exJ] at h
    | FormattedValue e c sp p =>
      by_cases hc : c = -1
      · subst hc
        cases sp with
        | some _ => simp only [exJ] at h
        | none =>
          simp only [exJ] at h
          have ok1 : okE K.sc e = true := by have := ok.1; unfold okE at this; exact this
          simp only [Expr.FormattedValue.sizeOf_spec] at hk
          refine J_part (E_fval (Q := fun v hh => ∃ x, v = .str x ∧ acc.length + x.length ≤ big ∧ exJ G n K r (acc ++ x) l hh Q) (I.e e (by omega) K env l hp _ hs ok1 h) fun v hh q => ?_) fun v hh q => ?_
          · cases v <;> simp only [] at q <;> try exact q.elim
            exact ⟨_, rfl, by omega, _, rfl, q.1, q.2⟩
          · obtain ⟨x, rfl, h1, h2⟩ := q
            exact ⟨x, rfl, h1, I.j _ (by omega) K env l _ _ _ hs ok.2 h2⟩
      · exfalso; unfold exJ at h; split at h <;> simp_all
    | _ => simp only [exJ] at h
theorem sO {k : Nat} (I : IHs G n k) (o : Option Expr) (hk : sizeOf o < k + 1) : SO G n o := by
  intro K env l hp Q hs ok h
  cases o with
  | none => unfold exO at h; exact O_none h
  | some e =>
    simp only [Option.some.sizeOf_spec] at hk
    unfold okO at ok
    unfold exO at h
    exact O_some (I.e e (by omega) K env l hp _ hs ok h)

theorem E_leaf {K : Cfg} {e : Expr} {env : Env} {l : Loc} {hp : Hp} {Q : PV → Hp → Prop} (hs : env.scope = K.sc) (h : LeafE G n K.sc e l hp Q) : WE G n env l hp (eval e env) Q := h env hs

theorem E_replace {o : Expr} {mp pos pa pb : Pos} {a b : Str} {ka kb : Nat} {env : Env} {l : Loc} {hp : Hp} {Q Qo : PV → Hp → Prop} (hn : notSuper o = true) (hline : (mp.endLine == pos.line) = true) (ho : WE G n env l hp (eval o env) Qo)
    (hq : ∀ v h1, Qo v h1 → (match v, a.cps.toList with | .str x, [c] => (x.length ≤ 100000 ∧ b.cps.size ≤ 8 ∧ b ≠ a) ∧ Q (.str (replC x c b.cps.toList)) h1 | _, _ => False)) :
    WE G n env l hp (eval (.Call (.Attribute o (Str.ofString "replace") mp) [.Constant (.str a) ka pa, .Constant (.str b) kb pb] [] pos) env) Q := fun A μ s R H X => by
  refine wpAny_Call_method (base_eq hn) rfl hline F.plainAttrs_str F.slot_str_replace F.type_str_replace ?_
  refine ho.run R H X fun v s1 pv hp1 μ1 q r H1 X1 st1 => ?_
  have q2 := hq _ _ q
  split at q2
  · rename_i _ _ x c hc
    obtain ⟨⟨h1, h2, h3⟩, q2⟩ := q2
    simp only [Rep] at r; obtain ⟨t, rfl⟩ := r
    refine ⟨typeIs_str _ _ _, (fun a e => by cases e), ?_⟩
    refine Calls.callWith_builtin rfl (Calls.evalArgs_plain (Calls.spliced_cons (Calls.Constant_str (k := ka) (pos := pa) (Calls.spliced_cons (Calls.Constant_str (k := kb) (pos := pb) (Calls.spliced_nil ?_))))))
    have ht := H1.toks
    have t1 : s1.toks ≠ (0 : Nat) := Nat.ne_of_gt ht
    have t2 : s1.toks + 1 ≠ (0 : Nat) := Nat.succ_ne_zero _
    have t3 : s1.toks ≠ s1.toks + 1 := Nat.ne_of_lt (Nat.lt_succ_self _)
    have H2 : HR G μ1 hp1 { s1 with toks := s1.toks + 1 + 1 } := H1.tok (by omega)
    exact PE.back (st1.trans (Stp.toks μ1 s1 (s1.toks + 1 + 1))) (op_replace (u := s1.toks) (v := s1.toks + 1) H2 t1 t2 t3 hc h3 h1 h2 q2)
  · exact q2.elim

theorem sE_call {k : Nat} (g : GOk G) (I : IHs G n k) (f : Expr) (args : List Expr) (kws : List Keyword) (p : Pos) (hk : sizeOf (Expr.Call f args kws p) < k + 1) : SE G n (.Call f args kws p) := by
  intro K env l hp Q hs ok h
  simp only [Expr.Call.sizeOf_spec] at hk
  cases kws with
  | cons _ _ => cases f <;> (unfold exE at h; first | exact E_leaf hs h | (split at h <;> rename_i heq <;> first | (cases heq; done) | exact E_leaf hs h))
  | nil =>
    cases f with
    | Name f fp =>
      unfold exE at h
      simp only [okE, Bool.and_eq_true, Bool.or_eq_true, decide_eq_true_eq] at ok
      obtain ⟨⟨⟨o1, o2⟩, o3⟩, o4⟩ := ok
      split at h
      · rename_i hf
        obtain ⟨p, hj, h⟩ := h
        cases p <;> simp only [] at h <;> try exact h.elim
        exact E_add o3 (I.l args (by omega) K env l hp _ _ hs o3 h) hj fun vs h1 q => q
      · rename_i hf
        have og : glbOk K.sc f = true := by
          rcases o1 with q | q
          · exact absurd (by simpa using q) hf
          · exact q
        split at h
        · rename_i hf2
          subst hf2
          obtain ⟨rfl, q⟩ := h
          exact E_object g hs og q
        split at h
        · rename_i hf2
          subst hf2
          split at h
          · rename_i e t tp
            simp only [List.cons.sizeOf_spec] at hk
            simp only [okEs, Bool.and_eq_true] at o3
            simp only [beq_self_eq_true, Bool.not_true, Bool.false_or] at o4
            exact E_isinstance g hs og o3.1 o4 (I.e e (by omega) K env l hp _ hs o3.1 h) fun v h1 q => q
          · exact h.elim
        split at h
        · rename_i hb
          exact E_blt g hs og o3 hb (I.l args (by omega) K env l hp _ _ hs o3 h) fun vs h1 q => q
        · obtain ⟨hx, h0, h⟩ := h
          exact E_fun g hs og o3 (I.l args (by omega) K env l hp _ _ hs o3 h) h0 (fun vs h1 q => q) hx
    | Attribute o m mp =>
      simp only [okE, Bool.and_eq_true, decide_eq_true_eq] at ok
      obtain ⟨⟨⟨⟨o1, o2⟩, o3⟩, o4⟩, o5⟩ := ok
      simp only [Expr.Attribute.sizeOf_spec] at hk
      unfold exE at h
      split at h <;> rename_i heq <;> try (cases heq; done)
      · cases heq
        simp only [List.cons.sizeOf_spec] at hk
        split at h
        · rename_i hm
          subst hm
          exact E_replace o4 o5 (I.e o (by omega) K env _ _ _ hs o1 h) fun v h1 q => q
        · exact h.elim
      · cases heq
        exact E_leaf hs h
      · cases heq
        split at h
        · rename_i hm
          exact E_meth hm o4 o2 o3 o5 (I.e o (by omega) K env _ _ _ hs o1 h) (fun x h1 q => ⟨q.1, I.l args (by omega) K env _ _ _ _ hs o2 q.2⟩) fun x vs h2 q => q
        · exact E_leaf hs h
      · exact E_leaf hs h
    | _ => unfold exE at h; first | exact E_leaf hs h | (split at h <;> rename_i heq <;> first | (cases heq; done) | exact E_leaf hs h)

end

section
open PySem PySem.W PyProof.Rows
open Sem (wp)
set_option linter.unusedVariables false
set_option linter.unusedSimpArgs false
set_option maxRecDepth 100000

variable {G : GI} {n : Nat} {A : Around} {μ μ' : List Addr} {hp hp' : Hp} {s s' : Shared} {Q : PV → Hp → Prop} {env : Env} {l : Loc} {K : Cfg}

section
variable {prog : Program} {w : World} {R : Result → Shared → Prop}
theorem comp_step {elt target iter : Expr} {ifs : List Expr} {scope : Scope} {pos : Pos} {it acc : Value}
    (turn : wpAny (model prog w) A (pyNext it) (fun r s₁ => match r with
      | none => R (.ok .next) s₁
      | some v => wpAny (model prog w) A (letOwnedTupleGo target it v) (fun _ s1' => wpAny (model prog w) A (assign target env v) (fun _ s₂ =>
          wpAny (model prog w) A (forIn ifs true fun c r => if r = true then do let ok ← isTrue c env (eval c env); pure (ForInStep.yield ok) else pure (ForInStep.yield r)) (fun ok s₃ =>
            if ok = true then wpAny (model prog w) A (eval elt env) (fun x s₄ =>
              wpAny (model prog w) A (call (.builtin "list.append") [acc, x]) (fun _ s₅ => codeAny (model prog w) A (.compLoop (.ListComp elt [⟨target, iter, ifs, 0⟩] scope pos) 0 it acc env) R s₅) noE s₄) noE s₃
            else codeAny (model prog w) A (.compLoop (.ListComp elt [⟨target, iter, ifs, 0⟩] scope pos) 0 it acc env) R s₃) noE s₂) noE s1') noE s₁) noE s) :
    codeAny (model prog w) A (.compLoop (.ListComp elt [⟨target, iter, ifs, 0⟩] scope pos) 0 it acc env) R s := by
  refine codeAny_of_tree ?_
  show wpAny _ A ((compTurn (.ListComp elt [⟨target, iter, ifs, 0⟩] scope pos) 0 it acc env).onRaise (fun x => do noteFrame x env; theTreesLotGoes x)) _ _ s
  refine wpAny_noted ?_
  rw [compTurn_list]
  refine wpAny_bind (wpAny_standAt (wpAny_bind (wpAny_mono turn (fun r s₁ h₁ => ?_) fun _ _ h' => h'.elim)))
  cases r with
  | none => exact wpAny_pure h₁
  | some v =>
    refine wpAny_bind (wpAny_mono h₁ (fun _ s1' h1' => ?_) fun _ _ h' => h'.elim)
    refine wpAny_bind (wpAny_mono h1' (fun _ s₂ h₂ => wpAny_bind (wpAny_mono h₂ (fun ok s₃ h₃ => ?_) fun _ _ h' => h'.elim)) fun _ _ h' => h'.elim)
    cases ok with
    | false => exact wpAny_pure ⟨rfl, h₃⟩
    | true =>
      exact wpAny_bind (wpAny_bind (wpAny_mono h₃ (fun x s₄ h₄ => wpAny_bind (wpAny_mono h₄ (fun _ s₅ h₅ => wpAny_pure (wpAny_pure ⟨rfl, h₅⟩)) fun _ _ h' => h'.elim)) fun _ _ h' => h'.elim))
end

/-- the cells that a block takes over -/
def clos (env : Env) : List (Str × NameKind) → List (Str × Addr) → List (Str × Addr)
  | [], acc => acc
  | (x, k) :: r, acc => clos env r (if k == .free then (match env.cells.lookup x with
    | some c => (x, c) :: acc
    | none => acc) else acc)

theorem clos_eq {sc : Scope} (hs : env.scope = sc) (X : ∀ y, env.kindOf y = some .cell ∨ env.kindOf y = some .free → ∃ c, env.cells.lookup y = some c) :
    ∀ (names : List (Str × NameKind)) (acc : List (Str × Addr)), (names.all fun x => x.2 != .free || sc.names.lookup x.1 == some .cell || sc.names.lookup x.1 == some .free) = true →
      (forIn names acc fun x cs => (match x with | (name, kind) => if kind == .free then do let c ← cellOf env name; pure (ForInStep.yield ((name, c) :: cs)) else pure (ForInStep.yield cs)) : Sem (List (Str × Addr))) = pure (clos env names acc)
  | [], acc, _ => rfl
  | (x, k) :: r, acc, h => by
      simp only [List.all_cons, Bool.and_eq_true] at h
      rw [List.forIn_cons]
      unfold clos
      by_cases hk : (k == .free) = true
      · simp only [hk, if_true]
        have hk' : k = .free := by simpa using hk
        have : ∃ c, env.cells.lookup x = some c := by
          refine X x ?_
          rw [Env.kindOf, hs]
          have := h.1
          simp only [hk', bne_self_eq_false, Bool.false_or, Bool.or_eq_true, beq_iff_eq] at this
          exact this
        obtain ⟨c, hc⟩ := this
        rw [hc]
        have e : cellOf env x = pure c := by unfold cellOf; rw [hc]
        rw [e]
        show _ = pure (clos env r ((x, c) :: acc))
        rw [← clos_eq hs X r ((x, c) :: acc) h.2]
        rfl
      · have hk' : (k == .free) = false := by simpa using hk
        simp only [hk', Bool.false_eq_true, if_false]
        rw [← clos_eq hs X r acc h.2]
        rfl

end

section
open PySem PySem.W PyProof.Rows
open Sem (wp)
set_option linter.unusedVariables false
set_option linter.unusedSimpArgs false
set_option maxRecDepth 100000

variable {G : GI} {n : Nat} {A : Around} {μ μ' : List Addr} {hp hp' : Hp} {s s' : Shared} {env : Env} {l : Loc} {K : Cfg}

def blockE (csc : Scope) (cl : List (Str × Addr)) (C : Addr) (env : Env) : Env :=
  { scope := csc, locals := C, globals := env.globals, cells := cellsFrom (C + 1) csc.names cl, qual := env.qual, func := none, code := env.code, frame := env.frame, builtins := env.builtins }
abbrev dictO : Obj := { cls := .type "dict", data := .dict #[] }

theorem block_env {M : Model} {csc : Scope} {cl : List (Str × Addr)} {E : Value → Shared → Prop} {Q : Env → Shared → Prop} (h : Q (blockE csc cl s.heap.objs.size env) { s with heap := pushCells (s.heap.push dictO) csc.names }) :
    wpAny M A (newFunctionEnv csc env.globals cl [] env.qual none .none (some env)) Q E s := by
  simp only [newFunctionEnv, Option.isSome_some, if_true]
  refine wpAny_bind (wpAny_alloc ?_)
  refine wpAny_bind (wpAny_layCells _ (fun name kind cells => by cases hkc : kind == NameKind.cell <;> simp [hkc]) _ _ _ _ ?_)
  rw [show ({ s with heap := s.heap.push dictO } : Shared).heap.objs.size = s.heap.objs.size + 1 from Heap.size_push ..]
  first
    | exact wpAny_pure h
    | exact wpAny_bind (wpAny_pure (wpAny_pure h))
    | (simp only [List.forIn_nil]; exact wpAny_bind (wpAny_pure (wpAny_pure h)))

/-! the cells of a block -/
theorem clos_mem : ∀ {names : List (Str × NameKind)} {acc : List (Str × Addr)} {x : Str} {c : Addr}, (x, c) ∈ clos env names acc → (x, c) ∈ acc ∨ ((x, NameKind.free) ∈ names ∧ env.cells.lookup x = some c)
  | [], _, _, _, h => .inl h
  | (y, k) :: r, acc, x, c, h => by
      unfold clos at h
      rcases clos_mem h with q | ⟨q1, q2⟩
      · split at q
        · rename_i hk
          have hk : k = .free := by simpa using hk
          split at q
          · rename_i c' hc
            rcases List.mem_cons.mp q with e | e
            · cases e; exact .inr ⟨by rw [hk]; exact List.mem_cons_self .., hc⟩
            · exact .inl e
          · exact .inl q
        · exact .inl q
      · exact .inr ⟨List.mem_cons_of_mem _ q1, q2⟩

theorem clos_look : ∀ {names : List (Str × NameKind)} {acc : List (Str × Addr)} {x : Str}, (x, NameKind.free) ∉ names → (clos env names acc).lookup x = acc.lookup x
  | [], _, _, _ => rfl
  | (y, k) :: r, acc, x, h => by
      unfold clos
      rw [clos_look (fun q => h (List.mem_cons_of_mem _ q))]
      split
      · rename_i hk
        have hk : k = .free := by simpa using hk
        split
        · rw [List.lookup_cons]
          have : (x == y) = false := by
            rw [beq_eq_false_iff_ne]; rintro rfl; exact h (by rw [hk]; exact List.mem_cons_self ..)
          rw [this]
        · rfl
      · rfl
theorem clos_free : ∀ {names : List (Str × NameKind)} {acc : List (Str × Addr)} {x : Str} {c : Addr}, (names.map (·.1)).Nodup → (x, NameKind.free) ∈ names → env.cells.lookup x = some c → (clos env names acc).lookup x = some c
  | [], _, _, _, _, h, _ => by cases h
  | (y, k) :: r, acc, x, c, hn, h, hc => by
      rw [List.map_cons, List.nodup_cons] at hn
      unfold clos
      rcases List.mem_cons.mp h with e | e
      · cases e
        rw [clos_look (fun q => hn.1 (List.mem_map.mpr ⟨_, q, rfl⟩))]
        simp [hc, List.lookup_cons]
      · exact clos_free hn.2 e hc
theorem clos_apart (hp : env.cells.Pairwise fun x y => x.2 ≠ y.2) : ∀ {names : List (Str × NameKind)} {acc : List (Str × Addr)}, (names.map (·.1)).Nodup → (∀ x c, (x, c) ∈ acc → env.cells.lookup x = some c ∧ x ∉ names.map (·.1)) →
    (acc.Pairwise fun x y => x.2 ≠ y.2) → (clos env names acc).Pairwise fun x y => x.2 ≠ y.2
  | [], _, _, _, h => h
  | (y, k) :: r, acc, hn, ha, h => by
      rw [List.map_cons, List.nodup_cons] at hn
      unfold clos
      refine clos_apart hp hn.2 ?_ ?_
      · intro x c hx
        split at hx
        · split at hx
          · rename_i c' hc
            rcases List.mem_cons.mp hx with e | e
            · cases e; exact ⟨hc, hn.1⟩
            · exact ⟨(ha x c e).1, fun q => (ha x c e).2 (List.mem_cons_of_mem _ q)⟩
          · exact ⟨(ha x c hx).1, fun q => (ha x c hx).2 (List.mem_cons_of_mem _ q)⟩
        · exact ⟨(ha x c hx).1, fun q => (ha x c hx).2 (List.mem_cons_of_mem _ q)⟩
      · split
        · split
          · rename_i c' hc
            rw [List.pairwise_cons]
            refine ⟨fun z hz => ?_, h⟩
            obtain ⟨zx, zc⟩ := z
            have hz2 := ha zx zc hz
            refine pair_ne hp (lookup_mem hc) (lookup_mem hz2.1) ?_
            rintro rfl
            exact hz2.2 (List.mem_cons_self ..)
          · exact h
        · exact h

theorem cf_mem : ∀ {names : List (Str × NameKind)} {k : Nat} {acc : List (Str × Addr)} {x : Str} {c : Addr}, (x, c) ∈ cellsFrom k names acc → (x, c) ∈ acc ∨ (k ≤ c ∧ (x, NameKind.cell) ∈ names)
  | [], _, _, _, _, h => .inl h
  | (y, kd) :: r, k, acc, x, c, h => by
      unfold cellsFrom at h
      split at h
      · rename_i hk
        have hk : kd = .cell := by simpa using hk
        rcases cf_mem h with q | ⟨q1, q2⟩
        · rcases List.mem_cons.mp q with e | e
          · cases e; exact .inr ⟨Nat.le_refl _, by rw [hk]; exact List.mem_cons_self ..⟩
          · exact .inl e
        · exact .inr ⟨Nat.le_of_succ_le q1, List.mem_cons_of_mem _ q2⟩
      · rcases cf_mem h with q | ⟨q1, q2⟩
        · exact .inl q
        · exact .inr ⟨q1, List.mem_cons_of_mem _ q2⟩
theorem cf_look : ∀ {names : List (Str × NameKind)} {k : Nat} {acc : List (Str × Addr)} {x : Str}, (x, NameKind.cell) ∉ names → (cellsFrom k names acc).lookup x = acc.lookup x
  | [], _, _, _, _ => rfl
  | (y, kd) :: r, k, acc, x, h => by
      unfold cellsFrom
      split
      · rename_i hk
        have hk : kd = .cell := by simpa using hk
        rw [cf_look (fun q => h (List.mem_cons_of_mem _ q)), List.lookup_cons]
        have : (x == y) = false := by
          rw [beq_eq_false_iff_ne]; rintro rfl; exact h (by rw [hk]; exact List.mem_cons_self ..)
        rw [this]
      · exact cf_look (fun q => h (List.mem_cons_of_mem _ q))
theorem cf_apart : ∀ {names : List (Str × NameKind)} {k : Nat} {acc : List (Str × Addr)}, (∀ x c, (x, c) ∈ acc → c < k) → (acc.Pairwise fun x y => x.2 ≠ y.2) → (cellsFrom k names acc).Pairwise fun x y => x.2 ≠ y.2
  | [], _, _, _, h => h
  | (y, kd) :: r, k, acc, ha, h => by
      unfold cellsFrom
      split
      · refine cf_apart (fun x c hx => ?_) ?_
        · rcases List.mem_cons.mp hx with e | e
          · cases e; exact Nat.lt_succ_self _
          · exact Nat.lt_succ_of_lt (ha x c e)
        · rw [List.pairwise_cons]
          refine ⟨fun z hz e => ?_, h⟩
          have := ha z.1 z.2 hz
          exact Nat.lt_irrefl _ (e ▸ this)
      · exact cf_apart ha h
/-- a new cell is an empty cell -/
theorem cf_cell : ∀ {names : List (Str × NameKind)} {h : Heap} {acc : List (Str × Addr)} {x : Str} {c : Addr}, (x, c) ∈ cellsFrom h.objs.size names acc → (x, c) ∈ acc ∨ (pushCells h names).IsCell c none
  | [], _, _, _, _, q => .inl q
  | (y, kd) :: r, h, acc, x, c, q => by
      unfold cellsFrom at q
      unfold pushCells
      split at q
      · rename_i hk
        rw [if_pos hk]
        have e : h.objs.size + 1 = (h.push { cls := .type "cell", data := .cell none }).objs.size := by rw [Heap.size_push]
        rw [e] at q
        rcases cf_cell q with z | z
        · rcases List.mem_cons.mp z with e | e
          · cases e
            exact .inr ⟨_, pushCells_keeps _ _ _ _ (Heap.get?_push_size _ rfl), rfl⟩
          · exact .inl e
        · exact .inr z
      · rename_i hk
        rw [if_neg hk]
        exact cf_cell q

theorem cells_some0 : ∀ {names : List (Str × NameKind)} {k : Nat} {acc : List (Str × Addr)} {x : Str}, ((x, NameKind.cell) ∈ names ∨ (acc.lookup x).isSome = true) → ((cellsFrom k names acc).lookup x).isSome = true
  | [], _, _, _, h => by
      rcases h with h | h
      · cases h
      · exact h
  | (y, kd) :: r, k, acc, x, h => by
      unfold cellsFrom
      split
      · refine cells_some0 ?_
        rcases h with h | h
        · rcases List.mem_cons.mp h with e | e
          · cases e; right; simp [List.lookup_cons]
          · exact .inl e
        · right; rw [List.lookup_cons]; split
          · rfl
          · exact h
      · rename_i hk
        refine cells_some0 ?_
        rcases h with h | h
        · rcases List.mem_cons.mp h with e | e
          · cases e; simp at hk
          · exact .inl e
        · exact .inr h
theorem cells_some' {names : List (Str × NameKind)} {k : Nat} {acc : List (Str × Addr)} {x : Str} (h : (x, NameKind.cell) ∈ names) : ((cellsFrom k names acc).lookup x).isSome = true := cells_some0 (.inl h)

end

section
open PySem PySem.W PyProof.Rows
open Sem (wp)
set_option linter.unusedVariables false
set_option linter.unusedSimpArgs false
set_option maxRecDepth 100000

variable {G : GI} {n : Nat} {A : Around} {μ μ' : List Addr} {hp hp' : Hp} {s s' : Shared} {env : Env} {l : Loc} {K : Cfg}

theorem relabel_eq (csc : Scope) (env : Env) : relabel csc env = relabelS csc env.scope := rfl
theorem rl_look (sc : Scope) (y : Str) : ∀ (names : List (Str × NameKind)),
    (names.map fun (n, k) => if (k == .free && sc.kind == .function && sc.names.lookup n == some .cell) then (n, NameKind.cell) else (n, k)).lookup y =
      (names.lookup y).map fun k => if (k == .free && sc.kind == .function && sc.names.lookup y == some .cell) then NameKind.cell else k
  | [] => rfl
  | (x, k) :: r => by
      rw [List.map_cons]
      by_cases hx : y = x
      · subst hx
        simp only [List.lookup_cons, beq_self_eq_true, Option.map_some]
        split <;> simp [List.lookup_cons]
      · have hb : (y == x) = false := by simpa using hx
        simp only [List.lookup_cons, hb]
        have : ((if (k == .free && sc.kind == .function && sc.names.lookup x == some .cell) = true then (x, NameKind.cell) else (x, k)) : Str × NameKind).1 = x := by split <;> rfl
        rw [List.lookup_cons]
        rw [this, hb]
        exact rl_look sc y r

theorem block_frame {csc : Scope} (X : EnvR G A env l μ s.heap) (H : HR G μ hp s) (ok : okC env.scope csc = true) :
    HR G μ hp { s with heap := pushCells (s.heap.push dictO) csc.names } ∧ Stp G noOwn μ s μ { s with heap := pushCells (s.heap.push dictO) csc.names } ∧
      EnvR G A { blockE csc (clos env csc.names []) s.heap.objs.size env with scope := relabelS csc env.scope } (restr csc l) μ (pushCells (s.heap.push dictO) csc.names) := by
  simp only [okC, Bool.and_eq_true, decide_eq_true_eq, beq_iff_eq] at ok
  obtain ⟨⟨⟨okq, okk⟩, nd⟩, okf⟩ := ok
  have keep : ∀ b o, s.heap.get? b = some o → (pushCells (s.heap.push dictO) csc.names).get? b = some o := fun b o e => pushCells_keeps _ _ b o (Heap.get?_push_of_some _ e)
  have H1 : HR G μ hp { s with heap := pushCells (s.heap.push dictO) csc.names } := H.ext keep rfl rfl H.toks
  have st : Stp G noOwn μ s μ { s with heap := pushCells (s.heap.push dictO) csc.names } := Stp.ext μ keep
  have X1 := X.step H st
  refine ⟨H1, st, ?_⟩
  have sz : (s.heap.push dictO).objs.size = s.heap.objs.size + 1 := Heap.size_push ..
  have kind : ∀ y, (relabelS csc env.scope).names.lookup y = (csc.names.lookup y).map fun k => if (k == .free && env.scope.kind == .function && env.scope.names.lookup y == some .cell) then NameKind.cell else k := fun y => rl_look env.scope y csc.names
  have memk : ∀ {y : Str} {k : NameKind}, csc.names.lookup y = some k → (y, k) ∈ csc.names := fun h => lookup_mem h
  have uniq : ∀ {y : Str} {k k' : NameKind}, csc.names.lookup y = some k → (y, k') ∈ csc.names → k = k' := by
    intro y k k' h1 h2
    have := memk h1
    clear kind memk okf
    revert nd h1 h2 this
    generalize csc.names = ns
    induction ns with
    | nil => intro _ h; simp at h
    | cons p r ih =>
      obtain ⟨x, kx⟩ := p
      intro nd h1 h2 h3
      rw [List.map_cons, List.nodup_cons] at nd
      rw [List.lookup_cons] at h1
      split at h1
      · rename_i hb
        have hb : y = x := by simpa using hb
        subst hb
        cases h1
        rcases List.mem_cons.mp h2 with e | e
        · cases e; rfl
        · exact absurd (List.mem_map.mpr ⟨_, e, rfl⟩) nd.1
      · rename_i hb
        rcases List.mem_cons.mp h2 with e | e
        · cases e; simp at hb
        · exact ih nd.2 h1 e (lookup_mem h1)
  have outer : ∀ {y : Str}, csc.names.lookup y = some .free → env.kindOf y = some .cell ∨ env.kindOf y = some .free := by
    intro y h
    have := List.all_eq_true.mp okf _ (memk h)
    simp only [bne_self_eq_false, Bool.false_or, Bool.or_eq_true, beq_iff_eq] at this
    exact this
  have clow : ∀ {y : Str} {c : Addr}, (y, c) ∈ clos env csc.names [] → c < s.heap.objs.size ∧ G.h0.objs.size ≤ c := by
    intro y c h
    rcases clos_mem h with q | ⟨q1, q2⟩
    · cases q
    · refine ⟨?_, X.lows _ _ (lookup_mem q2)⟩
      have hf : csc.names.lookup y = some .free := by
        cases e : csc.names.lookup y with
        | none =>
          exfalso
          rw [List.lookup_eq_none_iff] at e
          have := e _ q1
          simp at this
        | some k => rw [uniq e q1]
      obtain ⟨c', ov, e1, ⟨o, e2, _⟩, _⟩ := X.cel y (outer hf)
      rw [q2] at e1; cases e1
      exact Heap.lt_size e2
  refine ⟨fun y pv hy => ?_, ?_, X.glob, X.blt, X.base H, fun y c hc => ?_, ?_, fun hq => absurd (show (relabelS csc env.scope).names.lookup QM = none by rw [kind, okq]; rfl) hq, X1.frs, ⟨_, (Heap.Ns.new s.heap (.type "dict")).keeps (pushCells_keeps _ _), fun y pv hk hl => ?_⟩, fun y hy => ?_⟩
  · unfold restr at hy
    split at hy
    · rename_i hf
      obtain ⟨_, h2, h3⟩ := X.dom y pv hy
      refine ⟨.inr ?_, h2, h3⟩
      show (relabelS csc env.scope).names.lookup y = some .cell ∨ (relabelS csc env.scope).names.lookup y = some .free
      rw [kind, hf]
      simp only [Option.map_some]
      split
      · exact .inl rfl
      · exact .inr rfl
    · cases hy
  · show (relabelS csc env.scope).kind = .function
    exact okk
  · rcases cf_mem hc with q | ⟨q, _⟩
    · exact (clow q).2
    · exact Nat.le_trans (X.base H) (Nat.le_of_succ_le q)
  · exact cf_apart (fun x c hx => Nat.lt_succ_of_lt (clow hx).1) (clos_apart X.apart nd (fun _ _ h => by cases h) List.Pairwise.nil)
  · unfold restr at hl
    split at hl
    · rename_i hf
      have hk' : (relabelS csc env.scope).names.lookup y = some .local := hk
      rw [kind, hf] at hk'
      simp only [Option.map_some, Option.some.injEq] at hk'
      split at hk' <;> cases hk'
    · cases hl
  · have hy' : (relabelS csc env.scope).names.lookup y = some .cell ∨ (relabelS csc env.scope).names.lookup y = some .free := hy
    rw [kind] at hy'
    cases e : csc.names.lookup y with
    | none => rw [e] at hy'; simp at hy'
    | some k =>
      cases k with
      | cell =>
        have hs := cells_some' (names := csc.names) (k := s.heap.objs.size + 1) (acc := clos env csc.names []) (memk e)
        obtain ⟨c, hc⟩ := Option.isSome_iff_exists.mp hs
        have hc' : (y, c) ∈ cellsFrom (s.heap.push dictO).objs.size csc.names (clos env csc.names []) := by rw [sz]; exact lookup_mem hc
        refine ⟨c, none, hc, ?_, fun pv hl => ?_⟩
        · rcases cf_cell hc' with q | q
          · exfalso
            rcases clos_mem q with z | ⟨z, _⟩
            · cases z
            · have := uniq e z; cases this
          · exact q
        · unfold restr at hl; rw [e] at hl; simp at hl
      | free =>
        obtain ⟨c, ov, h1, h2, h3⟩ := X1.cel y (outer e)
        refine ⟨c, ov, ?_, h2, fun pv hl => ?_⟩
        · show (cellsFrom (s.heap.objs.size + 1) csc.names (clos env csc.names [])).lookup y = some c
          rw [cf_look (fun q => by have := uniq e q; cases this)]
          exact clos_free nd (memk e) h1
        · unfold restr at hl; rw [if_pos e] at hl; exact h3 pv hl
      | _ => rw [e] at hy'; simp at hy'

end

section
open PySem PySem.W PyProof.Rows
open Sem (wp)
set_option linter.unusedVariables false
set_option linter.unusedSimpArgs false
set_option maxRecDepth 100000

variable {G : GI} {n : Nat} {A : Around} {μ μ' : List Addr} {hp hp' : Hp} {s s' : Shared} {Q : PV → Hp → Prop} {env : Env} {l : Loc} {K : Cfg}

mutual
theorem Rep.inTo {h : Heap} : ∀ {p : PV} {v : Value}, Rep μ h p v → Fnm.inTo μ.length p = true
  | .none, _, _ => rfl
  | .bool _, _, _ => rfl
  | .int _, _, _ => rfl
  | .str _, _, _ => rfl
  | .range _ _ _, _, _ => rfl
  | .tuple vs, _, e => by simp only [Rep] at e; obtain ⟨a, ws, _, _, r, _⟩ := e; simp only [Fnm.inTo]; exact RepL.inTo r
  | .list vs, _, e => by simp only [Rep] at e; obtain ⟨a, ws, _, _, _, _, r⟩ := e; simp only [Fnm.inTo]; exact RepL.inTo r
  | .ref n, _, e => by simp only [Rep] at e; obtain ⟨a, _, hm⟩ := e; simp only [Fnm.inTo]; exact decide_eq_true (List.getElem?_eq_some_iff.mp hm).1
  | .app n, _, e => by simp only [Rep] at e; obtain ⟨b, a, _, _, hm⟩ := e; simp only [Fnm.inTo]; exact decide_eq_true (List.getElem?_eq_some_iff.mp hm).1
theorem RepL.inTo {h : Heap} : ∀ {ps : List PV} {vs : List Value}, RepL μ h ps vs → inToL μ.length ps = true
  | [], _, _ => rfl
  | p :: ps, _, e => by
      simp only [RepL] at e; obtain ⟨w, wr, _, r, rs⟩ := e
      simp only [inToL, Bool.and_eq_true]; exact ⟨Rep.inTo r, RepL.inTo rs⟩
end

mutual
theorem Rep.cut {ν : List Addr} {h : Heap} : ∀ {p : PV} {v : Value}, Rep (μ ++ ν) h p v → Fnm.inTo μ.length p = true → Rep μ h p v
  | .none, _, e, _ => by simpa only [Rep] using e
  | .bool _, _, e, _ => by simpa only [Rep] using e
  | .int _, _, e, _ => by simpa only [Rep] using e
  | .str _, _, e, _ => by simpa only [Rep] using e
  | .range _ _ _, _, e, _ => by simpa only [Rep] using e
  | .tuple vs, _, e, i => by
      simp only [Rep] at e ⊢; obtain ⟨a, ws, h1, h2, r, h3⟩ := e; simp only [Fnm.inTo] at i; exact ⟨a, ws, h1, h2, RepL.cut r i, fun q => h3 (List.mem_append_left _ q)⟩
  | .list vs, _, e, i => by
      simp only [Rep] at e ⊢; obtain ⟨a, ws, m, h1, h2, h3, r⟩ := e; simp only [Fnm.inTo] at i
      exact ⟨a, ws, m, h1, h2, fun q => h3 (List.mem_append_left _ q), RepL.cut r i⟩
  | .ref n, _, e, i => by
      simp only [Rep] at e ⊢; obtain ⟨a, h1, hm⟩ := e
      simp only [Fnm.inTo, decide_eq_true_eq] at i
      exact ⟨a, h1, by rw [List.getElem?_append_left i] at hm; exact hm⟩
  | .app n, _, e, i => by
      simp only [Rep] at e ⊢; obtain ⟨b, a, h1, h2, hm⟩ := e
      simp only [Fnm.inTo, decide_eq_true_eq] at i
      exact ⟨b, a, h1, h2, by rw [List.getElem?_append_left i] at hm; exact hm⟩
theorem RepL.cut {ν : List Addr} {h : Heap} : ∀ {ps : List PV} {vs : List Value}, RepL (μ ++ ν) h ps vs → inToL μ.length ps = true → RepL μ h ps vs
  | [], _, e, _ => by simpa only [RepL] using e
  | p :: ps, _, e, i => by
      simp only [RepL] at e ⊢; obtain ⟨w, wr, h1, r, rs⟩ := e
      simp only [inToL, Bool.and_eq_true] at i; exact ⟨w, wr, h1, Rep.cut r i.1, RepL.cut rs i.2⟩
end

def objIn (k : Nat) : MO → Bool
  | .list vs => inToL k vs
  | .obj => true
  | .hid => true

theorem HR.cut {ν : List Addr} {hp1 : Hp} (H : HR G (μ ++ ν) hp s) (hl : hp1.length = μ.length) (ht : hp.take μ.length = hp1) (hc : hp1.all (objIn μ.length) = true) : HR G μ hp1 s := by
  refine ⟨H.base, H.tab, H.os, H.gens, H.toks, (List.nodup_append.mp H.nodup).1, hl.symm, fun a ha => H.low a (List.mem_append_left _ ha), fun i a m h1 h2 => ?_⟩
  have hi : i < μ.length := (List.getElem?_eq_some_iff.mp h1).1
  have h3 : hp[i]? = some m := by rw [← ht, List.getElem?_take_of_lt hi] at h2; exact h2
  have := H.obj i a m (by rw [List.getElem?_append_left hi]; exact h1) h3
  cases m with
  | list vs =>
    obtain ⟨ws, k, e, r⟩ := this
    have : objIn μ.length (.list vs) = true := (List.all_eq_true.mp hc) _ (List.mem_of_getElem? h2)
    exact ⟨ws, k, e, r.cut this⟩
  | obj => exact this
  | hid => exact this
theorem HR.objsIn (H : HR G μ hp s) : hp.all (objIn μ.length) = true := by
  rw [List.all_eq_true]
  intro m hm
  obtain ⟨i, hi⟩ := List.getElem?_of_mem hm
  have hlt : i < μ.length := by rw [H.len]; exact (List.getElem?_eq_some_iff.mp hi).1
  have := H.obj i μ[i] m (List.getElem?_eq_getElem hlt) hi
  cases m with
  | list vs => obtain ⟨ws, k, e, r⟩ := this; exact r.inTo
  | obj => rfl
  | hid => rfl


theorem Stp.fresh {μ0 : List Addr} {s0 : Shared} (st : Stp G (fun a => s0.heap.get? a = none) μ0 s0 μ s) : Stp G noOwn μ0 s0 μ s :=
  ⟨fun a o e h1 h2 _ => st.keepU a o e h1 h2 (fun q => by rw [q] at e; cases e), st.grow, st.live⟩

theorem EnvR.less {l' : Loc} {h : Heap} (X : EnvR G A env l μ h) (hl : ∀ y pv, l' y = some pv → l y = some pv) : EnvR G A env l' μ h := by
  refine ⟨fun y pv q => X.dom y pv (hl y pv q), X.kind, X.glob, X.blt, X.low, X.lows, X.apart, X.code, X.frs, ?_, fun y hy => ?_⟩
  · obtain ⟨m, h1, h2⟩ := X.ns
    exact ⟨m, h1, fun y pv hk q => h2 y pv hk (hl y pv q)⟩
  · obtain ⟨c, ov, h1, h2, h3⟩ := X.cel y hy
    exact ⟨c, ov, h1, h2, fun pv q => h3 pv (hl y pv q)⟩

theorem updL_keep : ∀ {xs : List Str} {vs : List PV} {l : Loc} {y : Str}, y ∉ xs → updL l xs vs y = l y
  | [], _, l, y, _ => by cases ‹List PV› <;> rfl
  | _ :: _, [], l, y, _ => rfl
  | x :: xs, v :: vs, l, y, h => by
      simp only [List.mem_cons, not_or] at h
      show updL (upd l x v) xs vs y = l y
      rw [updL_keep h.2, upd_other _ _ h.1]
theorem bindT_sub {t : Expr} {hp : Hp} {v : PV} {l : Loc} {P : Loc → Prop} (hn : ∀ x ∈ tNames t, l x = none) (h : bindT t hp v l P) : bindT t hp v l fun l1 => P l1 ∧ ∀ y pv, l y = some pv → l1 y = some pv := by
  unfold bindT at h ⊢
  split at h
  · rename_i x p
    refine ⟨h, fun y pv hy => ?_⟩
    rw [upd_other]
    · exact hy
    · rintro rfl; rw [hn _ (by simp [tNames])] at hy; cases hy
  · rename_i es k p
    obtain ⟨xs, hx, h⟩ := h
    refine ⟨xs, hx, ?_⟩
    split at h
    · refine ⟨h.1, h.2, fun y pv hy => ?_⟩
      rw [updL_keep]
      · exact hy
      · intro hm; rw [hn y (by simp [tNames, hx]; exact hm)] at hy; cases hy
    · exact h.elim
  · exact h.elim

theorem iter_self {v : PV} {xs : List PV} {I : Addr} {i : Nat} {P : Value → Shared → Prop} (st : StI μ hp s.heap v xs I i) (h : P (.ref I) s) : wpAny G.M A (pyIter (.ref I)) P noE s := by
  cases v <;> simp only [StI] at st <;> try (exact st.elim)
  · obtain ⟨_, t, st | st⟩ := st
    · exact wpAny_pyIter_striter_ascii st h
    · exact wpAny_pyIter_striter_wide st h
  · obtain ⟨_, _, st, _⟩ := st; exact wpAny_pyIter_tupleiter st h
  · obtain ⟨_, _, _, st, _⟩ := st; exact wpAny_pyIter_listiter st h
  · obtain ⟨_, st, _⟩ := st; exact wpAny_pyIter_listiter st h
  · exact wpAny_pyIter_rangeiter st.2 h

end

section
open PySem PySem.W PyProof.Rows
open Sem (wp)
set_option linter.unusedVariables false
set_option linter.unusedSimpArgs false
set_option maxRecDepth 100000
set_option maxHeartbeats 2000000

variable {G : GI} {n : Nat} {A : Around} {μ μ' : List Addr} {hp hp' : Hp} {s s' : Shared} {Q : PV → Hp → Prop} {env : Env} {l : Loc} {K : Cfg}

/-- the tests of a comprehension -/
def testsOf (ifs : List Expr) (env : Env) : Sem Bool :=
  forIn ifs true fun c r => if r = true then do let ok ← isTrue c env (eval c env); pure (ForInStep.yield ok) else pure (ForInStep.yield r)

theorem exI_sound {K' : Cfg} {cenv : Env} {ifs : List Expr} (hs : cenv.scope = K'.sc) (ok : okEs K'.sc ifs = true) (hT : ∀ e ∈ ifs, ST G n e) {P : Bool → Prop} (h : exI G n K' ifs l hp P) :
    WT G n cenv l hp (testsOf ifs cenv) fun b h1 => h1 = hp ∧ P b := by
  intro A μ s R H X
  match ifs, ok, hT, h with
  | [], _, _, h =>
    unfold exI at h
    exact wpAny_tests_nil ⟨hp, μ, ⟨rfl, h⟩, H, Stp.refl _ _⟩
  | [e], ok, hT, h =>
    unfold exI at h
    simp only [okEs, Bool.and_eq_true] at ok
    exact wpAny_tests_one (hT e (List.mem_cons_self ..) K' cenv l hp _ hs ok.1 h A μ s R H X)
  | _ :: _ :: _, _, _, h => unfold exI at h; exact h.elim

theorem bindT_hp {t : Expr} {h1 h2 : Hp} {v : PV} {l : Loc} {P : Loc → Prop} (h : bindT t h1 v l P) : bindT t h2 v l P := by
  unfold bindT at h ⊢; exact h
theorem Grow.none {h : Heap} (g : Grow h μ μ') (e : μ'.length = μ.length) : μ' = μ := by
  obtain ⟨ν, rfl, _⟩ := g
  have : ν = [] := by rw [List.length_append] at e; exact List.length_eq_zero_iff.mp (by omega)
  rw [this, List.append_nil]

theorem comp_loop {tgt iter elt : Expr} {ifs : List Expr} {csc : Scope} {pos : Pos} {v : PV} {xs : List PV} {I D : Addr} {cenv : Env} {K' : Cfg} {hp1 : Hp} {lb : Loc} {μ0 : List Addr} {s0 : Shared} {Qv : List PV → Prop} {Rr : Result → Shared → Prop}
    (R : Room n A) (hs : cenv.scope = K'.sc) (okt : tgtOk cenv.scope tgt = true) (hown : ∀ x ∈ tNames tgt, ∀ a, ownX cenv x a → s0.heap.get? a = none) (htn : ∀ x ∈ tNames tgt, lb x = none)
    (oki : okEs K'.sc ifs = true) (hT : ∀ e ∈ ifs, ST G n e) (oke : okE K'.sc elt = true) (hE : SE G n elt)
    (hI0 : G.h0.objs.size ≤ I) (hI1 : s0.heap.get? I = none) (hl : hp1.length = μ0.length) (hv : xs.length ≤ big) (hch : chkV hp1 hp1 v) (hvl : ∀ j, v = .ref j → j < hp1.length)
    (hR : ∀ s acc, Qv acc → HR G (μ0 ++ [D]) (hp1 ++ [.list acc]) s → EnvR G A cenv lb (μ0 ++ [D]) s.heap → Stp G (fun a => s0.heap.get? a = none) μ0 s0 (μ0 ++ [D]) s → inToL hp1.length acc = true → Rr (.ok .next) s) :
    ∀ (ys : List PV) (i : Nat) (acc : List PV) (s : Shared), xs.drop i = ys → i ≤ xs.length → acc.length ≤ i → HR G (μ0 ++ [D]) (hp1 ++ [.list acc]) s → EnvR G A cenv lb (μ0 ++ [D]) s.heap → Stp G (fun a => s0.heap.get? a = none) μ0 s0 (μ0 ++ [D]) s →
      StI (μ0 ++ [D]) (hp1 ++ [.list acc]) s.heap v xs I i → inToL hp1.length acc = true →
      compL (fun acc l1 k => exI G n K' ifs l1 (hp1 ++ [.list acc]) k) (fun acc l1 k => exE G n K' elt l1 (hp1 ++ [.list acc]) fun v h2 => h2 = hp1 ++ [.list acc] ∧ inTo hp1.length v = true ∧ k v)
        (fun x k => bindT tgt hp1 x lb k) Qv ys acc →
      codeAny G.M A (.compLoop (.ListComp elt [⟨tgt, iter, ifs, 0⟩] csc pos) 0 (.ref I) (.ref D) cenv) Rr s := by
  intro ys
  induction ys with
  | nil =>
    intro i acc s hd hle hacc H X st stI hin h
    have hi : i = xs.length := by
      have := congrArg List.length hd
      simp at this; omega
    refine comp_step (iter_done R.handled H stI hi fun s1 mv => ?_)
    have hit := stI.it
    exact hR s1 acc h (H.mv hit hI0 mv) (X.mv H hit mv) (st.mv hI1 mv) hin
  | cons y ys ih =>
    intro i acc s hd hle hacc H X st stI hin h
    have hi : xs[i]? = some y := by
      have := congrArg (fun z => z[0]?) hd
      simpa using this
    have hlt : i < xs.length := (List.getElem?_eq_some_iff.mp hi).1
    have hd' : xs.drop (i + 1) = ys := by
      have := congrArg List.tail hd
      simpa [List.tail_drop] using this
    have hit := stI.it
    refine comp_step (iter_item R.handled H hI0 stI hi fun w s1 rw' stI1 mv => ?_)
    have H1 := H.mv hit hI0 mv
    have X1 := X.mv H hit mv
    have st1 := st.mv hI1 mv
    have r1 : Rep (μ0 ++ [D]) s1.heap y w := rw'.mono (H.mvk hit mv) (Grow.refl _ _)
    have hit1 := stI1.it
    refine go_run hit1 ?_
    simp only [compL] at h
    have hb := bindT_sub htn h
    refine wpAny_mono (bind_runX (own := fun a => s0.heap.get? a = none ∧ ownOf cenv a) R.handled okt (fun x hx a ha => ⟨hown x hx a ha, ownX_of ha⟩) H1 X1 r1 (bindT_hp hb)) (fun _ s2 h2 => ?_) fun _ _ e => e
    obtain ⟨l2, ⟨q2, hsub⟩, H2, X2, st2⟩ := h2
    have stI2 : StI (μ0 ++ [D]) (hp1 ++ [.list acc]) s2.heap v xs I (i + 1) := stI1.step H1 H2 st2 (fun a o ha => X1.ownVal a o ha.2) (fun ha => X1.it hit1 ha.2) (by cases v <;> simp [chkV])
    have st12 : Stp G (fun a => s0.heap.get? a = none) μ0 s0 (μ0 ++ [D]) s2 := st1.trans (st2.weak fun _ ha => ha.1)
    refine (exI_sound hs oki hT q2).run R H2 X2 fun c s3 hp3 μ3 q3 H3 X3 st3 => ?_
    obtain ⟨rfl, q3⟩ := q3
    have e3 : μ3 = μ0 ++ [D] := st3.grow.none (by rw [H3.len, ← H2.len])
    subst e3
    have stI3 : StI (μ0 ++ [D]) (hp1 ++ [.list acc]) s3.heap v xs I (i + 1) := stI2.step H2 H3 st3 (fun _ _ q => q.elim) (fun q => q.elim) (by cases v <;> simp [chkV])
    have st13 := st12.trans st3.up
    cases c with
    | false =>
      simp only [Bool.false_eq_true, if_false] at q3 ⊢
      exact ih (i + 1) acc s3 hd' (by omega) (by omega) H3 (X3.less hsub) st13 stI3 hin q3
    | true =>
      simp only [if_true] at q3 ⊢
      refine (hE K' cenv l2 _ _ hs oke q3).run R H3 X3 fun x s4 pv hp4 μ4 q4 r4 H4 X4 st4 => ?_
      obtain ⟨rfl, hiv, q4⟩ := q4
      have e4 : μ4 = μ0 ++ [D] := st4.grow.none (by rw [H4.len, ← H3.len])
      subst e4
      have stI4 : StI (μ0 ++ [D]) (hp1 ++ [.list acc]) s4.heap v xs I (i + 1) := stI3.step H3 H4 st4 (fun _ _ q => q.elim) (fun q => q.elim) (by cases v <;> simp [chkV])
      have st14 := st13.trans st4.up
      have hD : Rep (μ0 ++ [D]) s4.heap (.ref hp1.length) (.ref D) := by simp only [Rep]; exact ⟨D, rfl, by rw [hl]; simp⟩
      have hm : methV (Str.ofString "append") (hp1 ++ [.list acc]) (.ref hp1.length) [pv] = some (.none, hp1 ++ [.list (acc ++ [pv])]) := by
        unfold methV
        rw [if_pos rfl]
        simp only [List.getElem?_append_right (Nat.le_refl _), Nat.sub_self, List.getElem?_cons_zero]
        rw [if_pos (by omega)]
        simp
      refine wpAny_mono (op_meth (Q := fun _ h => h = hp1 ++ [.list (acc ++ [pv])]) (m := Str.ofString "append") R H4 hD (RepL.one r4) hm rfl) (fun z s5 h5 => ?_) fun _ _ e => e
      obtain ⟨_, _, μ5, rfl, _, H5, st5⟩ := h5
      have e5 : μ5 = μ0 ++ [D] := st5.grow.none (by rw [H5.len, List.length_append, List.length_append, hl]; rfl)
      subst e5
      have hck : chkV (hp1 ++ [.list acc]) (hp1 ++ [.list (acc ++ [pv])]) v := by
        cases v <;> simp only [chkV]
        rename_i j
        have := hvl j rfl
        rw [List.getElem?_append_left this, List.getElem?_append_left this]
      have stI5 := stI4.step H4 H5 st5 (fun _ _ q => q.elim) (fun q => q.elim) hck
      have X5 := X4.step H4 st5
      refine ih (i + 1) (acc ++ [pv]) s5 hd' (by omega) (by simp; omega) H5 (X5.less hsub) (st14.trans st5.up) stI5 ?_ q4
      clear ih h hb q2 q3 q4 hm hR
      have hin2 : ∀ (as : List PV), inToL hp1.length as = true → inToL hp1.length (as ++ [pv]) = true := by
        intro as
        induction as with
        | nil => intro _; simp [inToL, hiv]
        | cons a as ih => intro h; simp only [List.cons_append, inToL, Bool.and_eq_true] at h ⊢; exact ⟨h.1, ih h.2⟩
      exact hin2 acc hin

end

section
open PySem PySem.W PyProof.Rows
open Sem (wp)
set_option linter.unusedVariables false
set_option linter.unusedSimpArgs false
set_option maxRecDepth 100000
set_option maxHeartbeats 2000000

variable {G : GI} {n : Nat} {A : Around} {μ μ' : List Addr} {hp hp' : Hp} {s s' : Shared} {Q : PV → Hp → Prop} {env : Env} {l : Loc} {K : Cfg}

theorem nodup_lookup : ∀ {names : List (Str × NameKind)} {x : Str} {k : NameKind}, (names.map (·.1)).Nodup → (x, k) ∈ names → names.lookup x = some k
  | [], _, _, _, h => by cases h
  | (y, k') :: r, x, k, hn, h => by
      rw [List.map_cons, List.nodup_cons] at hn
      rcases List.mem_cons.mp h with e | e
      · cases e; simp [List.lookup_cons]
      · have : (x == y) = false := by
          rw [beq_eq_false_iff_ne]; rintro rfl; exact hn.1 (List.mem_map.mpr ⟨_, e, rfl⟩)
        rw [List.lookup_cons, this]; exact nodup_lookup hn.2 e

/-- what stands behind a comprehension's loop -/
structure CompEnd (G : GI) (A : Around) (env : Env) (l : Loc) (Q : PV → Hp → Prop) (μ : List Addr) (s : Shared) (μ1 : List Addr) (hp1 : Hp) (acc : List PV) (D C : Addr) (s' : Shared) : Prop where
  q : Q (.list acc) hp1
  hr : HR G (μ1 ++ [D]) (hp1 ++ [.list acc]) s'
  env : EnvR G A env l (μ1 ++ [D]) s'.heap
  stp : Stp G noOwn μ s (μ1 ++ [D]) s'
  ns : ∃ m, s'.heap.Ns C m
  low : G.h0.objs.size ≤ C
  new : s.heap.get? C = none
  len : hp1.length = μ1.length
  acc : inToL μ1.length acc = true
  objs : hp1.all (objIn μ1.length) = true
  grow : Grow s.heap μ μ1

theorem comp_core {tgt iter elt : Expr} {ifs : List Expr} {csc : Scope} {pos : Pos} {use : Option (Value → Sem Unit)} {Qc : Value → Shared → Prop} (hs : env.scope = K.sc) (ok : okE K.sc (.ListComp elt [⟨tgt, iter, ifs, 0⟩] csc pos) = true)
    (hI : SE G n iter) (hT : ∀ e ∈ ifs, ST G n e) (hE : SE G n elt) (h : exE G n K (.ListComp elt [⟨tgt, iter, ifs, 0⟩] csc pos) l hp Q) (R : Room n A) (H : HR G μ hp s) (X : EnvR G A env l μ s.heap)
    (hfin : ∀ s' D C acc hp1 μ1, CompEnd G A env l Q μ s μ1 hp1 acc D C s' → compPost G.M A noE use Qc (.ref D) C (.ok .next) s') (p2 : Pos) :
    wpAny G.M A (comprehension (.ListComp elt [⟨tgt, iter, ifs, 0⟩] csc pos) csc env p2 (newList []) false (eval iter env) use) Qc noE s := by
  unfold exE at h
  simp only [okE, okG, okTg, Bool.and_eq_true] at ok
  obtain ⟨⟨⟨oke, ⟨⟨okt, oki⟩, okif⟩, _⟩, okc⟩, oktc, _⟩ := ok
  have okc' := okc
  simp only [okC, Bool.and_eq_true, decide_eq_true_eq, beq_iff_eq] at okc'
  obtain ⟨⟨⟨_, okk⟩, nd⟩, okf⟩ := okc'
  have hclos : closureFor csc env = pure (clos env csc.names []) := by
    unfold closureFor
    have := clos_eq (env := env) hs (fun y hy => let ⟨c, ov, e, _⟩ := X.cel y hy; ⟨c, e⟩) csc.names [] okf
    first
      | (rw [this]; rfl)
      | (simp only [bind_pure]; exact this)
      | exact this
  refine wpAny_comprehension_free (cl := clos env csc.names []) rfl (fun x => fold_set oki) hclos okk (fun x hx hl => by
    have := nodup_lookup nd (x := x.1) (k := x.2) hx; rw [hl] at this; exact this) ?_
  refine (hI K env l hp _ hs oki h).run R H X fun v s1 pv hp1 μ1 q r H1 X1 st1 => ?_
  obtain ⟨xs, ex, hbig, hL⟩ := q
  refine iter_start H1 r ex fun s2 stI H2 st2 => ?_
  have X2 := X1.step H1 st2
  have st12 := st1.trans st2
  have g2 := X2.base H2
  refine wpAny_newList ?_ (by decide)
  have H3 : HR G (μ1 ++ [s2.heap.objs.size]) (hp1 ++ [.list []]) { s2 with heap := s2.heap.push { cls := .type "list", data := .seq ([] : List Value).toArray } } :=
    H2.track g2 (m := .list []) ⟨#[], 0, Heap.get?_push_size _ rfl, rfl⟩
  have st3 : Stp G noOwn μ1 s2 (μ1 ++ [s2.heap.objs.size]) { s2 with heap := s2.heap.push { cls := .type "list", data := .seq ([] : List Value).toArray } } := Stp.track _ _ _
  have X3 := X2.step H2 st3
  refine block_env ?_
  generalize hs3 : ({ s2 with heap := s2.heap.push { cls := .type "list", data := .seq ([] : List Value).toArray } } : Shared) = s3 at H3 st3 X3 ⊢
  obtain ⟨H4, st4, X4⟩ := block_frame X3 H3 (by rw [hs]; exact okc)
  have hD : s2.heap.objs.size < s3.heap.objs.size := by rw [← hs3]; show _ < (s2.heap.push _).objs.size; rw [Heap.size_push]; exact Nat.lt_succ_self _
  have none2 : ∀ a, s2.heap.objs.size ≤ a → s2.heap.get? a = none := fun a ha => by
    cases e : s2.heap.get? a with
    | none => rfl
    | some o => exact absurd (Heap.lt_size e) (Nat.not_lt.mpr ha)
  have none0 : ∀ a, s2.heap.get? a = none → s.heap.get? a = none := fun a ha => by
    cases e : s.heap.get? a with
    | none => rfl
    | some o => obtain ⟨o', e'⟩ := st12.live _ _ e; rw [ha] at e'; cases e'
  have stC : Stp G (fun a => s1.heap.get? a = none) μ1 s1 (μ1 ++ [s2.heap.objs.size]) { s3 with heap := pushCells (s3.heap.push dictO) csc.names } := ((st2.trans st3).trans st4).up
  have none1 : ∀ a, s2.heap.get? a = none → s1.heap.get? a = none := fun a ha => by
    cases e : s1.heap.get? a with
    | none => rfl
    | some o => obtain ⟨o', e'⟩ := st2.live _ _ e; rw [ha] at e'; cases e'
  have kindc : ∀ y, (relabelS csc env.scope).names.lookup y = (csc.names.lookup y).map fun k => if (k == .free && env.scope.kind == .function && env.scope.names.lookup y == some .cell) then NameKind.cell else k := fun y => rl_look env.scope y csc.names
  have tgn : ∀ x ∈ tNames tgt, stoOk csc x = true := by
    intro x hx
    cases tgt <;> simp only [tNames, List.mem_cons, List.not_mem_nil, or_false] at hx
    · subst hx; exact oktc
    · rename_i es k p
      cases e : tgtNames es with
      | none => rw [e] at hx; simp at hx
      | some ns => rw [e] at hx; exact tgt_names e oktc x hx
  have hown : ∀ x ∈ tNames tgt, ∀ a, ownX { blockE csc (clos env csc.names []) s3.heap.objs.size env with scope := relabelS csc env.scope } x a → s1.heap.get? a = none := by
    intro x hx a ha
    refine none1 a ?_
    have hsx := (sto_iff (tgn x hx)).1
    rcases ha with ⟨_, rfl⟩ | ⟨hk, hc⟩
    · exact none2 _ (Nat.le_of_lt hD)
    · have hk' : (relabelS csc env.scope).names.lookup x = some .cell := hk
      rw [kindc] at hk'
      rcases hsx with q | q
      · rw [q] at hk'; simp at hk'
      · have hc' : (x, a) ∈ cellsFrom (s3.heap.objs.size + 1) csc.names (clos env csc.names []) := lookup_mem hc
        rcases cf_mem hc' with z | ⟨z, _⟩
        · rcases clos_mem z with y | ⟨y, _⟩
          · cases y
          · have := nodup_lookup nd y; rw [q] at this; cases this
        · exact none2 a (Nat.le_trans (Nat.le_of_lt hD) (Nat.le_of_succ_le z))
  have htn : ∀ x ∈ tNames tgt, restr csc l x = none := by
    intro x hx
    have hsx := (sto_iff (tgn x hx)).1
    unfold restr
    rcases hsx with q | q <;> rw [q] <;> rfl
  have hl : hp1.length = μ1.length := H1.len.symm
  have hI1 : s1.heap.get? s1.heap.objs.size = none := Heap.get?_size _
  have stI3 : StI (μ1 ++ [s2.heap.objs.size]) (hp1 ++ [.list []]) s3.heap pv xs s1.heap.objs.size 0 := stI.step H2 H3 st3 (fun _ _ q => q.elim) (fun q => q.elim) (by
    cases pv <;> simp only [chkV]
    simp only [StI] at stI
    obtain ⟨_, _, _, hj⟩ := stI
    rw [List.getElem?_append_left (List.getElem?_eq_some_iff.mp hj).1])
  have stI4 := stI3.step H3 H4 st4 (fun _ _ q => q.elim) (fun q => q.elim) (by cases pv <;> simp [chkV])
  have key : ∀ st, st = ({ s3 with heap := pushCells (s3.heap.push dictO) csc.names } : Shared) → codeAny G.M A (.compLoop (.ListComp elt [⟨tgt, iter, ifs, 0⟩] csc pos) 0 (.ref s1.heap.objs.size) (.ref s2.heap.objs.size) { blockE csc (clos env csc.names []) s3.heap.objs.size env with scope := relabelS csc env.scope })
      (compPost G.M A noE use Qc (.ref s2.heap.objs.size) s3.heap.objs.size) st := by
    rintro st rfl
    refine comp_loop (K' := ⟨relabelS csc K.sc, K.trk⟩) (hp1 := hp1) (lb := restr csc l) (v := pv) (xs := xs) (μ0 := μ1) (s0 := s1) (Qv := fun vs => Q (.list vs) hp1) R (by rw [← hs]) (by show tgtOk (relabelS csc env.scope) tgt = true; rw [hs]; exact okt) hown htn okif hT oke hE (X1.base H1) hI1 hl hbig (by cases pv <;> simp [chkV])
      (fun j hj => by
        subst hj
        simp only [StI] at stI
        obtain ⟨_, _, _, hj⟩ := stI
        exact (List.getElem?_eq_some_iff.mp hj).1)
      (fun s' acc q H' X' st' hin => ?_) xs 0 [] _ rfl (Nat.zero_le _) (Nat.zero_le _) H4 X4 stC stI4 rfl hL
    have st'' : Stp G noOwn μ1 s1 (μ1 ++ [s2.heap.objs.size]) s' := st'.fresh
    refine hfin s' _ _ acc hp1 μ1 ⟨q, H', X1.step H1 st'', st1.trans st'', ?_, ?_, ?_, hl, ?_, H1.objsIn, ?_⟩
    · obtain ⟨m, e, _⟩ := X'.ns; exact ⟨m, e⟩
    · exact Nat.le_trans g2 (Nat.le_of_lt hD)
    · exact none0 _ (none2 _ (Nat.le_of_lt hD))
    · rw [← hl]; exact hin
    · exact st1.grow
  refine codeAny_compStart_list (key _ rfl) (wpAny_mono (iter_self (P := fun it' st => codeAny G.M A (.compLoop (.ListComp elt [⟨tgt, iter, ifs, 0⟩] csc pos) 0 it' (.ref s2.heap.objs.size) { blockE csc (clos env csc.names []) s3.heap.objs.size env with scope := relabelS csc env.scope }) (compPost G.M A noE use Qc (.ref s2.heap.objs.size) s3.heap.objs.size) st) stI4 (key _ rfl)) (fun _ _ h => h) fun _ _ e => e.elim)

structure CompCut (G : GI) (A : Around) (env : Env) (l : Loc) (Q : PV → Hp → Prop) (μ : List Addr) (s : Shared) (μ1 : List Addr) (hp1 : Hp) (acc : List PV) (D C : Addr) (s' : Shared) : Prop where
  q : Q (.list acc) hp1
  hr : HR G μ1 hp1 s'
  env : EnvR G A env l μ1 s'.heap
  stp : Stp G noOwn μ s μ1 s'
  ns : ∃ m, s'.heap.Ns C m
  low : G.h0.objs.size ≤ C
  new : s.heap.get? C = none
  rep : Rep μ1 s'.heap (.list acc) (.ref D)
theorem CompEnd.cut {μ1 : List Addr} {hp1 : Hp} {acc : List PV} {D C : Addr} (X : EnvR G A env l μ s.heap) (H : HR G μ hp s) (ce : CompEnd G A env l Q μ s μ1 hp1 acc D C s') : CompCut G A env l Q μ s μ1 hp1 acc D C s' := by
  have H2 := ce.hr
  have H3 : HR G μ1 hp1 s' := H2.cut ce.len (by rw [← ce.len]; simp) ce.objs
  have hD : Rep (μ1 ++ [D]) s'.heap (.ref hp1.length) (.ref D) := by simp only [Rep]; exact ⟨D, rfl, by rw [ce.len]; simp⟩
  obtain ⟨a, ws, k, e1, e2, e3, e4⟩ := ref_list H2 hD (vs := acc) (by simp)
  cases e1
  have hnd := H2.nodup
  rw [List.nodup_append] at hnd
  have st : Stp G noOwn μ s μ1 s' := ⟨fun b o' e5 h1 h2 _ => ce.stp.keepU b o' e5 h1 h2 id, ce.grow, ce.stp.live⟩
  refine ⟨ce.q, H3, X.step H st, st, ce.ns, ce.low, ce.new, ?_⟩
  simp only [Rep]
  exact ⟨D, ws, k, rfl, e3, fun q => hnd.2.2 D q D (by simp) rfl, e4.cut ce.acc⟩

/-- the frame where something else is stored into -/
theorem EnvR.but {C : Addr} {o : Obj} {h' : Heap} (X : EnvR G A env l μ s.heap) (H : HR G μ hp s) (ho : s.heap.get? C = some o) (so : IsStore o) (sb : Heap.SameBut C s.heap h') (h1 : C ≠ env.locals)
    (h2 : ∀ y c, (env.kindOf y = some .cell ∨ env.kindOf y = some .free) → env.cells.lookup y = some c → c ≠ C) (h3 : ∀ l, A.frames = some l → ∀ e ∈ l, e.frame ≠ some C) : EnvR G A env l μ h' := by
  refine ⟨X.dom, X.kind, X.glob, X.blt, X.low, X.lows, X.apart, X.code, fun lf hlf e he => ?_, ?_, fun y hy => ?_⟩
  · obtain ⟨a1, L, o5, es5, k5, a2, a3, a4, a5⟩ := X.frs lf hlf e he
    exact ⟨a1, L, o5, es5, k5, a2, (sb.2 L (by rintro rfl; exact h3 lf hlf e he a2)).trans a3, a4, a5⟩
  · obtain ⟨m, hns, hm⟩ := X.ns
    refine ⟨m, hns.sameBut sb (Ne.symm h1), fun y pv hk hl => ?_⟩
    obtain ⟨v, e1, e2⟩ := hm y pv hk hl
    exact ⟨v, e1, H.ownRep ho so sb e2⟩
  · obtain ⟨c, ov, e1, ⟨o2, e2, e3⟩, e4⟩ := X.cel y hy
    refine ⟨c, ov, e1, ⟨o2, (sb.2 c (h2 y c hy e1)).trans e2, e3⟩, fun pv hl => ?_⟩
    obtain ⟨v, e5, e6⟩ := e4 pv hl
    exact ⟨v, e5, H.ownRep ho so sb e6⟩

theorem Stp.but {C : Addr} {h' : Heap} {own : Addr → Prop} (st : Stp G own μ s μ' s') (new : s.heap.get? C = none) (sb : Heap.SameBut C s'.heap h') : Stp G own μ s μ' { s' with heap := h' } := by
  have ne : ∀ b o, s.heap.get? b = some o → b ≠ C := by rintro b o e rfl; rw [new] at e; cases e
  exact ⟨fun b o e h1 h2 h3 => UpS.trans (st.keepU b o e h1 h2 h3) fun o' e' => .inl ((sb.2 b (ne b o e)).trans e'), st.grow, fun b o e => by
    obtain ⟨o2, e2⟩ := st.live b o e
    exact ⟨o2, (sb.2 b (ne b o e)).trans e2⟩⟩

/-- a plain comprehension -/
theorem E_comp {tgt iter elt : Expr} {ifs : List Expr} {csc : Scope} {pos : Pos} (hs : env.scope = K.sc) (ok : okE K.sc (.ListComp elt [⟨tgt, iter, ifs, 0⟩] csc pos) = true)
    (hI : SE G n iter) (hT : ∀ e ∈ ifs, ST G n e) (hE : SE G n elt) (h : exE G n K (.ListComp elt [⟨tgt, iter, ifs, 0⟩] csc pos) l hp Q) :
    WE G n env l hp (eval (.ListComp elt [⟨tgt, iter, ifs, 0⟩] csc pos) env) Q := fun A μ s R H X => by
  rw [eval_ListComp]
  refine comp_core (use := none) hs ok hI hT hE h R H X (fun s' D C acc hp1 μ1 ce => ?_) _
  have cc := ce.cut X H
  obtain ⟨m, hn⟩ := cc.ns
  refine ⟨m, hn, fun h' sb => ?_⟩
  obtain ⟨o, es, ep, e, hd, hr⟩ := hn
  have so : IsStore o := .inl ⟨es, ep, hd⟩
  exact ⟨.list acc, hp1, μ1, cc.q, cc.hr.ownRep e so sb cc.rep, cc.hr.own (k := s'.toks) cc.low e so sb cc.hr.toks, cc.stp.but cc.new sb⟩

theorem S_assign_comp {elt tgt iter : Expr} {ifs : List Expr} {csc : Scope} {cp xp p : Pos} {x : Str} {Q : Fl → Loc → Hp → Prop} (hs : env.scope = K.sc) (ok : stoOk K.sc x = true)
    (ok2 : okE K.sc (.ListComp elt [⟨tgt, iter, ifs, 0⟩] csc cp) = true) (hI : SE G n iter) (hT : ∀ e ∈ ifs, ST G n e) (hE : SE G n elt)
    (h : exE G n K (.ListComp elt [⟨tgt, iter, ifs, 0⟩] csc cp) l hp fun v h1 => Q .next (upd l x v) h1) :
    WS G n env l hp (exec (.Assign [.Name x xp] (.ListComp elt [⟨tgt, iter, ifs, 0⟩] csc cp) p) env) Q := fun A μ s R H X => by
  have ok' : stoOk env.scope x = true := by rw [hs]; exact ok
  cases hsw : (env.blockKind == .function && env.kindOf x == some .local && xp.line == cp.line && !(csc.names.any fun (n, k) => n == x && (k == .local || k == .cell))) with
  | false =>
    have hsw' : swapsWith (.ListComp elt [⟨tgt, iter, ifs, 0⟩] csc cp) (some (.Name x xp)) p.line env = pure false := by
      show pure (env.blockKind == .function && env.kindOf x == some .local && xp.line == cp.line && !(csc.names.any fun (n, k) => n == x && (k == .local || k == .cell))) = _
      rw [hsw]
    rw [exec_Assign]
    refine wpAny_bind (wpAny_standAt ?_)
    show wpAny _ _ (swapsWith (.ListComp elt [⟨tgt, iter, ifs, 0⟩] csc cp) (some (.Name x xp)) p.line env >>= _) _ _ _
    rw [hsw']
    refine wpAny_bind (wpAny_pure ?_)
    rw [if_neg (by decide)]
    refine wpAny_bind ((E_comp hs ok2 hI hT hE h).run R H X fun v s1 pv hp1 μ1 q r H1 X1 st1 => ?_)
    have hw : swappedStores [.Name x xp] (.ListComp elt [⟨tgt, iter, ifs, 0⟩] csc cp) env = pure none := rfl
    rw [hw]
    refine wpAny_bind (wpAny_pure ?_)
    show wpAny _ _ (assign (.Name x xp) env v >>= fun _ => pure Flow.next) _ _ _
    refine wpAny_bind (wpAny_mono (wpAny_assign_Name (store_run ok' H1 X1 r (P := fun l' => l' = upd l x pv) rfl)) (fun _ s2 h2 => ?_) fun _ _ e => e)
    obtain ⟨l2, rfl, H2, X2, st2⟩ := h2
    exact wpAny_pure ⟨.next, _, hp1, μ1, q, trivial, H2, X2, st1.up.trans st2⟩
  | true =>
    have hsw' : swapsWith (.ListComp elt [⟨tgt, iter, ifs, 0⟩] csc cp) (some (.Name x xp)) p.line env = pure true := by
      show pure (env.blockKind == .function && env.kindOf x == some .local && xp.line == cp.line && !(csc.names.any fun (n, k) => n == x && (k == .local || k == .cell))) = _
      rw [hsw]
    rw [exec_Assign_Name_used _ _ _ _ hsw']
    refine wpAny_bind (wpAny_standAt (wpAny_bind ?_))
    show wpAny _ A (do let _ ← comprehension (.ListComp elt [⟨tgt, iter, ifs, 0⟩] csc cp) csc env _ (newList []) false (eval iter env) (some (assign (.Name x xp) env))) _ _ s
    refine wpAny_bind (wpAny_mono (comp_core (use := some (assign (.Name x xp) env)) (Qc := fun _ s' => PF G A env μ s Q .next s') hs ok2 hI hT hE h R H X (fun s' D C acc hp1 μ1 ce => ?_) _) (fun _ s' hq => wpAny_pure (wpAny_pure hq)) fun _ _ e => e)
    have cc := ce.cut X H
    obtain ⟨m, hn⟩ := cc.ns
    have hnew := cc.new
    have hno : ∀ a, ownOf env a → ∃ o, s.heap.get? a = some o := by
      rintro a (rfl | ⟨y, hy, hc⟩)
      · obtain ⟨m, ⟨o, es, ep, e, _⟩, _⟩ := X.ns; exact ⟨o, e⟩
      · obtain ⟨c, ov, e1, ⟨o, e, _⟩, _⟩ := X.cel y (.inl hy)
        rw [hc] at e1; cases e1; exact ⟨o, e⟩
    have hC : ¬ ownOf env C := fun q => by obtain ⟨o, e⟩ := hno C q; rw [hnew] at e; cases e
    show wpAny _ A (assign (.Name x xp) env (.ref D)) _ _ _
    refine wpAny_mono (wpAny_assign_Name (store_run ok' cc.hr cc.env cc.rep (P := fun l' => l' = upd l x (.list acc)) rfl)) (fun _ s2 h2 => ?_) fun _ _ e => e
    obtain ⟨l2, rfl, H2, X2, st2⟩ := h2
    obtain ⟨o, es, ep, e, hd, hr⟩ := hn
    have so : IsStore o := .inl ⟨es, ep, hd⟩
    obtain ⟨o', e2, hd', _⟩ := UpS.obj (st2.keepU C o e (cc.hr.notMem e so) (by
      rintro rfl
      obtain ⟨ps, e3, _⟩ := cc.hr.tab
      rw [e] at e3; cases e3; cases hd) hC)
    have so' : IsStore o' := .inl ⟨es, ep, hd'.trans hd⟩
    refine ⟨m, ⟨o', es, ep, e2, hd'.trans hd, hr⟩, fun h' sb => ?_⟩
    have st3 : Stp G (ownOf env) μ s μ1 s2 := cc.stp.up.trans st2
    refine ⟨.next, _, hp1, μ1, cc.q, trivial, H2.own (k := s2.toks) cc.low e2 so' sb H2.toks, X2.but H2 e2 so' sb ?_ ?_ (fun lf hlf ee hee q => by
      obtain ⟨_, L, o5, es5, k5, a2, a3, _⟩ := X.frs lf hlf ee hee
      rw [q] at a2; cases a2; rw [hnew] at a3; cases a3), st3.but hnew sb⟩
    · rintro rfl; exact hC (.inl rfl)
    · rintro y c hy hc rfl
      obtain ⟨c', ov, e1, ⟨o, e, _⟩, _⟩ := X.cel y hy
      rw [hc] at e1; cases e1
      rw [hnew] at e; cases e

end

section
open PySem PySem.W PyProof.Rows
open Sem (wp)
set_option linter.unusedVariables false
set_option linter.unusedSimpArgs false
set_option maxRecDepth 100000
set_option maxHeartbeats 2000000

variable {G : GI} {n : Nat}

theorem sE_comp {k : Nat} (g : GOk G) (I : IHs G n k) (elt : Expr) (gens : List Comprehension) (csc : Scope) (p : Pos) (hk : sizeOf (Expr.ListComp elt gens csc p) < k + 1) : SE G n (.ListComp elt gens csc p) := by
  intro K env l hp Q hs ok h
  simp only [Expr.ListComp.sizeOf_spec] at hk
  by_cases hg : ∃ tgt iter ifs, gens = [⟨tgt, iter, ifs, 0⟩]
  · obtain ⟨tgt, iter, ifs, rfl⟩ := hg
    simp only [List.cons.sizeOf_spec, Comprehension.mk.sizeOf_spec] at hk
    refine E_comp hs ok (I.e iter (by omega)) (fun e he => I.t e ?_) (I.e elt (by omega)) h
    have := List.sizeOf_lt_of_mem he
    omega
  · unfold exE at h
    split at h <;> rename_i heq <;> first
      | (cases heq; done)
      | (cases heq; exact absurd ⟨_, _, _, rfl⟩ hg)
      | exact E_leaf hs h

theorem sE {k : Nat} (g : GOk G) (I : IHs G n k) (e : Expr) (hk : sizeOf e < k + 1) : SE G n e := by
  cases e with
  | Call f args kws p => exact sE_call g I f args kws p hk
  | ListComp elt gens csc p => exact sE_comp g I elt gens csc p hk
  | Constant c kk p =>
    intro K env l hp Q hs ok h
    cases c <;> (unfold exE at h)
    · exact E_none h
    · exact E_bool h
    · exact E_int h
    · exact E_leaf hs h
    · exact E_leaf hs h
    · exact E_str h
    · exact E_leaf hs h
    · exact E_leaf hs h
  | Name x p =>
    intro K env l hp Q hs ok h
    unfold exE at h
    obtain ⟨v, e, q⟩ := h
    exact E_name e q
  | BoolOp op vs p =>
    intro K env l hp Q hs ok h
    simp only [Expr.BoolOp.sizeOf_spec] at hk
    unfold exE at h; unfold okE at ok
    rw [show eval (.BoolOp op vs p) env = boolOp p op (evalEach vs env) from rfl]
    exact I.b vs (by omega) K env l hp Q op p hs ok h
  | BinOp a op b p =>
    intro K env l hp Q hs ok h
    simp only [Expr.BinOp.sizeOf_spec] at hk
    unfold exE at h; unfold okE at ok; simp only [Bool.and_eq_true] at ok
    exact E_binop (I.e a (by omega) K env l hp _ hs ok.1 h) fun x h1 q => I.e b (by omega) K env l h1 _ hs ok.2 q
  | UnaryOp op a p =>
    intro K env l hp Q hs ok h
    simp only [Expr.UnaryOp.sizeOf_spec] at hk
    unfold okE at ok
    cases op <;> unfold exE at h
    · exact E_leaf hs h
    · exact E_not (I.e a (by omega) K env l hp _ hs ok h) fun x h1 q => q
    · exact E_leaf hs h
    · exact E_neg (I.e a (by omega) K env l hp _ hs ok h) fun x h1 q => q
  | IfExp t a b p =>
    intro K env l hp Q hs ok h
    simp only [Expr.IfExp.sizeOf_spec] at hk
    unfold exE at h; unfold okE at ok; simp only [Bool.and_eq_true] at ok
    refine E_if (I.t t (by omega) K env l hp _ hs ok.1.1 h) fun c h1 q => ?_
    cases c
    · exact I.e b (by omega) K env l h1 _ hs ok.2 q
    · exact I.e a (by omega) K env l h1 _ hs ok.1.2 q
  | Compare a ops rs p =>
    intro K env l hp Q hs ok h
    simp only [Expr.Compare.sizeOf_spec] at hk
    unfold exE at h; unfold okE at ok; simp only [Bool.and_eq_true, beq_iff_eq] at ok
    exact E_compare (I.e a (by omega) K env l hp _ hs ok.1.1 h) fun x h1 q => I.c rs (by omega) K env l h1 _ ops x p hs ok.1.2 ok.2 q
  | Attribute o m p =>
    intro K env l hp Q hs ok h
    simp only [Expr.Attribute.sizeOf_spec] at hk
    unfold exE at h; unfold okE at ok; simp only [Bool.and_eq_true] at ok
    refine E_attr ok.2 (I.e o (by omega) K env l hp _ hs ok.1 h) fun v h1 q => ?_
    cases v <;> simp only [] at q <;> try exact q.elim
    exact ⟨_, rfl, q⟩
  | Subscript o i p =>
    intro K env l hp Q hs ok h
    simp only [Expr.Subscript.sizeOf_spec] at hk
    unfold okE at ok; simp only [Bool.and_eq_true] at ok
    have gen : (exE G n K o l hp fun x h1 => exE G n K i l h1 fun y h2 => optP (itemV h2 x y) fun v => Q v h2) → WE G n env l hp (eval (.Subscript o i p) env) Q := fun h =>
      E_item (I.e o (by omega) K env l hp _ hs ok.1 h) fun x h1 q => I.e i (by omega) K env l h1 _ hs ok.2 q
    cases i with
    | Slice a b c sp =>
      simp only [Expr.Slice.sizeOf_spec] at hk
      have ok2 := ok.2
      unfold okE at ok2; simp only [Bool.and_eq_true] at ok2
      cases c with
      | none =>
        unfold exE at h
        exact E_slice (I.e o (by omega) K env l hp _ hs ok.1 h) (fun x h1 q => I.o a (by omega) K env l h1 _ hs ok2.1.1 q) fun x y h2 q => I.o b (by omega) K env l h2 _ hs ok2.1.2 q
      | some _ => unfold exE at h; exact gen h
    | _ => unfold exE at h; exact gen h
  | Tuple es kk p =>
    intro K env l hp Q hs ok h
    simp only [Expr.Tuple.sizeOf_spec] at hk
    unfold exE at h; unfold okE at ok
    exact E_tuple (I.l es (by omega) K env l hp _ p hs ok h) fun vs h1 q => q
  | List es p =>
    intro K env l hp Q hs ok h
    simp only [Expr.List.sizeOf_spec] at hk
    unfold exE at h; unfold okE at ok
    by_cases hb : K.trk p = true
    · simp only [hb, if_true] at h
      exact E_list_trk (I.l es (by omega) K env l hp _ p hs ok h) fun vs h1 q => q
    · simp only [hb, if_false] at h
      exact E_list (I.l es (by omega) K env l hp _ p hs ok h) fun vs h1 q => q
  | JoinedStr ps p =>
    intro K env l hp Q hs ok h
    simp only [Expr.JoinedStr.sizeOf_spec] at hk
    unfold exE at h; unfold okE at ok; simp only [Bool.and_eq_true, decide_eq_true_eq] at ok
    match ps, ok, h, hk with
    | a :: b :: r, ok, h, hk => exact E_joined (I.j _ (by omega) K env l hp _ _ hs ok.2 h)
    | [_], ok, _, _ => simp at ok
    | [], ok, _, _ => simp at ok
  | _ =>
    intro K env l hp Q hs ok h
    unfold exE at h
    exact E_leaf hs h

theorem sT {k : Nat} (I : IHs G n k) (Ie : ∀ e : Expr, sizeOf e < k + 1 → SE G n e) (e : Expr) (hk : sizeOf e < k + 1) : ST G n e := by
  have whole : (∀ w env, isTrue e env w = (do let v ← w; standAt e.pos; holding [v] (truthy v))) → (∀ (K : Cfg) l hp Q, exT G n K e (exE G n K e l hp) l hp Q = exE G n K e l hp fun v h1 => optP (truthV h1 v) fun b => Q b h1) → ST G n e := by
    intro h1 h2 K env l hp Q hs ok h
    rw [h2] at h
    exact T_whole (h1 _ _) (Ie e hk K env l hp _ hs ok h) fun x h1 q => q
  cases e with
  | UnaryOp op a p =>
    cases op with
    | Not =>
      intro K env l hp Q hs ok h
      simp only [Expr.UnaryOp.sizeOf_spec] at hk
      unfold exT at h; unfold okE at ok
      exact T_not (I.t a (by omega) K env l hp _ hs ok h) fun b h1 q => q
    | _ => exact whole (fun _ _ => rfl) fun _ _ _ _ => by unfold exT; rfl
  | BoolOp op vs p =>
    intro K env l hp Q hs ok h
    simp only [Expr.BoolOp.sizeOf_spec] at hk
    unfold exT at h; unfold okE at ok
    rw [arm_isTrue_BoolOp]
    exact I.a vs (by omega) K env l hp Q op hs ok h
  | IfExp t a b p =>
    intro K env l hp Q hs ok h
    simp only [Expr.IfExp.sizeOf_spec] at hk
    unfold exT at h; unfold okE at ok; simp only [Bool.and_eq_true] at ok
    refine T_if (I.t t (by omega) K env l hp _ hs ok.1.1 h) fun c h1 q => ?_
    cases c
    · exact I.t b (by omega) K env l h1 _ hs ok.2 q
    · exact I.t a (by omega) K env l h1 _ hs ok.1.2 q
  | Compare a ops rs p =>
    intro K env l hp Q hs ok h
    simp only [Expr.Compare.sizeOf_spec] at hk
    unfold exT at h; unfold okE at ok; simp only [Bool.and_eq_true, beq_iff_eq] at ok
    exact T_compare (I.e a (by omega) K env l hp _ hs ok.1.1 h) fun x h1 q => I.c rs (by omega) K env l h1 _ ops x p hs ok.1.2 ok.2 q
  | _ => exact whole (fun _ _ => rfl) fun _ _ _ _ => by unfold exT; rfl

theorem sound (g : GOk G) : ∀ k, IHs G n k
  | 0 => ⟨fun _ h => absurd h (Nat.not_lt_zero _), fun _ h => absurd h (Nat.not_lt_zero _), fun _ h => absurd h (Nat.not_lt_zero _), fun _ h => absurd h (Nat.not_lt_zero _), fun _ h => absurd h (Nat.not_lt_zero _), fun _ h => absurd h (Nat.not_lt_zero _), fun _ h => absurd h (Nat.not_lt_zero _), fun _ h => absurd h (Nat.not_lt_zero _)⟩
  | k + 1 => ⟨sE g (sound g k), sT (sound g k) (sE g (sound g k)), sL (sound g k), sA (sound g k), sB (sound g k), sC (sound g k), sJ (sound g k), sO (sound g k)⟩
theorem soundE (g : GOk G) (e : Expr) : SE G n e := (sound g (sizeOf e + 1)).e e (Nat.lt_succ_self _)
theorem soundT (g : GOk G) (e : Expr) : ST G n e := (sound g (sizeOf e + 1)).t e (Nat.lt_succ_self _)
theorem soundL (g : GOk G) (es : List Expr) : SL G n es := (sound g (sizeOf es + 1)).l es (Nat.lt_succ_self _)

end

section
open PySem PySem.W PyProof.Rows
open Sem (wp)
set_option linter.unusedVariables false
set_option linter.unusedSimpArgs false
set_option maxRecDepth 100000
set_option maxHeartbeats 2000000

variable {G : GI} {n : Nat} {A : Around} {μ μ' : List Addr} {hp hp' : Hp} {s s' : Shared} {Q : PV → Hp → Prop} {env : Env} {l : Loc} {K : Cfg}

/-- an object of fields that no value is made of -/
def Opq (h : Heap) (I : Addr) : Prop := ∃ o vs, h.get? I = some o ∧ o.data = .fields vs ∧ ¬ IsVal o ∧ o.cls ≠ .none ∧ o.cls ≠ .type "code"
theorem Opq.zip {h : Heap} {z TI TO : Addr} {f : Value} (x : IsZip h z TI TO f) : Opq h z := ⟨_, _, x, rfl, by simp [IsVal], by simp, by simp⟩
theorem Opq.iter {h : Heap} {I a : Addr} {k : Nat} (x : h.IsListIter I a k) : Opq h I := by
  obtain ⟨o, e, c, d⟩ := x
  exact ⟨o, _, e, d, by simp [IsVal, d, c], by simp [c], by simp [c]⟩
theorem Opq.notMem {I : Addr} (x : Opq s.heap I) (H : HR G μ hp s) : I ∉ μ := by
  obtain ⟨o, vs, ho, hd, _⟩ := x
  intro hin
  obtain ⟨i, hi⟩ := List.getElem?_of_mem hin
  have hlt : i < hp.length := by rw [← H.len]; exact (List.getElem?_eq_some_iff.mp hi).1
  have hO := H.obj i I (hp[i]) hi (List.getElem?_eq_getElem hlt)
  cases hq : hp[i] with
  | list vs => rw [hq] at hO; obtain ⟨ws, m, e, _⟩ := hO; rw [ho] at e; cases e; cases hd
  | obj => rw [hq] at hO; have e : s.heap.get? I = some objO := hO; rw [ho] at e; cases e; cases hd
  | hid => rw [hq] at hO; obtain ⟨p, e⟩ := hO; rw [ho] at e; cases e; cases hd
theorem Opq.notTab {I : Addr} (x : Opq s.heap I) (H : HR G μ hp s) : I ≠ G.P := by
  obtain ⟨o, vs, ho, hd, _, hc, _⟩ := x
  rintro rfl
  obtain ⟨ps, e, _⟩ := H.tab
  rw [ho] at e; cases e
  exact hc rfl
theorem Opq.notOwn {I : Addr} (x : Opq s.heap I) (X : EnvR G A env l μ s.heap) : ¬ ownOf env I := by
  obtain ⟨o, vs, ho, hd, _⟩ := x
  rintro (rfl | ⟨y, hy, hc⟩)
  · obtain ⟨m, ⟨o2, es, ep, e, hd2, _⟩, _⟩ := X.ns
    rw [ho] at e; cases e; rw [hd] at hd2; cases hd2
  · obtain ⟨c2, ov, e1, ⟨o2, e2, hd2⟩, _⟩ := X.cel y (.inl hy)
    rw [hc] at e1; cases e1
    rw [ho] at e2; cases e2; rw [hd] at hd2; cases hd2
theorem Opq.step {I : Addr} {own : Addr → Prop} (x : Opq s.heap I) (H : HR G μ hp s) (st : Stp G own μ s μ' s') (no : ¬ own I) : ∀ o, s.heap.get? I = some o → s'.heap.get? I = some o :=
  fun o e => st.keep _ _ e (x.notMem H) (x.notTab H) no fun es k q => by
    obtain ⟨o2, vs, e2, hd, _⟩ := x; rw [e] at e2; cases e2; rw [hd] at q; cases q

/-- a step that changes opaque objects and a hidden pair -/
structure MvS (S : Addr → Prop) (s s' : Shared) : Prop where
  keep : ∀ b o, ¬ S b → s.heap.get? b = some o → s'.heap.get? b = some o
  os : s'.os = s.os
  gens : s'.gens = s.gens
  toks : 1 ≤ s'.toks
structure MvOk (G : GI) (μ : List Addr) (hp : Hp) (S : Addr → Prop) (s s' : Shared) (TO : Addr) (j : Nat) : Prop where
  opq : ∀ b, S b → b ≠ TO → Opq s.heap b ∧ G.h0.objs.size ≤ b
  mem : μ[j]? = some TO
  hid : hp[j]? = some .hid
  new : ∃ p : Value × Value, s'.heap.get? TO = some (tupO #[p.1, p.2])
theorem MvOk.old {S : Addr → Prop} {TO : Addr} {j : Nat} (m : MvOk G μ hp S s s' TO j) (H : HR G μ hp s) : ∃ p : Value × Value, s.heap.get? TO = some (tupO #[p.1, p.2]) := H.obj j TO _ m.mem m.hid
theorem MvOk.vk {S : Addr → Prop} {TO : Addr} {j : Nat} (m : MvOk G μ hp S s s' TO j) (mv : MvS S s s') (H : HR G μ hp s) : VKeep μ s.heap s'.heap := fun b o e hv hl => by
  refine mv.keep b o (fun q => ?_) e
  by_cases hb : b = TO
  · subst hb
    obtain ⟨p, e2⟩ := m.old H
    rw [e] at e2; cases e2
    exact hl (.inr rfl) (List.mem_of_getElem? m.mem)
  · obtain ⟨⟨o2, vs, e2, _, nv, _⟩, _⟩ := m.opq b q hb
    rw [e] at e2; cases e2; exact nv hv
theorem MvOk.hr {S : Addr → Prop} {TO : Addr} {j : Nat} (m : MvOk G μ hp S s s' TO j) (mv : MvS S s s') (H : HR G μ hp s) : HR G μ hp s' := by
  have vk := m.vk mv H
  obtain ⟨p, eTO⟩ := m.old H
  have tin : TO ∈ μ := List.mem_of_getElem? m.mem
  have low : ∀ b, S b → G.h0.objs.size ≤ b := fun b q => by
    by_cases hb : b = TO
    · rw [hb]; exact H.low _ tin
    · exact (m.opq b q hb).2
  refine ⟨fun b x e => mv.keep _ _ (fun q => absurd (Heap.lt_size e) (Nat.not_lt.mpr (low b q))) (H.base b x e), ?_, mv.os.trans H.os, mv.gens ▸ H.gens, mv.toks, H.nodup, H.len, H.low, fun i b x h1 h2 => ?_⟩
  · obtain ⟨ps, e, ht, hc⟩ := H.tab
    refine ⟨ps, mv.keep _ _ (fun q => ?_) e, ht, fun pos c hp' => ?_⟩
    · by_cases hb : G.P = TO
      · rw [hb] at e; rw [eTO] at e; cases e
      · exact (m.opq _ q hb).1.notTab H rfl
    · obtain ⟨b, o', q1, q2, q3, vs, q, t, q4, q5, q6⟩ := hc pos c hp'
      refine ⟨b, o', q1, mv.keep _ _ (fun z => ?_) q2, q3, vs, q, t, q4, q5, q6⟩
      by_cases hb : b = TO
      · subst hb; rw [eTO] at q2; cases q2; simp at q6
      · obtain ⟨⟨o2, v2, e1, _, _, _, e3⟩, _⟩ := m.opq b z hb
        rw [q2] at e1; cases e1; exact e3 q6
  · by_cases hb : b = TO
    · subst hb
      have hij : i = j := by
        have l1 : i < μ.length := (List.getElem?_eq_some_iff.mp h1).1
        exact (List.getElem?_inj l1 H.nodup).mp (by rw [h1, m.mem])
      subst hij
      rw [m.hid] at h2; cases h2
      exact m.new
    · have nS : ¬ S b := fun q => (m.opq b q hb).1.notMem H (List.mem_of_getElem? h1)
      have := H.obj i b x h1 h2
      cases x with
      | list vs => obtain ⟨ws, k, e, r⟩ := this; exact ⟨ws, k, mv.keep _ _ nS e, r.mono vk (Grow.refl _ _)⟩
      | obj => exact mv.keep _ _ nS this
      | hid => obtain ⟨ws, e⟩ := this; exact ⟨ws, mv.keep _ _ nS e⟩
theorem MvOk.envr {S : Addr → Prop} {TO : Addr} {j : Nat} (m : MvOk G μ hp S s s' TO j) (mv : MvS S s s') (H : HR G μ hp s) (X : EnvR G A env l μ s.heap) : EnvR G A env l μ s'.heap := by
  have vk := m.vk mv H
  obtain ⟨p, eTO⟩ := m.old H
  have nI : ∀ b o, s.heap.get? b = some o → IsStore o → ¬ S b := by
    intro b o e hd q
    by_cases hb : b = TO
    · subst hb; rw [eTO] at e; cases e; rcases hd with ⟨_, _, hd⟩ | ⟨_, hd⟩ <;> cases hd
    · obtain ⟨⟨o2, v2, e1, d, _⟩, _⟩ := m.opq b q hb
      rw [e] at e1; cases e1; rcases hd with ⟨_, _, hd⟩ | ⟨_, hd⟩ <;> (rw [hd] at d; cases d)
  refine ⟨X.dom, X.kind, X.glob, X.blt, X.low, X.lows, X.apart, X.code, X.frs.of fun L o es kk e hd => ⟨o, es, kk, mv.keep _ _ (nI _ _ e (.inl ⟨_, _, hd⟩)) e, hd⟩, ?_, fun y hy => ?_⟩
  · obtain ⟨m2, ⟨o, es, ep, e, hd, hr⟩, hm⟩ := X.ns
    refine ⟨m2, ⟨o, es, ep, mv.keep _ _ (nI _ _ e (.inl ⟨_, _, hd⟩)) e, hd, hr⟩, fun y pv hk hl => ?_⟩
    obtain ⟨v, h1, h2⟩ := hm y pv hk hl
    exact ⟨v, h1, h2.mono vk (Grow.refl _ _)⟩
  · obtain ⟨c, ov, h1, ⟨o, e, hd⟩, h3⟩ := X.cel y hy
    refine ⟨c, ov, h1, ⟨o, mv.keep _ _ (nI _ _ e (.inr ⟨_, hd⟩)) e, hd⟩, fun pv hl => ?_⟩
    obtain ⟨v, h4, h5⟩ := h3 pv hl
    exact ⟨v, h4, h5.mono vk (Grow.refl _ _)⟩
theorem MvS.stp {S own : Addr → Prop} {μ0 : List Addr} {s0 : Shared} (mv : MvS S s s') (st : Stp G own μ0 s0 μ s) (h0 : ∀ b, S b → s0.heap.get? b = none) : Stp G own μ0 s0 μ s' := by
  have ne : ∀ b o, s0.heap.get? b = some o → ¬ S b := by intro b o e q; rw [h0 b q] at e; cases e
  refine ⟨fun b o e h1 h2 h3 => UpS.trans (st.keepU b o e h1 h2 h3) fun o' e' => .inl (mv.keep _ _ (ne b o e) e'), st.grow, fun b o e => ?_⟩
  obtain ⟨o', e'⟩ := st.live b o e
  exact ⟨o', mv.keep _ _ (ne b o e) e'⟩

theorem chkV.refl (hp : Hp) (v : PV) : chkV hp hp v := by cases v <;> simp [chkV]
theorem chkV.app (hp : Hp) (v : PV) (h : ∀ n, v = .ref n → n < hp.length) {r : Hp} : chkV hp (hp ++ r) v := by
  cases v <;> simp only [chkV]
  rw [List.getElem?_append_left (h _ rfl)]
/-- a walked list of a zip -/
def SrcOk (μ : List Addr) (hp : Hp) (h : Heap) (x : PV) (xs : List PV) (a : Addr) : Prop := match x with
  | .list vs => vs = xs ∧ ∃ ws m, h.get? a = some (lstO ws m) ∧ a ∉ μ ∧ RepL μ h xs ws.toList
  | .ref j => μ[j]? = some a ∧ hp[j]? = some (.list xs)
  | _ => False
theorem SrcOk.lst {x : PV} {xs : List PV} {a : Addr} (k : SrcOk μ hp s.heap x xs a) (H : HR G μ hp s) : ∃ ws m, s.heap.get? a = some (lstO ws m) ∧ RepL μ s.heap xs ws.toList := by
  cases x <;> simp only [SrcOk] at k
  · obtain ⟨_, ws, m, e, _, r⟩ := k; exact ⟨ws, m, e, r⟩
  · obtain ⟨hm, hj⟩ := k; exact H.obj _ a _ hm hj
theorem SrcOk.step {own : Addr → Prop} {x : PV} {xs : List PV} {a : Addr} (k : SrcOk μ hp s.heap x xs a) (H : HR G μ hp s) (st : Stp G own μ s μ' s') (hown : ∀ a o, own a → s.heap.get? a = some o → ¬ IsVal o) (hc : chkV hp hp' x) : SrcOk μ' hp' s'.heap x xs a := by
  have vk := H.vkeep st hown
  cases x <;> simp only [SrcOk] at k ⊢
  · obtain ⟨h1, ws, m, e, hm, r⟩ := k
    exact ⟨h1, ws, m, vk _ _ e trivial (fun _ => hm), st.grow.not hm e, r.mono vk st.grow⟩
  · simp only [chkV] at hc
    exact ⟨st.grow.get k.1, by rw [hc]; exact k.2⟩
theorem SrcOk.vk {h' : Heap} {x : PV} {xs : List PV} {a : Addr} (k : SrcOk μ hp s.heap x xs a) (vk : VKeep μ s.heap h') : SrcOk μ hp h' x xs a := by
  cases x <;> simp only [SrcOk] at k ⊢
  · obtain ⟨h1, ws, m, e, hm, r⟩ := k
    exact ⟨h1, ws, m, vk _ _ e trivial (fun _ => hm), hm, r.mono vk (Grow.refl _ _)⟩
  · exact k
theorem src_of {x : PV} {xs : List PV} {v : Value} (H : HR G μ hp s) (r : Rep μ s.heap x v) (e : contents hp x = some xs) : ∃ a, v = .ref a ∧ SrcOk μ hp s.heap x xs a := by
  cases x <;> simp only [contents] at e <;> try (cases e; done)
  · cases e
    simp only [Rep] at r
    obtain ⟨a, ws, m, rfl, ho, hm, rs⟩ := r
    exact ⟨a, rfl, rfl, ws, m, ho, hm, rs⟩
  · rename_i j
    split at e
    · rename_i vs' hj
      cases e
      simp only [Rep] at r
      obtain ⟨a, rfl, hm⟩ := r
      exact ⟨a, rfl, hm, hj⟩
    · cases e

/-- a zip's own objects -/
structure ZSt (h : Heap) (z TI TO i1 i2 l1 l2 : Addr) (i : Nat) : Prop where
  ap : ZipApart z TI TO i1 i2 l1 l2
  z : IsZip h z TI TO .none
  TI : IsPair h TI (.ref i1) (.ref i2)
  i1 : h.IsListIter i1 l1 i
  i2 : h.IsListIter i2 l2 i
def zipS (z TO i1 i2 : Addr) : Addr → Prop := fun a => a = z ∨ a = TO ∨ a = i1 ∨ a = i2

section
variable {prog : Program} {w : World} {E : Value → Shared → Prop}
/-- the end of a zip whose first list ends first -/
theorem zip_end1 {z TI TO i1 i2 l1 l2 : Addr} {k1 : Nat} {xs : Array Value} {Q : Option Value → Shared → Prop} (hh : A.handled = none) (D : ZipApart z TI TO i1 i2 l1 l2)
    (hz : IsZip s.heap z TI TO .none) (hTI : IsPair s.heap TI (.ref i1) (.ref i2)) (h1 : s.heap.IsListIter i1 l1 k1) (hl1 : s.heap.IsList l1 xs) (hx : xs[k1]? = none)
    (hQ : ∀ h', (∀ c o, c ≠ z → c ≠ i1 → s.heap.get? c = some o → h'.get? c = some o) → Q none { s with heap := h' }) : wpAny (model prog w) A (pyNext (.ref z)) Q E s := by
  have hT : s.TypeIs (.ref z) "zip" := ⟨_, hz, rfl⟩
  unfold pyNext
  refine wpAny_bind (wpAny_attempt (wpAny_callSpecial?_slot (name := Str.ofString "__next__") hT F.slot_zip_next
    (wpAny_call_entry F.slot_zip_next hT F.entry_zip_next ?_ (F.args_zip_next_1 _))))
  have fin : ∀ h' e, (∀ c o, c ≠ z → c ≠ i1 → s.heap.get? c = some o → h'.get? c = some o) → (∃ o, h'.get? e = some o ∧ o.cls = .type "StopIteration") →
      wpAny (model prog w) A (do if ← isInstance (.ref e) (.type "StopIteration") then pure none else throw (.ref e) : Sem (Option Value)) Q E { s with heap := h' } := by
    rintro h' e hk ⟨o, ho, hc⟩
    refine wpAny_bind (wpAny_isInstance (T := "StopIteration") (b := true) ⟨o, ho, hc⟩ isSubtype_stop ?_)
    exact wpAny_pure (hQ _ hk)
  show wpAny _ _ (field (.ref z) 2 >>= _) _ _ _
  refine wpAny_bind (wpAny_field hz rfl (x := .bool false) rfl ?_)
  show wpAny _ _ (field (.ref z) 3 >>= _) _ _ _
  refine wpAny_bind (wpAny_field hz rfl (x := .ref TI) rfl ?_)
  refine wpAny_bind (wpAny_seqItems hTI rfl ?_)
  show wpAny _ _ (Builtin.SmallTypes.ownedTupleIsFree (.ref z) >>= _) _ _ _
  refine wpAny_bind ?_
  unfold Builtin.SmallTypes.ownedTupleIsFree
  refine wpAny_bind (wpAny_field hz rfl (x := .none) rfl (wpAny_pure ?_))
  simp only [if_true]
  refine wpAny_bind (wpAny_rule ?_)
  refine wpAny_bind (wpAny_field hz rfl (x := .ref TO) rfl ?_)
  refine wpAny_bind (wpAny_setField_rec hz (by simp) fun h₁ hz₁ hs₁ => ?_)
  replace hz₁ : IsZip h₁ z TI TO .ellipsis := hz₁
  refine wpAny_bind ?_
  simp only [List.zipIdx_cons, List.zipIdx_nil, List.forIn_cons, List.forIn_nil]
  refine wpAny_bind (wpAny_bind (wpAny_onRaise ?_))
  show wpAny _ _ (Builtin.SmallTypes.nextOf (.ref i1) >>= _) _ _ _
  refine wpAny_bind (wpAny_nextOf_list_end hh (h1.extBut hs₁.extBut D.i1z) (hl1.extBut hs₁.extBut D.l1z) hx fun h₂ e hs₂ he => ?_)
  obtain ⟨oe, hoe, hce⟩ := he
  have hz₂ : IsZip h₂ z TI TO .ellipsis := hs₂ _ _ D.i1z.symm hz₁
  have hez : e ≠ z := fun x => by subst x; rw [hz₂] at hoe; cases hoe; simp at hce
  refine wpAny_setField_rec hz₂ (by simp) fun h₃ _ hs₃ => ?_
  exact fin h₃ e (fun c o c1 c3 x => hs₃.extBut _ _ c1 (hs₂ _ _ c3 (hs₁.extBut _ _ c1 x))) ⟨oe, hs₃.extBut _ _ hez hoe, hce⟩
end

theorem ZSt.step {z TI TO i1 i2 l1 l2 : Addr} {i : Nat} (Z : ZSt s.heap z TI TO i1 i2 l1 l2 i) (H : HR G μ hp s) (X : EnvR G A env l μ s.heap) (hTI : TI ∉ μ) (st : Stp G (ownOf env) μ s μ' s') : ZSt s'.heap z TI TO i1 i2 l1 l2 i := by
  have k : ∀ {I : Addr}, Opq s.heap I → ∀ o, s.heap.get? I = some o → s'.heap.get? I = some o := fun x => x.step H st (x.notOwn X)
  refine ⟨Z.ap, k (Opq.zip Z.z) _ Z.z, ?_, ?_, ?_⟩
  · exact st.keep _ _ Z.TI hTI (H.notTab Z.TI trivial) (fun q => X.ownVal _ _ q Z.TI trivial) (fun _ _ q => by cases q)
  · obtain ⟨o, e, r⟩ := Z.i1; exact ⟨o, k (Opq.iter Z.i1) _ e, r⟩
  · obtain ⟨o, e, r⟩ := Z.i2; exact ⟨o, k (Opq.iter Z.i2) _ e, r⟩

theorem zip_loop {es : List Expr} {k : Nat} {tp : Pos} {b : List Stmt} {x y : PV} {xs ys : List PV} {z TI TO i1 i2 l1 l2 : Addr} {μ0 : List Addr} {s0 : Shared} {B : Loc → Hp → (Fl → Loc → Hp → Prop) → Prop} {hp0 : Hp} {Q : Fl → Loc → Hp → Prop} {j : Nat} (R : Room n A)
    (okt : tgtOk env.scope (.Tuple es k tp) = true) (hB : ∀ l h k, B l h k → WS G n env l h (execs b env) k) (hxy : xs.length ≤ ys.length) (hlow : ∀ a, (zipS z TO i1 i2) a → G.h0.objs.size ≤ a) (hnew : ∀ a, (zipS z TO i1 i2) a → s0.heap.get? a = none) :
    ∀ (zs : List PV) (i : Nat) (l : Loc) (hp : Hp) (μ : List Addr) (s : Shared), (zipP xs ys).drop i = zs → i ≤ (zipP xs ys).length → HR G μ hp s → EnvR G A env l μ s.heap → Stp G (ownOf env) μ0 s0 μ s →
      ZSt s.heap z TI TO i1 i2 l1 l2 i → SrcOk μ hp s.heap x xs l1 → SrcOk μ hp s.heap y ys l2 → TI ∉ μ → μ[j]? = some TO → hp[j]? = some .hid → chkV hp0 hp x → chkV hp0 hp y →
      forL (fun z l h k' => bindT (.Tuple es k tp) h z l fun l1 => B l1 h k') (fun h' => chkV hp0 h' x ∧ chkV hp0 h' y ∧ h'[j]? = some .hid) Q zs l hp →
      codeAny G.M A (.forLoop (.Tuple es k tp) (.ref z) b [] env) (fun r s' => match r with | .ok f => PF G A env μ0 s0 Q f s' | .error e => cameBackBy G.M A env noE e s') s := by
  intro zs
  induction zs with
  | nil =>
    intro i l hp μ s hd hle H X st Z S1 S2 hTI hm hj hc1 hc2 h
    obtain ⟨w1, m1, g1, r1⟩ := S1.lst H
    obtain ⟨w2, m2, g2, r2⟩ := S2.lst H
    obtain ⟨p, eTO⟩ := H.obj j TO _ hm hj
    have hi : i = xs.length := by
      have := congrArg List.length hd
      simp [zipP] at this hle; omega
    have n1 : w1.size = xs.length := by simpa using r1.length
    refine for_step (zip_end1 (xs := w1) R.handled Z.ap Z.z Z.TI Z.i1 ⟨_, g1, rfl, _, rfl⟩ (Array.getElem?_eq_none (by omega)) fun h' hk => ?_)
    have mv : MvS (fun a => a = z ∨ a = i1) s { s with heap := h' } := ⟨fun c o hc e => hk c o (fun q => hc (.inl q)) (fun q => hc (.inr q)) e, rfl, rfl, H.toks⟩
    have mo : MvOk G μ hp (fun a => a = z ∨ a = i1) s { s with heap := h' } TO j := ⟨fun a q _ => by
      rcases q with rfl | rfl
      · exact ⟨Opq.zip Z.z, hlow _ (.inl rfl)⟩
      · exact ⟨Opq.iter Z.i1, hlow _ (.inr (.inr (.inl rfl)))⟩, hm, hj, ⟨p, hk _ _ Z.ap.TOz Z.ap.TOi1 eTO⟩⟩
    exact wpAny_execs_nil ⟨.next, l, hp, μ, h, trivial, mo.hr mv H, mo.envr mv H X, mv.stp st (fun a q => hnew a (by
      rcases q with rfl | rfl
      · exact .inl rfl
      · exact .inr (.inr (.inl rfl))))⟩
  | cons zv zs ih =>
    intro i l hp μ s hd hle H X st Z S1 S2 hTI hm hj hc1 hc2 h
    obtain ⟨w1, m1, g1, r1⟩ := S1.lst H
    obtain ⟨w2, m2, g2, r2⟩ := S2.lst H
    obtain ⟨p, eTO⟩ := H.obj j TO _ hm hj
    have hzi : (zipP xs ys)[i]? = some zv := by
      have := congrArg (fun z => z[0]?) hd
      simpa using this
    have hlt : i < (zipP xs ys).length := (List.getElem?_eq_some_iff.mp hzi).1
    have hd' : (zipP xs ys).drop (i + 1) = zs := by
      have := congrArg List.tail hd
      simpa [List.tail_drop] using this
    have hpair : ∃ a b, xs[i]? = some a ∧ ys[i]? = some b ∧ zv = .tuple [a, b] := by
      unfold zipP at hzi
      rw [List.getElem?_map] at hzi
      obtain ⟨q, hq, rfl⟩ := Option.map_eq_some_iff.mp hzi
      rw [List.getElem?_zip_eq_some] at hq
      exact ⟨q.1, q.2, hq.1, hq.2, rfl⟩
    obtain ⟨pa, pb, ea, eb, rfl⟩ := hpair
    obtain ⟨v1, hv1, rv1⟩ := r1.get ea
    obtain ⟨v2, hv2, rv2⟩ := r2.get eb
    refine for_step (wpAny_pyNext_zip_item (xs := w1) (ys := w2) (x := v1) (y := v2) (a := p.1) (b := p.2) Z.ap Z.z Z.TI eTO Z.i1 Z.i2 ⟨_, g1, rfl, _, rfl⟩ ⟨_, g2, rfl, _, rfl⟩ (by simpa using hv1) (by simpa using hv2) fun h' a1 a2 a3 a4 a5 a6 hk => ?_)
    have mv : MvS (zipS z TO i1 i2) s { s with heap := h' } := ⟨fun c o hc e => hk c o (fun q => hc (.inl q)) (fun q => hc (.inr (.inl q))) (fun q => hc (.inr (.inr (.inl q)))) (fun q => hc (.inr (.inr (.inr q)))) e, rfl, rfl, H.toks⟩
    have mo : MvOk G μ hp (zipS z TO i1 i2) s { s with heap := h' } TO j := ⟨fun a q hne => by
      rcases q with rfl | rfl | rfl | rfl
      · exact ⟨Opq.zip Z.z, hlow _ (.inl rfl)⟩
      · exact absurd rfl hne
      · exact ⟨Opq.iter Z.i1, hlow _ (.inr (.inr (.inl rfl)))⟩
      · exact ⟨Opq.iter Z.i2, hlow _ (.inr (.inr (.inr rfl)))⟩, hm, hj, ⟨(v1, v2), a2⟩⟩
    have H1 := mo.hr mv H
    have X1 := mo.envr mv H X
    have st1 := mv.stp st hnew
    have vk1 := mo.vk mv H
    have hT : s.heap.objs.size ∉ μ := fun q => Nat.lt_irrefl _ (H.lt q)
    have rz : Rep μ h' (.tuple [pa, pb]) (.ref s.heap.objs.size) := by
      simp only [Rep]
      refine ⟨_, #[v1, v2], rfl, a5, ?_, hT⟩
      exact ⟨v1, [v2], rfl, rv1.mono vk1 (Grow.refl _ _), v2, [], rfl, rv2.mono vk1 (Grow.refl _ _), rfl⟩
    have TI1 : IsPair h' TI (.ref i1) (.ref i2) := hk _ _ Z.ap.TIz Z.ap.TITO Z.ap.TIi1 Z.ap.TIi2 Z.TI
    refine wpAny_letOwnedTupleGo_zip (s := { s with heap := h' }) a1 fun h2 hz2 sb => ?_
    have mv2 : MvS (fun a => a = z) { s with heap := h' } { s with heap := h2 } := ⟨fun c o hc e => (sb.2 c hc).trans e, rfl, rfl, H.toks⟩
    have mo2 : MvOk G μ hp (fun a => a = z) { s with heap := h' } { s with heap := h2 } TO j := ⟨fun a q hne => by subst q; exact ⟨Opq.zip a1, hlow _ (.inl rfl)⟩, hm, hj, ⟨(v1, v2), (sb.2 _ Z.ap.TOz).trans a2⟩⟩
    have H2 := mo2.hr mv2 H1
    have X2 := mo2.envr mv2 H1 X1
    have st2 := mv2.stp st1 (fun a q => hnew a (.inl q))
    have vk2 := mo2.vk mv2 H1
    have Z2 : ZSt h2 z TI TO i1 i2 l1 l2 (i + 1) := ⟨Z.ap, hz2, (sb.2 _ Z.ap.TIz).trans TI1, a3.extBut (fun b o hb e => (sb.2 b hb).trans e) Z.ap.i1z, a4.extBut (fun b o hb e => (sb.2 b hb).trans e) Z.ap.i2z⟩
    have S12 := (S1.vk vk1).vk (s := { s with heap := h' }) vk2
    have S22 := (S2.vk vk1).vk (s := { s with heap := h' }) vk2
    have rz2 : Rep μ h2 (.tuple [pa, pb]) (.ref s.heap.objs.size) := rz.mono vk2 (Grow.refl _ _)
    simp only [forL] at h
    refine wpAny_mono (bind_run (P := fun l1 => B l1 hp fun f l' hp' => match f with
      | .next => (chkV hp0 hp' x ∧ chkV hp0 hp' y ∧ hp'[j]? = some .hid) ∧ forL (fun z l h k' => bindT (.Tuple es k tp) h z l fun l1 => B l1 h k') (fun h' => chkV hp0 h' x ∧ chkV hp0 h' y ∧ h'[j]? = some .hid) Q zs l' hp'
      | .cont => (chkV hp0 hp' x ∧ chkV hp0 hp' y ∧ hp'[j]? = some .hid) ∧ forL (fun z l h k' => bindT (.Tuple es k tp) h z l fun l1 => B l1 h k') (fun h' => chkV hp0 h' x ∧ chkV hp0 h' y ∧ h'[j]? = some .hid) Q zs l' hp'
      | .brk => Q .next l' hp'
      | .ret v => Q (.ret v) l' hp') R.handled okt H2 X2 rz2 h) (fun _ s3 h3 => ?_) fun _ _ e => e
    obtain ⟨l3, q3, H3, X3, st3⟩ := h3
    have Z3 := Z2.step H2 X2 hTI st3
    have S13 := S12.step H2 st3 X2.ownVal (chkV.refl hp x)
    have S23 := S22.step H2 st3 X2.ownVal (chkV.refl hp y)
    refine wpAny_mono (hB _ _ _ q3 A μ s3 R H3 X3) (fun f s4 h4 => ?_) fun _ _ e => e
    obtain ⟨fl, l4, hp4, μ4, q4, r4, H4, X4, st4⟩ := h4
    have stt := (st2.trans st3).trans st4
    have Z4 := Z3.step H3 X3 hTI st4
    have hTI4 : TI ∉ μ4 := st4.grow.not hTI Z3.TI
    have tr : ∀ v, chkV hp0 hp v → chkV hp0 hp4 v → chkV hp hp4 v := by
      intro v c1 c2
      cases v <;> simp only [chkV] at c1 c2 ⊢
      rw [c2, c1]
    cases fl <;> cases f <;> simp only [FlR] at r4 <;> (try (exact r4.elim)) <;> simp only [] at q4 ⊢
    · obtain ⟨⟨c1, c2, c3⟩, q4⟩ := q4
      exact ih (i + 1) l4 hp4 μ4 s4 hd' (by omega) H4 X4 stt Z4 (S13.step H3 st4 X3.ownVal (tr _ hc1 c1)) (S23.step H3 st4 X3.ownVal (tr _ hc2 c2)) hTI4 (st4.grow.get hm) c3 c1 c2 q4
    · exact ⟨.next, l4, hp4, μ4, q4, trivial, H4, X4, stt⟩
    · obtain ⟨⟨c1, c2, c3⟩, q4⟩ := q4
      exact ih (i + 1) l4 hp4 μ4 s4 hd' (by omega) H4 X4 stt Z4 (S13.step H3 st4 X3.ownVal (tr _ hc1 c1)) (S23.step H3 st4 X3.ownVal (tr _ hc2 c2)) hTI4 (st4.grow.get hm) c3 c1 c2 q4
    · exact ⟨.ret _, l4, hp4, μ4, q4, r4, H4, X4, stt⟩

theorem zapart (N l1 l2 : Nat) (h1 : l1 < N) (h2 : l2 < N) : ZipApart (N + 4) (N + 2) (N + 3) N (N + 1) l1 l2 := by
  constructor <;> (show ¬ ((_ : Nat) = _)) <;> omega
theorem zlow (N a : Nat) (h : zipS (N + 4) (N + 3) N (N + 1) a) : N ≤ a := by
  rcases h with h | h | h | h <;> (have h : (a : Nat) = _ := h) <;> omega
theorem HR.add {a : Addr} {h' : Heap} {m : MO} (H : HR G μ hp s) (keep : ∀ b o, s.heap.get? b = some o → h'.get? b = some o) (hn : s.heap.get? a = none) (low : G.h0.objs.size ≤ a) (hO : ObjR (μ ++ [a]) h' a m) :
    HR G (μ ++ [a]) (hp ++ [m]) { s with heap := h' } ∧ Stp G noOwn μ s (μ ++ [a]) { s with heap := h' } := by
  have g : Grow s.heap μ (μ ++ [a]) := ⟨[a], rfl, fun b hb => by simp at hb; rw [hb]; exact hn⟩
  have P : HR G μ hp { s with heap := h' } := H.ext keep rfl rfl H.toks
  have na : a ∉ μ := fun q => by
    have := H.lt q
    obtain ⟨i, hi⟩ := List.getElem?_of_mem q
    have hlt : i < hp.length := by rw [← H.len]; exact (List.getElem?_eq_some_iff.mp hi).1
    have hO := H.obj i a (hp[i]) hi (List.getElem?_eq_getElem hlt)
    cases hq : hp[i] with
    | list vs => rw [hq] at hO; obtain ⟨ws, m, e, _⟩ := hO; rw [hn] at e; cases e
    | obj => rw [hq] at hO; have e : s.heap.get? a = some objO := hO; rw [hn] at e; cases e
    | hid => rw [hq] at hO; obtain ⟨ws, e⟩ := hO; rw [hn] at e; cases e
  have vk : VKeep μ s.heap h' := fun b o e _ _ => keep b o e
  refine ⟨⟨P.base, P.tab, P.os, P.gens, P.toks, ?_, by simp [H.len], fun b hb => ?_, fun i b m' h1 h2 => ?_⟩, StpS.w ⟨fun b o e _ _ _ => keep b o e, g, fun b o e => ⟨o, keep b o e⟩⟩⟩
  · rw [List.nodup_append]
    refine ⟨H.nodup, by simp, fun b hb c hc => ?_⟩
    simp at hc; subst hc
    rintro rfl; exact na hb
  · rcases List.mem_append.mp hb with q | q
    · exact H.low b q
    · simp at q; subst q; exact low
  · rcases Nat.lt_or_ge i μ.length with hl | hl
    · rw [List.getElem?_append_left hl] at h1
      rw [List.getElem?_append_left (by rw [← H.len]; exact hl)] at h2
      have := H.obj i b m' h1 h2
      cases m' with
      | list vs => obtain ⟨ws, k, e, r⟩ := this; exact ⟨ws, k, keep _ _ e, r.mono vk g⟩
      | obj => exact keep _ _ this
      | hid => obtain ⟨ws, e⟩ := this; exact ⟨ws, keep _ _ e⟩
    · rw [List.getElem?_append_right hl] at h1
      rw [List.getElem?_append_right (by rw [← H.len]; exact hl), ← H.len] at h2
      cases hk : i - μ.length with
      | zero => rw [hk] at h1 h2; simp at h1 h2; subst h1 h2; exact hO
      | succ k => rw [hk] at h1; simp at h1

theorem S_for_zip {b : List Stmt} {es : List Expr} {k : Nat} {tp : Pos} {a c : Expr} {fp cp p : Pos} {B : Loc → Hp → (Fl → Loc → Hp → Prop) → Prop} {Q : Fl → Loc → Hp → Prop} (g : GOk G) (hs : env.scope = K.sc) (okt : tgtOk K.sc (.Tuple es k tp) = true)
    (hB : ∀ l h k, B l h k → WS G n env l h (execs b env) k)
    (ok : okE K.sc (.Call (.Name (Str.ofString "zip") fp) [a, c] [] cp) = true)
    (h : exE G n K a l hp fun x h1 => exE G n K c l h1 fun y h2 => optP (contents h2 x) fun xs => optP (contents h2 y) fun ys =>
        (xs.length ≤ ys.length ∧ ys.length ≤ big) ∧ forL (fun z l h k' => bindT (.Tuple es k tp) h z l fun l1 => B l1 h k') (fun h' => chkV h2 h' x ∧ chkV h2 h' y ∧ h'[h2.length]? = some .hid) Q (zipP xs ys) l (h2 ++ [.hid])) :
    WS G n env l hp (exec (.For (.Tuple es k tp) (.Call (.Name (Str.ofString "zip") fp) [a, c] [] cp) b [] p) env) Q := fun A μ s R H X => by
  have okt' : tgtOk env.scope (.Tuple es k tp) = true := by rw [hs]; exact okt
  have okf : glbOk K.sc (Str.ofString "zip") = true := by
    simp only [okE, Bool.and_eq_true, Bool.or_eq_true] at ok
    rcases ok.1.1.1 with q | q
    · exact absurd q (by decide +kernel)
    · exact q
  have oka : okEs K.sc [a, c] = true := by
    simp only [okE, Bool.and_eq_true] at ok
    exact ok.1.2
  refine wpAny_For ?_ (fun x => fold_set ok)
  refine call_node (glb_blt g hs okf H X g.m_zip g.b_zip ?_)
  refine PySem.callWith_type (stars_plain oka) (args_run (Ql := fun ps h2 => match ps with | [x, y] => (optP (contents h2 x) fun xs => optP (contents h2 y) fun ys => (xs.length ≤ ys.length ∧ ys.length ≤ big) ∧ forL (fun z l h k' => bindT (.Tuple es k tp) h z l fun l1 => B l1 h k') (fun h' => chkV h2 h' x ∧ chkV h2 h' y ∧ h'[h2.length]? = some .hid) Q (zipP xs ys) l (h2 ++ [.hid])) | _ => False) oka
    (soundL g [a, c] K env l hp _ cp hs oka ?_) R H X fun vs s1 ps hp1 μ1 q r H1 X1 st1 => ?_)
  · simp only [exL]; exact h
  · match ps, q with
    | [x, y], q =>
    obtain ⟨xs, e1, ys, e2, ⟨e3, _⟩, q⟩ := q
    simp only [RepL] at r
    obtain ⟨v, wr, rfl, rx, w, _, rfl, ry, rfl⟩ := r
    obtain ⟨l1, rfl, S1⟩ := src_of H1 rx e1
    obtain ⟨l2, rfl, S2⟩ := src_of H1 ry e2
    obtain ⟨w1, m1, g1, r1⟩ := S1.lst H1
    obtain ⟨w2, m2, g2, r2⟩ := S2.lst H1
    refine call_zip_2 ⟨_, g1, rfl, _, rfl⟩ ⟨_, g2, rfl, _, rfl⟩ fun h' hz hTI hTO hi1 hi2 hsz hk => ?_
    refine wpAny_pyIter_zip (s := { s1 with heap := h' }) hz ?_
    have base := X1.base H1
    have fresh : ∀ k, s1.heap.get? (s1.heap.objs.size + k) = none := fun k => by
      cases e : s1.heap.get? (s1.heap.objs.size + k) with
      | none => rfl
      | some o => exact absurd (Heap.lt_size e) (Nat.not_lt.mpr (Nat.le_add_right _ _))
    obtain ⟨H2, st2⟩ := H1.add (h' := h') (a := s1.heap.objs.size + 3) (m := .hid) hk (fresh 3) (Nat.le_trans base (Nat.le_add_right _ _)) ⟨(.none, .none), hTO⟩
    have X2 := X1.step H1 st2
    have ap : ZipApart (s1.heap.objs.size + 4) (s1.heap.objs.size + 2) (s1.heap.objs.size + 3) s1.heap.objs.size (s1.heap.objs.size + 1) l1 l2 := zapart _ _ _ (Heap.lt_size g1) (Heap.lt_size g2)
    have low : ∀ a, (zipS (s1.heap.objs.size + 4) (s1.heap.objs.size + 3) s1.heap.objs.size (s1.heap.objs.size + 1)) a → s1.heap.objs.size ≤ a := fun a h => zlow _ _ h
    have n0 : ∀ a, s1.heap.objs.size ≤ a → s.heap.get? a = none := fun a ha => by
      cases e : s.heap.get? a with
      | none => rfl
      | some o => obtain ⟨o', e'⟩ := st1.live _ _ e; exact absurd (Heap.lt_size e') (Nat.not_lt.mpr ha)
    have hl : hp1.length = μ1.length := H1.len.symm
    refine zip_loop (x := x) (y := y) (xs := xs) (ys := ys) (l1 := l1) (l2 := l2) (i1 := s1.heap.objs.size) (i2 := s1.heap.objs.size + 1) (TI := s1.heap.objs.size + 2) (TO := s1.heap.objs.size + 3) (hp0 := hp1) (j := hp1.length) R okt' hB e3
      (fun a q => Nat.le_trans base (low a q)) (fun a q => n0 a (low a q)) (zipP xs ys) 0 l (hp1 ++ [.hid]) (μ1 ++ [s1.heap.objs.size + 3]) { s1 with heap := h' } rfl (Nat.zero_le _) H2 X2 (st1.trans st2).up
      ⟨ap, hz, hTI, hi1, hi2⟩ (S1.step H1 st2 (fun _ _ q => q.elim) ?_) (S2.step H1 st2 (fun _ _ q => q.elim) ?_) ?_ (by rw [hl]; simp) (by simp) ?_ ?_ q
    · exact chkV.app hp1 x (fun n hn => by subst hn; exact (List.getElem?_eq_some_iff.mp S1.2).1)
    · exact chkV.app hp1 y (fun n hn => by subst hn; exact (List.getElem?_eq_some_iff.mp S2.2).1)
    · intro q
      rcases List.mem_append.mp q with q | q
      · exact Nat.lt_irrefl _ (Nat.lt_of_lt_of_le (H1.lt q) (Nat.le_add_right _ 2))
      · simp at q
    · exact chkV.app hp1 x (fun n hn => by subst hn; exact (List.getElem?_eq_some_iff.mp S1.2).1)
    · exact chkV.app hp1 y (fun n hn => by subst hn; exact (List.getElem?_eq_some_iff.mp S2.2).1)

end

section
open PySem PySem.W PyProof.Rows
open Sem (wp)
set_option linter.unusedVariables false
set_option linter.unusedSimpArgs false
set_option maxRecDepth 100000
set_option maxHeartbeats 2000000

variable {G : GI} {n : Nat}

def SS (G : GI) (n : Nat) (st : Stmt) : Prop := ∀ (K : Cfg) env l hp Q, env.scope = K.sc → okS K.sc st = true → stS G n K st l hp Q → WS G n env l hp (exec st env) Q
def SSs (G : GI) (n : Nat) (ss : List Stmt) : Prop := ∀ (K : Cfg) env l hp Q, env.scope = K.sc → okL K.sc ss = true → stL G n K ss l hp Q → WS G n env l hp (execs ss env) Q

structure IHS (G : GI) (n k : Nat) : Prop where
  s : ∀ st : Stmt, sizeOf st < k → SS G n st
  l : ∀ ss : List Stmt, sizeOf ss < k → SSs G n ss

theorem S_leaf {K : Cfg} {st : Stmt} {env : Env} {l : Loc} {hp : Hp} {Q : Fl → Loc → Hp → Prop} (hs : env.scope = K.sc) (h : LeafS G n K.sc st l hp Q) : WS G n env l hp (exec st env) Q := h env hs

theorem sLs {k : Nat} (I : IHS G n k) (ss : List Stmt) (hk : sizeOf ss < k + 1) : SSs G n ss := by
  intro K env l hp Q hs ok h
  cases ss with
  | nil => unfold stL at h; exact Ss_nil h
  | cons st r =>
    simp only [List.cons.sizeOf_spec] at hk
    simp only [okL, Bool.and_eq_true] at ok
    unfold stL at h
    refine Ss_cons (I.s st (by omega) K env l hp _ hs ok.1 h) fun f l1 h1 q => ?_
    cases f <;> simp only [] at q ⊢
    · exact I.l r (by omega) K env l1 h1 _ hs ok.2 q
    · exact q
    · exact q
    · exact q

theorem sAssign {k : Nat} (g : GOk G) (ts : List Expr) (e : Expr) (p : Pos) : SS G n (.Assign ts e p) := by
  intro K env l hp Q hs ok h
  match ts, ok, h with
  | [.Name x xp], ok, h =>
    simp only [okS, Bool.and_eq_true, Bool.or_eq_true] at ok
    obtain ⟨⟨o1, o2⟩, o3⟩ := ok
    have o1' : stoOk env.scope x = true := by rw [hs]; exact o1
    cases e with
    | List es lp =>
      simp only [stS] at h
      unfold okE at o2
      refine S_assign rfl o1' (E_list_trk (Q := fun v h1 => Q .next (upd l x v) h1) (soundL g es K env l hp _ lp hs o2 h) fun vs h1 q => q) fun v h1 q => q
    | ListComp elt gens csc cp =>
      have h' : exE G n K (.ListComp elt gens csc cp) l hp fun v h1 => Q .next (upd l x v) h1 := by simpa only [stS] using h
      rcases o3 with o3 | o3
      · simp [notComp] at o3
      · by_cases hg : ∃ tgt iter ifs, gens = [⟨tgt, iter, ifs, 0⟩]
        · obtain ⟨tgt, iter, ifs, rfl⟩ := hg
          exact S_assign_comp hs o1 o2 (soundE g iter) (fun e _ => soundT g e) (soundE g elt) h'
        · unfold oneLine at o3
          split at o3 <;> rename_i heq <;> first
            | (cases heq; done)
            | (cases heq; exact absurd ⟨_, _, _, rfl⟩ hg)
            | (cases o3; done)
    | _ =>
      have h' := h
      simp only [stS] at h'
      rcases o3 with o3 | o3
      · exact S_assign o3 o1' (soundE g _ K env l hp _ hs o2 h') fun v h1 q => q
      · simp [oneLine] at o3
  | [.Tuple es k tp], ok, h =>
    simp only [okS, Bool.and_eq_true, decide_eq_true_eq] at ok
    obtain ⟨⟨⟨⟨o1, o2⟩, o3⟩, o4⟩, o5⟩ := ok
    simp only [stS] at h
    exact S_assign_tuple o3 (by rw [hs]; exact o1) o4 o5 (soundE g e K env l hp _ hs o2 h) fun v h1 q => q
  | [.Subscript o i sp], ok, h =>
    simp only [okS, Bool.and_eq_true] at ok
    obtain ⟨⟨⟨o1, o2⟩, o3⟩, o4⟩ := ok
    simp only [stS] at h
    exact S_assign_sub o4 (soundE g e K env l hp _ hs o3 h) (fun v h1 q => soundE g o K env l h1 _ hs o1 q) fun v x h2 q => soundE g i K env l h2 _ hs o2 q
  | [], ok, h => unfold stS at h; exact S_leaf hs h
  | t1 :: _ :: _, ok, h => cases t1 <;> (unfold stS at h; first | exact S_leaf hs h | (split at h <;> rename_i heq <;> first | (cases heq; done) | exact S_leaf hs h))
  | [.Starred a b], ok, h => unfold stS at h; exact S_leaf hs h
  | [.Attribute a b c], ok, h => unfold stS at h; exact S_leaf hs h
  | [.List a b], ok, h => unfold stS at h; exact S_leaf hs h
  | [.BoolOp a b c], ok, h => unfold stS at h; exact S_leaf hs h
  | [.NamedExpr a b c], ok, h => unfold stS at h; exact S_leaf hs h
  | [.BinOp a b c d], ok, h => unfold stS at h; exact S_leaf hs h
  | [.UnaryOp a b c], ok, h => unfold stS at h; exact S_leaf hs h
  | [.Lambda a b c d], ok, h => unfold stS at h; exact S_leaf hs h
  | [.IfExp a b c d], ok, h => unfold stS at h; exact S_leaf hs h
  | [.Dict a b c], ok, h => unfold stS at h; exact S_leaf hs h
  | [.Set a b c], ok, h => unfold stS at h; exact S_leaf hs h
  | [.ListComp a b c d], ok, h => unfold stS at h; exact S_leaf hs h
  | [.SetComp a b c d], ok, h => unfold stS at h; exact S_leaf hs h
  | [.DictComp a b c d e], ok, h => unfold stS at h; exact S_leaf hs h
  | [.GeneratorExp a b c d], ok, h => unfold stS at h; exact S_leaf hs h
  | [.Await a b], ok, h => unfold stS at h; exact S_leaf hs h
  | [.Yield a b], ok, h => unfold stS at h; exact S_leaf hs h
  | [.YieldFrom a b], ok, h => unfold stS at h; exact S_leaf hs h
  | [.Compare a b c d], ok, h => unfold stS at h; exact S_leaf hs h
  | [.Call a b c d], ok, h => unfold stS at h; exact S_leaf hs h
  | [.FormattedValue a b c d], ok, h => unfold stS at h; exact S_leaf hs h
  | [.JoinedStr a b], ok, h => unfold stS at h; exact S_leaf hs h
  | [.Constant a b c], ok, h => unfold stS at h; exact S_leaf hs h
  | [.Slice a b c d], ok, h => unfold stS at h; exact S_leaf hs h

theorem sAug {k : Nat} (g : GOk G) (t : Expr) (op : Operator) (e : Expr) (p : Pos) : SS G n (.AugAssign t op e p) := by
  intro K env l hp Q hs ok h
  cases t with
  | Name x xp =>
    unfold stS at h
    simp only [okS, Bool.and_eq_true] at ok
    obtain ⟨old, ho, h⟩ := h
    exact S_aug (by rw [hs]; exact ok.1) ho (soundE g e K env l hp _ hs ok.2 h)
  | Subscript o i sp =>
    unfold stS at h
    simp only [okS, Bool.and_eq_true] at ok
    obtain ⟨⟨⟨o1, o2⟩, o3⟩, o4⟩ := ok
    exact S_aug_sub (Qi := fun x y old h2 => exE G n K e l h2 fun v h3 => optP (augV op h3 old v) fun r => optP (storeV h3 x y r) fun h4 => Q .next l h4) o4
      (soundE g o K env l hp _ hs o1 h) (fun x h1 q => soundE g i K env l h1 _ hs o2 q) fun x y old h2 q => soundE g e K env l h2 _ hs o3 q
  | _ => unfold stS at h; exact S_leaf hs h

theorem sS {k : Nat} (g : GOk G) (I : IHS G n k) (st : Stmt) (hk : sizeOf st < k + 1) : SS G n st := by
  cases st with
  | Assign ts e p => exact sAssign (k := 0) g ts e p
  | AugAssign t op e p => exact sAug (k := 0) g t op e p
  | Expr e p =>
    intro K env l hp Q hs ok h
    unfold stS at h
    simp only [okS, Bool.and_eq_true] at ok
    exact S_expr ok.2 (soundE g e K env l hp _ hs ok.1 h) fun v h1 q => q
  | Pass p => intro K env l hp Q hs ok h; unfold stS at h; exact S_pass h
  | Break p => intro K env l hp Q hs ok h; unfold stS at h; exact S_break h
  | Continue p => intro K env l hp Q hs ok h; unfold stS at h; exact S_continue h
  | Return v p =>
    intro K env l hp Q hs ok h
    cases v with
    | none => unfold stS at h; exact S_return0 h
    | some e => unfold stS at h; unfold okS okO at ok; exact S_return (soundE g e K env l hp _ hs ok h) fun v h1 q => q
  | Assert t m p =>
    intro K env l hp Q hs ok h
    cases m with
    | none => unfold stS at h; unfold okS at ok; exact S_assert (soundT g t K env l hp _ hs ok h) fun c h1 q => q
    | some _ => unfold stS at h; exact S_leaf hs h
  | Delete ts p =>
    intro K env l hp Q hs ok h
    match ts, ok, h with
    | [.Subscript o i sp], ok, h =>
      simp only [okS, okEs, okE, Bool.and_eq_true] at ok
      simp only [stS] at h
      exact S_del (soundE g o K env l hp _ hs ok.1.1 h) fun x h1 q => soundE g i K env l h1 _ hs ok.1.2 q
    | [], ok, h => unfold stS at h; exact S_leaf hs h
    | t1 :: t2 :: r, ok, h => cases t1 <;> (unfold stS at h; first | exact S_leaf hs h | (split at h <;> rename_i heq <;> first | (cases heq; done) | exact S_leaf hs h))
    | [.BoolOp a b c], ok, h => unfold stS at h; exact S_leaf hs h
    | [.NamedExpr a b c], ok, h => unfold stS at h; exact S_leaf hs h
    | [.BinOp a b c d], ok, h => unfold stS at h; exact S_leaf hs h
    | [.UnaryOp a b c], ok, h => unfold stS at h; exact S_leaf hs h
    | [.Lambda a b c d], ok, h => unfold stS at h; exact S_leaf hs h
    | [.IfExp a b c d], ok, h => unfold stS at h; exact S_leaf hs h
    | [.Dict a b c], ok, h => unfold stS at h; exact S_leaf hs h
    | [.Set a b c], ok, h => unfold stS at h; exact S_leaf hs h
    | [.ListComp a b c d], ok, h => unfold stS at h; exact S_leaf hs h
    | [.SetComp a b c d], ok, h => unfold stS at h; exact S_leaf hs h
    | [.DictComp a b c d e], ok, h => unfold stS at h; exact S_leaf hs h
    | [.GeneratorExp a b c d], ok, h => unfold stS at h; exact S_leaf hs h
    | [.Await a b], ok, h => unfold stS at h; exact S_leaf hs h
    | [.Yield a b], ok, h => unfold stS at h; exact S_leaf hs h
    | [.YieldFrom a b], ok, h => unfold stS at h; exact S_leaf hs h
    | [.Compare a b c d], ok, h => unfold stS at h; exact S_leaf hs h
    | [.Call a b c d], ok, h => unfold stS at h; exact S_leaf hs h
    | [.FormattedValue a b c d], ok, h => unfold stS at h; exact S_leaf hs h
    | [.JoinedStr a b], ok, h => unfold stS at h; exact S_leaf hs h
    | [.Constant a b c], ok, h => unfold stS at h; exact S_leaf hs h
    | [.Slice a b c d], ok, h => unfold stS at h; exact S_leaf hs h
    | [.Starred a b], ok, h => unfold stS at h; exact S_leaf hs h
    | [.Attribute a b c], ok, h => unfold stS at h; exact S_leaf hs h
    | [.Name a b], ok, h => unfold stS at h; exact S_leaf hs h
    | [.List a b], ok, h => unfold stS at h; exact S_leaf hs h
    | [.Tuple a b c], ok, h => unfold stS at h; exact S_leaf hs h
  | If t b o p =>
    intro K env l hp Q hs ok h
    simp only [Stmt.If.sizeOf_spec] at hk
    unfold stS at h
    simp only [okS, Bool.and_eq_true] at ok
    refine S_if (soundT g t K env l hp _ hs ok.1.1 h) fun c h1 q => ?_
    cases c
    · exact I.l o (by omega) K env l h1 _ hs ok.2 q
    · exact I.l b (by omega) K env l h1 _ hs ok.1.2 q
  | While t b o p =>
    intro K env l hp Q hs ok h
    simp only [Stmt.While.sizeOf_spec] at hk
    cases o with
    | cons _ _ => unfold stS at h; exact S_leaf hs h
    | nil =>
      unfold stS at h
      simp only [okS, Bool.and_eq_true] at ok
      exact S_while (fun l h k q => soundT g t K env l h k hs ok.1.1 q) (fun l h k q => I.l b (by omega) K env l h k hs ok.1.2 q) h
  | For t i b o p =>
    intro K env l hp Q hs ok h
    simp only [Stmt.For.sizeOf_spec] at hk
    simp only [okS, Bool.and_eq_true] at ok
    obtain ⟨⟨⟨o1, o2⟩, o3⟩, o4⟩ := ok
    cases o with
    | cons _ _ => unfold stS at h; first | exact S_leaf hs h | (split at h <;> rename_i heq <;> first | (cases heq; done) | exact S_leaf hs h)
    | nil =>
      have gen : (exE G n K i l hp fun v h1 => optP (iterV h1 v) fun xs => xs.length ≤ big ∧
          forL (fun z l h k => bindT t h z l fun l1 => stL G n K b l1 h k) (fun h' => chkV h1 h' v) Q xs l h1) → WS G n env l hp (exec (.For t i b [] p) env) Q := fun h =>
        S_for (B := fun l h k => stL G n K b l h k) (by rw [hs]; exact o1) o2 (soundE g i K env l hp _ hs o2 h) (fun l h k q => I.l b (by omega) K env l h k hs o3 q) fun v h1 q => by
          obtain ⟨xs, e, _, q⟩ := q
          exact ⟨xs, e, q⟩
      by_cases hz : ∃ f fp a c cp, i = .Call (.Name f fp) [a, c] [] cp
      · obtain ⟨f, fp, a, c, cp, rfl⟩ := hz
        simp only [stS] at h
        split at h
        · rename_i hf
          subst hf
          obtain ⟨ht, h⟩ := h
          cases t with
          | Tuple es k tp => exact S_for_zip (B := fun l h k => stL G n K b l h k) g hs o1 (fun l h k q => I.l b (by omega) K env l h k hs o3 q) o2 h
          | _ => simp [isTupE] at ht
        · exact gen h
      · refine gen ?_
        have : stS G n K (.For t i b [] p) l hp Q = (exE G n K i l hp fun v h1 => optP (iterV h1 v) fun xs => xs.length ≤ big ∧
          forL (fun z l h k => bindT t h z l fun l1 => stL G n K b l1 h k) (fun h' => chkV h1 h' v) Q xs l h1) := by
          unfold stS
          split <;> rename_i heq <;> first | (cases heq; done) | (cases heq; exact absurd ⟨_, _, _, _, _, rfl⟩ hz) | (cases heq; rfl) | (exfalso; exact (‹∀ (tgt iter : Expr) (body : List Stmt) (pos : Pos), Stmt.For t i b [] p = Stmt.For tgt iter body [] pos → False› t i b p rfl)) | (simp_all; exact absurd rfl (‹∀ (tgt iter : Expr) (body : List Stmt) (pos : Pos), t = tgt → i = iter → b = body → ¬p = pos› t i b p rfl rfl rfl))
        rw [← this]; exact h
  | _ =>
    intro K env l hp Q hs ok h
    unfold stS at h
    exact S_leaf hs h

theorem soundS (g : GOk G) : ∀ k, IHS G n k
  | 0 => ⟨fun _ h => absurd h (Nat.not_lt_zero _), fun _ h => absurd h (Nat.not_lt_zero _)⟩
  | k + 1 => ⟨sS g (soundS g k), sLs (soundS g k)⟩
/-- a body does what the reckoned condition says -/
theorem sound_body (g : GOk G) (ss : List Stmt) : SSs G n ss := (soundS g (sizeOf ss + 1)).l ss (Nat.lt_succ_self _)

end

section
open PySem PySem.W PyProof.Rows
open Sem (wp)
set_option linter.unusedVariables false
set_option linter.unusedSimpArgs false
set_option maxRecDepth 100000

variable {G : GI} {n : Nat} {A : Around} {μ μ' : List Addr} {hp hp' : Hp} {s s' : Shared} {Q : PV → Hp → Prop} {env : Env} {l : Loc} {K : Cfg}


def mapO (f : PV → Option PV) : List PV → Option (List PV)
  | [] => some []
  | v :: vs => (f v).bind fun w => (mapO f vs).map fun ws => w :: ws
/-- what a caller sees of a value: lists made on the way are frozen -/
def freeze (hp : Hp) (k : Nat) : Nat → PV → Option PV
  | 0, v => (match v with
    | .ref n => if n < k then some (.ref n) else none
    | .app _ => none
    | .tuple _ => none
    | .list _ => none
    | v => some v)
  | d + 1, v => (match v with
    | .ref n => if n < k then some (.ref n) else (match hp[n]? with
      | some (.list vs) => (mapO (freeze hp k d) vs).map .list
      | _ => none)
    | .app _ => none
    | .tuple vs => (mapO (freeze hp k d) vs).map .tuple
    | .list vs => (mapO (freeze hp k d) vs).map .list
    | v => some v)

theorem mapO_rep {ν : List Addr} {h : Heap} {f : PV → Option PV} (hf : ∀ p q v, f p = some q → Rep (μ ++ ν) h p v → Rep μ h q v) : ∀ {ps qs : List PV} {vs : List Value}, mapO f ps = some qs → RepL (μ ++ ν) h ps vs → RepL μ h qs vs
  | [], qs, vs, e, r => by simp only [mapO] at e; cases e; simpa only [RepL] using r
  | p :: ps, qs, vs, e, r => by
      simp only [mapO] at e
      obtain ⟨w, e1, e⟩ := Option.bind_eq_some_iff.mp e
      obtain ⟨ws, e2, rfl⟩ := Option.map_eq_some_iff.mp e
      simp only [RepL] at r ⊢
      obtain ⟨x, xr, h1, r0, rs⟩ := r
      exact ⟨x, xr, h1, hf _ _ _ e1 r0, mapO_rep hf e2 rs⟩

theorem freeze_rep {ν : List Addr} (H : HR G (μ ++ ν) hp s) : ∀ (d : Nat) {p q : PV} {v : Value}, freeze hp μ.length d p = some q → Rep (μ ++ ν) s.heap p v → Rep μ s.heap q v := by
  have ref : ∀ {j : Nat} {v : Value}, j < μ.length → Rep (μ ++ ν) s.heap (.ref j) v → Rep μ s.heap (.ref j) v := fun hj r => r.cut (by simp [Fnm.inTo, hj])
  intro d
  induction d with
  | zero =>
    intro p q v e r
    unfold freeze at e
    split at e
    · split at e
      · rename_i hj; cases e; exact ref hj r
      · cases e
    · cases e
    · cases e
    · cases e
    · cases e
      cases p <;> simp_all [Rep]
  | succ d ih =>
    intro p q v e r
    unfold freeze at e
    split at e
    · rename_i j
      split at e
      · rename_i hj; cases e; exact ref hj r
      · rename_i hj
        split at e
        · rename_i vs hv
          obtain ⟨qs, e1, rfl⟩ := Option.map_eq_some_iff.mp e
          obtain ⟨a, ws, m, rfl, hm, ho, rs⟩ := ref_list H r hv
          simp only [Rep]
          refine ⟨a, ws, m, rfl, ho, fun hin => ?_, mapO_rep (fun p q v e r => ih e r) e1 rs⟩
          obtain ⟨i, hi⟩ := List.getElem?_of_mem hin
          have hil : i < μ.length := (List.getElem?_eq_some_iff.mp hi).1
          have h2 : (μ ++ ν)[i]? = some a := by rw [List.getElem?_append_left hil]; exact hi
          have hij : i = j := (List.getElem?_inj (List.getElem?_eq_some_iff.mp h2).1 H.nodup).mp (h2.trans hm.symm)
          omega
        · cases e
    · cases e
    · rename_i vs
      obtain ⟨qs, e1, rfl⟩ := Option.map_eq_some_iff.mp e
      simp only [Rep] at r ⊢
      obtain ⟨a, ws, h1, h2, rs, h3⟩ := r
      exact ⟨a, ws, h1, h2, mapO_rep (fun p q v e r => ih e r) e1 rs, fun q => h3 (List.mem_append_left _ q)⟩
    · rename_i vs
      obtain ⟨qs, e1, rfl⟩ := Option.map_eq_some_iff.mp e
      simp only [Rep] at r ⊢
      obtain ⟨a, ws, m, h1, h2, h3, rs⟩ := r
      exact ⟨a, ws, m, h1, h2, fun q => h3 (List.mem_append_left _ q), mapO_rep (fun p q v e r => ih e r) e1 rs⟩
    · cases e
      cases p <;> simp_all [Rep]

/-- what is known of a function of the program -/
structure FnOk (G : GI) (f : Str) (ps : List Str) (sc : Scope) (body : List Stmt) : Prop where
  fn : ∃ a o fd, (G.mg f = some (.ref a) ∧ G.h0.get? a = some o ∧ o.data = .func fd) ∧ fd.body = .stmts body ∧ fd.scope = sc ∧ fd.closure = [] ∧ fd.globals = mainGlobals ∧ fd.builtins = builtinsNs ∧
    G.h0.CodeRec fd.code fd.qualname ∧ (sc.names.lookup QM ≠ none → fd.code = .ref G.C ∧ fd.qualname ++ ".<locals>." = G.tq) ∧ ∀ vals : List Value, vals.length = ps.length → bindArgs fd ⟨vals, []⟩ = pure (ps.zip vals)
  co : sc.isCoroutine = false
  gen : sc.isGenerator = false
  kind : sc.kind = .function
  free : sc.names.all (fun x => x.2 != .free) = true
  prm : ps.all (stoOk sc) = true
  body : okL sc body = true

/-- the condition of a call: the body's condition, seen from outside -/
def bodyC (G : GI) (n : Nat) (ps : List Str) (sc : Scope) (trk : Pos → Bool) (body : List Stmt) (vs : List PV) (hp : Hp) (Q : PV → Hp → Prop) : Prop :=
  vs.length = ps.length ∧ stL G n ⟨sc, trk⟩ body (updL (fun _ => none) ps vs) hp fun fl _ h1 =>
    optP (freeze h1 hp.length 8 (match fl with | .ret v => v | _ => .none)) fun v => hp.length ≤ h1.length ∧ (h1.take hp.length = hp ∨ (h1.take hp.length).all (objIn hp.length) = true) ∧ Q v (h1.take hp.length)

theorem cells_some : ∀ {names : List (Str × NameKind)} {k : Nat} {acc : List (Str × Addr)} {x : Str}, ((x, NameKind.cell) ∈ names ∨ (acc.lookup x).isSome = true) → ((cellsFrom k names acc).lookup x).isSome = true
  | [], _, _, _, h => by
      rcases h with h | h
      · cases h
      · exact h
  | (y, kd) :: r, k, acc, x, h => by
      unfold cellsFrom
      split
      · refine cells_some ?_
        rcases h with h | h
        · rcases List.mem_cons.mp h with e | e
          · cases e; right; simp [List.lookup_cons]
          · exact .inl e
        · right; rw [List.lookup_cons]; split
          · rfl
          · exact h
      · rename_i hk
        refine cells_some ?_
        rcases h with h | h
        · rcases List.mem_cons.mp h with e | e
          · cases e; simp at hk
          · exact .inl e
        · exact .inr h

theorem binds_rep {h : Heap} {kindOf : Str → Option NameKind} : ∀ {ps : List Str} {pvs : List PV} {vals : List Value} {l : Loc} {m cm : Str → Option Value}, pvs.length = ps.length → RepL μ h pvs vals →
    (∀ x pv, l x = some pv → (kindOf x = some .local → ∃ v, m x = some v ∧ Rep μ h pv v) ∧ (kindOf x ≠ some .local → ∃ v, cm x = some v ∧ Rep μ h pv v)) →
    ∀ x pv, updL l ps pvs x = some pv → (kindOf x = some .local → ∃ v, bindL kindOf (ps.zip vals) m x = some v ∧ Rep μ h pv v) ∧ (kindOf x ≠ some .local → ∃ v, bindC kindOf (ps.zip vals) cm x = some v ∧ Rep μ h pv v)
  | [], [], vals, l, m, cm, _, r, hl => by
      simp only [RepL] at r; subst r
      exact hl
  | p :: ps, pv0 :: pvs, vals, l, m, cm, hlen, r, hl => by
      simp only [RepL] at r
      obtain ⟨w, wr, rfl, r0, rs⟩ := r
      show ∀ x pv, updL (upd l p pv0) ps pvs x = some pv → _
      rw [List.zip_cons_cons]
      unfold bindL bindC
      refine binds_rep (by simpa using hlen) rs fun x pv hx => ?_
      unfold upd at hx
      split at hx
      · rename_i e; subst e; cases hx
        refine ⟨fun hk => ⟨w, by simp [hk], r0⟩, fun hk => ⟨w, by simp [hk], r0⟩⟩
      · rename_i hne
        obtain ⟨a, b⟩ := hl x pv hx
        refine ⟨fun hk => ?_, fun hk => ?_⟩
        · obtain ⟨v, h1, h2⟩ := a hk
          refine ⟨v, ?_, h2⟩
          split <;> simp [hne, h1]
        · obtain ⟨v, h1, h2⟩ := b hk
          refine ⟨v, ?_, h2⟩
          split <;> simp [hne, h1]
  | [], _ :: _, _, _, _, _, hlen, _, _ => by simp at hlen
  | _ :: _, [], _, _, _, _, hlen, _, _ => by simp at hlen

theorem updL_mem : ∀ {ps : List Str} {pvs : List PV} {l : Loc} {x : Str} {pv : PV}, updL l ps pvs x = some pv → x ∈ ps ∨ l x = some pv
  | [], _, l, x, pv, h => by cases ‹List PV› <;> exact .inr h
  | _ :: _, [], l, x, pv, h => .inr h
  | p :: ps, v :: pvs, l, x, pv, h => by
      rcases updL_mem (ps := ps) (pvs := pvs) (l := upd l p v) h with q | q
      · exact .inl (List.mem_cons_of_mem _ q)
      · unfold upd at q
        split at q
        · rename_i e; subst e; exact .inl (List.mem_cons_self ..)
        · exact .inr q

theorem FlR.out {h : Heap} {fl : Fl} {f : Flow} (r : FlR μ h fl f) : Rep μ h (match (generalizing := false) fl with | .ret v => v | _ => .none) (match (generalizing := false) f with | .ret v => v | _ => .none) := by
  cases fl <;> cases f <;> simp only [FlR] at r <;> (try (exact r.elim)) <;> first | exact r | simp [Rep]
theorem callW_of {f : Str} {ps : List Str} {sc : Scope} {trk : Pos → Bool} {body : List Stmt} {vs : List PV} (g : GOk G) (hno : G.h0.NoLimit) (F : FnOk G f ps sc body) (h : bodyC G n ps sc trk body vs hp Q) : CallW G n f vs hp Q := by
  obtain ⟨a, o, fd, ⟨hm, ho, hd⟩, hb, hs, hclo, hgl, hbl, hcr, hcode, hbind⟩ := F.fn
  refine ⟨a, o, fd, ⟨hm, ho, hd⟩, fun A μ s vals R H r hbase hfr => ?_⟩
  obtain ⟨hlen, hst⟩ := h
  have hvl : vals.length = ps.length := r.length.trans hlen
  subst hs
  have nl : ∀ {h' : Heap}, (∀ b o, s.heap.get? b = some o → h'.get? b = some o) → h'.NoLimit := fun k => hno.keeps fun b o e => k b o (H.base b o e)
  have prm : ∀ x ∈ ps, stoOk fd.scope x = true := fun x hx => List.all_eq_true.mp F.prm x hx
  refine codeAny_call_function (by have := R.depth; show A.depth < 1000; omega) (H.base _ _ ho) hd F.co F.gen hb (hcr.keeps fun b o e => H.base b o e) ?_
  rw [hbind _ hvl, hclo]
  refine wpAny_pure (wtk H.toks (wpAny_newFunctionEnv_cells F.kind ?_ fun env he s1 x => fun ht1 => ?_))
  · rintro ⟨y, w⟩ hy
    have := (sto_iff (prm y (List.of_mem_zip hy).1)).1
    rcases this with q | q
    · exact .inl q
    · exact .inr ⟨q, cells_some (.inl (lookup_mem q))⟩
  have hsc : env.scope = fd.scope := by rw [he]; rfl
  have hko : ∀ y, env.kindOf y = fd.scope.names.lookup y := fun y => by rw [Env.kindOf, hsc]
  have hloc : env.locals = s.heap.objs.size := by rw [he]; rfl
  have hcells : env.cells = cellsFrom (s.heap.objs.size + 1) fd.scope.names [] := by rw [he]; rfl
  refine ⟨nl x.toInCall.keep, codeAny_func ?_⟩
  obtain ⟨h1, tk, hsame⟩ := x.toInCall.same
  have keep := x.toInCall.keep
  have H1 : HR G μ hp s1 := H.ext keep (by rw [hsame]) (by rw [hsame]) ht1
  have st1 : ∀ own, Stp G own μ s μ s1 := fun own => Stp.ext μ keep
  have r1 : RepL μ s1.heap vs vals := H.repL (st1 noOwn) r
  have br := binds_rep (kindOf := env.kindOf) (l := fun _ => none) (m := fun _ => none) (cm := fun _ => none) hlen r1 (fun x pv q => by cases q)
  have habove : ∀ y c, (y, c) ∈ env.cells → s.heap.objs.size < c := fun y c hc => by have := x.above y c hc; rw [hloc] at this; exact this
  have X1 : EnvR G (A.deeper env) env (updL (fun _ => none) ps vs) μ s1.heap := by
    refine ⟨fun y pv hy => ?_, by rw [hsc]; exact F.kind, by rw [he]; exact hgl, by rw [he]; exact hbl, by rw [hloc]; exact hbase, fun y c hc => ?_, x.apart, fun hq => ?_, fun lf hlf ee hee => ?_, ⟨_, x.toInCall.ns, fun y pv hk hl => (br y pv hl).1 hk⟩, fun y hy => ?_⟩
    · rcases updL_mem hy with q | q
      · obtain ⟨q1, q2, q3⟩ := sto_iff (prm y q)
        rw [hko]
        exact ⟨q1.elim .inl fun z => .inr (.inl z), q2, q3⟩
      · cases q
    · exact Nat.le_trans hbase (Nat.le_of_lt (habove y c hc))
    · rw [hko] at hq
      have := hcode hq
      rw [he]; exact this
    · obtain ⟨l0, hl0⟩ := R.frames
      have hdf : (A.deeper env).frames = some (env :: l0) := by show A.frames.map (env :: ·) = _; rw [hl0]; rfl
      rw [hdf] at hlf; cases hlf
      rcases List.mem_cons.mp hee with q | q
      · subst q
        obtain ⟨o5, es5, k5, e5, hd5, _⟩ := x.toInCall.ns
        exact ⟨by rw [hsc, F.kind]; simp, ee.locals, o5, es5, k5, by rw [he]; rfl, e5, hd5, by rw [hloc]; exact hbase⟩
      · exact (hfr.keep keep) l0 hl0 ee q
    · have hcell : env.kindOf y = some .cell := by
        rcases hy with q | q
        · exact q
        · rw [hko] at q
          have := List.all_eq_true.mp F.free _ (lookup_mem q)
          simp at this
      have hsome : (env.cells.lookup y).isSome = true := by
        rw [hcells]; rw [hko] at hcell
        exact cells_some (.inl (lookup_mem hcell))
      obtain ⟨c, hc⟩ := Option.isSome_iff_exists.mp hsome
      exact ⟨c, _, hc, x.cell y c hc, fun pv hl => (br y pv hl).2 (by rw [hcell]; simp)⟩
  have R1 : Room n (A.deeper env) := by
    obtain ⟨l, hl⟩ := R.frames
    refine ⟨?_, ?_, R.handled, ⟨env :: l, by show A.frames.map (env :: ·) = _; rw [hl]; rfl⟩⟩
    · have := R.depth; show A.depth + 1 + n ≤ 900; omega
    · have := R.units; show A.units + 3 + 10 * n ≤ 9000; omega
  refine wpAny_mono (sound_body g body ⟨fd.scope, trk⟩ env _ hp _ hsc F.body hst (A.deeper env) μ s1 R1 H1 X1) (fun f s2 h2 => ?_) fun _ _ e => e.elim
  obtain ⟨fl, l2, hp2, μ2, ⟨v, hv, hle, hcl, hq⟩, r2, H2, X2, st2⟩ := h2
  obtain ⟨ν, rfl, hν⟩ := st2.grow
  have hlm : hp.length = μ.length := H.len.symm
  rw [hlm] at hv hle hcl hq
  have hlen2 : (hp2.take μ.length).length = μ.length := by
    rw [List.length_take, ← H2.len, List.length_append]; omega
  have hall : (hp2.take μ.length).all (objIn μ.length) = true := by
    rcases hcl with q | q
    · rw [q]; exact H.objsIn
    · exact q
  have HF : HR G μ (hp2.take μ.length) s2 := H2.cut hlen2 rfl hall
  have rr := FlR.out r2
  refine ⟨v, _, _, rfl, hq, freeze_rep H2 8 hv rr, HF, ⟨fun b ob e h1 h2 _ => st2.keepU b ob (keep b ob e) h1 h2 ?_, Grow.refl _ _, (st1 noOwn).live.trans st2.live⟩⟩
  have hbl : b < s.heap.objs.size := Heap.lt_size e
  rintro (q | ⟨y, hy, hc⟩)
  · rw [hloc] at q; exact Nat.lt_irrefl _ (q ▸ hbl)
  · exact Nat.lt_irrefl _ (Nat.lt_trans hbl (habove y b (lookup_mem hc)))

end

section
open PySem PySem.W PyProof.Rows
set_option linter.unusedVariables false
set_option maxRecDepth 100000

/-! the equations by which a condition is run (simp) -/
theorem optP_some {α : Type} (a : α) (Q : α → Prop) : optP (some a) Q = Q a := by
  apply propext; exact ⟨fun ⟨b, e, q⟩ => by cases e; exact q, fun q => ⟨a, rfl, q⟩⟩
theorem optP_ite {α : Type} (c : Prop) [Decidable c] (a : α) (Q : α → Prop) : optP (if c then some a else none) Q = (c ∧ Q a) := by
  apply propext
  constructor
  · rintro ⟨b, e, q⟩
    split at e
    · cases e; exact ⟨by assumption, q⟩
    · cases e
  · rintro ⟨h, q⟩; exact ⟨a, by rw [if_pos h], q⟩
theorem optP_none {α : Type} (Q : α → Prop) : optP none Q = False := by
  apply propext; exact ⟨(fun ⟨b, e, q⟩ => by cases e), False.elim⟩
theorem optP_map {α β : Type} (o : Option α) (f : α → β) (Q : β → Prop) : optP (o.map f) Q = optP o (fun a => Q (f a)) := by
  apply propext; cases o with
  | none => exact ⟨(fun ⟨_, e, _⟩ => by cases e), (fun ⟨_, e, _⟩ => by cases e)⟩
  | some a => exact ⟨(fun ⟨b, e, q⟩ => ⟨a, rfl, by cases e; exact q⟩), (fun ⟨b, e, q⟩ => ⟨f a, rfl, by cases e; exact q⟩)⟩
variable (hp : Hp)
theorem bin_add (a b : Int) : binV .Add hp (.int a) (.int b) = some (.int (a + b)) := rfl
theorem bin_sub (a b : Int) : binV .Sub hp (.int a) (.int b) = some (.int (a - b)) := rfl
theorem bin_mul (a b : Int) : binV .Mult hp (.int a) (.int b) = if smallI a || smallI b then some (.int (a * b)) else none := rfl
theorem bin_div (a b : Int) : binV .FloorDiv hp (.int a) (.int b) = if b ≠ 0 ∧ smallI b then some (.int (a.fdiv b)) else none := rfl
theorem bin_mod (a b : Int) : binV .Mod hp (.int a) (.int b) = if b ≠ 0 then some (.int (a.fmod b)) else none := rfl
theorem bin_pow (a b : Int) : binV .Pow hp (.int a) (.int b) = if 0 ≤ b ∧ b ≤ 64 ∧ -1000 ≤ a ∧ a ≤ 1000 then some (.int (a ^ b.toNat)) else none := rfl
theorem bin_cat (a b : List Nat) : binV .Add hp (.str a) (.str b) = if a.length + b.length ≤ big then some (.str (a ++ b)) else none := rfl
theorem cmp_lt (a b : Int) : cmpV .Lt hp (.int a) (.int b) = some (decide (a < b)) := rfl
theorem cmp_le (a b : Int) : cmpV .LtE hp (.int a) (.int b) = some (decide (a ≤ b)) := rfl
theorem cmp_gt (a b : Int) : cmpV .Gt hp (.int a) (.int b) = some (decide (b < a)) := rfl
theorem cmp_ge (a b : Int) : cmpV .GtE hp (.int a) (.int b) = some (decide (b ≤ a)) := rfl
theorem cmp_slt (a b : List Nat) : cmpV .Lt hp (.str a) (.str b) = some (ltL a b) := rfl
theorem cmp_sle (a b : List Nat) : cmpV .LtE hp (.str a) (.str b) = some (!ltL b a) := rfl
theorem cmp_sgt (a b : List Nat) : cmpV .Gt hp (.str a) (.str b) = some (ltL b a) := rfl
theorem cmp_sge (a b : List Nat) : cmpV .GtE hp (.str a) (.str b) = some (!ltL a b) := rfl
theorem cmp_is (a b : PV) : cmpV .Is hp a b = isV hp a b := rfl
theorem cmp_isnot (a b : PV) : cmpV .IsNot hp a b = (isV hp a b).map not := rfl
theorem cmp_in (a b : PV) : cmpV .In hp a b = inV hp a b := rfl
theorem cmp_notin (a b : PV) : cmpV .NotIn hp a b = (inV hp a b).map not := rfl
theorem cmp_eq (a b : PV) : cmpV .Eq hp a b = eqP hp a b := rfl
theorem cmp_ne (a b : PV) : cmpV .NotEq hp a b = (eqP hp a b).map not := rfl
theorem in_one (c : Nat) (x : List Nat) : inV hp (.str [c]) (.str x) = some (x.contains c) := rfl
theorem in_nil (x : List Nat) : inV hp (.str []) (.str x) = some true := rfl
open Classical in
theorem eq_str (a b : List Nat) : eqP hp (.str a) (.str b) = some (decide (a = b)) := by
  unfold eqP eqV deref contents
  have h : eqOk (.str a) (.str b) = true := by simp [eqOk, flat]
  rw [if_pos h]; simp
open Classical in
theorem eq_int (a b : Int) : eqP hp (.int a) (.int b) = some (decide (a = b)) := by
  unfold eqP eqV deref contents
  have h : eqOk (.int a) (.int b) = true := by simp [eqOk, flat]
  rw [if_pos h]; simp
theorem ne_none_str (a : List Nat) : eqP hp .none (.str a) = some false := by
  unfold eqP eqV deref contents
  have h : eqOk .none (.str a) = true := by simp [eqOk, flat]
  rw [if_pos h]; simp
theorem truth_bool (b : Bool) : truthV hp (.bool b) = some b := rfl
theorem truth_int (i : Int) : truthV hp (.int i) = some (i != 0) := rfl
theorem truth_none : truthV hp .none = some false := rfl
theorem truth_str (l : List Nat) : truthV hp (.str l) = if l.length ≤ big then some (!l.isEmpty) else none := rfl
theorem frz_str (k d : Nat) (l : List Nat) : freeze hp k (d + 1) (.str l) = some (.str l) := rfl
theorem frz_int (k d : Nat) (l : Int) : freeze hp k (d + 1) (.int l) = some (.int l) := rfl
theorem frz_bool (k d : Nat) (l : Bool) : freeze hp k (d + 1) (.bool l) = some (.bool l) := rfl
theorem frz_none (k d : Nat) : freeze hp k (d + 1) .none = some .none := rfl
theorem frz_ref (k d n : Nat) : freeze hp k (d + 1) (.ref n) = if n < k then some (.ref n) else (match hp[n]? with
      | some (.list vs) => (mapO (freeze hp k d) vs).map .list
      | _ => none) := rfl
theorem frz_tuple (k d : Nat) (vs : List PV) : freeze hp k (d + 1) (.tuple vs) = (mapO (freeze hp k d) vs).map .tuple := rfl
theorem frz_list (k d : Nat) (vs : List PV) : freeze hp k (d + 1) (.list vs) = (mapO (freeze hp k d) vs).map .list := rfl

end

section
open PySem PySem.W PyProof.Rows
open Sem (wp)
set_option linter.unusedVariables false
set_option linter.unusedSimpArgs false
set_option maxRecDepth 100000

variable {G : GI} {n : Nat} {A : Around} {μ μ' : List Addr} {hp hp' : Hp} {s s' : Shared} {Q : PV → Hp → Prop} {env : Env} {l : Loc} {K : Cfg}

def spcl : List Nat := [40, 41, 91, 93, 123, 125, 63, 42, 43, 45, 124, 94, 36, 92, 46, 38, 126, 35, 32, 9, 10, 13, 11, 12]
def escC (c : Nat) : List Nat := if spcl.contains c then [92, c] else [c]

section
variable {prog : Program} {w : World} {E : Value → Shared → Prop}
open Builtin Builtin.Str
theorem tl_hit {d : Addr} {f : Int → Option Value} {c : Nat} {y : Str} {u : Tok} {R : Mapped → Shared → Prop} (hm : s.heap.MapOf (intKind prog w) d f) (hv : f c = some (.str y u)) (h : ∀ k, s.toks ≤ k → R (.text y) { s with toks := k }) :
    wpAny (model prog w) A (tableLookup (.ref d) c) R E s := by
  unfold tableLookup
  refine wpAny_bind (wpAny_attempt (wpAny_bind (wpAny_mkInt ?_)))
  refine wpAny_getItem_of (k := (c : Int)) (by simp [intKind, Value.isInt]) hm hv ?_
  exact wpAny_pure (h _ (by show s.toks ≤ s.toks + 1 + 1; omega))
theorem tl_miss {d : Addr} {f : Int → Option Value} {c : Nat} {R : Mapped → Shared → Prop} (hh : A.handled = none) (hd : (d == sysModules) = false) (hm : s.heap.MapOf (intKind prog w) d f) (hv : f c = none)
    (h : ∀ h' k, s.toks ≤ k → (∀ b o, s.heap.get? b = some o → h'.get? b = some o) → R .keep { s with toks := k, heap := h' }) :
    wpAny (model prog w) A (tableLookup (.ref d) c) R E s := by
  unfold tableLookup
  refine wpAny_bind (wpAny_attempt (wpAny_bind (wpAny_mkInt ?_)))
  refine wpAny_getItem_missing_of (k := (c : Int)) (by simp [intKind, Value.isInt]) hd hh hm hv fun h' e ne => ?_
  obtain ⟨ob, t, h1, h2, h3⟩ := ne.there
  refine wpAny_bind (wpAny_isInstance (T := "KeyError") (b := true) ⟨ob, h1, h2⟩ ?_ ?_)
  · rw [isSubtype_type]; kernel_rfl
  · exact wpAny_bind (wpAny_rule (wpAny_pure (h h' _ (by show s.toks ≤ s.toks + 1 + 1; omega) ne.keeps)))
end
open Builtin Builtin.Str in
theorem op_trans {prog : Program} {w : World} {E : Value → Shared → Prop} {d : Addr} {f : Int → Option Value} {c : Nat} {t : Tok} {R : Fin → Shared → Prop} (hh : A.handled = none) (hd : (d == sysModules) = false) (hm : s.heap.MapOf (intKind prog w) d f)
    (h1 : c ∈ spcl → ∃ u, f c = some (.str ⟨#[92, c]⟩ u)) (h2 : c ∉ spcl → f c = none)
    (h : ∀ h' k y, s.toks ≤ k → (∀ b o, s.heap.get? b = some o → h'.get? b = some o) → y = ⟨(escC c).toArray⟩ → R (.done (.ret (.str y k))) { s with toks := k + 1, heap := h' }) :
    wpAny (model prog w) A (Builtin.«str.translate» ⟨[.str ⟨#[c]⟩ t, .ref d], []⟩) R E s := by
  unfold Builtin.«str.translate»
  have e : Builtin.Str.strOneArg "translate" ⟨[.str ⟨#[c]⟩ t, .ref d], []⟩ = pure (.str ⟨#[c]⟩ t, ⟨#[c]⟩, .ref d) := rfl
  rw [e]
  refine wpAny_bind (wpAny_pure ?_)
  show wpAny _ _ (if (false : Bool) = true then _ else _) _ _ _
  rw [if_neg (by decide)]
  have fin : ∀ (y : Str) (s1 : Shared), s1.gens = s.gens → s1.drawn = s.drawn → s1.os = s.os → s.toks ≤ s1.toks → (∀ b o, s.heap.get? b = some o → s1.heap.get? b = some o) → y = ⟨(escC c).toArray⟩ → wpAny (model prog w) A (retStr y) R E s1 := by
    rintro y ⟨h1, g1, d1, k1, o1⟩ rfl rfl rfl hk hb hy
    have hl : y.length ≤ sizeLine := by
      rw [hy]
      show (escC c).toArray.size ≤ sizeLine
      unfold escC
      split <;> simp [sizeLine]
    unfold retStr ret
    exact wpAny_bind (wpAny_mkStr (wpAny_pure (h h1 k1 y hk hb hy)) hl)
  simp only [← Array.forIn_toList, List.forIn_cons, List.forIn_nil]
  by_cases hc : c ∈ spcl
  · obtain ⟨u, hu⟩ := h1 hc
    have h128 : c < 128 := by
      simp only [spcl, List.mem_cons, List.not_mem_nil, or_false] at hc
      omega
    have hall : (#[c].all fun x => decide (x < 128)) = true := by simp [h128]
    rw [hall]
    refine wpAny_bind (wpAny_bind ?_)
    rw [if_neg (by simp [tooLong, sizeLine])]
    rw [if_pos rfl]
    simp only [List.lookup_nil]
    refine wpAny_bind (tl_hit hm hu fun k hk => ?_)
    have e2 : (if (({ cps := #[92, c] } : Str).length == 1 && ({ cps := #[92, c] } : Str).cps.all fun x => decide (x < 128)) = true then some (({ cps := #[92, c] } : Str).cps[0]?) else none) = (none : Option (Option Nat)) := by
      rw [if_neg (by simp [Str.length])]
    simp only [e2]
    refine wpAny_bind (wpAny_pure ?_)
    simp only []
    refine wpAny_bind (wpAny_rule ?_)
    rw [if_neg (by decide)]
    refine wpAny_bind (tl_hit (s := { s with toks := k }) hm hu fun k2 hk2 => ?_)
    refine wpAny_pure (wpAny_pure ?_)
    show wpAny _ _ (if _ then _ else _) _ _ _
    rw [if_neg (by simp [tooLong, Str.length, sizeLine])]
    refine fin _ _ rfl rfl rfl (Nat.le_trans hk hk2) (fun _ _ e => e) ?_
    have : spcl.contains c = true := by simpa using hc
    simp [escC, hc]
  · have hesc : escC c = [c] := by unfold escC; rw [if_neg (by simpa using hc)]
    cases h128 : decide (c < 128) with
    | true =>
      have hall : (#[c].all fun x => decide (x < 128)) = true := by simpa using h128
      rw [hall]
      refine wpAny_bind (wpAny_bind ?_)
      rw [if_neg (by simp [tooLong, sizeLine])]
      rw [if_pos rfl]
      simp only [List.lookup_nil]
      refine wpAny_bind (tl_miss hh hd hm (h2 hc) fun h' k hk hb => ?_)
      simp only []
      refine wpAny_bind (wpAny_pure ?_)
      refine wpAny_pure (wpAny_pure ?_)
      show wpAny _ _ (if _ then _ else _) _ _ _
      rw [if_neg (by simp [tooLong, sizeLine])]
      refine fin _ _ rfl rfl rfl hk hb ?_
      simp [hesc]
    | false =>
      have hall : (#[c].all fun x => decide (x < 128)) = false := by simpa using h128
      rw [hall]
      refine wpAny_bind (wpAny_bind ?_)
      rw [if_neg (by simp [tooLong, sizeLine])]
      rw [if_neg (by decide)]
      rw [if_neg (by decide)]
      refine wpAny_bind (tl_miss hh hd hm (h2 hc) fun h' k hk hb => ?_)
      refine wpAny_pure (wpAny_pure ?_)
      show wpAny _ _ (if _ then _ else _) _ _ _
      rw [if_neg (by simp [tooLong, sizeLine])]
      refine fin _ _ rfl rfl rfl hk hb ?_
      simp [hesc]

structure MapTab (G : GI) : Prop where
  tab : ∃ d f, G.mg (Str.ofString "_special_chars_map") = some (.ref d) ∧ (d == sysModules) = false ∧ G.h0.MapOf (intKind G.prog G.w) d f ∧
    ∀ c : Nat, (c ∈ spcl → ∃ u, f c = some (.str ⟨#[92, c]⟩ u)) ∧ (c ∉ spcl → f c = none)

theorem E_trans {o : Expr} {mp pos p2 : Pos} {sc : Scope} {Qo : PV → Hp → Prop} (g : GOk G) (mt : MapTab G) (hs : env.scope = sc) (okf : glbOk sc (Str.ofString "_special_chars_map") = true) (hn : notSuper o = true) (hline : (mp.endLine == pos.line) = true)
    (ho : WE G n env l hp (eval o env) Qo) (hq : ∀ v h1, Qo v h1 → ∃ c, v = .str [c] ∧ Q (.str (escC c)) h1) :
    WE G n env l hp (eval (.Call (.Attribute o (Str.ofString "translate") mp) [.Name (Str.ofString "_special_chars_map") p2] [] pos) env) Q := fun A μ s R H X => by
  refine wpAny_Call_method (base_eq hn) rfl hline F.plainAttrs_str F.slot_str_translate F.type_str_translate ?_
  refine ho.run R H X fun v s1 pv hp1 μ1 q r H1 X1 st1 => ?_
  obtain ⟨c, rfl, q2⟩ := hq _ _ q
  simp only [Rep] at r; obtain ⟨t, rfl⟩ := r
  refine ⟨typeIs_str _ _ _, (fun a e => by cases e), ?_⟩
  obtain ⟨d, f, hm, hsys, hd, hf⟩ := mt.tab
  refine Calls.callWith_builtin rfl (Calls.evalArgs_plain (Calls.spliced_cons (glb_fn g hs okf H1 X1 hm (Calls.spliced_nil ?_))))
  obtain ⟨o', es, ep, e1, e2, e3, e4, e5⟩ := hd
  have hd1 : s1.heap.MapOf (intKind G.prog G.w) d f := ⟨o', es, ep, H1.base _ _ e1, e2, e3, e4, e5⟩
  refine wpAny_call_entry F.slot_str_translate (typeIs_str _ _ _) F.entry_str_translate ?_ (F.args_str_translate_2 _ _)
  refine op_trans (A := A.in1) R.handled hsys hd1 (hf c).1 (hf c).2 fun h' k y hk hb hy => ?_
  refine ⟨_, rfl, .str (escC c), hp1, μ1, q2, ?_, ?_, st1.trans (Stp.ext μ1 hb)⟩
  · subst hy; simp only [Rep]; exact ⟨_, rfl⟩
  · exact H1.ext hb rfl rfl (by show 1 ≤ k + 1; omega)

end

section
open PySem PySem.W PyProof.Rows
open Sem (wp)
set_option linter.unusedVariables false
set_option linter.unusedSimpArgs false
set_option maxRecDepth 100000

/-! facts on the two types of re -/
theorem pa_pattern : PlainAttrs "re.Pattern" :=
  ⟨⟨"object.__getattribute__", by rw [typeLookup_type, builtinLookup_eq_fast]; kernel_rfl, by decide +kernel⟩, by rw [typeLookup_type, builtinLookup_eq_fast]; kernel_rfl⟩
theorem pa_match : PlainAttrs "re.Match" :=
  ⟨⟨"object.__getattribute__", by rw [typeLookup_type, builtinLookup_eq_fast]; kernel_rfl, by decide +kernel⟩, by rw [typeLookup_type, builtinLookup_eq_fast]; kernel_rfl⟩
theorem slot_sub : Slot "re.Pattern" "sub" "re.Pattern.sub" :=
  .of (owner := "re.Pattern") (n := "sub") (by rw [typeLookup_type, builtinLookup_eq_fast]; kernel_rfl) (by decide +kernel) (by decide +kernel) (by decide +kernel)
    (by first | exact .inl (by decide +kernel) | exact .inr (by decide +kernel)) (by rw [isSubtype_type]; kernel_rfl)
theorem type_sub : typeOf (.builtin "re.Pattern.sub") = pure (.type "method_descriptor") := by show builtinType _ = _; rw [builtinType_eq_fast]; kernel_rfl
theorem entry_sub : entryFor table "re.Pattern.sub" = some Builtin.«re.Pattern.sub» := entryFor_of_tree (by kernel_rfl)
theorem args_sub (a b c : Value) : argsOk "re.Pattern.sub" ⟨[a, b, c], []⟩ := by unfold argsOk; kernel_rfl
theorem entry_loop : entryFor table "re.Pattern.sub.loop" = some Builtin.«re.Pattern.sub.loop» := entryFor_of_tree (by kernel_rfl)
theorem slot_group : Slot "re.Match" "group" "re.Match.group" :=
  .of (owner := "re.Match") (n := "group") (by rw [typeLookup_type, builtinLookup_eq_fast]; kernel_rfl) (by decide +kernel) (by decide +kernel) (by decide +kernel)
    (by first | exact .inl (by decide +kernel) | exact .inr (by decide +kernel)) (by rw [isSubtype_type]; kernel_rfl)
theorem type_group : typeOf (.builtin "re.Match.group") = pure (.type "method_descriptor") := by show builtinType _ = _; rw [builtinType_eq_fast]; kernel_rfl
theorem entry_group : entryFor table "re.Match.group" = some Builtin.«re.Match.group» := entryFor_of_tree (by kernel_rfl)
theorem args_group (a b : Value) : argsOk "re.Match.group" ⟨[a, b], []⟩ := by unfold argsOk; kernel_rfl

end

section
open PySem PySem.W PyProof.Rows
open Sem (wp)
set_option linter.unusedVariables false
set_option linter.unusedSimpArgs false
set_option maxRecDepth 100000

open PySem.Sre
/-! the machine of [&~|] -/
def CODE : Array Nat := #[14, 14, 4, 1, 1, 9, 0, 64, 0, 1342177280, 0, 0, 0, 0, 0, 17, 0, 13, 11, 9, 0, 64, 0, 1342177280, 0, 0, 0, 0, 0, 17, 1, 1]
def isTw (c : Nat) : Bool := c == 38 || c == 124 || c == 126

theorem bits5 : ∀ c, c < 256 → (CODE.getD (5 + (1 + c / 32)) 0).testBit (c % 32) = isTw c := by decide +kernel
theorem bits19 : ∀ c, c < 256 → (CODE.getD (19 + (1 + c / 32)) 0).testBit (c % 32) = isTw c := by decide +kernel
theorem isTw_lt {c : Nat} (h : ¬ c < 256) : isTw c = false := by
  unfold isTw
  have h1 : (c == 38) = false := by rw [beq_eq_false_iff_ne]; omega
  have h2 : (c == 124) = false := by rw [beq_eq_false_iff_ne]; omega
  have h3 : (c == 126) = false := by rw [beq_eq_false_iff_ne]; omega
  simp [h1, h2, h3]
theorem inSet5 (c : Nat) (seen : Sre.Seen) : ∃ seen', inSet CODE c CODE.size 5 true seen = .ok (isTw c, seen') := by
  show ∃ seen', inSet CODE c (30 + 1 + 1) 5 true seen = _
  unfold inSet
  have e0 : CODE.getD (5 + 0) 0 = 9 := rfl
  have e1 : ops[9]? = some .CHARSET := rfl
  simp only [e0, e1]
  by_cases hc : c < 256
  · have := bits5 c hc
    cases hb : isTw c with
    | true =>
      rw [hb] at this
      rw [if_pos (by rw [this]; simp [hc])]
      exact ⟨_, rfl⟩
    | false =>
      rw [hb] at this
      rw [if_neg (by rw [this]; simp)]
      unfold inSet
      have e2 : CODE.getD (5 + 9 + 0) 0 = 0 := rfl
      have e3 : ops[0]? = some .FAILURE := rfl
      simp only [e2, e3]
      exact ⟨_, rfl⟩
  · rw [if_neg (by simp [hc]), isTw_lt hc]
    unfold inSet
    have e2 : CODE.getD (5 + 9 + 0) 0 = 0 := rfl
    have e3 : ops[0]? = some .FAILURE := rfl
    simp only [e2, e3]
    exact ⟨_, rfl⟩
theorem inSet19 (c : Nat) (hc : isTw c = true) (seen : Sre.Seen) : ∃ seen', inSet CODE c CODE.size 19 true seen = .ok (true, seen') := by
  show ∃ seen', inSet CODE c (30 + 1 + 1) 19 true seen = _
  unfold inSet
  have e0 : CODE.getD (19 + 0) 0 = 9 := rfl
  have e1 : ops[9]? = some .CHARSET := rfl
  simp only [e0, e1]
  have h : c < 256 := Decidable.byContradiction fun h => by rw [isTw_lt h] at hc; cases hc
  have := bits19 c h
  rw [hc] at this
  rw [if_pos (by rw [this]; simp [h])]
  exact ⟨_, rfl⟩

/-- the first tempting place from i on -/
def nextTw (x : List Nat) (i : Nat) : Option Nat := ((x.drop i).findIdx? isTw).map (i + ·)

theorem admitted_eq (m : M) (hc : m.code = CODE) (x : List Nat) (ht : m.text = x.toArray) (hl : m.lim = x.length) : ∀ (fuel s : Nat) (seen : Sre.Seen), x.length ≤ s + fuel → ∃ seen', M.admitted m fuel s seen = .ok (nextTw x s, seen')
  | 0, s, seen, h => by
      refine ⟨seen, ?_⟩
      have : x.drop s = [] := List.drop_eq_nil_of_le (by omega)
      simp [M.admitted, nextTw, this]
  | fuel + 1, s, seen, h => by
      unfold M.admitted
      rw [hl]
      by_cases hs : s ≥ x.length
      · rw [if_pos hs]
        have : x.drop s = [] := List.drop_eq_nil_of_le hs
        exact ⟨seen, by simp [nextTw, this]⟩
      · rw [if_neg hs, hc, ht]
        have hlt : s < x.length := by omega
        have e1 : x.toArray.getD s 0 = x[s] := by simp [hlt]
        rw [e1]
        obtain ⟨seen', e⟩ := inSet5 x[s] seen
        rw [e]
        have ed : x.drop s = x[s] :: x.drop (s + 1) := List.drop_eq_getElem_cons hlt
        unfold nextTw
        rw [ed, List.findIdx?_cons]
        cases hb : isTw x[s] with
        | true =>
          refine ⟨seen', ?_⟩
          rfl
        | false =>
          obtain ⟨s2, e2⟩ := admitted_eq m hc x ht hl fuel (s + 1) seen' (by omega)
          refine ⟨s2, ?_⟩
          show M.admitted m fuel (s + 1) seen' = _
          rw [e2]
          unfold nextTw
          cases List.findIdx? isTw (x.drop (s + 1)) with
          | none => rfl
          | some k =>
            show Except.ok (some (s + 1 + k), s2) = Except.ok (some (s + (k + 1)), s2)
            rw [Nat.add_assoc, Nat.add_comm 1 k]

end

section
open PySem PySem.W PyProof.Rows
open Sem (wp)
set_option linter.unusedVariables false
set_option linter.unusedSimpArgs false
set_option maxRecDepth 100000

open PySem.Sre

/-- the machine while it tries a place -/
def mAt (x : List Nat) (ls j pc pos handed : Nat) (marks : Array (Option Nat)) (lm li : Int) (fr : List Sre.Frame) (wt : Nat) (ans : Option Bool) (seen : Sre.Seen) (out : Option Sre.Outcome) : M :=
  { code := CODE, text := x.toArray, lim := x.length, start := j, lastStart := ls, wholeText := false, mustAdvance := false, pc := pc, pos := pos, handed := handed, outermost := true,
    marks := marks, lastmark := lm, lastindex := li, loops := #[], inner := none, frames := fr, weight := wt, answer := ans, seen := seen, outcome := out }
def frm (j : Nat) : Sre.Frame := { wait := .nextStart, pc := 15, pos := j, outermost := true }

variable {x : List Nat} {ls j : Nat}
theorem stepA (seen : Sre.Seen) : ∃ s', (mAt x ls j 15 j j #[none, none] (-1) (-1) [frm j] 1 none seen none).step = mAt x ls j 17 j j #[some j, none] 0 (-1) [frm j] 1 none s' none := ⟨_, rfl⟩
theorem stepB (hj : j < x.length) (ht : isTw x[j] = true) (seen : Sre.Seen) : ∃ s', (mAt x ls j 17 j j #[some j, none] 0 (-1) [frm j] 1 none seen none).step = mAt x ls j 29 (j + 1) j #[some j, none] 0 (-1) [frm j] 1 none s' none := by
  have e1 : (mAt x ls j 17 j j #[some j, none] 0 (-1) [frm j] 1 none seen none).step = (mAt x ls j 17 j j #[some j, none] 0 (-1) [frm j] 1 none seen none).exec := rfl
  rw [e1]
  have e2 : (mAt x ls j 17 j j #[some j, none] 0 (-1) [frm j] 1 none seen none).exec =
    (if j ≥ x.length then (mAt x ls j 17 j j #[some j, none] 0 (-1) [frm j] 1 none (seen.add 13) none).say false else
      match accepts CODE 17 (x.toArray.getD j 0) (seen.add 13) with
      | .error why => (mAt x ls j 17 j j #[some j, none] 0 (-1) [frm j] 1 none (seen.add 13) none).stick why
      | .ok (false, s2) => { mAt x ls j 17 j j #[some j, none] 0 (-1) [frm j] 1 none (seen.add 13) none with seen := s2 }.say false
      | .ok (true, s2) => { mAt x ls j 17 j j #[some j, none] 0 (-1) [frm j] 1 none (seen.add 13) none with seen := s2, pc := 17 + itemWidth CODE 17, pos := j + 1 }) := rfl
  rw [e2, if_neg (by omega)]
  have e3 : x.toArray.getD j 0 = x[j] := by simp [hj]
  have e4 : accepts CODE 17 (x.toArray.getD j 0) (seen.add 13) = inSet CODE (x.toArray.getD j 0) CODE.size 19 true (seen.add 13) := rfl
  rw [e4, e3]
  obtain ⟨s2, e5⟩ := inSet19 _ ht (seen.add 13)
  rw [e5]
  exact ⟨s2, rfl⟩
theorem stepC (seen : Sre.Seen) : ∃ s', (mAt x ls j 29 (j + 1) j #[some j, none] 0 (-1) [frm j] 1 none seen none).step = mAt x ls j 31 (j + 1) j #[some j, some (j + 1)] 1 1 [frm j] 1 none s' none := ⟨seen.add 17, by kernel_rfl⟩
theorem stepD (seen : Sre.Seen) : ∃ s', (mAt x ls j 31 (j + 1) j #[some j, some (j + 1)] 1 1 [frm j] 1 none seen none).step = mAt x ls j 31 (j + 1) (j + 1) #[some j, some (j + 1)] 1 1 [frm j] 1 (some true) s' none := ⟨_, rfl⟩
theorem stepE (seen : Sre.Seen) : ∃ pc pos, (mAt x ls j 31 (j + 1) (j + 1) #[some j, some (j + 1)] 1 1 [frm j] 1 (some true) seen none).step = mAt x ls j pc pos (j + 1) #[some j, some (j + 1)] 1 1 [] 0 (some true) seen none := ⟨_, _, rfl⟩
theorem stepF (seen : Sre.Seen) (pc pos : Nat) : (mAt x ls j pc pos (j + 1) #[some j, some (j + 1)] 1 1 [] 0 (some true) seen none).step = mAt x ls j pc pos (j + 1) #[some j, some (j + 1)] 1 1 [] 0 (some true) seen (some .matched) := rfl

theorem runFor_succ (m : M) (n : Nat) (h : m.outcome.isSome = false) : M.runFor (n + 1) m = M.runFor n m.step := by
  show (if m.outcome.isSome = true then m else M.runFor n m.step) = _
  rw [if_neg (by rw [h]; decide)]
theorem runFor_done (m : M) (n : Nat) (h : m.outcome.isSome = true) : M.runFor n m = m := by
  cases n with
  | zero => rfl
  | succ n =>
    show (if m.outcome.isSome = true then m else M.runFor n m.step) = _
    rw [if_pos h]
theorem run_found (hj : j < x.length) (ht : isTw x[j] = true) (seen : Sre.Seen) : ∃ m1, (mAt x ls j 15 j j #[none, none] (-1) (-1) [frm j] 1 none seen none).runFor 4 = m1 ∧ m1.outcome.isSome = false ∧
    ∃ pc pos s', m1.runFor 4 = mAt x ls j pc pos (j + 1) #[some j, some (j + 1)] 1 1 [] 0 (some true) s' (some .matched) := by
  obtain ⟨s1, e1⟩ := stepA (x := x) (ls := ls) (j := j) seen
  obtain ⟨s2, e2⟩ := stepB (ls := ls) hj ht s1
  obtain ⟨s3, e3⟩ := stepC (x := x) (ls := ls) (j := j) s2
  obtain ⟨s4, e4⟩ := stepD (x := x) (ls := ls) (j := j) s3
  obtain ⟨pc, pos, e5⟩ := stepE (x := x) (ls := ls) (j := j) s4
  have key : M.runFor 4 (mAt x ls j 15 j j #[none, none] (-1) (-1) [frm j] 1 none seen none) = mAt x ls j 31 (j + 1) (j + 1) #[some j, some (j + 1)] 1 1 [frm j] 1 (some true) s4 none := by
    rw [runFor_succ _ _ rfl, e1, runFor_succ _ _ rfl, e2, runFor_succ _ _ rfl, e3, runFor_succ _ _ rfl, e4]
    rfl
  refine ⟨_, key, rfl, pc, pos, s4, ?_⟩
  rw [runFor_succ _ _ rfl, e5, runFor_succ _ _ rfl, stepF, runFor_done _ _ rfl]

theorem run_failed (m : M) (h1 : m.outcome = none) (h2 : m.answer = some false) (h3 : m.frames = []) : ∃ m1, m.runFor 4 = m1 ∧ m1.outcome = some .failed := by
  have : m.step = { m with outcome := some .failed } := by
    unfold M.step
    rw [h1, h2, h3]; rfl
  refine ⟨_, rfl, ?_⟩
  rw [runFor_succ _ _ (by rw [h1]; rfl), this, runFor_done _ _ rfl]

/-- the machine that a search starts with -/
def m00 (x : List Nat) (i : Nat) : M := { code := CODE, text := x.toArray, lim := x.length, start := i, pc := 15, pos := i, handed := i, marks := #[none, none], mustAdvance := false, seen := ({} : Sre.Seen).add 14 }
theorem forSearch_eq (i : Nat) : Sre.forSearch CODE x.toArray 1 i x.length false = if (decide (i > x.length) || decide (x.length - i < 1)) = true then (m00 x i).say false else M.attemptFrom { m00 x i with lastStart := x.length } i true := by
  first | rfl | (unfold Sre.forSearch; rfl)

end

section
open PySem PySem.W PyProof.Rows
open Sem (wp)
set_option linter.unusedVariables false
set_option linter.unusedSimpArgs false
set_option maxRecDepth 100000

open PySem.Sre PySem.Builtin.Re
def mSt (x : List Nat) (i : Nat) : Sre.M := { m00 x i with lastStart := x.length }
theorem from_none {x : List Nat} {i : Nat} (hn : nextTw x i = none) : ∃ s1, (mSt x i).attemptFrom i true = ({ mSt x i with seen := s1 } : Sre.M).say false := by
  obtain ⟨s1, e⟩ := admitted_eq (mSt x i) rfl x rfl rfl (x.length + 1 - i) i (mSt x i).seen (by omega)
  refine ⟨s1, ?_⟩
  have h1 : (mSt x i).hasFirstSet = true := rfl
  unfold Sre.M.attemptFrom
  rw [h1]
  simp only [Bool.not_true, Bool.false_eq_true, if_false]
  have h2 : Sre.M.admitted (mSt x i) ((mSt x i).lim + 1 - i) i (mSt x i).seen = .ok (none, s1) := by rw [← hn]; exact e
  rw [h2]
theorem from_some {x : List Nat} {i j : Nat} (hn : nextTw x i = some j) : ∃ s1, (mSt x i).attemptFrom i true = mAt x x.length j 15 j j #[none, none] (-1) (-1) [frm j] 1 none s1 none := by
  obtain ⟨s1, e⟩ := admitted_eq (mSt x i) rfl x rfl rfl (x.length + 1 - i) i (mSt x i).seen (by omega)
  refine ⟨s1, ?_⟩
  have h1 : (mSt x i).hasFirstSet = true := rfl
  unfold Sre.M.attemptFrom
  rw [h1]
  simp only [Bool.not_true, Bool.false_eq_true, if_false]
  have h2 : Sre.M.admitted (mSt x i) ((mSt x i).lim + 1 - i) i (mSt x i).seen = .ok (some j, s1) := by rw [← hn]; exact e
  rw [h2]
  rfl
section
variable {M : Model} {A : Around} {E : Value → Shared → Prop} {s : Shared}

theorem rules_wp {c : Nat → Bool} {nm : Nat → String} {Q : PUnit → Shared → Prop} (h : Q () s) : ∀ (l : List Nat),
    wpAny M A (forIn l PUnit.unit fun i _ => if c i = true then (do rule (nm i); pure (ForInStep.yield PUnit.unit)) else pure (ForInStep.yield PUnit.unit)) Q E s
  | [] => wpAny_pure h
  | i :: l => by
      rw [List.forIn_cons]
      refine wpAny_bind ?_
      split
      · exact wpAny_bind (wpAny_rule (wpAny_pure (rules_wp h l)))
      · exact wpAny_pure (rules_wp h l)

theorem drive_one {k : Nat} {m m1 : Sre.M} {Q : Sre.M → Shared → Prop} (h1 : m.runFor 4 = m1) (h2 : m1.outcome.isSome = true) (h : Q m1 s) : wpAny M A (reDrive (k + 1) m) Q E s := by
  show wpAny M A (if (m.runFor 4).outcome.isSome = true then pure (m.runFor 4) else do rule "sre.turn"; reDrive k (m.runFor 4)) Q E s
  rw [h1, if_pos h2]
  exact wpAny_pure h
theorem drive_two {k : Nat} {m m1 m2 : Sre.M} {Q : Sre.M → Shared → Prop} (h1 : m.runFor 4 = m1) (h2 : m1.outcome.isSome = false) (h3 : m1.runFor 4 = m2) (h4 : m2.outcome.isSome = true) (h : Q m2 s) : wpAny M A (reDrive (k + 1 + 1) m) Q E s := by
  show wpAny M A (if (m.runFor 4).outcome.isSome = true then pure (m.runFor 4) else do rule "sre.turn"; reDrive (k + 1) (m.runFor 4)) Q E s
  rw [h1, if_neg (by rw [h2]; decide)]
  exact wpAny_bind (wpAny_rule (drive_one h3 h4 h))

theorem two64 : (2 : Nat) ^ 64 = 18446744073709551614 + 1 + 1 := by decide

theorem toEnd_failed {m m1 : Sre.M} {Q : Option Sre.M → Shared → Prop} (h1 : m.runFor 4 = m1) (h2 : m1.outcome = some .failed) (h : Q none s) : wpAny M A (reRunToEnd m) Q E s := by
  unfold reRunToEnd
  rw [two64]
  refine wpAny_bind (drive_one (k := 18446744073709551614 + 1) h1 (by rw [h2]; rfl) ?_)
  refine wpAny_bind (rules_wp ?_ _)
  rw [h2]
  exact wpAny_pure h
theorem toEnd_matched {m m1 m2 : Sre.M} {Q : Option Sre.M → Shared → Prop} (h1 : m.runFor 4 = m1) (h2 : m1.outcome.isSome = false) (h3 : m1.runFor 4 = m2) (h4 : m2.outcome = some .matched) (h : Q (some m2) s) : wpAny M A (reRunToEnd m) Q E s := by
  unfold reRunToEnd
  rw [two64]
  refine wpAny_bind (drive_two h1 h2 h3 (by rw [h4]; rfl) ?_)
  refine wpAny_bind (rules_wp ?_ _)
  rw [h4]
  exact wpAny_pure h

theorem nextTw_some {x : List Nat} {i j : Nat} (h : nextTw x i = some j) : i ≤ j ∧ ∃ hj : j < x.length, isTw x[j] = true ∧ ∀ k, i ≤ k → (hk : k < j) → isTw (x[k]'(Nat.lt_trans hk hj)) = false := by
  unfold nextTw at h
  obtain ⟨k, hk, rfl⟩ := Option.map_eq_some_iff.mp h
  rw [List.findIdx?_eq_some_iff_getElem] at hk
  obtain ⟨h1, h2, h3⟩ := hk
  rw [List.length_drop] at h1
  refine ⟨by omega, by omega, ?_, fun q hq hqj => ?_⟩
  · simpa using h2
  · have := h3 (q - i) (by omega)
    have e : i + (q - i) = q := by omega
    simpa [e] using this

theorem next_none {t : ReTarget} {x : List Nat} {i : Nat} {Q : Option Sre.M → Shared → Prop} (hc : t.code = CODE) (ht : t.text = x.toArray) (hg : t.groups = 1) (hl : t.lim = x.length) (hn : nextTw x i = none) (h : Q none s) :
    wpAny M A (reNextFound t i false) Q E s := by
  unfold reNextFound
  rw [hc, ht, hg, hl, forSearch_eq]
  split
  · obtain ⟨m1, e1, e2⟩ := run_failed ((m00 x i).say false) rfl rfl rfl
    exact toEnd_failed e1 e2 h
  · obtain ⟨s1, e⟩ := from_none hn
    rw [show ({ m00 x i with lastStart := x.length } : Sre.M) = mSt x i from rfl, e]
    obtain ⟨m1, e1, e2⟩ := run_failed (({ mSt x i with seen := s1 } : Sre.M).say false) rfl rfl rfl
    exact toEnd_failed e1 e2 h

structure Fnd (m : Sre.M) (j : Nat) : Prop where
  start : m.start = j
  handed : m.handed = j + 1
  marks : m.marks = #[some j, some (j + 1)]
  lastmark : m.lastmark = 1
  lastindex : m.lastindex = 1

theorem next_some {t : ReTarget} {x : List Nat} {i j : Nat} {Q : Option Sre.M → Shared → Prop} (hc : t.code = CODE) (ht : t.text = x.toArray) (hg : t.groups = 1) (hl : t.lim = x.length) (hn : nextTw x i = some j) (h : ∀ m, Fnd m j → Q (some m) s) :
    wpAny M A (reNextFound t i false) Q E s := by
  obtain ⟨hij, hj, htw, _⟩ := nextTw_some hn
  unfold reNextFound
  rw [hc, ht, hg, hl, forSearch_eq]
  rw [if_neg (by simp; omega)]
  obtain ⟨s1, e⟩ := from_some hn
  rw [show ({ m00 x i with lastStart := x.length } : Sre.M) = mSt x i from rfl, e]
  obtain ⟨m1, e1, e2, pc, pos, s', e3⟩ := run_found (ls := x.length) hj htw s1
  exact toEnd_matched e1 e2 e3 rfl (h _ ⟨rfl, rfl, rfl, rfl, rfl⟩)
end

end

section
open PySem PySem.W PyProof.Rows
open Sem (wp)
set_option linter.unusedVariables false
set_option linter.unusedSimpArgs false
set_option maxRecDepth 100000

open PySem.Builtin.Re
/-! the lambda's call -/
/-- a match of one sign at j -/
abbrev matchO (xs : Value) (pat : Value) (a b c : Value) (T : Addr) : Obj := { cls := .type "re.Match", data := .fields #[xs, pat, a, b, c, .ref T] }
abbrev spansO (j : Nat) : Obj := tupO #[rawInt j, rawInt (j + 1 : Nat), rawInt j, rawInt (j + 1 : Nat)]

theorem gnum (fs : Array Value) (a b c d : Int) (u : Tok) : reGroupNumber ⟨fs, #[a, b, c, d]⟩ (.int 1 u) = pure 1 := rfl
theorem gtext (x : List Nat) (t : Tok) (p1 p2 p3 p4 p5 : Value) (a b : Int) (j : Nat) : reGroupText ⟨#[.str ⟨x.toArray⟩ t, p1, p2, p3, p4, p5], #[a, b, (j : Nat), (j + 1 : Nat)]⟩ 1 .none = mkStr ⟨x.toArray.extract j (j + 1)⟩ := by
  show (if (decide (((j : Nat) : Int) < 0) || decide (((j + 1 : Nat) : Int) < 0)) = true then pure Value.none else _) = _
  rw [if_neg (by simp; omega)]
  rfl
section
variable {prog : Program} {w : World} {A : Around} {E : Value → Shared → Prop} {s : Shared}
theorem group_entry {F T : Addr} {x : List Nat} {j : Nat} {t u : Tok} {pat a b c : Value} {Q : Value → Shared → Prop} (hF : s.heap.get? F = some (matchO (.str ⟨x.toArray⟩ t) pat a b c T)) (hT : s.heap.get? T = some (spansO j)) (hj : j < x.length)
    (h : Q (.str ⟨#[x[j]]⟩ s.toks) { s with toks := s.toks + 1 }) :
    wpAny (model prog w) A (Builtin.«re.Match.group» ⟨[.ref F, .int 1 u], []⟩) (fun fin s' => ∃ v, fin = .done (.ret v) ∧ Q v s') E s := by
  unfold Builtin.«re.Match.group»
  refine wpAny_bind (wpAny_pure ?_)
  show wpAny _ _ (reFound (.ref F) >>= _) _ _ _
  refine wpAny_bind ?_
  unfold reFound
  refine wpAny_bind (wpAny_fieldsOf hF rfl ?_)
  refine wpAny_bind ?_
  show wpAny _ _ (reRawItems (.ref T)) _ _ _
  unfold reRawItems
  refine wpAny_bind (wpAny_seqItems hT rfl (wpAny_pure (wpAny_pure ?_)))
  have e : Array.map reRawOf ((some #[rawInt (j : Nat), rawInt (j + 1 : Nat), rawInt (j : Nat), rawInt (j + 1 : Nat)]).getD #[]) = #[((j : Nat) : Int), ((j + 1 : Nat) : Int), ((j : Nat) : Int), ((j + 1 : Nat) : Int)] := by
    simp [reRawOf, rawInt]
  rw [e]
  show wpAny _ _ (reGroupNumber ⟨#[.str ⟨x.toArray⟩ t, pat, a, b, c, .ref T], #[(j : Nat), (j + 1 : Nat), (j : Nat), (j + 1 : Nat)]⟩ (.int 1 u) >>= fun g => reGroupText ⟨#[.str ⟨x.toArray⟩ t, pat, a, b, c, .ref T], #[(j : Nat), (j + 1 : Nat), (j : Nat), (j + 1 : Nat)]⟩ g .none >>= fun v => ret v) _ _ _
  rw [gnum]
  refine wpAny_bind (wpAny_pure ?_)
  rw [gtext]
  refine wpAny_bind (wpAny_mkStr (wpAny_pure ⟨_, rfl, ?_⟩) ?_)
  · have : x.toArray.extract j (j + 1) = #[x[j]] := by
      apply Array.ext'
      rw [Array.toList_extract, List.extract_eq_take_drop]
      rw [List.drop_eq_getElem_cons hj]
      rw [Nat.add_sub_cancel_left]
      rfl
    rw [this]; exact h
  · simp [Str.length, sizeLine]; omega

/-- the body of the lambda -/
abbrev lamBody (bs grp mN e : Str) (p1 p2 p3 p4 p5 p6 p7 p8 : Pos) (k1 k2 k3 : Nat) : Expr :=
  .BinOp (.Constant (.str bs) k1 p1) .Add (.BoolOp .Or [.Call (.Attribute (.Name mN p2) grp p3) [.Constant (.int 1) k2 p4] [] p5, .Constant (.str e) k3 p6] p7) p8
theorem lam_body {env : Env} {mN e : Str} {p1 p2 p3 p4 p5 p6 p7 p8 : Pos} {k1 k2 k3 : Nat} {F T : Addr} {x : List Nat} {j : Nat} {t : Tok} {pat a b c : Value} {m : Str → Option Value} {Q : Value → Shared → Prop}
    (hk : env.scope.kind = .function) (hm : env.kindOf mN = some .local) (hns : s.heap.Ns env.locals m) (hmv : m mN = some (.ref F)) (hd : (mN == ("__debug__" : Str)) = false) (hline : (p3.endLine == p5.line) = true)
    (hF : s.heap.get? F = some (matchO (.str ⟨x.toArray⟩ t) pat a b c T)) (hT : s.heap.get? T = some (spansO j)) (hj : j < x.length)
    (h : ∀ tk k, Q (.str ⟨#[92, x[j]]⟩ tk) { s with toks := k }) :
    wpAny (model prog w) A (eval (lamBody (Str.ofString "\\") (Str.ofString "group") mN e p1 p2 p3 p4 p5 p6 p7 p8 k1 k2 k3) env) Q E s := by
  rw [arm_eval_BinOp]
  refine wpAny_bind (Calls.Constant_str ?_)
  refine wpAny_bind (wpAny_holding ?_)
  rw [show eval (.BoolOp .Or [.Call (.Attribute (.Name mN p2) (Str.ofString "group") p3) [.Constant (.int 1) k2 p4] [] p5, .Constant (.str e) k3 p6] p7) env =
    (do
      let v ← eval (.Call (.Attribute (.Name mN p2) (Str.ofString "group") p3) [.Constant (.int 1) k2 p4] [] p5) env
      standAt p7
      let t ← holding [v] (truthy v)
      match BoolOp.Or, t with
      | .And, false | .Or, true => pure v
      | _, _ => boolOp p7 .Or (evalEach [.Constant (.str e) k3 p6] env)) from rfl]
  refine wpAny_bind ?_
  refine wpAny_Call_method rfl rfl hline pa_match slot_group type_group ?_
  refine wpAny_Name ?_ hd
  unfold loadName
  simp only [Env.blockKind, hk, hm, ScopeKind.isAnnotationScope, Bool.false_and, Bool.false_eq_true, if_false]
  refine wpAny_bind (wpAny_nsGet (s := { s with toks := s.toks + 1 }) hns ?_)
  rw [hmv]
  refine wpAny_pure ?_
  have hTy : ({ s with toks := s.toks + 1 } : Shared).TypeIs (.ref F) "re.Match" := ⟨_, hF, rfl⟩
  refine ⟨hTy, fun a e => by cases e; exact ⟨_, hF, rfl⟩, ?_⟩
  refine Calls.callWith_builtin rfl (Calls.evalArgs_plain (Calls.spliced_cons (wpAny_mkInt (Calls.spliced_nil ?_))))
  refine wpAny_call_entry slot_group ⟨_, hF, rfl⟩ entry_group ?_ (args_group _ _)
  refine group_entry (s := { s with toks := s.toks + 1 + 1 }) hF hT hj ?_
  refine wpAny_bind (wpAny_standAt (wpAny_bind (wpAny_holding (PySem.P.truthy_str (by simp [Str.length]) ?_))))
  refine wpAny_pure ?_
  refine wpAny_bind (wpAny_standAt (wpAny_operating ?_))
  refine PyProof.Rows.add_str (fun t' tk => ?_) (by
    rw [show (Str.ofString "\\").length = 1 from rfl]
    simp [Str.length, sizeLine])
  exact h t' tk
end

end

section
open PySem PySem.W PyProof.Rows
open Sem (wp)
set_option linter.unusedVariables false
set_option linter.unusedSimpArgs false
set_option maxRecDepth 100000

open PySem.Builtin.Re
section
variable {prog : Program} {w : World} {A : Around} {E : Value → Shared → Prop} {s : Shared}

/-- what is asked of the lambda's text -/
structure LamOk (params : Arguments) (scope : Scope) (mN : Str) : Prop where
  bind : ∀ (name qual : Str) (body : Expr) (pm cdv ct v : Value), bindArgs (kla_fn name qual params body scope [] pm cdv ct) ⟨[v], []⟩ = pure [(mN, v)]
  kind : scope.kind = .function
  co : scope.isCoroutine = false
  gen : scope.isGenerator = false
  cell : ∀ x ∈ scope.names, x.2 ≠ .cell
  loc : scope.names.lookup mN = some .local
  dbg : (mN == ("__debug__" : Str)) = false

/-- the function object that the lambda makes, as the machine has it -/
def IsLam (h : Heap) (f : Addr) (params : Arguments) (scope : Scope) (body : Expr) : Prop :=
  ∃ name qual pm c ct, h.get? f = some (kla_obj name qual params body scope [] pm c ct) ∧ h.CodeRec (.ref c) qual

theorem lam_call {f F T : Addr} {params : Arguments} {scope : Scope} {mN e : Str} {p1 p2 p3 p4 p5 p6 p7 p8 : Pos} {k1 k2 k3 : Nat} {x : List Nat} {j : Nat} {t : Tok} {pat a b c : Value} {Q : Value → Shared → Prop}
    (L : LamOk params scope mN) (hf : IsLam s.heap f params scope (lamBody (Str.ofString "\\") (Str.ofString "group") mN e p1 p2 p3 p4 p5 p6 p7 p8 k1 k2 k3)) (hline : (p3.endLine == p5.line) = true)
    (hroom : A.depth < recursionLimit) (hno : s.heap.NoLimit)
    (hF : s.heap.get? F = some (matchO (.str ⟨x.toArray⟩ t) pat a b c T)) (hT : s.heap.get? T = some (spansO j)) (hj : j < x.length)
    (h : ∀ tk k h', (∀ b o, s.heap.get? b = some o → h'.get? b = some o) → Q (.str ⟨#[92, x[j]]⟩ tk) { s with heap := h', toks := k }) :
    wpAny (model prog w) A (call (.ref f) [.ref F]) Q (fun _ _ => False) s := by
  obtain ⟨name, qual, pm, c', ct, ho, hcd⟩ := hf
  refine wpAny_call (kla_callFunE hroom ho rfl L.co L.gen rfl hcd ?_)
  rw [L.bind]
  refine wpAny_pure (wpAny_newFunctionEnv L.cell (fun y hy => ?_) (fun h₁ hns hsb => ⟨hno.fresh _ hsb, ?_⟩) L.kind)
  · simp at hy; rw [hy]; exact L.loc
  have hk₁ : ∀ b o, s.heap.get? b = some o → h₁.get? b = some o := fun b o e => hsb.extBut b o (Nat.ne_of_lt (Heap.lt_size e)) (Heap.get?_push_of_some _ e)
  refine kla_codeExpr ?_
  generalize hen : newEnv (kla_fn name qual params (lamBody (Str.ofString "\\") (Str.ofString "group") mN e p1 p2 p3 p4 p5 p6 p7 p8 k1 k2 k3) scope [] pm (.ref c') ct).scope s.heap.objs.size _ _ _ _ _ _ _ = env
  have e1 : env.scope = scope := by rw [← hen]; rfl
  have e2 : env.locals = s.heap.objs.size := by rw [← hen]; rfl
  clear hen
  refine wpAny_mono (lam_body (E := fun _ _ => False) (m := fun y => List.lookup y [(mN, Value.ref F)].reverse) (F := F) (T := T) (Q := fun v s' => ∃ tk k h', v = .str ⟨#[92, x[j]]⟩ tk ∧ (∀ b o, s.heap.get? b = some o → h'.get? b = some o) ∧ s' = { s with heap := h', toks := k }) (by rw [e1]; exact L.kind) (by rw [Env.kindOf, e1]; exact L.loc) (by rw [e2]; exact hns) ?_ L.dbg hline (hk₁ _ _ hF) (hk₁ _ _ hT) hj ?_) (fun v s1 hv => ?_) fun _ _ e => False.elim e
  · simp [List.lookup_cons]
  · intro tk k
    exact ⟨tk, k, _, rfl, hk₁, rfl⟩
  · obtain ⟨tk, k, h', rfl, hb, rfl⟩ := hv
    exact h tk k h' hb
end

end

section
open PySem PySem.W PyProof.Rows
open Sem (wp)
set_option linter.unusedVariables false
set_option linter.unusedSimpArgs false
set_option maxRecDepth 100000

open PySem.Builtin.Re
def twS (x : List Nat) : List Nat := x.flatMap fun c => if isTw c then [92, c] else [c]
theorem twS_app (x y : List Nat) : twS (x ++ y) = twS x ++ twS y := List.flatMap_append
theorem twS_free : ∀ {x : List Nat}, (∀ c ∈ x, isTw c = false) → twS x = x
  | [], _ => rfl
  | c :: x, h => by
      show (if isTw c = true then [92, c] else [c]) ++ twS x = _
      rw [h c (List.mem_cons_self ..), twS_free fun d hd => h d (List.mem_cons_of_mem _ hd)]
      rfl
theorem twS_len : ∀ (x : List Nat), (twS x).length ≤ 2 * x.length
  | [] => Nat.le_refl _
  | c :: x => by
      show ((if isTw c = true then [92, c] else [c]) ++ twS x).length ≤ _
      have := twS_len x
      rw [List.length_append, List.length_cons]
      split <;> simp <;> omega
theorem nextTw_none {x : List Nat} {i : Nat} (h : nextTw x i = none) : ∀ c ∈ x.drop i, isTw c = false := by
  unfold nextTw at h
  rw [Option.map_eq_none_iff, List.findIdx?_eq_none_iff] at h
  intro c hc; simpa using h c hc
theorem twS_step {x : List Nat} {i j : Nat} (h : nextTw x i = some j) (hj : j < x.length) : twS (x.take (j + 1)) = twS (x.take i) ++ (x.drop i).take (j - i) ++ [92, x[j]] := by
  obtain ⟨hij, hj', ht, hf⟩ := nextTw_some h
  have e1 : x.take (j + 1) = x.take i ++ ((x.drop i).take (j - i) ++ [x[j]]) := by
    rw [List.take_succ_eq_append_getElem hj]
    rw [← List.append_assoc]
    congr 1
    have : x.take j = x.take (i + (j - i)) := by congr 1; omega
    rw [this, List.take_add]
  have e2 : twS [x[j]] = [92, x[j]] := by
    show (if isTw x[j] = true then [92, x[j]] else [x[j]]) ++ [] = _
    rw [ht]; rfl
  rw [e1, twS_app, twS_app, e2, List.append_assoc]
  congr 2
  refine twS_free fun c hc => ?_
  obtain ⟨k, hk, rfl⟩ := List.mem_iff_getElem.mp hc
  simp only [List.length_take, List.length_drop] at hk
  simp only [List.getElem_take, List.getElem_drop]
  exact hf _ (by omega) (by omega)
theorem twS_end {x : List Nat} {i : Nat} (h : nextTw x i = none) : twS x = twS (x.take i) ++ x.drop i := by
  conv => lhs; rw [← List.take_append_drop i x]
  rw [twS_app, twS_free (nextTw_none h)]

/-- the pattern object -/
structure PatOk (h : Heap) (p : Addr) : Prop where
  obj : ∃ a b c d e f g q ws k, h.get? p = some { cls := .type "re.Pattern", data := .fields #[.str a b, .int c d, .int 1 e, f, g, .ref q, .int 0 k] } ∧ h.get? q = some (tupO ws) ∧ (ws.map reRawOf).map (·.toNat) = CODE
theorem PatOk.keeps {h h' : Heap} {p : Addr} (x : PatOk h p) (k : ∀ b o, h.get? b = some o → h'.get? b = some o) : PatOk h' p :=
  let ⟨a, b, c, d, e, f, g, q, ws, kk, h1, h2, h3⟩ := x.obj; ⟨a, b, c, d, e, f, g, q, ws, kk, k _ _ h1, k _ _ h2, h3⟩

section
variable {prog : Program} {w : World} {A : Around} {E : Value → Shared → Prop} {s : Shared}
theorem whole_target {p : Addr} {x : List Nat} {t : Tok} {Q : ReTarget → Shared → Prop} (hp : PatOk s.heap p)
    (h : Q { pattern := .ref p, string := .str ⟨x.toArray⟩ t, code := CODE, text := x.toArray, kind := 0, groups := 1, pos := 0, lim := x.length } s) :
    wpAny (model prog w) A (reWholeTarget (.ref p) (.str ⟨x.toArray⟩ t)) Q E s := by
  obtain ⟨a, b, c, d, e, f, g, q, ws, k, h1, h2, h3⟩ := hp.obj
  unfold reWholeTarget
  refine wpAny_bind (wpAny_fieldsOf h1 rfl ?_)
  have e1 : reTextOf (.str ⟨x.toArray⟩ t) = pure (x.toArray, 0) := rfl
  rw [e1]
  refine wpAny_bind (wpAny_pure ?_)
  refine wpAny_bind (m := reNoCollectionInside _ _) (wpAny_of_eq (a := ()) rfl ?_)
  refine wpAny_bind ?_
  show wpAny _ _ (reRawItems (.ref q)) _ _ _
  unfold reRawItems
  refine wpAny_bind (wpAny_seqItems h2 rfl (wpAny_pure (wpAny_pure ?_)))
  have e2 : ((some ws).getD #[] |>.map reRawOf).map (·.toNat) = CODE := h3
  show Q _ s
  rw [e2]
  have e3 : x.toArray.size = x.length := by simp
  rw [e3]
  exact h

theorem new_match {p : Value} {str : Value} {j n : Nat} {m : Sre.M} {Q : Value → Shared → Prop} (hm : Fnd m j)
    (h : ∀ a b c, Q (.ref (s.heap.objs.size + 1)) { s with heap := (s.heap.push (spansO j)).push (matchO str p a b c s.heap.objs.size) }) :
    wpAny (model prog w) A (reNewMatch p str 1 0 n m) Q E s := by
  unfold reNewMatch
  simp only [hm.lastmark, hm.marks, hm.start, hm.handed]
  rw [if_neg (by
    show ¬ ((decide (((2 * 0 + 1 : Nat) : Int) ≤ 1) && decide (j + 1 < j)) || false) = true
    simp)]
  show wpAny _ _ (newTuple [rawInt j, rawInt (j + 1 : Nat), rawInt j, rawInt (j + 1 : Nat)] >>= _) _ _ _
  refine wpAny_bind (wpAny_newTuple ?_ ?_)
  rotate_left
  · show 4 ≤ sizeLine
    simp [sizeLine]
  unfold newFields
  refine wpAny_newObj_type ?_ (by size_fits)
  have := h (rawInt 0) (rawInt n) (rawInt m.lastindex)
  have e3 : ({ s with heap := s.heap.push (spansO j) } : Shared).heap.objs.size = s.heap.objs.size + 1 := Heap.size_push ..
  rw [← e3] at this
  exact this
end

end

section
open PySem PySem.W PyProof.Rows
open Sem (wp)
set_option linter.unusedVariables false
set_option linter.unusedSimpArgs false
set_option maxRecDepth 100000

open PySem.Builtin.Re
/-- values that are these texts -/
def StrsL : List (List Nat) → List Value → Prop
  | [], vs => vs = []
  | p :: ps, vs => ∃ t r, vs = .str ⟨p.toArray⟩ t :: r ∧ StrsL ps r
theorem StrsL.app : ∀ {ps qs : List (List Nat)} {vs ws : List Value}, StrsL ps vs → StrsL qs ws → StrsL (ps ++ qs) (vs ++ ws)
  | [], _, _, _, e, f => by simp only [StrsL] at e; subst e; exact f
  | _ :: _, _, _, _, ⟨t, r, rfl, h⟩, f => ⟨t, _, rfl, StrsL.app h f⟩
theorem StrsL.one (p : List Nat) (t : Tok) : StrsL [p] [.str ⟨p.toArray⟩ t] := ⟨t, [], rfl, rfl⟩
theorem StrsL.len : ∀ {ps : List (List Nat)} {vs : List Value}, StrsL ps vs → vs.length = ps.length
  | [], _, e => by simp only [StrsL] at e; subst e; rfl
  | _ :: _, _, ⟨_, _, rfl, h⟩ => by simp [h.len]
theorem StrsL.rep (h : Heap) : ∀ {ps : List (List Nat)} {vs : List Value}, StrsL ps vs → RepL [] h (ps.map .str) vs
  | [], _, e => by simp only [StrsL] at e; subst e; rfl
  | p :: _, _, ⟨t, r, rfl, k⟩ => ⟨_, r, rfl, by simp only [Rep]; exact ⟨t, rfl⟩, k.rep h⟩
theorem strsOf_map : ∀ (ps : List (List Nat)), strsOf (ps.map .str) = some ps
  | [] => rfl
  | p :: ps => by simp only [List.map_cons, strsOf, strsOf_map ps]; rfl
theorem joinL_nil : ∀ (ps : List (List Nat)), joinL [] ps = ps.flatten
  | [] => rfl
  | [p] => by simp [joinL]
  | p :: q :: r => by
      have := joinL_nil (q :: r)
      simp only [joinL, List.append_nil] at this ⊢
      rw [this]; rfl

section
variable {prog : Program} {w : World} {A : Around} {E : Value → Shared → Prop} {s : Shared}

structure SubSt (s0 : Shared) (D : Addr) (ps : List (List Nat)) (s : Shared) : Prop where
  keep : ∀ b o, s0.heap.get? b = some o → s.heap.get? b = some o
  list : ∃ ws n, s.heap.get? D = some (lstO ws n) ∧ StrsL ps ws.toList
  os : s.os = s0.os
  gens : s.gens = s0.gens

theorem SubSt.push {s0 : Shared} {D : Addr} {ps : List (List Nat)} {p : List Nat} {t : Tok} {Q : Unit → Shared → Prop} (S : SubSt s0 D ps s) (hD : s0.heap.get? D = none) (hn : ps.length ≤ 4000000)
    (h : ∀ s', SubSt s0 D (ps ++ [p]) s' → (∀ b o, b ≠ D → s.heap.get? b = some o → s'.heap.get? b = some o) → Q () s') : wpAny (model prog w) A (updateSeq D (·.push (.str ⟨p.toArray⟩ t))) Q E s := by
  obtain ⟨ws, n, e, r⟩ := S.list
  have hl : ws.size = ps.length := by simpa using r.len
  refine wpAny_updateSeq e rfl (h _ ?_ ?_) ?_ ?_
  · refine ⟨fun b o eb => ?_, ⟨ws.push (.str ⟨p.toArray⟩ t), _, IsL.update (n := n) e _, ?_⟩, S.os, S.gens⟩
    · have : D ≠ b := by rintro rfl; rw [hD] at eb; cases eb
      show (s.heap.update D _).get? b = _
      rw [Heap.get?_update_other _ _ this]; exact S.keep b o eb
    · simpa using r.app (StrsL.one p t)
  · intro b o hb eb
    show (s.heap.update D _).get? b = _
    rw [Heap.get?_update_other _ _ (Ne.symm hb)]; exact eb
  · simp [sizeLine]; omega
  · simp [sizeLine]; omega
theorem SubSt.ext {s0 s' : Shared} {D : Addr} {ps : List (List Nat)} (S : SubSt s0 D ps s) (k : ∀ b o, s.heap.get? b = some o → s'.heap.get? b = some o) (h1 : s'.os = s.os) (h2 : s'.gens = s.gens) : SubSt s0 D ps s' := by
  obtain ⟨ws, n, e, r⟩ := S.list
  exact ⟨fun b o eb => k _ _ (S.keep b o eb), ⟨ws, n, k _ _ e, r⟩, h1.trans S.os, h2.trans S.gens⟩

theorem slice_wp {x : List Nat} {i j : Nat} {Q : Value → Shared → Prop} (hx : x.length ≤ 100000) (h : ∀ t k, Q (.str ⟨((x.drop i).take (j - i)).toArray⟩ t) { s with toks := k }) : wpAny (model prog w) A (reSlice x.toArray 0 i j) Q E s := by
  unfold reSlice
  rw [if_pos (by rfl)]
  have : x.toArray.extract i j = ((x.drop i).take (j - i)).toArray := by
    apply Array.ext'
    rw [Array.toList_extract, List.extract_eq_take_drop]
  rw [this]
  refine wpAny_mkStr (h _ _) ?_
  simp [Str.length, sizeLine]; omega

def subRest (p D f : Addr) (x : List Nat) (t : Tok) (n : Int) (m : Sre.M) : Sem Fin := do
  let found ← reNewMatch (.ref p) (.str ⟨x.toArray⟩ t) 1 0 x.length m
  let item ← holding [found] (if ((1 : Int) == 1) = true then call (.ref f) [found] else do reExpand (.ref f) (← reFound found))
  if (item != Value.none) = true then do
    updateSeq D fun y => y.push item
    again (.builtin "re.Pattern.sub.loop" ⟨[.ref p, .str ⟨x.toArray⟩ t, .ref f, rawInt 1, rawInt 0, rawInt (n + 1), rawInt m.handed, rawInt m.handed, .bool (m.handed == m.start), .ref D, .bool false], []⟩)
  else again (.builtin "re.Pattern.sub.loop" ⟨[.ref p, .str ⟨x.toArray⟩ t, .ref f, rawInt 1, rawInt 0, rawInt (n + 1), rawInt m.handed, rawInt m.handed, .bool (m.handed == m.start), .ref D, .bool false], []⟩)
def subEnd (D : Addr) (x : List Nat) (n : Int) : Sem Fin := do
  let joiner ← reSlice x.toArray 0 0 0
  let xs ← seqItems? (.ref D)
  let text ← if (xs.getD #[]).isEmpty = true then pure joiner else call (.builtin (if ((0 : Nat) == 0) = true then "str.join" else "bytes.join")) [joiner, .ref D]
  if false = true then do let r ← holding [text] (do newTuple [text, ← mkInt n]); ret r
  else ret text

theorem sub_end {s0 : Shared} {D : Addr} {x : List Nat} {n : Int} {ps : List (List Nat)} {R : Fin → Shared → Prop} (hx : x.length ≤ 100000) (S : SubSt s0 D ps s) (hps : ps.flatten = twS x)
    (hR : ∀ s' tk, (∀ b o, s0.heap.get? b = some o → s'.heap.get? b = some o) → s'.os = s0.os → s'.gens = s0.gens → R (.done (.ret (.str ⟨(twS x).toArray⟩ tk))) s') :
    wpAny (model prog w) A (subEnd D x n) R E s := by
  unfold subEnd
  refine wpAny_bind (slice_wp (i := 0) (j := 0) hx fun tj kj => ?_)
  have S1 : SubSt s0 D ps { s with toks := kj } := S.ext (fun _ _ e => e) rfl rfl
  obtain ⟨ws, k, e, r⟩ := S1.list
  refine wpAny_bind (wpAny_seqItems e rfl ?_)
  show wpAny _ _ (if ws.isEmpty = true then (do let text ← pure (Value.str ⟨((x.drop 0).take (0 - 0)).toArray⟩ tj); ret text) else (do let text ← call (.builtin "str.join") [.str ⟨((x.drop 0).take (0 - 0)).toArray⟩ tj, .ref D]; ret text)) _ _ _
  split
  · rename_i hem
    have hws : ws.toList = [] := by simpa using hem
    rw [hws] at r
    have hps0 : ps = [] := List.length_eq_zero_iff.mp (by rw [← r.len]; rfl)
    refine wpAny_bind (wpAny_pure (wpAny_pure ?_))
    have hz : twS x = [] := by rw [← hps, hps0]; rfl
    have := hR { s with toks := kj } tj S1.keep S1.os S1.gens
    rw [hz] at this
    simpa using this
  · have hj : joinL [] ps = twS x := by rw [joinL_nil, hps]
    refine wpAny_bind (call_join (sep := []) (ts := ps) (μ := []) e (r.rep _) (strsOf_map ps) ?_ (Nat.zero_le _) fun t' k' => ?_)
    · rw [hj]
      have := twS_len x
      unfold big; omega
    · refine wpAny_pure ?_
      have S2 : SubSt s0 D ps { s with toks := k' } := S.ext (fun _ _ e => e) rfl rfl
      have := hR { s with toks := k' } t' S2.keep S2.os S2.gens
      rw [hj]; exact this

theorem sub_loop {s0 : Shared} {D p f : Addr} {x : List Nat} {t : Tok} {params : Arguments} {scope : Scope} {mN e : Str} {p1 p2 p3 p4 p5 p6 p7 p8 : Pos} {k1' k2 k3 : Nat} {R : Result → Shared → Prop}
    (hroom : A.in1.depth < recursionLimit) (hx : x.length ≤ 100000) (hno : s0.heap.NoLimit) (hp : PatOk s0.heap p) (hD : s0.heap.get? D = none) (L : LamOk params scope mN)
    (hf : IsLam s0.heap f params scope (lamBody (Str.ofString "\\") (Str.ofString "group") mN e p1 p2 p3 p4 p5 p6 p7 p8 k1' k2 k3)) (hline : (p3.endLine == p5.line) = true)
    (hR : ∀ s' tk, (∀ b o, s0.heap.get? b = some o → s'.heap.get? b = some o) → s'.os = s0.os → s'.gens = s0.gens → R (.ok (.ret (.str ⟨(twS x).toArray⟩ tk))) s') :
    ∀ (k i : Nat) (n : Int) (ps : List (List Nat)) (s : Shared), x.length - i = k → i ≤ x.length → SubSt s0 D ps s → ps.flatten = twS (x.take i) → ps.length ≤ 2 * i →
      codeAny (model prog w) A (.builtin "re.Pattern.sub.loop" ⟨[.ref p, .str ⟨x.toArray⟩ t, .ref f, rawInt 1, rawInt 0, rawInt n, rawInt i, rawInt i, .bool false, .ref D, .bool false], []⟩) R s := by
  intro k
  induction k using Nat.strongRecOn with
  | ind k ih =>
  intro i n ps s hk hi S hps hlen
  refine codeAny_builtin entry_loop ?_
  have hA : A.under (.builtin "re.Pattern.sub.loop" ⟨[.ref p, .str ⟨x.toArray⟩ t, .ref f, rawInt 1, rawInt 0, rawInt n, rawInt i, rawInt i, .bool false, .ref D, .bool false], []⟩) = A.in1 := Around.under_plainId (by decide +kernel) _
  rw [hA]
  show wpAny (model prog w) A.in1 (reWholeTarget (.ref p) (.str ⟨x.toArray⟩ t) >>= _) _ _ s
  refine wpAny_bind (whole_target (hp.keeps S.keep) ?_)
  show wpAny (model prog w) A.in1 (if ((1 : Int) == 0) = true then _ else _) _ _ s
  rw [if_neg (by decide)]
  show wpAny (model prog w) A.in1 ((if ((0 : Int) != 0 && decide (n ≥ 0)) = true then pure none else reNextFound _ i false) >>= _) _ _ s
  rw [if_neg (by simp)]
  refine wpAny_bind ?_
  cases hn : nextTw x i with
  | none =>
    refine next_none rfl rfl rfl rfl hn ?_
    have fin : ∀ (ps1 : List (List Nat)) (s1 : Shared), SubSt s0 D ps1 s1 → ps1.flatten = twS x → wpAny (model prog w) A.in1 (subEnd D x n) (fun fin s' => match fin with | .done f => R (.ok f) s' | .again c' => c'.quiet = true ∧ codeAny (model prog w) A c' R s') (fun e s' => R (.error e) s') s1 := fun ps1 s1 S1 h1 =>
      sub_end hx S1 h1 fun s' tk a b c => hR s' tk a b c
    show wpAny _ _ (if (i : Int).toNat < x.length then (do let v ← reSlice x.toArray 0 (i : Int).toNat x.length; updateSeq D fun y => y.push v; subEnd D x n) else subEnd D x n) _ _ _
    by_cases hlt : i < x.length
    · rw [if_pos (by simpa using hlt)]
      refine wpAny_bind (slice_wp hx fun tv kv => ?_)
      have S1 : SubSt s0 D ps { s with toks := kv } := S.ext (fun _ _ e => e) rfl rfl
      refine wpAny_bind (S1.push hD (by omega) fun s2 S2 _ => fin _ s2 S2 ?_)
      rw [List.flatten_append, hps, twS_end hn]
      simp only [Int.toNat_natCast, List.flatten_cons, List.flatten_nil, List.append_nil]
      congr 1
      exact List.take_of_length_le (by simp)
    · rw [if_neg (by simpa using hlt)]
      refine fin ps s S ?_
      rw [hps, twS_end hn, List.drop_eq_nil_of_le (by omega), List.append_nil]
  | some j =>
    refine next_some rfl rfl rfl rfl hn fun m hm => ?_
    obtain ⟨hij, hj, htw, _⟩ := nextTw_some hn
    have step : ∀ (ps1 : List (List Nat)) (s1 : Shared), SubSt s0 D ps1 s1 → ps1.flatten = twS (x.take i) ++ (x.drop i).take (j - i) → ps1.length ≤ 2 * i + 1 →
        wpAny (model prog w) A.in1 (subRest p D f x t n m) (fun fin s' => match fin with | .done f => R (.ok f) s' | .again c' => c'.quiet = true ∧ codeAny (model prog w) A c' R s') (fun e s' => R (.error e) s') s1 := by
      intro ps1 s1 S1 h1 h2
      unfold subRest
      refine wpAny_bind (new_match hm fun a b c => ?_)
      have eF : ((s1.heap.push (spansO j)).push (matchO (.str ⟨x.toArray⟩ t) (.ref p) a b c s1.heap.objs.size)).get? (s1.heap.objs.size + 1) = some (matchO (.str ⟨x.toArray⟩ t) (.ref p) a b c s1.heap.objs.size) := by
        have := Heap.get?_push_size (s1.heap.push (spansO j)) (o := matchO (.str ⟨x.toArray⟩ t) (.ref p) a b c s1.heap.objs.size) rfl
        rw [Heap.size_push] at this; exact this
      have eT : ((s1.heap.push (spansO j)).push (matchO (.str ⟨x.toArray⟩ t) (.ref p) a b c s1.heap.objs.size)).get? s1.heap.objs.size = some (spansO j) := Heap.get?_push_of_some _ (Heap.get?_push_size _ rfl)
      have k1 : ∀ b' o, s1.heap.get? b' = some o → ((s1.heap.push (spansO j)).push (matchO (.str ⟨x.toArray⟩ t) (.ref p) a b c s1.heap.objs.size)).get? b' = some o := fun _ _ e => Heap.get?_push_of_some _ (Heap.get?_push_of_some _ e)
      have S2 : SubSt s0 D ps1 { s1 with heap := (s1.heap.push (spansO j)).push (matchO (.str ⟨x.toArray⟩ t) (.ref p) a b c s1.heap.objs.size) } := S1.ext k1 rfl rfl
      refine wpAny_bind (wpAny_holding ?_)
      rw [if_pos (by decide)]
      have hf2 : IsLam ((s1.heap.push (spansO j)).push (matchO (.str ⟨x.toArray⟩ t) (.ref p) a b c s1.heap.objs.size)) f params scope (lamBody (Str.ofString "\\") (Str.ofString "group") mN e p1 p2 p3 p4 p5 p6 p7 p8 k1' k2 k3) := by
        obtain ⟨nm, q, pm, cc, ct, h1, h2⟩ := hf
        exact ⟨nm, q, pm, cc, ct, S2.keep _ _ h1, h2.keeps S2.keep⟩
      refine wpAny_mono (lam_call (Q := fun v s' => ∃ tk k h', v = .str ⟨#[92, x[j]]⟩ tk ∧ (∀ b' o, ((s1.heap.push (spansO j)).push (matchO (.str ⟨x.toArray⟩ t) (.ref p) a b c s1.heap.objs.size)).get? b' = some o → h'.get? b' = some o) ∧ s' = { s1 with heap := h', toks := k })
        (A := A.in1) L hf2 hline hroom (hno.keeps S2.keep) eF eT hj (fun tk k h' hk => ⟨tk, k, h', rfl, hk, rfl⟩)) (fun v s3 hv => ?_) fun _ _ q => q.elim
      obtain ⟨tk, k3', h', rfl, hk3, rfl⟩ := hv
      have S3 : SubSt s0 D ps1 { s1 with heap := h', toks := k3' } := S2.ext hk3 rfl rfl
      rw [if_pos (by rfl)]
      refine wpAny_bind (S3.push (p := [92, x[j]]) hD (by omega) fun s4 S4 _ => ?_)
      refine wpAny_pure ⟨Code.quiet_builtin _ (by decide +kernel), ?_⟩
      rw [hm.handed, hm.start]
      have hb : (j + 1 == j) = false := by simp
      rw [hb]
      refine ih (x.length - (j + 1)) (by omega) (j + 1) (n + 1) _ s4 rfl (by omega) S4 ?_ ?_
      · rw [List.flatten_append, h1, twS_step hn hj]; simp
      · simp; omega
    show wpAny _ _ (if (i : Int).toNat < m.start then (do let v ← reSlice x.toArray 0 (i : Int).toNat m.start; updateSeq D fun y => y.push v; subRest p D f x t n m) else subRest p D f x t n m) _ _ _
    rw [hm.start]
    by_cases hlt : i < j
    · rw [if_pos (by simpa using hlt)]
      refine wpAny_bind (slice_wp hx fun tv kv => ?_)
      have S1 : SubSt s0 D ps { s with toks := kv } := S.ext (fun _ _ e => e) rfl rfl
      refine wpAny_bind (S1.push hD (by omega) fun s2 S2 _ => step _ s2 S2 ?_ ?_)
      · rw [List.flatten_append, hps]; simp
      · simp; omega
    · rw [if_neg (by simpa using hlt)]
      refine step ps s S ?_ (by omega)
      have : j - i = 0 := by omega
      rw [hps, this]; simp
end

end

section
open PySem PySem.W PyProof.Rows
open Sem (wp)
set_option linter.unusedVariables false
set_option linter.unusedSimpArgs false
set_option maxRecDepth 100000

open PySem.Builtin.Re
theorem named_sub (a b : Value) : reNamed "re.Pattern.sub" "sub" ["repl", "string", "count"] 2 [a, b] [] = pure [some a, some b, none] := by rfl
theorem lk_call : typeLookup (.type "function") "__call__" = pure (some (.builtin "function.__call__")) := by rw [typeLookup_type, builtinLookup_eq_fast]; kernel_rfl
theorem inst_str : isSubtype (.type "str") (.type "bytearray") = pure false := by rw [isSubtype_type]; kernel_rfl

variable {G : GI} {n : Nat} {A : Around} {μ μ' : List Addr} {hp hp' : Hp} {s s' : Shared} {Q : PV → Hp → Prop} {env : Env} {l : Loc} {K : Cfg}

/-- what is asked of the program's first part -/
structure ProgOk (G : GI) : Prop where
  hd : CodeHd G.h0 G.C G.P
  nl : G.h0.NoLimit
  gP : mainGlobals ≠ G.P
  gone : G.h0.get? G.P = none
  bat : G.h0.BuiltinsAt G.mg G.P
  twin : ∃ p, G.mg (Str.ofString "_twin_re_1") = some (.ref p) ∧ PatOk G.h0 p
  map : MapTab G

theorem HR.newCode {h' : Heap} {ps : Array Value} {c' : Addr} {tk : Nat} {line col : Nat} (H : HR G μ hp s) (po : ProgOk G) (base : G.h0.objs.size ≤ s.heap.objs.size) (hP : s.heap.get? G.P = some (tabObj ps)) (ht : TriplesOk ps.toList)
    (hc : ∀ pos c, codeAmong pos ps.toList = some c → ∃ a o, c = .ref a ∧ s.heap.get? a = some o ∧ G.h0.objs.size ≤ a ∧ ∃ vs q t, o.data = .fields vs ∧ (vs[1]? = some (.str q t) ∧ q = G.qn pos.line pos.col) ∧ o.cls = .type "code")
    (hx : Heap.ExtBut G.P s.heap h') (hge : s.heap.objs.size ≤ c') (hrec : h'.CodeRec (.ref c') (G.qn line col)) (htb : h'.get? G.P = some (tabObj (ps ++ #[rawInt line, rawInt col, .ref c'])))
    (hcls : ∃ o, h'.get? c' = some o ∧ o.cls = .type "code") (hk : 1 ≤ tk) :
    HR G μ hp { s with heap := h', toks := tk } ∧ Stp G noOwn μ s μ { s with heap := h', toks := tk } := by
  have nP : ∀ b o, s.heap.get? b = some o → o.cls ≠ .none → b ≠ G.P := by
    rintro b o e hc rfl
    rw [hP] at e; cases e; exact hc rfl
  have vk : VKeep μ s.heap h' := fun b o e hv _ => hx b o (by
    rintro rfl
    rw [hP] at e; cases e
    rcases hv with q | q <;> simp [tabObj] at q) e
  refine ⟨⟨fun b o e => hx b o (by rintro rfl; rw [po.gone] at e; cases e) (H.base b o e), ?_, H.os, H.gens, hk, H.nodup, H.len, H.low, fun i a m h1 h2 => ?_⟩, StpS.w ⟨fun b o e _ hne _ => hx b o hne e, Grow.refl _ _, fun b o e => ?_⟩⟩
  · refine ⟨_, htb, ?_, fun pos c hq => ?_⟩
    · rw [show (ps ++ #[rawInt line, rawInt col, Value.ref c']).toList = ps.toList ++ [rawInt line, rawInt col, .ref c'] by simp]
      exact TriplesOk_snoc _ _ _ _ ht
    · rw [show (ps ++ #[rawInt line, rawInt col, Value.ref c']).toList = ps.toList ++ [rawInt line, rawInt col, .ref c'] by simp] at hq
      have key : ∀ (L : List Value), TriplesOk L → codeAmong pos (L ++ [rawInt line, rawInt col, .ref c']) = some c → codeAmong pos L = some c ∨ ((line : Int) = pos.line ∧ (col : Int) = pos.col ∧ c = .ref c') := by
        intro L
        fun_induction TriplesOk L with
        | case1 =>
          intro _ h
          simp only [List.nil_append, codeAmong, rawInt] at h
          split at h
          · rename_i hh
            cases h
            simp at hh
            exact .inr ⟨by omega, by omega, rfl⟩
          · cases h
        | case2 a t b u x rest ih =>
          intro h1 h
          simp only [List.cons_append, codeAmong] at h ⊢
          split at h
          · cases h; rename_i hh; rw [if_pos hh]; exact .inl rfl
          · rename_i hh; rw [if_neg hh]; exact ih h1 h
        | case3 L h1 h2 => intro h; exact h.elim
      rcases key _ ht hq with h | ⟨h1, h2, rfl⟩
      · obtain ⟨a, o, q1, q2, q3, vs, q, t, q4, q5, q6⟩ := hc pos c h
        exact ⟨a, o, q1, hx _ _ (nP _ _ q2 (by rw [q6]; simp)) q2, q3, vs, q, t, q4, q5, q6⟩
      · obtain ⟨c2, o, vs, t, e1, e2, e3, e4⟩ := hrec
        cases e1
        obtain ⟨o2, e5, e6⟩ := hcls
        rw [e2] at e5; cases e5
        have hl : line = pos.line := by omega
        have hcl : col = pos.col := by omega
        exact ⟨c', o, rfl, e2, Nat.le_trans base hge, vs, _, t, e3, ⟨e4, by rw [hl, hcl]⟩, e6⟩
  · have := H.obj i a m h1 h2
    cases m with
    | list vs => obtain ⟨ws, k, e, r⟩ := this; exact ⟨ws, k, hx _ _ (nP _ _ e (by simp)) e, r.mono vk (Grow.refl _ _)⟩
    | obj => exact hx _ _ (nP _ _ this (by simp)) this
    | hid => obtain ⟨ws, e⟩ := this; exact ⟨ws, hx _ _ (nP _ _ e (by simp)) e⟩
  · by_cases q : b = G.P
    · subst q; exact ⟨_, htb⟩
    · exact ⟨o, hx b o q e⟩

end

section
open PySem PySem.W PyProof.Rows
open Sem (wp)
set_option linter.unusedVariables false
set_option linter.unusedSimpArgs false
set_option maxRecDepth 100000

variable {G : GI} {n : Nat} {A : Around} {μ μ' : List Addr} {hp hp' : Hp} {s s' : Shared} {Q : PV → Hp → Prop} {env : Env} {l : Loc} {K : Cfg}

theorem lam_make {params : Arguments} {scope : Scope} {body : Expr} {lp : Pos} {P : Value → Shared → Prop} (po : ProgOk G) (g : GOk G) (hcl : closureFor scope env = pure []) (hdef : defaultsOf params env = ([], []))
    (hqm : env.kindOf QM ≠ none) (hqn : G.qn lp.line lp.col = G.tq ++ Str.ofString "<lambda>") (H : HR G μ hp s) (X : EnvR G A env l μ s.heap)
    (h : ∀ f s', HR G μ hp s' → Stp G noOwn μ s μ s' → IsLam s'.heap f params scope body → P (.ref f) s') :
    wpAny G.M A (eval (.Lambda params body scope lp) env) P noE s := by
  obtain ⟨hcode, hqual⟩ := X.code hqm
  have base := X.base H
  obtain ⟨ps, hP, ht, hc⟩ := H.tab
  have hg : s.heap.Ns mainGlobals G.mg := H.ns g.gns
  have C : CodeHd s.heap G.C G.P := po.hd.keeps fun b o e => H.base b o e
  have hb : s.heap.BuiltinsAt G.mg G.P := by
    obtain ⟨bm, o, b1, b2, b3, b4, b5, b6⟩ := po.bat
    exact ⟨bm, o, b1, b2, b3, b4, H.base _ _ b5, b6⟩
  refine kla_eval hdef (wtk H.toks ?_)
  rw [hqual, show G.tq ++ "<lambda>" = G.qn lp.line lp.col from hqn.symm]
  cases hf : codeAmong lp ps.toList with
  | some cv =>
    obtain ⟨a, o, rfl, q2, q3, vs, q, t, q4, ⟨q5, rfl⟩, q6⟩ := hc lp cv hf
    refine kla_makeFunctionHit hcl X.glob hg hcode C hP ht hf hb fun ctv h' tk hk hsz => ?_
    intro htk
    refine h _ _ (H.ext (fun b o e => Heap.get?_push_of_some _ (hk b o e)) rfl rfl htk) (Stp.ext μ fun b o e => Heap.get?_push_of_some _ (hk b o e)) ?_
    exact ⟨_, _, _, _, _, Heap.get?_push_size _ rfl, ⟨a, o, vs, t, rfl, Heap.get?_push_of_some _ (hk _ _ q2), q4, q5⟩⟩
  | none =>
    rw [makeFunction_eq]
    simp only [List.zip_nil_right, List.filterMap_nil, List.isEmpty_nil, if_true, pure_bind]
    obtain ⟨bm, ob, hbm, hne0, _, hneP, hbo, hclsb, hdict, hdata⟩ := hb
    unfold makeTail
    rw [hcl, X.glob]
    refine wpAny_bind (wpAny_pure ?_)
    simp only [List.isEmpty_nil, if_true]
    refine wpAny_bind (wpAny_pure ?_)
    refine wpAny_bind (wpAny_functionCodeX hcode (C.code hP ht) (C.tab hP) hf fun c' h' tk hx hge hlt _ hrec htb hnew => ?_)
    have hg' := hg.extBut hx po.gP
    refine wpAny_bind (wpAny_builtinsFor hg' hbm hne0 (hx _ _ hneP hbo) hclsb hdict hdata ?_)
    refine wpAny_bind (wpAny_nsGet hg' ?_)
    refine wpAny_bind (wpAny_pure (wpAny_newObj_type ?_ (by size_fits)))
    intro htk
    obtain ⟨H1, st1⟩ := H.newCode po base hP ht hc hx hge hrec htb.2 (by
      obtain ⟨P', _, _, ⟨⟨o, vs, e1, e2, _⟩, _⟩⟩ := hnew
      exact ⟨o, e1, e2⟩) htk
    refine h _ _ (H1.push _) (st1.trans (Stp.push μ _ _)) ?_
    exact ⟨_, _, _, _, _, Heap.get?_push_size _ rfl, hrec.keeps fun b o e => Heap.get?_push_of_some _ e⟩

open PySem.Builtin.Re in
theorem op_sub {p f : Addr} {x : List Nat} {t : Tok} {params : Arguments} {scope : Scope} {mN e : Str} {p1 p2 p3 p4 p5 p6 p7 p8 : Pos} {k1' k2 k3 : Nat} (po : ProgOk G) (R : Room n A) (base : G.h0.objs.size ≤ s.heap.objs.size)
    (hx : x.length ≤ 100000) (hp : PatOk G.h0 p) (L : LamOk params scope mN)
    (hf : IsLam s.heap f params scope (lamBody (Str.ofString "\\") (Str.ofString "group") mN e p1 p2 p3 p4 p5 p6 p7 p8 k1' k2 k3)) (hline : (p3.endLine == p5.line) = true)
    (H : HR G μ hp' s) (q : Q (.str (twS x)) hp') :
    wpAny G.M A (call (.builtin "re.Pattern.sub") [.ref p, .ref f, .str ⟨x.toArray⟩ t]) (PE G μ s Q) noE s := by
  have hps : PatOk s.heap p := hp.keeps fun b o e => H.base b o e
  obtain ⟨pa, pb, pc, pd, pe, pf, pg, pq, pws, pk, hpo, _⟩ := hps.obj
  have hd := R.depth
  refine wtk H.toks (wpAny_call (codeAny_call_builtin (by decide +kernel) entry_sub (slot_sub.check _ _ _ _ _ _ _ _ ⟨_, hpo, rfl⟩ (args_sub _ _ _) ?_)))
  show wpAny G.M A.in1 (reNamed "re.Pattern.sub" "sub" ["repl", "string", "count"] 2 [.ref f, .str ⟨x.toArray⟩ t] [] >>= _) _ _ s
  rw [named_sub]
  refine wpAny_bind (wpAny_pure ?_)
  refine wpAny_bind (m := (pure 0 : Sem Int)) (wpAny_pure ?_)
  obtain ⟨nm, qu, pm, cc, ct, hfo, _⟩ := hf
  have hTy : s.TypeIs (.ref f) "function" := ⟨_, hfo, rfl⟩
  refine wpAny_bind (wpAny_specialOf (r := some (.builtin "function.__call__")) hTy lk_call ?_)
  show wpAny _ _ (if true = true then _ else _) _ _ _
  rw [if_pos rfl]
  refine wpAny_bind (wpAny_pure ?_)
  show wpAny _ _ (if true = true then _ else _) _ _ _
  rw [if_pos rfl]
  refine wpAny_bind (wpAny_pure ?_)
  refine wpAny_bind (wpAny_holding (whole_target hps ?_))
  show wpAny _ _ (if ((1 : Int) == 1) = true then _ else _) _ _ _
  rw [if_pos (by rfl)]
  refine wpAny_bind ?_
  unfold reNotHeld
  refine wpAny_bind (wpAny_isInstance (typeIs_str _ _ _) inst_str ?_)
  rw [if_neg (by decide)]
  refine wpAny_pure ?_
  refine wpAny_bind (wpAny_newList ?_ (by decide))
  refine wpAny_pure ⟨Code.quiet_builtin _ (by decide +kernel), ?_⟩
  have nl : s.heap.NoLimit := po.nl.keeps fun b o e => H.base b o e
  have none0 : s.heap.get? s.heap.objs.size = none := Heap.get?_size _
  refine sub_loop (s0 := s) (D := s.heap.objs.size) (p := p) (f := f) (x := x) (t := t) (by show A.depth < 1000; omega) hx nl hps none0 L ⟨nm, qu, pm, cc, ct, hfo, by assumption⟩ hline (fun s' tk k h1 h2 => ?_) x.length 0 0 [] _ rfl (Nat.zero_le _) ⟨fun b o e => Heap.get?_push_of_some _ e, ⟨#[], 0, Heap.get?_push_size _ rfl, rfl⟩, rfl, rfl⟩ rfl (Nat.le_refl _)
  intro htk
  refine ⟨_, _, _, q, ?_, H.ext k h1 h2 htk, Stp.ext μ k⟩
  simp only [Rep]; exact ⟨tk, rfl⟩

theorem name_here {x : Str} {p : Pos} {pv : PV} {P : Value → Shared → Prop} (X : EnvR G A env l μ s.heap) (e : l x = some pv) (h : ∀ v, Rep μ s.heap pv v → P v s) : wpAny G.M A (eval (.Name x p) env) P noE s := by
  obtain ⟨hk, hd, hcd⟩ := X.dom x pv e
  refine wpAny_Name ?_ hd
  rcases hk with hk | hk | hk
  · obtain ⟨m, hns, hm⟩ := X.ns
    obtain ⟨v, h1, h2⟩ := hm x pv hk e
    unfold loadName
    simp only [Env.blockKind, X.kind, hk, ScopeKind.isAnnotationScope, Bool.false_and, Bool.false_eq_true, if_false]
    refine wpAny_bind (wpAny_nsGet hns ?_)
    rw [h1]
    exact wpAny_pure (h v h2)
  · obtain ⟨c, ov, h1, h2, h3⟩ := X.cel x (.inl hk)
    obtain ⟨v, rfl, h4⟩ := h3 pv e
    exact wpAny_loadName_cell X.kind hk h1 h2 (h v h4)
  · obtain ⟨c, ov, h1, h2, h3⟩ := X.cel x (.inr hk)
    obtain ⟨v, rfl, h4⟩ := h3 pv e
    exact loadName_free X.kind hk h1 hcd h2 (h v h4)

theorem E_sub {sc : Scope} {params : Arguments} {scope : Scope} {mN e x : Str} {p1 p2 p3 p4 p5 p6 p7 p8 pa pb pc lp cp : Pos} {k1' k2 k3 : Nat} {v : List Nat} (g : GOk G) (po : ProgOk G) (hs : env.scope = sc)
    (okf : glbOk sc (Str.ofString "_twin_re_1") = true) (hqm : env.kindOf QM ≠ none) (hcl : closureFor scope env = pure []) (hdef : defaultsOf params env = ([], [])) (L : LamOk params scope mN)
    (hqn : G.qn lp.line lp.col = G.tq ++ Str.ofString "<lambda>") (hline : (p3.endLine == p5.line) = true) (hlineM : (pb.endLine == cp.line) = true)
    (hv : l x = some (.str v)) (hlen : v.length ≤ 100000) (q : Q (.str (twS v)) hp) :
    WE G n env l hp (eval (.Call (.Attribute (.Name (Str.ofString "_twin_re_1") pa) (Str.ofString "sub") pb)
      [.Lambda params (lamBody (Str.ofString "\\") (Str.ofString "group") mN e p1 p2 p3 p4 p5 p6 p7 p8 k1' k2 k3) scope lp, .Name x pc] [] cp) env) Q := fun A μ s R H X => by
  obtain ⟨p, hm, hpat⟩ := po.twin
  have hps : PatOk s.heap p := hpat.keeps fun b o e => H.base b o e
  obtain ⟨qa, qb, qc, qd, qe, qf, qg, qq, qws, qk, hpo, _⟩ := hps.obj
  refine wpAny_Call_method (base_eq rfl) rfl hlineM pa_pattern slot_sub type_sub ?_
  refine glb_fn g hs okf H X hm ?_
  refine ⟨⟨_, hpo, rfl⟩, fun a e => by cases e; exact ⟨_, hpo, rfl⟩, ?_⟩
  refine Calls.callWith_builtin rfl (Calls.evalArgs_plain (Calls.spliced_cons (lam_make po g hcl hdef hqm hqn H X fun f s1 H1 st1 hf => ?_)))
  have X1 := X.step H st1
  refine Calls.spliced_cons (name_here X1 hv fun y r => Calls.spliced_nil ?_)
  simp only [Rep] at r; obtain ⟨t, rfl⟩ := r
  exact PE.back st1 (op_sub po R (X1.base H1) hlen hpat L hf hline H1 q)

end

section
open PySem PySem.W PyProof.Rows
open Sem (wp)
set_option linter.unusedVariables false
set_option linter.unusedSimpArgs false
set_option maxRecDepth 100000

/-! a generator whose element asks for tokens: the name's own store has made one -/
section
variable {prog : Program} {w : World} {A : Around}
abbrev allP : Nat → Bool := fun _ => true

def QuietT (prog : Program) (w : World) (cenv : Env) (x : Str) (elt : Expr) (P : Nat → Value → Prop) (F : Nat → Value → Prop) : Prop :=
  ∀ (A' : Around) E' i v (s₂ : Shared) m₂, A'.handled = none → P i v → 1 ≤ s₂.toks → s₂.heap.Ns cenv.locals m₂ → m₂ x = some v → wpAny (model prog w) A' (eval elt cenv) (fun y s₃ => F i y ∧ Keeps s₂ s₃) E' s₂

theorem seg_loopT {elt iter : Expr} {x : Str} {px : Pos} {scope : Scope} {pos : Pos} {I : Addr} {fp wr : List Addr} {n₀ : Nat} {P : Nat → Value → Prop} {St₀ : Nat → Heap → Prop} {cenv : Env}
    (hh : A.handled = none) (W₀ : ∀ A' : Around, A'.handled = none → Walks prog w A' I fp wr n₀ P St₀) (F : Nat → Value → Prop)
    (hx : cenv.kindOf x = some .local) (hp : (cenv.scope.kind == .class || (cenv.scope.kind == .module && cenv.locals != cenv.globals)) = false)
    (hco : cenv.scope.isCoroutine = false) (hCf : cenv.locals ∉ fp) (hq : QuietT prog w cenv x elt P F) :
    ∀ (k i : Nat) (s₀ s : Shared) (m : Str → Option Value), n₀ - i = k → i ≤ n₀ → St₀ i s.heap → s.heap.Ns cenv.locals m → GenSince cenv.locals wr s₀ s →
      Seg (model prog w) A (fun n s₀ r s₁ => r = .ok .next ∧ (n = 0 ∧ GenSince cenv.locals wr s₀ s₁)) (genProto cenv.locals fp wr allP n₀ F) (passing allP n₀ i).length s₀
        (.compLoop (.GeneratorExp elt [⟨.Name x px, iter, [], 0⟩] scope pos) 0 (.ref I) .none cenv)
        ((model prog w).den (.compLoop (.GeneratorExp elt [⟨.Name x px, iter, [], 0⟩] scope pos) 0 (.ref I) .none cenv)) [] s := by
  have hh' : (A.over (.compLoop (.GeneratorExp elt [⟨.Name x px, iter, [], 0⟩] scope pos) 0 (.ref I) .none cenv) []).handled = none := hh
  have notW : cenv.locals ∉ wr := fun h => hCf ((W₀ A hh).sub _ h)
  intro k
  induction k with
  | zero =>
    intro i s₀ s m hk hi hst hn hsince
    obtain rfl : i = n₀ := by omega
    show Seg _ A _ _ _ s₀ _ ((compTurn (.GeneratorExp elt [⟨.Name x px, iter, [], 0⟩] scope pos) 0 (.ref I) .none cenv).onRaise (leaving cenv)) [] s
    rw [compTurn_gen, Sem.onRaise_eq_wrap]
    refine seg_bind_wrap (wpAny_standAt (seg_bind_wrap ((W₀ _ hh').done s _ _ hst fun h1 tk hk1 => ?_)))
    exact seg_end (.ok .next) ⟨rfl, by rw [passing_end]; rfl, hsince.step fun b o _ hw e => hk1 b o hw e⟩
  | succ k ih =>
    intro i s₀ s m hk hi hst hn hsince
    have hlt : i < n₀ := by omega
    show Seg _ A _ _ _ s₀ _ ((compTurn (.GeneratorExp elt [⟨.Name x px, iter, [], 0⟩] scope pos) 0 (.ref I) .none cenv).onRaise (leaving cenv)) [] s
    rw [compTurn_gen, Sem.onRaise_eq_wrap]
    refine seg_bind_wrap (wpAny_standAt (seg_bind_wrap ((W₀ _ hh').item i s _ _ hlt hst fun v h1 tk1 hv hst1 hk1 => ?_)))
    refine seg_bind_wrap (wpAny_of_eq (rfl : letOwnedTupleGo (.Name x px) (.ref I) v = pure ()) (seg_bind_wrap (wpAny_assign_Name (wpAny_storeName_local hx (hn.at' fun o e => hk1 _ o notW e) (fun h2 hn2 sb => ?_) hp))))
    have kept : ∀ b o, b ≠ cenv.locals → b ∉ wr → s.heap.get? b = some o → h2.get? b = some o := fun b o hb hw e => sb.extBut b o hb (hk1 b o hw e)
    have hst2 : St₀ (i + 1) h2 := (W₀ A hh).frame _ _ _ hst1 fun b hb o e => sb.extBut b o (fun q => hCf (q ▸ hb)) e
    refine seg_bind_wrap (wpAny_tests_nil ?_)
    simp only [if_true]
    rw [passing_true hlt rfl, List.length_cons]
    have hy : ∀ v, yieldOut cenv v = yieldValue v := fun v => by simp only [yieldOut, hco, Bool.false_eq_true, if_false]
    simp only [hy]
    rw [Sem.bind_eq_wrap', Sem.bind_eq_wrap', Sem.wrap_wrap, Sem.wrap_wrap]
    refine seg_wrap (wpAny_mono (hq _ _ i v _ _ hh' hv (by show 1 ≤ tk1 + 1; omega) hn2 (by simp)) (fun y s4 h4 => ?_) fun _ _ e => e)
    obtain ⟨hF, h3, tk3, rfl, hk3⟩ := h4
    have since3 : GenSince cenv.locals wr s₀ { s with heap := h3, toks := tk3 } := hsince.step fun b o hb hw e => hk3 b o (kept b o hb hw e)
    refine seg_at (seg_yield rfl rfl rfl ⟨⟨i, passing_here hlt rfl, hF⟩, since3, fun s5 al => ?_⟩)
    exact seg_again rfl (ih (i + 1) s5 s5 _ (by omega) hlt ((W₀ A hh).frame _ _ _ hst2 fun b hb o e => al b (List.mem_cons_of_mem _ hb) o (hk3 b o e))
      ((hn2.keeps hk3).at' fun o e => al _ (List.mem_cons_self ..) o e) (GenSince.refl _ _ _))

theorem seg_startT {elt iter : Expr} {x : Str} {px : Pos} {scope : Scope} {pos : Pos} {I : Addr} {fp wr : List Addr} {n₀ : Nat} {P : Nat → Value → Prop} {St₀ : Nat → Heap → Prop} {cenv : Env}
    (hh : A.handled = none) (W₀ : ∀ A' : Around, A'.handled = none → Walks prog w A' I fp wr n₀ P St₀) (F : Nat → Value → Prop)
    (hx : cenv.kindOf x = some .local) (hp : (cenv.scope.kind == .class || (cenv.scope.kind == .module && cenv.locals != cenv.globals)) = false)
    (hco : cenv.scope.isCoroutine = false) (hCf : cenv.locals ∉ fp) (hq : QuietT prog w cenv x elt P F)
    (s₀ s : Shared) (m : Str → Option Value) (hst : St₀ 0 s.heap) (hn : s.heap.Ns cenv.locals m) (hsince : GenSince cenv.locals wr s₀ s) :
    Seg (model prog w) A (fun n s₀ r s₁ => r = .ok .next ∧ (n = 0 ∧ GenSince cenv.locals wr s₀ s₁)) (genProto cenv.locals fp wr allP n₀ F) (passing allP n₀ 0).length s₀
      (.compStart (.GeneratorExp elt [⟨.Name x px, iter, [], 0⟩] scope pos) 0 (.ref I) .none cenv)
      ((model prog w).den (.compStart (.GeneratorExp elt [⟨.Name x px, iter, [], 0⟩] scope pos) 0 (.ref I) .none cenv)) [] s := by
  have hh' : (A.over (.compStart (.GeneratorExp elt [⟨.Name x px, iter, [], 0⟩] scope pos) 0 (.ref I) .none cenv) []).handled = none := hh
  have loop := seg_loopT (iter := iter) (px := px) (scope := scope) (pos := pos) hh W₀ F hx hp hco hCf hq n₀ 0 s₀ s m (Nat.sub_zero _) (Nat.zero_le _) hst hn hsince
  show Seg _ A _ _ _ s₀ _ ((compStart (.GeneratorExp elt [⟨.Name x px, iter, [], 0⟩] scope pos) 0 (.ref I) .none cenv).onRaise (leaving cenv)) [] s
  unfold compStart
  rw [Sem.onRaise_eq_wrap]
  show Seg _ A _ _ _ s₀ _ ((ask >>= _).wrap _ _ _ _) [] s
  refine seg_bind_wrap (wpAny_askSetting ?_)
  split
  · exact seg_again rfl loop
  · refine seg_bind_wrap (wpAny_rule ?_)
    first
      | exact seg_bind_wrap (wpAny_standAt (seg_bind_wrap ((W₀ _ hh').self 0 s _ _ hst (seg_again rfl loop))))
      | (show Seg _ A _ _ _ s₀ _ ((standAt iter.pos >>= _).wrap _ _ _ _) [] s
         exact seg_bind_wrap (wpAny_standAt (seg_bind_wrap ((W₀ _ hh').self 0 s _ _ hst (seg_again rfl loop)))))

theorem genAtT {elt iter : Expr} {x : Str} {px : Pos} {scope : Scope} {pos : Pos} {I a : Addr} {g : Nat} {fp wr : List Addr} {n₀ : Nat} {P : Nat → Value → Prop} {St₀ : Nat → Heap → Prop} {cenv : Env}
    (hh : A.handled = none) (W₀ : ∀ A' : Around, A'.handled = none → Walks prog w A' I fp wr n₀ P St₀) (F : Nat → Value → Prop)
    (hx : cenv.kindOf x = some .local) (hp : (cenv.scope.kind == .class || (cenv.scope.kind == .module && cenv.locals != cenv.globals)) = false)
    (hco : cenv.scope.isCoroutine = false) (hCf : cenv.locals ∉ fp) {s : Shared} {m : Str → Option Value} (hq : QuietT prog w cenv x elt P F)
    (hg : s.heap.IsGen a g) (hgs : s.gens[g]? = some (.fresh (.compStart (.GeneratorExp elt [⟨.Name x px, iter, [], 0⟩] scope pos) 0 (.ref I) .none cenv)))
    (hst : St₀ 0 s.heap) (hn : s.heap.Ns cenv.locals m) (hl : s.heap.NoLimit) : GenAt prog w A a g cenv.locals fp wr allP n₀ F 0 s :=
  ⟨hg, hl, _, hgs, fun s5 al => ⟨rfl, seg_startT (A := A.in1) hh W₀ F hx hp hco hCf hq s5 s5 m ((W₀ A hh).frame _ _ _ hst fun b hb o e => al b (List.mem_cons_of_mem _ hb) o e)
    (hn.at' fun o e => al _ (List.mem_cons_self ..) o e) (GenSince.refl _ _ _)⟩⟩
end

end

section
open PySem PySem.W PyProof.Rows
open Sem (wp)
set_option linter.unusedVariables false
set_option linter.unusedSimpArgs false
set_option maxRecDepth 100000

variable {G : GI} {n : Nat} {A : Around} {μ μ' : List Addr} {hp hp' : Hp} {s s' : Shared} {Q : PV → Hp → Prop} {env : Env} {l : Loc} {K : Cfg}

theorem rep_call {prog : Program} {w : World} {E Q : Value → Shared → Prop} {x : List Nat} {a b : Str} {c : Nat} {t u v : Tok} (hu : u ≠ 0) (hv : v ≠ 0) (huv : u ≠ v) (ha : a.cps.toList = [c]) (hab : b ≠ a) (hx : x.length ≤ 1048576) (hz : b.cps.size ≤ 8)
    (h : ∀ t' k, Q (.str ⟨(replC x c b.cps.toList).toArray⟩ t') { s with toks := k }) :
    wpAny (model prog w) A (call (.builtin "str.replace") [.str ⟨x.toArray⟩ t, .str a u, .str b v]) Q E s := by
  have ea : a = ⟨#[c]⟩ := by
    obtain ⟨⟨l⟩⟩ := a
    simp at ha; subst ha; rfl
  subst ea
  refine SC.replaceW hu hv huv (by simpa using Ne.symm hab) (by simp [Str.length]; omega) (by show b.cps.size ≤ 14; omega) fun t' k => ?_
  have := h t' k
  have e := replC_join c b (Txt.split ⟨x.toArray⟩ ⟨#[c]⟩) (StrLaws.split_free _ c)
  rw [StrLaws.join_split] at e
  rw [StrLaws.replace_one]
  generalize Str.join b (Txt.split ⟨x.toArray⟩ ⟨#[c]⟩) = y at e ⊢
  obtain ⟨⟨y⟩⟩ := y
  simp at e
  rw [← e]; exact this

theorem replC_len (c : Nat) (z : List Nat) (hz : z.length ≤ 2) : ∀ x : List Nat, (replC x c z).length ≤ 2 * x.length
  | [] => Nat.le_refl _
  | d :: x => by
      have := replC_len c z hz x
      show ((if d = c then z else [d]) ++ replC x c z).length ≤ _
      rw [List.length_append, List.length_cons]
      split
      · omega
      · rw [List.length_singleton]; omega

/-- a chunk as it is written -/
def chunkS (x : List Nat) : List Nat := replC (replC x 92 [92, 92]) 45 [92, 45]

abbrev genElt (sN : Str) (q1 q2 q3 q4 q5 r1 r2 r3 r4 : Pos) (k1 k2 k3 k4 : Nat) : Expr :=
  .Call (.Attribute (.Call (.Attribute (.Name sN q1) (Str.ofString "replace") q2) [.Constant (.str (Str.ofString "\\")) k1 r1, .Constant (.str (Str.ofString "\\\\")) k2 r2] [] q3) (Str.ofString "replace") q4)
    [.Constant (.str (Str.ofString "-")) k3 r3, .Constant (.str (Str.ofString "\\-")) k4 r4] [] q5

theorem elt_wp {prog : Program} {w : World} {E : Value → Shared → Prop} {sN : Str} {q1 q2 q3 q4 q5 r1 r2 r3 r4 : Pos} {k1 k2 k3 k4 : Nat} {x : List Nat} {t : Tok} {m : Str → Option Value}
    (hk : env.scope.kind = .function) (hm : env.kindOf sN = some .local) (hd : (sN == ("__debug__" : Str)) = false) (hl1 : (q2.endLine == q3.line) = true) (hl2 : (q4.endLine == q5.line) = true)
    (ht : 1 ≤ s.toks) (hns : s.heap.Ns env.locals m) (hv : m sN = some (.str ⟨x.toArray⟩ t)) (hx : x.length ≤ 400000) :
    wpAny (model prog w) A (eval (genElt sN q1 q2 q3 q4 q5 r1 r2 r3 r4 k1 k2 k3 k4) env) (fun y s3 => (∃ u, y = .str ⟨(chunkS x).toArray⟩ u) ∧ Keeps s s3) E s := by
  refine wpAny_Call_method rfl rfl hl2 F.plainAttrs_str F.slot_str_replace F.type_str_replace ?_
  refine wpAny_Call_method rfl rfl hl1 F.plainAttrs_str F.slot_str_replace F.type_str_replace ?_
  refine wpAny_Name ?_ hd
  unfold loadName
  simp only [Env.blockKind, hk, hm, ScopeKind.isAnnotationScope, Bool.false_and, Bool.false_eq_true, if_false]
  refine wpAny_bind (wpAny_nsGet hns ?_)
  rw [hv]
  refine wpAny_pure ?_
  refine ⟨typeIs_str _ _ _, (fun a e => by cases e), ?_⟩
  refine Calls.callWith_builtin rfl (Calls.evalArgs_plain (Calls.spliced_cons (Calls.Constant_str (k := k1) (pos := r1) (Calls.spliced_cons (Calls.Constant_str (k := k2) (pos := r2) (Calls.spliced_nil ?_))))))
  have t1 : s.toks ≠ (0 : Nat) := Nat.ne_of_gt ht
  have t2 : s.toks + 1 ≠ (0 : Nat) := Nat.succ_ne_zero _
  have t3 : s.toks ≠ s.toks + 1 := Nat.ne_of_lt (Nat.lt_succ_self _)
  refine wtk (s := { s with toks := s.toks + 1 + 1 }) (by show 1 ≤ s.toks + 1 + 1; omega) (rep_call (u := s.toks) (v := s.toks + 1) t1 t2 t3 (c := 92) rfl (by decide) (by omega) (by decide) fun t' k hk' => ?_)
  refine ⟨typeIs_str _ _ _, (fun a e => by cases e), ?_⟩
  refine Calls.callWith_builtin rfl (Calls.evalArgs_plain (Calls.spliced_cons (Calls.Constant_str (k := k3) (pos := r3) (Calls.spliced_cons (Calls.Constant_str (k := k4) (pos := r4) (Calls.spliced_nil ?_))))))
  have hk'' : 1 ≤ k := hk'
  have u1 : k ≠ (0 : Nat) := Nat.ne_of_gt hk''
  have u2 : k + 1 ≠ (0 : Nat) := Nat.succ_ne_zero _
  have u3 : k ≠ k + 1 := Nat.ne_of_lt (Nat.lt_succ_self _)
  have hl := replC_len 92 [92, 92] (Nat.le_refl _) x
  refine rep_call (s := { s with toks := k + 1 + 1 }) (u := k) (v := k + 1) u1 u2 u3 (c := 45) rfl (by decide) ?_ (by decide) fun t'' k' => ?_
  · show (replC x 92 [92, 92]).length ≤ _
    omega
  · exact ⟨⟨t'', rfl⟩, s.heap, k', rfl, fun _ _ e => e⟩

theorem HR.regen (H : HR G μ hp s) (h1 : s'.heap = s.heap) (h2 : s'.os = s.os) (h3 : AllBare s'.gens) (h4 : 1 ≤ s'.toks) : HR G μ hp s' := by
  refine ⟨?_, ?_, h2.trans H.os, h3, h4, H.nodup, H.len, H.low, ?_⟩
  · rw [h1]; exact H.base
  · rw [h1]; exact H.tab
  · rw [h1]; exact H.obj

end

section
open PySem PySem.W PyProof.Rows
open Sem (wp)
set_option linter.unusedVariables false
set_option linter.unusedSimpArgs false
set_option maxRecDepth 100000

variable {G : GI} {n : Nat} {A : Around} {μ μ' : List Addr} {hp hp' : Hp} {s s' : Shared} {Q : PV → Hp → Prop} {env : Env} {l : Loc} {K : Cfg}

/-- the code object of a generator expression -/
theorem gen_code {gsc : Scope} {gp : Pos} {P : Value → Shared → Prop} (po : ProgOk G) (g : GOk G) (hqm : env.kindOf QM ≠ none) (hqn : G.qn gp.line gp.col = G.tq ++ Str.ofString "<genexpr>") (H : HR G μ hp s) (X : EnvR G A env l μ s.heap)
    (h : ∀ code s', HR G μ hp s' → Stp G noOwn μ s μ s' → s'.os = s.os → s'.gens = s.gens → (∀ b o, b ≠ G.P → s.heap.get? b = some o → s'.heap.get? b = some o) → P code s') :
    wpAny G.M A (genexprCode env gp (env.qual ++ "<genexpr>") gsc) P noE s := by
  obtain ⟨hcode, hqual⟩ := X.code hqm
  have base := X.base H
  obtain ⟨ps, hP, ht, hc⟩ := H.tab
  have C : CodeHd s.heap G.C G.P := po.hd.keeps fun b o e => H.base b o e
  rw [hqual, show G.tq ++ "<genexpr>" = G.qn gp.line gp.col from hqn.symm]
  cases hf : codeAmong gp ps.toList with
  | some cv => exact wpAny_genexprCode_hit hcode (C.code hP ht) hf (h _ _ H (Stp.refl _ _) rfl rfl fun _ _ _ e => e)
  | none =>
    refine wtk H.toks (wpAny_genexprCodeX hcode (C.code hP ht) (C.tab hP) hf fun c' h' tk hx hge hlt _ hrec htb hnew => fun htk => ?_)
    obtain ⟨H1, st1⟩ := H.newCode po base hP ht hc hx hge hrec htb.2 (by
      obtain ⟨P', _, _, ⟨⟨o, vs, e1, e2, _⟩, _⟩⟩ := hnew
      exact ⟨o, e1, e2⟩) htk
    exact h _ _ H1 st1 rfl rfl hx

structure GenOk (gsc : Scope) (sN : Str) : Prop where
  kind : gsc.kind = .function
  co : gsc.isCoroutine = false
  cell : ∀ x ∈ gsc.names, x.2 ≠ .cell
  dot : gsc.names.lookup (".0" : Str) = some NameKind.local
  loc : gsc.names.lookup sN = some .local
  dbg : (sN == ("__debug__" : Str)) = false

theorem StrsL.of_rep {h : Heap} : ∀ {ps : List PV} {vs : List Value} {ts : List (List Nat)}, RepL μ h ps vs → strsOf ps = some ts → StrsL ts vs
  | [], vs, ts, r, e => by simp only [RepL] at r; simp only [strsOf] at e; cases e; exact r
  | p :: ps, vs, ts, r, e => by
      simp only [RepL] at r
      obtain ⟨w, wr, rfl, r0, rs⟩ := r
      cases p <;> simp only [strsOf] at e <;> try (cases e; done)
      obtain ⟨us, e1, rfl⟩ := Option.map_eq_some_iff.mp e
      simp only [Rep] at r0; obtain ⟨t, rfl⟩ := r0
      exact ⟨t, wr, rfl, StrsL.of_rep rs e1⟩
theorem StrsL.at : ∀ {ts : List (List Nat)} {vs : List Value}, StrsL ts vs → ∀ (i : Nat) (v : Value), vs[i]? = some v → ∃ x t, ts[i]? = some x ∧ v = .str ⟨x.toArray⟩ t
  | [], _, e, i, v, h => by simp only [StrsL] at e; subst e; simp at h
  | p :: ps, _, ⟨t, r, rfl, k⟩, i, v, h => by
      cases i with
      | zero => simp at h; subst h; exact ⟨p, t, rfl, rfl⟩
      | succ i => simp at h; obtain ⟨x, u, h1, h2⟩ := k.at i v h; exact ⟨x, u, by simpa using h1, h2⟩

theorem pass_all (n : Nat) : passing allP n 0 = List.range n := by unfold passing; simp

theorem E_gen {sc : Scope} {gsc : Scope} {sN chN : Str} {q1 q2 q3 q4 q5 r1 r2 r3 r4 pa pb px pc gp cp : Pos} {k0 k1 k2 k3 k4 j : Nat} {vs : List PV} {ts : List (List Nat)} (g : GOk G) (po : ProgOk G)
    (hqm : env.kindOf QM ≠ none) (hcl : closureFor gsc env = pure []) (gk : GenOk gsc sN)
    (hqn : G.qn gp.line gp.col = G.tq ++ Str.ofString "<genexpr>") (hl1 : (q2.endLine == q3.line) = true) (hl2 : (q4.endLine == q5.line) = true) (hlineM : (pb.endLine == cp.line) = true)
    (hv : l chN = some (.ref j)) (hj : hp[j]? = some (.list vs)) (hts : strsOf vs = some ts) (hx : ∀ x ∈ ts, x.length ≤ 400000) (hn : ts.length ≤ 400000) (hbig : (joinL [45] (ts.map chunkS)).length ≤ big) (q : Q (.str (joinL [45] (ts.map chunkS))) hp) :
    WE G n env l hp (eval (.Call (.Attribute (.Constant (.str (Str.ofString "-")) k0 pa) (Str.ofString "join") pb)
      [.GeneratorExp (genElt sN q1 q2 q3 q4 q5 r1 r2 r3 r4 k1 k2 k3 k4) [⟨.Name sN px, .Name chN pc, [], 0⟩] gsc gp] [] cp) env) Q := fun A μ s R H X => by
  have hd := R.depth
  have hroom : A.depth < recursionLimit := by show A.depth < 1000; omega
  refine wpAny_Call_method rfl rfl hlineM F.plainAttrs_str F.slot_str_join F.type_str_join ?_
  refine Calls.Constant_str ?_
  refine ⟨typeIs_str _ _ _, (fun a e => by cases e), ?_⟩
  have H0 : HR G μ hp { s with toks := s.toks + 1 } := H.tok (by omega)
  have X0 : EnvR G A env l μ ({ s with toks := s.toks + 1 } : Shared).heap := X
  have st0 : Stp G noOwn μ s μ { s with toks := s.toks + 1 } := Stp.toks _ _ _
  generalize ({ s with toks := s.toks + 1 } : Shared) = s0 at H0 X0 st0 ⊢
  refine Calls.callWith_builtin rfl (Calls.evalArgs_plain (Calls.spliced_cons ?_))
  refine wpAny_GeneratorExp_make gk.co hcl gk.cell gk.dot gk.kind hroom ?_ (fun x => rfl)
  refine name_here X0 hv fun v r => ?_
  obtain ⟨ax, ws, m, rfl, hm, ho, rl⟩ := ref_list H0 r hj
  have sl : StrsL ts ws.toList := StrsL.of_rep rl hts
  refine wpAny_pyIter_list ⟨_, ho, rfl, _, rfl⟩ ?_
  have H2 : HR G μ hp { s0 with heap := s0.heap.push { cls := .type "list_iterator", data := .fields #[.ref ax, .int 0 0] } } := H0.push _
  have st2 : Stp G noOwn μ s0 μ { s0 with heap := s0.heap.push { cls := .type "list_iterator", data := .fields #[.ref ax, .int 0 0] } } := Stp.push _ _ _
  have X2 := X0.step H0 st2
  have nl0 : s0.heap.NoLimit := po.nl.keeps fun b o e => H0.base b o e
  have it2 : (s0.heap.push { cls := .type "list_iterator", data := .fields #[.ref ax, .int 0 0] }).IsListIter s0.heap.objs.size ax 0 := ⟨_, Heap.get?_push_size _ rfl, rfl, rfl⟩
  have ho2 : (s0.heap.push { cls := .type "list_iterator", data := .fields #[.ref ax, .int 0 0] }).get? ax = some (lstO ws m) := Heap.get?_push_of_some _ ho
  generalize hs2 : ({ s0 with heap := s0.heap.push { cls := .type "list_iterator", data := .fields #[.ref ax, .int 0 0] } } : Shared) = s2 at H2 st2 X2 ⊢
  have it2' : s2.heap.IsListIter s0.heap.objs.size ax 0 := by rw [← hs2]; exact it2
  have ho2' : s2.heap.get? ax = some (lstO ws m) := by rw [← hs2]; exact ho2
  refine ⟨po.nl.keeps fun b o e => H2.base b o e, ?_⟩
  refine gen_code po g hqm hqn H2 X2 fun code s3 H3 st3 hos hgens hk3 => ?_
  have X3 := X2.step H2 st3
  have hg : s3.heap.Ns mainGlobals G.mg := H3.ns g.gns
  obtain ⟨bm, ob, b1, b2, b3, b4, b5, b6, b7, b8⟩ := po.bat
  rw [X.glob]
  refine wpAny_builtinsFor hg b1 b2 (H3.base _ _ b5) b6 b7 b8 ?_
  intro h' hns' hsb'
  refine Calls.spliced_nil ?_
  have nl3 : s3.heap.NoLimit := po.nl.keeps fun b o e => H3.base b o e
  have hclt : cStatics < s3.heap.objs.size := let ⟨_, hn, _⟩ := nl3; hn.lt
  have hcl0 : cStatics < s0.heap.objs.size := let ⟨_, hn, _⟩ := nl0; hn.lt
  -- the iterator and the list behind the code's step
  have itP : s0.heap.objs.size ≠ G.P := by
    intro e
    obtain ⟨ps, e2, _⟩ := H0.tab
    rw [← e, Heap.get?_size] at e2; cases e2
  have axP : ax ≠ G.P := by
    rintro rfl
    obtain ⟨ps, e2, _⟩ := H0.tab
    rw [ho] at e2; cases e2
  have it3 : s3.heap.IsListIter s0.heap.objs.size ax 0 := it2'.at fun o e => hk3 _ o itP e
  have ho3 : s3.heap.get? ax = some (lstO ws m) := hk3 _ _ axP ho2'
  have hsz : h'.objs.size = s3.heap.objs.size + 1 := by rw [hsb'.1, Heap.size_push]
  have keep' : ∀ b o, s3.heap.get? b = some o → h'.get? b = some o := fun b o e => hsb'.extBut b o (Nat.ne_of_lt (Heap.lt_size e)) (Heap.get?_push_of_some _ e)
  have hItlt : s0.heap.objs.size < s3.heap.objs.size := by obtain ⟨o, e, _⟩ := it3; exact Heap.lt_size e
  have haxlt : ax < s3.heap.objs.size := Heap.lt_size ho3
  have hax0 : ax < s0.heap.objs.size := Heap.lt_size ho
  have W0 : ∀ A' : Around, A'.handled = none → Walks G.prog G.w A' s0.heap.objs.size [s0.heap.objs.size, ax] [s0.heap.objs.size] ws.size (fun i v => ws[i]? = some v) (fun i h => h.IsListIter s0.heap.objs.size ax i ∧ h.IsList ax ws) :=
    fun A' hA => Walks.list hA _ _ (Nat.ne_of_lt hax0) ws
  have haC : h'.objs.size ≠ s3.heap.objs.size := by rw [hsz]; exact Nat.succ_ne_self _
  have haf : h'.objs.size ∉ List.range s3.heap.objs.size := fun q => by have := List.mem_range.mp q; omega
  have hsub : ∀ b ∈ [s0.heap.objs.size], b ∈ List.range s3.heap.objs.size := fun b hb => by simp at hb; rw [hb]; exact List.mem_range.mpr hItlt
  have hfp : ∀ b ∈ [s0.heap.objs.size, ax], b ∈ List.range s3.heap.objs.size := fun b hb => by
    simp at hb; rcases hb with rfl | rfl
    · exact List.mem_range.mpr hItlt
    · exact List.mem_range.mpr haxlt
  let F : Nat → Value → Prop := fun i y => ∃ x u, ts[i]? = some x ∧ y = .str ⟨(chunkS x).toArray⟩ u
  have W : WalksS G.prog G.w A.in4 h'.objs.size (h'.objs.size :: s3.heap.objs.size :: List.range s3.heap.objs.size) (s3.heap.objs.size :: [s0.heap.objs.size]) (GenOnlyQ s3.gens.size) (passing allP ws.size 0).length
      (fun j y => ∃ i, (passing allP ws.size 0)[j]? = some i ∧ F i y) (GenAt G.prog G.w A.in4 h'.objs.size s3.gens.size s3.heap.objs.size (List.range s3.heap.objs.size) [s0.heap.objs.size] allP ws.size F) :=
    WalksS.genexpQ (A := A.in4) R.handled _ _ _ _ _ allP _ F haC haf hsub hroom (List.mem_range.mpr hclt) (Nat.ne_of_lt hclt) (fun q => by simp at q; exact Nat.ne_of_lt hcl0 q)
  have hq : QuietT G.prog G.w (genEnv gsc [] s3.heap.objs.size code builtinsNs env) sN (genElt sN q1 q2 q3 q4 q5 r1 r2 r3 r4 k1 k2 k3 k4) (fun i v => ws[i]? = some v) F := by
    intro A' E' i v s4 m4 hA hiv htk hns hmv
    obtain ⟨x, t, e1, rfl⟩ := sl.at i v (by simpa using hiv)
    refine wpAny_mono (elt_wp (env := genEnv gsc [] s3.heap.objs.size code builtinsNs env) gk.kind gk.loc gk.dbg hl1 hl2 htk hns hmv (hx x (List.mem_of_getElem? e1))) (fun y s5 h5 => ?_) fun _ _ e => e
    obtain ⟨⟨u, rfl⟩, h5⟩ := h5
    exact ⟨⟨x, u, e1, rfl⟩, h5⟩
  have hgenv : ∀ (gq : Nat) (t1 t2 : Nat), (h'.push { cls := .type "generator", data := .fields #[.int gq 0, .str "<genexpr>" t1, .str (env.qual ++ "<genexpr>") t2] }).IsGen h'.objs.size gq := fun gq t1 t2 => ⟨_, _, _, Heap.get?_push_size _ rfl, rfl, rfl, rfl⟩
  generalize hgo : ({ cls := .type "generator", data := .fields #[.int s3.gens.size 0, .str "<genexpr>" (s3.toks + 1), .str (env.qual ++ "<genexpr>") (s3.toks + 1 + 1)] } : Obj) = go
  have keep5 : ∀ b o, s3.heap.get? b = some o → (h'.push go).get? b = some o := fun b o e => Heap.get?_push_of_some _ (keep' b o e)
  have GA : GenAt G.prog G.w A.in4 h'.objs.size s3.gens.size s3.heap.objs.size (List.range s3.heap.objs.size) [s0.heap.objs.size] allP ws.size F 0
      { s3 with gens := s3.gens.push (.fresh (.compStart (.GeneratorExp (genElt sN q1 q2 q3 q4 q5 r1 r2 r3 r4 k1 k2 k3 k4) [⟨.Name sN px, .Name chN pc, [], 0⟩] gsc gp) 0 (.ref s0.heap.objs.size) .none (genEnv gsc [] s3.heap.objs.size code builtinsNs env))), toks := s3.toks + 1 + 1 + 1, heap := h'.push go } := by
    refine genAtT (A := A.in4) (cenv := genEnv gsc [] s3.heap.objs.size code builtinsNs env) (m := fun y => if y = ".0" then some (.ref s0.heap.objs.size) else none) R.handled
      (fun A' hA => (W0 A' hA).mono_fp hfp) F gk.loc (by simp [genEnv, gk.kind]) gk.co (fun q => Nat.lt_irrefl _ (List.mem_range.mp q)) hq ?_ (Array.getElem?_push_size ..) ⟨it3.at fun o e => keep5 _ o e, ⟨_, keep5 _ _ ho3, rfl, m, rfl⟩⟩ (hns'.push _) (nl3.keeps keep5)
    rw [← hgo]; exact hgenv _ _ _
  have hnw : ws.size = ts.length := by simpa using sl.len
  refine wtk (by show 1 ≤ s3.toks + 1 + 1 + 1; omega) (SC.joinGen (n := (passing allP ws.size 0).length) W.in4_2 (fun _ _ st => st.1.typeIs) GA ?_ (List.mem_cons_self ..) ?_ ?_ ?_)
  · intro b hb
    have hsz5 : (h'.push go).objs.size = s3.heap.objs.size + 2 := by rw [Heap.size_push, hsz]
    show b < (h'.push go).objs.size
    rcases List.mem_cons.mp hb with rfl | hb
    · rw [hsz5, hsz]; exact Nat.lt_succ_self _
    · rcases List.mem_cons.mp hb with rfl | hb
      · rw [hsz5]; exact Nat.lt_succ_of_lt (Nat.lt_succ_self _)
      · have := List.mem_range.mp hb
        rw [hsz5]; exact Nat.lt_of_lt_of_le this (Nat.le_add_right _ 2)
  · rintro i v ⟨i', _, x, u, _, rfl⟩
    exact ⟨_, u, rfl⟩
  · intro s' lt hmv hacc
    have hlt : lt.map (·.1) = (ts.map chunkS).map fun t => (⟨t.toArray⟩ : Str) := by
      rw [pass_all, List.length_range] at hacc
      apply List.ext_getElem?
      intro i
      have hsz : lt.length = ws.size := by simpa [strValues] using hacc.1
      by_cases hi : i < ws.size
      · have hi' : i < lt.length := hsz ▸ hi
        obtain ⟨i2, e1, x, u, e2, e3⟩ := hacc.2 i (.str lt[i].1 lt[i].2) (by simp [strValues, List.getElem?_eq_getElem hi'])
        have : i2 = i := by
          rw [List.getElem?_range hi] at e1; cases e1; rfl
        subst this
        injection e3 with e3 _
        simp [List.getElem?_eq_getElem hi', e2, e3]
      · rw [List.getElem?_eq_none (by simpa [hsz] using Nat.le_of_not_lt hi), List.getElem?_eq_none (by simpa [← hnw] using Nat.le_of_not_lt hi)]
    rw [hlt]
    refine ⟨join_ok (sep := [45]) hbig (by decide), fun t' k htk => ?_⟩
    have ejoin : Txt.join (Str.ofString "-") ((ts.map chunkS).map fun t => (⟨t.toArray⟩ : Str)) = ⟨(joinL [45] (ts.map chunkS)).toArray⟩ := by
      unfold Txt.join
      rw [StrLaws.glued_eq_join]
      exact join_eq [45] (ts.map chunkS)
    rw [ejoin]
    have gb : AllBare s'.gens := AllBare.movedS (H3.gens.push (g := .fresh _) rfl) hmv
    have hos' : s'.os = s3.os := hmv.os
    have keepE : ∀ b o, b ≠ s0.heap.objs.size → s3.heap.get? b = some o → s'.heap.get? b = some o := fun b o hb e =>
      hmv.heap b o (fun q => by
        rcases List.mem_cons.mp q with rfl | q
        · exact Nat.lt_irrefl _ (Heap.lt_size e)
        · simp at q; exact hb q) (keep5 b o e)
    have mv : Mv s0.heap.objs.size s3 { s' with gens := s3.gens, toks := k } := ⟨keepE, hos', rfl, htk⟩
    have isit : IsIt s3.heap s0.heap.objs.size := by
      obtain ⟨o, a, b, c⟩ := it3
      exact ⟨o, _, _, a, b, by simp [itCls], c⟩
    have Hf0 := H3.mv isit (X0.base H0) mv
    have Hf : HR G μ hp { s' with toks := k } := Hf0.regen rfl rfl gb htk
    have n0 : s.heap.get? s0.heap.objs.size = none := by
      cases e : s.heap.get? s0.heap.objs.size with
      | none => rfl
      | some o => obtain ⟨o', e'⟩ := st0.live _ _ e; rw [Heap.get?_size] at e'; cases e'
    have stf := ((st0.trans st2).trans st3).mv n0 mv
    refine ⟨_, _, _, q, ?_, Hf, ⟨stf.keepU, stf.grow, stf.live⟩⟩
    simp only [Rep]; exact ⟨t', rfl⟩
  · rw [pass_all, List.length_range, hnw]; simp [sizeLine]; omega

end

section
open PySem PySem.W PyProof.Rows
set_option maxRecDepth 100000
set_option maxHeartbeats 8000000

open_top hd04 for PySem.Challenge.rw_in0089_04

end

section
open PySem PySem.W PyProof.Rows PySem.Calls
set_option linter.unusedVariables false
set_option maxRecDepth 100000

/-! the first call: the room of the caller is given, a token is taken by the parameter's store -/
theorem newEnvT {M : Model} {A : Around} {E : Value → Shared → Prop} {s : Shared} {scope : Scope} {globals : Addr} {x : Str} {v : Value} {qual : Str} {func : Option Addr} {code : Value} {builtins : Addr} {Q : Env → Shared → Prop}
    (hk : scope.kind = .function) (hx : scope.names.lookup x = some .local)
    (hQ : ∀ env, env = newEnv scope s.heap.objs.size globals (cellsFrom (s.heap.objs.size + 1) scope.names []) qual func code none builtins →
      ∀ s', 1 ≤ s'.toks → InCallC s env.locals (bindL env.kindOf [(x, v)] fun _ => none) env.cells (bindC env.kindOf [(x, v)] fun _ => none) s' → Q env s') :
    wpAny M A (newFunctionEnv scope globals [] [(x, v)] qual func code none builtins) Q E s := by
  simp only [newFunctionEnv, Option.isSome_none, Bool.false_eq_true, if_false]
  refine wpAny_bind (wpAny_alloc ?_)
  refine wpAny_bind (wpAny_layCells _ (fun name kind cells => by cases hkc : kind == NameKind.cell <;> simp) _ _ _ _ ?_)
  have ok := cellsFrom_ok scope.names (s.heap.push { cls := .type "frame", data := .dict #[] }) (s.heap.objs.size + 1) [] ⟨fun _ _ hm => (nomatch hm), List.Pairwise.nil⟩ (by rw [Heap.size_push]; exact Nat.le_refl _)
  rw [Heap.size_push] at ok
  rw [show ({ s with heap := s.heap.push { cls := .type "frame", data := .dict #[] } } : Shared).heap.objs.size = s.heap.objs.size + 1 from Heap.size_push ..]
  generalize henv : ({ scope := scope, locals := s.heap.objs.size, globals := globals, cells := cellsFrom (s.heap.objs.size + 1) scope.names [], qual := qual, func := func, code := code, frame := some s.heap.objs.size, builtins := builtins } : Env) = env
  have hne : env = newEnv scope s.heap.objs.size globals (cellsFrom (s.heap.objs.size + 1) scope.names []) qual func code none builtins := henv.symm.trans rfl
  have hl : env.kindOf x = some .local := by rw [hne]; exact hx
  have hks : env.scope.kind = .function := by rw [hne]; exact hk
  have x0 : InCallC s env.locals (fun _ => none) env.cells (fun _ => none) ({ s with heap := pushCells (s.heap.push { cls := .type "frame", data := .dict #[] }) scope.names } : Shared) := by
    rw [hne]
    exact ⟨⟨⟨_, _, rfl⟩, (Heap.Ns.new s.heap (.type "frame")).keeps (pushCells_keeps _ _), fun b o e => pushCells_keeps _ _ b o (Heap.get?_push_of_some _ e), Nat.le_refl _⟩,
      fun n c hc => (ok.empty n c (mem_of_lookup hc)).1, ok.apart, fun n c hm => (ok.empty n c hm).2⟩
  refine wpAny_bind ?_
  rw [List.forIn_cons]
  refine wpAny_bind (wpAny_bind (wpAny_storeName_local hl x0.toInCall.ns (fun h' hn' hs' => ?_) (by rw [hks]; rfl)))
  refine wpAny_pure ?_
  dsimp only
  rw [List.forIn_nil]
  refine wpAny_pure (wpAny_pure (hQ _ hne _ (by simp) ?_))
  have x1 : InCallC s env.locals (fun y => if y = x then some v else none) env.cells (fun _ => none) ({ s with heap := h', toks := s.toks + 1 } : Shared) := by
    refine ⟨⟨⟨h', _, rfl⟩, hn', fun b o e => ?_, x0.toInCall.fresh⟩, fun k c hc => ?_, x0.apart, x0.above⟩
    · exact hs'.extBut b o (Nat.ne_of_lt (Nat.lt_of_lt_of_le (Heap.lt_size e) x0.toInCall.fresh)) (x0.toInCall.keep b o e)
    · exact (x0.cell k c hc).sameBut hs' (Nat.ne_of_gt (x0.above k c (mem_of_lookup hc)))
  have e1 : bindL env.kindOf [(x, v)] (fun _ => none) = fun y => if y = x then some v else none := by
    unfold bindL bindL; rw [if_pos hl]
  have e2 : bindC env.kindOf [(x, v)] (fun _ => none) = fun _ => none := by
    unfold bindC bindC; rw [if_pos hl]
  rw [e1, e2]; exact x1

variable {G : GI} {n : Nat} {Q : PV → Hp → Prop}
theorem callTop {f p : Str} {sc : Scope} {trk : Pos → Bool} {body : List Stmt} {pv : PV} {v : Value} (g : GOk G) (hno : G.h0.NoLimit) (F : FnOk G f [p] sc body) (hp : sc.names.lookup p = some .local)
    (h : bodyC G n [p] sc trk body [pv] [] Q) {A : Around} {s : Shared} (R : Room (n + 1) A) (H : ∀ tk, 1 ≤ tk → HR G [] [] { s with toks := tk }) (r : Rep [] s.heap pv v) (hbase : G.h0.objs.size ≤ s.heap.objs.size) (hfr : FrsOk G A s.heap) {fa : Addr} (hfa : G.mg f = some (.ref fa)) :
    codeAny G.M A (.call (.ref fa) ⟨[v], []⟩) (fun r s' => ∃ pv v, r = .ok (.ret v) ∧ Q pv [] ∧ Rep [] s'.heap pv v ∧ HR G [] [] s') s := by
  obtain ⟨a, o, fd, ⟨hm, ho, hd⟩, hb, hs, hclo, hgl, hbl, hcr, hcode, hbind⟩ := F.fn
  rw [hm] at hfa; cases hfa
  obtain ⟨hlen, hst⟩ := h
  have hvl : [v].length = [p].length := rfl
  subst hs
  have H0 := H 1 (Nat.le_refl _)
  have base := H0.base
  have nl : ∀ {h' : Heap}, (∀ b o, s.heap.get? b = some o → h'.get? b = some o) → h'.NoLimit := fun k => hno.keeps fun b o e => k b o (base b o e)
  have prm : stoOk fd.scope p = true := List.all_eq_true.mp F.prm p (by simp)
  refine codeAny_call_function (by have := R.depth; show A.depth < 1000; omega) (base _ _ ho) hd F.co F.gen hb (hcr.keeps fun b o e => base b o e) ?_
  rw [hbind _ hvl, hclo]
  refine wpAny_pure (newEnvT F.kind hp fun env he s1 ht1 x => ?_)
  have hsc : env.scope = fd.scope := by rw [he]; rfl
  have hko : ∀ y, env.kindOf y = fd.scope.names.lookup y := fun y => by rw [Env.kindOf, hsc]
  have hloc : env.locals = s.heap.objs.size := by rw [he]; rfl
  have hcells : env.cells = cellsFrom (s.heap.objs.size + 1) fd.scope.names [] := by rw [he]; rfl
  refine ⟨nl x.toInCall.keep, codeAny_func ?_⟩
  obtain ⟨h1, tk, hsame⟩ := x.toInCall.same
  have keep := x.toInCall.keep
  have H1 : HR G [] [] s1 := (H s1.toks ht1).ext keep (by rw [hsame]) (by rw [hsame]) ht1
  have st1 : ∀ own, Stp G own [] s [] s1 := fun own => Stp.ext [] keep
  have r1 : RepL [] s1.heap [pv] [v] := by
    have : RepL [] s.heap [pv] [v] := by simp only [RepL]; exact ⟨v, [], rfl, r, rfl⟩
    exact H0.repL (Stp.ext (own := noOwn) (s' := s1) [] keep) this
  have br := binds_rep (kindOf := env.kindOf) (l := fun _ => none) (m := fun _ => none) (cm := fun _ => none) hlen r1 (fun x pv q => by cases q)
  have habove : ∀ y c, (y, c) ∈ env.cells → s.heap.objs.size < c := fun y c hc => by have := x.above y c hc; rw [hloc] at this; exact this
  have X1 : EnvR G (A.deeper env) env (updL (fun _ => none) [p] [pv]) [] s1.heap := by
    refine ⟨fun y pv hy => ?_, by rw [hsc]; exact F.kind, by rw [he]; exact hgl, by rw [he]; exact hbl, by rw [hloc]; exact hbase, fun y c hc => ?_, x.apart, fun hq => ?_, fun lf hlf ee hee => ?_, ⟨_, x.toInCall.ns, fun y pv hk hl => (br y pv hl).1 hk⟩, fun y hy => ?_⟩
    · rcases updL_mem hy with q | q
      · simp only [List.mem_singleton] at q; subst q
        obtain ⟨q1, q2, q3⟩ := sto_iff prm
        rw [hko]
        exact ⟨q1.elim .inl fun z => .inr (.inl z), q2, q3⟩
      · cases q
    · exact Nat.le_trans hbase (Nat.le_of_lt (habove y c hc))
    · rw [hko] at hq
      have := hcode hq
      rw [he]; exact this
    · obtain ⟨l0, hl0⟩ := R.frames
      have hdf : (A.deeper env).frames = some (env :: l0) := by show A.frames.map (env :: ·) = _; rw [hl0]; rfl
      rw [hdf] at hlf; cases hlf
      rcases List.mem_cons.mp hee with q | q
      · subst q
        obtain ⟨o5, es5, k5, e5, hd5, _⟩ := x.toInCall.ns
        exact ⟨by rw [hsc, F.kind]; simp, ee.locals, o5, es5, k5, by rw [he]; rfl, e5, hd5, by rw [hloc]; exact hbase⟩
      · exact (hfr.keep keep) l0 hl0 ee q
    · have hcell : env.kindOf y = some .cell := by
        rcases hy with q | q
        · exact q
        · rw [hko] at q
          have := List.all_eq_true.mp F.free _ (lookup_mem q)
          simp at this
      have hsome : (env.cells.lookup y).isSome = true := by
        rw [hcells]; rw [hko] at hcell
        exact cells_some (.inl (lookup_mem hcell))
      obtain ⟨c, hc⟩ := Option.isSome_iff_exists.mp hsome
      exact ⟨c, _, hc, x.cell y c hc, fun pv hl => (br y pv hl).2 (by rw [hcell]; simp)⟩
  have R1 : Room n (A.deeper env) := by
    obtain ⟨l, hl⟩ := R.frames
    refine ⟨?_, ?_, R.handled, ⟨env :: l, by show A.frames.map (env :: ·) = _; rw [hl]; rfl⟩⟩
    · have := R.depth; show A.depth + 1 + n ≤ 900; omega
    · have := R.units; show A.units + 3 + 10 * n ≤ 9000; omega
  refine wpAny_mono (sound_body g body ⟨fd.scope, trk⟩ env _ [] _ hsc F.body hst (A.deeper env) [] s1 R1 H1 X1) (fun f s2 h2 => ?_) fun _ _ e => e.elim
  obtain ⟨fl, l2, hp2, μ2, ⟨v, hv, hle, hcl, hq⟩, r2, H2, X2, st2⟩ := h2
  obtain ⟨ν, rfl, hν⟩ := st2.grow
  have hall : (hp2.take ([] : List PV).length).all (objIn ([] : List PV).length) = true := by simp
  have HF : HR G [] (hp2.take ([] : List PV).length) s2 := H2.cut (μ := []) (ν := μ2) (by simp) rfl (by simp)
  have rr := FlR.out r2
  exact ⟨v, _, rfl, by simpa using hq, freeze_rep (μ := []) (ν := μ2) H2 8 hv rr, by simpa using HF⟩

theorem ghost_base {h₁ : Heap} {tabs : List (Addr × Addr)} {b : Addr} {o : Obj} (e : (ghostOf h₁ tabs).get? b = some o) : h₁.get? b = some o := of_hideAll _ e

/-- the end: true is given back, the world is as it was but for the table -/
theorem top_end {M : Model} {A : Around} {cd : Code} {s s₁ : Shared} {cw : ClaimW} {cl : Str → Option Addr} {mean : ExcName → Option Value} {args : List WData} {C P : Addr} (hT : TabsAt [(C, P)] s₁.heap) (hr : ∀ a x, cw.raises a x = false)
    (hpost : cw.post args (.bool true) args = true)
    (h : codeAny M A cd (fun r s' => r = .ok (.ret (.bool true)) ∧ (∀ a o, (ghostOf s₁.heap [(C, P)]).get? a = some o → s'.heap.get? a = some o) ∧ s'.os = s₁.os ∧ AllBare s'.gens ∧ GrownAt P s'.heap) s) : codeAny M A cd (GoodWG cw cl mean args s₁) s :=
  codeAny_mono h fun r s' ⟨hr1, hk, hos, hg, hgr⟩ => by
    have keep : ∀ b o, b ≠ P → s₁.heap.get? b = some o → s'.heap.get? b = some o := fun b o hb e => hk b o (ghost_ne e (by simpa using hb))
    have e2 := (hT (C, P) (by simp)).2
    have ht : isCodeTable s₁.heap P := ((hT (C, P) (by simp)).1.tab e2).isCodeTable
    obtain ⟨ps, hP⟩ := hgr
    refine ⟨.inl ⟨.bool true, .bool true, [], hr1, fun _ => hr _ _, .bool true, hpost, fun _ => ⟨List.nodup_nil, fun a ha => by cases ha⟩⟩, ⟨fun b o e => ?_, fun b o e => ?_⟩, hos, hg⟩
    · by_cases hb : b = P
      · subst hb
        rw [e2] at e; cases e
        exact .inr (.inl ⟨ht, rfl, #[], ps, rfl, by rw [Array.empty_append]; exact hP⟩)
      · exact .inl (keep b o hb e)
    · by_cases hb : b = P
      · subst hb; exact ⟨_, hP⟩
      · exact ⟨o, keep b o hb e⟩

end

section
open PySem PySem.W PyProof.Rows
set_option linter.unusedVariables false
set_option maxRecDepth 100000

/-! words for the walk -/
theorem ofs_cps (a : String) : (Str.ofString a).cps.toList = a.toList.map Char.toNat := by
  unfold Str.ofString; simp [cpsOfBytes_string]
theorem ofs_inj (a b : String) : (Str.ofString a = Str.ofString b) = (a = b) := by
  apply propext
  constructor
  · intro h
    have h2 : a.toList.map Char.toNat = b.toList.map Char.toNat := by rw [← ofs_cps, ← ofs_cps, h]
    have h3 : a.toList = b.toList := List.map_inj_right (fun x y e => Char.toNat_inj.mp e) |>.mp h2
    exact String.toList_inj.mp h3
  · rintro rfl; rfl
theorem ofs_size (a : String) : (Str.ofString a).cps.size = a.toList.length := by
  rw [← Array.length_toList, ofs_cps, List.length_map]
theorem upd_ap (l : Loc) (x y : Str) (v : PV) : upd l x v y = if y = x then some v else l y := rfl
variable {G : GI} {n : Nat} {K : Cfg} {l : Loc} {hp : Hp} {Q : Fl → Loc → Hp → Prop}
theorem stL_at {B : List Stmt} {s : Stmt} {k : Nat} (h : B[k]? = some s)
    (hs : stS G n K s l hp fun f l1 h1 => match f with
      | .next => stL G n K (B.drop (k + 1)) l1 h1 Q
      | f => Q f l1 h1) : stL G n K (B.drop k) l hp Q := by
  have : B.drop k = s :: B.drop (k + 1) := by
    obtain ⟨hk, e⟩ := List.getElem?_eq_some_iff.mp h
    rw [← e]; exact List.drop_eq_getElem_cons hk
  rw [this]; exact hs
theorem stL_start {B : List Stmt} (h : stL G n K (B.drop 0) l hp Q) : stL G n K B l hp Q := h
theorem stL_end {B : List Stmt} {k : Nat} (h : B.length ≤ k) (q : Q .next l hp) : stL G n K (B.drop k) l hp Q := by
  rw [List.drop_eq_nil_of_le h]; exact q
theorem whileW_of {test : Loc → Hp → (Bool → Hp → Prop) → Prop} {body : Loc → Hp → (Fl → Loc → Hp → Prop) → Prop} (Inv : Nat → Loc → Hp → Prop)
    (h : ∀ (I : Loc → Hp → Prop) (m : Nat) (l : Loc) (hp : Hp), (∀ m' l' hp', m' < m → Inv m' l' hp' → I l' hp') → Inv m l hp → test l hp (fun c h1 => if c then body l h1 (fun f l' hp' => match f with
      | .next => I l' hp'
      | .cont => I l' hp'
      | .brk => Q .next l' hp'
      | .ret v => Q (.ret v) l' hp') else Q .next l h1)) {m : Nat} {l : Loc} {hp : Hp} (h0 : Inv m l hp) : WhileW test body Q l hp := by
  intro I hI
  induction m using Nat.strongRecOn generalizing l hp with
  | ind m ih => exact hI l hp (h I m l hp (fun m' l' hp' hm hi => ih m' hm hi) h0)

theorem contents_app {hp t : Hp} {v : PV} {vs : List PV} (h : contents hp v = some vs) : contents (hp ++ t) v = some vs := by
  unfold contents at h ⊢
  cases v <;> simp at h ⊢
  · exact h
  · rename_i k
    split at h
    · rename_i ws e
      cases h
      rw [List.getElem?_append_left (List.getElem?_eq_some_iff.mp e).1, e]
    · cases h
theorem small_nat {a : Nat} (h : a ≤ big) : smallI (a : Int) = true := by
  unfold smallI big at *; simp; omega
theorem idx_nat (i n : Nat) : idx (i : Int) n = if i < n then some i else none := by
  unfold idx; simp
theorem item_nat {hp : Hp} {o : PV} {vs : List PV} {i : Nat} (h : contents hp o = some vs) (hi : i < vs.length) (hb : i ≤ big) : itemV hp o (.int i) = some vs[i] := by
  have hs := small_nat hb
  unfold itemV
  simp only [hs, if_true]
  cases o <;> simp [contents] at h
  · simp [contents, h, idx_nat, hi]
  · rename_i k
    simp only [contents]
    split at h
    · rename_i ws e
      cases h
      simp [e, idx_nat, hi]
    · cases h
theorem len_cont {hp : Hp} {o : PV} {vs : List PV} (h : contents hp o = some vs) (hb : vs.length ≤ big) : bltV (Str.ofString "len") hp [o] = some (.int vs.length) := by
  unfold bltV
  simp only [if_true]
  cases o <;> simp [contents] at h
  · simp [contents, h, hb]
  · rename_i k
    simp only [contents]
    split at h
    · rename_i ws e
      cases h
      simp [e, hb]
    · cases h
theorem len_str {hp : Hp} {x : List Nat} : bltV (Str.ofString "len") hp [.str x] = if x.length ≤ big then some (.int x.length) else none := rfl
theorem meth_app {hp : Hp} {k : Nat} {vs : List PV} {v : PV} (h : hp[k]? = some (.list vs)) (hb : vs.length < big) : methV (Str.ofString "append") hp (.ref k) [v] = some (.none, hp.set k (.list (vs ++ [v]))) := by
  unfold methV; simp only [if_true]; rw [h]; simp [hb]
theorem isV_ref {hp : Hp} {a b : Nat} (h : okRef hp b = true) : isV hp (.ref a) (.ref b) = some (decide (a = b)) := by
  unfold isV; by_cases q : a = b <;> simp [q, h]
theorem aug_int (hp : Hp) (a b : Int) : augV .Add hp (.int a) (.int b) = some (.int (a + b)) := rfl
/-- the end of a body: what is given back is frozen -/
def EndC (hp : Hp) (Q : PV → Hp → Prop) : Fl → Loc → Hp → Prop := fun fl _ h1 =>
  optP (freeze h1 hp.length 8 (match fl with | .ret v => v | _ => .none)) fun v => hp.length ≤ h1.length ∧ (h1.take hp.length = hp ∨ (h1.take hp.length).all (objIn hp.length) = true) ∧ Q v (h1.take hp.length)
theorem call_walk {Q : PV → Hp → Prop} {f : Str} {ps : List Str} {sc : Scope} (trk : Pos → Bool) {body : List Stmt} {vs : List PV} (g : GOk G) (hno : G.h0.NoLimit) (F : FnOk G f ps sc body) (hl : vs.length = ps.length)
    (h : stL G n ⟨sc, trk⟩ (body.drop 0) (updL (fun _ => none) ps vs) hp (EndC hp Q)) : CallW G n f vs hp Q := callW_of g hno F (trk := trk) ⟨hl, h⟩
theorem endC_of {Q : PV → Hp → Prop} {hp t : Hp} {v w : PV} {l : Loc} (h : freeze (hp ++ t) hp.length 8 v = some w) (q : Q w hp) : EndC hp Q (.ret v) l (hp ++ t) := by
  refine ⟨w, h, by simp, .inl (by simp), by simpa using q⟩
theorem endC_same {Q : PV → Hp → Prop} {hp : Hp} {v w : PV} {l : Loc} (h : freeze hp hp.length 8 v = some w) (q : Q w hp) : EndC hp Q (.ret v) l hp := by
  refine ⟨w, h, by simp, .inl (by simp), by simpa using q⟩
theorem getE_end (hp t : Hp) (m : MO) : (hp ++ m :: t)[hp.length]? = some m := by simp
theorem set_end (hp t : Hp) (m m' : MO) : (hp ++ m :: t).set hp.length m' = hp ++ m' :: t := by simp
theorem okRef_app {hp : Hp} (t : Hp) {j : Nat} (h : okRef hp j = true) : okRef (hp ++ t) j = true := by
  unfold okRef at h ⊢
  split at h
  · rename_i e; rw [List.getElem?_append_left (List.getElem?_eq_some_iff.mp e).1, e]
  · rename_i e; rw [List.getElem?_append_left (List.getElem?_eq_some_iff.mp e).1, e]
  · cases h
theorem meth_end {hp t : Hp} {X : List PV} {v : PV} {k : Nat} (hk : k = hp.length) (hb : X.length < big) : methV (Str.ofString "append") (hp ++ .list X :: t) (.ref k) [v] = some (.none, hp ++ .list (X ++ [v]) :: t) := by
  subst hk; rw [meth_app (getE_end ..) hb, set_end]
theorem cont_end {hp t : Hp} {X : List PV} {k : Nat} (hk : k = hp.length) : contents (hp ++ .list X :: t) (.ref k) = some X := by
  subst hk; simp [contents]
theorem strsOf_map2 (xs : List (List Nat)) : strsOf (xs.map .str) = some xs := by
  induction xs with
  | nil => rfl
  | cons x xs ih => simp [strsOf, ih]
theorem joinL_nil2 (xs : List (List Nat)) : joinL [] xs = xs.flatten := by
  induction xs with
  | nil => rfl
  | cons x xs ih =>
    cases xs with
    | nil => simp [joinL]
    | cons y ys => simp only [joinL, List.append_nil, ih]; simp
theorem meth_join {hp : Hp} {x : List Nat} {v : PV} {xs : List (List Nat)} (h : contents hp v = some (xs.map .str)) (h1 : (joinL x xs).length ≤ big) (h2 : x.length ≤ big) (h3 : xs.length ≤ big) : methV (Str.ofString "join") hp (.str x) [v] = some (.str (joinL x xs), hp) := by
  unfold methV
  simp only [ofs_inj, String.reduceEq, if_false, if_true, h, Option.bind_some, strsOf_map2, h1, h2, h3, and_self]
def subB (B : List Stmt) (k : Nat) : List Stmt := match B[k]? with
  | some (.While _ b _ _) => b
  | some (.For _ _ b _ _) => b
  | some (.If _ b _ _) => b
  | _ => []
def subE (B : List Stmt) (k : Nat) : List Stmt := match B[k]? with
  | some (.If _ _ e _) => e
  | _ => []
theorem truth_cont {hp : Hp} {v : PV} {vs : List PV} (h : contents hp v = some vs) (hb : vs.length ≤ big) : truthV hp v = some (!vs.isEmpty) := by
  unfold truthV
  cases v <;> simp [contents] at h
  · simp [contents, h, hb]
  · simp only [contents]
    split at h
    · cases h; simp [hb]
    · cases h
theorem item_last {hp : Hp} {o : PV} {vs : List PV} {v : PV} (h : contents hp o = some (vs ++ [v])) : itemV hp o (.int (-1)) = some v := by
  have hs : smallI (-1) = true := by decide
  have hx : idx (-1) (vs ++ [v]).length = some vs.length := by
    unfold idx
    simp only [List.length_append, List.length_cons, List.length_nil]
    rw [if_neg (by omega), if_pos (by omega)]
    congr 1; omega
  unfold itemV
  simp only [hs, if_true]
  cases o <;> simp only [contents] at h
  · cases h
  · cases h
  · cases h
  · cases h
  · cases h
  · simp only [contents, h, Option.bind_some, hx]; simp
  · simp only [contents]
    split at h
    · cases h; simp only [Option.bind_some, hx]; simp
    · cases h
  · cases h
  · cases h
theorem callW_mono {G : GI} {n : Nat} {f : Str} {ps : List PV} {hp : Hp} {Q Q' : PV → Hp → Prop} (h : CallW G n f ps hp Q) (k : ∀ v hp', Q v hp' → Q' v hp') : CallW G n f ps hp Q' := by
  obtain ⟨a, o, fd, e, h⟩ := h
  refine ⟨a, o, fd, e, fun A μ s vs R H r hb hf => codeAny_mono (h A μ s vs R H r hb hf) fun r s' q => ?_⟩
  obtain ⟨pv, hp', v, e1, e2, e3⟩ := q
  exact ⟨pv, hp', v, e1, k _ _ e2, e3⟩
theorem isFn_of {G : GI} {f : Str} {ps : List Str} {sc : Scope} {body : List Stmt} (F : FnOk G f ps sc body) : isFn G f := by
  obtain ⟨a, o, fd, h, _⟩ := F.fn; exact ⟨a, o, fd, h⟩

end

section
open PySem PySem.W PyProof.Rows
set_option linter.unusedVariables false
set_option maxRecDepth 100000

/-! equations that are used on the way down (simp ↓): no continuation is looked at twice -/
theorem optP_of {α : Type} {o : Option α} {a : α} (h : o = some a) (Q : α → Prop) : optP o Q = Q a := by rw [h, optP_some]
theorem o_upd (l : Loc) (x y : Str) (v : PV) (Q : PV → Prop) : optP (upd l x v y) Q = if y = x then Q v else optP (l y) Q := by
  unfold upd; split
  · rw [optP_some]
  · rfl
theorem o_some {α : Type} (a : α) (Q : α → Prop) : optP (some a) Q = Q a := optP_some a Q
section
variable {G : GI} {n : Nat} {K : Cfg} {l : Loc} {hp : Hp}
theorem exA_nil (op : BoolOp) (Q : Bool → Hp → Prop) : exA G n K op [] l hp Q = Q (op == .And) hp := by simp only [exA]
theorem exA_and (e : Expr) (r : List Expr) (Q : Bool → Hp → Prop) : exA G n K .And (e :: r) l hp Q = exT G n K e (exE G n K e l hp) l hp fun b h1 => if b = true then exA G n K .And r l h1 Q else Q false h1 := by
  rw [exA]; congr 1; funext b h1; cases b <;> rfl
theorem exA_or (e : Expr) (r : List Expr) (Q : Bool → Hp → Prop) : exA G n K .Or (e :: r) l hp Q = exT G n K e (exE G n K e l hp) l hp fun b h1 => if b = true then Q true h1 else exA G n K .Or r l h1 Q := by
  rw [exA]; congr 1; funext b h1; cases b <;> rfl
end
variable (hp : Hp)
theorem o_add (a b : Int) Q : optP (binV .Add hp (.int a) (.int b)) Q = Q (.int (a + b)) := optP_some ..
theorem o_sub (a b : Int) Q : optP (binV .Sub hp (.int a) (.int b)) Q = Q (.int (a - b)) := optP_some ..
theorem o_mul (a b : Int) Q : optP (binV .Mult hp (.int a) (.int b)) Q = ((smallI a || smallI b) = true ∧ Q (.int (a * b))) := by rw [bin_mul, optP_ite]
theorem o_div (a b : Int) Q : optP (binV .FloorDiv hp (.int a) (.int b)) Q = ((b ≠ 0 ∧ smallI b) ∧ Q (.int (a.fdiv b))) := by rw [bin_div, optP_ite]
theorem o_mod (a b : Int) Q : optP (binV .Mod hp (.int a) (.int b)) Q = (b ≠ 0 ∧ Q (.int (a.fmod b))) := by rw [bin_mod, optP_ite]
theorem o_pow (a b : Int) Q : optP (binV .Pow hp (.int a) (.int b)) Q = ((0 ≤ b ∧ b ≤ 64 ∧ -1000 ≤ a ∧ a ≤ 1000) ∧ Q (.int (a ^ b.toNat))) := by rw [bin_pow, optP_ite]
theorem o_cat (a b : List Nat) Q : optP (binV .Add hp (.str a) (.str b)) Q = (a.length + b.length ≤ big ∧ Q (.str (a ++ b))) := by rw [bin_cat, optP_ite]
theorem o_lt (a b : Int) Q : optP (cmpV .Lt hp (.int a) (.int b)) Q = Q (decide (a < b)) := optP_some ..
theorem o_le (a b : Int) Q : optP (cmpV .LtE hp (.int a) (.int b)) Q = Q (decide (a ≤ b)) := optP_some ..
theorem o_gt (a b : Int) Q : optP (cmpV .Gt hp (.int a) (.int b)) Q = Q (decide (b < a)) := optP_some ..
theorem o_ge (a b : Int) Q : optP (cmpV .GtE hp (.int a) (.int b)) Q = Q (decide (b ≤ a)) := optP_some ..
theorem o_slt (a b : List Nat) Q : optP (cmpV .Lt hp (.str a) (.str b)) Q = Q (ltL a b) := optP_some ..
theorem o_sle (a b : List Nat) Q : optP (cmpV .LtE hp (.str a) (.str b)) Q = Q (!ltL b a) := optP_some ..
theorem o_sgt (a b : List Nat) Q : optP (cmpV .Gt hp (.str a) (.str b)) Q = Q (ltL b a) := optP_some ..
theorem o_sge (a b : List Nat) Q : optP (cmpV .GtE hp (.str a) (.str b)) Q = Q (!ltL a b) := optP_some ..
theorem o_eqs (a b : List Nat) Q : optP (cmpV .Eq hp (.str a) (.str b)) Q = Q (decide (a = b)) := by
  rw [cmp_eq, eq_str, optP_some]
theorem o_nes (a b : List Nat) Q : optP (cmpV .NotEq hp (.str a) (.str b)) Q = Q (!decide (a = b)) := by
  rw [cmp_ne, eq_str, Option.map_some, optP_some]
theorem o_eqi (a b : Int) Q : optP (cmpV .Eq hp (.int a) (.int b)) Q = Q (decide (a = b)) := by
  rw [cmp_eq, eq_int, optP_some]
theorem o_nei (a b : Int) Q : optP (cmpV .NotEq hp (.int a) (.int b)) Q = Q (!decide (a = b)) := by
  rw [cmp_ne, eq_int, Option.map_some, optP_some]
theorem o_is {a b : PV} {r : Bool} (h : isV hp a b = some r) Q : optP (cmpV .Is hp a b) Q = Q r := by rw [cmp_is, h, optP_some]
theorem o_isnot {a b : PV} {r : Bool} (h : isV hp a b = some r) Q : optP (cmpV .IsNot hp a b) Q = Q (!r) := by rw [cmp_isnot, h, Option.map_some, optP_some]
theorem o_in (c : Nat) (x : List Nat) Q : optP (cmpV .In hp (.str [c]) (.str x)) Q = Q (x.contains c) := optP_some ..
theorem o_notin (c : Nat) (x : List Nat) Q : optP (cmpV .NotIn hp (.str [c]) (.str x)) Q = Q (!x.contains c) := optP_some ..
theorem o_tb (b : Bool) Q : optP (truthV hp (.bool b)) Q = Q b := optP_some ..
theorem o_ti (b : Int) Q : optP (truthV hp (.int b)) Q = Q (b != 0) := optP_some ..
theorem o_tn Q : optP (truthV hp .none) Q = Q false := optP_some ..
theorem o_ts (b : List Nat) Q : optP (truthV hp (.str b)) Q = (b.length ≤ big ∧ Q (!b.isEmpty)) := by rw [truth_str, optP_ite]
theorem o_ai (a b : Int) Q : optP (augV .Add hp (.int a) (.int b)) Q = Q (.int (a + b)) := optP_some ..
theorem o_as (a b : List Nat) Q : optP (augV .Add hp (.str a) (.str b)) Q = (a.length + b.length ≤ big ∧ Q (.str (a ++ b))) := by
  show optP (binV .Add hp (.str a) (.str b)) Q = _; exact o_cat ..
theorem o_len (a : List Nat) Q : optP (bltV (Str.ofString "len") hp [.str a]) Q = (a.length ≤ big ∧ Q (.int a.length)) := by rw [len_str, optP_ite]
theorem item_head {hp : Hp} {c : Nat} {r : List Nat} : itemV hp (.str (c :: r)) (.int 0) = some (.str [c]) := by
  unfold itemV
  have hs : smallI 0 = true := by decide
  simp [hs, idx]
theorem bnd_nat {a : Nat} (h : a ≤ big) : bndV (.int (a : Int)) = some (some (a : Int)) := by
  show (if smallI (a : Int) = true then some (some (a : Int)) else none) = _
  rw [small_nat h]; rfl
theorem slice_eq {hp : Hp} {x : List Nat} {a b : PV} {a' b' : Option Int} (ha : bndV a = some a') (hb : bndV b = some b') (hx : x.length ≤ big) : sliceV hp (.str x) a b = some (.str (slc x a' b')) := by
  unfold sliceV; rw [ha, hb]; exact if_pos hx
theorem sldef_nat {a n d : Nat} (h : a ≤ n) : sldef (some (a : Int)) n d = a := by
  unfold sldef
  simp only []
  rw [if_neg (by omega), if_neg (by omega)]; simp
theorem slc_nat {α : Type} {x : List α} {a b : Nat} (ha : a ≤ x.length) (hb : b ≤ x.length) : slc x (some (a : Int)) (some (b : Int)) = (x.take b).drop a := by
  unfold slc; rw [sldef_nat ha, sldef_nat hb]
theorem slc_from {α : Type} {x : List α} {a : Nat} (ha : a ≤ x.length) : slc x (some (a : Int)) none = x.drop a := by
  unfold slc; rw [sldef_nat ha]; show (x.take x.length).drop a = _; rw [List.take_length]
theorem slc_to {α : Type} {x : List α} {b : Nat} (hb : b ≤ x.length) : slc x none (some (b : Int)) = x.take b := by
  unfold slc; rw [sldef_nat hb]; rfl
theorem slice_tail {hp : Hp} {c : Nat} {r : List Nat} (h : (c :: r).length ≤ big) : sliceV hp (.str (c :: r)) (.int 1) .none = some (.str r) := by
  rw [slice_eq (a' := some ((1 : Nat) : Int)) (b' := none) rfl rfl h, slc_from (by simp)]; rfl
theorem slice_nat {hp : Hp} {x : List Nat} {a b : Nat} (hx : x.length ≤ big) (ha : a ≤ x.length) (hb : b ≤ x.length) : sliceV hp (.str x) (.int a) (.int b) = some (.str ((x.take b).drop a)) := by
  rw [slice_eq (bnd_nat (Nat.le_trans ha hx)) (bnd_nat (Nat.le_trans hb hx)) hx, slc_nat ha hb]
theorem in_two {hp : Hp} {c a b : Nat} : cmpV .In hp (.str [c]) (.tuple [.str [a], .str [b]]) = some (decide (c = a ∨ c = b)) := by
  rw [cmp_in]
  unfold inV
  have h : ([PV.str [a], PV.str [b]].all fun y => eqOk y (.str [c])) = true := by simp [eqOk, flat]
  simp only [h, if_true]
  simp
theorem item_at {hp : Hp} {o : PV} {P R : List PV} {v : PV} {i : Int} (h : contents hp o = some (P ++ v :: R)) (hi : i = P.length) (hb : P.length ≤ big) : itemV hp o (.int i) = some v := by
  subst hi
  rw [item_nat h (by simp) hb]; simp
theorem store_at {hp : Hp} {j : Nat} {P R : List PV} {v w : PV} {i : Int} (h : hp[j]? = some (.list (P ++ v :: R))) (hi : i = P.length) (hb : (P ++ v :: R).length ≤ big) : storeV hp (.ref j) (.int i) w = some (hp.set j (.list (P ++ w :: R))) := by
  subst hi
  have hs := small_nat (a := P.length) (by rw [List.length_append] at hb; omega)
  unfold storeV
  simp only [hs, if_true, h]
  rw [if_pos hb, idx_nat, if_pos (by simp)]
  simp
theorem store_last {hp : Hp} {j : Nat} {P : List PV} {v w : PV} (h : hp[j]? = some (.list (P ++ [v]))) (hb : (P ++ [v]).length ≤ big) : storeV hp (.ref j) (.int (-1)) w = some (hp.set j (.list (P ++ [w]))) := by
  have hs : smallI (-1) = true := by decide
  have hx : idx (-1) (P ++ [v]).length = some P.length := by
    unfold idx
    simp only [List.length_append, List.length_cons, List.length_nil]
    rw [if_neg (by omega), if_pos (by omega)]
    congr 1; omega
  unfold storeV
  simp only [hs, if_true, h]
  rw [if_pos hb, hx]
  simp
theorem del_at {hp : Hp} {j : Nat} {P R : List PV} {v : PV} {i : Int} (h : hp[j]? = some (.list (P ++ v :: R))) (hi : i = P.length) (hb : (P ++ v :: R).length ≤ big) : delV hp (.ref j) (.int i) = some (hp.set j (.list (P ++ R))) := by
  subst hi
  have hs := small_nat (a := P.length) (by rw [List.length_append] at hb; omega)
  unfold delV
  simp only [hs, if_true, h]
  rw [if_pos hb, idx_nat, if_pos (by simp)]
  have he : (P ++ v :: R).eraseIdx P.length = P ++ R := by rw [List.eraseIdx_append_of_length_le (Nat.le_refl _)]; simp
  simp only [Option.map_some, he]
theorem item_strlast {hp : Hp} {x : List Nat} {c : Nat} : itemV hp (.str (x ++ [c])) (.int (-1)) = some (.str [c]) := by
  have hs : smallI (-1) = true := by decide
  have hx : idx (-1) (x ++ [c]).length = some x.length := by
    unfold idx
    simp only [List.length_append, List.length_cons, List.length_nil]
    rw [if_neg (by omega), if_pos (by omega)]
    congr 1; omega
  unfold itemV
  simp only [hs, if_true, hx, Option.bind_some]
  simp
theorem slice_init {hp : Hp} {x : List Nat} {c : Nat} (h : (x ++ [c]).length ≤ big) : sliceV hp (.str (x ++ [c])) .none (.int (-1)) = some (.str x) := by
  rw [slice_eq (a' := none) (b' := some (-1)) rfl rfl h]
  unfold slc sldef
  simp only []
  rw [if_pos (by omega)]
  simp only [List.length_append, List.length_cons, List.length_nil]
  rw [if_neg (by omega), show ((-1 : Int) + ((x.length + (0 + 1) : Nat) : Int)).toNat = x.length by omega]
  simp
theorem gt_one (a b : Nat) : ltL [a] [b] = decide (a < b) := by
  unfold ltL
  congr 1
  rw [List.cons_lt_cons_iff]
  simp
theorem forL_of {body : PV → Loc → Hp → (Fl → Loc → Hp → Prop) → Prop} {chk : Hp → Prop} {Q : Fl → Loc → Hp → Prop} (Inv : List PV → Loc → Hp → Prop)
    (hstep : ∀ (I : Loc → Hp → Prop) (x : PV) (xs : List PV) (l : Loc) (h : Hp), (∀ l' h', Inv xs l' h' → I l' h') → Inv (x :: xs) l h → body x l h fun f l' h' => match f with
      | .next => chk h' ∧ I l' h'
      | .cont => chk h' ∧ I l' h'
      | .brk => Q .next l' h'
      | .ret v => Q (.ret v) l' h') (hend : ∀ l h, Inv [] l h → Q .next l h) : ∀ {xs : List PV} {l : Loc} {h : Hp}, Inv xs l h → forL body chk Q xs l h
  | [], _, _, q => hend _ _ q
  | x :: xs, l, h, q => hstep (fun l' h' => forL body chk Q xs l' h') x xs l h (fun l' h' q' => forL_of Inv hstep hend q') q
theorem iter_range {hp : Hp} {a b c : Int} (h : rngOk a b c = true) (hl : (rangeL a b c).length ≤ big) : iterV hp (.range a b c) = some ((rangeL a b c).map .int) := by
  unfold iterV; simp only [h, hl, and_self, if_true]
theorem slc_any {α : Type} {x : List α} (a b : Nat) : slc x (some (a : Int)) (some (b : Int)) = (x.take b).drop a := by
  have h1 : sldef (some (a : Int)) x.length 0 = min a x.length := by
    unfold sldef
    simp only []
    rw [if_neg (by omega)]
    split <;> omega
  have h2 : sldef (some (b : Int)) x.length x.length = min b x.length := by
    unfold sldef
    simp only []
    rw [if_neg (by omega)]
    split <;> omega
  show (x.take (sldef (some (b : Int)) x.length x.length)).drop (sldef (some (a : Int)) x.length 0) = _
  rw [h1, h2]
  have ht : x.take (min b x.length) = x.take b := by
    by_cases hb : b ≤ x.length
    · rw [Nat.min_eq_left hb]
    · rw [Nat.min_eq_right (by omega), List.take_length, List.take_of_length_le (by omega)]
  rw [ht]
  by_cases ha : a ≤ x.length
  · rw [Nat.min_eq_left ha]
  · rw [Nat.min_eq_right (by omega), List.drop_eq_nil_of_le (by rw [List.length_take]; omega), List.drop_eq_nil_of_le (by rw [List.length_take]; omega)]
theorem slice_any {hp : Hp} {x : List Nat} {a b : Nat} (hx : x.length ≤ big) (ha : a ≤ big) (hb : b ≤ big) : sliceV hp (.str x) (.int a) (.int b) = some (.str ((x.take b).drop a)) := by
  rw [slice_eq (bnd_nat ha) (bnd_nat hb) hx, slc_any]
theorem slc_fromA {α : Type} {x : List α} (a : Nat) : slc x (some (a : Int)) none = x.drop a := by
  have := slc_any (x := x) a x.length
  rw [List.take_length] at this
  rw [← this]
  unfold slc
  rw [sldef_nat (Nat.le_refl _)]; rfl
theorem slice_from {hp : Hp} {x : List Nat} {a : Nat} (hx : x.length ≤ big) (ha : a ≤ big) : sliceV hp (.str x) (.int a) .none = some (.str (x.drop a)) := by
  rw [slice_eq (b' := none) (bnd_nat ha) rfl hx, slc_fromA]
theorem slc_toA {α : Type} {x : List α} (b : Nat) : slc x none (some (b : Int)) = x.take b := by
  have := slc_any (x := x) 0 b
  rw [List.drop_zero] at this
  rw [← this]
  unfold slc
  rw [sldef_nat (Nat.zero_le _)]; rfl
theorem slice_to {hp : Hp} {x : List Nat} {b : Nat} (hx : x.length ≤ big) (hb : b ≤ big) : sliceV hp (.str x) .none (.int b) = some (.str (x.take b)) := by
  rw [slice_eq (a' := none) rfl (bnd_nat hb) hx, slc_toA]
theorem slice_ref {hp : Hp} {k : Nat} {vs : List PV} {a b : PV} {a' b' : Option Int} (h : contents hp (.ref k) = some vs) (ha : bndV a = some a') (hb : bndV b = some b') (hx : vs.length ≤ big) : sliceV hp (.ref k) a b = some (.list (slc vs a' b')) := by
  unfold sliceV; rw [ha, hb]; simp only [h, Option.bind_some, hx, if_true]
theorem slice_lst {hp : Hp} {vs : List PV} {a b : PV} {a' b' : Option Int} (ha : bndV a = some a') (hb : bndV b = some b') (hx : vs.length ≤ big) : sliceV hp (.list vs) a b = some (.list (slc vs a' b')) := by
  unfold sliceV; rw [ha, hb]; simp only [hx, if_true]
theorem compL_of {test : List PV → Loc → (Bool → Prop) → Prop} {elt : List PV → Loc → (PV → Prop) → Prop} {bnd : PV → (Loc → Prop) → Prop} {Q : List PV → Prop} (Inv : List PV → List PV → Prop)
    (step : ∀ (I : List PV → Prop) (x : PV) (xs acc : List PV), (∀ acc', Inv xs acc' → I acc') → Inv (x :: xs) acc → bnd x fun l1 => test acc l1 fun c => if c then elt acc l1 fun v => I (acc ++ [v]) else I acc)
    (hend : ∀ acc, Inv [] acc → Q acc) : ∀ {xs acc : List PV}, Inv xs acc → compL test elt bnd Q xs acc
  | [], acc, h => hend acc h
  | x :: xs, acc, h => step (fun acc' => compL test elt bnd Q xs acc') x xs acc (fun acc' h' => compL_of Inv step hend h') h

end

local macro_rules | `(tactic| simp_arith only [$xs,*]) => `(tactic| simp only [↓stL, ↓stS, ↓exE, ↓exT, ↓exA_nil, ↓exA_and, ↓exA_or, ↓exB, ↓exC, ↓exL, ↓exO, ↓exJ, ↓exI, ↓bindT, ↓o_upd, ↓o_some, ↓o_add, ↓o_sub, ↓o_mul, ↓o_div, ↓o_mod, ↓o_pow, ↓o_cat, ↓o_lt, ↓o_le, ↓o_gt, ↓o_ge, ↓o_slt, ↓o_sle, ↓o_sgt, ↓o_sge, ↓o_eqs, ↓o_nes, ↓o_eqi, ↓o_nei, ↓o_in, ↓o_notin, ↓o_tb, ↓o_ti, ↓o_tn, ↓o_ts, ↓o_ai, ↓o_as, ↓o_len, ↓reduceIte, tgtNames, updL, Option.map_some, Option.map_none, upd_ap, ofs_inj, ofs_cps, ofs_size, String.reduceEq, String.reduceToList, optP_some, bltNames, methNames, recv, List.contains_cons, List.contains_nil, List.map_cons, List.map_nil, List.isEmpty_cons, List.isEmpty_nil, Bool.false_eq_true, Bool.not_true, Bool.not_false, ↓Char.isValue, Char.reduceToNat, List.length_cons, List.length_nil, reduceCtorEq, and_true, true_and, or_false, false_or, or_true, true_or, beq_iff_eq, Bool.or_eq_true, beq_self_eq_true, Bool.or_false, Bool.or_true, Bool.false_or, Bool.true_or, Bool.and_true, Bool.and_false, Bool.true_and, Bool.false_and, forall_const, String.reduceBEq, decide_true, decide_false, eq_self, not_true_eq_false, not_false_eq_true, decide_eq_true_eq, Nat.zero_le, List.cons_append, List.nil_append, Bool.not_eq_true, Bool.not_not, decide_eq_false_iff_not, $xs,*])

local macro_rules | `(tactic| simp_arith! only [$xs,*]) => `(tactic| simp only [↓exE, ↓exT, ↓exA_nil, ↓exA_and, ↓exA_or, ↓exB, ↓exC, ↓exL, ↓exO, ↓exJ, ↓exI, ↓bindT, ↓o_upd, ↓o_some, ↓o_add, ↓o_sub, ↓o_mul, ↓o_div, ↓o_mod, ↓o_pow, ↓o_cat, ↓o_lt, ↓o_le, ↓o_gt, ↓o_ge, ↓o_slt, ↓o_sle, ↓o_sgt, ↓o_sge, ↓o_eqs, ↓o_nes, ↓o_eqi, ↓o_nei, ↓o_in, ↓o_notin, ↓o_tb, ↓o_ti, ↓o_tn, ↓o_ts, ↓o_ai, ↓o_as, ↓o_len, ↓reduceIte, tgtNames, updL, Option.map_some, Option.map_none, upd_ap, ofs_inj, ofs_cps, ofs_size, String.reduceEq, String.reduceToList, optP_some, bltNames, methNames, recv, List.contains_cons, List.contains_nil, List.map_cons, List.map_nil, List.isEmpty_cons, List.isEmpty_nil, Bool.false_eq_true, Bool.not_true, Bool.not_false, ↓Char.isValue, Char.reduceToNat, List.length_cons, List.length_nil, reduceCtorEq, and_true, true_and, or_false, false_or, or_true, true_or, beq_iff_eq, Bool.or_eq_true, beq_self_eq_true, Bool.or_false, Bool.or_true, Bool.false_or, Bool.true_or, Bool.and_true, Bool.and_false, Bool.true_and, Bool.false_and, forall_const, String.reduceBEq, decide_true, decide_false, eq_self, not_true_eq_false, not_false_eq_true, decide_eq_true_eq, Nat.zero_le, List.cons_append, List.nil_append, Bool.not_eq_true, Bool.not_not, decide_eq_false_iff_not, $xs,*])

local macro_rules | `(tactic| simp_all_arith only [$xs,*]) => `(tactic| simp only [↓stL, ↓stS, ↓exE, ↓exT, ↓exA, ↓exB, ↓exC, ↓exL, ↓exO, ↓exJ, ↓exI, ↓bindT, tgtNames, updL, Option.map_some, Option.map_none, upd_ap, ofs_inj, ofs_cps, ofs_size, String.reduceEq, String.reduceToList, ↓reduceIte, optP_some, optP_none, optP_ite, bltNames, methNames, recv, List.contains_cons, List.contains_nil, List.map_cons, List.map_nil, List.isEmpty_cons, List.isEmpty_nil, Bool.false_eq_true, Bool.not_true, Bool.not_false, ↓Char.isValue, Char.reduceToNat, List.length_cons, List.length_nil, reduceCtorEq, and_true, true_and, or_false, false_or, or_true, true_or, beq_iff_eq, Bool.or_eq_true, beq_self_eq_true, Bool.or_false, Bool.or_true, Bool.false_or, Bool.true_or, Bool.and_true, Bool.and_false, Bool.true_and, Bool.false_and, forall_const, bin_add, bin_sub, bin_mul, bin_div, bin_mod, bin_pow, bin_cat, cmp_lt, cmp_le, cmp_gt, cmp_ge, cmp_slt, cmp_sle, cmp_sgt, cmp_sge, cmp_is, cmp_isnot, cmp_in, cmp_notin, cmp_eq, cmp_ne, in_one, eq_str, eq_int, truth_bool, truth_int, truth_none, truth_str, aug_int, len_str, String.reduceBEq, decide_true, decide_false, eq_self, not_true_eq_false, not_false_eq_true, decide_eq_true_eq, Nat.zero_le, List.cons_append, List.nil_append, $xs,*])

local macro_rules | `(tactic| simp_all_arith! only [$xs,*]) => `(tactic| simp only [↓exE, ↓exT, ↓exA, ↓exB, ↓exC, ↓exL, ↓exO, ↓exJ, ↓exI, ↓bindT, tgtNames, updL, Option.map_some, Option.map_none, upd_ap, ofs_inj, ofs_cps, ofs_size, String.reduceEq, String.reduceToList, ↓reduceIte, optP_some, optP_none, optP_ite, bltNames, methNames, recv, List.contains_cons, List.contains_nil, List.map_cons, List.map_nil, List.isEmpty_cons, List.isEmpty_nil, Bool.false_eq_true, Bool.not_true, Bool.not_false, ↓Char.isValue, Char.reduceToNat, List.length_cons, List.length_nil, reduceCtorEq, and_true, true_and, or_false, false_or, or_true, true_or, beq_iff_eq, Bool.or_eq_true, beq_self_eq_true, Bool.or_false, Bool.or_true, Bool.false_or, Bool.true_or, Bool.and_true, Bool.and_false, Bool.true_and, Bool.false_and, forall_const, bin_add, bin_sub, bin_mul, bin_div, bin_mod, bin_pow, bin_cat, cmp_lt, cmp_le, cmp_gt, cmp_ge, cmp_slt, cmp_sle, cmp_sgt, cmp_sge, cmp_is, cmp_isnot, cmp_in, cmp_notin, cmp_eq, cmp_ne, in_one, eq_str, eq_int, truth_bool, truth_int, truth_none, truth_str, aug_int, len_str, String.reduceBEq, decide_true, decide_false, eq_self, not_true_eq_false, not_false_eq_true, decide_eq_true_eq, Nat.zero_le, List.cons_append, List.nil_append, $xs,*])

section
open PySem PySem.W PyProof.Rows PySem.Calls
set_option linter.unusedVariables false
set_option maxRecDepth 100000

def prog : Program := PySem.Challenge.pw_in0089_04
def fnAt (p : Program) (k : Nat) : Option (Str × Arguments × List Stmt × Scope) := match p.main.body[k]? with
  | some (.FunctionDef f a b _ _ _ s _ _ _) => some (f, a, b, s)
  | _ => none
def bodyAt (p : Program) (k : Nat) : List Stmt := ((fnAt p k).map (·.2.2.1)).getD []
def scopeAt (p : Program) (k : Nat) : Scope := ((fnAt p k).map (·.2.2.2)).getD default
def tq0 : Str := Str.ofString "_translate.<locals>."
theorem fnOk_of {G : GI} {K : Frag} {f : Str} {ps : List Str} {sc : Scope} {body : List Stmt} (X : K.In G.h0) (gns : G.h0.Ns mainGlobals G.mg) {a : Addr} {o : Obj} {fd : FuncData} {c : Addr} {oc : Obj} {vs : Array Value} {t : Tok}
    (h1 : nsIn K mainGlobals f = some (some (.ref a))) (h2 : K.lookup a = some o) (h3 : o.data = .func fd) (hb : fd.body = .stmts body) (hs : fd.scope = sc) (hc : fd.closure = []) (hg : fd.globals = mainGlobals) (hbl : fd.builtins = builtinsNs)
    (hcd : fd.code = .ref c) (k1 : K.lookup c = some oc) (k2 : oc.data = .fields vs) (k3 : vs[1]? = some (.str fd.qualname t)) (hq : sc.names.lookup QM ≠ none → c = G.C ∧ fd.qualname ++ ".<locals>." = G.tq)
    (hbind : ∀ vals : List Value, vals.length = ps.length → bindArgs fd ⟨vals, []⟩ = pure (ps.zip vals)) (co : sc.isCoroutine = false) (gen : sc.isGenerator = false) (kind : sc.kind = .function) (free : sc.names.all (fun x => x.2 != .free) = true) (prm : ps.all (stoOk sc) = true) (hbody : okL sc body = true) :
    FnOk G f ps sc body :=
  ⟨⟨a, o, fd, ⟨mg_of X gns h1, X _ _ h2, h3⟩, hb, hs, hc, hg, hbl, ⟨c, oc, vs, t, hcd, X _ _ k1, k2, k3⟩, fun q => ⟨by rw [hcd, (hq q).1], (hq q).2⟩, hbind⟩, co, gen, kind, free, prm, hbody⟩

theorem f_escape (G : GI) (w : World) (X : (hd04.heap_39 w.params).In G.h0) (gns : G.h0.Ns mainGlobals G.mg) : FnOk G (Str.ofString "escape") [Str.ofString "pattern"] (scopeAt prog 6) (bodyAt prog 6) :=
  fnOk_of X gns rfl rfl rfl rfl rfl rfl rfl rfl rfl rfl rfl rfl (fun h => absurd (by rfl) h) (fun vals h => by match vals, h with | [x], _ => rfl) rfl rfl rfl rfl rfl rfl
theorem f_translate (G : GI) (w : World) (X : (hd04.heap_39 w.params).In G.h0) (gns : G.h0.Ns mainGlobals G.mg) : FnOk G (Str.ofString "translate") [Str.ofString "pat"] (scopeAt prog 3) (bodyAt prog 3) :=
  fnOk_of X gns rfl rfl rfl rfl rfl rfl rfl rfl rfl rfl rfl rfl (fun h => absurd (by rfl) h) (fun vals h => by match vals, h with | [x], _ => rfl) rfl rfl rfl rfl rfl rfl
theorem f__translate (G : GI) (w : World) (X : (hd04.heap_39 w.params).In G.h0) (gns : G.h0.Ns mainGlobals G.mg) (hC : G.C = 61) (ht : G.tq = tq0) : FnOk G (Str.ofString "_translate") [Str.ofString "pat", Str.ofString "STAR", Str.ofString "QUESTION_MARK"] (scopeAt prog 8) (bodyAt prog 8) :=
  fnOk_of X gns rfl rfl rfl rfl rfl rfl rfl rfl rfl rfl rfl rfl (fun h => ⟨hC.symm, ht.symm⟩) (fun vals h => by match vals, h with | [x, y, z], _ => rfl) rfl rfl rfl rfl rfl rfl
theorem f_join (G : GI) (w : World) (X : (hd04.heap_39 w.params).In G.h0) (gns : G.h0.Ns mainGlobals G.mg) : FnOk G (Str.ofString "_join_translated_parts") [Str.ofString "inp", Str.ofString "STAR"] (scopeAt prog 9) (bodyAt prog 9) :=
  fnOk_of X gns rfl rfl rfl rfl rfl rfl rfl rfl rfl rfl rfl rfl (fun h => absurd (by rfl) h) (fun vals h => by match vals, h with | [x, y], _ => rfl) rfl rfl rfl rfl rfl rfl

end

section
open PySem PySem.W PyProof.Rows PySem.Calls
set_option linter.unusedVariables false
set_option maxRecDepth 100000
set_option maxHeartbeats 8000000

noncomputable abbrev KF : Params → Frag := hd04.heap_39
abbrev cC : Addr := 61
abbrev cP : Addr := 57
def qn0 (l c : Nat) : Str := if l = 63 then tq0 ++ Str.ofString "<lambda>" else tq0 ++ Str.ofString "<genexpr>"

/-- what the texts of the program are told -/
structure Giv (G : GI) : Prop where
  X : (KF G.w.params).In G.h0
  g : GOk G
  po : ProgOk G
  hC : G.C = cC
  tq : G.tq = tq0
  qn : G.qn = qn0
  prog : G.prog = prog
  asr : G.mg (Str.ofString "AssertionError") = none ∧ G.mb (Str.ofString "AssertionError") = some (.type "AssertionError")

def mapKeys (es : Array DictEntry) : Bool := es.toList.all fun e => match e.key with
  | .int k _ => e.hash == hashInt k && (spcl.map Int.ofNat).contains k
  | _ => false
def mapVals (es : Array DictEntry) : Bool := spcl.all fun c => match findBy Value.isInt es (c : Int) with
  | some (.str s _) => s == ⟨#[92, c]⟩
  | _ => false
theorem mapTab_of {G : GI} {d : Addr} {o : Obj} {es : Array DictEntry} {ep : Nat} (hm : G.mg (Str.ofString "_special_chars_map") = some (.ref d)) (hs : (d == sysModules) = false) (ho : G.h0.get? d = some o) (hx : o.ExactDict) (hd : o.data = .dict es ep)
    (hk : mapKeys es = true) (hv : mapVals es = true) : MapTab G := by
  refine ⟨d, fun k => findBy Value.isInt es k, hm, hs, ⟨o, es, ep, ho, hx, hd, fun e he => ?_, fun k => rfl⟩, fun c => ⟨fun hc => ?_, fun hc => ?_⟩⟩
  · have := List.all_eq_true.mp hk e (Array.mem_toList_iff.mpr he)
    revert this
    cases hke : e.key <;> simp
    rename_i k t
    intro h1 x h2 h3
    refine ⟨k, ?_, h1⟩
    show Value.isInt k (.int k t) = true
    simp [Value.isInt]
  · have := List.all_eq_true.mp hv c hc
    revert this
    cases hf : findBy Value.isInt es (c : Int) with
    | none => simp
    | some v =>
      cases v <;> simp
      rintro rfl
      exact ⟨_, hf⟩
  · show findBy Value.isInt es (c : Int) = none
    unfold findBy
    rw [Option.map_eq_none_iff, Array.find?_eq_none]
    intro e he hq
    have := List.all_eq_true.mp hk e (Array.mem_toList_iff.mpr he)
    revert this
    cases hke : e.key <;> simp
    rename_i k t
    intro h1 x hx hxk
    have hkc : k = (c : Int) := by
      have := hq; rw [hke] at this; simpa [Value.isInt] using this
    apply hc
    have : x = c := by omega
    rw [← this]; exact hx

theorem rep_ints {P : Params} {h : Heap} {v : Value} : ∀ {xs : List Int}, Well P h v (ofPy (.list (xs.map .int))) → Rep [] h (.list (xs.map .int)) v := by
  intro xs hw
  have key : ∀ (xs : List Int) (vs : List Value), WellAll P h vs (ofPys (xs.map .int)) → RepL [] h (xs.map .int) vs := by
    intro xs
    induction xs with
    | nil => intro vs q; simp only [List.map_nil, ofPys] at q; cases q; simp [RepL]
    | cons x xs ih =>
      intro vs q
      simp only [List.map_cons, ofPys, ofPy] at q
      cases q with
      | cons q1 q2 =>
        cases q1
        simp only [List.map_cons, RepL, Rep]
        exact ⟨_, _, rfl, ⟨_, rfl⟩, ih _ q2⟩
  simp only [ofPy] at hw
  cases hw with
  | list h1 h2 =>
    simp only [Rep]
    exact ⟨_, _, 0, rfl, h1, by simp, by simpa using key _ _ h2⟩

theorem giv_of {w : World} {h : Heap} {os0 : OsState} {mg mb : Str → Option Value} {pp : Program} {loose : List Str} {mean : ExcName → Option Value} (X : (KF w.params).In h) (hT : TabsAt [(cC, cP)] h) (T : Top pp loose mean mg mb h) :
    Giv { prog := prog, w := w, h0 := ghostOf h [(cC, cP)], C := cC, P := cP, os0 := os0, mg := mg, mb := mb, tq := tq0, qn := qn0 } := by
  have X' : (KF w.params).In (ghostOf h [(cC, cP)]) := ghost_K hT X (by kernel_rfl)
  have gns := ghost_ns hT T.g
  have bns := ghost_ns hT T.b
  have none_of : ∀ x, nsIn (KF w.params) mainGlobals x = some none → mg x = none := fun x e => mg_none_of X T.g e
  have blt : ∀ (x : Str) (v : Value), (x == ("__name__" : Str)) = false → bootBuiltins x = some v → mb x = some v := fun x v h1 h2 => (T.builtins x (by simpa using h1)).trans h2
  refine ⟨X', ⟨gns, bns, none_of _ (by kernel_rfl), none_of _ (by kernel_rfl), none_of _ (by kernel_rfl), none_of _ (by kernel_rfl), none_of _ (by kernel_rfl), none_of _ (by kernel_rfl), none_of _ (by kernel_rfl), none_of _ (by kernel_rfl),
    blt _ _ (by decide) rfl, blt _ _ (by decide) rfl, blt _ _ (by decide) rfl, blt _ _ (by decide) rfl, blt _ _ (by decide) rfl, blt _ _ (by decide) rfl, blt _ _ (by decide) rfl, blt _ _ (by decide) rfl⟩, ?_, rfl, rfl, rfl, rfl, none_of _ (by kernel_rfl), blt _ _ (by decide) rfl⟩
  refine ⟨codeHd_of_K X' (by kernel_rfl), ?_, (by decide : mainGlobals ≠ cP), hideAll_none _ (by simp), ?_, ?_, ?_⟩
  · obtain ⟨mc, a, r⟩ := T.nolimit; exact ⟨mc, ghost_ns hT a, r⟩
  · obtain ⟨bm, ob, a1, a2, a3, a4, a5, a6⟩ := T.bmain
    refine ⟨bm, ob, a1, a2, ?_, ?_, ghost_get hT a3 (fun q => by rw [q] at a4; cases a4), a4, a5, a6⟩
    · rintro rfl
      obtain ⟨o, es, ep, e1, e2, _⟩ := T.g
      rw [a3] at e1; cases e1; rw [a6] at e2; cases e2
    · rintro rfl
      have := (hT (cC, cP) (by simp)).2
      rw [a3] at this; cases this; cases a4
  · exact ⟨_, mg_of X T.g (by exact rfl), ⟨_, _, _, _, _, _, _, _, _, _, X' _ _ rfl, X' _ _ rfl, by kernel_rfl⟩⟩
  · exact mapTab_of (mg_of X T.g (by exact rfl)) (by rfl) (X' _ _ rfl) ⟨rfl, rfl, rfl⟩ rfl (by kernel_rfl) (by kernel_rfl)

/-- the whole of the head: what is left is the law's body, run in the small state -/
theorem head_go {w : World} {s₁ : Shared} {mg mb : Str → Option Value} {pp : Program} {loose : List Str} {mean mean' : ExcName → Option Value} {cl : Str → Option Addr} {cw : ClaimW} {fa : Addr} {v : Value} {xs : List Int} {args : List WData} {p : Str} {sc : Scope} {body : List Stmt} {trk : Pos → Bool}
    (F : ∀ G : GI, Giv G → FnOk G (Str.ofString "law") [p] sc body) (hp : sc.names.lookup p = some .local) (hmg : mg (Str.ofString "law") = some (.ref fa))
    (X : (KF w.params).In s₁.heap) (KT : ∀ P ∈ [cP], s₁.heap.get? P = some (tabObj #[])) (T : Top pp loose mean mg mb s₁.heap) (hg : s₁.gens = #[])
    (w1 : Well w.params s₁.heap v (ofPy (.list (xs.map .int)))) (hlen : ¬ (63 : Int) < xs.length)
    (hr : ∀ a x, cw.raises a x = false) (hpost : cw.post args (.bool true) args = true)
    (h : ∀ G : GI, Giv G → xs.length ≤ 63 → bodyC G 500 [p] sc trk body [.list (xs.map .int)] [] fun pv _ => pv = .bool true) :
    codeAny (model prog w) callerA (.call (.ref fa) ⟨[v], []⟩) (GoodWG cw cl mean' args s₁) s₁ := by
  have hT : TabsAt [(cC, cP)] s₁.heap := fun q hq => by
    simp only [List.mem_singleton] at hq; subst hq
    exact ⟨codeHd_of_K X (by kernel_rfl), KT cP (by simp)⟩
  have V := giv_of (os0 := s₁.os) X hT T
  have e2 := (hT (cC, cP) (by simp)).2
  refine top_end hT hr hpost (codeAny_mono (callTop (n := 500) (trk := trk) V.g V.po.nl (F _ V) hp (h _ V (by omega)) ⟨by decide, by decide, rfl, ⟨[], rfl⟩⟩ (fun tk hk => ?_) (rep_ints w1) (Nat.le_of_eq (hideAll_size _ _)) (fun lf hlf e he => by cases hlf; cases he) hmg) fun r s' hh => ?_)
  · exact ⟨fun a o e => ghost_base e, ⟨#[], e2, trivial, fun pos c q => by simp [codeAmong] at q⟩, rfl, .of_eq hg, hk, List.nodup_nil, rfl, (fun a ha => nomatch ha), fun i a m q => by simp at q⟩
  · obtain ⟨pv, v, rfl, rfl, rv, HF⟩ := hh
    simp only [Rep] at rv; subst rv
    refine ⟨rfl, HF.base, HF.os, HF.gens, ?_⟩
    obtain ⟨ps, q, _⟩ := HF.tab
    exact ⟨ps, q⟩

end

section
open PySem PySem.W PyProof.Rows PySem.Calls
set_option linter.unusedVariables false
set_option maxRecDepth 100000
set_option maxHeartbeats 8000000

theorem f_law (G : GI) (V : Giv G) : FnOk G (Str.ofString "law") [Str.ofString "script"] (scopeAt prog 18) (bodyAt prog 18) :=
  fnOk_of V.X V.g.gns rfl rfl rfl rfl rfl rfl rfl rfl rfl rfl rfl rfl (fun h => absurd (by rfl) h) (fun vals h => by match vals, h with | [x], _ => rfl) rfl rfl rfl rfl rfl rfl

end

section
open PySem PySem.W PyProof.Rows
set_option linter.unusedVariables false
set_option linter.unusedSimpArgs false
set_option maxRecDepth 100000

variable {G : GI} {n : Nat} {hp : Hp}
/-! escape, one sign -/
theorem c_escape (V : Giv G) (c : Nat) : CallW G n (Str.ofString "escape") [.str [c]] hp fun v h => v = .str (escC c) ∧ h = hp := by
  refine call_walk (fun _ => false) V.g V.po.nl (f_escape G G.w V.X V.g.gns) rfl ?_
  refine stL_at (by exact rfl) ?_
  simp_all_arith only [isaV, isStr, List.drop]
  intro env hs
  refine E_trans (Qo := fun v h => v = .str [c] ∧ h = hp) V.g V.po.map hs rfl rfl rfl ?_ ?_
  · exact soundE V.g _ ⟨_, fun _ => false⟩ env _ _ _ hs rfl ⟨_, rfl, rfl, rfl⟩
  · rintro v h1 ⟨rfl, rfl⟩
    exact ⟨c, rfl, endC_same (frz_str ..) ⟨rfl, rfl⟩⟩

/-! _join_translated_parts: none is a star -/
def pvI (j : Nat) : Option (List Nat) → PV
  | none => .ref j
  | some t => .str t
def leadI : List (Option (List Nat)) → List (List Nat)
  | some t :: r => t :: leadI r
  | _ => []
theorem leadI_le : ∀ l : List (Option (List Nat)), (leadI l).length ≤ l.length
  | [] => by simp [leadI]
  | some t :: r => by simp [leadI]; exact leadI_le r
  | none :: r => by simp [leadI]
def jrI : List (Option (List Nat)) → List (List Nat)
  | none :: r => if r.isEmpty then [[46, 42]] else
      let f := (leadI r).flatten
      let r' := r.drop (leadI r).length
      if r'.isEmpty then [[46, 42], f] else ([40, 63, 62, 46, 42, 63] ++ f ++ [41]) :: jrI r'
  | _ => []
termination_by l => l.length
decreasing_by simp; omega
def joinI (l : List (Option (List Nat))) : List Nat := [40, 63, 115, 58] ++ (leadI l ++ jrI (l.drop (leadI l).length)).flatten ++ [41, 92, 90]
/-- no two stars side by side -/
def noDbl : List (Option (List Nat)) → Bool
  | none :: none :: _ => false
  | _ :: r => noDbl r
  | [] => true
/-- all signs together -/
def sumI (l : List (Option (List Nat))) : Nat := (l.map fun o => match o with | some t => t.length | none => 0).sum

theorem isV_pv (h : Hp) (j : Nat) (o : Option (List Nat)) : isV h (pvI j o) (.ref j) = some o.isNone := by
  cases o <;> simp [pvI, isV]
theorem leadI_drop : ∀ (l : List (Option (List Nat))) (t : List Nat) (a : Nat) (ha : a < l.length), l[a] = some t → leadI (l.drop a) = t :: leadI (l.drop (a + 1)) := by
  intro l t a ha e
  rw [List.drop_eq_getElem_cons ha, e, leadI]
theorem leadI_stop {l : List (Option (List Nat))} {a : Nat} (h : l.length ≤ a ∨ ∃ ha : a < l.length, l[a] = none) : leadI (l.drop a) = [] := by
  rcases h with h | ⟨ha, e⟩
  · rw [List.drop_eq_nil_of_le h]; rfl
  · rw [List.drop_eq_getElem_cons ha, e]; rfl

theorem sumI_cons (o : Option (List Nat)) (l : List (Option (List Nat))) : sumI (o :: l) = (match o with | some t => t.length | none => 0) + sumI l := by simp [sumI]
theorem lead_sum : ∀ l : List (Option (List Nat)), (leadI l).flatten.length + sumI (l.drop (leadI l).length) = sumI l
  | [] => by simp [leadI]
  | some t :: r => by
      have := lead_sum r
      simp only [leadI, List.flatten_cons, List.length_append, List.length_cons, List.drop_succ_cons, sumI_cons]; omega
  | none :: r => by simp [leadI]
theorem jr_len (l : List (Option (List Nat))) : (jrI l).length ≤ 2 * l.length ∧ (jrI l).flatten.length ≤ sumI l + 10 * l.length := by
  fun_induction jrI l with
  | case1 r h => simp [sumI_cons]; omega
  | case2 r h f r' h' =>
    have := lead_sum r
    simp only [sumI_cons, List.length_cons, List.length_nil, List.flatten_cons, List.length_append, List.flatten_nil]
    have hf : f = (leadI r).flatten := rfl
    cases r with
    | nil => simp at h
    | cons x r => simp only [List.length_cons]; rw [hf]; omega
  | case3 r h f r' h' ih =>
    have := lead_sum r
    have hf : f = (leadI r).flatten := rfl
    have hr : r' = r.drop (leadI r).length := rfl
    have hl : r'.length ≤ r.length := by rw [hr]; simp
    simp only [sumI_cons, List.length_cons, List.length_nil, List.flatten_cons, List.length_append]
    rw [← hr, ← hf] at this
    omega
  | case4 l h => simp
theorem jr_last {its : List (Option (List Nat))} {a : Nat} (ha : a < its.length) (e : its[a] = none) (h : a + 1 = its.length) : jrI (its.drop a) = [[46, 42]] := by
  rw [List.drop_eq_getElem_cons ha, e, List.drop_eq_nil_of_le (by omega), jrI]; rfl
theorem jr_step {its : List (Option (List Nat))} {a : Nat} (ha : a < its.length) (e : its[a] = none) (h : a + 1 < its.length) :
    jrI (its.drop a) = if a + 1 + (leadI (its.drop (a + 1))).length = its.length then [[46, 42], (leadI (its.drop (a + 1))).flatten] else ([40, 63, 62, 46, 42, 63] ++ (leadI (its.drop (a + 1))).flatten ++ [41]) :: jrI (its.drop (a + 1 + (leadI (its.drop (a + 1))).length)) := by
  have h1 : (its.drop (a + 1)).isEmpty = false := by simp; omega
  have hle := leadI_le (its.drop (a + 1))
  rw [List.length_drop] at hle
  rw [List.drop_eq_getElem_cons ha, e, jrI, h1]
  simp only [Bool.false_eq_true, if_false, List.drop_drop, List.isEmpty_iff, List.drop_eq_nil_iff]
  by_cases q : a + 1 + (leadI (its.drop (a + 1))).length = its.length
  · rw [if_pos q, if_pos (by omega)]
  · rw [if_neg q, if_neg (by omega)]
theorem noDbl_drop {its : List (Option (List Nat))} (h : noDbl its = true) {a : Nat} (ha : a + 1 < its.length) (e : its[a] = none) : ∃ t, its[a + 1] = some t := by
  induction its generalizing a with
  | nil => simp at ha
  | cons x r ih =>
    have hr : noDbl r = true := by
      cases x with
      | none =>
        cases r with
        | nil => rfl
        | cons y r =>
          cases y with
          | none => simp [noDbl] at h
          | some t => simpa [noDbl] using h
      | some t => simpa [noDbl] using h
    cases a with
    | zero =>
      cases r with
      | nil => simp at ha
      | cons y r =>
        cases y with
        | none => simp only [List.getElem_cons_zero] at e; subst e; simp [noDbl] at h
        | some t => exact ⟨t, by simp⟩
    | succ a =>
      obtain ⟨t, q⟩ := ih hr (a := a) (by simpa using ha) (by simpa using e)
      exact ⟨t, by simpa using q⟩

theorem jr_tot {its : List (Option (List Nat))} (hb : its.length ≤ 100000) (hs : sumI its ≤ 3000000) {acc rest : List (List Nat)} (e : leadI its ++ jrI (its.drop (leadI its).length) = acc ++ rest) : acc.length < 1000000 ∧ acc.flatten.length ≤ 4000000 := by
  have h1 := lead_sum its
  have h2 := jr_len (its.drop (leadI its).length)
  have h3 := leadI_le its
  rw [List.length_drop] at h2
  have e1 := congrArg List.length e
  have e2 := congrArg (fun l => l.flatten.length) e
  simp only [List.flatten_append, List.length_append] at e1 e2
  omega
theorem big_gt {a : Nat} (h : a ≤ 4100000) : a < big := by unfold big; omega
theorem big_ge {a : Nat} (h : a ≤ 4100000) : a ≤ big := by unfold big; omega
abbrev Kj : Cfg := ⟨scopeAt prog 9, fun _ => false⟩
abbrev Ej (hp : Hp) (its : List (Option (List Nat))) : Fl → Loc → Hp → Prop := EndC hp fun v h => v = .str (joinI its) ∧ h = hp
theorem join_fin (its : List (Option (List Nat))) (hb : its.length ≤ 100000) (hs : sumI its ≤ 3000000) (l : Loc) (t : Hp) (l3 : l (Str.ofString "res") = some (.ref hp.length)) (l5 : l (Str.ofString "i") = some (.int its.length)) (l6 : l (Str.ofString "n") = some (.int its.length)) :
    stL G n Kj ((bodyAt prog 9).drop 5) l (hp ++ .list ((leadI its ++ jrI (its.drop (leadI its).length)).map .str) :: t) (Ej hp its) := by
  have hp1 := jr_tot hb hs (List.append_nil _).symm
  have ej : joinI its = [40, 63, 115, 58] ++ (leadI its ++ jrI (its.drop (leadI its).length)).flatten ++ [41, 92, 90] := rfl
  unfold Ej
  rw [ej]
  generalize leadI its ++ jrI (its.drop (leadI its).length) = T at hp1
  refine stL_at (by exact rfl) ?_
  simp_all_arith only [l5, l6]
  refine stL_at (by exact rfl) ?_
  have e1 : methV (Str.ofString "join") (hp ++ .list (T.map .str) :: t) (.str []) [.ref hp.length] = some (.str T.flatten, hp ++ .list (T.map .str) :: t) := by
    rw [meth_join (cont_end rfl) (by rw [joinL_nil]; exact big_ge (by omega)) (by simp) (big_ge (by omega)), joinL_nil]
  simp_all_arith only [l3, e1]
  refine stL_at (by exact rfl) ?_
  simp_all_arith only [l3, e1]
  exact ⟨big_ge (by omega), big_ge (by omega), big_ge (by omega), endC_of (frz_str ..) ⟨rfl, rfl⟩⟩

def Bj : List Stmt := subB (bodyAt prog 9) 4
/-- the run behind a star -/
theorem join_run (its : List (Option (List Nat))) (inp : PV) (j : Nat) (hc : contents hp inp = some (its.map (pvI j))) (hb : its.length ≤ 100000)
    (l : Loc) (b0 : Nat) (hb0 : b0 ≤ its.length) (X : List PV) (t : Hp) (Q : Fl → Loc → Hp → Prop)
    (l1 : l (Str.ofString "inp") = some inp) (l2 : l (Str.ofString "STAR") = some (.ref j)) (l3 : l (Str.ofString "res") = some (.ref hp.length)) (l4 : l (Str.ofString "add") = some (.app hp.length))
    (l5 : l (Str.ofString "i") = some (.int b0)) (l6 : l (Str.ofString "n") = some (.int its.length)) (l7 : l (Str.ofString "fixed") = some (.ref (hp ++ .list X :: t).length))
    (hq : ∀ l' : Loc, l' (Str.ofString "inp") = some inp → l' (Str.ofString "STAR") = some (.ref j) → l' (Str.ofString "res") = some (.ref hp.length) → l' (Str.ofString "add") = some (.app hp.length) →
      l' (Str.ofString "i") = some (.int (b0 + (leadI (its.drop b0)).length : Nat)) → l' (Str.ofString "n") = some (.int its.length) → l' (Str.ofString "fixed") = some (.ref (hp ++ .list X :: t).length) →
      stL G n Kj (Bj.drop 6) l' (hp ++ .list X :: t ++ [.list ((leadI (its.drop b0)).map .str)]) Q) : stL G n Kj (Bj.drop 5) l (hp ++ .list X :: t ++ [.list []]) Q := by
  refine stL_at (by exact rfl) ?_
  simp only [stS]
  refine whileW_of (fun m l h => ∃ a : Nat, a ≤ its.length ∧ m = its.length - a ∧ l (Str.ofString "inp") = some inp ∧ l (Str.ofString "STAR") = some (.ref j) ∧ l (Str.ofString "res") = some (.ref hp.length) ∧ l (Str.ofString "add") = some (.app hp.length) ∧
    l (Str.ofString "i") = some (.int a) ∧ l (Str.ofString "n") = some (.int its.length) ∧ l (Str.ofString "fixed") = some (.ref (hp ++ .list X :: t).length) ∧ ∃ acc : List (List Nat), h = hp ++ .list X :: t ++ [.list (acc.map .str)] ∧ a = b0 + acc.length ∧ leadI (its.drop b0) = acc ++ leadI (its.drop a)) ?_
    (m := its.length - b0) ⟨b0, hb0, rfl, l1, l2, l3, l4, l5, l6, l7, [], rfl, rfl, rfl⟩
  clear l1 l2 l3 l4 l5 l6 l7 l
  rintro I m l h hI ⟨a, ha, rfl, l1, l2, l3, l4, l5, l6, l7, acc, rfl, hacc, hlead⟩
  have out : leadI (its.drop a) = [] → stL G n Kj (Bj.drop 6) l (hp ++ .list X :: t ++ [.list (acc.map .str)]) Q := fun e => by
    rw [e, List.append_nil] at hlead
    have := hq l l1 l2 l3 l4 (by rw [hlead, ← hacc]; exact l5) l6 l7
    rwa [hlead] at this
  by_cases hlt : a < its.length
  · have q1 : ((a : Int) < (its.length : Int)) = True := by simp; omega
    have hi : itemV (hp ++ .list X :: t ++ [.list (acc.map .str)]) inp (.int (a : Int)) = some (pvI j its[a]) := by
      have := item_nat (contents_app (t := .list X :: t ++ [.list (acc.map .str)]) hc) (i := a) (by simpa using hlt) (big_ge (by omega))
      rw [List.append_assoc]; simpa using this
    cases e : its[a] with
    | none =>
      rw [e] at hi
      simp_all_arith only [l1, l2, l3, l4, l5, l6, l7, q1, hi, isV_pv, Option.isNone_none, List.cons_append]
      exact out (leadI_stop (.inr ⟨hlt, e⟩))
    | some x =>
      rw [e] at hi
      have hm : methV (Str.ofString "append") (hp ++ .list X :: t ++ [.list (acc.map .str)]) (.ref (hp ++ .list X :: t).length) [pvI j (some x)] = some (.none, hp ++ .list X :: t ++ [.list ((acc ++ [x]).map .str)]) := by
        rw [meth_end rfl (by rw [List.length_map]; exact big_gt (by omega))]; simp [pvI]
      have hcon : (contents (hp ++ .list X :: t ++ [.list (acc.map .str)]) (.ref (hp ++ .list X :: t).length)).isSome = true := by rw [cont_end rfl]; rfl
      simp_all_arith only [l1, l2, l3, l4, l5, l6, l7, q1, hi, isV_pv, Option.isNone_some, hm, hcon]
      refine hI _ _ _ ?_ ⟨a + 1, hlt, rfl, ?_, ?_, ?_, ?_, ?_, ?_, ?_, acc ++ [x], rfl, ?_, ?_⟩
      all_goals (try simp_all_arith! only [l1, l2, l3, l4, l5, l6, l7])
      · omega
      · simp
      · simp; omega
      · rw [hlead, leadI_drop _ _ _ hlt e]; simp
  · have q1 : ((a : Int) < (its.length : Int)) = False := by simp; omega
    simp_all_arith only [l1, l2, l3, l4, l5, l6, l7, q1]
    exact out (leadI_stop (.inl (by omega)))

/-- one star and what is behind it -/
theorem join_mid (its : List (Option (List Nat))) (inp : PV) (j : Nat) (hc : contents hp inp = some (its.map (pvI j))) (hd : noDbl its = true) (hb : its.length ≤ 100000) (hs : sumI its ≤ 3000000)
    (l : Loc) (l1 : l (Str.ofString "inp") = some inp) (l2 : l (Str.ofString "STAR") = some (.ref j)) (l3 : l (Str.ofString "res") = some (.ref hp.length)) (l4 : l (Str.ofString "add") = some (.app hp.length))
    (l5 : l (Str.ofString "i") = some (.int (leadI its).length)) (l6 : l (Str.ofString "n") = some (.int its.length)) :
    stL G n Kj ((bodyAt prog 9).drop 4) l (hp ++ [.list ((leadI its).map .str)]) (Ej hp its) := by
  have hlead : ∀ (l : List (Option (List Nat))) (ha : (leadI l).length < l.length), l[(leadI l).length] = none := by
    intro l
    induction l with
    | nil => intro ha; simp at ha
    | cons o r ih => cases o with
      | none => intro ha; simp [leadI]
      | some t => intro ha; simp only [leadI, List.length_cons, List.getElem_cons_succ]; exact ih (by simpa [leadI] using ha)
  refine stL_at (by exact rfl) ?_
  simp only [stS]
  refine whileW_of (fun m l h => ∃ a : Nat, a ≤ its.length ∧ m = its.length - a ∧ l (Str.ofString "inp") = some inp ∧ l (Str.ofString "STAR") = some (.ref j) ∧ l (Str.ofString "res") = some (.ref hp.length) ∧ l (Str.ofString "add") = some (.app hp.length) ∧
    l (Str.ofString "i") = some (.int a) ∧ l (Str.ofString "n") = some (.int its.length) ∧ (∀ ha : a < its.length, its[a] = none) ∧ ∃ (acc : List (List Nat)) (t : Hp), h = hp ++ .list (acc.map .str) :: t ∧ leadI its ++ jrI (its.drop (leadI its).length) = acc ++ jrI (its.drop a)) ?_
    (m := its.length - (leadI its).length) ⟨(leadI its).length, leadI_le its, rfl, l1, l2, l3, l4, l5, l6, hlead its, leadI its, [], rfl, rfl⟩
  clear l1 l2 l3 l4 l5 l6 l
  rintro I m l h hI ⟨a, ha, rfl, l1, l2, l3, l4, l5, l6, hst, acc, t, rfl, hacc⟩
  have hbd := jr_tot hb hs hacc
  by_cases hlt : a < its.length
  · have q1 : ((a : Int) < (its.length : Int)) = True := by simp; omega
    have e := hst hlt
    have hi : itemV (hp ++ .list (acc.map .str) :: t) inp (.int (a : Int)) = some (pvI j none) := by
      have := item_nat (contents_app (t := .list (acc.map .str) :: t) hc) (i := a) (by simpa using hlt) (big_ge (by omega))
      rw [this]; simp [e]
    simp_all_arith! only [l1, l2, l3, l4, l5, l6, q1]
    show stL G n Kj (Bj.drop 0) l _ _
    refine stL_at (by exact rfl) ?_
    simp_all_arith only [l1, l2, l3, l4, l5, l6, hi, isV_pv, Option.isNone_none]
    refine stL_at (by exact rfl) ?_
    simp_all_arith only [l5]
    by_cases hlast : a + 1 = its.length
    · have q2 : ((a : Int) + 1 = (its.length : Int)) = True := by simp; omega
      have hm : methV (Str.ofString "append") (hp ++ .list (acc.map .str) :: t) (.ref hp.length) [.str [46, 42]] = some (.none, hp ++ .list ((acc ++ [[46, 42]]).map .str) :: t) := by
        rw [meth_end rfl (by rw [List.length_map]; exact big_gt (by omega))]; simp
      refine stL_at (by exact rfl) ?_
      simp_all_arith only [l4, l6, q2, hm]
      rw [jr_last hlt e hlast] at hacc
      rw [← hacc]
      refine join_fin its hb hs _ t ?_ ?_ ?_ <;> simp_all_arith! only [l3, l6]
      rw [← hlast]; simp
    · have q2 : ((a : Int) + 1 = (its.length : Int)) = False := by simp; omega
      have hlt1 : a + 1 < its.length := by omega
      obtain ⟨x, hx⟩ := noDbl_drop hd hlt1 e
      have hi1 : itemV (hp ++ .list (acc.map .str) :: t) inp (.int ((a : Int) + 1)) = some (pvI j (some x)) := by
        have := item_nat (contents_app (t := .list (acc.map .str) :: t) hc) (i := a + 1) (by simpa using hlt1) (big_ge (by omega))
        rw [show ((a : Int) + 1) = ((a + 1 : Nat) : Int) by simp, this]; simp [hx]
      refine stL_at (by exact rfl) ?_
      simp_all_arith only [l4, l6, q2]
      refine stL_at (by exact rfl) ?_
      simp_all_arith only [l1, l2, hi1, isV_pv, Option.isNone_some]
      refine stL_at (by exact rfl) ?_
      simp_all_arith only []
      refine join_run its inp j hc hb _ (a + 1) (Nat.le_of_lt hlt1) _ t _ ?_ ?_ ?_ ?_ ?_ ?_ ?_ ?_
      all_goals (try (simp_all_arith! only [l1, l2, l3, l4, l5, l6]; done))
      · simp_all_arith! only []; simp
      · clear l1 l2 l3 l4 l5 l6 q1 q2 hi hi1 l
        intro l l1 l2 l3 l4 l5 l6 l7
        have hF := lead_sum (its.drop (a + 1))
        have hFl := leadI_le (its.drop (a + 1))
        rw [List.length_drop] at hFl
        rw [jr_step hlt e hlt1] at hacc
        generalize hb' : a + 1 + (leadI (its.drop (a + 1))).length = b at hacc l5
        have hst' : ∀ hb : b < its.length, its[b] = none := fun hbl => by
          have := hlead (its.drop (a + 1)) (by rw [List.length_drop]; omega)
          rw [List.getElem_drop] at this
          subst hb'; exact this
        have hbd2 : (leadI (its.drop (a + 1))).flatten.length ≤ 4000000 := by
          by_cases q : b = its.length
          · rw [if_pos q, show acc ++ [[46, 42], (leadI (its.drop (a + 1))).flatten] = (acc ++ [[46, 42], (leadI (its.drop (a + 1))).flatten]) ++ [] by simp] at hacc
            have := (jr_tot hb hs hacc).2
            simp only [List.flatten_append, List.flatten_cons, List.length_append] at this; omega
          · rw [if_neg q, show ∀ (x : List Nat) (y : List (List Nat)), acc ++ (x :: y) = (acc ++ [x]) ++ y by simp] at hacc
            have := (jr_tot hb hs hacc).2
            simp only [List.flatten_append, List.flatten_cons, List.length_append] at this; omega
        generalize leadI (its.drop (a + 1)) = F at *
        rw [show hp ++ .list (acc.map .str) :: t ++ [.list (F.map .str)] = hp ++ .list (acc.map .str) :: (t ++ [.list (F.map .str)]) by simp]
        have hj : methV (Str.ofString "join") (hp ++ .list (acc.map .str) :: (t ++ [.list (F.map .str)])) (.str []) [.ref (hp ++ .list (acc.map .str) :: t).length] = some (.str F.flatten, hp ++ .list (acc.map .str) :: (t ++ [.list (F.map .str)])) := by
          rw [meth_join (xs := F) ?_ (by rw [joinL_nil]; exact big_ge (by omega)) (by simp) (big_ge (by omega)), joinL_nil]
          rw [show hp ++ .list (acc.map .str) :: (t ++ [.list (F.map .str)]) = (hp ++ .list (acc.map .str) :: t) ++ .list (F.map .str) :: [] by simp]
          exact cont_end rfl
        have hm : ∀ (A : List (List Nat)) (x : List Nat) (T : Hp), A.length ≤ 2000000 → methV (Str.ofString "append") (hp ++ .list (A.map .str) :: T) (.ref hp.length) [.str x] = some (.none, hp ++ .list ((A ++ [x]).map .str) :: T) := fun A x T hA => by
          rw [meth_end rfl (by rw [List.length_map]; exact big_gt (by omega))]; simp
        refine stL_at (by exact rfl) ?_
        simp_all_arith only [l7, hj]
        by_cases hlast : b = its.length
        · have q2 : ((b : Int) = (its.length : Int)) = True := by simp; omega
          rw [if_pos hlast] at hacc
          refine stL_at (by exact rfl) ?_
          simp_all_arith only [l4, l5, l6, q2, hm acc _ _ (by omega)]
          simp_all_arith only [l4, l5, l6, q2, hm (acc ++ [[46, 42]]) _ _ (by simp; omega)]
          refine stL_end (by decide) ?_
          refine hI _ _ _ ?_ ⟨its.length, Nat.le_refl _, rfl, ?_, ?_, ?_, ?_, ?_, ?_, fun h => absurd h (by omega), acc ++ [[46, 42], F.flatten], t ++ [.list (F.map .str)], ?_, ?_⟩
          all_goals (try (simp_all_arith! only [l1, l2, l3, l4, l5, l6]; done))
          · omega
          · simp_all_arith! only [l5, hlast]
          · simp
          · have e0 : jrI (its.drop its.length) = [] := by rw [List.drop_length]; simp [jrI]
            rw [hacc, e0, List.append_nil]
        · have q2 : ((b : Int) = (its.length : Int)) = False := by simp; omega
          rw [if_neg hlast] at hacc
          refine stL_at (by exact rfl) ?_
          simp_all_arith only [l4, l5, l6, q2, hm acc _ _ (by omega)]
          refine ⟨big_ge (by omega), big_ge (by omega), big_ge (by omega), ?_⟩
          refine stL_end (by decide) ?_
          refine hI _ _ _ ?_ ⟨b, by omega, rfl, ?_, ?_, ?_, ?_, ?_, ?_, hst', acc ++ [40 :: 63 :: 62 :: 46 :: 42 :: 63 :: (F.flatten ++ [41])], t ++ [.list (F.map .str)], rfl, ?_⟩
          all_goals (try (simp_all_arith! only [l1, l2, l3, l4, l5, l6]; done))
          · omega
          · rw [hacc]; simp
  · have q1 : ((a : Int) < (its.length : Int)) = False := by simp; omega
    simp_all_arith! only [l1, l2, l3, l4, l5, l6, q1]
    have ea : a = its.length := by omega
    subst ea
    have e0 : jrI (its.drop its.length) = [] := by rw [List.drop_length]; simp [jrI]
    rw [e0, List.append_nil] at hacc
    rw [← hacc]
    exact join_fin its hb hs _ t l3 l5 l6

theorem c_join (V : Giv G) (inp : PV) (j : Nat) (its : List (Option (List Nat))) (hc : contents hp inp = some (its.map (pvI j))) (hd : noDbl its = true) (hb : its.length ≤ 100000) (hs : sumI its ≤ 3000000) :
    CallW G n (Str.ofString "_join_translated_parts") [inp, .ref j] hp fun v h => v = .str (joinI its) ∧ h = hp := by
  refine call_walk (fun _ => false) V.g V.po.nl (f_join G G.w V.X V.g.gns) rfl ?_
  have hlen : ∀ t, bltV (Str.ofString "len") (hp ++ t) [inp] = some (.int its.length) := fun t => by
    have := len_cont (contents_app (t := t) hc) (by rw [List.length_map]; exact big_ge (by omega)); simpa using this
  refine stL_at (by exact rfl) ?_
  simp_all_arith only []
  refine stL_at (by exact rfl) ?_
  simp_all_arith only []
  refine ⟨by simp [contents], ?_⟩
  refine stL_at (by exact rfl) ?_
  simp_all_arith only [hlen]
  refine ⟨big_ge (by omega), ?_⟩
  refine stL_at (by exact rfl) ?_
  simp only [stS]
  refine whileW_of (fun m l h => ∃ a : Nat, a ≤ its.length ∧ m = its.length - a ∧ l (Str.ofString "inp") = some inp ∧ l (Str.ofString "STAR") = some (.ref j) ∧ l (Str.ofString "res") = some (.ref hp.length) ∧ l (Str.ofString "add") = some (.app hp.length) ∧
    l (Str.ofString "i") = some (.int a) ∧ l (Str.ofString "n") = some (.int its.length) ∧ ∃ acc : List (List Nat), h = hp ++ [.list (acc.map .str)] ∧ acc.length = a ∧ leadI its = acc ++ leadI (its.drop a)) ?_ (m := its.length) ⟨0, by simp, by simp, rfl, rfl, rfl, rfl, rfl, rfl, [], rfl, rfl, rfl⟩
  rintro I m l h hI ⟨a, ha, rfl, l1, l2, l3, l4, l5, l6, acc, rfl, hacc, hlead⟩
  have out : leadI (its.drop a) = [] → stL G n Kj ((bodyAt prog 9).drop 4) l (hp ++ [.list (acc.map .str)]) (Ej hp its) := fun e => by
    rw [e, List.append_nil] at hlead
    rw [← hlead]
    exact join_mid its inp j hc hd hb hs l l1 l2 l3 l4 (by rw [hlead, hacc]; exact l5) l6
  by_cases hlt : a < its.length
  · have q1 : ((a : Int) < (its.length : Int)) = True := by simp; omega
    have hi := item_nat (contents_app (t := [.list (acc.map .str)]) hc) (i := a) (by simpa using hlt) (big_ge (by omega))
    rw [List.getElem_map] at hi
    cases e : its[a] with
    | none =>
      rw [e] at hi
      simp_all_arith only [l1, l2, l3, l4, l5, l6, q1, hi, isV_pv, Option.isNone_none]
      exact out (leadI_stop (.inr ⟨hlt, e⟩))
    | some x =>
      rw [e] at hi
      have hm : methV (Str.ofString "append") (hp ++ [.list (acc.map .str)]) (.ref hp.length) [pvI j (some x)] = some (.none, hp ++ [.list ((acc ++ [x]).map .str)]) := by
        rw [meth_end rfl (by rw [List.length_map]; exact big_gt (by omega))]; simp [pvI]
      simp_all_arith only [l1, l2, l3, l4, l5, l6, q1, hi, isV_pv, Option.isNone_some, hm]
      refine hI _ _ _ ?_ ⟨a + 1, hlt, rfl, ?_, ?_, ?_, ?_, ?_, ?_, acc ++ [x], rfl, ?_, ?_⟩
      all_goals (try (simp_all_arith! only [l1, l2, l3, l4, l5, l6]; done))
      · omega
      · simp_all_arith! only []; simp
      · simp; omega
      · rw [hlead, leadI_drop _ _ _ hlt e]; simp
  · have q1 : ((a : Int) < (its.length : Int)) = False := by simp; omega
    simp_all_arith only [l1, l2, l3, l4, l5, l6, q1]
    exact out (leadI_stop (.inl (by omega)))

end

section
open PySem PySem.W PyProof.Rows
set_option linter.unusedVariables false
set_option maxRecDepth 100000

/-! _translate in plain words -/
/-- where the search for a bracket's end begins -/
def skipB (r : List Nat) : Nat :=
  let a := if r.head? = some 33 then 1 else 0
  if r[a]? = some 93 then a + 1 else a
def endB (r : List Nat) : Nat := skipB r + ((r.drop (skipB r)).takeWhile (fun c => c != 93)).length

/-- the runs between the hyphens that stand for a range -/
def cuts (s : List Nat) (i k : Nat) : List (List Nat) × Nat := match h : (s.drop k).findIdx? (· == 45) with
  | none => ([], i)
  | some d => let r := cuts s (k + d + 1) (k + d + 3); ((s.take (k + d)).drop i :: r.1, r.2)
termination_by s.length - k
decreasing_by
  have := (List.findIdx?_eq_some_iff_getElem.mp h).1
  rw [List.length_drop] at this; omega
def chunks0 (s : List Nat) (k : Nat) : List (List Nat) :=
  let r := cuts s 0 k
  if (s.drop r.2).isEmpty then r.1.dropLast ++ [r.1.getLastD [] ++ [45]] else r.1 ++ [s.drop r.2]
/-- ranges that go down are dropped, from the right -/
def mergeR : List (List Nat) → List (List Nat)
  | [] => []
  | x :: r => match mergeR r with
    | [] => [x]
    | y :: ys => if y.headD 0 < x.getLastD 0 then (x.dropLast ++ y.tail) :: ys else x :: y :: ys
def stuffB (s : List Nat) : List Nat :=
  twS (if s.contains 45 then joinL [45] ((mergeR (chunks0 s (if s.head? = some 33 then 2 else 1))).map chunkS) else replC s 92 [92, 92])
def brkU (u : List Nat) : List Nat :=
  if u.isEmpty then [40, 63, 33, 41] else if u = [33] then [46] else
    [91] ++ (if u.head? = some 33 then 94 :: u.tail else if u.head? = some 94 ∨ u.head? = some 91 then 92 :: u else u) ++ [93]
def brkT (s : List Nat) : List Nat := brkU (stuffB s)

def isSt (j : Nat) : PV → Bool
  | .ref k => k == j
  | _ => false
def addSt (j : Nat) (acc : List PV) : List PV := match acc.getLast? with
  | some v => if isSt j v then acc else acc ++ [.ref j]
  | none => acc ++ [.ref j]
def trP (j : Nat) (mk : PV) : List Nat → List PV → List PV
  | [], acc => acc
  | c :: r, acc =>
    if c = 42 then trP j mk r (addSt j acc)
    else if c = 63 then trP j mk r (acc ++ [mk])
    else if c = 91 then
      if r.length ≤ endB r then trP j mk r (acc ++ [.str [92, 91]])
      else trP j mk (r.drop (endB r + 1)) (acc ++ [.str (brkT (r.take (endB r)))])
    else trP j mk r (acc ++ [.str (escC c)])
termination_by r => r.length
decreasing_by all_goals simp; try omega

theorem skipB_le (r : List Nat) : skipB r ≤ r.length := by
  unfold skipB
  simp only []
  have h0 : (if r.head? = some 33 then 1 else 0) ≤ r.length := by
    split
    · cases r <;> simp_all
    · omega
  generalize (if r.head? = some 33 then 1 else 0) = a at h0
  split
  · rename_i h; have := (List.getElem?_eq_some_iff.mp h).1; omega
  · exact h0
theorem endB_le (r : List Nat) : endB r ≤ r.length := by
  unfold endB
  have h1 := skipB_le r
  have h2 := (List.takeWhile_prefix (fun c => c != 93) (l := r.drop (skipB r))).length_le
  rw [List.length_drop] at h2; omega
theorem cuts_len (s : List Nat) (i k : Nat) (hi : i ≤ s.length) : (cuts s i k).2 ≤ s.length ∧ (cuts s i k).1.length ≤ s.length - k ∧ ((cuts s i k).1 = [] → (cuts s i k).2 = i) := by
  fun_induction cuts s i k with
  | case1 i k h => exact ⟨hi, by simp, fun _ => rfl⟩
  | case2 i k d h r ih =>
    have hd := (List.findIdx?_eq_some_iff_getElem.mp h).1
    rw [List.length_drop] at hd
    obtain ⟨h1, h2, h3⟩ := ih (by omega)
    refine ⟨h1, ?_, fun q => by cases q⟩
    show (cuts s (k + d + 1) (k + d + 3)).1.length + 1 ≤ _
    omega
/-- the chunks are never empty but the first and the last ones may be of one sign -/
def okTail : List (List Nat) → Prop
  | [] => False
  | [x] => x ≠ []
  | x :: r => 2 ≤ x.length ∧ okTail r
def okHead : List (List Nat) → Prop
  | [] => False
  | [x] => x ≠ []
  | x :: r => x ≠ [] ∧ okTail r
theorem mergeR_tail : ∀ {l : List (List Nat)}, okTail l → ∃ y ys, mergeR l = y :: ys ∧ y ≠ []
  | [x], h => ⟨x, [], rfl, h⟩
  | x :: z :: r, h => by
      obtain ⟨h1, h2⟩ := h
      obtain ⟨y, ys, e, hy⟩ := mergeR_tail h2
      have hx : x ≠ [] := by intro q; subst q; simp at h1
      rw [mergeR, e]
      simp only []
      split
      · refine ⟨_, _, rfl, fun q => ?_⟩
        have := congrArg List.length q
        simp at this; omega
      · exact ⟨_, _, rfl, hx⟩

end

section
open PySem PySem.W PyProof.Rows
set_option linter.unusedVariables false
set_option maxRecDepth 100000

theorem cuts_elem (s : List Nat) (a b : Nat) (hab : a + 1 ≤ b) : (∀ (i : Nat) (x : List Nat), (cuts s a b).1[i]? = some x → x ≠ [] ∧ (1 ≤ i → 2 ≤ x.length)) ∧ (a + 2 ≤ b → ∀ (i : Nat) (x : List Nat), (cuts s a b).1[i]? = some x → 2 ≤ x.length) := by
  fun_induction cuts s a b with
  | case1 i k h => exact ⟨fun i x q => by simp at q, fun _ i x q => by simp at q⟩
  | case2 a b d h r ih =>
    have hd := (List.findIdx?_eq_some_iff_getElem.mp h).1
    rw [List.length_drop] at hd
    obtain ⟨ih1, ih2⟩ := ih (by omega)
    have ih2 := ih2 (by omega)
    have hl : ((s.take (b + d)).drop a).length = b + d - a := by rw [List.length_drop, List.length_take]; omega
    refine ⟨fun i x q => ?_, fun h2 i x q => ?_⟩
    · cases i with
      | zero =>
        simp at q; subst q
        refine ⟨fun e => ?_, fun h => by omega⟩
        rw [e] at hl; simp at hl; omega
      | succ i =>
        simp at q
        have := ih2 i x q
        exact ⟨fun e => by rw [e] at this; simp at this, fun _ => this⟩
    · cases i with
      | zero => simp at q; subst q; rw [hl]; omega
      | succ i => simp at q; exact ih2 i x q
theorem okTail_of : ∀ {l : List (List Nat)}, l ≠ [] → (∀ x ∈ l, x ≠ []) → (∀ i x, i + 1 < l.length → l[i]? = some x → 2 ≤ x.length) → okTail l
  | [], h, _, _ => absurd rfl h
  | [x], _, h, _ => h x (by simp)
  | x :: y :: r, _, h, k => ⟨k 0 x (by simp) (by simp), okTail_of (by simp) (fun z hz => h z (by simp [hz])) fun i z hi hz => k (i + 1) z (by simp at hi ⊢; omega) (by simpa using hz)⟩
/-- what is known of the chunks -/
theorem chunks_ok {s : List Nat} {k : Nat} (hk : 1 ≤ k) (hs : s ≠ []) : chunks0 s k ≠ [] ∧ (∀ x ∈ chunks0 s k, x ≠ []) ∧ ∀ m, 1 ≤ m → m < (chunks0 s k).length → okTail ((chunks0 s k).drop m) := by
  have hc := (cuts_elem s 0 k (by omega)).1
  have hl := cuts_len s 0 k (by omega)
  have key : chunks0 s k ≠ [] ∧ (∀ x ∈ chunks0 s k, x ≠ []) ∧ ∀ i x, 1 ≤ i → i + 1 < (chunks0 s k).length → (chunks0 s k)[i]? = some x → 2 ≤ x.length := by
    unfold chunks0
    generalize cuts s 0 k = r at hc hl
    obtain ⟨C, f⟩ := r
    simp only [] at hc hl ⊢
    have hne : ∀ x ∈ C, x ≠ [] := fun x hx => by
      obtain ⟨i, hi⟩ := List.getElem?_of_mem hx
      exact (hc i x hi).1
    split
    · rename_i he
      have hC : C ≠ [] := fun q => by
        have := hl.2.2 q; subst this
        rw [List.drop_zero] at he; simp at he; exact hs he
      refine ⟨by simp, fun x hx => ?_, fun i x h1 h2 hx => ?_⟩
      · rcases List.mem_append.mp hx with q | q
        · exact hne x (List.dropLast_subset C q)
        · simp only [List.mem_singleton] at q; subst q; simp
      · simp only [List.length_append, List.length_dropLast, List.length_cons, List.length_nil] at h2
        rw [List.getElem?_append_left (by rw [List.length_dropLast]; omega), List.getElem?_dropLast] at hx
        split at hx
        · exact (hc i x hx).2 h1
        · cases hx
    · rename_i he
      refine ⟨by simp, fun x hx => ?_, fun i x h1 h2 hx => ?_⟩
      · rcases List.mem_append.mp hx with q | q
        · exact hne x q
        · simp only [List.mem_singleton] at q; subst q; intro e; rw [e] at he; simp at he
      · simp only [List.length_append, List.length_cons, List.length_nil] at h2
        rw [List.getElem?_append_left (by omega)] at hx
        exact (hc i x hx).2 h1
  refine ⟨key.1, key.2.1, fun m h1 h2 => okTail_of (by simp; omega) (fun x hx => key.2.1 x (List.mem_of_mem_drop hx)) fun i x hi hx => ?_⟩
  rw [List.getElem?_drop] at hx
  rw [List.length_drop] at hi
  exact key.2.2 (m + i) x (by omega) (by omega) hx
/-- the range that goes down -/
def downP : Nat → List PV
  | 0 => []
  | k + 1 => .int ((k + 1 : Nat) : Int) :: downP k
theorem range_down (N : Nat) : (rangeL (N : Int) 0 (-1)).map PV.int = downP N := by
  unfold rangeL
  simp only [show ¬ ((0 : Int) < -1) by omega, if_false]
  rw [show ((N : Int) - 0).toNat = N by omega]
  induction N with
  | zero => rfl
  | succ k ih =>
    rw [List.range_succ_eq_map]
    simp only [List.map_cons, List.map_map, downP]
    refine List.cons_eq_cons.mpr ⟨by simp, ?_⟩
    rw [← ih, List.map_map]
    apply List.map_congr_left
    intro a _
    simp only [Function.comp]
    congr 1
    push_cast
    omega
/-- sizes -/
def totL (l : List (List Nat)) : Nat := l.flatten.length
theorem mergeR_tot : ∀ l : List (List Nat), totL (mergeR l) ≤ totL l ∧ (mergeR l).length ≤ l.length
  | [] => by simp [mergeR]
  | x :: r => by
      obtain ⟨h1, h2⟩ := mergeR_tot r
      rw [mergeR]
      split
      · rename_i e; simp [totL]
      · rename_i y ys e
        rw [e] at h1 h2
        simp only [totL, List.flatten_cons, List.length_append, List.length_cons] at h1 h2 ⊢
        split
        · simp only [List.flatten_cons, List.length_append, List.length_dropLast, List.length_tail, List.length_cons]; omega
        · simp only [List.flatten_cons, List.length_append, List.length_cons]; omega
theorem cuts_none {s : List Nat} {a b : Nat} (h : (s.drop b).findIdx? (· == 45) = none) : cuts s a b = ([], a) := by
  rw [cuts]; split <;> rename_i h' <;> rw [h] at h' <;> cases h' <;> rfl
theorem cuts_some {s : List Nat} {a b d : Nat} (h : (s.drop b).findIdx? (· == 45) = some d) : cuts s a b = ((s.take (b + d)).drop a :: (cuts s (b + d + 1) (b + d + 3)).1, (cuts s (b + d + 1) (b + d + 3)).2) := by
  rw [cuts]; split <;> rename_i h' <;> rw [h] at h' <;> cases h' <;> rfl
theorem joinL_len (c : Nat) (l : List (List Nat)) : (joinL [c] l).length ≤ totL l + l.length := by
  induction l with
  | nil => simp [joinL]
  | cons x r ih =>
    cases r with
    | nil => simp [joinL, totL]
    | cons y ys =>
      simp only [joinL, totL, List.flatten_cons, List.length_append, List.length_cons, List.length_nil] at ih ⊢
      omega
theorem replC_len2 (x : List Nat) (c : Nat) (z : List Nat) (hz : z.length = 2) : (replC x c z).length ≤ 2 * x.length := by
  induction x with
  | nil => simp [replC]
  | cons d r ih =>
    rw [replC, List.flatMap_cons, List.length_append]
    rw [replC] at ih
    simp only [List.length_cons]
    split
    · omega
    · simp only [List.length_cons, List.length_nil]; omega
theorem chunkS_len (x : List Nat) : (chunkS x).length ≤ 4 * x.length := by
  unfold chunkS
  have h1 := replC_len2 x 92 [92, 92] rfl
  have h2 := replC_len2 (replC x 92 [92, 92]) 45 [92, 45] rfl
  omega
theorem chunks_tot (l : List (List Nat)) : totL (l.map chunkS) ≤ 4 * totL l := by
  induction l with
  | nil => simp [totL]
  | cons x r ih =>
    have := chunkS_len x
    simp only [totL, List.map_cons, List.flatten_cons, List.length_append] at ih ⊢; omega
theorem mem_tot {l : List (List Nat)} {x : List Nat} (h : x ∈ l) : x.length ≤ totL l := by
  induction l with
  | nil => cases h
  | cons y r ih =>
    simp only [totL, List.flatten_cons, List.length_append] at ih ⊢
    rcases List.mem_cons.mp h with q | q
    · subst q; omega
    · have := ih q; omega
theorem cuts_tot (s : List Nat) (a b : Nat) (hab : a ≤ b) : totL (cuts s a b).1 + (s.drop (cuts s a b).2).length ≤ s.length - a := by
  fun_induction cuts s a b with
  | case1 a b h => simp [totL]
  | case2 a b d h r ih =>
    have hd := (List.findIdx?_eq_some_iff_getElem.mp h).1
    rw [List.length_drop] at hd
    have ih := ih (by omega)
    have hl : ((s.take (b + d)).drop a).length = b + d - a := by rw [List.length_drop, List.length_take]; omega
    show totL (_ :: (cuts s (b + d + 1) (b + d + 3)).1) + (s.drop (cuts s (b + d + 1) (b + d + 3)).2).length ≤ _
    simp only [totL, List.flatten_cons, List.length_append, hl] at ih ⊢
    omega
theorem chunks0_len (s : List Nat) (k : Nat) : totL (chunks0 s k) ≤ s.length + 1 ∧ (chunks0 s k).length ≤ s.length + 1 := by
  have h1 := cuts_tot s 0 k (by omega)
  have h2 := (cuts_len s 0 k (by omega)).2.1
  unfold chunks0
  generalize cuts s 0 k = r at h1 h2
  obtain ⟨C, f⟩ := r
  simp only [] at h1 h2 ⊢
  split
  · rcases List.eq_nil_or_concat C with e | ⟨D, x, e⟩
    · subst e; simp [totL]
    · rw [List.concat_eq_append] at e; subst e
      have e2 : (D ++ [x]).getLastD [] = x := by simp
      rw [e2]
      simp only [totL, List.dropLast_concat, List.flatten_append, List.length_append, List.flatten_cons, List.flatten_nil, List.append_nil, List.length_cons, List.length_nil] at h1 h2 ⊢
      omega
  · simp only [totL, List.flatten_append, List.length_append, List.flatten_cons, List.flatten_nil, List.append_nil, List.length_cons, List.length_nil] at h1 h2 ⊢
    omega
theorem downP_len : ∀ k, (downP k).length = k
  | 0 => rfl
  | k + 1 => by simp [downP, downP_len k]

end

section
open PySem PySem.W PyProof.Rows
set_option linter.unusedVariables false
set_option linter.unusedSimpArgs false
set_option maxRecDepth 100000
set_option maxHeartbeats 4000000

variable {G : GI} {n : Nat} {hp : Hp}
abbrev Kt : Cfg := ⟨scopeAt prog 8, fun _ => false⟩
def Bt : List Stmt := subB (bodyAt prog 8) 3
def Bb : List Stmt := subB (subE (subE Bt 2) 0) 0
def Be : List Stmt := subE Bb 4
def Bc : List Stmt := subE Be 1
/-- a part -/
def okPart (k : Nat) (v : PV) : Prop := (∃ t, v = .str t) ∨ ∃ i, v = .ref i ∧ i < k
structure Lt (l : Loc) (pat : List Nat) (j : Nat) (mk : PV) (k0 i : Nat) : Prop where
  fpat : l (Str.ofString "pat") = some (.str pat)
  fstar : l (Str.ofString "STAR") = some (.ref j)
  fmark : l (Str.ofString "QUESTION_MARK") = some mk
  fres : l (Str.ofString "res") = some (.ref k0)
  fadd : l (Str.ofString "add") = some (.app k0)
  fi : l (Str.ofString "i") = some (.int i)
  fn : l (Str.ofString "n") = some (.int pat.length)
theorem item_str {hp : Hp} {x : List Nat} {i : Nat} (hi : i < x.length) (hb : i ≤ big) : itemV hp (.str x) (.int i) = some (.str [x[i]]) := by
  have hs := small_nat hb
  unfold itemV
  simp [hs, idx_nat, hi]
theorem isV_st {h : Hp} {j : Nat} {k : Nat} {v : PV} (ok : okPart k v) (hj : okRef h j = true) : isV h v (.ref j) = some (isSt j v) := by
  rcases ok with ⟨t, rfl⟩ | ⟨i, rfl, _⟩
  · rfl
  · rw [isV_ref hj]; simp [isSt]; by_cases q : i = j <;> simp [q]
theorem mapO_same {f : PV → Option PV} : ∀ {l : List PV}, (∀ v ∈ l, f v = some v) → mapO f l = some l
  | [], _ => rfl
  | x :: r, h => by
      simp only [mapO, h x (by simp), mapO_same (l := r) (fun v hv => h v (by simp [hv]))]; rfl
theorem frz_parts {hp t : Hp} {acc : List PV} (h : ∀ v ∈ acc, okPart hp.length v) : freeze (hp ++ .list acc :: t) hp.length 8 (.ref hp.length) = some (.list acc) := by
  rw [frz_ref, if_neg (Nat.lt_irrefl _), getE_end]
  simp only []
  rw [mapO_same fun v hv => ?_]; · rfl
  rcases h v hv with ⟨t, rfl⟩ | ⟨i, rfl, hi⟩
  · rfl
  · rw [frz_ref, if_pos hi]

theorem Lt.put {l : Loc} {pat : List Nat} {j : Nat} {mk : PV} {k0 i : Nat} (L : Lt l pat j mk k0 i) {x : Str} {v : PV}
    (hx : [Str.ofString "pat", Str.ofString "STAR", Str.ofString "QUESTION_MARK", Str.ofString "res", Str.ofString "add", Str.ofString "i", Str.ofString "n"].contains x = false) : Lt (upd l x v) pat j mk k0 i := by
  have h : ∀ y, y ∈ [Str.ofString "pat", Str.ofString "STAR", Str.ofString "QUESTION_MARK", Str.ofString "res", Str.ofString "add", Str.ofString "i", Str.ofString "n"] → upd l x v y = l y := fun y hy => by
    refine upd_other l v ?_
    rintro rfl
    have h2 := List.elem_eq_true_of_mem hy
    change List.contains _ _ = true at h2
    rw [hx] at h2; cases h2
  constructor
  · rw [h _ (by simp)]; exact L.fpat
  · rw [h _ (by simp)]; exact L.fstar
  · rw [h _ (by simp)]; exact L.fmark
  · rw [h _ (by simp)]; exact L.fres
  · rw [h _ (by simp)]; exact L.fadd
  · rw [h _ (by simp)]; exact L.fi
  · rw [h _ (by simp)]; exact L.fn

/-- the search for the bracket's end -/
theorem brk_find (pat : List Nat) (hpl : pat.length ≤ 800) (j : Nat) (mk : PV) (l : Loc) (i : Nat) (hi : i ≤ pat.length) (h : Hp) (L : Lt l pat j mk hp.length i) (Q : Fl → Loc → Hp → Prop)
    (hq : ∀ l', Lt l' pat j mk hp.length i → l' (Str.ofString "j") = some (.int (i + endB (pat.drop i) : Nat)) → stL G n Kt (Bb.drop 4) l' h Q) :
    stL G n Kt (Bb.drop 0) l h Q := by
  -- the loop
  have w3 : ∀ l', Lt l' pat j mk hp.length i → l' (Str.ofString "j") = some (.int (i + skipB (pat.drop i) : Nat)) → stL G n Kt (Bb.drop 3) l' h Q := by
    intro l' L' lj
    have hs := skipB_le (pat.drop i)
    rw [List.length_drop] at hs
    refine stL_at (by exact rfl) ?_
    simp only [stS]
    refine whileW_of (fun m l' h' => h' = h ∧ Lt l' pat j mk hp.length i ∧ ∃ b, i + b ≤ pat.length ∧ m = pat.length - (i + b) ∧ l' (Str.ofString "j") = some (.int (i + b : Nat)) ∧ skipB (pat.drop i) ≤ b ∧
      endB (pat.drop i) = b + (((pat.drop i).drop b).takeWhile (fun c => c != 93)).length) ?_ (m := pat.length - (i + skipB (pat.drop i))) ⟨rfl, L', _, by omega, rfl, lj, Nat.le_refl _, rfl⟩
    clear L' lj l'
    rintro I m l' h' hI ⟨rfl, L', b, hb, rfl, lj, hsb, he⟩
    by_cases hlt : i + b < pat.length
    · have q1 : (((i + b : Nat) : Int) < (pat.length : Int)) = True := by simp; omega
      have hd : (pat.drop i).drop b = pat[i + b] :: (pat.drop i).drop (b + 1) := by
        rw [List.drop_drop, List.drop_drop, List.drop_eq_getElem_cons hlt]; rfl
      rw [hd] at he
      by_cases c93 : pat[i + b] = 93
      · have q2 : ([pat[i + b]] = [93]) = True := by simp [c93]
        simp_arith only [↓optP_of lj, ↓optP_of L'.fn, ↓optP_of L'.fpat, ↓optP_of (item_str hlt (big_ge (by omega))), q1, q2]
        refine hq _ L' ?_
        rw [he, lj]; simp [c93]
      · have q2 : ([pat[i + b]] = [93]) = False := by simp [c93]
        simp_arith only [↓optP_of lj, ↓optP_of L'.fn, ↓optP_of L'.fpat, ↓optP_of (item_str hlt (big_ge (by omega))), q1, q2]
        refine hI _ _ _ ?_ ⟨rfl, L'.put rfl, b + 1, hlt, rfl, ?_, by omega, ?_⟩
        · omega
        · simp_arith! only []; congr 2 <;> omega
        · rw [he]; simp [c93]; omega
    · have q1 : (((i + b : Nat) : Int) < (pat.length : Int)) = False := by simp; omega
      simp_arith only [↓optP_of lj, ↓optP_of L'.fn, q1]
      refine hq _ L' ?_
      rw [he, lj, List.drop_drop, List.drop_eq_nil_of_le (by omega)]; simp
  have w2 : ∀ l' a, Lt l' pat j mk hp.length i → l' (Str.ofString "j") = some (.int (i + a : Nat)) → a = (if (pat.drop i).head? = some 33 then 1 else 0) → i + a ≤ pat.length → stL G n Kt (Bb.drop 2) l' h Q := by
    intro l' a L' lj ha hal
    have hsk : skipB (pat.drop i) = if (pat.drop i)[a]? = some 93 then a + 1 else a := by rw [ha]; rfl
    rw [List.getElem?_drop] at hsk
    refine stL_at (by exact rfl) ?_
    by_cases hlt : i + a < pat.length
    · have q1 : (((i + a : Nat) : Int) < (pat.length : Int)) = True := by simp; omega
      by_cases c93 : pat[i + a] = 93
      · have q2 : ([pat[i + a]] = [93]) = True := by simp [c93]
        simp_arith only [↓optP_of lj, ↓optP_of L'.fn, ↓optP_of L'.fpat, ↓optP_of (item_str hlt (big_ge (by omega))), q1, q2]
        refine w3 _ (L'.put rfl) ?_
        rw [hsk, if_pos (by rw [List.getElem?_eq_getElem hlt, c93])]
        simp_arith! only []; congr 2 <;> omega
      · have q2 : ([pat[i + a]] = [93]) = False := by simp [c93]
        simp_arith only [↓optP_of lj, ↓optP_of L'.fn, ↓optP_of L'.fpat, ↓optP_of (item_str hlt (big_ge (by omega))), q1, q2]
        refine w3 _ L' ?_
        rw [hsk, if_neg (by rw [List.getElem?_eq_getElem hlt]; simpa using c93)]
        exact lj
    · have q1 : (((i + a : Nat) : Int) < (pat.length : Int)) = False := by simp; omega
      simp_arith only [↓optP_of lj, ↓optP_of L'.fn, q1]
      refine w3 _ L' ?_
      rw [hsk, if_neg (by rw [List.getElem?_eq_none (by omega)]; simp)]
      exact lj
  refine stL_at (by exact rfl) ?_
  simp_arith only [↓optP_of L.fi]
  refine stL_at (by exact rfl) ?_
  have L1 : Lt (Fnm.upd l (Str.ofString "j") (.int (i : Int))) pat j mk hp.length i := L.put rfl
  by_cases hlt : i < pat.length
  · have q1 : ((i : Int) < (pat.length : Int)) = True := by simp; omega
    have hh : (pat.drop i).head? = some pat[i] := by rw [List.drop_eq_getElem_cons hlt]; rfl
    by_cases c33 : pat[i] = 33
    · have q2 : ([pat[i]] = [33]) = True := by simp [c33]
      simp_arith only [↓optP_of L.fn, ↓optP_of L.fpat, ↓optP_of (item_str hlt (big_ge (by omega))), q1, q2]
      refine w2 _ 1 (L1.put rfl) ?_ ?_ hlt
      · simp_arith! only []; congr 2
      · rw [hh, c33]; rfl
    · have q2 : ([pat[i]] = [33]) = False := by simp [c33]
      simp_arith only [↓optP_of L.fn, ↓optP_of L.fpat, ↓optP_of (item_str hlt (big_ge (by omega))), q1, q2]
      refine w2 _ 0 L1 ?_ ?_ (by omega)
      · simp_arith! only []; rfl
      · rw [hh, if_neg (by simpa using c33)]
  · have q1 : ((i : Int) < (pat.length : Int)) = False := by simp; omega
    simp_arith only [↓optP_of L.fn, q1]
    refine w2 _ 0 L1 ?_ ?_ (by omega)
    · simp_arith! only []; rfl
    · rw [List.drop_eq_nil_of_le (by omega)]; rfl

theorem be_tail (V : Giv G) (pat : List Nat) (hpl : pat.length ≤ 800) (j : Nat) (mk : PV) (l : Loc) (i' e : Nat) (acc : List PV) (t : Hp) (ha : acc.length ≤ 800) (L : Lt l pat j mk hp.length i') (v : List Nat) (hv : v.length ≤ 100000)
    (lj : l (Str.ofString "j") = some (.int (e : Nat))) (lv : l (Str.ofString "stuff") = some (.str v)) (Q : Fl → Loc → Hp → Prop)
    (hq : ∀ l', Lt l' pat j mk hp.length (e + 1) → Q .next l' (hp ++ .list (acc ++ [.str (brkU (twS v))]) :: t)) :
    stL G n Kt (Be.drop 2) l (hp ++ .list acc :: t) Q := by
  refine stL_at (by exact rfl) ?_
  simp_arith only []
  intro env hs
  refine E_sub V.g V.po hs rfl (by rw [Env.kindOf, hs]; decide) rfl rfl ⟨fun _ _ _ _ _ _ _ => rfl, rfl, rfl, rfl, by decide, rfl, rfl⟩ (by rw [V.qn, V.tq]; rfl) rfl rfl lv hv ?_
  clear hs env
  have hu : (twS v).length ≤ 1000000 := by
    have : ∀ x : List Nat, (twS x).length ≤ 2 * x.length := by
      intro x
      induction x with
      | nil => simp [twS]
      | cons c r ih => rw [twS, List.flatMap_cons, List.length_append]; rw [twS] at ih; simp only [List.length_cons]; split <;> simp only [List.length_cons, List.length_nil] <;> omega
    have := this v; omega
  have hm : ∀ x, methV (Str.ofString "append") (hp ++ .list acc :: t) (.ref hp.length) [.str x] = some (.none, hp ++ .list (acc ++ [.str x]) :: t) := fun x => meth_end rfl (big_gt (by omega))
  revert hq hu
  generalize twS v = u
  intro hq hu
  refine stL_at (by exact rfl) ?_
  simp_arith only [↓optP_of lj]
  have L2 : Lt (upd (upd l (Str.ofString "stuff") (.str u)) (Str.ofString "i") (.int ((e : Int) + 1))) pat j mk hp.length (e + 1) := by
    constructor <;> simp_arith! only [L.fpat, L.fstar, L.fmark, L.fres, L.fadd, L.fn]; simp
  refine stL_at (by exact rfl) ?_
  cases u with
  | nil =>
    simp_arith only [↓optP_of L.fadd, ↓fun x => optP_of (hm x)]
    exact stL_end (by decide) (hq _ L2)
  | cons c r =>
    have hb : (c :: r).length ≤ big := big_ge (by omega)
    by_cases e33 : c :: r = [33]
    · have q1 : (c :: r = [33]) = True := by simp [e33]
      simp_arith only [q1, ↓optP_of L.fadd, ↓fun x => optP_of (hm x)]
      refine ⟨hb, stL_end (by decide) ?_⟩
      have := hq _ L2
      rwa [show brkU (c :: r) = [46] by rw [e33]; rfl] at this
    · have q1 : (c :: r = [33]) = False := by simp only [e33]
      by_cases c33 : c = 33
      · have q2 : ([c] = [33]) = True := by simp [c33]
        have hB : brkU (c :: r) = [91] ++ 94 :: r ++ [93] := by unfold brkU; rw [if_neg (by simp), if_neg e33, if_pos (by simp [c33])]; rfl
        rw [hB] at hq
        simp_arith only [q1, q2, ↓optP_of L.fadd, ↓fun x => optP_of (hm x), ↓optP_of item_head, ↓optP_of (slice_tail hb)]
        simp only [List.length_cons] at hu
        exact ⟨big_ge (by omega), big_ge (by omega), big_ge (by omega), big_ge (by omega), big_ge (by omega), stL_end (by decide) (hq _ (L2.put rfl))⟩
      · have q2 : ([c] = [33]) = False := by simp [c33]
        by_cases c9 : c = 94 ∨ c = 91
        · have hB : brkU (c :: r) = [91] ++ 92 :: (c :: r) ++ [93] := by unfold brkU; rw [if_neg (by simp), if_neg e33, if_neg (by simp [c33]), if_pos (by simpa using c9)]
          rw [hB] at hq
          simp_arith only [q1, q2, c9, ↓optP_of L.fadd, ↓fun x => optP_of (hm x), ↓optP_of item_head, ↓optP_of in_two]
          simp only [List.length_cons] at hu
          exact ⟨big_ge (by omega), big_ge (by omega), big_ge (by omega), big_ge (by omega), big_ge (by omega), big_ge (by omega), stL_end (by decide) (hq _ (L2.put rfl))⟩
        · have hB : brkU (c :: r) = [91] ++ (c :: r) ++ [93] := by unfold brkU; rw [if_neg (by simp), if_neg e33, if_neg (by simp [c33]), if_neg (by simpa using c9)]
          rw [hB] at hq
          simp_arith only [q1, q2, c9, ↓optP_of L.fadd, ↓fun x => optP_of (hm x), ↓optP_of item_head, ↓optP_of in_two]
          simp only [List.length_cons] at hu
          exact ⟨big_ge (by omega), big_ge (by omega), big_ge (by omega), big_ge (by omega), big_ge (by omega), stL_end (by decide) (hq _ L2)⟩
theorem tr_end (pat : List Nat) (j : Nat) (mk : PV) (l : Loc) (acc : List PV) (t : Hp) (L : Lt l pat j mk hp.length pat.length) (ok : ∀ v ∈ acc, okPart hp.length v) (Q : PV → Hp → Prop) (q : Q (.list acc) hp) :
    stL G n Kt ((bodyAt prog 8).drop 4) l (hp ++ .list acc :: t) (EndC hp Q) := by
  refine stL_at (by exact rfl) ?_
  simp_arith only [↓optP_of L.fi, ↓optP_of L.fn]
  refine stL_at (by exact rfl) ?_
  simp_arith only [↓optP_of L.fres]
  exact endC_of (frz_parts ok) q

end

section
open PySem PySem.W PyProof.Rows
set_option linter.unusedVariables false
set_option linter.unusedSimpArgs false
set_option maxRecDepth 100000
set_option maxHeartbeats 4000000

variable {G : GI} {n : Nat} {hp : Hp}
theorem find_at {h : Hp} {pat : List Nat} {i b e : Nat} (hp1 : pat.length ≤ 800) (he : i + e ≤ pat.length) (hb : b ≤ e + 3) :
    methV (Str.ofString "find") h (.str pat) [.str [45], .int ((i + b : Nat) : Int), .int ((i + e : Nat) : Int)] = some (.int (match ((((pat.drop i).take e).drop b).findIdx? (· == 45)) with | none => -1 | some d => ((i + b + d : Nat) : Int)), h) := by
  unfold methV
  simp only [ofs_inj, String.reduceEq, if_false, if_true]
  rw [if_pos ⟨by omega, by omega, by omega, by omega, big_ge (by omega)⟩]
  unfold findC
  have h1 : (List.take ((i + e : Nat) : Int).toNat pat).drop ((i + b : Nat) : Int).toNat = ((pat.drop i).take e).drop b := by
    simp only [Int.toNat_natCast]
    rw [List.take_drop, List.drop_drop]
  rw [h1]
  simp only [Int.toNat_natCast]
  cases ((((pat.drop i).take e).drop b).findIdx? (· == 45)) with
  | none => rfl
  | some d => rfl
theorem int_eq {a b : Int} (h : a = b) : (some (PV.int a)) = some (PV.int b) := by rw [h]
theorem sl_rel {pat : List Nat} {i e a b : Nat} (hb : b ≤ e) : (pat.take (i + b)).drop (i + a) = (((pat.drop i).take e).take b).drop a := by
  rw [List.take_take, Nat.min_eq_left hb, List.take_drop, List.drop_drop]
/-- the search for the hyphens -/
theorem bc_cut (pat : List Nat) (hpl : pat.length ≤ 800) (j : Nat) (mk : PV) (l : Loc) (i e : Nat) (he : i + e ≤ pat.length) (h0 : 0 < e) (H : Hp) (L : Lt l pat j mk hp.length i) (lj : l (Str.ofString "j") = some (.int (i + e : Nat)))
    (Q : Fl → Loc → Hp → Prop) (s : List Nat) (hs : s = (pat.drop i).take e) (r : List (List Nat) × Nat) (hr : r = cuts s 0 (if s.head? = some 33 then 2 else 1))
    (hq : ∀ l', Lt l' pat j mk hp.length (i + r.2) → l' (Str.ofString "j") = some (.int (i + e : Nat)) → l' (Str.ofString "chunks") = some (.ref H.length) → stL G n Kt (Bc.drop 3) l' (H ++ [.list (r.1.map .str)]) Q) :
    stL G n Kt (Bc.drop 0) l H Q := by
  have hsl : s.length = e := by rw [hs, List.length_take, List.length_drop]; omega
  have loop : ∀ (l : Loc) (k0 : Nat), Lt l pat j mk hp.length i → l (Str.ofString "j") = some (.int (i + e : Nat)) → l (Str.ofString "chunks") = some (.ref H.length) → l (Str.ofString "k") = some (.int (i + k0 : Nat)) → r = cuts s 0 k0 → k0 ≤ 2 →
      stL G n Kt (Bc.drop 2) l (H ++ [.list []]) Q := by
    intro l k0 L lj lc lk hr hk0
    refine stL_at (by exact rfl) ?_
    simp only [stS]
    refine whileW_of (fun m l h => ∃ (a b : Nat) (cs : List (List Nat)), m = e + 3 - b ∧ Lt l pat j mk hp.length (i + a) ∧ l (Str.ofString "j") = some (.int (i + e : Nat)) ∧ l (Str.ofString "chunks") = some (.ref H.length) ∧ l (Str.ofString "k") = some (.int (i + b : Nat)) ∧
      h = H ++ [.list (cs.map .str)] ∧ a ≤ b ∧ b ≤ e + 2 ∧ cs.length ≤ b ∧ r.1 = cs ++ (cuts s a b).1 ∧ r.2 = (cuts s a b).2) ?_ (m := e + 3 - k0) ⟨0, k0, [], rfl, L, lj, lc, lk, rfl, by omega, by omega, by simp, by rw [hr]; rfl, by rw [hr]⟩
    clear L lj lc lk hr l
    rintro I m l h hI ⟨a, b, cs, rfl, L, lj, lc, lk, rfl, hab, hbe, hcs, hr1, hr2⟩
    have hf := find_at (h := H ++ [.list (cs.map .str)]) (b := b) hpl he (by omega)
    rw [← hs] at hf
    cases hd : (s.drop b).findIdx? (· == 45) with
    | none =>
      rw [hd] at hf
      rw [cuts_none hd] at hr1 hr2
      simp_arith only [↓optP_of L.fpat, ↓optP_of lk, ↓optP_of lj, ↓optP_of hf, show ((-1 : Int) < 0) = True by simp]
      have := hq (upd l (Str.ofString "k") (.int (-1))) (hr2 ▸ L.put rfl) (by simp_arith! only []; exact lj) (by simp_arith! only []; exact lc)
      rwa [hr1, List.append_nil] at this
    | some d =>
      rw [hd] at hf
      have hdl := (List.findIdx?_eq_some_iff_getElem.mp hd).1
      rw [List.length_drop] at hdl
      rw [cuts_some hd] at hr1 hr2
      have hsl1 : sliceV (H ++ [.list (cs.map .str)]) (.str pat) (.int ((i + a : Nat) : Int)) (.int ((i + b + d : Nat) : Int)) = some (.str ((s.take (b + d)).drop a)) := by
        rw [show i + b + d = i + (b + d) by omega, slice_nat (big_ge (by omega)) (by omega) (by omega), sl_rel (e := e) (by omega), ← hs]
      have hm : methV (Str.ofString "append") (H ++ [.list (cs.map .str)]) (.ref H.length) [.str ((s.take (b + d)).drop a)] = some (.none, H ++ [.list ((cs ++ [(s.take (b + d)).drop a]).map .str)]) := by
        rw [meth_end rfl (by rw [List.length_map]; exact big_gt (by omega))]; simp
      have hcon : (contents (H ++ [.list (cs.map .str)]) (.ref H.length)).isSome = true := by rw [cont_end rfl]; rfl
      have q0 : (((i + b + d : Nat) : Int) < 0) = False := by simp; omega
      simp_arith only [↓optP_of L.fpat, ↓optP_of L.fi, ↓optP_of lk, ↓optP_of lj, ↓optP_of lc, ↓optP_of hf, q0, ↓optP_of hsl1, ↓optP_of hm, hcon]
      refine hI _ _ _ ?_ ⟨b + d + 1, b + d + 3, cs ++ [(s.take (b + d)).drop a], rfl, ?_, ?_, ?_, ?_, rfl, by omega, by omega, by simp; omega, ?_, hr2⟩
      · omega
      · constructor <;> simp_arith! only [L.fpat, L.fstar, L.fmark, L.fres, L.fadd, L.fn]; exact int_eq (by omega)
      · simp_arith! only [lj]
      · simp_arith! only [lc]
      · simp_arith! only []; exact int_eq (by omega)
      · rw [hr1]; simp
  refine stL_at (by exact rfl) ?_
  simp_arith only []
  refine stL_at (by exact rfl) ?_
  have hlt : i < pat.length := by omega
  have hh : s.head? = some pat[i] := by
    rw [hs, List.drop_eq_getElem_cons hlt]
    cases e with
    | zero => omega
    | succ e => rfl
  by_cases c33 : pat[i] = 33
  · have q2 : ([pat[i]] = [33]) = True := by simp [c33]
    simp_arith only [↓optP_of L.fi, ↓optP_of L.fpat, ↓optP_of (item_str hlt (big_ge (by omega))), q2]
    refine loop _ 2 ((L.put rfl).put rfl) ?_ ?_ ?_ ?_ (by omega)
    · simp_arith! only [lj]
    · simp_arith! only []
    · simp_arith! only []; exact int_eq (by omega)
    · rw [hr, hh, if_pos (by rw [c33])]
  · have q2 : ([pat[i]] = [33]) = False := by simp [c33]
    simp_arith only [↓optP_of L.fi, ↓optP_of L.fpat, ↓optP_of (item_str hlt (big_ge (by omega))), q2]
    refine loop _ 1 ((L.put rfl).put rfl) ?_ ?_ ?_ ?_ (by omega)
    · simp_arith! only [lj]
    · simp_arith! only []
    · simp_arith! only []; exact int_eq (by omega)
    · rw [hr, hh, if_neg (by simpa using c33)]

/-- the last chunk -/
theorem bc_last (pat : List Nat) (hpl : pat.length ≤ 800) (j : Nat) (mk : PV) (l : Loc) (i e k0 : Nat) (he : i + e ≤ pat.length) (H : Hp) (s : List Nat) (hs : s = (pat.drop i).take e) (hne : s ≠ []) (r : List (List Nat) × Nat) (hr : r = cuts s 0 k0)
    (L : Lt l pat j mk hp.length (i + r.2)) (lj : l (Str.ofString "j") = some (.int (i + e : Nat))) (lc : l (Str.ofString "chunks") = some (.ref H.length))
    (Q : Fl → Loc → Hp → Prop)
    (hq : ∀ l', Lt l' pat j mk hp.length (i + r.2) → l' (Str.ofString "j") = some (.int (i + e : Nat)) → l' (Str.ofString "chunks") = some (.ref H.length) → stL G n Kt (Bc.drop 5) l' (H ++ [.list ((chunks0 s k0).map .str)]) Q) :
    stL G n Kt (Bc.drop 3) l (H ++ [.list (r.1.map .str)]) Q := by
  have hsl : s.length = e := by rw [hs, List.length_take, List.length_drop]; omega
  have hcl := cuts_len s 0 k0 (by omega)
  rw [← hr] at hcl
  have hc0 : chunks0 s k0 = if (s.drop r.2).isEmpty then r.1.dropLast ++ [r.1.getLastD [] ++ [45]] else r.1 ++ [s.drop r.2] := by rw [hr]; rfl
  have hsl1 : sliceV (H ++ [.list (r.1.map .str)]) (.str pat) (.int ((i + r.2 : Nat) : Int)) (.int ((i + e : Nat) : Int)) = some (.str (s.drop r.2)) := by
    rw [slice_nat (big_ge (by omega)) (by omega) (by omega), sl_rel (e := e) (Nat.le_refl _), ← hs, List.take_of_length_le (by omega)]
  have hcon : (contents (H ++ [.list (r.1.map .str)]) (.ref H.length)).isSome = true := by rw [cont_end rfl]; rfl
  refine stL_at (by exact rfl) ?_
  simp_arith only [↓optP_of L.fpat, ↓optP_of L.fi, ↓optP_of lj, ↓optP_of hsl1]
  have L1 : Lt (upd l (Str.ofString "chunk") (.str (s.drop r.2))) pat j mk hp.length (i + r.2) := L.put rfl
  have lj1 : upd l (Str.ofString "chunk") (.str (s.drop r.2)) (Str.ofString "j") = some (.int (i + e : Nat)) := by simp_arith! only [lj]
  have lc1 : upd l (Str.ofString "chunk") (.str (s.drop r.2)) (Str.ofString "chunks") = some (.ref H.length) := by simp_arith! only [lc]
  refine stL_at (by exact rfl) ?_
  cases hd : (s.drop r.2).isEmpty with
  | false =>
    rw [hd] at hc0
    have hm : methV (Str.ofString "append") (H ++ [.list (r.1.map .str)]) (.ref H.length) [.str (s.drop r.2)] = some (.none, H ++ [.list ((r.1 ++ [s.drop r.2]).map .str)]) := by
      rw [meth_end rfl (by rw [List.length_map]; exact big_gt (by omega))]; simp
    simp_arith only [hd, ↓optP_of lc, ↓optP_of hm, hcon]
    refine ⟨big_ge (by rw [List.length_drop]; omega), ?_⟩
    have := hq _ L1 lj1 lc1
    rw [hc0] at this; exact this
  | true =>
    rw [hd] at hc0
    have hC : r.1 ≠ [] := fun q => by
      have := hcl.2.2 q; rw [this, List.drop_zero] at hd; simp at hd; exact hne hd
    rcases List.eq_nil_or_concat r.1 with q | ⟨D, x, q⟩
    · exact absurd q hC
    rw [List.concat_eq_append] at q
    rw [q] at hcl hcon
    have hxl : x.length ≤ 100000 := by
      have h1 := cuts_tot s 0 k0 (by omega)
      rw [← hr, q] at h1
      have := mem_tot (l := D ++ [x]) (x := x) (by simp)
      omega
    have hlen : (D ++ [x]).length ≤ 800 := by omega
    have ct : contents (H ++ [.list ((D ++ [x]).map .str)]) (.ref H.length) = some (D.map .str ++ [.str x]) := by rw [cont_end rfl]; simp
    have hst : ∀ w, storeV (H ++ [.list ((D ++ [x]).map .str)]) (.ref H.length) (.int (-1)) (.str w) = some (H ++ [.list ((D ++ [w]).map .str)]) := fun w => by
      rw [store_last (P := D.map .str) (v := .str x) (by simp) (by simp at hlen ⊢; exact big_ge (by omega))]; simp
    rw [q]
    simp_arith only [hd, ↓optP_of lc, ↓Int.reduceNeg, ↓optP_of (item_last ct), ↓fun w => optP_of (hst w)]
    have := hq _ L1 lj1 lc1
    rw [hc0, q] at this
    simp only [if_true, List.dropLast_concat, List.getLastD_concat] at this
    exact ⟨big_ge (by rw [List.length_drop]; omega), big_ge (by omega), this⟩

/-- the ranges that go down -/
theorem bc_merge (pat : List Nat) (j : Nat) (mk : PV) (l : Loc) (i' e : Nat) (H : Hp) (cs : List (List Nat)) (hlen : cs.length ≤ 1000) (htot : totL cs ≤ 100000) (h0 : cs ≠ []) (h1 : ∀ x ∈ cs, x ≠ []) (h2 : ∀ m, 1 ≤ m → m < cs.length → okTail (cs.drop m))
    (L : Lt l pat j mk hp.length i') (lj : l (Str.ofString "j") = some (.int (e : Nat))) (lc : l (Str.ofString "chunks") = some (.ref H.length))
    (Q : Fl → Loc → Hp → Prop)
    (hq : ∀ l', Lt l' pat j mk hp.length i' → l' (Str.ofString "j") = some (.int (e : Nat)) → l' (Str.ofString "chunks") = some (.ref H.length) → stL G n Kt (Bc.drop 6) l' (H ++ [.list ((mergeR cs).map .str)]) Q) :
    stL G n Kt (Bc.drop 5) l (H ++ [.list (cs.map .str)]) Q := by
  have ct : contents (H ++ [.list (cs.map .str)]) (.ref H.length) = some (cs.map .str) := cont_end rfl
  have hln : bltV (Str.ofString "len") (H ++ [.list (cs.map .str)]) [.ref H.length] = some (.int cs.length) := by
    have := len_cont ct (by rw [List.length_map]; exact big_ge (by omega)); simpa using this
  obtain ⟨N, hN⟩ : ∃ N, cs.length = N + 1 := by cases cs with
    | nil => exact absurd rfl h0
    | cons x r => exact ⟨r.length, rfl⟩
  have hsub : ((cs.length : Int) - 1) = (N : Int) := by omega
  have hrg : bltV (Str.ofString "range") (H ++ [.list (cs.map .str)]) [.int (N : Int), .int 0, .int (-1)] = some (.range N 0 (-1)) := by
    have : rngOk (N : Int) 0 (-1) = true := by unfold rngOk tinyI; simp; omega
    simp only [bltV, ofs_inj, String.reduceEq, if_false, if_true, this]
  have hit : iterV (H ++ [.list (cs.map .str)]) (.range N 0 (-1)) = some (downP N) := by
    have : rngOk (N : Int) 0 (-1) = true := by unfold rngOk tinyI; simp; omega
    have hl : (rangeL (N : Int) 0 (-1)).length = N := by
      have := congrArg List.length (range_down N)
      rwa [List.length_map, downP_len] at this
    rw [iter_range this (by rw [hl]; exact big_ge (by omega)), range_down]
  have hdl : (downP N).length ≤ big := by rw [downP_len]; exact big_ge (by omega)
  refine stL_at (by exact rfl) ?_
  simp_arith only [↓optP_of lc, ↓optP_of hln, ↓Int.reduceNeg, hsub, ↓optP_of hrg, ↓optP_of hit]
  refine ⟨hdl, ?_⟩
  refine forL_of (fun xs l h => ∃ k, xs = downP k ∧ k < cs.length ∧ Lt l pat j mk hp.length i' ∧ l (Str.ofString "j") = some (.int (e : Nat)) ∧ l (Str.ofString "chunks") = some (.ref H.length) ∧ h = H ++ [.list ((cs.take k ++ mergeR (cs.drop k)).map .str)]) ?_ ?_ ⟨N, rfl, by omega, L, lj, lc, ?_⟩
  · clear L lj lc l hq
    rintro I x xs l h hI ⟨k, hk, hkl, L, lj, lc, rfl⟩
    cases k with
    | zero => cases hk
    | succ k =>
      cases hk
      obtain ⟨y, ys, hy, hyne⟩ := mergeR_tail (h2 (k + 1) (by omega) hkl)
      have hx : cs.take (k + 1) = cs.take k ++ [cs[k]] := by rw [List.take_add_one, List.getElem?_eq_getElem (by omega)]; rfl
      have hxne := h1 cs[k] (List.getElem_mem _)
      have hdk : cs.drop k = cs[k] :: cs.drop (k + 1) := List.drop_eq_getElem_cons (by omega)
      have hmk : mergeR (cs.drop k) = if y.headD 0 < cs[k].getLastD 0 then (cs[k].dropLast ++ y.tail) :: ys else cs[k] :: y :: ys := by rw [hdk, mergeR, hy]
      have hxt : cs[k].length ≤ totL cs := mem_tot (List.getElem_mem _)
      have hyt : y.length ≤ totL cs := by
        have q1 := (mergeR_tot (cs.drop (k + 1))).1
        rw [hy] at q1
        have q2 : totL (cs.drop (k + 1)) ≤ totL cs := by
          have : totL cs = totL (cs.take (k + 1)) + totL (cs.drop (k + 1)) := by
            unfold totL; rw [← List.length_append, ← List.flatten_append, List.take_append_drop]
          omega
        have := mem_tot (l := y :: ys) (x := y) (by simp)
        omega
      have hyl : ys.length ≤ cs.length := by
        have := (mergeR_tot (cs.drop (k + 1))).2
        rw [hy, List.length_drop] at this; simp at this; omega
      rw [hy, hx]
      have hJ : ∀ l', Lt l' pat j mk hp.length i' → l' (Str.ofString "j") = some (.int (e : Nat)) → l' (Str.ofString "chunks") = some (.ref H.length) → I l' (H ++ [.list ((cs.take k ++ mergeR (cs.drop k)).map .str)]) := fun l' a b c => hI _ _ ⟨k, rfl, by omega, a, b, c, rfl⟩
      rw [hmk] at hJ
      clear hI
      obtain ⟨D, d, hD⟩ : ∃ D d, cs[k] = D ++ [d] := by
        rcases List.eq_nil_or_concat cs[k] with q | ⟨D, d, q⟩
        · exact absurd q hxne
        · exact ⟨D, d, by rw [q, List.concat_eq_append]⟩
      obtain ⟨c, R, rfl⟩ : ∃ c R, y = c :: R := by cases y with
        | nil => exact absurd rfl hyne
        | cons c R => exact ⟨c, R, rfl⟩
      have hpl : ((cs.take k).map PV.str).length = k := by rw [List.length_map, List.length_take]; omega
      rw [hD] at hxt hJ ⊢
      simp only [List.headD_cons, List.getLastD_concat, List.dropLast_concat, List.tail_cons] at hJ
      have hh : H ++ [.list ((cs.take k ++ [D ++ [d]] ++ (c :: R) :: ys).map .str)] = H ++ [.list ((cs.take k).map .str ++ .str (D ++ [d]) :: .str (c :: R) :: ys.map .str)] := by simp
      rw [hh]
      have ct := cont_end (hp := H) (t := []) (X := (cs.take k).map PV.str ++ .str (D ++ [d]) :: .str (c :: R) :: ys.map .str) rfl
      have ct2 : contents (H ++ [.list ((cs.take k).map .str ++ .str (D ++ [d]) :: .str (c :: R) :: ys.map .str)]) (.ref H.length) = some (((cs.take k).map .str ++ [.str (D ++ [d])]) ++ .str (c :: R) :: ys.map .str) := by rw [ct]; simp
      have i1 : itemV (H ++ [.list ((cs.take k).map .str ++ .str (D ++ [d]) :: .str (c :: R) :: ys.map .str)]) (.ref H.length) (.int (((k + 1 : Nat) : Int) - 1)) = some (.str (D ++ [d])) := item_at ct (by rw [hpl]; omega) (big_ge (by omega))
      have i2 : itemV (H ++ [.list ((cs.take k).map .str ++ .str (D ++ [d]) :: .str (c :: R) :: ys.map .str)]) (.ref H.length) (.int ((k + 1 : Nat) : Int)) = some (.str (c :: R)) := item_at ct2 (by rw [List.length_append, hpl]; simp) (by rw [List.length_append, hpl]; exact big_ge (by simp; omega))
      have hxl : (D ++ [d]).length ≤ big := big_ge (by omega)
      have hyl2 : (c :: R).length ≤ big := big_ge (by omega)
      have hPl : ((cs.take k).map PV.str ++ PV.str (D ++ [d]) :: PV.str (c :: R) :: ys.map PV.str).length ≤ 4000 := by rw [List.length_append, hpl]; simp; omega
      have st : ∀ w, storeV (H ++ [.list ((cs.take k).map .str ++ .str (D ++ [d]) :: .str (c :: R) :: ys.map .str)]) (.ref H.length) (.int (((k + 1 : Nat) : Int) - 1)) w = some (H ++ [.list ((cs.take k).map .str ++ w :: .str (c :: R) :: ys.map .str)]) := fun w => by
        rw [store_at (getE_end ..) (by rw [hpl]; omega) (big_ge (by omega)), set_end]
      have de : ∀ w, delV (H ++ [.list ((cs.take k).map .str ++ w :: .str (c :: R) :: ys.map .str)]) (.ref H.length) (.int ((k + 1 : Nat) : Int)) = some (H ++ [.list ((cs.take k).map .str ++ w :: ys.map .str)]) := fun w => by
        rw [show (cs.take k).map PV.str ++ w :: PV.str (c :: R) :: ys.map PV.str = ((cs.take k).map PV.str ++ [w]) ++ PV.str (c :: R) :: ys.map PV.str by simp,
          del_at (getE_end ..) (by rw [List.length_append, hpl]; simp) (big_ge (by simp at hPl ⊢; omega)), set_end]; simp
      have L1 : Lt (upd l (Str.ofString "k") (.int ((k + 1 : Nat) : Int))) pat j mk hp.length i' := L.put rfl
      have lj1 : upd l (Str.ofString "k") (.int ((k + 1 : Nat) : Int)) (Str.ofString "j") = some (.int (e : Nat)) := by simp_arith! only [lj]
      have lc1 : upd l (Str.ofString "k") (.int ((k + 1 : Nat) : Int)) (Str.ofString "chunks") = some (.ref H.length) := by simp_arith! only [lc]
      by_cases hlt : c < d
      · rw [if_pos hlt] at hJ
        simp_arith only [↓optP_of lc, ↓Int.reduceNeg, ↓optP_of i1, ↓optP_of i2, ↓optP_of item_strlast, ↓optP_of item_head, gt_one, hlt, ↓optP_of (slice_init hxl), ↓optP_of (slice_tail hyl2), ↓fun w => optP_of (st w), ↓fun w => optP_of (de w)]
        refine ⟨by simp only [List.length_append, List.length_cons] at hxt hyt; exact big_ge (by omega), trivial, ?_⟩
        have := hJ _ L1 lj1 lc1
        simpa using this
      · rw [if_neg hlt] at hJ
        simp_arith only [↓optP_of lc, ↓Int.reduceNeg, ↓optP_of i1, ↓optP_of i2, ↓optP_of item_strlast, ↓optP_of item_head, gt_one, hlt]
        refine ⟨trivial, ?_⟩
        have := hJ _ L1 lj1 lc1
        simpa using this
  · rintro l h ⟨k, hk, hkl, L, lj, lc, rfl⟩
    cases k with
    | zero => exact hq l L lj lc
    | succ k => cases hk
  · have : cs.drop N = [cs[N]] := by rw [List.drop_eq_getElem_cons (by omega), List.drop_eq_nil_of_le (by omega)]
    rw [this, show mergeR [cs[N]] = [cs[N]] from rfl, ← this, List.take_append_drop]

/-- the chunks joined -/
theorem bc_join (V : Giv G) (pat : List Nat) (j : Nat) (mk : PV) (l : Loc) (i' e : Nat) (H : Hp) (cs : List (List Nat)) (hlen : cs.length ≤ 1000) (htot : totL cs ≤ 100000)
    (L : Lt l pat j mk hp.length i') (lj : l (Str.ofString "j") = some (.int (e : Nat))) (lc : l (Str.ofString "chunks") = some (.ref H.length))
    (Q : Fl → Loc → Hp → Prop)
    (hq : ∀ l', Lt l' pat j mk hp.length i' → l' (Str.ofString "j") = some (.int (e : Nat)) → l' (Str.ofString "stuff") = some (.str (joinL [45] (cs.map chunkS))) → Q .next l' (H ++ [.list (cs.map .str)])) :
    stL G n Kt (Bc.drop 6) l (H ++ [.list (cs.map .str)]) Q := by
  refine stL_at (by exact rfl) ?_
  simp_arith only []
  intro env hs
  have hb : (joinL [45] (cs.map chunkS)).length ≤ big := by
    have h1 := joinL_len 45 (cs.map chunkS)
    have h2 := chunks_tot cs
    rw [List.length_map] at h1
    exact big_ge (by omega)
  refine E_gen (sc := scopeAt prog 8) (ts := cs) V.g V.po (by rw [Env.kindOf, hs]; decide) rfl ⟨rfl, rfl, by decide, rfl, rfl, rfl⟩ (by rw [V.qn, V.tq]; rfl) rfl rfl rfl lc (getE_end H [] _) (strsOf_map cs) (fun x hx => ?_) (by omega) hb ?_
  · have := mem_tot hx; omega
  · refine stL_end (by decide) (hq _ (L.put rfl) ?_ ?_)
    · simp_arith! only [lj]
    · simp_arith! only []

end

section
open PySem PySem.W PyProof.Rows
set_option linter.unusedVariables false
set_option linter.unusedSimpArgs false
set_option maxRecDepth 100000
set_option maxHeartbeats 4000000

variable {G : GI} {n : Nat} {hp : Hp}
theorem endB_pos {r : List Nat} (h : r ≠ []) : 0 < endB r := by
  cases r with
  | nil => exact absurd rfl h
  | cons c r =>
    unfold endB skipB
    simp only [List.head?_cons, Option.some.injEq]
    by_cases c33 : c = 33
    · rw [if_pos c33]; split <;> omega
    · rw [if_neg c33]
      simp only [List.getElem?_cons_zero, Option.some.injEq]
      by_cases c93 : c = 93
      · rw [if_pos c93]; omega
      · rw [if_neg c93]; simp [c93]
theorem tr_brk (V : Giv G) (pat : List Nat) (hpl : pat.length ≤ 800) (j : Nat) (mk : PV) (l : Loc) (i : Nat) (hi : i ≤ pat.length) (acc : List PV) (t : Hp) (ha : acc.length ≤ 800) (L : Lt l pat j mk hp.length i) (Q : Fl → Loc → Hp → Prop)
    (h1 : (pat.drop i).length ≤ endB (pat.drop i) → ∀ l', Lt l' pat j mk hp.length i → Q .next l' (hp ++ .list (acc ++ [.str [92, 91]]) :: t))
    (h2 : endB (pat.drop i) < (pat.drop i).length → ∀ l' t', Lt l' pat j mk hp.length (i + (endB (pat.drop i) + 1)) → Q .next l' (hp ++ .list (acc ++ [.str (brkT ((pat.drop i).take (endB (pat.drop i))))]) :: t')) :
    stL G n Kt (Bb.drop 0) l (hp ++ .list acc :: t) Q := by
  refine brk_find pat hpl j mk l i hi _ L _ fun l L lj => ?_
  have hle := endB_le (pat.drop i)
  have hpos : (pat.drop i) ≠ [] → 0 < endB (pat.drop i) := endB_pos
  generalize he : endB (pat.drop i) = e at *
  rw [List.length_drop] at hle h1 h2
  have hm : ∀ x, methV (Str.ofString "append") (hp ++ .list acc :: t) (.ref hp.length) [.str x] = some (.none, hp ++ .list (acc ++ [.str x]) :: t) := fun x => meth_end rfl (big_gt (by omega))
  refine stL_at (by exact rfl) ?_
  by_cases hopen : pat.length - i ≤ e
  · have q1 : ((pat.length : Int) ≤ ((i + e : Nat) : Int)) = True := by simp; omega
    simp_arith only [↓optP_of lj, ↓optP_of L.fn, q1, ↓optP_of L.fadd, ↓fun x => optP_of (hm x)]
    exact stL_end (by decide) (h1 hopen _ L)
  · have q1 : ((pat.length : Int) ≤ ((i + e : Nat) : Int)) = False := by simp; omega
    simp_arith! only [↓stS, ↓optP_of lj, ↓optP_of L.fn, q1]
    show stL G n Kt (Be.drop 0) l _ _
    have hie : i + e ≤ pat.length := by omega
    have he0 : 0 < e := hpos (by intro q; have := congrArg List.length q; rw [List.length_drop] at this; simp at this; omega)
    obtain ⟨s, hs⟩ : ∃ s, s = (pat.drop i).take e := ⟨_, rfl⟩
    have hsl : s.length = e := by rw [hs, List.length_take, List.length_drop]; omega
    rw [← hs] at h2
    have hne : s ≠ [] := by intro q; rw [q] at hsl; simp at hsl; omega
    have hsl1 : sliceV (hp ++ .list acc :: t) (.str pat) (.int (i : Int)) (.int ((i + e : Nat) : Int)) = some (.str s) := by
      rw [slice_nat (big_ge (by omega)) (by omega) hie]
      rw [hs, List.take_drop]
    have fin : ∀ (l : Loc) (i' : Nat) (t' : Hp), Lt l pat j mk hp.length i' → l (Str.ofString "j") = some (.int (i + e : Nat)) → l (Str.ofString "stuff") = some (.str (if s.contains 45 then joinL [45] ((mergeR (chunks0 s (if s.head? = some 33 then 2 else 1))).map chunkS) else replC s 92 [92, 92])) →
        stL G n Kt (Be.drop 2) l (hp ++ .list acc :: t') (fun f l1 h1 => match f with
          | .next => stL G n Kt (Bb.drop 5) l1 h1 Q
          | f => Q f l1 h1) := fun l i' t' L lj lv => by
      refine be_tail V pat hpl j mk l i' (i + e) acc t' ha L _ ?_ lj lv _ fun l' L' => ?_
      · split
        · have h1 := joinL_len 45 ((mergeR (chunks0 s (if s.head? = some 33 then 2 else 1))).map chunkS)
          have h2 := chunks_tot (mergeR (chunks0 s (if s.head? = some 33 then 2 else 1)))
          have h3 := mergeR_tot (chunks0 s (if s.head? = some 33 then 2 else 1))
          have h4 := chunks0_len s (if s.head? = some 33 then 2 else 1)
          rw [List.length_map] at h1
          omega
        · have := replC_len2 s 92 [92, 92] rfl; omega
      · exact stL_end (by decide) (h2 (by omega) _ _ (by rw [Nat.add_assoc] at L'; exact L'))
    refine stL_at (by exact rfl) ?_
    simp_arith only [↓optP_of L.fpat, ↓optP_of L.fi, ↓optP_of lj, ↓optP_of hsl1]
    have L1 : Lt (upd l (Str.ofString "stuff") (.str s)) pat j mk hp.length i := L.put rfl
    have lj1 : upd l (Str.ofString "stuff") (.str s) (Str.ofString "j") = some (.int (i + e : Nat)) := by simp_arith! only [lj]
    refine stL_at (by exact rfl) ?_
    by_cases h45 : s.contains 45 = true
    · rw [h45] at fin
      simp_arith! only [↓stS, h45]
      show stL G n Kt (Bc.drop 0) _ _ _
      obtain ⟨k0, hk0⟩ : ∃ k0, k0 = (if s.head? = some 33 then 2 else 1) := ⟨_, rfl⟩
      have hk1 : 1 ≤ k0 := by rw [hk0]; split <;> omega
      have hck := chunks_ok (s := s) (k := k0) hk1 hne
      have hcl := chunks0_len s k0
      have hmt := mergeR_tot (chunks0 s k0)
      refine bc_cut pat hpl j mk _ i e hie he0 _ L1 lj1 _ s hs _ rfl fun l L lj lc => ?_
      rw [← hk0] at L ⊢
      rw [← hk0] at fin
      refine bc_last pat hpl j mk l i e k0 hie _ s hs hne _ rfl L lj lc _ fun l L lj lc => ?_
      refine bc_merge pat j mk l _ (i + e) _ (chunks0 s k0) (by omega) (by omega) hck.1 hck.2.1 hck.2.2 L lj lc _ fun l L lj lc => ?_
      refine bc_join V pat j mk l _ (i + e) _ (mergeR (chunks0 s k0)) (by omega) (by omega) L lj lc _ fun l L lj lv => ?_
      simp_arith! only []
      have := fin l _ (t ++ [.list ((mergeR (chunks0 s k0)).map .str)]) L lj (by rw [lv]; rfl)
      rw [show hp ++ .list acc :: (t ++ [.list ((mergeR (chunks0 s k0)).map .str)]) = hp ++ .list acc :: t ++ [.list ((mergeR (chunks0 s k0)).map .str)] by simp] at this
      exact this
    · have h45' : s.contains 45 = false := by simpa using h45
      rw [h45'] at fin
      simp_arith only [h45']
      refine ⟨⟨by omega, by decide, by decide⟩, ?_⟩
      refine fin _ i t (L1.put rfl) ?_ ?_
      · simp_arith! only [lj]
      · simp_arith! only []
theorem c_tr (V : Giv G) (pat : List Nat) (hpl : pat.length ≤ 800) (j : Nat) (hj : okRef hp j = true) (mk : PV) (hmk : okPart hp.length mk) : CallW G (n + 2) (Str.ofString "_translate") [.str pat, .ref j, mk] hp fun v h => v = .list (trP j mk pat []) ∧ h = hp := by
  have hjl : j < hp.length := by
    unfold okRef at hj
    split at hj <;> first | exact (List.getElem?_eq_some_iff.mp (by assumption)).1 | cases hj
  refine call_walk (fun _ => false) V.g V.po.nl (f__translate G G.w V.X V.g.gns V.hC V.tq) rfl ?_
  refine stL_at (by exact rfl) ?_
  simp_arith only []
  refine stL_at (by exact rfl) ?_
  simp_arith only []
  refine ⟨by simp [contents], ?_⟩
  refine stL_at (by exact rfl) ?_
  simp_arith only []
  refine ⟨big_ge (by omega), big_ge (by omega), ?_⟩
  refine stL_at (by exact rfl) ?_
  simp only [stS]
  refine whileW_of (fun m l h => ∃ (i : Nat) (acc : List PV) (t : Hp), i ≤ pat.length ∧ m = pat.length - i ∧ Lt l pat j mk hp.length i ∧ h = hp ++ .list acc :: t ∧ (∀ v ∈ acc, okPart hp.length v) ∧ acc.length ≤ i ∧ trP j mk pat [] = trP j mk (pat.drop i) acc) ?_
    (m := pat.length) ⟨0, [], [], by simp, by simp, ⟨rfl, rfl, rfl, rfl, rfl, rfl, rfl⟩, rfl, by simp, by simp, rfl⟩
  rintro I m l h hI ⟨i, acc, t, hi, rfl, L, rfl, ok, hal, htr⟩
  by_cases hlt : i < pat.length
  · have q1 : ((i : Int) < (pat.length : Int)) = True := by simp; omega
    simp_arith! only [↓optP_of L.fi, ↓optP_of L.fn, q1]
    show stL G _ Kt (Bt.drop 0) l _ _
    refine stL_at (by exact rfl) ?_
    simp_arith only [↓optP_of L.fpat, ↓optP_of L.fi, ↓optP_of (item_str hlt (big_ge (by omega)))]
    refine stL_at (by exact rfl) ?_
    simp_arith only [↓optP_of L.fi]
    refine stL_at (by exact rfl) ?_
    rw [List.drop_eq_getElem_cons hlt, trP] at htr
    generalize hc : pat[i] = c at htr ⊢
    have L2 : Lt (upd (upd l (Str.ofString "c") (.str [c])) (Str.ofString "i") (.int ((i : Int) + 1))) pat j mk hp.length (i + 1) := by
      constructor <;> simp_arith! only [L.fpat, L.fstar, L.fmark, L.fres, L.fadd, L.fn]; simp
    have cont : ∀ (l' : Loc) (t' : Hp) (i' : Nat) (acc' : List PV), Lt l' pat j mk hp.length i' → i < i' → i' ≤ pat.length → (∀ v ∈ acc', okPart hp.length v) → acc'.length ≤ i' → trP j mk pat [] = trP j mk (pat.drop i') acc' → I l' (hp ++ .list acc' :: t') :=
      fun l' t' i' acc' L' h1 h2 h3 h4 h5 => hI _ _ _ (by omega) ⟨i', acc', t', h2, rfl, L', rfl, h3, h4, h5⟩
    have okA : ∀ v, okPart hp.length v → ∀ w ∈ acc ++ [v], okPart hp.length w := fun v hv w hw => by
      rcases List.mem_append.mp hw with q | q
      · exact ok w q
      · simp only [List.mem_singleton] at q; subst q; exact hv
    have hm : ∀ v, methV (Str.ofString "append") (hp ++ .list acc :: t) (.ref hp.length) [v] = some (.none, hp ++ .list (acc ++ [v]) :: t) := fun v => meth_end rfl (big_gt (by omega))
    have hst : okRef (hp ++ .list acc :: t) j = true := okRef_app _ hj
    have ct : contents (hp ++ .list acc :: t) (.ref hp.length) = some acc := cont_end rfl
    by_cases c42 : c = 42
    · have q2 : ([c] = [42]) = True := by simp [c42]
      rw [if_pos c42] at htr
      rcases List.eq_nil_or_concat acc with e | ⟨A, w, e⟩
      · subst e
        simp_arith only [q2, ↓optP_of L.fres, ↓optP_of L.fadd, ↓optP_of L.fstar, ↓fun v => optP_of (hm v), ↓optP_of (truth_cont ct (by simp))]
        refine stL_end (by decide) ?_
        exact cont _ _ (i + 1) _ L2 (by omega) hlt (okA _ (.inr ⟨j, rfl, hjl⟩)) (by simp) htr
      · rw [List.concat_eq_append] at e; subst e
        have hg : addSt j (A ++ [w]) = if isSt j w then A ++ [w] else A ++ [w] ++ [.ref j] := by unfold addSt; simp
        rw [hg] at htr
        have hw := isV_st (ok w (by simp)) hst
        have he : (A ++ [w]).isEmpty = false := by cases A <;> rfl
        cases hsw : isSt j w with
        | true =>
          rw [hsw] at hw htr
          simp_arith only [q2, he, ↓optP_of L.fres, ↓optP_of L.fadd, ↓optP_of L.fstar, ↓fun v => optP_of (hm v), ↓optP_of (truth_cont ct (big_ge (by omega))), ↓optP_of (item_last ct), ↓o_isnot _ hw]
          refine stL_end (by decide) ?_
          exact cont _ _ (i + 1) _ L2 (by omega) hlt ok (by omega) htr
        | false =>
          rw [hsw] at hw htr
          simp_arith only [q2, he, ↓optP_of L.fres, ↓optP_of L.fadd, ↓optP_of L.fstar, ↓fun v => optP_of (hm v), ↓optP_of (truth_cont ct (big_ge (by omega))), ↓optP_of (item_last ct), ↓o_isnot _ hw]
          refine stL_end (by decide) ?_
          exact cont _ _ (i + 1) _ L2 (by omega) hlt (okA _ (.inr ⟨j, rfl, hjl⟩)) (by simp at hal ⊢; omega) htr
    · have q2 : ([c] = [42]) = False := by simp [c42]
      rw [if_neg c42] at htr
      by_cases c63 : c = 63
      · have q3 : ([c] = [63]) = True := by simp [c63]
        rw [if_pos c63] at htr
        simp_arith only [q2, q3, ↓optP_of L.fadd, ↓optP_of L.fmark, ↓fun v => optP_of (hm v)]
        refine stL_end (by decide) ?_
        exact cont _ _ (i + 1) _ L2 (by omega) hlt (okA _ hmk) (by simp; omega) htr
      · have q3 : ([c] = [63]) = False := by simp [c63]
        rw [if_neg c63] at htr
        by_cases c91 : c = 91
        · have q4 : ([c] = [91]) = True := by simp [c91]
          rw [if_pos c91] at htr
          simp_arith! only [↓stS, q2]
          refine stL_at (B := subE Bt 2) (k := 0) (by exact rfl) ?_
          simp_arith! only [↓stS, q3]
          refine stL_at (B := subE (subE Bt 2) 0) (k := 0) (by exact rfl) ?_
          simp_arith! only [↓stS, q4]
          show stL G _ Kt (Bb.drop 0) _ _ _
          refine tr_brk V pat hpl j mk _ (i + 1) hlt acc t (by omega) L2 _ (fun ho l' L' => ?_) (fun ho l' t' L' => ?_)
          · rw [if_pos ho] at htr
            exact stL_end (by decide) (stL_end (by decide) (stL_end (by decide) (cont _ _ (i + 1) _ L' (by omega) hlt (okA _ (.inl ⟨_, rfl⟩)) (by simp; omega) htr)))
          · rw [if_neg (by omega), List.drop_drop] at htr
            rw [List.length_drop] at ho
            exact stL_end (by decide) (stL_end (by decide) (stL_end (by decide) (cont _ _ _ _ L' (by omega) (by omega) (okA _ (.inl ⟨_, rfl⟩)) (by simp; omega) htr)))
        · have q4 : ([c] = [91]) = False := by simp [c91]
          rw [if_neg c91] at htr
          simp_arith only [q2, q3, q4, ↓optP_of L.fadd]
          refine ⟨isFn_of (f_escape G G.w V.X V.g.gns), by omega, ?_⟩
          refine callW_mono (c_escape V c) ?_
          rintro v h ⟨rfl, rfl⟩
          simp_arith only [↓fun v => optP_of (hm v)]
          refine stL_end (by decide) ?_
          exact cont _ _ (i + 1) _ L2 (by omega) hlt (okA _ (.inl ⟨_, rfl⟩)) (by simp; omega) htr
  · have q1 : ((i : Int) < (pat.length : Int)) = False := by simp; omega
    have ei : i = pat.length := by omega
    subst ei
    simp_arith only [↓optP_of L.fi, ↓optP_of L.fn, q1]
    refine tr_end pat j mk l acc t L ok _ ⟨?_, rfl⟩
    rw [htr, List.drop_length, trP]

end

section
open PySem PySem.W PyProof.Rows
set_option linter.unusedVariables false
set_option maxRecDepth 100000

/-- the parts as items: none is a star -/
def addI (acc : List (Option (List Nat))) : List (Option (List Nat)) := match acc.getLast? with
  | some none => acc
  | _ => acc ++ [none]
def trI (m : List Nat) : List Nat → List (Option (List Nat)) → List (Option (List Nat))
  | [], acc => acc
  | c :: r, acc =>
    if c = 42 then trI m r (addI acc)
    else if c = 63 then trI m r (acc ++ [some m])
    else if c = 91 then
      if r.length ≤ endB r then trI m r (acc ++ [some [92, 91]])
      else trI m (r.drop (endB r + 1)) (acc ++ [some (brkT (r.take (endB r)))])
    else trI m r (acc ++ [some (escC c)])
termination_by r => r.length
decreasing_by all_goals simp; try omega

theorem addSt_addI (j : Nat) (acc : List (Option (List Nat))) : addSt j (acc.map (pvI j)) = (addI acc).map (pvI j) := by
  unfold addSt addI
  rw [List.getLast?_map]
  cases acc.getLast? with
  | none => simp [pvI]
  | some o => cases o <;> simp [pvI, isSt]
theorem trP_trI (j : Nat) (m : List Nat) (r : List Nat) (acc : List (Option (List Nat))) : trP j (.str m) r (acc.map (pvI j)) = (trI m r acc).map (pvI j) := by
  have ap : ∀ (acc : List (Option (List Nat))) (t : List Nat), acc.map (pvI j) ++ [.str t] = (acc ++ [some t]).map (pvI j) := fun acc t => by simp [pvI]
  fun_induction trI m r acc with
  | case1 acc => simp [trP]
  | case2 r acc ih => rw [trP, if_pos rfl, addSt_addI, ih]
  | case3 r acc h ih => rw [trP, if_neg h, if_pos rfl, ap, ih]
  | case4 r acc h4 h h2 ih => rw [trP, if_neg h, if_neg h2, if_pos rfl, if_pos h4, ap, ih]
  | case5 r acc h4 h h2 ih => rw [trP, if_neg h, if_neg h2, if_pos rfl, if_neg h4, ap, ih]
  | case6 acc c r h h2 h3 ih => rw [trP, if_neg h, if_neg h2, if_neg h3, ap, ih]
theorem noDbl_snoc : ∀ {acc : List (Option (List Nat))} (o : Option (List Nat)), noDbl acc = true → (o = none → acc.getLast? ≠ some none) → noDbl (acc ++ [o]) = true
  | [], o, _, _ => by cases o <;> rfl
  | [none], none, _, h => absurd rfl (h rfl)
  | [none], some t, _, _ => rfl
  | [some x], o, _, _ => by cases o <;> rfl
  | none :: none :: r, o, h, _ => by simp [noDbl] at h
  | none :: some t :: r, o, h, k => by
      have := noDbl_snoc (acc := some t :: r) o (by simpa [noDbl] using h) (fun e => by have := k e; rwa [List.getLast?_cons_cons] at this)
      simpa [noDbl] using this
  | some x :: y :: r, o, h, k => by
      have := noDbl_snoc (acc := y :: r) o (by simpa [noDbl] using h) (fun e => by have := k e; rwa [List.getLast?_cons_cons] at this)
      simpa [noDbl] using this
theorem noDbl_addI {acc : List (Option (List Nat))} (h : noDbl acc = true) : noDbl (addI acc) = true := by
  unfold addI
  split
  · exact h
  · rename_i k; exact noDbl_snoc none h fun _ q => k q
theorem noDbl_trI (m : List Nat) (r : List Nat) (acc : List (Option (List Nat))) (h : noDbl acc = true) : noDbl (trI m r acc) = true := by
  fun_induction trI m r acc with
  | case1 acc => exact h
  | case2 r acc ih => exact ih (noDbl_addI h)
  | case3 r acc _ ih => exact ih (noDbl_snoc _ h (fun e => by cases e))
  | case4 r acc _ _ _ ih => exact ih (noDbl_snoc _ h (fun e => by cases e))
  | case5 r acc _ _ _ ih => exact ih (noDbl_snoc _ h (fun e => by cases e))
  | case6 acc c r _ _ _ ih => exact ih (noDbl_snoc _ h (fun e => by cases e))
theorem twS_len2 (x : List Nat) : (twS x).length ≤ 2 * x.length := by
  induction x with
  | nil => simp [twS]
  | cons c r ih => rw [twS, List.flatMap_cons, List.length_append]; rw [twS] at ih; simp only [List.length_cons]; split <;> simp only [List.length_cons, List.length_nil] <;> omega
theorem brkU_len (u : List Nat) : (brkU u).length ≤ u.length + 4 := by
  unfold brkU
  split
  · simp
  · split
    · simp
    · simp only [List.length_append, List.length_cons, List.length_nil]
      split
      · simp only [List.length_cons, List.length_tail]; omega
      · split <;> (try simp only [List.length_cons]) <;> omega
theorem brkT_len (s : List Nat) : (brkT s).length ≤ 10 * s.length + 20 := by
  unfold brkT
  have h1 := brkU_len (stuffB s)
  have h2 : (stuffB s).length ≤ 10 * s.length + 10 := by
    unfold stuffB
    split
    · have h0 := twS_len2 (joinL [45] ((mergeR (chunks0 s (if s.head? = some 33 then 2 else 1))).map chunkS))
      have h1 := joinL_len 45 ((mergeR (chunks0 s (if s.head? = some 33 then 2 else 1))).map chunkS)
      have h2 := chunks_tot (mergeR (chunks0 s (if s.head? = some 33 then 2 else 1)))
      have h3 := mergeR_tot (chunks0 s (if s.head? = some 33 then 2 else 1))
      have h4 := chunks0_len s (if s.head? = some 33 then 2 else 1)
      rw [List.length_map] at h1
      omega
    · have h0 := twS_len2 (replC s 92 [92, 92])
      have := replC_len2 s 92 [92, 92] rfl
      omega
  omega
theorem sumI_snoc (acc : List (Option (List Nat))) (o : Option (List Nat)) : sumI (acc ++ [o]) = sumI acc + (match o with | some t => t.length | none => 0) := by
  unfold sumI; simp <;> rfl
theorem trI_len (m : List Nat) (hm : m.length ≤ 20) (r : List Nat) (acc : List (Option (List Nat))) : (trI m r acc).length ≤ acc.length + r.length ∧ sumI (trI m r acc) ≤ sumI acc + 20 * r.length := by
  fun_induction trI m r acc with
  | case1 acc => simp
  | case2 r acc ih =>
    have h1 : (addI acc).length ≤ acc.length + 1 := by unfold addI; split <;> simp
    have h2 : sumI (addI acc) ≤ sumI acc := by
      unfold addI; split
      · exact Nat.le_refl _
      · rw [sumI_snoc]; exact Nat.le_refl _
    simp only [List.length_cons]; omega
  | case3 r acc _ ih =>
    rw [sumI_snoc] at ih
    simp only [List.length_cons, List.length_append, List.length_nil] at ih ⊢; omega
  | case4 r acc _ _ _ ih =>
    rw [sumI_snoc] at ih
    simp only [List.length_cons, List.length_append, List.length_nil] at ih ⊢; omega
  | case5 r acc _ _ h4 ih =>
    rw [sumI_snoc] at ih
    have := brkT_len (r.take (endB r))
    rw [List.length_take] at this
    simp only [List.length_cons, List.length_append, List.length_nil, List.length_drop] at ih ⊢; omega
  | case6 c r acc _ _ _ ih =>
    rw [sumI_snoc] at ih
    have : (escC c).length ≤ 2 := by unfold escC; split <;> simp
    simp only [List.length_cons, List.length_append, List.length_nil] at ih ⊢; omega
/-- translate in plain words -/
def trT (pat : List Nat) : List Nat := joinI (trI [46] pat [])

end

section
open PySem PySem.W PyProof.Rows
set_option linter.unusedVariables false
set_option linter.unusedSimpArgs false
set_option maxRecDepth 100000
set_option maxHeartbeats 4000000

variable {G : GI} {n : Nat} {hp : Hp}
/-- _translate with a text for the mark -/
theorem c_trI (V : Giv G) (pat : List Nat) (hpl : pat.length ≤ 800) (j : Nat) (hj : okRef hp j = true) (m : List Nat) : CallW G (n + 2) (Str.ofString "_translate") [.str pat, .ref j, .str m] hp fun v h => v = .list ((trI m pat []).map (pvI j)) ∧ h = hp := by
  refine callW_mono (c_tr V pat hpl j hj (.str m) (.inl ⟨m, rfl⟩)) ?_
  rintro v h ⟨rfl, rfl⟩
  exact ⟨by rw [← trP_trI]; rfl, rfl⟩
theorem c_translate (V : Giv G) (pat : List Nat) (hpl : pat.length ≤ 800) : CallW G (n + 4) (Str.ofString "translate") [.str pat] hp fun v h => v = .str (trT pat) ∧ h = hp := by
  refine call_walk (fun _ => false) V.g V.po.nl (f_translate G G.w V.X V.g.gns) rfl ?_
  have hl := trI_len [46] (by decide) pat []
  simp only [List.length_nil, show sumI [] = 0 from rfl] at hl
  refine stL_at (by exact rfl) ?_
  simp_arith only []
  refine stL_at (by exact rfl) ?_
  simp_arith only []
  refine ⟨isFn_of (f__translate G G.w V.X V.g.gns V.hC V.tq), by omega, ?_⟩
  refine callW_mono (c_trI (n := n + 1) V pat hpl hp.length (by unfold okRef; rw [getE_end]) [46]) ?_
  rintro v h ⟨rfl, rfl⟩
  refine stL_at (by exact rfl) ?_
  simp_arith only []
  refine ⟨isFn_of (f_join G G.w V.X V.g.gns), by omega, ?_⟩
  refine callW_mono (c_join V _ hp.length (trI [46] pat []) rfl (noDbl_trI _ _ _ rfl) (by omega) (by omega)) ?_
  rintro v h ⟨rfl, rfl⟩
  exact endC_of (frz_str ..) ⟨rfl, rfl⟩

end

section
open PySem PySem.W PyProof.Rows
set_option linter.unusedVariables false
set_option linter.unusedSimpArgs false
set_option maxRecDepth 100000
set_option maxHeartbeats 4000000

variable {G : GI} {n : Nat} {hp : Hp}
theorem f_pattern (V : Giv G) : FnOk G (Str.ofString "_law_pattern") [Str.ofString "numbers"] (scopeAt prog 11) (bodyAt prog 11) :=
  fnOk_of V.X V.g.gns rfl rfl rfl rfl rfl rfl rfl rfl rfl rfl rfl rfl (fun h => absurd (by rfl) h) (fun vals h => by match vals, h with | [x], _ => rfl) rfl rfl rfl rfl rfl rfl
theorem f_dress (V : Giv G) : FnOk G (Str.ofString "_law_dress") [Str.ofString "sign"] (scopeAt prog 12) (bodyAt prog 12) :=
  fnOk_of V.X V.g.gns rfl rfl rfl rfl rfl rfl rfl rfl rfl rfl rfl rfl (fun h => absurd (by rfl) h) (fun vals h => by match vals, h with | [x], _ => rfl) rfl rfl rfl rfl rfl rfl
theorem f_bracket (V : Giv G) : FnOk G (Str.ofString "_law_bracket") [Str.ofString "inside"] (scopeAt prog 13) (bodyAt prog 13) :=
  fnOk_of V.X V.g.gns rfl rfl rfl rfl rfl rfl rfl rfl rfl rfl rfl rfl (fun h => absurd (by rfl) h) (fun vals h => by match vals, h with | [x], _ => rfl) rfl rfl rfl rfl rfl rfl
theorem f_parts (V : Giv G) : FnOk G (Str.ofString "_law_parts") [Str.ofString "pattern", Str.ofString "star", Str.ofString "mark"] (scopeAt prog 14) (bodyAt prog 14) :=
  fnOk_of V.X V.g.gns rfl rfl rfl rfl rfl rfl rfl rfl rfl rfl rfl rfl (fun h => absurd (by rfl) h) (fun vals h => by match vals, h with | [x, y, z], _ => rfl) rfl rfl rfl rfl rfl rfl
theorem f_same (V : Giv G) : FnOk G (Str.ofString "_law_same") [Str.ofString "found", Str.ofString "told"] (scopeAt prog 15) (bodyAt prog 15) :=
  fnOk_of V.X V.g.gns rfl rfl rfl rfl rfl rfl rfl rfl rfl rfl rfl rfl (fun h => absurd (by rfl) h) (fun vals h => by match vals, h with | [x, y], _ => rfl) rfl rfl rfl rfl rfl rfl
theorem f_joined (V : Giv G) : FnOk G (Str.ofString "_law_joined") [Str.ofString "parts", Str.ofString "star"] (scopeAt prog 16) (bodyAt prog 16) :=
  fnOk_of V.X V.g.gns rfl rfl rfl rfl rfl rfl rfl rfl rfl rfl rfl rfl (fun h => absurd (by rfl) h) (fun vals h => by match vals, h with | [x, y], _ => rfl) rfl rfl rfl rfl rfl rfl
theorem f_tried (V : Giv G) : FnOk G (Str.ofString "_law_tried") [Str.ofString "parts", Str.ofString "star"] (scopeAt prog 17) (bodyAt prog 17) :=
  fnOk_of V.X V.g.gns rfl rfl rfl rfl rfl rfl rfl rfl rfl rfl rfl rfl (fun h => absurd (by rfl) h) (fun vals h => by match vals, h with | [x, y], _ => rfl) rfl rfl rfl rfl rfl rfl

/-! _law_dress -/
def dressC (c : Nat) : List Nat := if c = 92 ∨ c = 45 ∨ c = 38 ∨ c = 126 ∨ c = 124 then [92, c] else [c]
theorem c_dress (V : Giv G) (c : Nat) : CallW G n (Str.ofString "_law_dress") [.str [c]] hp fun v h => v = .str (dressC c) ∧ h = hp := by
  refine call_walk (fun _ => false) V.g V.po.nl (f_dress V) rfl ?_
  refine stL_at (by exact rfl) ?_
  simp_arith only [↓o_in]
  by_cases h : c = 92 ∨ c = 45 ∨ c = 38 ∨ c = 126 ∨ c = 124
  · have hd : dressC c = [92, c] := if_pos h
    rw [hd, if_pos h]
    exact ⟨by decide, endC_same (frz_str ..) ⟨rfl, rfl⟩⟩
  · have hd : dressC c = [c] := if_neg h
    rw [hd, if_neg h]
    refine stL_at (by exact rfl) ?_
    simp_arith only []
    exact endC_same (frz_str ..) ⟨rfl, rfl⟩

/-! _law_pattern: only the length is told -/
theorem fmod_pos (a : Int) {b : Int} (h : 0 < b) : 0 ≤ a.fmod b ∧ a.fmod b < b := ⟨Int.fmod_nonneg_of_pos a h, Int.fmod_lt_of_pos a h⟩
theorem item_tup {h : Hp} {P : List PV} {p : PV → Prop} (hp : ∀ v ∈ P, p v) (hb : P.length ≤ big) (i : Int) (h0 : 0 ≤ i) (h1 : i < P.length) : ∃ v, itemV h (.tuple P) (.int i) = some v ∧ p v := by
  obtain ⟨k, rfl⟩ := Int.eq_ofNat_of_zero_le h0
  have hk : k < P.length := by omega
  refine ⟨P[k], ?_, hp _ (List.getElem_mem _)⟩
  unfold itemV
  simp [small_nat (a := k) (by omega), idx_nat, hk]
def okPc (v : PV) : Prop := ∃ t, v = .str t ∧ t.length ≤ 5
def okPcB : PV → Bool
  | .str t => decide (t.length ≤ 5)
  | _ => false
theorem chr_at (h : Hp) {i : Int} (h0 : 0 ≤ i) (h1 : i ≤ 1114111) : bltV (Str.ofString "chr") h [.int i] = some (.str [i.toNat]) := by
  simp only [bltV, ofs_inj, String.reduceEq, if_false, if_true, h0, h1, and_self]
def Bp : List Stmt := subB (bodyAt prog 11) 3
theorem c_pattern (V : Giv G) (xs : List Int) (hx : xs.length ≤ 14) : CallW G n (Str.ofString "_law_pattern") [.list (xs.map .int)] hp fun v h => (∃ p, v = .str p ∧ p.length ≤ 140) ∧ h = hp := by
  refine call_walk (fun _ => false) V.g V.po.nl (f_pattern V) rfl ?_
  have after : ∀ P : List PV, P.length = 31 → P.all okPcB = true → stL G n ⟨scopeAt prog 11, fun _ => false⟩ ((bodyAt prog 11).drop 1) (upd (upd (fun _ => none) (Str.ofString "numbers") (.list (xs.map .int))) (Str.ofString "pieces") (.tuple P)) hp (EndC hp fun v h => (∃ p, v = .str p ∧ p.length ≤ 140) ∧ h = hp) := by
    intro P hP1 hP2
    have hPok : ∀ v ∈ P, okPc v := fun v hv => by
      have := List.all_eq_true.mp hP2 v hv
      cases v <;> simp [okPcB] at this
      exact ⟨_, rfl, this⟩
    have hPb : P.length ≤ big := big_ge (by omega)
    refine stL_at (by exact rfl) ?_
    simp_arith only []
    refine stL_at (by exact rfl) ?_
    simp_arith only []
    refine stL_at (by exact rfl) ?_
    simp_arith! only [↓stS, ↓optP_of (show iterV (hp ++ [.list []]) (.list (xs.map .int)) = some (xs.map .int) from rfl)]
    refine ⟨by rw [List.length_map]; exact big_ge (by omega), ?_⟩
    refine forL_of (fun ys l h => ∃ (k : Nat) (ts : List (List Nat)) (zs : List Int), ys = zs.map .int ∧ zs.length + k = xs.length ∧ l (Str.ofString "pieces") = some (.tuple P) ∧ l (Str.ofString "row") = some (.ref hp.length) ∧ l (Str.ofString "place") = some (.int (k : Nat)) ∧
      h = hp ++ [.list (ts.map .str)] ∧ ts.length = 2 * k ∧ ∀ t ∈ ts, t.length ≤ 5) ?_ ?_ ⟨0, [], xs, rfl, by omega, rfl, rfl, rfl, rfl, rfl, by simp⟩
    · rintro I x ys l h hI ⟨k, ts, zs, hys, hk, l1, l2, l3, rfl, hts, h5⟩
      cases zs with
      | nil => cases hys
      | cons z zs =>
        cases hys
        have hm : ∀ (ts : List (List Nat)) (t : List Nat), ts.length ≤ 100 → methV (Str.ofString "append") (hp ++ [.list (ts.map .str)]) (.ref hp.length) [.str t] = some (.none, hp ++ [.list ((ts ++ [t]).map .str)]) := fun ts t h => by
          rw [meth_end rfl (by rw [List.length_map]; exact big_gt (by omega))]; simp
        have hcon : ∀ (ts : List (List Nat)), (contents (hp ++ [.list (ts.map .str)]) (.ref hp.length)).isSome = true := fun ts => by rw [cont_end rfl]; rfl
        have rest : ∀ (l' : Loc) (t1 : List Nat) (lf : Int), l' (Str.ofString "pieces") = some (.tuple P) → l' (Str.ofString "row") = some (.ref hp.length) → l' (Str.ofString "place") = some (.int (k : Nat)) → l' (Str.ofString "left") = some (.int lf) → t1.length ≤ 5 →
            stL G n ⟨scopeAt prog 11, fun _ => false⟩ (Bp.drop 3) l' (hp ++ [.list ((ts ++ [t1]).map .str)]) (fun f l' h' => match f with
              | .next => chkV (hp ++ [.list []]) h' (.list (xs.map .int)) ∧ I l' h'
              | .cont => chkV (hp ++ [.list []]) h' (.list (xs.map .int)) ∧ I l' h'
              | .brk => stL G n ⟨scopeAt prog 11, fun _ => false⟩ ((bodyAt prog 11).drop 4) l' h' (EndC hp fun v h => (∃ p, v = .str p ∧ p.length ≤ 140) ∧ h = hp)
              | .ret v => EndC hp (fun v h => (∃ p, v = .str p ∧ p.length ≤ 140) ∧ h = hp) (.ret v) l' h') := by
          intro l' t1 lf l1 l2 l3 l4 ht1
          obtain ⟨_, hi, t2, rfl, ht2⟩ := item_tup (h := hp ++ [.list ((ts ++ [t1]).map .str)]) hPok hPb ((lf + 7 * (k : Int)).fmod 31) (fmod_pos _ (by omega)).1 (by rw [hP1]; exact (fmod_pos _ (by omega)).2)
          refine stL_at (by exact rfl) ?_
          simp_arith only [↓optP_of l1, ↓optP_of l2, ↓optP_of l3, ↓optP_of l4, show smallI 7 = true by decide, hcon, ↓optP_of hi, ↓optP_of (hm (ts ++ [t1]) t2 (by simp; omega))]
          refine ⟨by decide, ?_⟩
          refine stL_at (by exact rfl) ?_
          simp_arith only [↓optP_of l3]
          refine stL_end (by decide) ⟨trivial, hI _ _ ⟨k + 1, ts ++ [t1] ++ [t2], zs, rfl, by simp at hk; omega, ?_, ?_, ?_, rfl, by simp; omega, ?_⟩⟩
          · simp_arith! only [l1]
          · simp_arith! only [l2]
          · simp_arith! only []; simp
          · intro t ht
            simp only [List.mem_append, List.mem_singleton] at ht
            rcases ht with (q | q) | q
            · exact h5 t q
            · rw [q]; exact ht1
            · rw [q]; exact ht2
        show stL G n _ (Bp.drop 0) _ _ _
        refine stL_at (by exact rfl) ?_
        simp_arith only []
        refine ⟨by decide, by decide, ?_⟩
        generalize Int.fmod z _ = K0
        refine stL_at (by exact rfl) ?_
        simp_arith only []
        refine ⟨⟨by decide, by decide⟩, ?_⟩
        generalize hL0 : Int.fdiv K0 31 = L0
        refine stL_at (by exact rfl) ?_
        obtain ⟨_, hi, t1, rfl, ht1⟩ := item_tup (h := hp ++ [.list (ts.map .str)]) hPok hPb (K0.fmod 31) (fmod_pos _ (by omega)).1 (by rw [hP1]; exact (fmod_pos _ (by omega)).2)
        by_cases h30 : K0.fmod 31 = 30
        · have q1 : (K0.fmod 31 = 30) = True := by simp [h30]
          have hpt := fmod_pos (L0.fdiv 31) (b := 1112064) (by omega)
          simp_arith only [q1, show smallI 31 = true by decide, show (31 : Int) ≠ 0 by decide, show (1112064 : Int) ≠ 0 by decide]
          generalize Int.fmod _ 1112064 = pt at hpt ⊢
          by_cases h5 : 55296 ≤ pt
          · have q2 : (55296 ≤ pt) = True := by simp [h5]
            simp_arith only [q2, ↓optP_of l2, hcon, ↓optP_of (chr_at _ (i := pt + 2048) (by omega) (by omega)), ↓optP_of (hm ts _ (by omega))]
            refine ⟨by decide, by decide, by decide, ?_⟩
            refine rest _ [(pt + 2048).toNat] L0 ?_ ?_ ?_ ?_ (by simp) <;> simp_arith! only [l1, l2, l3]
          · have q2 : (55296 ≤ pt) = False := by simp [h5]
            simp_arith only [q2, ↓optP_of l2, hcon, ↓optP_of (chr_at _ (i := pt) (by omega) (by omega)), ↓optP_of (hm ts _ (by omega))]
            refine ⟨by decide, by decide, by decide, ?_⟩
            refine rest _ [pt.toNat] L0 ?_ ?_ ?_ ?_ (by simp) <;> simp_arith! only [l1, l2, l3]
        · have q1 : (K0.fmod 31 = 30) = False := by simp [h30]
          simp_arith only [q1, ↓optP_of l1, ↓optP_of l2, hcon, ↓optP_of hi, ↓optP_of (hm ts _ (by omega))]
          refine ⟨by decide, by decide, ?_⟩
          refine rest _ t1 L0 ?_ ?_ ?_ ?_ ht1 <;> simp_arith! only [l1, l2, l3]
    · rintro l h ⟨k, ts, zs, hys, hk, l1, l2, l3, rfl, hts, h5⟩
      have hz : zs = [] := by cases zs with
        | nil => rfl
        | cons z zs => cases hys
      subst hz
      have hfl : ∀ (ts : List (List Nat)), (∀ t ∈ ts, t.length ≤ 5) → ts.flatten.length ≤ 5 * ts.length := by
        intro ts
        induction ts with
        | nil => simp
        | cons t ts ih =>
          intro h
          have h1 := h t (by simp)
          have h2 := ih fun t ht => h t (by simp [ht])
          simp only [List.flatten_cons, List.length_append, List.length_cons]; omega
      have hf := hfl ts h5
      simp only [List.length_nil] at hk
      have e1 : methV (Str.ofString "join") (hp ++ [.list (ts.map .str)]) (.str []) [.ref hp.length] = some (.str ts.flatten, hp ++ [.list (ts.map .str)]) := by
        rw [meth_join (cont_end rfl) (by rw [joinL_nil]; exact big_ge (by omega)) (by simp) (big_ge (by omega)), joinL_nil]
      refine stL_at (by exact rfl) ?_
      simp_arith only [↓optP_of l2, ↓optP_of e1]
      exact endC_of (frz_str ..) ⟨⟨_, rfl, by omega⟩, rfl⟩
  refine stL_at (by exact rfl) ?_
  simp_arith only []
  refine ⟨by decide, ?_⟩
  exact after _ rfl rfl


end

section
open PySem PySem.W PyProof.Rows
set_option linter.unusedVariables false
set_option linter.unusedSimpArgs false
set_option maxRecDepth 100000
set_option maxHeartbeats 4000000

variable {G : GI} {n : Nat} {hp : Hp}
/-! _law_bracket: the members from the left -/
def memT : List Nat → List Nat
  | [] => []
  | c :: 45 :: d :: r => (if c ≤ d then dressC c ++ [45] ++ dressC d else []) ++ memT r
  | c :: r => dressC c ++ memT r
def lawB (s : List Nat) : List Nat := brkU (if s.head? = some 33 then 33 :: memT s.tail else memT s)
theorem dressC_len (c : Nat) : (dressC c).length ≤ 2 := by unfold dressC; split <;> simp
theorem memT_one {c : Nat} {r : List Nat} (h : ¬ (r.head? = some 45 ∧ 2 ≤ r.length)) : memT (c :: r) = dressC c ++ memT r := by
  cases r with
  | nil => simp [memT]
  | cons x r =>
    cases r with
    | nil => rw [memT]; intro d r' q; simp at q
    | cons y r =>
      rw [memT]
      rintro d r' q
      simp at q
      exact h ⟨by simp [q.1], by simp⟩
def Bbr : List Stmt := subB (bodyAt prog 13) 3
theorem c_bracket (V : Giv G) (s : List Nat) (hs : s ≠ []) (hl : s.length ≤ 800) : CallW G (n + 1) (Str.ofString "_law_bracket") [.str s] hp fun v h => v = .str (lawB s) ∧ h = hp := by
  refine call_walk (fun _ => false) V.g V.po.nl (f_bracket V) rfl ?_
  obtain ⟨c0, s', rfl⟩ : ∃ c s', s = c :: s' := by cases s with
    | nil => exact absurd rfl hs
    | cons c s' => exact ⟨c, s', rfl⟩
  -- the end
  have fin : ∀ (l : Loc) (u : List Nat), l (Str.ofString "written") = some (.str u) → u.length ≤ 10000 → lawB (c0 :: s') = brkU u → stL G (n + 1) ⟨scopeAt prog 13, fun _ => false⟩ ((bodyAt prog 13).drop 4) l hp (EndC hp fun v h => v = .str (lawB (c0 :: s')) ∧ h = hp) := by
    intro l u lw hu hB
    rw [hB]
    refine stL_at (by exact rfl) ?_
    cases u with
    | nil =>
      simp_arith only [↓optP_of lw]
      exact endC_same (frz_str ..) ⟨rfl, rfl⟩
    | cons c r =>
      have hb : (c :: r).length ≤ big := big_ge (by omega)
      simp only [List.length_cons] at hu
      simp_arith only [↓optP_of lw]
      refine stL_at (by exact rfl) ?_
      by_cases e33 : c :: r = [33]
      · have q1 : (c :: r = [33]) = True := by simp [e33]
        simp_arith only [↓optP_of lw, q1]
        exact endC_same (frz_str ..) ⟨by rw [e33]; rfl, rfl⟩
      · have q1 : (c :: r = [33]) = False := by simp only [e33]
        simp_arith only [↓optP_of lw, q1]
        refine stL_at (by exact rfl) ?_
        by_cases c33 : c = 33
        · have q2 : ([c] = [33]) = True := by simp [c33]
          have hB : brkU (c :: r) = [91] ++ 94 :: r ++ [93] := by unfold brkU; rw [if_neg (by simp), if_neg e33, if_pos (by simp [c33])]; rfl
          rw [hB]
          simp_arith only [↓optP_of lw, q2, ↓optP_of item_head, ↓optP_of (slice_tail hb)]
          exact ⟨big_ge (by omega), big_ge (by omega), endC_same (frz_str ..) ⟨rfl, rfl⟩⟩
        · have q2 : ([c] = [33]) = False := by simp [c33]
          simp_arith only [↓optP_of lw, q2, ↓optP_of item_head]
          refine stL_at (by exact rfl) ?_
          by_cases c9 : c = 94 ∨ c = 91
          · have hB : brkU (c :: r) = [91] ++ 92 :: (c :: r) ++ [93] := by unfold brkU; rw [if_neg (by simp), if_neg e33, if_neg (by simp [c33]), if_pos (by simpa using c9)]
            rw [hB]
            simp_arith only [↓optP_of lw, ↓optP_of item_head, c9]
            exact ⟨big_ge (by omega), big_ge (by omega), endC_same (frz_str ..) ⟨rfl, rfl⟩⟩
          · have hB : brkU (c :: r) = [91] ++ (c :: r) ++ [93] := by unfold brkU; rw [if_neg (by simp), if_neg e33, if_neg (by simp [c33]), if_neg (by simpa using c9)]
            rw [hB]
            simp_arith only [↓optP_of lw, ↓optP_of item_head, c9]
            refine stL_at (by exact rfl) ?_
            simp_arith only [↓optP_of lw]
            exact ⟨big_ge (by omega), big_ge (by omega), endC_same (frz_str ..) ⟨rfl, rfl⟩⟩
  -- the loop
  obtain ⟨s, hs0⟩ : ∃ s, s = c0 :: s' := ⟨_, rfl⟩
  rw [← hs0] at hl fin ⊢
  have loop : ∀ (l : Loc) (p0 : Nat) (w0 : List Nat), l (Str.ofString "inside") = some (.str s) → l (Str.ofString "written") = some (.str w0) → l (Str.ofString "place") = some (.int (p0 : Nat)) → p0 ≤ s.length → w0.length ≤ 1 → lawB s = brkU (w0 ++ memT (s.drop p0)) →
      stL G (n + 1) ⟨scopeAt prog 13, fun _ => false⟩ ((bodyAt prog 13).drop 3) l hp (EndC hp fun v h => v = .str (lawB s) ∧ h = hp) := by
    intro l p0 w0 li lw lp hp0 hw0 hB
    refine stL_at (by exact rfl) ?_
    simp only [stS]
    refine whileW_of (fun m l h => h = hp ∧ ∃ (p : Nat) (w : List Nat), m = s.length - p ∧ p ≤ s.length ∧ l (Str.ofString "inside") = some (.str s) ∧ l (Str.ofString "written") = some (.str w) ∧ l (Str.ofString "place") = some (.int (p : Nat)) ∧ w.length ≤ 2 * p + 1 ∧ lawB s = brkU (w ++ memT (s.drop p))) ?_ (m := s.length - p0) ⟨rfl, p0, w0, rfl, hp0, li, lw, lp, by omega, hB⟩
    clear li lw lp hB l
    rintro I m l h hI ⟨rfl, p, w, rfl, hps, li, lw, lp, hw, hB⟩
    by_cases hlt : p < s.length
    · have q1 : ((p : Int) < (s.length : Int)) = True := by simp; omega
      have q2 : ((p : Int) + 2 < (s.length : Int)) = (p + 2 < s.length) := by apply propext; omega
      have hsl := slice_any (hp := h) (x := s) (a := p + 1) (b := p + 2) (big_ge (by omega)) (big_ge (by omega)) (big_ge (by omega))
      rw [show ((p + 1 : Nat) : Int) = (p : Int) + 1 by omega, show ((p + 2 : Nat) : Int) = (p : Int) + 2 by omega] at hsl
      have hd : s.drop p = s[p] :: s.drop (p + 1) := List.drop_eq_getElem_cons hlt
      have hit := item_str (hp := h) (x := s) hlt (big_ge (by omega))
      have hbl : s.length ≤ big := big_ge (by omega)
      have htk : (s.take (p + 2)).drop (p + 1) = (s.drop (p + 1)).take 1 := by rw [List.drop_take, show p + 2 - (p + 1) = 1 by omega]
      have one : memT (s.drop p) = dressC s[p] ++ memT (s.drop (p + 1)) → ∀ (v : PV) (h2 : Hp), v = .str (dressC s[p]) ∧ h2 = h → optP (binV Operator.Add h2 (PV.str w) v) fun v =>
          stL G (n + 1) ⟨scopeAt prog 13, fun _ => false⟩ (Bbr.drop 1) (upd (upd l (Str.ofString "written") v) (Str.ofString "place") (PV.int ((p : Int) + 1))) h2 fun f l' hp' => match f with
            | .next => I l' hp'
            | .cont => I l' hp'
            | .brk => stL G (n + 1) ⟨scopeAt prog 13, fun _ => false⟩ ((bodyAt prog 13).drop 4) l' hp' (EndC h fun v h_1 => v = PV.str (lawB s) ∧ h_1 = h)
            | .ret v => EndC h (fun v h_1 => v = PV.str (lawB s) ∧ h_1 = h) (.ret v) l' hp' := by
        rintro hm v h2 ⟨rfl, rfl⟩
        have hdl := dressC_len s[p]
        simp_arith only []
        refine ⟨big_ge (by omega), stL_end (by decide) (hI _ _ _ ?_ ⟨rfl, p + 1, w ++ dressC s[p], rfl, hlt, ?_, ?_, ?_, ?_, ?_⟩)⟩
        · omega
        · simp_arith! only [li]
        · simp_arith! only []
        · simp_arith! only []; exact int_eq (by omega)
        · rw [List.length_append]; omega
        · rw [hB, hm, List.append_assoc]
      simp_arith! only [↓optP_of lp, ↓optP_of li, q1, hbl]
      show stL G _ _ (Bbr.drop 0) _ _ _
      refine stL_at (by exact rfl) ?_
      by_cases h45 : (s.take (p + 2)).drop (p + 1) = [45]
      · have q3 : ((s.take (p + 2)).drop (p + 1) = [45]) = True := by simp [h45]
        by_cases h2 : p + 2 < s.length
        · have q4 : (p + 2 < s.length) = True := by simp [h2]
          have h1 : s[p + 1] = 45 := by
            rw [htk, List.drop_eq_getElem_cons (by omega), List.take_succ_cons, List.take_zero] at h45
            exact (List.cons.inj h45).1
          have hd3 : s.drop p = s[p] :: 45 :: s[p + 2] :: s.drop (p + 3) := by
            rw [hd, List.drop_eq_getElem_cons (by omega : p + 1 < s.length), List.drop_eq_getElem_cons (by omega : p + 1 + 1 < s.length), h1]
          have hit2 := item_str (hp := h) (x := s) h2 (big_ge (by omega))
          rw [show ((p + 2 : Nat) : Int) = (p : Int) + 2 by omega] at hit2
          have hmt : memT (s.drop p) = (if s[p] ≤ s[p + 2] then dressC s[p] ++ [45] ++ dressC s[p + 2] else []) ++ memT (s.drop (p + 3)) := by rw [hd3, memT]
          by_cases hle : s[p] ≤ s[p + 2]
          · have q5 : decide (s[p + 2] < s[p]) = false := by simp; omega
            rw [if_pos hle] at hmt
            simp_arith only [↓optP_of lp, ↓optP_of li, ↓optP_of hsl, q3, q2, q4, hbl, ↓optP_of lw, ↓optP_of hit, ↓optP_of hit2, gt_one, q5]
            refine ⟨isFn_of (f_dress V), by omega, callW_mono (c_dress V _) ?_⟩
            rintro v h2 ⟨rfl, rfl⟩
            have hdl := dressC_len s[p]
            have hdl2 := dressC_len s[p + 2]
            simp_arith only [↓optP_of hit2]
            refine ⟨big_ge (by omega), big_ge (by rw [List.length_append]; omega), isFn_of (f_dress V), by omega, callW_mono (c_dress V _) ?_⟩
            rintro v h2 ⟨rfl, rfl⟩
            simp_arith only []
            refine ⟨big_ge (by simp only [List.length_append, List.length_cons, List.length_nil]; omega), stL_end (by decide) (hI _ _ _ ?_ ⟨rfl, p + 3, w ++ dressC s[p] ++ [45] ++ dressC s[p + 2], rfl, by omega, ?_, ?_, ?_, ?_, ?_⟩)⟩
            · omega
            · simp_arith! only [li]
            · simp_arith! only []
            · simp_arith! only []; exact int_eq (by omega)
            · simp only [List.length_append, List.length_cons, List.length_nil]; omega
            · rw [hB, hmt]; simp
          · have q5 : decide (s[p + 2] < s[p]) = true := by simp; omega
            rw [if_neg hle] at hmt
            simp_arith only [↓optP_of lp, ↓optP_of li, ↓optP_of hsl, q3, q2, q4, hbl, ↓optP_of lw, ↓optP_of hit, ↓optP_of hit2, gt_one, q5]
            refine stL_end (by decide) (hI _ _ _ ?_ ⟨rfl, p + 3, w, rfl, h2, ?_, ?_, ?_, ?_, ?_⟩)
            · omega
            · simp_arith! only [li]
            · simp_arith! only [lw]
            · simp_arith! only []; exact int_eq (by omega)
            · omega
            · rw [hB, hmt, List.nil_append]
        · have q4 : (p + 2 < s.length) = False := by simp [h2]
          simp_arith only [↓optP_of lp, ↓optP_of li, ↓optP_of hsl, q3, q2, q4, hbl, ↓optP_of lw, ↓optP_of hit]
          refine ⟨isFn_of (f_dress V), by omega, callW_mono (c_dress V _) (one ?_)⟩
          rw [hd, memT_one]
          rintro ⟨_, q⟩
          rw [List.length_drop] at q; omega
      · have q3 : ((s.take (p + 2)).drop (p + 1) = [45]) = False := by simp [h45]
        simp_arith only [↓optP_of lp, ↓optP_of li, ↓optP_of hsl, q3, q2, ↓optP_of lw, ↓optP_of hit]
        refine ⟨isFn_of (f_dress V), by omega, callW_mono (c_dress V _) (one ?_)⟩
        rw [hd, memT_one]
        rintro ⟨q, _⟩
        apply h45
        rw [htk]
        cases hx : s.drop (p + 1) with
        | nil => rw [hx] at q; simp at q
        | cons y r => rw [hx] at q; simp at q; rw [q]; rfl
    · have q1 : ((p : Int) < (s.length : Int)) = False := by simp; omega
      simp_arith only [↓optP_of lp, ↓optP_of li, q1]
      refine ⟨big_ge (by omega), fin l w lw (by omega) ?_⟩
      rw [hB, List.drop_eq_nil_of_le (by omega)]; simp [memT]
  refine stL_at (by exact rfl) ?_
  simp_arith only []
  refine stL_at (by exact rfl) ?_
  simp_arith only []
  refine stL_at (by exact rfl) ?_
  rw [hs0]
  by_cases c33 : c0 = 33
  · have q2 : ([c0] = [33]) = True := by simp [c33]
    simp_arith only [q2, ↓optP_of item_head]
    rw [← hs0]
    refine loop _ 1 [33] ?_ ?_ ?_ (by rw [hs0]; simp) (by simp) ?_
    · simp_arith! only []
    · simp_arith! only []
    · simp_arith! only []; rfl
    · rw [hs0]; unfold lawB; rw [if_pos (by simp [c33])]; rfl
  · have q2 : ([c0] = [33]) = False := by simp [c33]
    simp_arith only [q2, ↓optP_of item_head]
    rw [← hs0]
    refine loop _ 0 [] ?_ ?_ ?_ (by omega) (by simp) ?_
    · simp_arith! only []
    · simp_arith! only []
    · simp_arith! only []; rfl
    · rw [hs0]; unfold lawB; rw [if_neg (by simp [c33])]; rfl

end

section
open PySem PySem.W PyProof.Rows
set_option linter.unusedVariables false
set_option linter.unusedSimpArgs false
set_option maxRecDepth 100000
set_option maxHeartbeats 4000000

variable {G : GI} {n : Nat} {hp : Hp}
/-! _law_parts -/
def spcl2 : List Nat := [40, 41, 93, 123, 125, 43, 45, 124, 94, 36, 92, 46, 38, 126, 35, 32, 9, 10, 13, 11, 12]
def toldP (j : Nat) (mk : PV) : List Nat → List PV → List PV
  | [], acc => acc
  | c :: r, acc =>
    if c = 42 then toldP j mk (r.dropWhile (· == 42)) (acc ++ [.ref j])
    else if c = 63 then toldP j mk (if isSt j mk then r.dropWhile (· == 42) else r) (acc ++ [mk])
    else if c = 91 then
      if findC r 93 ((if r.take 1 = [33] then 1 else 0) + 1) < 0 then toldP j mk r (acc ++ [.str [92, 91]])
      else toldP j mk (r.drop ((findC r 93 ((if r.take 1 = [33] then 1 else 0) + 1)).toNat + 1)) (acc ++ [.str (lawB (r.take (findC r 93 ((if r.take 1 = [33] then 1 else 0) + 1)).toNat))])
    else if spcl2.contains c then toldP j mk r (acc ++ [.str [92, c]])
    else toldP j mk r (acc ++ [.str [c]])
termination_by r => r.length
decreasing_by
  all_goals simp only [List.length_cons, List.length_drop]
  · have := (List.dropWhile_suffix (l := r) (· == 42)).length_le; omega
  · split
    · have := (List.dropWhile_suffix (l := r) (· == 42)).length_le; omega
    · omega
  all_goals omega
def Bpt : List Stmt := subB (bodyAt prog 14) 2
def Bpb : List Stmt := subB (subE (subE Bpt 2) 0) 0
theorem lstrip_at (h : Hp) {x : List Nat} (c : Nat) (hb : x.length ≤ big) : methV (Str.ofString "lstrip") h (.str x) [.str [c]] = some (.str (x.dropWhile (· == c)), h) := by
  simp only [methV, ofs_inj, String.reduceEq, if_false, if_true, hb]
theorem find2_at (h : Hp) {x : List Nat} {c a : Nat} (hb : x.length ≤ big) : methV (Str.ofString "find") h (.str x) [.str [c], .int (a : Int)] = some (.int (findC x c a), h) := by
  simp only [methV, ofs_inj, String.reduceEq, if_false, if_true]
  rw [if_pos ⟨by omega, hb⟩]; simp
theorem findC_lt {x : List Nat} {c a : Nat} (h : ¬ findC x c a < 0) : findC x c a = ((findC x c a).toNat : Int) ∧ a ≤ (findC x c a).toNat ∧ (findC x c a).toNat < x.length := by
  unfold findC at h ⊢
  cases hk : (x.drop a).findIdx? (· == c) with
  | none => rw [hk] at h; simp at h
  | some k =>
    have := (List.findIdx?_eq_some_iff_getElem.mp hk).1
    rw [List.length_drop] at this
    simp only [Int.toNat_natCast]
    exact ⟨trivial, by omega, by omega⟩
theorem parts_brk (V : Giv G) (j : Nat) (mk : PV) (l : Loc) (r : List Nat) (acc : List PV) (hr : r.length ≤ 800) (hac : acc.length ≤ 800)
    (l1 : l (Str.ofString "star") = some (.ref j)) (l2 : l (Str.ofString "mark") = some mk) (l3 : l (Str.ofString "told") = some (.ref hp.length)) (l4 : l (Str.ofString "rest") = some (.str r)) (Q : Fl → Loc → Hp → Prop)
    (h1 : findC r 93 ((if r.take 1 = [33] then 1 else 0) + 1) < 0 → ∀ l', l' (Str.ofString "star") = some (.ref j) → l' (Str.ofString "mark") = some mk → l' (Str.ofString "told") = some (.ref hp.length) → l' (Str.ofString "rest") = some (.str r) → Q .next l' (hp ++ [.list (acc ++ [.str [92, 91]])]))
    (h2 : ¬ findC r 93 ((if r.take 1 = [33] then 1 else 0) + 1) < 0 → ∀ l', l' (Str.ofString "star") = some (.ref j) → l' (Str.ofString "mark") = some mk → l' (Str.ofString "told") = some (.ref hp.length) → l' (Str.ofString "rest") = some (.str (r.drop ((findC r 93 ((if r.take 1 = [33] then 1 else 0) + 1)).toNat + 1))) →
      Q .next l' (hp ++ [.list (acc ++ [.str (lawB (r.take (findC r 93 ((if r.take 1 = [33] then 1 else 0) + 1)).toNat))])])) :
    stL G (n + 2) ⟨scopeAt prog 14, fun _ => false⟩ (Bpb.drop 0) l (hp ++ [.list acc]) Q := by
  have hbr : r.length ≤ big := big_ge (by omega)
  have hm : ∀ v, methV (Str.ofString "append") (hp ++ [.list acc]) (.ref hp.length) [v] = some (.none, hp ++ [.list (acc ++ [v])]) := fun v => meth_end rfl (big_gt (by omega))
  have hcon : (contents (hp ++ [.list acc]) (.ref hp.length)).isSome = true := by rw [cont_end rfl]; rfl
  have hsl1 : sliceV (hp ++ [.list acc]) (.str r) .none (.int 1) = some (.str (r.take 1)) := slice_to (b := 1) hbr (big_ge (by omega))
  have fin : ∀ (l : Loc) (f : Nat), l (Str.ofString "star") = some (.ref j) → l (Str.ofString "mark") = some mk → l (Str.ofString "told") = some (.ref hp.length) → l (Str.ofString "rest") = some (.str r) → l (Str.ofString "front") = some (.int (f : Nat)) → f = (if r.take 1 = [33] then 1 else 0) →
      stL G (n + 2) ⟨scopeAt prog 14, fun _ => false⟩ (Bpb.drop 2) l (hp ++ [.list acc]) Q := by
    intro l f l1 l2 l3 l4 l5 hf
    rw [← hf] at h1 h2
    have hfi := find2_at (hp ++ [.list acc]) (x := r) (c := 93) (a := f + 1) hbr
    rw [show ((f + 1 : Nat) : Int) = (f : Int) + 1 by omega] at hfi
    refine stL_at (by exact rfl) ?_
    simp_arith only [↓optP_of l4, ↓optP_of l5, ↓optP_of hfi]
    refine stL_at (by exact rfl) ?_
    by_cases hz : findC r 93 (f + 1) < 0
    · have q1 : (findC r 93 (f + 1) < 0) = True := by simp [hz]
      simp_arith only [q1, ↓optP_of l3, hcon, ↓fun v => optP_of (hm v)]
      refine stL_end (by decide) (h1 hz _ ?_ ?_ ?_ ?_) <;> simp_arith! only [l1, l2, l3, l4]
    · have q1 : (findC r 93 (f + 1) < 0) = False := by simp [hz]
      obtain ⟨e1, e2, e3⟩ := findC_lt hz
      have h2 := h2 hz
      rw [e1] at h2
      rw [e1]
      simp only [Int.toNat_natCast] at h2
      generalize (findC r 93 (f + 1)).toNat = z at e2 e3 h2 ⊢
      have q1 : ((z : Int) < 0) = False := by simp
      have hsl2 := slice_to (hp := hp ++ [.list acc]) (x := r) (b := z) hbr (big_ge (by omega))
      have hne : r.take z ≠ [] := by
        intro q; have := congrArg List.length q
        rw [List.length_take, List.length_nil] at this; omega
      have hsl3 := slice_from (hp := hp ++ [.list (acc ++ [.str (lawB (r.take z))])]) (x := r) (a := z + 1) hbr (big_ge (by omega))
      rw [show ((z + 1 : Nat) : Int) = (z : Int) + 1 by omega] at hsl3
      simp_arith only [q1, ↓optP_of l3, ↓optP_of l4, hcon, ↓optP_of hsl2]
      refine ⟨isFn_of (f_bracket V), by omega, callW_mono (c_bracket (n := n) V (r.take z) hne (by rw [List.length_take]; omega)) ?_⟩
      rintro v h ⟨rfl, rfl⟩
      simp_arith only [↓fun v => optP_of (hm v), ↓optP_of l4, ↓optP_of hsl3]
      refine stL_end (by decide) (h2 _ ?_ ?_ ?_ ?_) <;> simp_arith! only [l1, l2, l3, l4]
  refine stL_at (by exact rfl) ?_
  simp_arith only []
  refine stL_at (by exact rfl) ?_
  by_cases h33 : r.take 1 = [33]
  · have q1 : (r.take 1 = [33]) = True := by simp [h33]
    simp_arith only [↓optP_of l4, ↓optP_of hsl1, q1]
    refine fin _ 1 ?_ ?_ ?_ ?_ ?_ (by simp [h33]) <;> simp_arith! only [l1, l2, l3, l4]
    rfl
  · have q1 : (r.take 1 = [33]) = False := by simp [h33]
    simp_arith only [↓optP_of l4, ↓optP_of hsl1, q1]
    refine fin _ 0 ?_ ?_ ?_ ?_ ?_ (by simp [h33]) <;> simp_arith! only [l1, l2, l3, l4]
    rfl
theorem c_parts (V : Giv G) (pat : List Nat) (hpl : pat.length ≤ 800) (j : Nat) (hj : okRef hp j = true) (mk : PV) (hmk : okPart hp.length mk) : CallW G (n + 2) (Str.ofString "_law_parts") [.str pat, .ref j, mk] hp fun v h => v = .list (toldP j mk pat []) ∧ h = hp := by
  have hjl : j < hp.length := by
    unfold okRef at hj
    split at hj <;> first | exact (List.getElem?_eq_some_iff.mp (by assumption)).1 | cases hj
  refine call_walk (fun _ => false) V.g V.po.nl (f_parts V) rfl ?_
  refine stL_at (by exact rfl) ?_
  simp_arith only []
  refine stL_at (by exact rfl) ?_
  simp_arith only []
  refine stL_at (by exact rfl) ?_
  simp only [stS]
  refine whileW_of (fun m l h => ∃ (r : List Nat) (acc : List PV), m = r.length ∧ r.length ≤ 800 ∧ l (Str.ofString "star") = some (.ref j) ∧ l (Str.ofString "mark") = some mk ∧ l (Str.ofString "told") = some (.ref hp.length) ∧ l (Str.ofString "rest") = some (.str r) ∧
    h = hp ++ [.list acc] ∧ acc.length + r.length ≤ 800 ∧ (∀ v ∈ acc, okPart hp.length v) ∧ toldP j mk pat [] = toldP j mk r acc) ?_ (m := pat.length) ⟨pat, [], rfl, hpl, rfl, rfl, rfl, rfl, rfl, by simpa using hpl, by simp, rfl⟩
  rintro I m l h hI ⟨r, acc, rfl, hr, l1, l2, l3, l4, rfl, hac, ok, htr⟩
  have hst : okRef (hp ++ [.list acc]) j = true := okRef_app _ hj
  cases r with
  | nil =>
    simp_arith only [↓optP_of l4]
    refine stL_at (by exact rfl) ?_
    simp_arith only [↓optP_of l3]
    refine endC_of (frz_parts ok) ⟨?_, rfl⟩
    rw [htr, toldP]
  | cons c r =>
    simp only [List.length_cons] at hr hac
    have hb : (c :: r).length ≤ big := big_ge (by simp; omega)
    have hbr : r.length ≤ big := big_ge (by omega)
    rw [toldP] at htr
    have cont : ∀ (l' : Loc) (r' : List Nat) (v : PV), r'.length ≤ r.length → l' (Str.ofString "star") = some (.ref j) → l' (Str.ofString "mark") = some mk → l' (Str.ofString "told") = some (.ref hp.length) → l' (Str.ofString "rest") = some (.str r') → okPart hp.length v → toldP j mk pat [] = toldP j mk r' (acc ++ [v]) → I l' (hp ++ [.list (acc ++ [v])]) :=
      fun l' r' v h0 h1 h2 h3 h4 h5 h6 => hI _ _ _ (by simp only [List.length_cons]; omega) ⟨r', acc ++ [v], rfl, by omega, h1, h2, h3, h4, rfl, by simp only [List.length_append, List.length_cons, List.length_nil]; omega, fun w hw => by
        rcases List.mem_append.mp hw with q | q
        · exact ok w q
        · simp only [List.mem_singleton] at q; subst q; exact h5, h6⟩
    have hm : ∀ v, methV (Str.ofString "append") (hp ++ [.list acc]) (.ref hp.length) [v] = some (.none, hp ++ [.list (acc ++ [v])]) := fun v => meth_end rfl (big_gt (by omega))
    have hcon : (contents (hp ++ [.list acc]) (.ref hp.length)).isSome = true := by rw [cont_end rfl]; rfl
    have hdw := (List.dropWhile_suffix (l := r) (· == 42)).length_le
    simp_arith! only [↓optP_of l4]
    refine ⟨hb, ?_⟩
    show stL G _ _ (Bpt.drop 0) _ _ _
    refine stL_at (by exact rfl) ?_
    simp_arith only [↓optP_of l4, ↓optP_of item_head]
    refine stL_at (by exact rfl) ?_
    simp_arith only [↓optP_of l4, ↓optP_of (slice_tail hb)]
    refine stL_at (by exact rfl) ?_
    by_cases c42 : c = 42
    · have q2 : ([c] = [42]) = True := by simp [c42]
      rw [if_pos c42] at htr
      simp_arith only [q2, ↓optP_of l1, ↓optP_of l3, hcon, ↓fun v => optP_of (hm v), ↓optP_of (lstrip_at _ 42 hbr)]
      refine stL_end (by decide) (cont _ _ _ hdw ?_ ?_ ?_ ?_ (.inr ⟨j, rfl, hjl⟩) htr) <;> simp_arith! only [l1, l2, l3]
    · have q2 : ([c] = [42]) = False := by simp [c42]
      rw [if_neg c42] at htr
      by_cases c63 : c = 63
      · have q3 : ([c] = [63]) = True := by simp [c63]
        rw [if_pos c63] at htr
        have hw := isV_st (h := hp ++ [.list (acc ++ [mk])]) hmk (okRef_app _ hj)
        cases hsm : isSt j mk with
        | true =>
          rw [hsm] at hw htr
          simp_arith only [q2, q3, ↓optP_of l1, ↓optP_of l2, ↓optP_of l3, hcon, ↓fun v => optP_of (hm v), ↓optP_of (lstrip_at _ 42 hbr), ↓o_is _ hw]
          refine stL_end (by decide) (cont _ _ _ hdw ?_ ?_ ?_ ?_ hmk htr) <;> simp_arith! only [l1, l2, l3]
        | false =>
          rw [hsm] at hw htr
          simp_arith only [q2, q3, ↓optP_of l1, ↓optP_of l2, ↓optP_of l3, hcon, ↓fun v => optP_of (hm v), ↓optP_of (lstrip_at _ 42 hbr), ↓o_is _ hw]
          refine stL_end (by decide) (cont _ _ _ (Nat.le_refl _) ?_ ?_ ?_ ?_ hmk htr) <;> simp_arith! only [l1, l2, l3]
      · have q3 : ([c] = [63]) = False := by simp [c63]
        rw [if_neg c63] at htr
        by_cases c91 : c = 91
        · have q4 : ([c] = [91]) = True := by simp [c91]
          rw [if_pos c91] at htr
          simp_arith! only [↓stS, q2]
          refine stL_at (B := subE Bpt 2) (k := 0) (by exact rfl) ?_
          simp_arith! only [↓stS, q3]
          refine stL_at (B := subE (subE Bpt 2) 0) (k := 0) (by exact rfl) ?_
          simp_arith! only [↓stS, q4]
          show stL G _ _ (Bpb.drop 0) _ _ _
          refine parts_brk V j mk _ r acc (by omega) (by omega) ?_ ?_ ?_ ?_ _ (fun hz l' h1 h2 h3 h4 => ?_) (fun hz l' h1 h2 h3 h4 => ?_)
          · simp_arith! only [l1]
          · simp_arith! only [l2]
          · simp_arith! only [l3]
          · simp_arith! only []
          · rw [if_pos hz] at htr
            exact stL_end (by decide) (stL_end (by decide) (stL_end (by decide) (cont _ _ _ (Nat.le_refl _) h1 h2 h3 h4 (.inl ⟨_, rfl⟩) htr)))
          · rw [if_neg hz] at htr
            exact stL_end (by decide) (stL_end (by decide) (stL_end (by decide) (cont _ _ _ (by simp) h1 h2 h3 h4 (.inl ⟨_, rfl⟩) htr)))
        · have q4 : ([c] = [91]) = False := by simp [c91]
          rw [if_neg c91] at htr
          simp_arith only [q2, q3, q4, ↓optP_of l3, hcon, ↓fun v => optP_of (hm v)]
          by_cases hsp : spcl2.contains c = true
          · rw [if_pos hsp] at htr
            rw [if_pos (by simpa [spcl2] using hsp)]
            refine ⟨by decide, stL_end (by decide) (cont _ _ _ (Nat.le_refl _) ?_ ?_ ?_ ?_ (.inl ⟨_, rfl⟩) htr)⟩ <;> simp_arith! only [l1, l2, l3]
          · rw [if_neg hsp] at htr
            rw [if_neg (by simpa [spcl2] using hsp)]
            refine stL_end (by decide) (cont _ _ _ (Nat.le_refl _) ?_ ?_ ?_ ?_ (.inl ⟨_, rfl⟩) htr) <;> simp_arith! only [l1, l2, l3]

end

section
open PySem PySem.W PyProof.Rows
set_option linter.unusedVariables false
set_option linter.unusedSimpArgs false
set_option maxRecDepth 100000
set_option maxHeartbeats 4000000

variable {G : GI} {n : Nat} {hp : Hp}
/-! _law_same, at equal lists -/
def okLs (hp : Hp) (v : PV) : Prop := (∃ t, v = .str t) ∨ ∃ i ws, v = .ref i ∧ hp[i]? = some (.list ws)
theorem c_same (V : Giv G) (ps : List PV) (hb : ps.length ≤ 1000) (ok : ∀ v ∈ ps, okLs hp v) : CallW G n (Str.ofString "_law_same") [.list ps, .list ps] hp fun v h => v = .bool true ∧ h = hp := by
  refine call_walk (fun _ => false) V.g V.po.nl (f_same V) rfl ?_
  have hln : ∀ h, bltV (Str.ofString "len") h [.list ps] = some (.int ps.length) := fun h => len_cont rfl (big_ge (by omega))
  refine stL_at (by exact rfl) ?_
  simp_arith only [↓optP_of (hln _)]
  refine stL_at (by exact rfl) ?_
  simp_arith! only [↓stS, isTupE, ↓optP_of (show contents hp (.list ps) = some ps from rfl)]
  refine ⟨⟨Nat.le_refl _, big_ge (by omega)⟩, ?_⟩
  refine forL_of (fun zs l h => h = hp ++ [.hid] ∧ ∃ qs : List PV, zs = zipP qs qs ∧ ∀ v ∈ qs, okLs hp v) ?_ ?_ ⟨rfl, ps, rfl, ok⟩
  · rintro I x zs l h hI ⟨rfl, qs, hz, hok⟩
    cases qs with
    | nil => simp [zipP] at hz
    | cons q qs =>
      have hz' : x = .tuple [q, q] ∧ zs = zipP qs qs := by simpa [zipP] using hz
      obtain ⟨rfl, rfl⟩ := hz'
      have fin : ∀ l', I l' (hp ++ [.hid]) := fun l' => hI _ _ ⟨rfl, qs, rfl, fun v hv => hok v (by simp [hv])⟩
      rcases hok q (by simp) with ⟨t, rfl⟩ | ⟨i, ws, rfl, hi⟩
      · simp_arith only [isaV, isStr, isList]
        exact ⟨⟨trivial, trivial, by simp⟩, fin _⟩
      · have hi2 : (hp ++ [.hid])[i]? = some (.list ws) := by rw [List.getElem?_append_left (List.getElem?_eq_some_iff.mp hi).1]; exact hi
        have hw : isV (hp ++ [.hid]) (.ref i) (.ref i) = some true := by simp [isV]
        simp_arith only [isaV, isStr, isList, hi2, ↓o_isnot _ hw]
        exact ⟨⟨trivial, trivial, by simp⟩, fin _⟩
  · rintro l h ⟨rfl, qs, hz, hok⟩
    refine stL_at (by exact rfl) ?_
    simp_arith only []
    exact endC_of (frz_bool ..) ⟨rfl, rfl⟩

/-! _law_joined -/
def spI : List (Option (List Nat)) → List Nat → List (List Nat) × List Nat
  | [], w => ([], w)
  | none :: r, w => (w :: (spI r []).1, (spI r []).2)
  | some t :: r, w => spI r (w ++ t)
def runT (p : List Nat) : List Nat := [40, 63, 62, 46, 42, 63] ++ p ++ [41]
def joinS (R : List (List Nat)) (w : List Nat) : List Nat := match R with
  | [] => [40, 63, 115, 58] ++ w ++ [41, 92, 90]
  | p :: R => [40, 63, 115, 58] ++ p ++ (R.map runT).flatten ++ [46, 42] ++ w ++ [41, 92, 90]
def nd (b : Bool) (l : List (Option (List Nat))) : Bool := if b then noDbl (none :: l) else noDbl l
def Bjo : List Stmt := subB (bodyAt prog 16) 3
theorem c_joined (V : Giv G) (its : List (Option (List Nat))) (j : Nat) (hb : its.length ≤ 1000) (hs : sumI its ≤ 1000000) : CallW G n (Str.ofString "_law_joined") [.list (its.map (pvI j)), .ref j] hp
    fun v h => v = (if noDbl its then .str (joinS (spI its []).1 (spI its []).2) else .none) ∧ h = hp := by
  refine call_walk (fun _ => false) V.g V.po.nl (f_joined V) rfl ?_
  refine stL_at (by exact rfl) ?_
  simp_arith only []
  refine stL_at (by exact rfl) ?_
  simp_arith only []
  refine stL_at (by exact rfl) ?_
  simp_arith only []
  refine stL_at (by exact rfl) ?_
  simp_arith! only [↓stS, ↓optP_of (show iterV (hp ++ [.list []]) (.list (its.map (pvI j))) = some (its.map (pvI j)) from rfl)]
  refine ⟨by rw [List.length_map]; exact big_ge (by omega), ?_⟩
  refine forL_of (fun zs l h => ∃ (todo : List (Option (List Nat))) (R : List (List Nat)) (w : List Nat) (b : Bool), zs = todo.map (pvI j) ∧ l (Str.ofString "star") = some (.ref j) ∧ l (Str.ofString "runs") = some (.ref hp.length) ∧ l (Str.ofString "run") = some (.str w) ∧ l (Str.ofString "behind") = some (.bool b) ∧
    h = hp ++ [.list (R.map .str)] ∧ noDbl its = nd b todo ∧ spI its [] = (R ++ (spI todo w).1, (spI todo w).2) ∧ R.length + todo.length ≤ 1000 ∧ w.length + totL R + sumI todo ≤ 1000000) ?_ ?_
    ⟨its, [], [], false, rfl, rfl, rfl, rfl, rfl, rfl, rfl, rfl, by simpa using hb, by simpa [totL] using hs⟩
  · rintro I x zs l h hI ⟨todo, R, w, b, hz, l1, l2, l3, l4, rfl, hnd, hsp, hb1, hb2⟩
    cases todo with
    | nil => simp at hz
    | cons o r =>
      have hz' : x = pvI j o ∧ zs = r.map (pvI j) := by simpa using hz
      obtain ⟨rfl, rfl⟩ := hz'
      clear hz
      rw [sumI_cons] at hb2
      simp only [List.length_cons] at hb1
      cases o with
      | none =>
        have hw := isV_pv (hp ++ [.list (R.map .str)]) j none
        have hm : methV (Str.ofString "append") (hp ++ [.list (R.map .str)]) (.ref hp.length) [.str w] = some (.none, hp ++ [.list ((R ++ [w]).map .str)]) := by
          rw [meth_end rfl (by rw [List.length_map]; exact big_gt (by omega))]; simp
        have hcon : (contents (hp ++ [.list (R.map .str)]) (.ref hp.length)).isSome = true := by rw [cont_end rfl]; rfl
        cases b with
        | true =>
          simp_arith only [↓optP_of l1, ↓optP_of l4, ↓o_is _ hw, Option.isNone_none]
          refine endC_of (frz_none ..) ⟨?_, rfl⟩
          rw [hnd]; rfl
        | false =>
          simp_arith only [↓optP_of l1, ↓optP_of l2, ↓optP_of l3, ↓optP_of l4, ↓o_is _ hw, Option.isNone_none, hcon, ↓optP_of hm]
          refine ⟨trivial, hI _ _ ⟨r, R ++ [w], [], true, rfl, ?_, ?_, ?_, ?_, rfl, ?_, ?_, ?_, ?_⟩⟩
          all_goals (try (simp_arith! only [l1, l2, l3, l4]; done))
          · rw [hnd]; rfl
          · rw [hsp, spI]; simp
          · simp; omega
          · simp only [totL, List.flatten_append, List.length_append, List.flatten_cons, List.flatten_nil, List.length_nil] at hb2 ⊢; omega
      | some t =>
        have hw := isV_pv (hp ++ [.list (R.map .str)]) j (some t)
        simp_arith only [↓optP_of l1, ↓optP_of l3, ↓o_is _ hw, Option.isNone_some, pvI]
        simp only [] at hb2
        refine ⟨big_ge (by omega), trivial, hI _ _ ⟨r, R, w ++ t, false, rfl, ?_, ?_, ?_, ?_, rfl, ?_, ?_, ?_, ?_⟩⟩
        all_goals (try (simp_arith! only [l1, l2, l3, l4]; done))
        · rw [hnd]; cases b <;> simp [nd, noDbl]
        · rw [hsp, spI]
        · omega
        · rw [List.length_append]; omega
  · rintro l h ⟨todo, R, w, b, hz, l1, l2, l3, l4, rfl, hnd, hsp, hb1, hb2⟩
    have ht : todo = [] := by cases todo with
      | nil => rfl
      | cons o r => simp at hz
    subst ht
    have hN : noDbl its = true := by rw [hnd]; cases b <;> rfl
    rw [hN, hsp]
    simp only [spI, List.append_nil, if_true]
    have ct : contents (hp ++ [.list (R.map .str)]) (.ref hp.length) = some (R.map .str) := cont_end rfl
    refine stL_at (by exact rfl) ?_
    cases R with
    | nil =>
      simp_arith only [↓optP_of l2, ↓optP_of l3, ↓optP_of (truth_cont ct (by simp))]
      exact ⟨big_ge (by omega), big_ge (by omega), endC_of (frz_str ..) ⟨rfl, rfl⟩⟩
    | cons p R =>
      simp only [List.length_cons, List.length_nil] at hb1
      simp_arith only [↓optP_of l2, ↓optP_of l3, ↓optP_of (truth_cont ct (big_ge (by simp; omega)))]
      refine stL_at (by exact rfl) ?_
      have hRl : (PV.str p :: R.map PV.str).length ≤ big := big_ge (by simp; omega)
      have ct2 : contents (hp ++ [.list (.str p :: R.map .str)]) (.ref hp.length) = some (.str p :: R.map .str) := ct
      have hsl1 : sliceV (hp ++ [.list (.str p :: R.map .str)]) (.ref hp.length) (.int 1) .none = some (.list (R.map .str)) := by
        exact (slice_ref (a' := some ((1 : Nat) : Int)) (b' := none) ct2 rfl rfl hRl).trans (by rw [slc_fromA]; rfl)
      simp only [totL, List.flatten_cons, List.length_append] at hb2
      simp_arith only [↓optP_of l2, ↓optP_of hsl1, ↓optP_of (show iterV (hp ++ [.list (.str p :: R.map .str)]) (.list (R.map .str)) = some (R.map .str) from rfl)]
      refine ⟨by rw [List.length_map]; exact big_ge (by omega), ?_⟩
      refine compL_of (fun xs acc => ∃ A B : List (List Nat), R = A ++ B ∧ xs = B.map .str ∧ acc = (A.map runT).map .str) ?_ ?_ ⟨[], R, rfl, rfl, rfl⟩
      · rintro I x xs acc hI ⟨A, B, hR, hx, rfl⟩
        cases B with
        | nil => simp at hx
        | cons q B =>
          have hx' : x = .str q ∧ xs = B.map .str := by simpa using hx
          obtain ⟨rfl, rfl⟩ := hx'
          have hq : q.length ≤ R.flatten.length := mem_tot (l := R) (by rw [hR]; simp)
          simp_arith only []
          refine ⟨big_ge (by omega), big_ge (by omega), rfl, hI _ ⟨A ++ [q], B, by rw [hR]; simp, rfl, ?_⟩⟩
          simp [runT]
      · rintro acc ⟨A, B, hR, hx, rfl⟩
        have hB : B = [] := by cases B with
          | nil => rfl
          | cons q B => simp at hx
        subst hB
        rw [List.append_nil] at hR
        subst hR
        have hfl : ∀ R : List (List Nat), (R.map runT).flatten.length = R.flatten.length + 7 * R.length := by
          intro R
          induction R with
          | nil => rfl
          | cons x R ih => simp only [List.map_cons, List.flatten_cons, List.length_append, ih, runT, List.length_cons, List.length_nil]; omega
        have hfR := hfl R
        have e1 : ∀ h, methV (Str.ofString "join") h (.str []) [.list ((R.map runT).map .str)] = some (.str (R.map runT).flatten, h) := fun h => by
          rw [meth_join (xs := R.map runT) rfl (by rw [joinL_nil]; exact big_ge (by omega)) (by simp) (by rw [List.length_map]; exact big_ge (by omega)), joinL_nil]
        have i0 : itemV (hp ++ [.list (.str p :: R.map .str)]) (.ref hp.length) (.int 0) = some (.str p) := item_at (P := []) (R := R.map .str) ct rfl (by simp)
        refine stL_at (by exact rfl) ?_
        simp_arith only [↓optP_of l2, ↓optP_of l3, ↓optP_of i0, ↓optP_of (e1 _)]
        have hR' : R.flatten.length ≤ 1000000 := by omega
        refine ⟨big_ge (by omega), big_ge (by omega), big_ge ?_, big_ge ?_, big_ge ?_, endC_of (frz_str ..) ⟨?_, rfl⟩⟩
        · rw [List.length_append]; omega
        · simp only [List.length_append, List.length_cons, List.length_nil]; omega
        · simp only [List.length_append, List.length_cons, List.length_nil]; omega
        · simp [joinS]

/-- the joined text, told by its runs -/
theorem spI_lead (l : List (Option (List Nat))) (w : List Nat) : spI l w = spI (l.drop (leadI l).length) (w ++ (leadI l).flatten) := by
  induction l generalizing w with
  | nil => simp [leadI]
  | cons o r ih => cases o with
    | none => simp [leadI]
    | some t => simp only [leadI, spI, List.length_cons, List.drop_succ_cons, List.flatten_cons]; rw [ih]; simp
theorem noDbl_dropk : ∀ (k : Nat) {l : List (Option (List Nat))}, noDbl l = true → noDbl (l.drop k) = true
  | 0, l, h => by simpa using h
  | k + 1, [], h => by simpa using h
  | k + 1, o :: r, h => by
      have : noDbl r = true := by
        cases o with
        | none =>
          cases r with
          | nil => rfl
          | cons y r => cases y with
            | none => simp [noDbl] at h
            | some t => simpa [noDbl] using h
        | some t => simpa [noDbl] using h
      simpa using noDbl_dropk k this
theorem lead_head : ∀ (l : List (Option (List Nat))) (o : Option (List Nat)) (r : List (Option (List Nat))), l.drop (leadI l).length = o :: r → o = none
  | [], o, r, h => by simp [leadI] at h
  | none :: l, o, r, h => by simp [leadI] at h; exact h.1.symm
  | some t :: l, o, r, h => lead_head l o r (by simpa [leadI] using h)
theorem jr_sp (l : List (Option (List Nat))) (h : noDbl (none :: l) = true) : (jrI (none :: l)).flatten = ((spI l []).1.map runT).flatten ++ [46, 42] ++ (spI l []).2 := by
  generalize hm : none :: l = L at h
  fun_induction jrI L generalizing l with
  | case1 r he =>
    cases hm
    have : r = [] := by simpa using he
    subst this
    simp [spI]
  | case2 r he f r' hr =>
    cases hm
    have e : r.drop (leadI r).length = [] := List.isEmpty_iff.mp hr
    rw [spI_lead r, e, List.nil_append, spI]
    simp [f]
  | case3 r he f r' hr ih =>
    cases hm
    cases e : r.drop (leadI r).length with
    | nil => exfalso; apply hr; show (r.drop (leadI r).length).isEmpty = true; rw [e]; rfl
    | cons o q =>
      have ho := lead_head r o q e
      subst ho
      have hr' : r' = none :: q := e
      have hd : noDbl r' = true := noDbl_dropk ((leadI r).length + 1) (l := none :: r) h
      have := ih q hr'.symm hd
      rw [spI_lead r, e, List.nil_append, spI, List.flatten_cons, this]
      simp [runT, f]
  | case4 l hn => subst hm; exact absurd rfl (hn _)
theorem join_same (its : List (Option (List Nat))) (h : noDbl its = true) : joinI its = joinS (spI its []).1 (spI its []).2 := by
  rw [spI_lead, List.nil_append]
  have hd := noDbl_dropk (leadI its).length h
  unfold joinI
  cases hx : its.drop (leadI its).length with
  | nil => simp [spI, joinS, jrI]
  | cons o r =>
    have ho := lead_head its o r hx
    subst ho
    rw [hx] at hd
    simp only [spI, joinS, List.flatten_append]
    rw [jr_sp r hd]
    simp

end

section
open PySem PySem.W PyProof.Rows
set_option linter.unusedVariables false
set_option linter.unusedSimpArgs false
set_option maxRecDepth 100000

/-! the brackets: the program's way through the chunks and the members from the left say the same -/
def dressL (x : List Nat) : List Nat := x.flatMap dressC
theorem dressL_cons (c : Nat) (x : List Nat) : dressL (c :: x) = dressC c ++ dressL x := rfl
theorem dressL_app (x y : List Nat) : dressL (x ++ y) = dressL x ++ dressL y := by simp [dressL]
theorem twS_chunk (x : List Nat) : twS (chunkS x) = dressL x := by
  induction x with
  | nil => rfl
  | cons c r ih =>
    have h : chunkS (c :: r) = chunkS [c] ++ chunkS r := by simp [chunkS, replC]
    rw [h, twS_app, ih, dressL_cons]
    congr 1
    unfold chunkS replC dressC twS
    by_cases h1 : c = 92
    · subst h1; rfl
    · by_cases h2 : c = 45
      · subst h2; rfl
      · simp [h1, h2]
        by_cases h3 : c = 38
        · subst h3; rfl
        · by_cases h4 : c = 126
          · subst h4; rfl
          · by_cases h5 : c = 124
            · subst h5; rfl
            · simp [h3, h4, h5, isTw]
theorem twS_plain (x : List Nat) (h : 45 ∉ x) : twS (replC x 92 [92, 92]) = dressL x := by
  have : chunkS x = replC x 92 [92, 92] := by
    unfold chunkS
    have : ∀ y : List Nat, 45 ∉ y → replC y 45 [92, 45] = y := by
      intro y
      induction y with
      | nil => intro _; rfl
      | cons c r ih =>
        intro hy
        simp at hy
        have := ih hy.2
        unfold replC at this ⊢
        rw [List.flatMap_cons, this, if_neg (fun e => hy.1 e.symm)]; rfl
    refine this _ ?_
    intro hm
    unfold replC at hm
    rw [List.mem_flatMap] at hm
    obtain ⟨c, hc, hm⟩ := hm
    split at hm
    · simp at hm
    · simp at hm; exact h (hm ▸ hc)
  rw [← this, twS_chunk]
theorem twS_join (l : List (List Nat)) : twS (joinL [45] (l.map chunkS)) = joinL [45] (l.map dressL) := by
  induction l with
  | nil => rfl
  | cons x r ih =>
    cases r with
    | nil => simp only [List.map_cons, List.map_nil, joinL, twS_chunk]
    | cons y ys =>
      simp only [List.map_cons, joinL, twS_app, twS_chunk] at ih ⊢
      rw [ih]; rfl

def rangeT (c d : Nat) : List Nat := if c ≤ d then dressC c ++ [45] ++ dressC d else []
/-- a run without a range -/
theorem memT_flat : ∀ (u : List Nat), (∀ x ∈ u.tail.dropLast, x ≠ 45) → memT u = dressL u
  | [], _ => rfl
  | [c], _ => by simp [memT, dressL]
  | c :: d :: r, h => by
      have hn : ¬ ((d :: r).head? = some 45 ∧ 2 ≤ (d :: r).length) := by
        rintro ⟨h1, h2⟩
        simp at h1 h2
        subst h1
        cases r with
        | nil => simp at h2
        | cons e r => exact h 45 (by simp) rfl
      rw [memT_one hn, dressL_cons, memT_flat (d :: r) (fun x hx => h x ?_)]
      simp only [List.tail_cons] at hx ⊢
      cases r with
      | nil => simp at hx
      | cons e r => rw [List.dropLast_cons_of_ne_nil (by simp)]; exact List.mem_cons_of_mem _ hx
theorem memT_run : ∀ (y : List Nat) (c d : Nat) (z : List Nat), (∀ x ∈ (y ++ [c]).tail, x ≠ 45) → memT (y ++ c :: 45 :: d :: z) = dressL y ++ rangeT c d ++ memT z
  | [], c, d, z, _ => by
      rw [List.nil_append, memT]; rfl
  | a :: y, c, d, z, h => by
      have hn : ¬ ((y ++ c :: 45 :: d :: z).head? = some 45 ∧ 2 ≤ (y ++ c :: 45 :: d :: z).length) := by
        rintro ⟨h1, _⟩
        cases y with
        | nil => simp at h1; exact h c (by simp) h1
        | cons b y => simp at h1; exact h b (by simp) h1
      rw [List.cons_append, memT_one hn, memT_run y c d z fun x hx => h x (by simp only [List.cons_append, List.tail_cons]; exact List.mem_of_mem_tail hx), dressL_cons]
      simp
def JJ (l : List (List Nat)) : List Nat := joinL [45] ((mergeR l).map dressL)
theorem joinL_cons (x : List Nat) (l : List (List Nat)) (h : l ≠ []) : joinL [45] (x :: l) = x ++ [45] ++ joinL [45] l := by
  cases l with
  | nil => exact absurd rfl h
  | cons y l => rfl
theorem joinL_pre (d x : List Nat) (l : List (List Nat)) : joinL [45] ((d ++ x) :: l) = d ++ joinL [45] (x :: l) := by
  cases l with
  | nil => rfl
  | cons y l => simp [joinL]
/-- a sign ahead of the first chunk -/
theorem mergeR_pre (d : Nat) (z : List Nat) (r : List (List Nat)) (h : z ≠ [] ∨ r = []) : ∃ a t, mergeR (z :: r) = a :: t ∧ mergeR ((d :: z) :: r) = (d :: a) :: t := by
  rw [mergeR, mergeR]
  cases hm : mergeR r with
  | nil => exact ⟨z, [], rfl, rfl⟩
  | cons y ys =>
    have hz : z ≠ [] := by
      rcases h with h | h
      · exact h
      · subst h; simp [mergeR] at hm
    have hl : (d :: z).getLastD 0 = z.getLastD 0 := by cases z with
      | nil => exact absurd rfl hz
      | cons a z => simp
    simp only []
    rw [hl]
    split
    · exact ⟨_, _, rfl, by rw [List.dropLast_cons_of_ne_nil hz]; rfl⟩
    · exact ⟨_, _, rfl, rfl⟩
theorem JJ_pre (d : Nat) (z : List Nat) (r : List (List Nat)) (h : z ≠ [] ∨ r = []) : JJ ((d :: z) :: r) = dressC d ++ JJ (z :: r) := by
  obtain ⟨a, t, e1, e2⟩ := mergeR_pre d z r h
  unfold JJ
  rw [e1, e2]
  simp only [List.map_cons, dressL_cons]
  exact joinL_pre _ _ _
theorem JJ_step (y : List Nat) (c d : Nat) (z : List Nat) (r : List (List Nat)) (h : z ≠ [] ∨ r = []) : JJ ((y ++ [c]) :: (d :: z) :: r) = dressL y ++ rangeT c d ++ JJ (z :: r) := by
  obtain ⟨a, t, e1, e2⟩ := mergeR_pre d z r h
  unfold JJ rangeT
  rw [mergeR, e2, e1]
  simp only [List.headD_cons, List.getLastD_concat, List.dropLast_concat, List.tail_cons]
  by_cases hcd : d < c
  · rw [if_pos hcd, if_neg (by omega)]
    simp only [List.map_cons, dressL_app, List.append_nil]
    exact joinL_pre _ _ _
  · rw [if_neg hcd, if_pos (by omega)]
    simp only [List.map_cons, dressL_app, dressL_cons]
    rw [joinL_cons _ _ (by simp), joinL_pre]
    simp [dressL]

/-- the chunks, told from the left -/
def chU (u : List Nat) : List (List Nat) := match h : (u.drop 1).findIdx? (· == 45) with
  | none => [u]
  | some q => match h2 : u.drop (q + 2) with
    | [] => [u]
    | d :: z => if z.isEmpty then [u.take (q + 1), [d]] else (u.take (q + 1)) :: (match chU z with
      | [] => []
      | a :: t => (d :: a) :: t)
termination_by u.length
decreasing_by
  have := congrArg List.length h2
  rw [List.length_drop, List.length_cons] at this; omega
theorem chU_ne : ∀ (u : List Nat), chU u ≠ [] := by
  intro u
  rw [chU]
  split
  · simp
  · split
    · simp
    · split <;> simp
theorem chU_head (u : List Nat) (hu : u ≠ []) : ∃ a t, chU u = a :: t ∧ a ≠ [] := by
  rw [chU]
  split
  · exact ⟨u, [], rfl, hu⟩
  · split
    · exact ⟨u, [], rfl, hu⟩
    · rename_i q hq d z hz
      have ht : u.take (q + 1) ≠ [] := by
        cases u with
        | nil => exact absurd rfl hu
        | cons c u => simp
      split
      · exact ⟨_, _, rfl, ht⟩
      · exact ⟨_, _, rfl, ht⟩
theorem JJ_chU (u : List Nat) (hu : u ≠ []) : JJ (chU u) = memT u := by
  induction hn : u.length using Nat.strongRecOn generalizing u with
  | ind n ih =>
    have flat : ∀ u : List Nat, (∀ x ∈ u.tail.dropLast, x ≠ 45) → JJ [u] = memT u := fun u h => by
      rw [memT_flat u h]; rfl
    rw [chU]
    split
    · rename_i hq
      refine flat u fun x hx e => ?_
      subst e
      have := List.findIdx?_eq_none_iff.mp hq 45 (by rw [List.drop_one]; exact List.dropLast_subset _ hx)
      simp at this
    · rename_i q hq
      obtain ⟨hq0, hq2, hq3⟩ := List.findIdx?_eq_some_iff_getElem.mp hq
      have hq1 := hq0
      rw [List.length_drop] at hq1
      have h45 : u[q + 1]'(by omega) = 45 := by
        have : (u.drop 1)[q]'hq0 = 45 := by simpa using hq2
        rw [List.getElem_drop] at this
        simpa [Nat.add_comm] using this
      have hbefore : ∀ i (hi : i < u.length), 1 ≤ i → i < q + 1 → u[i] ≠ 45 := fun i hi h1 h2 => by
        have := hq3 (i - 1) (by omega)
        rw [List.getElem_drop] at this
        have e : 1 + (i - 1) = i := by omega
        simp only [e] at this
        simpa using this
      split
      · rename_i hd
        have hlen : u.length = q + 2 := by
          have := congrArg List.length hd
          rw [List.length_drop, List.length_nil] at this; omega
        refine flat u fun x hx => ?_
        obtain ⟨i, hi, rfl⟩ := List.getElem_of_mem hx
        rw [List.length_dropLast, List.length_tail] at hi
        rw [List.getElem_dropLast, List.getElem_tail]
        exact hbefore (i + 1) (by omega) (by omega) (by omega)
      · rename_i d z hd
        have hul : u = u.take (q + 1) ++ 45 :: d :: z := by
          have h1 : u.drop (q + 1) = 45 :: d :: z := by rw [List.drop_eq_getElem_cons (by omega), h45, hd]
          rw [← h1, List.take_append_drop]
        obtain ⟨y, c, hy⟩ : ∃ y c, u.take (q + 1) = y ++ [c] := by
          rcases List.eq_nil_or_concat (u.take (q + 1)) with e | ⟨y, c, e⟩
          · have := congrArg List.length e
            rw [List.length_take, List.length_nil] at this; omega
          · exact ⟨y, c, by rw [e, List.concat_eq_append]⟩
        have hrun : memT u = dressL y ++ rangeT c d ++ memT z := by
          conv => lhs; rw [hul, hy]
          rw [List.append_assoc]
          refine memT_run y c d z fun x hx => ?_
          rw [← hy] at hx
          obtain ⟨i, hi, rfl⟩ := List.getElem_of_mem hx
          rw [List.length_tail, List.length_take] at hi
          rw [List.getElem_tail, List.getElem_take]
          exact hbefore (i + 1) (by omega) (by omega) (by omega)
        rw [hrun, hy]
        split
        · rename_i hz
          have hz' : z = [] := by simpa using hz
          subst hz'
          rw [JJ_step y c d [] [] (.inr rfl)]
          simp [memT, JJ, mergeR, joinL, dressL]
        · rename_i hz
          have hz' : z ≠ [] := by simpa using hz
          obtain ⟨a, t, e, ha⟩ := chU_head z hz'
          rw [e]
          simp only []
          rw [JJ_step y c d a t (.inl ha), ← e, ih z.length (by rw [← hn, hul]; simp; omega) z hz' rfl]

/-- the chunks by places are the chunks from the left -/
def finC (s : List Nat) (r : List (List Nat) × Nat) : List (List Nat) := if (s.drop r.2).isEmpty then r.1.dropLast ++ [r.1.getLastD [] ++ [45]] else r.1 ++ [s.drop r.2]
theorem finC_cons (s : List Nat) (x : List Nat) (r : List (List Nat) × Nat) (h : r.1 = [] → (s.drop r.2).isEmpty = false) : finC s (x :: r.1, r.2) = x :: finC s r := by
  unfold finC
  simp only []
  cases he : (s.drop r.2).isEmpty with
  | false => simp
  | true =>
    have hne : r.1 ≠ [] := fun q => by rw [h q] at he; cases he
    simp only [if_true]
    cases hr : r.1 with
    | nil => exact absurd hr hne
    | cons y ys => simp [List.getLastD_cons]
theorem cuts_chU (s : List Nat) (a b : Nat) (hab : a < b) (ha : a < s.length) :
    (∀ u, u = s.drop (b - 1) → u ≠ [] → ∃ h t, chU u = h :: t ∧ finC s (cuts s a b) = ((s.take (b - 1)).drop a ++ h) :: t) ∧ (s.drop (b - 1) = [] → finC s (cuts s a b) = [s.drop a]) := by
  fun_induction cuts s a b with
  | case1 a b hq =>
    have hsa : (s.drop a).isEmpty = false := by
      cases e : s.drop a with
      | nil => have := congrArg List.length e; rw [List.length_drop, List.length_nil] at this; omega
      | cons x r => rfl
    have hf : finC s ([], a) = [s.drop a] := by unfold finC; simp only [hsa]; rfl
    refine ⟨fun u hu hne => ?_, fun _ => hf⟩
    subst hu
    have hdb : (s.drop (b - 1)).drop 1 = s.drop b := by rw [List.drop_drop]; congr 1; omega
    refine ⟨s.drop (b - 1), [], ?_, ?_⟩
    · rw [chU]
      split
      · rfl
      · rename_i q hq'; rw [hdb, hq] at hq'; cases hq'
    · rw [hf]
      congr 1
      have : s.drop a = (s.take (b - 1)).drop a ++ s.drop (b - 1) := by
        have hle : a ≤ (s.take (b - 1)).length := by
          rw [List.length_take]
          have : b - 1 < s.length := by
            have := List.length_pos_iff.mpr hne
            rw [List.length_drop] at this; omega
          omega
        conv => lhs; rw [← List.take_append_drop (b - 1) s]
        rw [List.drop_append_of_le_length hle]
      exact this
  | case2 a b d hq r ih =>
    obtain ⟨hd0, hd2, hd3⟩ := List.findIdx?_eq_some_iff_getElem.mp hq
    have hd1 := hd0
    rw [List.length_drop] at hd1
    have hsd : s[b + d]'(by omega) = 45 := by
      have : (s.drop b)[d]'hd0 = 45 := by simpa using hd2
      rwa [List.getElem_drop] at this
    refine ⟨fun u hu hne => ?_, fun h0 => ?_⟩
    · subst hu
      have hdb : (s.drop (b - 1)).drop 1 = s.drop b := by rw [List.drop_drop]; congr 1; omega
      have hd4 : (s.drop (b - 1)).drop (d + 2) = s.drop (b + d + 1) := by rw [List.drop_drop]; congr 1; omega
      have htk : (s.take (b + d)).drop a = (s.take (b - 1)).drop a ++ (s.drop (b - 1)).take (d + 1) := by
        have e1 : s.take (b + d) = s.take (b - 1) ++ (s.drop (b - 1)).take (d + 1) := by
          rw [show b + d = (b - 1) + (d + 1) by omega, List.take_add]
        rw [e1, List.drop_append_of_le_length (by rw [List.length_take]; omega)]
      by_cases hend : b + d + 1 < s.length
      · have ih := ih (by omega) hend
        have hr1 : r.1 = [] → (s.drop r.2).isEmpty = false := fun q => by
          have := (cuts_len s (b + d + 1) (b + d + 3) (by omega)).2.2 q
          have e : r.2 = b + d + 1 := this
          rw [e]
          cases e : s.drop (b + d + 1) with
          | nil => have := congrArg List.length e; rw [List.length_drop, List.length_nil] at this; omega
          | cons x r => rfl
        have hz : s.drop (b + d + 1) = s[b + d + 1] :: s.drop (b + d + 2) := List.drop_eq_getElem_cons hend
        rw [finC_cons s _ r hr1]
        rw [show b + d + 3 - 1 = b + d + 2 by omega] at ih
        by_cases hzz : s.drop (b + d + 2) = []
        · have := ih.2 hzz
          refine ⟨(s.drop (b - 1)).take (d + 1), [[s[b + d + 1]]], ?_, ?_⟩
          · rw [chU]
            split
            · rename_i hq'; rw [hdb, hq] at hq'; cases hq'
            · rename_i q hq'
              rw [hdb, hq] at hq'; cases hq'
              split
              · rename_i hh; rw [hd4, hz] at hh; cases hh
              · rename_i d' z' hh
                rw [hd4, hz] at hh; cases hh
                rw [if_pos (by rw [hzz]; rfl)]
          · rw [htk, this, hz, hzz]
        · obtain ⟨h, t, e1, e2⟩ := ih.1 _ rfl hzz
          refine ⟨(s.drop (b - 1)).take (d + 1), (s[b + d + 1] :: h) :: t, ?_, ?_⟩
          · rw [chU]
            split
            · rename_i hq'; rw [hdb, hq] at hq'; cases hq'
            · rename_i q hq'
              rw [hdb, hq] at hq'; cases hq'
              split
              · rename_i hh; rw [hd4, hz] at hh; cases hh
              · rename_i d' z' hh
                rw [hd4, hz] at hh; cases hh
                rw [if_neg (by simpa using hzz), e1]
          · rw [htk]
            have hpre : (s.take (b + d + 2)).drop (b + d + 1) = [s[b + d + 1]] := by
              rw [List.drop_take, show b + d + 2 - (b + d + 1) = 1 by omega, hz]; rfl
            rw [show r = cuts s (b + d + 1) (b + d + 3) from rfl, e2, hpre]; rfl
      · have hlen : s.length = b + d + 1 := by omega
        have hr : r = ([], b + d + 1) := by
          show cuts s (b + d + 1) (b + d + 3) = _
          exact cuts_none (by rw [List.drop_eq_nil_of_le (by omega)]; rfl)
        refine ⟨s.drop (b - 1), [], ?_, ?_⟩
        · rw [chU]
          split
          · rfl
          · rename_i q hq'
            rw [hdb, hq] at hq'; cases hq'
            split
            · rfl
            · rename_i d' z' hh
              rw [hd4, List.drop_eq_nil_of_le (by omega)] at hh; cases hh
        · rw [hr]
          unfold finC
          simp only []
          rw [List.drop_eq_nil_of_le (by omega)]
          simp only [List.isEmpty_nil, if_true, List.dropLast_singleton, List.nil_append]
          rw [show ∀ x : List Nat, [x].getLastD [] = x from fun _ => rfl, htk, List.append_assoc]
          have hX : (s.drop (b - 1)).take (d + 1) ++ [45] = s.drop (b - 1) := by
            have h1 : (s.drop (b - 1)).drop (d + 1) = [45] := by
              rw [List.drop_drop, show b - 1 + (d + 1) = b + d by omega, List.drop_eq_getElem_cons (by omega), hsd, List.drop_eq_nil_of_le (by omega)]
            rw [← h1, List.take_append_drop]
          rw [hX]
    · have := congrArg List.length h0
      rw [List.length_drop, List.length_nil] at this; omega

/-- the heart: a bracket's text is its members from the left -/
theorem stuff_told (s : List Nat) (hs : s ≠ []) : stuffB s = if s.head? = some 33 then 33 :: memT s.tail else memT s := by
  unfold stuffB
  cases h45 : s.contains 45 with
  | false =>
    simp only [Bool.false_eq_true, if_false]
    have hn : 45 ∉ s := by simpa using h45
    have hm : ∀ u : List Nat, 45 ∉ u → memT u = dressL u := fun u hu => memT_flat u fun x hx e => hu (by
      subst e; exact List.mem_of_mem_tail (List.dropLast_subset _ hx))
    rw [twS_plain s hn]
    split
    · rename_i h33
      cases s with
      | nil => exact absurd rfl hs
      | cons c r =>
        simp at h33; subst h33
        simp at hn
        rw [List.tail_cons, hm r hn, dressL_cons]; rfl
    · rw [hm s hn]
  | true =>
    simp only [if_true]
    rw [twS_join]
    have hc0 : ∀ k, chunks0 s k = finC s (cuts s 0 k) := fun k => rfl
    have hJ : ∀ l, joinL [45] ((mergeR l).map dressL) = JJ l := fun l => rfl
    rw [hJ, hc0]
    split
    · rename_i h33
      cases s with
      | nil => exact absurd rfl hs
      | cons c r =>
        simp at h33; subst h33
        have hr : r ≠ [] := by rintro rfl; simp at h45
        obtain ⟨h, t, e1, e2⟩ := (cuts_chU (33 :: r) 0 2 (by omega) (by simp)).1 r rfl hr
        rw [e2]
        show JJ ((33 :: h) :: t) = _
        have hh : h ≠ [] := by
          obtain ⟨a, t', e, ha⟩ := chU_head r hr
          rw [e1] at e; cases e; exact ha
        rw [JJ_pre 33 h t (.inl hh), ← e1, JJ_chU r hr]
        rfl
    · obtain ⟨h, t, e1, e2⟩ := (cuts_chU s 0 1 (by omega) (by cases s with | nil => exact absurd rfl hs | cons c r => simp)).1 s rfl hs
      rw [e2]
      show JJ (h :: t) = _
      rw [← e1, JJ_chU s hs]
theorem brk_told (s : List Nat) (hs : s ≠ []) : brkT s = lawB s := by
  unfold brkT lawB; rw [stuff_told s hs]
/-- where a bracket ends -/
theorem endB_find (r : List Nat) : (r.length ≤ endB r → findC r 93 ((if r.take 1 = [33] then 1 else 0) + 1) < 0) ∧ (endB r < r.length → findC r 93 ((if r.take 1 = [33] then 1 else 0) + 1) = (endB r : Nat)) := by
  have key : ∀ (k : Nat), k ≤ r.length → endB r = k + ((r.drop k).takeWhile (fun c => c != 93)).length → (r.length ≤ endB r → findC r 93 k < 0) ∧ (endB r < r.length → findC r 93 k = (endB r : Nat)) := by
    intro k hk he
    have gen : ∀ l : List Nat, (l.findIdx? (· == 93) = none → (l.takeWhile (fun c => c != 93)).length = l.length) ∧ ∀ i, l.findIdx? (· == 93) = some i → (l.takeWhile (fun c => c != 93)).length = i ∧ i < l.length := by
      intro l
      induction l with
      | nil => simp
      | cons c l ih =>
        rw [List.findIdx?_cons]
        by_cases hc : c = 93
        · subst hc; simp
        · simp only [show (c == 93) = false by simpa using hc, List.takeWhile_cons, show (c != 93) = true by simpa using hc, if_true, Bool.false_eq_true, if_false, List.length_cons]
          refine ⟨fun h => ?_, fun i h => ?_⟩
          · have := ih.1 (by simpa using h); omega
          · obtain ⟨i', hi', rfl⟩ := Option.map_eq_some_iff.mp h
            have := ih.2 i' hi'; omega
    unfold findC
    cases hf : (r.drop k).findIdx? (· == 93) with
    | none =>
      have := (gen (r.drop k)).1 hf
      rw [List.length_drop] at this
      exact ⟨fun _ => by simp, fun h => by omega⟩
    | some i =>
      have := (gen (r.drop k)).2 i hf
      rw [List.length_drop] at this
      refine ⟨fun h => by omega, fun h => ?_⟩
      show ((k + i : Nat) : Int) = _
      rw [he, this.1]
  cases r with
  | nil => exact ⟨fun _ => by simp [findC], fun h => by simp at h⟩
  | cons c r =>
    by_cases c33 : c = 33
    · subst c33
      have ht : ((33 :: r).take 1 = [33]) = True := by simp
      simp only [ht, if_true]
      cases r with
      | nil =>
        refine ⟨fun _ => by simp [findC], fun h => ?_⟩
        exfalso; revert h
        simp [endB, skipB]
      | cons d r =>
        refine key 2 (by simp) ?_
        unfold endB skipB
        by_cases d93 : d = 93
        · subst d93; simp
        · simp [d93]; omega
    · have ht : ((c :: r).take 1 = [33]) = False := by simp [c33]
      simp only [ht, if_false]
      refine key 1 (by simp) ?_
      unfold endB skipB
      by_cases c93 : c = 93
      · subst c93; simp
      · simp [c33, c93]; omega
/-- the parts told are the parts of the program -/
theorem star_run (j : Nat) (mk : PV) : ∀ (r : List Nat) (acc : List PV), acc.getLast? = some (.ref j) → trP j mk r acc = trP j mk (r.dropWhile (· == 42)) acc
  | [], acc, _ => rfl
  | c :: r, acc, h => by
      by_cases hc : c = 42
      · subst hc
        have ha : addSt j acc = acc := by unfold addSt; rw [h]; simp [isSt]
        rw [trP, if_pos rfl, ha]
        simp only [List.dropWhile_cons, beq_self_eq_true, if_true]
        exact star_run j mk r acc h
      · rw [List.dropWhile_cons]
        simp [hc]
theorem told_parts (j : Nat) (mk : PV) (r : List Nat) (acc : List PV) (h : acc.getLast? = some (.ref j) → r.head? ≠ some 42) : toldP j mk r acc = trP j mk r acc := by
  have dw : ∀ r : List Nat, (r.dropWhile (· == 42)).head? ≠ some 42 := by
    intro r
    induction r with
    | nil => simp
    | cons c r ih => rw [List.dropWhile_cons]; split
                     · exact ih
                     · rename_i hc; simpa using hc
  fun_induction toldP j mk r acc with
  | case1 acc => rw [trP]
  | case2 r acc ih =>
    have ha : addSt j acc = acc ++ [.ref j] := by
      unfold addSt
      cases hl : acc.getLast? with
      | none => rfl
      | some v =>
        have hv : isSt j v = false := by
          cases hs : isSt j v with
          | false => rfl
          | true =>
            exfalso
            have : v = .ref j := by
              cases v <;> simp [isSt] at hs
              rw [hs]
            exact h (by rw [hl, this]) rfl
        simp [hv]
    rw [trP, if_pos rfl, ha, star_run j mk r _ (by simp)]
    exact ih fun _ => dw r
  | case3 r acc hc ih =>
    rw [trP, if_neg hc, if_pos rfl]
    cases hm : isSt j mk with
    | true =>
      rw [hm] at ih
      have : mk = .ref j := by
        cases mk <;> simp [isSt] at hm
        rw [hm]
      simp only [dite_eq_ite, if_true] at ih ⊢
      rw [ih fun _ => dw r, ← star_run j mk r _ (by rw [this]; simp)]
    | false =>
      rw [hm] at ih
      simp only [dite_eq_ite, Bool.false_eq_true, if_false] at ih ⊢
      refine ih fun hl => ?_
      exfalso
      rw [List.getLast?_append] at hl
      simp at hl
      rw [hl] at hm; simp [isSt] at hm
  | case4 r acc h1 h2 h3 ih =>
    simp only [dite_eq_ite] at h1 ih
    have he : r.length ≤ endB r := by
      apply Classical.byContradiction; intro hn
      have := (endB_find r).2 (by omega); omega
    rw [trP, if_neg h2, if_neg h3, if_pos rfl, if_pos he]
    exact ih fun q => by simp at q
  | case5 r acc h1 h2 h3 ih =>
    simp only [dite_eq_ite] at h1 ih
    have he : ¬ r.length ≤ endB r := fun hn => h1 ((endB_find r).1 hn)
    have hf := (endB_find r).2 (by omega)
    rw [hf] at ih ⊢
    rw [trP, if_neg h2, if_neg h3, if_pos rfl, if_neg he]
    simp only [Int.toNat_natCast] at ih ⊢
    have hne : r.take (endB r) ≠ [] := by
      intro q
      have hr : r ≠ [] := by rintro rfl; simp at he
      have := endB_pos hr
      have := congrArg List.length q
      rw [List.length_take, List.length_nil] at this; omega
    rw [brk_told _ hne]
    exact ih fun q => by simp at q
  | case6 c r acc h1 h2 h3 h4 ih =>
    have he : escC c = [92, c] := by
      unfold escC
      rw [if_pos]
      simp [spcl2] at h4
      simp [spcl]
      omega
    rw [trP, if_neg h1, if_neg h2, if_neg h3, he]
    exact ih fun q => by simp at q
  | case7 c r acc h1 h2 h3 h4 ih =>
    have he : escC c = [c] := by
      unfold escC
      rw [if_neg]
      simp [spcl2] at h4
      simp [spcl]
      omega
    rw [trP, if_neg h1, if_neg h2, if_neg h3, he]
    exact ih fun q => by simp at q
theorem told_same (j : Nat) (mk : PV) (pat : List Nat) : toldP j mk pat [] = trP j mk pat [] := told_parts j mk pat [] (by simp)

end

section
open PySem PySem.W PyProof.Rows
open Sem (wp)
set_option linter.unusedVariables false
set_option linter.unusedSimpArgs false
set_option maxRecDepth 100000

variable {G : GI} {n : Nat} {A : Around} {μ μ' : List Addr} {hp hp' : Hp} {s s' : Shared} {env : Env} {l : Loc} {K : Cfg}

/-! ## an exception on its way: what it leaves of the state -/
def frs (l : List Env) : List Addr := l.filterMap (·.frame)
/-- the frames fr are dicts, all above the first heap -/
def FrD (G : GI) (h : Heap) (fr : List Addr) : Prop := ∀ b ∈ fr, (∃ o es k, h.get? b = some o ∧ o.data = .dict es k) ∧ G.h0.objs.size ≤ b
structure Exc (sr s' : Shared) : Prop where
  os : s'.os = sr.os
  gens : s'.gens = sr.gens
  toks : s'.toks = sr.toks
  up : sr.heap.UpToSlots s'.heap
theorem Exc.refl (s : Shared) : Exc s s := ⟨rfl, rfl, rfl, .refl _⟩
theorem Exc.trans {s1 s2 s3 : Shared} (x : Exc s1 s2) (y : Exc s2 s3) : Exc s1 s3 := ⟨y.os.trans x.os, y.gens.trans x.gens, y.toks.trans x.toks, x.up.trans y.up⟩
theorem Exc.heap {h' : Heap} (k : s.heap.UpToSlots h') : Exc s { s with heap := h' } := ⟨rfl, rfl, rfl, k⟩

section
variable {sr : Shared} {fr : List Addr} (x : Exc sr s') (D : FrD G sr.heap fr) (st : (hideAll sr.heap fr).StaysIn s'.heap)
include x D st
theorem Exc.ups {a : Addr} {o : Obj} (e : sr.heap.get? a = some o) : UpS s'.heap a o := by
  by_cases q : a ∈ fr
  · obtain ⟨⟨o', es, k, e', hd⟩, _⟩ := D a q
    rw [e] at e'; cases e'
    obtain ⟨sl, h⟩ := x.up a o e fun vs q => by rw [hd] at q; cases q
    exact .inr ⟨es, k, sl, hd, h⟩
  · exact .inl (st a o (hideAll_get _ e q))
theorem Exc.same {a : Addr} {o : Obj} (e : sr.heap.get? a = some o) (hd : ∀ es k, o.data ≠ .dict es k) : s'.heap.get? a = some o := (Exc.ups x D st e).same hd
theorem Exc.base {a : Addr} {o : Obj} (e0 : G.h0.get? a = some o) (e : sr.heap.get? a = some o) : s'.heap.get? a = some o := by
  refine st a o (hideAll_get _ e fun q => ?_)
  exact absurd (Heap.lt_size e0) (Nat.not_lt.mpr (D a q).2)
theorem Exc.hr (H : HR G μ hp sr) : HR G μ hp s' := by
  have vk : VKeep μ sr.heap s'.heap := fun a o e hv _ => Exc.same x D st e hv.noDict
  refine ⟨fun a o e => Exc.base x D st e (H.base a o e), ?_, x.os.trans H.os, x.gens ▸ H.gens, by rw [x.toks]; exact H.toks, H.nodup, H.len, H.low, fun i a m h1 h2 => ?_⟩
  · obtain ⟨ps, e, ht, hc⟩ := H.tab
    refine ⟨ps, Exc.same x D st e (fun es k q => by cases q), ht, fun pos c hp' => ?_⟩
    obtain ⟨a, o, q1, q2, q3, vs, q, t, q4, q5⟩ := hc pos c hp'
    exact ⟨a, o, q1, Exc.same x D st q2 (fun es k q => by rw [q4] at q; cases q), q3, vs, q, t, q4, q5⟩
  · have := H.obj i a m h1 h2
    cases m with
    | list vs => obtain ⟨ws, n, e, r⟩ := this; exact ⟨ws, n, Exc.same x D st e (fun es k q => by cases q), r.mono vk (Grow.refl _ _)⟩
    | obj => exact Exc.same x D st this (fun es k q => by cases q)
    | hid => obtain ⟨ws, e⟩ := this; exact ⟨ws, Exc.same x D st e (fun es k q => by cases q)⟩
theorem Exc.stp {own : Addr → Prop} : Stp G own μ sr μ s' :=
  ⟨fun a o e _ _ _ => Exc.ups x D st e, Grow.refl _ _, fun a o e => by obtain ⟨o', e', _⟩ := (Exc.ups x D st e).obj; exact ⟨o', e'⟩⟩
end

theorem frsOk_D {h : Heap} {lf : List Env} (F : FrsOk G A h) (hl : A.frames = some lf) : FrD G h (frs lf) := fun b hb => by
  obtain ⟨e, he, hf⟩ := List.mem_filterMap.mp hb
  obtain ⟨_, L, o, es, k, h1, h2, h3, h4⟩ := F lf hl e he
  rw [hf] at h1; cases h1
  exact ⟨⟨o, es, k, h2, h3⟩, h4⟩
theorem frsOk_fun {h : Heap} {lf : List Env} (F : FrsOk G A h) (hl : A.frames = some lf) : h.FunFrames (hideAll h (frs lf)) lf := by
  have key : ∀ l', (∀ e ∈ l', e ∈ lf) → h.FunFrames (hideAll h (frs lf)) l' := by
    intro l'
    induction l' with
    | nil => intro _; trivial
    | cons e r ih =>
      intro hs
      obtain ⟨h0, L, o, es, k, h1, h2, h3, h4⟩ := F lf hl e (hs e (by simp))
      exact ⟨h0, ⟨L, o, h1, hideAll_none _ (List.mem_filterMap.mpr ⟨e, hs e (by simp), h1⟩), h2, fun vs q => by rw [h3] at q; cases q⟩, ih fun e' he' => hs e' (by simp [he'])⟩
  exact key lf fun _ h => h

/-! ## the judgement for a piece of text that raises -/
/-- just raised -/
def EN (G : GI) (A : Around) (env : Env) (μ : List Addr) (s : Shared) (X : Hp → Prop) : Value → Shared → Prop := fun v s' =>
  ∃ e sr hp' μ', v = .ref e ∧ X hp' ∧ HR G μ' hp' sr ∧ FrsOk G A sr.heap ∧ Stp G (ownOf env) μ s μ' sr ∧ (∃ h', s' = { sr with heap := h' }) ∧ Heap.NewExc sr.heap s'.heap e "AssertionError"
/-- noted in the frame -/
def EH (G : GI) (A : Around) (env : Env) (lf : List Env) (L : Addr) (μ : List Addr) (s : Shared) (X : Hp → Prop) : Value → Shared → Prop := fun v s' =>
  ∃ e sr hp' μ' a0, v = .ref e ∧ X hp' ∧ HR G μ' hp' sr ∧ FrsOk G A sr.heap ∧ Stp G (ownOf env) μ s μ' sr ∧ Exc sr s' ∧ Heap.HeldW (hideAll sr.heap (frs lf)) lf e (.type "AssertionError") a0 L s'.heap

def WXn (G : GI) (n : Nat) (env : Env) (loc : Loc) (hp : Hp) (t : Sem Flow) (Q : Fl → Loc → Hp → Prop) (X : Hp → Prop) : Prop :=
  ∀ A μ s, Room n A → HR G μ hp s → EnvR G A env loc μ s.heap → wpAny G.M A t (PF G A env μ s Q) (EN G A env μ s X) s
def WXh (G : GI) (n : Nat) (env : Env) (loc : Loc) (hp : Hp) (t : Sem Flow) (Q : Fl → Loc → Hp → Prop) (X : Hp → Prop) : Prop :=
  ∀ A μ s outer L, A.frames = some (env :: outer) → env.frame = some L → Room n A → HR G μ hp s → EnvR G A env loc μ s.heap → wpAny G.M A t (PF G A env μ s Q) (EH G A env (env :: outer) L μ s X) s
variable {Q : Fl → Loc → Hp → Prop} {X : Hp → Prop}
theorem WXn.of {t : Sem Flow} (h : WS G n env l hp t Q) : WXn G n env l hp t Q X := fun A μ s R H Y => wpAny_mono (h A μ s R H Y) (fun _ _ h => h) fun _ _ e => e.elim
theorem EN.back {v : Value} {s'' : Shared} (x : Stp G (ownOf env) μ s μ' s') (h : EN G A env μ' s' X v s'') : EN G A env μ s X v s'' := by
  obtain ⟨e, sr, hp1, μ1, a, b, c, d, f, g⟩ := h
  exact ⟨e, sr, hp1, μ1, a, b, c, d, x.trans f, g⟩
theorem EH.back {lf : List Env} {L : Addr} {v : Value} {s'' : Shared} (x : Stp G (ownOf env) μ s μ' s') (h : EH G A env lf L μ' s' X v s'') : EH G A env lf L μ s X v s'' := by
  obtain ⟨e, sr, hp1, μ1, a0, a, b, c, d, f, g⟩ := h
  exact ⟨e, sr, hp1, μ1, a0, a, b, c, d, x.trans f, g⟩
theorem PF.from {f : Flow} {s'' : Shared} (x : Stp G (ownOf env) μ s μ' s') (h : PF G A env μ' s' Q f s'') : PF G A env μ s Q f s'' := by
  obtain ⟨f, l, h1, m, q, r, H, X, st⟩ := h
  exact ⟨f, l, h1, m, q, r, H, X, x.trans st⟩

theorem X_assert {t : Expr} {p : Pos} (hT : WT G n env l hp (isTrue t env (eval t env)) fun c h1 => c = false ∧ X h1) : WXn G n env l hp (exec (.Assert t none p) env) Q X := fun A μ s R H Y => by
  refine wpAny_Assert_new R.handled (wpAny_mono (hT A μ s R H Y) (fun b s1 h => ?_) fun _ _ e => e.elim)
  obtain ⟨hp1, μ1, ⟨rfl, hx⟩, H1, st1⟩ := h
  simp only [Bool.false_eq_true, if_false]
  exact fun h' e hm => ⟨e, s1, hp1, μ1, rfl, hx, H1, (Y.step H st1).frs, st1.up, ⟨h', rfl⟩, hm⟩

theorem X_cons {st : Stmt} {r : List Stmt} {Qs : Fl → Loc → Hp → Prop} (hs : WS G n env l hp (exec st env) Qs)
    (hq : ∀ f l1 h1, Qs f l1 h1 → (match f with | .next => WXn G n env l1 h1 (execs r env) Q X | f => Q f l1 h1)) : WXn G n env l hp (execs (st :: r) env) Q X := fun A μ s R H Y => by
  refine wpAny_execs_cons (wpAny_mono (hs A μ s R H Y) (fun f s1 h => ?_) fun _ _ e => e.elim)
  obtain ⟨fl, l1, hp1, μ1, q, r1, H1, X1, st1⟩ := h
  have q2 := hq _ _ _ q
  cases fl <;> cases f <;> simp only [FlR] at r1 <;> try (exact r1.elim)
  · exact wpAny_mono (q2 A μ1 s1 R H1 X1) (fun _ _ h => PF.from st1 h) fun _ _ h => EN.back st1 h
  · exact ⟨.brk, l1, hp1, μ1, q2, trivial, H1, X1, st1⟩
  · exact ⟨.cont, l1, hp1, μ1, q2, trivial, H1, X1, st1⟩
  · exact ⟨.ret _, l1, hp1, μ1, q2, r1, H1, X1, st1⟩
theorem H_cons {st : Stmt} {r : List Stmt} {Qs : Fl → Loc → Hp → Prop} (hs : WS G n env l hp (exec st env) Qs)
    (hq : ∀ f l1 h1, Qs f l1 h1 → (match f with | .next => WXh G n env l1 h1 (execs r env) Q X | f => Q f l1 h1)) : WXh G n env l hp (execs (st :: r) env) Q X := fun A μ s outer L hf1 hf2 R H Y => by
  refine wpAny_execs_cons (wpAny_mono (hs A μ s R H Y) (fun f s1 h => ?_) fun _ _ e => e.elim)
  obtain ⟨fl, l1, hp1, μ1, q, r1, H1, X1, st1⟩ := h
  have q2 := hq _ _ _ q
  cases fl <;> cases f <;> simp only [FlR] at r1 <;> try (exact r1.elim)
  · exact wpAny_mono (q2 A μ1 s1 outer L hf1 hf2 R H1 X1) (fun _ _ h => PF.from st1 h) fun _ _ h => EH.back st1 h
  · exact ⟨.brk, l1, hp1, μ1, q2, trivial, H1, X1, st1⟩
  · exact ⟨.cont, l1, hp1, μ1, q2, trivial, H1, X1, st1⟩
  · exact ⟨.ret _, l1, hp1, μ1, q2, r1, H1, X1, st1⟩
/-- the statements ahead of the one that raises -/
theorem X_pre (g : GOk G) {bs : List Stmt} : ∀ (as : List Stmt) {l : Loc} {hp : Hp}, env.scope = K.sc → okL K.sc as = true → stL G n K as l hp (fun f l1 h1 => f = .next ∧ WXn G n env l1 h1 (execs bs env) Q X) → WXn G n env l hp (execs (as ++ bs) env) Q X
  | [], _, _, _, _, h => h.2
  | st :: r, _, _, hs, ok, h => by
      simp only [okL, Bool.and_eq_true] at ok
      unfold stL at h
      refine X_cons ((soundS g (sizeOf st + 1)).s st (Nat.lt_succ_self _) K env _ _ _ hs ok.1 h) fun f l1 h1 q => ?_
      cases f with
      | next => exact X_pre g r hs ok.2 q
      | _ => cases q.1
theorem H_pre (g : GOk G) {bs : List Stmt} : ∀ (as : List Stmt) {l : Loc} {hp : Hp}, env.scope = K.sc → okL K.sc as = true → stL G n K as l hp (fun f l1 h1 => f = .next ∧ WXh G n env l1 h1 (execs bs env) Q X) → WXh G n env l hp (execs (as ++ bs) env) Q X
  | [], _, _, _, _, h => h.2
  | st :: r, _, _, hs, ok, h => by
      simp only [okL, Bool.and_eq_true] at ok
      unfold stL at h
      refine H_cons ((soundS g (sizeOf st + 1)).s st (Nat.lt_succ_self _) K env _ _ _ hs ok.1 h) fun f l1 h1 q => ?_
      cases f with
      | next => exact H_pre g r hs ok.2 q
      | _ => cases q.1
theorem H_one {st : Stmt} {r : List Stmt} (h : WXh G n env l hp (exec st env) (fun f l1 h1 => False) X) : WXh G n env l hp (execs (st :: r) env) Q X := fun A μ s outer L hf1 hf2 R H Y => by
  refine wpAny_execs_cons (wpAny_mono (h A μ s outer L hf1 hf2 R H Y) (fun f s1 h => ?_) fun _ _ e => e)
  obtain ⟨fl, l1, hp1, μ1, q, _⟩ := h
  exact q.elim

/-- the exception that was just raised is noted in the frame -/
theorem note_new {outer : List Env} {L : Addr} {v : Value} {Qf : Unit → Shared → Prop} {E : Value → Shared → Prop} (hf1 : A.frames = some (env :: outer)) (hf2 : env.frame = some L) (h : EN G A env μ s X v s')
    (hq : ∀ h', EH G A env (env :: outer) L μ s X v { s' with heap := h' } → Qf () { s' with heap := h' }) : wpAny G.M A (noteFrame v env) Qf E s' := by
  obtain ⟨e, sr, hp1, μ1, rfl, hx, H1, F1, st1, ⟨h1, rfl⟩, hN⟩ := h
  obtain ⟨ob, t, he, hc, hd⟩ := hN.there
  have hfun := frsOk_fun F1 hf1
  have hl : h1.FunFrames (hideAll sr.heap (frs (env :: outer))) (env :: outer) := hfun.of_keeps fun b o hb _ => ⟨o, hN.keeps b o hb, rfl⟩
  have hkb : (hideAll sr.heap (frs (env :: outer))).StaysIn h1 := fun b o hb => hN.keeps b o (of_hideAll _ hb)
  have hen : (hideAll sr.heap (frs (env :: outer))).get? e = none := by
    cases q : (hideAll sr.heap (frs (env :: outer))).get? e with
    | none => rfl
    | some o => have := of_hideAll _ q; rw [hN.new] at this; cases this
  unfold noteFrame
  simp only [hf2]
  refine wpAny_bind (wpAny_field he hd (x := .none) rfl ?_)
  rw [if_neg (by decide)]
  refine wpAny_entryW hf1 hl hf2 he hkb hen hd (by simp) (a0 := t) rfl fun h' hNW => ?_
  obtain ⟨k1, k2, k3, k4⟩ := hNW
  refine hq h' ⟨e, sr, hp1, μ1, t, rfl, hx, H1, F1, st1, ⟨rfl, rfl, rfl, (Heap.UpToSlots.of_keeps hN.keeps).trans k4⟩, k1, hen, k2, ?_⟩
  rw [← hc]; exact k3
/-- the flight is set to the frame once more -/
theorem held_again {lf : List Env} {L : Addr} {v : Value} {E : Value → Shared → Prop} (hf2 : env.frame = some L) (h : EH G A env lf L μ s X v s') (hq : ∀ h', EH G A env lf L μ s X v { s' with heap := h' } → E v { s' with heap := h' }) : cameBackBy G.M A env E v s' := by
  obtain ⟨e, sr, hp1, μ1, a0, rfl, hx, H1, F1, st1, ex, k1, k2, k3, oe, vs, T, oT, ts, he, hcl, hd, h1, hnT, hTe, hT, hdT, h3⟩ := h
  unfold cameBackBy
  refine wpAny_bind (wpAny_field he hd h1 ?_)
  rw [if_neg (show ¬ ((Value.ref T == Value.none) = true) from by simp)]
  unfold setFlight
  refine wpAny_bind (wpAny_field he hd h1 ?_)
  rw [if_pos (show (Value.ref T != Value.none) = true from by simp), hf2]
  have hsz3 : 3 < ts.size := (Array.getElem?_eq_some_iff.mp h3).1
  have other : ∀ b, b ≠ T → (s'.heap.update T (Obj.mapFields (·.setIfInBounds 3 ((some L : Option Addr).elim Value.none fun f => rawInt f)))).get? b = s'.heap.get? b :=
    fun b hb => Heap.get?_update_other _ _ (Ne.symm hb)
  have noRecord : ∀ b o, s'.heap.get? b = some o → (∀ vs, o.data ≠ .fields vs) → b ≠ T := fun b o hb hnf q => by
    rw [q, hT] at hb; injection hb with hb; subst hb; exact hnf ts hdT
  refine wpAny_setField hT hdT hsz3 (hq _ ?_)
  refine ⟨e, sr, hp1, μ1, a0, rfl, hx, H1, F1, st1, ⟨ex.os, ex.gens, ex.toks, ex.up.trans fun b o hb hn => ⟨o.slots, (other b (noRecord b o hb hn)).trans hb⟩⟩,
    fun b o hbo => (other b fun q => by rw [q, hnT] at hbo; cases hbo).trans (k1 b o hbo), k2, k3.of_keeps fun b o hb hnf => ⟨o, (other b (noRecord b o hb hnf)).trans hb, rfl⟩, ?_⟩
  exact ⟨oe, vs, T, _, _, (other e (Ne.symm hTe)).trans he, hcl, hd, h1, hnT, hTe, Heap.get?_update_self _ hT (Obj.isFreed_of_fields (Obj.data_mapFields hdT _)), Obj.data_mapFields hdT _, by simp [hsz3]⟩

end

section
open PySem PySem.W PyProof.Rows
open Sem (wp)
set_option linter.unusedVariables false
set_option linter.unusedSimpArgs false
set_option maxRecDepth 100000

section
variable {prog : Program} {w : World} {A : Around} {R : Result → Shared → Prop} {env : Env} {s : Shared}
theorem while_stepE {test : Expr} {body orelse : List Stmt}
    (turn : wpAny (model prog w) A (isTrue test env (eval test env)) (fun b s₂ =>
        if b then wpAny (model prog w) A (execs body env) (fun f s₃ => match f with
            | .next | .cont => codeAny (model prog w) A (.whileLoop test body orelse env) R s₃
            | .brk => R (.ok .next) s₃
            | .ret v => R (.ok (.ret v)) s₃) (notedBy (model prog w) A env fun e s' => R (.error e) s') s₂
        else wpAny (model prog w) A (execs orelse env) (fun f s₃ => R (.ok f) s₃) noE s₂) noE s) :
    codeAny (model prog w) A (.whileLoop test body orelse env) R s := by
  refine codeAny_of_tree ?_
  show wpAny _ A ((whileTurn test body orelse env).onRaise (fun x => do noteFrame x env; theTreesLotGoes x)) _ _ s
  refine wpAny_noted ?_
  simp only [whileTurn]
  refine wpAny_bind (wpAny_mono turn (fun b s₂ h₂ => ?_) fun _ _ h' => h'.elim)
  cases b with
  | false =>
    simp only [Bool.false_eq_true, if_false] at h₂ ⊢
    exact wpAny_bind (wpAny_mono h₂ (fun f s₃ h₃ => wpAny_pure h₃) fun _ _ h' => h'.elim)
  | true =>
    simp only [if_true] at h₂ ⊢
    refine wpAny_bind (wpAny_mono h₂ (fun f s₃ h₃ => ?_) fun _ _ h' => h')
    cases f with
    | next => exact wpAny_pure ⟨rfl, h₃⟩
    | cont => exact wpAny_pure ⟨rfl, h₃⟩
    | brk => exact wpAny_pure h₃
    | ret v => exact wpAny_pure h₃
end
variable {G : GI} {n : Nat} {A : Around} {μ μ' : List Addr} {hp hp' : Hp} {s s' : Shared} {env : Env} {l : Loc} {K : Cfg}
variable {Q : Fl → Loc → Hp → Prop} {X : Hp → Prop}
theorem H_while {t : Expr} {b : List Stmt} {p : Pos} {T : Loc → Hp → (Bool → Hp → Prop) → Prop} {B : Loc → Hp → (Fl → Loc → Hp → Prop) → Prop}
    (hT : ∀ l h k, T l h k → WT G n env l h (isTrue t env (eval t env)) k) (hB : ∀ l h k, B l h k → WXn G n env l h (execs b env) k X) (h : WhileW T B Q l hp) :
    WXh G n env l hp (exec (.While t b [] p) env) Q X := fun A μ s outer L hf1 hf2 R H Y => by
  refine wpAny_While ?_
  refine h (fun l1 hp1 => ∀ μ1 s1, HR G μ1 hp1 s1 → EnvR G A env l1 μ1 s1.heap → Stp G (ownOf env) μ s μ1 s1 →
    codeAny G.M A (.whileLoop t b [] env) (fun r s' => match r with | .ok f => PF G A env μ s Q f s' | .error e => cameBackBy G.M A env (EH G A env (env :: outer) L μ s X) e s') s1) ?_ μ s H Y (Stp.refl _ _)
  intro l1 hp1 hstep μ1 s1 H1 X1 st1
  refine while_stepE ((hT _ _ _ hstep).run R H1 X1 fun c s2 hp2 μ2 q H2 X2 st2 => ?_)
  cases c with
  | false =>
    simp only [Bool.false_eq_true, if_false] at q ⊢
    exact wpAny_execs_nil ⟨.next, l1, hp2, μ2, q, trivial, H2, X2, st1.trans st2.up⟩
  | true =>
    simp only [if_true] at q ⊢
    refine wpAny_mono (hB _ _ _ q A μ2 s2 R H2 X2) (fun f s3 h3 => ?_) fun v s3 h3 => ?_
    · obtain ⟨fl, l3, hp3, μ3, q3, r3, H3, X3, st3⟩ := h3
      have st := (st1.trans st2.up).trans st3
      cases fl <;> cases f <;> simp only [FlR] at r3 <;> (try (exact r3.elim)) <;> simp only [] at q3 ⊢
      · exact q3 μ3 s3 H3 X3 st
      · exact ⟨.next, l3, hp3, μ3, q3, trivial, H3, X3, st⟩
      · exact q3 μ3 s3 H3 X3 st
      · exact ⟨.ret _, l3, hp3, μ3, q3, r3, H3, X3, st⟩
    · exact note_new hf1 hf2 (EN.back (st1.trans st2.up) h3) fun h' hh => held_again hf2 hh fun h'' hh' => hh'

/-! ## a call that raises -/
def CallX (G : GI) (n : Nat) (f : Str) (ps : List PV) (hp : Hp) (X : Hp → Prop) : Prop :=
  ∃ a o fd, (G.mg f = some (.ref a) ∧ G.h0.get? a = some o ∧ o.data = .func fd) ∧ ∀ A μ s vs lf, A.frames = some lf → Room (n + 1) A → HR G μ hp s → RepL μ s.heap ps vs → G.h0.objs.size ≤ s.heap.objs.size → FrsOk G A s.heap →
    codeAny G.M A (.call (.ref a) ⟨vs, []⟩) (fun r s' => ∃ e sr fr hp' a0, r = .error (.ref e) ∧ X hp' ∧ HR G μ hp' sr ∧ Stp G noOwn μ s μ sr ∧ FrsOk G A sr.heap ∧ FrD G sr.heap fr ∧ (∀ b ∈ frs lf, b ∈ fr) ∧ Exc sr s' ∧ Heap.FlyingW (hideAll sr.heap fr) lf e (.type "AssertionError") a0 s'.heap) s

/-- the condition of a body that raises -/
def bodyX (G : GI) (n : Nat) (ps : List Str) (sc : Scope) (body : List Stmt) (vs : List PV) (hp : Hp) (X : Hp → Prop) : Prop :=
  ∀ env, env.scope = sc → WXh G n env (updL (fun _ => none) ps vs) hp (execs body env) (fun _ _ _ => False) fun h1 => (h1.take hp.length = hp ∧ X hp)

theorem callX_of {f : Str} {ps : List Str} {sc : Scope} {body : List Stmt} {vs : List PV} (g : GOk G) (hno : G.h0.NoLimit) (F : FnOk G f ps sc body) (hlen : vs.length = ps.length) (h : bodyX G n ps sc body vs hp X) : CallX G n f vs hp X := by
  obtain ⟨a, o, fd, ⟨hm, ho, hd⟩, hb, hs, hclo, hgl, hbl, hcr, hcode, hbind⟩ := F.fn
  refine ⟨a, o, fd, ⟨hm, ho, hd⟩, fun A μ s vals lf hlf R H r hbase hfr => ?_⟩
  have hvl : vals.length = ps.length := r.length.trans hlen
  subst hs
  have nl : ∀ {h' : Heap}, (∀ b o, s.heap.get? b = some o → h'.get? b = some o) → h'.NoLimit := fun k => hno.keeps fun b o e => k b o (H.base b o e)
  have prm : ∀ x ∈ ps, stoOk fd.scope x = true := fun x hx => List.all_eq_true.mp F.prm x hx
  refine codeAny_call_function (by have := R.depth; show A.depth < 1000; omega) (H.base _ _ ho) hd F.co F.gen hb (hcr.keeps fun b o e => H.base b o e) ?_
  rw [hbind _ hvl, hclo]
  refine wpAny_pure (wtk H.toks (wpAny_newFunctionEnv_cells F.kind ?_ fun env he s1 x => fun ht1 => ?_))
  · rintro ⟨y, w⟩ hy
    have := (sto_iff (prm y (List.of_mem_zip hy).1)).1
    rcases this with q | q
    · exact .inl q
    · exact .inr ⟨q, cells_some (.inl (lookup_mem q))⟩
  have hsc : env.scope = fd.scope := by rw [he]; rfl
  have hko : ∀ y, env.kindOf y = fd.scope.names.lookup y := fun y => by rw [Env.kindOf, hsc]
  have hloc : env.locals = s.heap.objs.size := by rw [he]; rfl
  have hfrm : env.frame = some env.locals := by rw [he]; rfl
  have hcells : env.cells = cellsFrom (s.heap.objs.size + 1) fd.scope.names [] := by rw [he]; rfl
  refine ⟨nl x.toInCall.keep, codeAny_func ?_⟩
  obtain ⟨h1, tk, hsame⟩ := x.toInCall.same
  have keep := x.toInCall.keep
  have H1 : HR G μ hp s1 := H.ext keep (by rw [hsame]) (by rw [hsame]) ht1
  have st1 : ∀ own, Stp G own μ s μ s1 := fun own => Stp.ext μ keep
  have r1 : RepL μ s1.heap vs vals := H.repL (st1 noOwn) r
  have br := binds_rep (kindOf := env.kindOf) (l := fun _ => none) (m := fun _ => none) (cm := fun _ => none) hlen r1 (fun x pv q => by cases q)
  have habove : ∀ y c, (y, c) ∈ env.cells → s.heap.objs.size < c := fun y c hc => by have := x.above y c hc; rw [hloc] at this; exact this
  have hdf : (A.deeper env).frames = some (env :: lf) := by show A.frames.map (env :: ·) = _; rw [hlf]; rfl
  have X1 : EnvR G (A.deeper env) env (updL (fun _ => none) ps vs) μ s1.heap := by
    refine ⟨fun y pv hy => ?_, by rw [hsc]; exact F.kind, by rw [he]; exact hgl, by rw [he]; exact hbl, by rw [hloc]; exact hbase, fun y c hc => ?_, x.apart, fun hq => ?_, fun lf' hlf' ee hee => ?_, ⟨_, x.toInCall.ns, fun y pv hk hl => (br y pv hl).1 hk⟩, fun y hy => ?_⟩
    · rcases updL_mem hy with q | q
      · obtain ⟨q1, q2, q3⟩ := sto_iff (prm y q)
        rw [hko]
        exact ⟨q1.elim .inl fun z => .inr (.inl z), q2, q3⟩
      · cases q
    · exact Nat.le_trans hbase (Nat.le_of_lt (habove y c hc))
    · rw [hko] at hq
      have := hcode hq
      rw [he]; exact this
    · rw [hdf] at hlf'; cases hlf'
      rcases List.mem_cons.mp hee with q | q
      · subst q
        obtain ⟨o5, es5, k5, e5, hd5, _⟩ := x.toInCall.ns
        exact ⟨by rw [hsc, F.kind]; simp, ee.locals, o5, es5, k5, hfrm, e5, hd5, by rw [hloc]; exact hbase⟩
      · exact (hfr.keep keep) lf hlf ee q
    · have hcell : env.kindOf y = some .cell := by
        rcases hy with q | q
        · exact q
        · rw [hko] at q
          have := List.all_eq_true.mp F.free _ (lookup_mem q)
          simp at this
      have hsome : (env.cells.lookup y).isSome = true := by
        rw [hcells]; rw [hko] at hcell
        exact cells_some (.inl (lookup_mem hcell))
      obtain ⟨c, hc⟩ := Option.isSome_iff_exists.mp hsome
      exact ⟨c, _, hc, x.cell y c hc, fun pv hl => (br y pv hl).2 (by rw [hcell]; simp)⟩
  have R1 : Room n (A.deeper env) := by
    refine ⟨?_, ?_, R.handled, ⟨_, hdf⟩⟩
    · have := R.depth; show A.depth + 1 + n ≤ 900; omega
    · have := R.units; show A.units + 3 + 10 * n ≤ 9000; omega
  refine wpAny_mono (h env hsc (A.deeper env) μ s1 lf env.locals hdf hfrm R1 H1 X1) (fun f s2 h2 => ?_) fun v s2 h2 => ?_
  · obtain ⟨_, _, _, _, q, _⟩ := h2
    exact q.elim
  · obtain ⟨e, sr, hp2, μ2, a0, rfl, ⟨hcl, hq⟩, H2, F2, st2, ex, hh⟩ := h2
    obtain ⟨ν, rfl, hν⟩ := st2.grow
    rw [show hp.length = μ.length from H.len.symm] at hcl
    have hlen2 : hp.length = μ.length := H.len.symm
    have HF : HR G μ hp sr := H2.cut hlen2 hcl H.objsIn
    have stF : Stp G noOwn μ s μ sr := by
      refine ⟨fun b ob e h1 h2 _ => st2.keepU b ob (keep b ob e) h1 h2 ?_, Grow.refl _ _, (st1 noOwn).live.trans st2.live⟩
      have hbl : b < s.heap.objs.size := Heap.lt_size e
      rintro (q | ⟨y, hy, hc⟩)
      · rw [hloc] at q; exact Nat.lt_irrefl _ (q ▸ hbl)
      · exact Nat.lt_irrefl _ (Nat.lt_trans hbl (habove y b (lookup_mem hc)))
    have FA : FrsOk G A sr.heap := fun lf' hlf' ee hee => by
      rw [hlf] at hlf'; cases hlf'
      exact F2 _ hdf ee (List.mem_cons_of_mem _ hee)
    unfold leaving
    refine wpAny_bind (wpAny_noteFrame_againW hfrm hh.2.2.2 ?_)
    refine wpAny_landsW hh fun h' hfl hup => ?_
    obtain ⟨k1, k2, ⟨_, _, k3⟩, k4⟩ := hfl
    refine ⟨e, sr, frs (env :: lf), hp, a0, rfl, hq, HF, stF, FA, frsOk_D F2 hdf, fun b hb => ?_, ex.trans (Exc.heap hup), k1, k2, k3, k4⟩
    unfold frs at hb ⊢
    rw [List.filterMap_cons, hfrm]
    exact List.mem_cons_of_mem _ hb
theorem callX_mono {f : Str} {ps : List PV} {X' : Hp → Prop} (h : CallX G n f ps hp X) (k : ∀ h, X h → X' h) : CallX G n f ps hp X' := by
  obtain ⟨a, o, fd, e, h⟩ := h
  refine ⟨a, o, fd, e, fun A μ s vs lf hlf R H r hb hf => codeAny_mono (h A μ s vs lf hlf R H r hb hf) fun r s' q => ?_⟩
  obtain ⟨e, sr, fr, hp', a0, h1, h2, h3⟩ := q
  exact ⟨e, sr, fr, hp', a0, h1, k _ h2, h3⟩

/-- the judgement for a body whose frame is known to be the innermost -/
def WSf (G : GI) (n : Nat) (env : Env) (loc : Loc) (hp : Hp) (t : Sem Flow) (Q : Fl → Loc → Hp → Prop) : Prop :=
  ∀ A μ s outer L, A.frames = some (env :: outer) → env.frame = some L → Room n A → HR G μ hp s → EnvR G A env loc μ s.heap → wpAny G.M A t (PF G A env μ s Q) noE s
theorem WSf.of {t : Sem Flow} (h : WS G n env l hp t Q) : WSf G n env l hp t Q := fun A μ s outer L hf1 hf2 R H Y => h A μ s R H Y

theorem callWf_of {Q : PV → Hp → Prop} {f : Str} {ps : List Str} {sc : Scope} {body : List Stmt} {vs : List PV} (g : GOk G) (hno : G.h0.NoLimit) (F : FnOk G f ps sc body) (hlen : vs.length = ps.length) (h : ∀ env, env.scope = sc → WSf G n env (updL (fun _ => none) ps vs) hp (execs body env) (EndC hp Q)) : CallW G n f vs hp Q := by
  obtain ⟨a, o, fd, ⟨hm, ho, hd⟩, hb, hs, hclo, hgl, hbl, hcr, hcode, hbind⟩ := F.fn
  refine ⟨a, o, fd, ⟨hm, ho, hd⟩, fun A μ s vals R H r hbase hfr => ?_⟩
  have hvl : vals.length = ps.length := r.length.trans hlen
  subst hs
  have nl : ∀ {h' : Heap}, (∀ b o, s.heap.get? b = some o → h'.get? b = some o) → h'.NoLimit := fun k => hno.keeps fun b o e => k b o (H.base b o e)
  have prm : ∀ x ∈ ps, stoOk fd.scope x = true := fun x hx => List.all_eq_true.mp F.prm x hx
  refine codeAny_call_function (by have := R.depth; show A.depth < 1000; omega) (H.base _ _ ho) hd F.co F.gen hb (hcr.keeps fun b o e => H.base b o e) ?_
  rw [hbind _ hvl, hclo]
  refine wpAny_pure (wtk H.toks (wpAny_newFunctionEnv_cells F.kind ?_ fun env he s1 x => fun ht1 => ?_))
  · rintro ⟨y, w⟩ hy
    have := (sto_iff (prm y (List.of_mem_zip hy).1)).1
    rcases this with q | q
    · exact .inl q
    · exact .inr ⟨q, cells_some (.inl (lookup_mem q))⟩
  have hsc : env.scope = fd.scope := by rw [he]; rfl
  have hko : ∀ y, env.kindOf y = fd.scope.names.lookup y := fun y => by rw [Env.kindOf, hsc]
  have hloc : env.locals = s.heap.objs.size := by rw [he]; rfl
  have hcells : env.cells = cellsFrom (s.heap.objs.size + 1) fd.scope.names [] := by rw [he]; rfl
  refine ⟨nl x.toInCall.keep, codeAny_func ?_⟩
  obtain ⟨h1, tk, hsame⟩ := x.toInCall.same
  have keep := x.toInCall.keep
  have H1 : HR G μ hp s1 := H.ext keep (by rw [hsame]) (by rw [hsame]) ht1
  have st1 : ∀ own, Stp G own μ s μ s1 := fun own => Stp.ext μ keep
  have r1 : RepL μ s1.heap vs vals := H.repL (st1 noOwn) r
  have br := binds_rep (kindOf := env.kindOf) (l := fun _ => none) (m := fun _ => none) (cm := fun _ => none) hlen r1 (fun x pv q => by cases q)
  have habove : ∀ y c, (y, c) ∈ env.cells → s.heap.objs.size < c := fun y c hc => by have := x.above y c hc; rw [hloc] at this; exact this
  have X1 : EnvR G (A.deeper env) env (updL (fun _ => none) ps vs) μ s1.heap := by
    refine ⟨fun y pv hy => ?_, by rw [hsc]; exact F.kind, by rw [he]; exact hgl, by rw [he]; exact hbl, by rw [hloc]; exact hbase, fun y c hc => ?_, x.apart, fun hq => ?_, fun lf hlf ee hee => ?_, ⟨_, x.toInCall.ns, fun y pv hk hl => (br y pv hl).1 hk⟩, fun y hy => ?_⟩
    · rcases updL_mem hy with q | q
      · obtain ⟨q1, q2, q3⟩ := sto_iff (prm y q)
        rw [hko]
        exact ⟨q1.elim .inl fun z => .inr (.inl z), q2, q3⟩
      · cases q
    · exact Nat.le_trans hbase (Nat.le_of_lt (habove y c hc))
    · rw [hko] at hq
      have := hcode hq
      rw [he]; exact this
    · obtain ⟨l0, hl0⟩ := R.frames
      have hdf : (A.deeper env).frames = some (env :: l0) := by show A.frames.map (env :: ·) = _; rw [hl0]; rfl
      rw [hdf] at hlf; cases hlf
      rcases List.mem_cons.mp hee with q | q
      · subst q
        obtain ⟨o5, es5, k5, e5, hd5, _⟩ := x.toInCall.ns
        exact ⟨by rw [hsc, F.kind]; simp, ee.locals, o5, es5, k5, by rw [he]; rfl, e5, hd5, by rw [hloc]; exact hbase⟩
      · exact (hfr.keep keep) l0 hl0 ee q
    · have hcell : env.kindOf y = some .cell := by
        rcases hy with q | q
        · exact q
        · rw [hko] at q
          have := List.all_eq_true.mp F.free _ (lookup_mem q)
          simp at this
      have hsome : (env.cells.lookup y).isSome = true := by
        rw [hcells]; rw [hko] at hcell
        exact cells_some (.inl (lookup_mem hcell))
      obtain ⟨c, hc⟩ := Option.isSome_iff_exists.mp hsome
      exact ⟨c, _, hc, x.cell y c hc, fun pv hl => (br y pv hl).2 (by rw [hcell]; simp)⟩
  have R1 : Room n (A.deeper env) := by
    obtain ⟨l, hl⟩ := R.frames
    refine ⟨?_, ?_, R.handled, ⟨env :: l, by show A.frames.map (env :: ·) = _; rw [hl]; rfl⟩⟩
    · have := R.depth; show A.depth + 1 + n ≤ 900; omega
    · have := R.units; show A.units + 3 + 10 * n ≤ 9000; omega
  obtain ⟨lf0, hlf0⟩ := R.frames
  have hdf : (A.deeper env).frames = some (env :: lf0) := by show A.frames.map (env :: ·) = _; rw [hlf0]; rfl
  refine wpAny_mono (h env hsc (A.deeper env) μ s1 lf0 env.locals hdf (by rw [he]; rfl) R1 H1 X1) (fun f s2 h2 => ?_) fun _ _ e => e.elim
  obtain ⟨fl, l2, hp2, μ2, ⟨v, hv, hle, hcl, hq⟩, r2, H2, X2, st2⟩ := h2
  obtain ⟨ν, rfl, hν⟩ := st2.grow
  have hlm : hp.length = μ.length := H.len.symm
  rw [hlm] at hv hle hcl hq
  have hlen2 : (hp2.take μ.length).length = μ.length := by
    rw [List.length_take, ← H2.len, List.length_append]; omega
  have hall : (hp2.take μ.length).all (objIn μ.length) = true := by
    rcases hcl with q | q
    · rw [q]; exact H.objsIn
    · exact q
  have HF : HR G μ (hp2.take μ.length) s2 := H2.cut hlen2 rfl hall
  have rr := FlR.out r2
  refine ⟨v, _, _, rfl, hq, freeze_rep H2 8 hv rr, HF, ⟨fun b ob e h1 h2 _ => st2.keepU b ob (keep b ob e) h1 h2 ?_, Grow.refl _ _, (st1 noOwn).live.trans st2.live⟩⟩
  have hbl : b < s.heap.objs.size := Heap.lt_size e
  rintro (q | ⟨y, hy, hc⟩)
  · rw [hloc] at q; exact Nat.lt_irrefl _ (q ▸ hbl)
  · exact Nat.lt_irrefl _ (Nat.lt_trans hbl (habove y b (lookup_mem hc)))

/-! ## a try around a call that raises -/
theorem S_try {f x : Str} {fp cp rp xp rp2 cp2 hpos pos : Pos} {k2 : Nat} {es : List Expr} {sc : Scope} {Ql : List PV → Hp → Prop} (g : GOk G) (hs : env.scope = sc) (okf : glbOk sc f = true) (ok : okEs sc es = true)
    (hl : WEs G n env l hp (spliced (backTo cp (starEach es env))) Ql) (h0 : 0 < n) (hq : ∀ vs h1, Ql vs h1 → CallX G (n - 1) f vs h1 X) (hx : isFn G f)
    (okx : glbOk sc x = true) (hm : G.mg x = none) (hb : G.mb x = some (.type "AssertionError")) (hQ : ∀ h, X h → Q (.ret .none) l h) :
    WSf G n env l hp (execs [.Try [.Return (some (.Call (.Name f fp) es [] cp)) rp] [.ExceptHandler (some (.Name x xp)) none [.Return (some (.Constant .none k2 cp2)) rp2] hpos] [] [] pos] env) Q := fun A μ s outer L hlf hfrm R H Y => by
  refine wpAny_execs_cons ?_
  refine wpAny_Try_except (wpAny_execs_cons (wpAny_Return_some (Call_ ?_)))
  obtain ⟨a, o, fd, hmf, ho, hd⟩ := hx
  refine glb_fn g hs okf H Y hmf ?_
  refine Calls.callWith_function (o := o) (fd := fd) (wpAny_mono (args_run ok hl R H Y (P := fun a s1 => ∃ vs ps hp' μ', a = ⟨vs, []⟩ ∧ Ql ps hp' ∧ RepL μ' s1.heap ps vs ∧ HR G μ' hp' s1 ∧ EnvR G A env l μ' s1.heap ∧ Stp G noOwn μ s μ' s1) fun vs s' ps hp' μ' a b c d e => ⟨vs, ps, hp', μ', rfl, a, b, c, d, e⟩) (fun ar s1 h1 => ?_) fun _ _ e => e.elim)
  obtain ⟨vs, ps, hp1, μ1, rfl, q1, r1, H1, Y1, st1⟩ := h1
  refine ⟨⟨H1.base _ _ ho, hd⟩, ?_⟩
  obtain ⟨a', o', fd', ⟨hm', _, _⟩, h⟩ := hq _ _ q1
  rw [hmf] at hm'; cases hm'
  have e1 : n - 1 + 1 = n := by omega
  refine wpAny_call (codeAny_mono (h A μ1 s1 vs _ hlf (by rw [e1]; exact R) H1 r1 (Y1.base H1) Y1.frs) fun r s2 h2 => ?_)
  obtain ⟨e, sr, fr, hp2, a0, rfl, hx2, H2, st2, F2, D2, _, ex, hfl⟩ := h2
  -- the exception has come to the try
  refine wpAny_looks_onW hlf hfrm hfl fun h3 hh3 up3 => ?_
  refine wpAny_landsW hh3 fun h4 hf4 up4 => ?_
  have ex4 : Exc sr { s2 with heap := h4 } := (ex.trans (Exc.heap up3)).trans (Exc.heap (s := { s2 with heap := h3 }) up4)
  have H4 := ex4.hr D2 hf4.1 H2
  have st4 : Stp G noOwn μ s μ1 { s2 with heap := h4 } := (st1.trans st2).trans (ex4.stp D2 hf4.1)
  have Y4 := Y.step H st4
  have Y4' : EnvR G (A.mark (some (.ref e))) env l μ1 h4 := ⟨Y4.dom, Y4.kind, Y4.glob, Y4.blt, Y4.low, Y4.lows, Y4.apart, Y4.code, Y4.frs, Y4.ns, Y4.cel⟩
  obtain ⟨ob, hob, hobc⟩ := hf4.there
  refine wpAny_handleBy_builtin (X := "AssertionError") (T := "AssertionError") (b := true) (by rfl) (by rfl) (by rfl) ?_
  refine glb_blt g hs okx H4 Y4' hm hb ⟨rfl, ⟨ob, hob, hobc⟩, ?_⟩
  simp only [if_true]
  refine wpAny_setFlight_noneW hf4.1 hf4.2.2.1 hf4.2.2.2.at fun h5 k1 k2 k3 k4 => ?_
  have ex5 : Exc sr { s2 with heap := h5 } := ex4.trans (Exc.heap (s := { s2 with heap := h4 }) fun b o hb hn => ⟨o.slots, k4 b o hb hn⟩)
  have H5 := ex5.hr D2 k1 H2
  have st5 : Stp G noOwn μ s μ1 { s2 with heap := h5 } := (st1.trans st2).trans (ex5.stp D2 k1)
  refine wpAny_execs_cons (wpAny_Return_some ?_)
  refine wpAny_pure ?_
  exact ⟨.ret .none, l, hp2, μ1, hQ _ hx2, by simp only [FlR, Rep], H5, Y.step H st5, st5.up⟩

end

section
open PySem PySem.W PyProof.Rows
set_option linter.unusedVariables false
set_option linter.unusedSimpArgs false
set_option maxRecDepth 100000

variable {G : GI} {n : Nat} {hp : Hp}
theorem nd_some {l : List (Option (List Nat))} {a : Nat} {t : List Nat} (h : noDbl (l.drop a) = false) (ha : a < l.length) (e : l[a] = some t) : noDbl (l.drop (a + 1)) = false := by
  rw [List.drop_eq_getElem_cons ha, e] at h; simpa [noDbl] using h
theorem nd_lead : ∀ {l : List (Option (List Nat))}, noDbl l = false → noDbl (l.drop (leadI l).length) = false
  | [], h => h
  | none :: r, h => h
  | some t :: r, h => by
      have h' : noDbl r = false := by simpa [noDbl] using h
      simpa [leadI] using nd_lead h'
theorem nd_star {l : List (Option (List Nat))} {a : Nat} (h : noDbl (l.drop a) = false) (ha : a < l.length) (e : l[a] = none) : ∃ h1 : a + 1 < l.length, l[a + 1] = none ∨ ((∃ t, l[a + 1] = some t) ∧ noDbl (l.drop (a + 1)) = false) := by
  rw [List.drop_eq_getElem_cons ha, e] at h
  by_cases h1 : a + 1 < l.length
  · refine ⟨h1, ?_⟩
    cases q : l[a + 1] with
    | none => exact .inl rfl
    | some t =>
      refine .inr ⟨⟨t, rfl⟩, ?_⟩
      rw [List.drop_eq_getElem_cons h1, q] at h ⊢
      simpa [noDbl] using h
  · rw [List.drop_eq_nil_of_le (by omega)] at h; simp [noDbl] at h
variable {env : Env} {l : Loc} {K : Cfg} {Q : Fl → Loc → Hp → Prop} {X : Hp → Prop}
theorem H_at {B : List Stmt} {k : Nat} {t : Expr} {b : List Stmt} {p : Pos} (h : B[k]? = some (.While t b [] p)) (hs : WXh G n env l hp (exec (.While t b [] p) env) (fun _ _ _ => False) X) : WXh G n env l hp (execs (B.drop k) env) Q X := by
  have : B.drop k = .While t b [] p :: B.drop (k + 1) := by
    obtain ⟨hk, e⟩ := List.getElem?_eq_some_iff.mp h
    rw [← e]; exact List.drop_eq_getElem_cons hk
  rw [this]; exact H_one hs
theorem N_at {B : List Stmt} {k : Nat} {t : Expr} {p : Pos} (h : B[k]? = some (.Assert t none p)) (hT : WT G n env l hp (isTrue t env (eval t env)) fun c h1 => c = false ∧ X h1) : WXn G n env l hp (execs (B.drop k) env) Q X := fun A μ s R H Y => by
  have : B.drop k = .Assert t none p :: B.drop (k + 1) := by
    obtain ⟨hk, e⟩ := List.getElem?_eq_some_iff.mp h
    rw [← e]; exact List.drop_eq_getElem_cons hk
  rw [this]
  refine wpAny_execs_cons (wpAny_mono (X_assert (Q := fun _ _ _ => False) (p := p) hT A μ s R H Y) (fun f s1 h => ?_) fun _ _ e => e)
  obtain ⟨_, _, _, _, q, _⟩ := h
  exact q.elim
theorem X_preP (g : GOk G) {bs : List Stmt} {P : Loc → Hp → Prop} (hq : ∀ l1 h1, P l1 h1 → WXn G n env l1 h1 (execs bs env) Q X) : ∀ (as : List Stmt) {l : Loc} {hp : Hp}, env.scope = K.sc → okL K.sc as = true → stL G n K as l hp (fun f l1 h1 => f = .next ∧ P l1 h1) → WXn G n env l hp (execs (as ++ bs) env) Q X
  | [], _, _, _, _, h => hq _ _ h.2
  | st :: r, _, _, hs, ok, h => by
      simp only [okL, Bool.and_eq_true] at ok
      unfold stL at h
      refine X_cons ((soundS g (sizeOf st + 1)).s st (Nat.lt_succ_self _) K env _ _ _ hs ok.1 h) fun f l1 h1 q => ?_
      cases f with
      | next => exact X_preP g hq r hs ok.2 q
      | _ => cases q.1
/-- what a turn of the loop may do: go on, or raise at the third statement -/
def BX (G : GI) (n : Nat) (X : Hp → Prop) (l : Loc) (h : Hp) (k : Fl → Loc → Hp → Prop) : Prop :=
  stL G n Kj Bj l h k ∨ ∃ t p, Bj[3]? = some (.Assert t none p) ∧ stL G n Kj (Bj.take 3) l h fun f l1 h1 => f = .next ∧ exT G n Kj t (exE G n Kj t l1 h1) l1 h1 fun c h2 => c = false ∧ X h2
theorem BX_ok (V : Giv G) {h : Hp} {k : Fl → Loc → Hp → Prop} (hs : env.scope = scopeAt prog 9) (b : BX G n X l h k) : WXn G n env l h (execs Bj env) k X := by
  rcases b with b | ⟨t, p, e, b⟩
  · exact .of (sound_body V.g Bj Kj env _ _ _ hs (by rfl) b)
  · have ht : okE (scopeAt prog 9) t = true := by
      have : (match Bj[3]? with | some (Stmt.Assert t _ _) => okE (scopeAt prog 9) t | _ => true) = true := by rfl
      rw [e] at this; exact this
    have : Bj = Bj.take 3 ++ Bj.drop 3 := (List.take_append_drop 3 Bj).symm
    rw [this]
    exact X_preP (K := Kj) V.g (fun l1 h1 q => N_at e (soundT V.g t Kj env _ _ _ hs ht q)) _ hs (by rfl) b
theorem join_midX (V : Giv G) (hs' : env.scope = scopeAt prog 9) (its : List (Option (List Nat))) (inp : PV) (j : Nat) (hc : contents hp inp = some (its.map (pvI j))) (hd : noDbl its = false) (hb : its.length ≤ 100000) (hs : sumI its ≤ 3000000)
    (l : Loc) (l1 : l (Str.ofString "inp") = some inp) (l2 : l (Str.ofString "STAR") = some (.ref j)) (l3 : l (Str.ofString "res") = some (.ref hp.length)) (l4 : l (Str.ofString "add") = some (.app hp.length))
    (l5 : l (Str.ofString "i") = some (.int (leadI its).length)) (l6 : l (Str.ofString "n") = some (.int its.length)) :
    WXh G n env l (hp ++ [.list ((leadI its).map .str)]) (execs ((bodyAt prog 9).drop 4) env) Q fun h => h.take hp.length = hp ∧ hp = hp := by
  have hlead : ∀ (l : List (Option (List Nat))) (ha : (leadI l).length < l.length), l[(leadI l).length] = none := by
    intro l
    induction l with
    | nil => intro ha; simp at ha
    | cons o r ih => cases o with
      | none => intro ha; simp [leadI]
      | some t => intro ha; simp only [leadI, List.length_cons, List.getElem_cons_succ]; exact ih (by simpa [leadI] using ha)
  refine H_at (by exact rfl) ?_
  refine H_while (B := BX G n fun h => h.take hp.length = hp ∧ hp = hp) (T := fun l h k => exT G n Kj _ (exE G n Kj _ l h) l h k) (fun l h k q => soundT V.g _ Kj env l h k hs' (by rfl) q) (fun l h k q => BX_ok V hs' q) ?_
  refine whileW_of (fun m l h => ∃ a : Nat, a ≤ its.length ∧ m = its.length - a ∧ l (Str.ofString "inp") = some inp ∧ l (Str.ofString "STAR") = some (.ref j) ∧ l (Str.ofString "res") = some (.ref hp.length) ∧ l (Str.ofString "add") = some (.app hp.length) ∧
    l (Str.ofString "i") = some (.int a) ∧ l (Str.ofString "n") = some (.int its.length) ∧ noDbl (its.drop a) = false ∧ (∀ ha : a < its.length, its[a] = none) ∧ ∃ (acc : List (List Nat)) (t : Hp), h = hp ++ .list (acc.map .str) :: t ∧ leadI its ++ jrI (its.drop (leadI its).length) = acc ++ jrI (its.drop a)) ?_
    (m := its.length - (leadI its).length) ⟨(leadI its).length, leadI_le its, rfl, l1, l2, l3, l4, l5, l6, nd_lead hd, hlead its, leadI its, [], rfl, rfl⟩
  clear l1 l2 l3 l4 l5 l6 l
  rintro I m l h hI ⟨a, ha, rfl, l1, l2, l3, l4, l5, l6, hnd, hst, acc, t, rfl, hacc⟩
  have hbd := jr_tot hb hs hacc
  by_cases hlt : a < its.length
  · have q1 : ((a : Int) < (its.length : Int)) = True := by simp; omega
    have e := hst hlt
    have hi : itemV (hp ++ .list (acc.map .str) :: t) inp (.int (a : Int)) = some (pvI j none) := by
      have := item_nat (contents_app (t := .list (acc.map .str) :: t) hc) (i := a) (by simpa using hlt) (big_ge (by omega))
      rw [this]; simp [e]
    simp_all_arith! only [l1, l2, l3, l4, l5, l6, q1]
    obtain ⟨hlt1, hcase⟩ := nd_star hnd hlt e
    have q2 : ((a : Int) + 1 = (its.length : Int)) = False := by simp; omega
    rcases hcase with hx | ⟨⟨x, hx⟩, hnd1⟩
    · refine .inr ⟨_, _, by exact rfl, ?_⟩
      have hi1 : itemV (hp ++ .list (acc.map .str) :: t) inp (.int ((a : Int) + 1)) = some (pvI j none) := by
        have := item_nat (contents_app (t := .list (acc.map .str) :: t) hc) (i := a + 1) (by simpa using hlt1) (big_ge (by omega))
        rw [show ((a : Int) + 1) = ((a + 1 : Nat) : Int) by simp, this]; simp [hx]
      show stL G n Kj ((Bj.take 3).drop 0) l _ _
      refine stL_at (by exact rfl) ?_
      simp_all_arith only [l1, l2, l3, l4, l5, l6, hi, isV_pv, Option.isNone_none]
      refine stL_at (by exact rfl) ?_
      simp_all_arith only [l5]
      refine stL_at (by exact rfl) ?_
      simp_all_arith only [l4, l6, q2]
      refine stL_end (by decide) ⟨rfl, ?_⟩
      simp_all_arith only [l1, l2, hi1, isV_pv, Option.isNone_none]
      simp
    · refine .inl ?_
      show stL G n Kj (Bj.drop 0) l _ _
      refine stL_at (by exact rfl) ?_
      simp_all_arith only [l1, l2, l3, l4, l5, l6, hi, isV_pv, Option.isNone_none]
      refine stL_at (by exact rfl) ?_
      simp_all_arith only [l5]
      have hi1 : itemV (hp ++ .list (acc.map .str) :: t) inp (.int ((a : Int) + 1)) = some (pvI j (some x)) := by
        have := item_nat (contents_app (t := .list (acc.map .str) :: t) hc) (i := a + 1) (by simpa using hlt1) (big_ge (by omega))
        rw [show ((a : Int) + 1) = ((a + 1 : Nat) : Int) by simp, this]; simp [hx]
      refine stL_at (by exact rfl) ?_
      simp_all_arith only [l4, l6, q2]
      refine stL_at (by exact rfl) ?_
      simp_all_arith only [l1, l2, hi1, isV_pv, Option.isNone_some]
      refine stL_at (by exact rfl) ?_
      simp_all_arith only []
      refine join_run its inp j hc hb _ (a + 1) (Nat.le_of_lt hlt1) _ t _ ?_ ?_ ?_ ?_ ?_ ?_ ?_ ?_
      all_goals (try (simp_all_arith! only [l1, l2, l3, l4, l5, l6]; done))
      · simp_all_arith! only []; simp
      · clear l1 l2 l3 l4 l5 l6 q1 q2 hi hi1 l
        intro l l1 l2 l3 l4 l5 l6 l7
        have hF := lead_sum (its.drop (a + 1))
        have hFl := leadI_le (its.drop (a + 1))
        rw [List.length_drop] at hFl
        rw [jr_step hlt e hlt1] at hacc
        generalize hb' : a + 1 + (leadI (its.drop (a + 1))).length = b at hacc l5
        have hst' : ∀ hb : b < its.length, its[b] = none := fun hbl => by
          have := hlead (its.drop (a + 1)) (by rw [List.length_drop]; omega)
          rw [List.getElem_drop] at this
          subst hb'; exact this
        have hbd2 : (leadI (its.drop (a + 1))).flatten.length ≤ 4000000 := by
          by_cases q : b = its.length
          · rw [if_pos q, show acc ++ [[46, 42], (leadI (its.drop (a + 1))).flatten] = (acc ++ [[46, 42], (leadI (its.drop (a + 1))).flatten]) ++ [] by simp] at hacc
            have := (jr_tot hb hs hacc).2
            simp only [List.flatten_append, List.flatten_cons, List.length_append] at this; omega
          · rw [if_neg q, show ∀ (x : List Nat) (y : List (List Nat)), acc ++ (x :: y) = (acc ++ [x]) ++ y by simp] at hacc
            have := (jr_tot hb hs hacc).2
            simp only [List.flatten_append, List.flatten_cons, List.length_append] at this; omega
        have hndb : noDbl (its.drop b) = false := by
          have := nd_lead hnd1
          rw [List.drop_drop, hb'] at this; exact this
        generalize leadI (its.drop (a + 1)) = F at *
        rw [show hp ++ .list (acc.map .str) :: t ++ [.list (F.map .str)] = hp ++ .list (acc.map .str) :: (t ++ [.list (F.map .str)]) by simp]
        have hj : methV (Str.ofString "join") (hp ++ .list (acc.map .str) :: (t ++ [.list (F.map .str)])) (.str []) [.ref (hp ++ .list (acc.map .str) :: t).length] = some (.str F.flatten, hp ++ .list (acc.map .str) :: (t ++ [.list (F.map .str)])) := by
          rw [meth_join (xs := F) ?_ (by rw [joinL_nil]; exact big_ge (by omega)) (by simp) (big_ge (by omega)), joinL_nil]
          rw [show hp ++ .list (acc.map .str) :: (t ++ [.list (F.map .str)]) = (hp ++ .list (acc.map .str) :: t) ++ .list (F.map .str) :: [] by simp]
          exact cont_end rfl
        have hm : ∀ (A : List (List Nat)) (x : List Nat) (T : Hp), A.length ≤ 2000000 → methV (Str.ofString "append") (hp ++ .list (A.map .str) :: T) (.ref hp.length) [.str x] = some (.none, hp ++ .list ((A ++ [x]).map .str) :: T) := fun A x T hA => by
          rw [meth_end rfl (by rw [List.length_map]; exact big_gt (by omega))]; simp
        refine stL_at (by exact rfl) ?_
        simp_all_arith only [l7, hj]
        have hlast : b ≠ its.length := fun q => by
          rw [q, List.drop_length] at hndb; simp [noDbl] at hndb
        have q2 : ((b : Int) = (its.length : Int)) = False := by simp; omega
        rw [if_neg hlast] at hacc
        refine stL_at (by exact rfl) ?_
        simp_all_arith only [l4, l5, l6, q2, hm acc _ _ (by omega)]
        refine ⟨big_ge (by omega), big_ge (by omega), big_ge (by omega), ?_⟩
        refine stL_end (by decide) ?_
        refine hI _ _ _ ?_ ⟨b, by omega, rfl, ?_, ?_, ?_, ?_, ?_, ?_, hndb, hst', acc ++ [40 :: 63 :: 62 :: 46 :: 42 :: 63 :: (F.flatten ++ [41])], t ++ [.list (F.map .str)], rfl, ?_⟩
        all_goals (try (simp_all_arith! only [l1, l2, l3, l4, l5, l6]; done))
        · omega
        · rw [hacc]; simp
  · exfalso
    rw [List.drop_eq_nil_of_le (by omega)] at hnd; simp [noDbl] at hnd
theorem c_joinX (V : Giv G) (inp : PV) (j : Nat) (its : List (Option (List Nat))) (hc : contents hp inp = some (its.map (pvI j))) (hd : noDbl its = false) (hb : its.length ≤ 100000) (hs : sumI its ≤ 3000000) :
    CallX G n (Str.ofString "_join_translated_parts") [inp, .ref j] hp fun h => h = hp := by
  refine callX_of V.g V.po.nl (f_join G G.w V.X V.g.gns) rfl ?_
  intro env hsc
  rw [show bodyAt prog 9 = (bodyAt prog 9).take 4 ++ (bodyAt prog 9).drop 4 from (List.take_append_drop 4 _).symm]
  refine H_pre (K := Kj) V.g _ hsc (by rfl) ?_
  show stL G n Kj (((bodyAt prog 9).take 4).drop 0) _ _ _
  have hlen : ∀ t, bltV (Str.ofString "len") (hp ++ t) [inp] = some (.int its.length) := fun t => by
    have := len_cont (contents_app (t := t) hc) (by rw [List.length_map]; exact big_ge (by omega)); simpa using this
  refine stL_at (by exact rfl) ?_
  simp_all_arith only []
  refine stL_at (by exact rfl) ?_
  simp_all_arith only []
  refine ⟨by simp [contents], ?_⟩
  refine stL_at (by exact rfl) ?_
  simp_all_arith only [hlen]
  refine ⟨big_ge (by omega), ?_⟩
  refine stL_at (by exact rfl) ?_
  simp only [stS]
  refine whileW_of (fun m l h => ∃ a : Nat, a ≤ its.length ∧ m = its.length - a ∧ l (Str.ofString "inp") = some inp ∧ l (Str.ofString "STAR") = some (.ref j) ∧ l (Str.ofString "res") = some (.ref hp.length) ∧ l (Str.ofString "add") = some (.app hp.length) ∧
    l (Str.ofString "i") = some (.int a) ∧ l (Str.ofString "n") = some (.int its.length) ∧ ∃ acc : List (List Nat), h = hp ++ [.list (acc.map .str)] ∧ acc.length = a ∧ leadI its = acc ++ leadI (its.drop a)) ?_ (m := its.length) ⟨0, by simp, by simp, rfl, rfl, rfl, rfl, rfl, rfl, [], rfl, rfl, rfl⟩
  rintro I m l h hI ⟨a, ha, rfl, l1, l2, l3, l4, l5, l6, acc, rfl, hacc, hlead⟩
  have out : leadI (its.drop a) = [] → stL G n Kj (((bodyAt prog 9).take 4).drop 4) l (hp ++ [.list (acc.map .str)]) (fun f l1 h1 => f = .next ∧ WXh G n env l1 h1 (execs ((bodyAt prog 9).drop 4) env) (fun _ _ _ => False) fun h1 => h1.take hp.length = hp ∧ hp = hp) := fun e => by
    rw [e, List.append_nil] at hlead
    rw [← hlead]
    exact stL_end (by decide) ⟨rfl, join_midX V hsc its inp j hc hd hb hs l l1 l2 l3 l4 (by rw [hlead, hacc]; exact l5) l6⟩
  by_cases hlt : a < its.length
  · have q1 : ((a : Int) < (its.length : Int)) = True := by simp; omega
    have hi := item_nat (contents_app (t := [.list (acc.map .str)]) hc) (i := a) (by simpa using hlt) (big_ge (by omega))
    rw [List.getElem_map] at hi
    cases e : its[a] with
    | none =>
      rw [e] at hi
      simp_all_arith only [l1, l2, l3, l4, l5, l6, q1, hi, isV_pv, Option.isNone_none]
      exact (by simpa only [and_true, eq_self] using out (leadI_stop (.inr ⟨hlt, e⟩)))
    | some x =>
      rw [e] at hi
      have hm : methV (Str.ofString "append") (hp ++ [.list (acc.map .str)]) (.ref hp.length) [pvI j (some x)] = some (.none, hp ++ [.list ((acc ++ [x]).map .str)]) := by
        rw [meth_end rfl (by rw [List.length_map]; exact big_gt (by omega))]; simp [pvI]
      simp_all_arith only [l1, l2, l3, l4, l5, l6, q1, hi, isV_pv, Option.isNone_some, hm]
      refine hI _ _ _ ?_ ⟨a + 1, hlt, rfl, ?_, ?_, ?_, ?_, ?_, ?_, acc ++ [x], rfl, ?_, ?_⟩
      all_goals (try (simp_all_arith! only [l1, l2, l3, l4, l5, l6]; done))
      · omega
      · simp_all_arith! only []; simp
      · simp; omega
      · rw [hlead, leadI_drop _ _ _ hlt e]; simp
  · have q1 : ((a : Int) < (its.length : Int)) = False := by simp; omega
    simp_all_arith only [l1, l2, l3, l4, l5, l6, q1]
    exact (by simpa only [and_true, eq_self] using out (leadI_stop (.inl (by omega))))

end

section
open PySem PySem.W PyProof.Rows
set_option linter.unusedVariables false
set_option linter.unusedSimpArgs false
set_option maxRecDepth 100000

variable {G : GI} {n : Nat} {hp : Hp} {env : Env} {l : Loc} {Q : Fl → Loc → Hp → Prop}
theorem S_tryOk {body : List Stmt} {h : ExceptHandler} {hs : List ExceptHandler} {pos : Pos} (hb : WS G n env l hp (execs body env) fun f l1 h1 => ∃ v, f = .ret v ∧ Q (.ret v) l1 h1) : WS G n env l hp (execs [.Try body (h :: hs) [] [] pos] env) Q := fun A μ s R H Y => by
  refine wpAny_execs_cons (wpAny_Try_except (wpAny_mono (hb A μ s R H Y) (fun f s1 h1 => ?_) fun _ _ e => e.elim))
  obtain ⟨fl, l1, hp1, μ1, ⟨v, rfl, q⟩, r1, H1, Y1, st1⟩ := h1
  cases f <;> simp only [FlR] at r1 <;> try (exact r1.elim)
  exact ⟨.ret v, l1, hp1, μ1, q, r1, H1, Y1, st1⟩
def Btr : List Stmt := match (bodyAt prog 17)[0]? with
  | some (Stmt.Try b _ _ _ _) => b
  | _ => []
theorem c_tried (V : Giv G) (its : List (Option (List Nat))) (j : Nat) (hb : its.length ≤ 1000) (hs : sumI its ≤ 1000000) : CallW G (n + 2) (Str.ofString "_law_tried") [.list (its.map (pvI j)), .ref j] hp
    fun v h => v = (if noDbl its then .str (joinI its) else .none) ∧ h = hp := by
  cases hd : noDbl its with
  | true =>
    refine callWf_of V.g V.po.nl (f_tried V) rfl fun env hsc => ?_
    refine WSf.of (S_tryOk (sound_body V.g Btr ⟨scopeAt prog 17, fun _ => false⟩ env _ _ _ hsc (by rfl) ?_))
    show stL _ _ _ (Btr.drop 0) _ _ _
    refine stL_at (by exact rfl) ?_
    simp_arith only []
    refine ⟨isFn_of (f_join G G.w V.X V.g.gns), by omega, callW_mono (c_join V _ j its rfl hd (by omega) (by omega)) ?_⟩
    rintro v h ⟨rfl, rfl⟩
    exact ⟨_, rfl, endC_same (frz_str ..) ⟨rfl, rfl⟩⟩
  | false =>
    refine callWf_of V.g V.po.nl (f_tried V) rfl fun env hsc => ?_
    refine S_try (sc := scopeAt prog 17) (X := fun h => h = hp) (Ql := fun vs h => vs = [.list (its.map (pvI j)), .ref j] ∧ h = hp) V.g hsc (by rfl) (by rfl) ?_ (by omega) ?_ (isFn_of (f_join G G.w V.X V.g.gns)) (by rfl) V.asr.1 V.asr.2 ?_
    · refine soundL V.g _ ⟨scopeAt prog 17, fun _ => false⟩ env _ _ _ _ hsc (by rfl) ?_
      simp_arith only []
    · rintro vs h1 ⟨rfl, rfl⟩
      refine callX_mono (c_joinX V _ j its rfl hd (by omega) (by omega)) fun h q => q
    · rintro h rfl
      exact endC_same rfl ⟨rfl, rfl⟩

end

section
open PySem PySem.W PyProof.Rows
set_option linter.unusedVariables false
set_option linter.unusedSimpArgs false
set_option maxRecDepth 100000
set_option maxHeartbeats 4000000

variable {G : GI} {n : Nat} {hp : Hp}
theorem addSt_items (j : Nat) (its : List (Option (List Nat))) : addSt j (its.map (pvI j)) = (addI its).map (pvI j) := addSt_addI j its
theorem addI_len (acc : List (Option (List Nat))) : (addI acc).length ≤ acc.length + 1 ∧ sumI (addI acc) ≤ sumI acc := by
  unfold addI; split
  · exact ⟨by omega, Nat.le_refl _⟩
  · exact ⟨by simp, by rw [sumI_snoc]; exact Nat.le_refl _⟩
/-- the program's parts as items, for a mark that is a text or the star -/
theorem trP_items (j : Nat) (m : Option (List Nat)) (hm : ∀ t, m = some t → t.length ≤ 20) (r : List Nat) (acc : List PV) (its : List (Option (List Nat))) (h : acc = its.map (pvI j)) :
    ∃ its', trP j (pvI j m) r acc = its'.map (pvI j) ∧ its'.length ≤ its.length + r.length ∧ sumI its' ≤ sumI its + 20 * r.length := by
  fun_induction trP j (pvI j m) r acc generalizing its with
  | case1 acc => exact ⟨its, h, by simp, by simp⟩
  | case2 r acc ih =>
    obtain ⟨i', e, h1, h2⟩ := ih (addI its) (by rw [h, addSt_items])
    have := addI_len its
    exact ⟨i', e, by simp; omega, by simp; omega⟩
  | case3 r acc _ ih =>
    obtain ⟨i', e, h1, h2⟩ := ih (its ++ [m]) (by rw [h]; simp)
    rw [sumI_snoc] at h2
    refine ⟨i', e, by simp at h1 ⊢; omega, ?_⟩
    cases m with
    | none => simp at h2 ⊢; omega
    | some t => have := hm t rfl; simp at h2 ⊢; omega
  | case4 r acc _ _ _ ih =>
    obtain ⟨i', e, h1, h2⟩ := ih (its ++ [some [92, 91]]) (by rw [h]; simp [pvI])
    rw [sumI_snoc] at h2
    exact ⟨i', e, by simp at h1 ⊢; omega, by simp at h2 ⊢; omega⟩
  | case5 r acc h4 _ _ ih =>
    obtain ⟨i', e, h1, h2⟩ := ih (its ++ [some (brkT (r.take (endB r)))]) (by rw [h]; simp [pvI])
    rw [sumI_snoc] at h2
    have := brkT_len (r.take (endB r))
    rw [List.length_take] at this
    rw [List.length_drop] at h1 h2
    simp only [List.length_append, List.length_cons, List.length_nil] at h1 h2 ⊢
    exact ⟨i', e, by omega, by omega⟩
  | case6 c r acc _ _ _ ih =>
    obtain ⟨i', e, h1, h2⟩ := ih (its ++ [some (escC c)]) (by rw [h]; simp [pvI])
    rw [sumI_snoc] at h2
    have : (escC c).length ≤ 2 := by unfold escC; split <;> simp
    simp only [List.length_append, List.length_cons, List.length_nil] at h1 h2 ⊢
    exact ⟨i', e, by omega, by omega⟩

def Bl : List Stmt := subB (bodyAt prog 18) 3
theorem ne_same (h : Hp) (b : Bool) (t : List Nat) : cmpV .NotEq h (if b then .str t else .none) (if b then .str t else .none) = some false := by
  rw [cmp_ne]
  have : ∀ v : PV, eqOk v v = true → deref h v = v → (eqP h v v).map not = some false := fun v h1 h2 => by
    unfold eqP eqV; rw [h2, if_pos h1]; simp
  cases b
  · exact this .none (by simp [eqOk, flat]) rfl
  · exact this (.str t) (by simp [eqOk, flat]) rfl
theorem trP_all {p : PV → Prop} (hs : ∀ t, p (.str t)) (j : Nat) (hj : p (.ref j)) (mk : PV) (hmk : p mk) (r : List Nat) (acc : List PV) (h : ∀ v ∈ acc, p v) : (∀ v ∈ trP j mk r acc, p v) ∧ (trP j mk r acc).length ≤ acc.length + r.length := by
  have ap : ∀ (acc : List PV) v, (∀ v ∈ acc, p v) → p v → ∀ w ∈ acc ++ [v], p w := fun acc v h hv w hw => by
    rcases List.mem_append.mp hw with q | q
    · exact h w q
    · simp only [List.mem_singleton] at q; subst q; exact hv
  fun_induction trP j mk r acc with
  | case1 acc => exact ⟨h, by simp⟩
  | case2 r acc ih =>
    have h1 : (∀ v ∈ addSt j acc, p v) ∧ (addSt j acc).length ≤ acc.length + 1 := by
      unfold addSt
      split
      · split
        · exact ⟨h, by omega⟩
        · exact ⟨ap _ _ h hj, by simp⟩
      · exact ⟨ap _ _ h hj, by simp⟩
    have := ih h1.1
    exact ⟨this.1, by simp; omega⟩
  | case3 r acc _ ih => have := ih (ap _ _ h hmk); exact ⟨this.1, by have := this.2; simp at this ⊢; omega⟩
  | case4 r acc _ _ _ ih => have := ih (ap _ _ h (hs _)); exact ⟨this.1, by have := this.2; simp at this ⊢; omega⟩
  | case5 r acc _ _ _ ih => have := ih (ap _ _ h (hs _)); exact ⟨this.1, by have := this.2; simp at this ⊢; omega⟩
  | case6 c r acc _ _ _ ih => have := ih (ap _ _ h (hs _)); exact ⟨this.1, by have := this.2; simp at this ⊢; omega⟩
abbrev H0 : Hp := [.list [.str [42]], .list [.str [42]]]
theorem law_body (V : Giv G) (xs : List Int) (hx : xs.length ≤ 63) : bodyC G 500 [Str.ofString "script"] (scopeAt prog 18) (fun _ => false) (bodyAt prog 18) [.list (xs.map .int)] [] fun pv _ => pv = .bool true := by
  refine ⟨rfl, ?_⟩
  show stL G 500 _ ((bodyAt prog 18).drop 0) _ _ (EndC [] fun pv _ => pv = .bool true)
  have hsl : sliceV [] (.list (xs.map .int)) .none (.int 14) = some (.list ((xs.take 14).map .int)) := by
    rw [slice_lst (a' := none) (b' := some ((14 : Nat) : Int)) rfl rfl (by rw [List.length_map]; exact big_ge (by omega)), slc_toA, List.map_take]
  refine stL_at (by exact rfl) ?_
  simp_arith only [↓optP_of hsl]
  refine ⟨isFn_of (f_pattern V), by omega, callW_mono (c_pattern V (xs.take 14) (by rw [List.length_take]; omega)) ?_⟩
  rintro v h ⟨⟨pat, rfl, hpl⟩, rfl⟩
  refine stL_at (by exact rfl) ?_
  simp_arith only []
  refine ⟨by decide, ?_⟩
  refine stL_at (by exact rfl) ?_
  simp_arith only []
  refine ⟨by decide, ?_⟩
  refine stL_at (by exact rfl) ?_
  simp_arith! only [↓stS, ↓optP_of (show iterV H0 (.tuple [.str [91, 94, 47, 93], .ref 0, .ref (0 + 1)]) = some [.str [91, 94, 47, 93], .ref 0, .ref 1] from rfl)]
  refine ⟨by decide, by decide, ?_⟩
  refine forL_of (fun zs l h => h = H0 ∧ (∀ v ∈ zs, v = .str [91, 94, 47, 93] ∨ v = .ref 0 ∨ v = .ref 1) ∧ l (Str.ofString "pattern") = some (.str pat) ∧ l (Str.ofString "star") = some (.ref 0) ∧ l (Str.ofString "twin") = some (.ref 1)) ?_ ?_
    ⟨rfl, by simp, rfl, rfl, rfl⟩
  · rintro I mk zs l h hI ⟨rfl, hz, l1, l2, l3⟩
    have hmk := hz mk (by simp)
    have hok : okPart 2 mk := by
      rcases hmk with rfl | rfl | rfl
      · exact .inl ⟨_, rfl⟩
      · exact .inr ⟨0, rfl, by omega⟩
      · exact .inr ⟨1, rfl, by omega⟩
    have hls : okLs H0 mk := by
      rcases hmk with rfl | rfl | rfl
      · exact .inl ⟨_, rfl⟩
      · exact .inr ⟨0, _, rfl, rfl⟩
      · exact .inr ⟨1, _, rfl, rfl⟩
    have hall := trP_all (p := okLs H0) (fun t => .inl ⟨t, rfl⟩) 0 (.inr ⟨0, _, rfl, rfl⟩) mk hls pat [] (by simp)
    simp only [List.length_nil] at hall
    show stL G _ _ (Bl.drop 0) _ _ _
    refine stL_at (by exact rfl) ?_
    simp_arith only [↓optP_of l1, ↓optP_of l2]
    refine ⟨isFn_of (f_parts V), by omega, callW_mono (c_parts (n := 497) V pat (by omega) 0 rfl mk hok) ?_⟩
    rintro v h ⟨rfl, rfl⟩
    rw [told_same]
    refine stL_at (by exact rfl) ?_
    simp_arith only [↓optP_of l1, ↓optP_of l2]
    refine ⟨isFn_of (f__translate G G.w V.X V.g.gns V.hC V.tq), by omega, callW_mono (c_tr (n := 497) V pat (by omega) 0 rfl mk hok) ?_⟩
    rintro v h ⟨rfl, rfl⟩
    refine stL_at (by exact rfl) ?_
    simp_arith only []
    refine ⟨isFn_of (f_same V), by omega, callW_mono (c_same V (trP 0 mk pat []) (by omega) hall.1) ?_⟩
    rintro v h ⟨rfl, rfl⟩
    simp_arith only []
    refine stL_at (by exact rfl) ?_
    have fin : ∀ l', l' (Str.ofString "pattern") = some (.str pat) → l' (Str.ofString "star") = some (.ref 0) → l' (Str.ofString "twin") = some (.ref 1) → I l' H0 := fun l' a b c => hI _ _ ⟨rfl, fun v hv => hz v (by simp [hv]), a, b, c⟩
    by_cases htw : mk = .ref 1
    · subst htw
      have hw : isV H0 (.ref 1) (.ref 1) = some true := rfl
      simp_arith only [↓optP_of l3, ↓o_isnot _ hw]
      refine stL_end (by decide) ⟨trivial, fin _ ?_ ?_ ?_⟩ <;> simp_arith! only [l1, l2, l3]
    · have hw : isV H0 mk (.ref 1) = some false := by
        rcases hmk with rfl | rfl | rfl
        · rfl
        · rfl
        · exact absurd rfl htw
      obtain ⟨m, hm, rfl⟩ : ∃ m : Option (List Nat), (∀ t, m = some t → t.length ≤ 20) ∧ mk = pvI 0 m := by
        rcases hmk with rfl | rfl | rfl
        · exact ⟨some [91, 94, 47, 93], by simp, rfl⟩
        · exact ⟨none, by simp, rfl⟩
        · exact absurd rfl htw
      obtain ⟨its, e, h1, h2⟩ := trP_items 0 m hm pat [] [] rfl
      simp only [List.length_nil, show sumI [] = 0 from rfl] at h1 h2
      rw [e]
      simp_arith only [↓optP_of l3, ↓o_isnot _ hw]
      refine ⟨isFn_of (f_tried V), by omega, ?_⟩
      rw [optP_of l2]
      refine callW_mono (c_tried (n := 497) V its 0 (by omega) (by omega)) ?_
      rintro v h ⟨rfl, rfl⟩
      refine ⟨isFn_of (f_joined V), by omega, ?_⟩
      rw [optP_of l2]
      refine callW_mono (c_joined V its 0 (by omega) (by omega)) ?_
      rintro v h ⟨rfl, rfl⟩
      have hne : cmpV .NotEq H0 (if noDbl its = true then PV.str (joinI its) else .none) (if noDbl its = true then PV.str (joinS (spI its []).1 (spI its []).2) else .none) = some false := by
        cases hd : noDbl its with
        | false => exact ne_same H0 false []
        | true => rw [join_same its hd]; exact ne_same H0 true _
      rw [optP_of hne]
      simp_arith only []
      refine stL_end (by decide) ⟨trivial, fin _ ?_ ?_ ?_⟩ <;> simp_arith! only [l1, l2, l3]
  · rintro l h ⟨rfl, _, l1, l2, l3⟩
    refine stL_at (by exact rfl) ?_
    simp_arith only [↓optP_of l1, ↓optP_of l2]
    refine ⟨isFn_of (f_translate G G.w V.X V.g.gns), by omega, callW_mono (c_translate (n := 495) V pat (by omega)) ?_⟩
    rintro v h ⟨rfl, rfl⟩
    refine ⟨isFn_of (f_joined V), by omega, isFn_of (f_parts V), by omega, callW_mono (c_parts (n := 497) V pat (by omega) 0 rfl (.str [46]) (.inl ⟨_, rfl⟩)) ?_⟩
    rintro v h ⟨rfl, rfl⟩
    have hit : toldP 0 (.str [46]) pat [] = (trI [46] pat []).map (pvI 0) := by rw [told_same]; exact trP_trI 0 [46] pat []
    have hl := trI_len [46] (by decide) pat []
    simp only [List.length_nil, show sumI [] = 0 from rfl] at hl
    rw [hit]
    refine callW_mono (c_joined V _ 0 (by omega) (by omega)) ?_
    rintro v h ⟨rfl, rfl⟩
    rw [noDbl_trI [46] pat [] rfl]
    simp only [if_true]
    rw [← join_same _ (noDbl_trI [46] pat [] rfl)]
    show optP (cmpV .Eq H0 (.str (trT pat)) (.str (trT pat))) _
    rw [o_eqs]
    simp only [decide_true]
    exact endC_of (hp := []) (t := H0) (frz_bool ..) rfl

end

end Fnm

section
open PySem PySem.W PyProof.Rows
set_option linter.unusedVariables false
set_option linter.unusedSimpArgs false
set_option maxRecDepth 100000
set_option maxHeartbeats 4000000
open Fnm
theorem PySem.Challenge.cw_in0089_04_holds : PySem.Challenge.rw_in0089_04.Holds :=
  hd04 (by
  w_strict (k_fill; intro w s₀ s₁ mg mb Gd Y fa o pm cd doc dV kV ho hd hcd hD hmg hg args vals as hpre hlay hrd hwl hlo; (have KX := km_in_of Y); (have KT := km_tabs_of Y); (refine Ground.open Gd ?_); (intro T B D TE TW); wrow_args hpre hlay hrd hwl hlo; (clear hd hcd hD B D TE TW); refine enter_call (head_go (trk := fun _ => false) f_law (by rfl) hmg KX KT T hg (by assumption) (by assumption) ?_ ?_ ?_); (· exact fun _ _ => rfl); (· exact postW_of (by wrow_shape) (by wtm_val) (by w_fin)); (· exact fun G V h => law_body V _ h)))

end
