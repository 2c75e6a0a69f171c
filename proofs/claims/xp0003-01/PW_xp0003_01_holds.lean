import PyProof.Rows.All
import Wide.All
import OpenK.AllK
import Wide.FinOn
import PySem.Challenge.RW_xp0003_01
open PySem PySem.W PyProof.Rows
set_option Elab.async false
set_option maxRecDepth 100000
set_option autoImplicit false
set_option linter.unusedVariables false
set_option linter.unusedSimpArgs false

namespace Mine
/-- the program -/
abbrev PG : Program := PySem.Challenge.rw_xp0003_01.row.prog
abbrev knd (w : World) := intKind PG w

/-- frozen objects -/
abbrev FH := Addr → Option Obj
def Le (F F' : FH) : Prop := ∀ a o, F a = some o → F' a = some o
def Sub (F : FH) (h : Heap) : Prop := ∀ a o, F a = some o → h.get? a = some o
theorem Le.refl (F : FH) : Le F F := fun _ _ e => e
theorem Le.trans {F G H : FH} (a : Le F G) (b : Le G H) : Le F H := fun x o e => b x o (a x o e)
def FH.add (F : FH) (a : Addr) (o : Obj) : FH := fun b => if b = a then some o else F b
theorem FH.add_self (F : FH) (a : Addr) (o : Obj) : F.add a o a = some o := by simp [FH.add]
theorem FH.add_le {F : FH} {a : Addr} {o : Obj} (h : F a = none) : Le F (F.add a o) := fun b o' e => by
  unfold FH.add
  by_cases q : b = a
  · subst q; rw [h] at e; cases e
  · rw [if_neg q]; exact e
theorem FH.add_cases {F : FH} {a b : Addr} {o o' : Obj} (e : F.add a o b = some o') : (b = a ∧ o' = o) ∨ F b = some o' := by
  unfold FH.add at e
  by_cases q : b = a
  · rw [if_pos q] at e; cases e; exact .inl ⟨q, rfl⟩
  · rw [if_neg q] at e; exact .inr e

/-- pure data -/
inductive Dat where
  | none | bool (b : Bool) | int (i : Int) | str (s : Str) | bytes (b : Array UInt8)
  | list (xs : List Dat) | tup (xs : List Dat) | dict (es : List (Int × Int)) | ex (v : Value)

inductive KVs : List (Int × Value) → List (Int × Int) → Prop
  | nil : KVs [] []
  | cons {k : Int} {n : Int} {t : Tok} {l : List (Int × Value)} {m : List (Int × Int)} : KVs l m → KVs ((k, .int n t) :: l) ((k, n) :: m)

inductive Den (w : World) (F : FH) : Value → Dat → Prop
  | none : Den w F .none .none
  | bool (b) : Den w F (.bool b) (.bool b)
  | int (i t) : Den w F (.int i t) (.int i)
  | str (x t) : Den w F (.str x t) (.str x)
  | bytes (b t) : Den w F (.bytes b t) (.bytes b)
  | ex (v) : Den w F v (.ex v)
  | list {a : Addr} {vs : Array Value} {n : Nat} {xs : List Dat} (h : F a = some { cls := .type "list", data := .seq vs n }) (hl : vs.size = xs.length)
      (hx : ∀ (i : Nat) (v : Value) (d : Dat), vs[i]? = some v → xs[i]? = some d → Den w F v d) : Den w F (.ref a) (.list xs)
  | tup {a : Addr} {o : Obj} {vs : Array Value} {n : Nat} {xs : List Dat} (h : F a = some o) (hc : o.cls = .type "tuple") (hd : o.data = .seq vs n) (hl : vs.size = xs.length)
      (hx : ∀ (i : Nat) (v : Value) (d : Dat), vs[i]? = some v → xs[i]? = some d → Den w F v d) : Den w F (.ref a) (.tup xs)
  | dict {a : Addr} {o : Obj} {kvs : List (Int × Value)} {es : List (Int × Int)} (h : F a = some o) (hs : (a == sysModules) = false) (hd : ∀ h : Heap, h.get? a = some o → h.DictOf (knd w) a kvs) (hk : KVs kvs es) : Den w F (.ref a) (.dict es)

theorem Den.mono {w : World} {F F' : FH} {v : Value} {d : Dat} (h : Den w F v d) (le : Le F F') : Den w F' v d := by
  induction h with
  | none => exact .none
  | bool b => exact .bool b
  | int i t => exact .int i t
  | str x t => exact .str x t
  | bytes b t => exact .bytes b t
  | ex v => exact .ex v
  | list h hl _ ih => exact .list (le _ _ h) hl ih
  | tup h hc hd hl _ ih => exact .tup (le _ _ h) hc hd hl ih
  | dict h hs hd hk => exact .dict (le _ _ h) hs hd hk

/-- the items of a list -/
def Els (w : World) (F : FH) (vs : Array Value) (xs : List Dat) : Prop :=
  vs.size = xs.length ∧ ∀ (i : Nat) (v : Value) (d : Dat), vs[i]? = some v → xs[i]? = some d → Den w F v d
theorem Els.mono {w : World} {F F' : FH} {vs : Array Value} {xs : List Dat} (h : Els w F vs xs) (le : Le F F') : Els w F' vs xs :=
  ⟨h.1, fun i v d a b => (h.2 i v d a b).mono le⟩
theorem Els.nil {w : World} {F : FH} : Els w F #[] [] := ⟨rfl, fun i v d a _ => by simp at a⟩
theorem Els.push {w : World} {F : FH} {vs : Array Value} {xs : List Dat} {v : Value} {d : Dat} (h : Els w F vs xs) (hv : Den w F v d) : Els w F (vs.push v) (xs ++ [d]) := by
  refine ⟨by simp [h.1], fun i u e hu he => ?_⟩
  by_cases q : i < xs.length
  · rw [List.getElem?_append_left q] at he
    rw [Array.getElem?_push, if_neg (by rw [h.1]; omega)] at hu
    exact h.2 i u e hu he
  · have : i = xs.length := by
      rcases Nat.lt_or_ge i (xs ++ [d]).length with z | z
      · simp at z; omega
      · rw [List.getElem?_eq_none z] at he; cases he
    subst this
    rw [Array.getElem?_push, if_pos h.1.symm] at hu
    simp at he
    cases hu; subst he; exact hv
theorem Els.get {w : World} {F : FH} {vs : Array Value} {xs : List Dat} (h : Els w F vs xs) {i : Nat} {d : Dat} (e : xs[i]? = some d) : ∃ v, vs[i]? = some v ∧ Den w F v d := by
  have hi : i < xs.length := by
    rcases Nat.lt_or_ge i xs.length with z | z
    · exact z
    · rw [List.getElem?_eq_none z] at e; cases e
  have hv : i < vs.size := by rw [h.1]; exact hi
  exact ⟨vs[i], by simp [hv], h.2 i _ d (by simp [hv]) e⟩
theorem Els.set {w : World} {F : FH} {vs : Array Value} {xs : List Dat} {v : Value} {d : Dat} (h : Els w F vs xs) (i : Nat) (hv : Den w F v d) : Els w F (vs.setIfInBounds i v) (xs.set i d) := by
  refine ⟨by simp [h.1], fun j u e hu he => ?_⟩
  rw [Array.getElem?_setIfInBounds] at hu
  rw [List.getElem?_set] at he
  by_cases q : i = j
  · subst q
    rw [if_pos rfl] at hu he
    split at hu
    · split at he
      · cases hu; cases he; exact hv
      · cases he
    · cases hu
  · rw [if_neg q] at hu he
    exact h.2 j u e hu he
theorem Els.nth {w : World} {F : FH} {vs : Array Value} {xs : List Dat} (h : Els w F vs xs) {i : Nat} {v : Value} (e : vs[i]? = some v) : ∃ d, xs[i]? = some d ∧ Den w F v d := by
  have hi : i < vs.size := by
    rcases Nat.lt_or_ge i vs.size with z | z
    · exact z
    · rw [Array.getElem?_eq_none z] at e; cases e
  have hx : i < xs.length := by rw [← h.1]; exact hi
  exact ⟨xs[i], by simp [hx], h.2 i _ _ e (by simp [hx])⟩

theorem KVs.length {l : List (Int × Value)} {m : List (Int × Int)} (h : KVs l m) : l.length = m.length := by
  induction h with
  | nil => rfl
  | cons _ ih => simp [ih]
theorem KVs.keys {l : List (Int × Value)} {m : List (Int × Int)} (h : KVs l m) : l.map (·.1) = m.map (·.1) := by
  induction h with
  | nil => rfl
  | cons _ ih => simp [ih]

/-- mutable data -/
inductive MD where
  | list (xs : List Dat) | dict (es : List (Int × Int)) | raw (o : Obj)
def MDen (w : World) (F : FH) (h : Heap) (a : Addr) : MD → Prop
  | .list xs => ∃ vs, h.PlainList a vs ∧ Els w F vs xs
  | .dict es => (a == sysModules) = false ∧ ∃ kvs, h.DictOf (knd w) a kvs ∧ KVs kvs es
  | .raw o => h.get? a = some o
theorem MDen.le {w : World} {F F' : FH} {h h' : Heap} {a : Addr} {m : MD} (x : MDen w F h a m) (le : Le F F') (hk : ∀ o, h.get? a = some o → h'.get? a = some o) : MDen w F' h' a m := by
  cases m with
  | list xs => obtain ⟨vs, p, e⟩ := x; exact ⟨vs, p.at hk, e.mono le⟩
  | dict es => obtain ⟨q, kvs, p, e⟩ := x; exact ⟨q, kvs, p.at hk, e⟩
  | raw o => exact hk _ x
theorem MDen.has {w : World} {F : FH} {h : Heap} {a : Addr} {m : MD} (x : MDen w F h a m) : ∃ o, h.get? a = some o := by
  cases m with
  | list xs => obtain ⟨vs, ⟨n, p⟩, e⟩ := x; exact ⟨_, p⟩
  | dict es => obtain ⟨_, kvs, ⟨o, es, ep, p, _⟩, e⟩ := x; exact ⟨_, p⟩
  | raw o => exact ⟨_, x⟩

abbrev VM := List (Str × Dat)
abbrev MM := List (Addr × MD)
def look : VM → Str → Option Dat
  | [], _ => none
  | (y, d) :: r, x => if y = x then some d else look r x

/-- what stands fast in a walk -/
structure Cx where
  w : World
  A : Around
  env : Env
  h0 : Heap
  F0 : FH
  inner : Bool := false

/-- the variable x of env holds v -/
def VarAt (env : Env) (m : Str → Option Value) (h : Heap) (x : Str) (v : Value) : Prop :=
  (env.kindOf x = some .local ∧ m x = some v) ∨ (env.kindOf x = some .cell ∧ ∃ c, env.cells.lookup x = some c ∧ h.IsCell c (some v))

def muts (C : Cx) (P : MM) : List Addr := C.env.locals :: (C.env.cells.map (·.2) ++ P.map (·.1))

structure Pre (C : Cx) (δ : VM) (P : MM) (F : FH) (h : Heap) : Prop where
  base : ∀ b o, C.h0.get? b = some o → h.get? b = some o
  sub : Sub F h
  le0 : Le C.F0 F
  fresh : ∀ a o, F a = some o → C.F0 a = some o ∨ C.h0.get? a = none
  vars : ∃ m, h.Ns C.env.locals m ∧ ∀ x d, look δ x = some d → ∃ v, VarAt C.env m h x v ∧ Den C.w F v d
  cells : ∀ p ∈ C.env.cells, ∃ v, h.IsCell p.2 v
  muta : ∀ p ∈ P, MDen C.w F h p.1 p.2
  nodup : (muts C P).Nodup
  notF : ∀ a ∈ muts C P, F a = none
  own : C.inner = false → ∀ a ∈ muts C P, C.h0.get? a = none
  ownL : C.h0.get? C.env.locals = none

/-- what a pure step does -/
structure Gv (F : FH) (s : Shared) (F' : FH) (s' : Shared) : Prop where
  upd : ∃ h' tk, s' = { s with heap := h', toks := tk }
  keep : ∀ a o, s.heap.get? a = some o → s'.heap.get? a = some o
  le : Le F F'
  sub : Sub F' s'.heap
  fresh : ∀ a o, F' a = some o → F a = some o ∨ s.heap.get? a = none

theorem Gv.refl {F : FH} {s : Shared} (h : Sub F s.heap) : Gv F s F s := ⟨⟨s.heap, s.toks, rfl⟩, fun _ _ e => e, Le.refl _, h, fun _ _ e => .inl e⟩
theorem Gv.trans {F G H : FH} {s t u : Shared} (a : Gv F s G t) (b : Gv G t H u) : Gv F s H u := by
  refine ⟨?_, fun x o e => b.keep x o (a.keep x o e), a.le.trans b.le, b.sub, fun x o e => ?_⟩
  · obtain ⟨h, tk, rfl⟩ := a.upd
    obtain ⟨h', tk', rfl⟩ := b.upd
    exact ⟨h', tk', rfl⟩
  · rcases b.fresh x o e with q | q
    · exact a.fresh x o q
    · cases z : s.heap.get? x with
      | none => exact .inr rfl
      | some o' => rw [a.keep x o' z] at q; cases q
/-- only heap and tokens, the old kept -/
theorem Gv.same {F : FH} {s : Shared} {h' : Heap} {tk : Nat} (hs : Sub F s.heap) (hk : ∀ a o, s.heap.get? a = some o → h'.get? a = some o) : Gv F s F { s with heap := h', toks := tk } :=
  ⟨⟨h', tk, rfl⟩, hk, Le.refl _, fun a o e => hk a o (hs a o e), fun _ _ e => .inl e⟩
theorem Gv.tok {F : FH} {s : Shared} {tk : Nat} (hs : Sub F s.heap) : Gv F s F { s with toks := tk } := Gv.same hs fun _ _ e => e
/-- a new object is frozen -/
theorem Gv.add {F : FH} {s : Shared} {h' : Heap} {tk : Nat} {a : Addr} {o : Obj} (hs : Sub F s.heap) (hk : ∀ a o, s.heap.get? a = some o → h'.get? a = some o) (ha : s.heap.get? a = none) (ho : h'.get? a = some o) :
    Gv F s (F.add a o) { s with heap := h', toks := tk } := by
  have hn : F a = none := by
    cases z : F a with
    | none => rfl
    | some o' => rw [hs a o' z] at ha; cases ha
  refine ⟨⟨h', tk, rfl⟩, hk, FH.add_le hn, fun b o' e => ?_, fun b o' e => ?_⟩
  · rcases FH.add_cases e with ⟨rfl, rfl⟩ | q
    · exact ho
    · exact hk b o' (hs b o' q)
  · rcases FH.add_cases e with ⟨rfl, rfl⟩ | q
    · exact .inr ha
    · exact .inl q
theorem fresh_none (h : Heap) {a : Addr} (ha : h.objs.size ≤ a) : h.get? a = none := by
  cases e : h.get? a with
  | none => rfl
  | some o' => exact absurd (Heap.lt_size e) (Nat.not_lt.mpr ha)

theorem VarAt.keeps {env : Env} {m : Str → Option Value} {h h' : Heap} {x : Str} {v : Value} (x0 : VarAt env m h x v) (hk : ∀ b o, h.get? b = some o → h'.get? b = some o) : VarAt env m h' x v := by
  rcases x0 with q | ⟨q, c, hc, o, ho, hd⟩
  · exact .inl q
  · exact .inr ⟨q, c, hc, o, hk c o ho, hd⟩

theorem Pre.mutSome {C : Cx} {δ : VM} {P : MM} {F : FH} {h : Heap} (p : Pre C δ P F h) : ∀ a ∈ muts C P, ∃ o, h.get? a = some o := by
  intro a ha
  rcases List.mem_cons.mp ha with rfl | ha
  · obtain ⟨m, ⟨o, _, _, e, _⟩, _⟩ := p.vars; exact ⟨o, e⟩
  · rcases List.mem_append.mp ha with ha | ha
    · obtain ⟨q, hq, rfl⟩ := List.mem_map.mp ha
      obtain ⟨v, o, e, _⟩ := p.cells q hq; exact ⟨o, e⟩
    · obtain ⟨q, hq, rfl⟩ := List.mem_map.mp ha
      exact (p.muta q hq).has

theorem Pre.gv {C : Cx} {δ : VM} {P : MM} {F F' : FH} {s s' : Shared} (p : Pre C δ P F s.heap) (g : Gv F s F' s') : Pre C δ P F' s'.heap := by
  refine ⟨fun b o e => g.keep b o (p.base b o e), g.sub, p.le0.trans g.le, fun a o e => ?_, ?_, fun q hq => ?_, fun q hq => (p.muta q hq).le g.le (g.keep _), p.nodup, fun a ha => ?_, p.own, p.ownL⟩
  · rcases g.fresh a o e with q | q
    · exact p.fresh a o q
    · cases z : C.h0.get? a with
      | none => exact .inr rfl
      | some o' => rw [p.base a o' z] at q; cases q
  · obtain ⟨m, hn, hv⟩ := p.vars
    exact ⟨m, hn.keeps g.keep, fun x d e => by obtain ⟨v, a, b⟩ := hv x d e; exact ⟨v, a.keeps g.keep, b.mono g.le⟩⟩
  · obtain ⟨v, o, e, hd⟩ := p.cells q hq; exact ⟨v, o, g.keep _ _ e, hd⟩
  · cases z : F' a with
    | none => rfl
    | some o =>
      rcases g.fresh a o z with q | q
      · rw [p.notF a ha] at q; cases q
      · obtain ⟨o', e⟩ := p.mutSome a ha
        rw [e] at q; cases q

/-- fewer variables -/
theorem Pre.weak {C : Cx} {δ δ' : VM} {P : MM} {F : FH} {h : Heap} (p : Pre C δ P F h) (hd : ∀ x d, look δ' x = some d → look δ x = some d) : Pre C δ' P F h := by
  obtain ⟨m, hn, hv⟩ := p.vars
  exact { p with vars := ⟨m, hn, fun x d e => hv x d (hd x d e)⟩ }
theorem muts_sub {C : Cx} {P P' : MM} (hs : P'.Sublist P) : (muts C P').Sublist (muts C P) :=
  List.Sublist.cons_cons _ (List.Sublist.append (List.Sublist.refl _) (hs.map _))
/-- fewer mutable objects -/
theorem Pre.drop {C : Cx} {δ : VM} {P P' : MM} {F : FH} {h : Heap} (p : Pre C δ P F h) (hs : P'.Sublist P) : Pre C δ P' F h :=
  { p with muta := fun q hq => p.muta q (hs.subset hq), nodup := p.nodup.sublist (muts_sub hs), notF := fun a ha => p.notF a ((muts_sub hs).subset ha), own := fun hi a ha => p.own hi a ((muts_sub hs).subset ha) }
theorem muts_perm {C : Cx} {P P' : MM} (hp : P.Perm P') : (muts C P).Perm (muts C P') :=
  List.Perm.cons _ (List.Perm.append (List.Perm.refl _) (hp.map _))
theorem Pre.perm {C : Cx} {δ : VM} {P P' : MM} {F : FH} {h : Heap} (p : Pre C δ P F h) (hp : P.Perm P') : Pre C δ P' F h :=
  { p with muta := fun q hq => p.muta q (hp.mem_iff.mpr hq), nodup := (muts_perm hp).nodup_iff.mp p.nodup, notF := fun a ha => p.notF a ((muts_perm hp).mem_iff.mpr ha), own := fun hi a ha => p.own hi a ((muts_perm hp).mem_iff.mpr ha) }

theorem look_mem {δ : VM} {x : Str} {d : Dat} (h : look δ x = some d) : (x, d) ∈ δ := by
  induction δ with
  | nil => cases h
  | cons p r ih =>
    obtain ⟨y, e⟩ := p
    unfold look at h
    by_cases q : y = x
    · rw [if_pos q] at h; cases h; subst q; exact .head _
    · rw [if_neg q] at h; exact .tail _ (ih h)
/-- δ bears all of the second -/
def Cov (δ : VM) : VM → Prop
  | [] => True
  | (x, d) :: r => look δ x = some d ∧ Cov δ r
theorem Cov.all {δ : VM} : ∀ {r : VM}, Cov δ r → ∀ p ∈ r, look δ p.1 = some p.2
  | _ :: _, h, _, .head _ => h.1
  | _ :: _, h, _, .tail _ m => Cov.all h.2 _ m
theorem Pre.cov {C : Cx} {δ δ' : VM} {P : MM} {F : FH} {h : Heap} (p : Pre C δ P F h) (hc : Cov δ δ') : Pre C δ' P F h :=
  p.weak fun _ _ e => hc.all _ (look_mem e)
end Mine

namespace Mine
def stm (i : Nat) : Stmt := (PG.main.body)[i]?.getD (.Pass ⟨0, 0, 0, 0⟩)

/-- the top's name stands for this def -/
def FnAt (mg : Str → Option Value) (h : Heap) : Stmt → Prop
  | .FunctionDef name args body _ _ _ scope _ _ _ => ∃ a o pm code doc, mg name = some (.ref a) ∧ h.get? a = some o ∧ o.data = .func (PySem.Calls.docDef name args body scope pm code doc) ∧ h.CodeRec code name
  | _ => False
theorem FnAt.keeps {mg : Str → Option Value} {h h' : Heap} (hk : ∀ b o, h.get? b = some o → h'.get? b = some o) : ∀ {st : Stmt}, FnAt mg h st → FnAt mg h' st := by
  intro st
  cases st with
  | FunctionDef name args body _ _ _ scope _ _ _ =>
    rintro ⟨a, o, pm, code, doc, h1, h2, h3, c, o', vs, t, h4, h5, h6⟩
    exact ⟨a, o, pm, code, doc, h1, hk _ _ h2, h3, c, o', vs, t, h4, hk _ _ h5, h6⟩
  | _ => exact fun h => (h : False).elim

/-- the pattern's code -/
def codeP : Array Nat := #[14, 8, 1, 2, 4294967295, 1, 1, 46, 0, 16, 46, 24, 9, 1, 4294967295, 13, 4, 8, 0, 0, 1, 6, 5, 1]
/-- what is asked of the top -/
structure Base (mg mb : Str → Option Value) (h : Heap) : Prop where
  g : h.Ns mainGlobals mg
  b : h.Ns builtinsNs mb
  bb : ∀ x : Str, x ≠ "__name__" → mb x = bootBuiltins x
  lim : h.NoLimit
  free : ∀ x : Str, x ∈ (["range", "sum", "zip", "len", "min", "chr", "int", "abs", "divmod", "isinstance", "tuple"] : List Str) → mg x = none
  fns : ∀ i ∈ [2, 3, 6, 7, 9, 13, 15, 16], FnAt mg h (stm i)
  move : ∃ t, mg "_MOVE_COST" = some (.int 2 t)
  case : ∃ t, mg "_CASE_COST" = some (.int 1 t)
  pat : ∃ a p q o ob vs n, mg "IPV4_RE" = some (.ref a) ∧ h.get? a = some { cls := .type "re.Pattern", data := .fields #[.str "\\.\\d+$" p, .int 256 q, .int 0 0, .none, .none, .ref o, .int 0 0] } ∧ h.get? o = some ob ∧ ob.data = .seq vs n ∧ (vs.map Builtin.Re.reRawOf).map (·.toNat) = codeP
theorem Base.keeps {mg mb : Str → Option Value} {h h' : Heap} (B : Base mg mb h) (hk : ∀ b o, h.get? b = some o → h'.get? b = some o) : Base mg mb h' :=
  ⟨B.g.keeps hk, B.b.keeps hk, B.bb, B.lim.keeps hk, B.free, fun i hi => (B.fns i hi).keeps hk, B.move, B.case, by obtain ⟨a, p, q, o, ob, vs, n, e, h1, h2, h3, h4⟩ := B.pat; exact ⟨a, p, q, o, ob, vs, n, e, hk _ _ h1, hk _ _ h2, h3, h4⟩⟩

/-- around: room for n levels of calls -/
structure AOk (A : Around) (n : Nat) : Prop where
  hh : A.handled = none
  dep : A.depth + n ≤ 500
  un : A.units + 8 * n ≤ 5000

structure COk (C : Cx) (mg mb : Str → Option Value) (n : Nat) : Prop where
  fn : C.env.scope.kind = .function
  gl : C.env.globals = mainGlobals
  bl : C.env.builtins = builtinsNs
  base : Base mg mb C.h0
  ar : AOk C.A n

abbrev MG (C : Cx) : Model := model PG C.w
abbrev NoE : Value → Shared → Prop := fun _ _ => False

/-- op's precondition -/
structure Opn (C : Cx) (F : FH) (s : Shared) : Prop where
  sub : Sub F s.heap
  base : ∀ b o, C.h0.get? b = some o → s.heap.get? b = some o
theorem Pre.opn {C : Cx} {δ : VM} {P : MM} {F : FH} {s : Shared} (p : Pre C δ P F s.heap) : Opn C F s := ⟨p.sub, p.base⟩
theorem Opn.gv {C : Cx} {F F' : FH} {s s' : Shared} (p : Opn C F s) (g : Gv F s F' s') : Opn C F' s' := ⟨g.sub, fun b o e => g.keep b o (p.base b o e)⟩

/-- t gives a value that denotes d -/
def Gives (C : Cx) (F : FH) (s : Shared) (t : Sem Value) (d : Dat) : Prop :=
  wpAny (MG C) C.A t (fun v s' => ∃ F', Gv F s F' s' ∧ Den C.w F' v d) NoE s
structure Ev (C : Cx) (δ : VM) (P : MM) (e : Expr) (d : Dat) : Prop where
  run : ∀ R F s, Pre C δ (P ++ R) F s.heap → Gives C F s (eval e C.env) d
/-- the truth of e -/
structure Tr (C : Cx) (δ : VM) (P : MM) (e : Expr) (b : Bool) : Prop where
  run : ∀ R F s, Pre C δ (P ++ R) F s.heap →
  wpAny (MG C) C.A (isTrue e C.env (eval e C.env)) (fun r s' => r = b ∧ ∃ F', Gv F s F' s') NoE s
/-- the values of a list of expressions -/
def DenL (w : World) (F : FH) : List Value → List Dat → Prop
  | [], [] => True
  | v :: vs, d :: ds => Den w F v d ∧ DenL w F vs ds
  | _, _ => False
theorem DenL.mono {w : World} {F F' : FH} (le : Le F F') : ∀ {vs : List Value} {ds : List Dat}, DenL w F vs ds → DenL w F' vs ds
  | [], [], _ => trivial
  | _ :: _, _ :: _, h => ⟨h.1.mono le, DenL.mono le h.2⟩
theorem DenL.els {w : World} {F : FH} : ∀ {vs : List Value} {ds : List Dat}, DenL w F vs ds → Els w F vs.toArray ds
  | [], [], _ => Els.nil
  | v :: vs, d :: ds, h => by
    have z := DenL.els h.2
    refine ⟨by simpa using z.1, fun i u e hu he => ?_⟩
    cases i with
    | zero => simp at hu he; subst hu; subst he; exact h.1
    | succ i => exact z.2 i u e (by simpa using hu) (by simpa using he)

theorem gives_val {C : Cx} {F : FH} {s : Shared} {v : Value} {d : Dat} {tk : Nat} (h : Sub F s.heap) (hd : Den C.w F v d) : ∃ F', Gv F s F' { s with toks := tk } ∧ Den C.w F' v d := ⟨F, Gv.tok h, hd⟩
theorem Gives.after {C : Cx} {F F1 : FH} {s s1 : Shared} {t : Sem Value} {d : Dat} (g : Gv F s F1 s1) (h : Gives C F1 s1 t d) : wpAny (MG C) C.A t (fun v s' => ∃ F', Gv F s F' s' ∧ Den C.w F' v d) NoE s1 :=
  wpAny_mono h (fun _ _ ⟨F', g', d'⟩ => ⟨F', g.trans g', d'⟩) fun _ _ e => e

section
variable {C : Cx} {δ : VM} {P : MM} {mg mb : Str → Option Value} {n : Nat}

theorem Ev.cint {i : Int} {k : Nat} {pos : Pos} : Ev C δ P (.Constant (.int i) k pos) (.int i) := ⟨fun _ _ _ p => wpAny_Constant_int (gives_val p.sub (.int _ _))⟩
theorem Ev.cstr {x : Str} {k : Nat} {pos : Pos} : Ev C δ P (.Constant (.str x) k pos) (.str x) := ⟨fun _ _ _ p => wpAny_Constant_str (gives_val p.sub (.str _ _))⟩
theorem Ev.cbool {b : Bool} {k : Nat} {pos : Pos} : Ev C δ P (.Constant (.bool b) k pos) (.bool b) := ⟨fun _ _ s p => wpAny_Constant_bool (gives_val (tk := s.toks) p.sub (.bool _))⟩
theorem Ev.cbytes {b : List UInt8} {k : Nat} {pos : Pos} : Ev C δ P (.Constant (.bytes b) k pos) (.bytes b.toArray) := ⟨fun _ F s p =>
  (wpAny_mkTextBytes (gives_val p.sub (.bytes _ _)) : wpAny (MG C) C.A (mkTextBytes b.toArray) _ _ s)⟩

theorem Ev.name {x : Str} {pos : Pos} {d : Dat} (c : COk C mg mb n) (hl : look δ x = some d) (hx : (x == ("__debug__" : Str)) = false := by rfl) : Ev C δ P (.Name x pos) d := by
  refine ⟨fun R F s p => ?_⟩
  obtain ⟨m, hn, hv⟩ := p.vars
  obtain ⟨v, hv, hd⟩ := hv x d hl
  refine wpAny_Name ?_ hx
  rcases hv with ⟨hk, hm⟩ | ⟨hk, c', hc, ho⟩
  · exact wpAny_loadName_local c.fn hk hn hm ⟨F, Gv.refl p.sub, hd⟩
  · exact wpAny_loadName_cell c.fn hk hc ho ⟨F, Gv.refl p.sub, hd⟩
theorem Ev.glob {x : Str} {pos : Pos} {v : Value} (c : COk C mg mb n) (hk : C.env.kindOf x = some .globalImplicit) (hv : mg x = some v) (hx : (x == ("__debug__" : Str)) = false := by rfl) : Ev C δ P (.Name x pos) (.ex v) := by
  refine ⟨fun R F s p => ?_⟩
  exact PySem.Calls.Name_function_global c.fn hk (PySem.Calls.loadGlobal_global (by rw [c.gl]; exact c.base.g.keeps p.base) hv ⟨F, Gv.refl p.sub, .ex v⟩) hx
theorem Ev.blt {x : Str} {pos : Pos} {v : Value} (c : COk C mg mb n) (hk : C.env.kindOf x = some .globalImplicit)
    (hf : x ∈ (["range", "sum", "zip", "len", "min", "chr", "int", "abs", "divmod", "isinstance", "tuple"] : List Str)) (hv : bootBuiltins x = some v) (hx : (x == ("__debug__" : Str)) = false := by rfl) (hn : x ≠ "__name__" := by decide) : Ev C δ P (.Name x pos) (.ex v) := by
  refine ⟨fun R F s p => ?_⟩
  exact PySem.Calls.Name_function_global c.fn hk (PySem.Calls.loadGlobal_builtin (by rw [c.gl]; exact c.base.g.keeps p.base) (c.base.free x hf) (by rw [c.bl]; exact c.base.b.keeps p.base) ((c.base.bb x hn).trans hv) ⟨F, Gv.refl p.sub, .ex v⟩) hx

/-- an operation on data -/
structure BinD (C : Cx) (op : Operator) (d1 d2 d : Dat) : Prop where
  run : ∀ F s a b, Opn C F s → Den C.w F a d1 → Den C.w F b d2 → Gives C F s (binaryOp op a b) d
theorem Ev.bin {op : Operator} {l r : Expr} {pos : Pos} {d1 d2 d : Dat} (hl : Ev C δ P l d1) (hr : Ev C δ P r d2) (h : BinD C op d1 d2 d) : Ev C δ P (.BinOp l op r pos) d := by
  refine ⟨fun R F s p => ?_⟩
  refine wpAny_BinOp (wpAny_mono (hl.run R F s p) (fun a s1 h1 => ?_) fun _ _ e => e)
  obtain ⟨F1, g1, e1⟩ := h1
  have p1 := p.gv g1
  refine wpAny_mono (hr.run R F1 s1 p1) (fun b s2 h2 => ?_) fun _ _ e => e
  obtain ⟨F2, g2, e2⟩ := h2
  exact (h.run F2 s2 a b (p1.gv g2).opn (e1.mono g2.le) e2).after (g1.trans g2)

theorem BinD.add {a b : Int} : BinD C .Add (.int a) (.int b) (.int (a + b)) := by
  refine ⟨fun F s u v p h1 h2 => ?_⟩; cases h1; cases h2
  exact PyProof.Rows.add_int (gives_val p.sub (.int _ _))
theorem BinD.subI {a b : Int} : BinD C .Sub (.int a) (.int b) (.int (a - b)) := by
  refine ⟨fun F s u v p h1 h2 => ?_⟩; cases h1; cases h2
  exact PyProof.Rows.sub_int (gives_val p.sub (.int _ _))
theorem BinD.mulI {a b : Int} (hm : IntMulOk a b) : BinD C .Mult (.int a) (.int b) (.int (a * b)) := by
  refine ⟨fun F s u v p h1 h2 => ?_⟩; cases h1; cases h2
  exact PyProof.Rows.mul_int (gives_val p.sub (.int _ _)) hm
theorem BinD.divI {a b : Int} (hb : b ≠ 0) (hs : b.natAbs < 1073741824) : BinD C .FloorDiv (.int a) (.int b) (.int (a.fdiv b)) := by
  refine ⟨fun F s u v p h1 h2 => ?_⟩; cases h1; cases h2
  exact PyProof.Rows.floordiv_int hb (gives_val p.sub (.int _ _)) (.inl (PyProof.noPylong_small hs))
theorem BinD.modI {a b : Int} (hb : b ≠ 0) : BinD C .Mod (.int a) (.int b) (.int (a.fmod b)) := by
  refine ⟨fun F s u v p h1 h2 => ?_⟩; cases h1; cases h2
  exact PyProof.Rows.mod_int' hb (gives_val p.sub (.int _ _))
theorem BinD.powI {a k : Int} (hn : 0 ≤ k) (hs : (Builtin.Int.intBits a : Int) * k ≤ 2 ^ 27) : BinD C .Pow (.int a) (.int k) (.int (a ^ k.toNat)) := by
  refine ⟨fun F s u v p h1 h2 => ?_⟩; cases h1; cases h2
  exact PyProof.Rows.pow_int hn hs (gives_val p.sub (.int _ _))
theorem BinD.addS {x y : Str} (hs : x.length + y.length ≤ sizeLine) : BinD C .Add (.str x) (.str y) (.str (x ++ y)) := by
  refine ⟨fun F s u v p h1 h2 => ?_⟩; cases h1; cases h2
  exact PyProof.Rows.add_str (fun _ _ => gives_val p.sub (.str _ _)) hs
theorem BinD.addB {x y : Array UInt8} (hs : x.size + y.size ≤ 16777216) : BinD C .Add (.bytes x) (.bytes y) (.bytes (x ++ y)) := by
  refine ⟨fun F s u v p h1 h2 => ?_⟩; cases h1; cases h2
  exact PySem.W.KBy.add_bytes hs (fun _ _ => gives_val p.sub (.bytes _ _))
theorem BinD.addL {x y : List Dat} (hs : x.length + y.length ≤ sizeLine) : BinD C .Add (.list x) (.list y) (.list (x ++ y)) := by
  refine ⟨fun F s u v p h1 h2 => ?_⟩
  cases h1 with | list ha la ea =>
  cases h2 with | list hb lb eb =>
  refine PySem.P.add_list (p.sub _ _ ha) (p.sub _ _ hb) ?_ (by rw [la, lb]; exact hs)
  refine ⟨_, Gv.add (s := s) p.sub (fun a o e => Heap.get?_push_of_some _ e) (fresh_none _ (Nat.le_refl _)) (Heap.get?_push_size _ rfl), ?_⟩
  have hn : F s.heap.objs.size = none := by
    cases z : F s.heap.objs.size with
    | none => rfl
    | some o => exact absurd (Heap.lt_size (p.sub _ _ z)) (Nat.lt_irrefl _)
  refine Den.list (FH.add_self ..) (by simp [la, lb]) fun i v d hv hd => Den.mono ?_ (FH.add_le hn)
  rw [Array.getElem?_append] at hv
  rw [List.getElem?_append] at hd
  rw [la] at hv
  split at hv
  · rename_i q; rw [if_pos q] at hd; exact ea i v d hv hd
  · rename_i q; rw [if_neg q] at hd; exact eb _ v d hv hd
end
end Mine

namespace Mine
def lookI : List (Int × Int) → Int → Option Int
  | [], _ => none
  | (k, n) :: r, x => if k = x then some n else lookI r x
def putI (es : List (Int × Int)) (k n : Int) : List (Int × Int) :=
  if es.any (fun p => p.1 = k) then es.map (fun p => if p.1 = k then (p.1, n) else p) else es ++ [(k, n)]
theorem KVs.look {kvs : List (Int × Value)} {es : List (Int × Int)} (h : KVs kvs es) (k : Int) : (lookI es k = none ∧ valueAt kvs k = none) ∨ ∃ n t, lookI es k = some n ∧ valueAt kvs k = some (.int n t) := by
  induction h with
  | nil => exact .inl ⟨rfl, rfl⟩
  | @cons k' n t l m _ ih =>
    by_cases q : k' = k
    · subst q
      exact .inr ⟨n, t, by simp [lookI], by simp [valueAt]⟩
    · have e1 : lookI ((k', n) :: m) k = lookI m k := by simp [lookI, q]
      have e2 : valueAt ((k', Value.int n t) :: l) k = valueAt l k := by simp [valueAt, q]
      rw [e1, e2]; exact ih
theorem KVs.any {kvs : List (Int × Value)} {es : List (Int × Int)} (h : KVs kvs es) (k : Int) : kvs.any (fun kv => kv.1 = k) = es.any (fun p => p.1 = k) := by
  induction h with
  | nil => rfl
  | cons _ ih => simp only [List.any_cons, ih]
theorem KVs.append {a : List (Int × Value)} {b : List (Int × Int)} (h : KVs a b) {c : List (Int × Value)} {d : List (Int × Int)} (h' : KVs c d) : KVs (a ++ c) (b ++ d) := by
  induction h with
  | nil => exact h'
  | cons _ ih => exact .cons ih
theorem KVs.mapPut {kvs : List (Int × Value)} {es : List (Int × Int)} (h : KVs kvs es) (k n : Int) (t : Tok) : KVs (kvs.map fun kv => if kv.1 = k then (kv.1, Value.int n t) else kv) (es.map fun p => if p.1 = k then (p.1, n) else p) := by
  induction h with
  | nil => exact .nil
  | @cons k' n' t' l m _ ih =>
    simp only [List.map_cons]
    by_cases q : k' = k
    · rw [if_pos q, if_pos q]; exact .cons ih
    · rw [if_neg q, if_neg q]; exact .cons ih
theorem KVs.stored {kvs : List (Int × Value)} {es : List (Int × Int)} (h : KVs kvs es) (k n : Int) (t : Tok) : KVs (PySem.stored kvs k (.int n t)) (putI es k n) := by
  unfold PySem.stored putI
  rw [h.any k]
  split
  · exact h.mapPut k n t
  · exact h.append (.cons .nil)
def eqI (ea eb : List (Int × Int)) : Bool := ea.length == eb.length && ea.all fun p => lookI eb p.1 == some p.2
theorem KVs.hits {A : Around} {s : Shared} {kb : List (Int × Value)} {eb : List (Int × Int)} (hb : KVs kb eb) {ka : List (Int × Value)} {ea : List (Int × Int)} (ha : KVs ka ea) :
    KeqHits A s kb ka (ea.all fun p => lookI eb p.1 == some p.2) := by
  induction ha with
  | nil => exact .nil
  | @cons k n t l m _ ih =>
    rw [List.all_cons]
    rcases hb.look k with ⟨e1, e2⟩ | ⟨n', t', e1, e2⟩
    · rw [e1]; exact .miss e2
    · rw [e1]
      have e : (some n' == some n) = (n == n') := by
        rw [Bool.eq_iff_iff]; simp; exact eq_comm
      rw [e]
      exact .hit e2 (SeqAt.EqAt.int_int n t n' t') ih

/-- d is a list: frozen, or mutable -/
def AsL (P : MM) (d : Dat) (xs : List Dat) : Prop := d = .list xs ∨ ∃ a, d = .ex (.ref a) ∧ (a, MD.list xs) ∈ P
def AsD (P : MM) (d : Dat) (es : List (Int × Int)) : Prop := d = .dict es ∨ ∃ a, d = .ex (.ref a) ∧ (a, MD.dict es) ∈ P
section
variable {C : Cx} {δ : VM} {P R : MM} {F : FH} {h : Heap} {v : Value} {d : Dat}
theorem AsL.get {xs : List Dat} (q : AsL P d xs) (p : Pre C δ (P ++ R) F h) (e : Den C.w F v d) : ∃ a vs, v = .ref a ∧ h.PlainList a vs ∧ Els C.w F vs xs := by
  rcases q with rfl | ⟨a, rfl, hm⟩
  · cases e with
    | list ha la ea => exact ⟨_, _, rfl, ⟨_, p.sub _ _ ha⟩, la, ea⟩
  · cases e
    obtain ⟨vs, h1, h2⟩ := p.muta (a, .list xs) (List.mem_append_left _ hm)
    exact ⟨a, vs, rfl, h1, h2⟩
theorem AsD.get {es : List (Int × Int)} (q : AsD P d es) (p : Pre C δ (P ++ R) F h) (e : Den C.w F v d) : ∃ a kvs, v = .ref a ∧ (a == sysModules) = false ∧ h.DictOf (knd C.w) a kvs ∧ KVs kvs es := by
  rcases q with rfl | ⟨a, rfl, hm⟩
  · cases e with
    | dict ha hs hd hk => exact ⟨_, _, rfl, hs, hd h (p.sub _ _ ha), hk⟩
  · cases e
    obtain ⟨hs, kvs, h1, h2⟩ := p.muta (a, .dict es) (List.mem_append_left _ hm)
    exact ⟨a, kvs, rfl, hs, h1, h2⟩
end

section
variable {C : Cx} {δ : VM} {P : MM} {mg mb : Str → Option Value} {n : Nat}

/-- a comparison on data -/
structure CmpP (C : Cx) (δ : VM) (P : MM) (op : CmpOp) (d1 d2 : Dat) (r : Bool) : Prop where
  run : ∀ R F s a b, Pre C δ (P ++ R) F s.heap → Den C.w F a d1 → Den C.w F b d2 → wpAny (MG C) C.A (compareOp op a b) (fun v s' => v = .bool r ∧ ∃ F', Gv F s F' s') NoE s
theorem cmp_ev {op : CmpOp} {l r : Expr} {d1 d2 : Dat} {b : Bool} (hl : Ev C δ P l d1) (hr : Ev C δ P r d2) (h : CmpP C δ P op d1 d2 b) {R : MM} {F : FH} {s : Shared} (p : Pre C δ (P ++ R) F s.heap) :
    wpAny (MG C) C.A (eval l C.env) (fun a s₁ => wpAny (MG C) C.A (eval r C.env) (fun c s₂ => wpAny (MG C) C.A (compareOp op a c) (fun v s' => v = .bool b ∧ ∃ F', Gv F s F' s') NoE s₂) NoE s₁) NoE s := by
  refine wpAny_mono (hl.run R F s p) (fun a s1 h1 => ?_) fun _ _ e => e
  obtain ⟨F1, g1, e1⟩ := h1
  have p1 := p.gv g1
  refine wpAny_mono (hr.run R F1 s1 p1) (fun b s2 h2 => ?_) fun _ _ e => e
  obtain ⟨F2, g2, e2⟩ := h2
  refine wpAny_mono (h.run R F2 s2 a b (p1.gv g2) (e1.mono g2.le) e2) (fun v s3 h3 => ?_) fun _ _ e => e
  obtain ⟨q, F3, g3⟩ := h3
  exact ⟨q, F3, (g1.trans g2).trans g3⟩
theorem Ev.cmp {op : CmpOp} {l r : Expr} {pos : Pos} {d1 d2 : Dat} {b : Bool} (hl : Ev C δ P l d1) (hr : Ev C δ P r d2) (h : CmpP C δ P op d1 d2 b) (hm : behindInMarks op r = false := by with_unfolding_all rfl) :
    Ev C δ P (.Compare l [op] [r] pos) (.bool b) := by
  refine ⟨fun R F s p => ?_⟩
  refine wpAny_Compare1 ?_ hm
  refine wpAny_mono (cmp_ev hl hr h p) (fun a s1 h1 => wpAny_mono h1 (fun c s2 h2 => wpAny_mono h2 (fun v s3 h3 => ?_) fun _ _ e => e) fun _ _ e => e) fun _ _ e => e
  obtain ⟨rfl, F3, g3⟩ := h3
  exact ⟨F3, g3, .bool _⟩
theorem Tr.cmp {op : CmpOp} {l r : Expr} {pos : Pos} {d1 d2 : Dat} {b : Bool} (hl : Ev C δ P l d1) (hr : Ev C δ P r d2) (h : CmpP C δ P op d1 d2 b) (hm : behindInMarks op r = false := by with_unfolding_all rfl) :
    Tr C δ P (.Compare l [op] [r] pos) b := by
  refine ⟨fun R F s p => ?_⟩
  refine wpAny_isTrue_Compare1 ?_ hm
  refine wpAny_mono (cmp_ev hl hr h p) (fun a s1 h1 => wpAny_mono h1 (fun c s2 h2 => wpAny_mono h2 (fun v s3 h3 => ?_) fun _ _ e => e) fun _ _ e => e) fun _ _ e => e
  obtain ⟨rfl, F3, g3⟩ := h3
  exact wpAny_truthy_bool ⟨rfl, F3, g3⟩
theorem CmpP.eqI {a b : Int} : CmpP C δ P .Eq (.int a) (.int b) (a == b) := by
  refine ⟨fun R F s u v p h1 h2 => ?_⟩; cases h1; cases h2
  exact PyProof.Rows.eq_int ⟨rfl, F, Gv.refl p.sub⟩
theorem CmpP.neI {a b : Int} : CmpP C δ P .NotEq (.int a) (.int b) (a != b) := by
  refine ⟨fun R F s u v p h1 h2 => ?_⟩; cases h1; cases h2
  exact PyProof.Rows.ne_int ⟨rfl, F, Gv.refl p.sub⟩
theorem CmpP.ltI {a b : Int} : CmpP C δ P .Lt (.int a) (.int b) (decide (a < b)) := by
  refine ⟨fun R F s u v p h1 h2 => ?_⟩; cases h1; cases h2
  exact PyProof.Rows.lt_int ⟨rfl, F, Gv.refl p.sub⟩
theorem CmpP.gtI {a b : Int} : CmpP C δ P .Gt (.int a) (.int b) (decide (b < a)) := by
  refine ⟨fun R F s u v p h1 h2 => ?_⟩; cases h1; cases h2
  exact PyProof.Rows.gt_int ⟨rfl, F, Gv.refl p.sub⟩
theorem CmpP.eqS {a b : Str} : CmpP C δ P .Eq (.str a) (.str b) (a == b) := by
  refine ⟨fun R F s u v p h1 h2 => ?_⟩; cases h1; cases h2
  exact PyProof.Rows.eq_str ⟨rfl, F, Gv.refl p.sub⟩
theorem CmpP.inD {k : Int} {d : Dat} {es : List (Int × Int)} (hd : AsD P d es) : CmpP C δ P .In (.int k) d (lookI es k).isSome := by
  refine ⟨fun R F s u v p h1 h2 => ?_⟩; cases h1
  obtain ⟨a, kvs, rfl, hs, hm, hk⟩ := hd.get p h2
  refine wpAny_in_of (knd := knd C.w) (k := k) (by simp [knd, intKind, Value.isInt]) hs hm.mapOf ⟨?_, F, Gv.tok p.sub⟩
  rcases hk.look k with ⟨e1, e2⟩ | ⟨n', t', e1, e2⟩
  · rw [e1, e2]; rfl
  · rw [e1, e2]; rfl
theorem CmpP.neD {d d' : Dat} {ea eb : List (Int × Int)} (c : COk C mg mb n) (hd : AsD P d ea) (hd' : AsD P d' eb) : CmpP C δ P .NotEq d d' (!(Mine.eqI ea eb)) := by
  refine ⟨fun R F s u v p h1 h2 => ?_⟩
  obtain ⟨a, ka, rfl, hs, hm, hk⟩ := hd.get p h1
  obtain ⟨b, kb, rfl, hs', hm', hk'⟩ := hd'.get p h2
  refine keq_ne (knd := knd C.w) hs hs' hm hm' (Nat.lt_of_le_of_lt (Nat.le_trans (Nat.le_add_right _ _) c.ar.un) (by decide)) (fun _ => hk'.hits hk) ⟨?_, F, Gv.refl p.sub⟩
  rw [hk.length, hk'.length]; rfl
theorem mem_ints {w : World} {F : FH} {vs : Array Value} {L : List Int} (e : Els w F vs (L.map .int)) {v : Value} (h : v ∈ vs) : ∃ i t, v = .int i t := by
  obtain ⟨i, hi, rfl⟩ := Array.mem_iff_getElem.mp h
  obtain ⟨d, hd, hv⟩ := e.nth (i := i) (v := vs[i]) (by simp [hi])
  simp only [List.getElem?_map, Option.map_eq_some_iff] at hd
  obtain ⟨x, _, rfl⟩ := hd
  generalize vs[i] = y at hv
  cases hv
  exact ⟨_, _, rfl⟩
def isI (k : Int) : Value → Bool
  | .int j _ => j == k
  | _ => false
theorem any_ints {w : World} {F : FH} {vs : Array Value} {L : List Int} (e : Els w F vs (L.map .int)) (k : Int) : vs.any (isI k) = L.any (· == k) := by
  rw [Bool.eq_iff_iff, Array.any_eq_true, List.any_eq_true]
  constructor
  · rintro ⟨i, hi, h⟩
    obtain ⟨d, hd, hv⟩ := e.nth (i := i) (v := vs[i]) (by simp [hi])
    simp only [List.getElem?_map, Option.map_eq_some_iff] at hd
    obtain ⟨x, hx, rfl⟩ := hd
    generalize vs[i] = y at h hv
    cases hv
    exact ⟨x, List.mem_of_getElem? hx, h⟩
  · rintro ⟨x, hx, h⟩
    obtain ⟨i, hi, rfl⟩ := List.mem_iff_getElem.mp hx
    obtain ⟨v, hv, hd⟩ := e.get (i := i) (d := .int L[i]) (by simp [hi])
    have hi' : i < vs.size := by rw [e.1]; simpa using hi
    refine ⟨i, hi', ?_⟩
    have : vs[i] = v := by simpa [hi'] using hv
    rw [this]
    generalize L[i] = z at hd h
    cases hd
    exact h
theorem CmpP.notInL {k : Int} {d : Dat} {L : List Int} (hd : AsL P d (L.map .int)) : CmpP C δ P .NotIn (.int k) d (!(L.any (· == k))) := by
  refine ⟨fun R F s u v p h1 h2 => ?_⟩
  cases h1 with | int _ t =>
  obtain ⟨a, vs, rfl, ⟨n, hl⟩, he⟩ := hd.get p h2
  refine PySem.SeqRoads2.notIn_list (isI k) (fun y hy => ?_) hl ⟨?_, F, Gv.refl p.sub⟩
  · obtain ⟨i, t', rfl⟩ := mem_ints he hy
    exact PySem.MeetsSeq.EqGives.int i k t' t
  · rw [any_ints he]

/-- truth -/
theorem Tr.not {x : Expr} {pos : Pos} {b : Bool} (h : Tr C δ P x b) : Tr C δ P (.UnaryOp .Not x pos) (!b) := by
  refine ⟨fun R F s p => ?_⟩
  refine wpAny_isTrue_Not (wpAny_mono (h.run R F s p) (fun r s1 h1 => ?_) fun _ _ e => e)
  exact ⟨by rw [h1.1], h1.2⟩
def truth : Dat → Option Bool
  | .none => some false
  | .bool b => some b
  | .int i => some (i != 0)
  | _ => none
theorem Tr.val {e : Expr} {d : Dat} {b : Bool} (h : Ev C δ P e d) (hb : truth d = some b) (he : ∀ whole, isTrue e C.env whole = (do let v ← whole; standAt e.pos; holding [v] (truthy v)) := by intro _; rfl) : Tr C δ P e b := by
  refine ⟨fun R F s p => ?_⟩
  refine wpAny_isTrue_value (wpAny_mono (h.run R F s p) (fun v s1 h1 => ?_) fun _ _ e => e) (he _)
  obtain ⟨F1, g1, e1⟩ := h1
  cases e1 with
  | none => cases hb; exact truthy_none ⟨rfl, F1, g1⟩
  | bool b' => cases hb; exact wpAny_truthy_bool ⟨rfl, F1, g1⟩
  | int i t => cases hb; exact PyProof.Rows.truthy_int ⟨rfl, F1, g1⟩
  | _ => cases hb
/-- the truth of a list of tests -/
structure TrAll (C : Cx) (δ : VM) (P : MM) (op : BoolOp) (es : List Expr) (b : Bool) : Prop where
  run : ∀ R F s, Pre C δ (P ++ R) F s.heap →
  wpAny (MG C) C.A (allTrue op es C.env) (fun r s' => r = b ∧ ∃ F', Gv F s F' s') NoE s
theorem Tr.op {op : BoolOp} {es : List Expr} {pos : Pos} {b : Bool} (h : TrAll C δ P op es b) : Tr C δ P (.BoolOp op es pos) b := ⟨fun R F s p => wpAny_isTrue_BoolOp (h.run R F s p)⟩
theorem TrAll.and_nil : TrAll C δ P .And [] true := ⟨fun R F s p => wpAny_allTrue_And_nil ⟨rfl, F, Gv.refl p.sub⟩⟩
theorem TrAll.or_nil : TrAll C δ P .Or [] false := ⟨fun R F s p => wpAny_allTrue_Or_nil ⟨rfl, F, Gv.refl p.sub⟩⟩
theorem TrAll.and {e : Expr} {es : List Expr} {b c : Bool} (h : Tr C δ P e b) (h' : b = true → TrAll C δ P .And es c) : TrAll C δ P .And (e :: es) (b && c) := by
  refine ⟨fun R F s p => ?_⟩
  refine wpAny_allTrue_And_cons (wpAny_mono (h.run R F s p) (fun r s1 h1 => ?_) fun _ _ e => e)
  obtain ⟨rfl, F1, g1⟩ := h1
  cases hb : r with
  | false => exact ⟨rfl, F1, g1⟩
  | true =>
    refine wpAny_mono ((h' hb).run R F1 s1 (p.gv g1)) (fun r s2 h2 => ?_) fun _ _ e => e
    obtain ⟨rfl, F2, g2⟩ := h2
    exact ⟨rfl, F2, g1.trans g2⟩
theorem TrAll.or {e : Expr} {es : List Expr} {b c : Bool} (h : Tr C δ P e b) (h' : b = false → TrAll C δ P .Or es c) : TrAll C δ P .Or (e :: es) (b || c) := by
  refine ⟨fun R F s p => ?_⟩
  refine wpAny_allTrue_Or_cons (wpAny_mono (h.run R F s p) (fun r s1 h1 => ?_) fun _ _ e => e)
  obtain ⟨rfl, F1, g1⟩ := h1
  cases hb : r with
  | true => exact ⟨rfl, F1, g1⟩
  | false =>
    refine wpAny_mono ((h' hb).run R F1 s1 (p.gv g1)) (fun r s2 h2 => ?_) fun _ _ e => e
    obtain ⟨rfl, F2, g2⟩ := h2
    exact ⟨rfl, F2, g1.trans g2⟩
theorem Ev.ifExp {t a b : Expr} {pos : Pos} {r : Bool} {d : Dat} (h : Tr C δ P t r) (h1 : r = true → Ev C δ P a d) (h2 : r = false → Ev C δ P b d) : Ev C δ P (.IfExp t a b pos) d := by
  refine ⟨fun R F s p => ?_⟩
  refine wpAny_IfExp (wpAny_mono (h.run R F s p) (fun r s1 q => ?_) fun _ _ e => e)
  obtain ⟨rfl, F1, g1⟩ := q
  cases hb : r with
  | true => exact ((h1 hb).run R F1 s1 (p.gv g1)).after g1
  | false => exact ((h2 hb).run R F1 s1 (p.gv g1)).after g1
theorem Ev.neg {x : Expr} {pos : Pos} {i : Int} (h : Ev C δ P x (.int i)) : Ev C δ P (.UnaryOp .USub x pos) (.int (-i)) := by
  refine ⟨fun R F s p => ?_⟩
  refine wpAny_UnaryOp (wpAny_mono (h.run R F s p) (fun v s1 h1 => ?_) fun _ _ e => e)
  obtain ⟨F1, g1, e1⟩ := h1
  cases e1
  exact PyProof.Rows.neg_int ⟨F1, g1.trans (Gv.tok g1.sub), .int _ _⟩

/-- an item -/
theorem Ev.sub {value slice : Expr} {pos : Pos} {d1 d2 d : Dat} (hv : Ev C δ P value d1) (hi : Ev C δ P slice d2)
    (h : ∀ R F s o i, Pre C δ (P ++ R) F s.heap → Den C.w F o d1 → Den C.w F i d2 → Gives C F s (subscriptTail value slice o i) d) : Ev C δ P (.Subscript value slice pos) d := by
  refine ⟨fun R F s p => ?_⟩
  refine Subscript_ (wpAny_mono (hv.run R F s p) (fun a s1 h1 => ?_) fun _ _ e => e)
  obtain ⟨F1, g1, e1⟩ := h1
  have p1 := p.gv g1
  refine wpAny_mono (hi.run R F1 s1 p1) (fun b s2 h2 => ?_) fun _ _ e => e
  obtain ⟨F2, g2, e2⟩ := h2
  exact (h R F2 s2 a b (p1.gv g2) (e1.mono g2.le) e2).after (g1.trans g2)
def nth (xs : List Dat) (k : Int) : Option Dat := if 0 ≤ k then xs[k.toNat]? else if -(xs.length : Int) ≤ k then xs[(k + xs.length).toNat]? else none
theorem Ev.subL {value slice : Expr} {pos : Pos} {d1 d : Dat} {xs : List Dat} {k : Int} (hv : Ev C δ P value d1) (hi : Ev C δ P slice (.int k)) (hL : AsL P d1 xs) (hx : nth xs k = some d) (hk : -(2 ^ 63) ≤ k ∧ k < 2 ^ 63)
    (hs : ∀ o i, subscripted slice false o i = operate [o, i] (getItem o i) := by intros; rfl) : Ev C δ P (.Subscript value slice pos) d := by
  refine Ev.sub hv hi fun R F s o i p ho hi => ?_
  cases hi
  obtain ⟨a, vs, rfl, hl, he⟩ := hL.get p ho
  unfold nth at hx
  refine tail_any hl.isList.typeIs slot_list_getitem.lookup ?_ (hs _ _)
  split at hx
  · rename_i h0
    obtain ⟨v, hv, hd⟩ := he.get hx
    exact wpAny_getItem_list hl.isList h0 hk.2 hv ⟨F, Gv.refl p.sub, hd⟩
  · rename_i h0
    split at hx
    · rename_i h1
      obtain ⟨v, hv, hd⟩ := he.get hx
      exact wpAny_getItem_list_neg hl.isList (by omega) (by rw [he.1]; exact h1) hk.1 (by rw [he.1]; exact hv) ⟨F, Gv.refl p.sub, hd⟩
    · cases hx
theorem Ev.subD {value slice : Expr} {pos : Pos} {d1 : Dat} {es : List (Int × Int)} {k n : Int} (hv : Ev C δ P value d1) (hi : Ev C δ P slice (.int k)) (hL : AsD P d1 es) (hx : lookI es k = some n)
    (hs : ∀ o i, subscripted slice false o i = operate [o, i] (getItem o i) := by intros; rfl) : Ev C δ P (.Subscript value slice pos) (.int n) := by
  refine Ev.sub hv hi fun R F s o i p ho hi => ?_
  cases hi
  obtain ⟨a, kvs, rfl, hs', hm, hk⟩ := hL.get p ho
  rcases hk.look k with ⟨e1, e2⟩ | ⟨n', t', e1, e2⟩
  · rw [hx] at e1; cases e1
  · rw [hx] at e1; cases e1
    exact tail_any hm.mapOf.typeIs slot_dict_getitem.lookup (wpAny_getItem_of (knd := knd C.w) (k := k) (by simp [knd, intKind, Value.isInt]) hm.mapOf e2 ⟨F, Gv.tok p.sub, .int _ _⟩) (hs _ _)
theorem Ev.subS {value slice : Expr} {pos : Pos} {x : Str} {k : Int} {c : Nat} (hv : Ev C δ P value (.str x)) (hi : Ev C δ P slice (.int k)) (hk : -(2 ^ 63) ≤ k ∧ k < 2 ^ 63) (hc : (seqIndex? k x.length).bind (x.cps[·]?) = some c)
    (hs : ∀ o i, subscripted slice false o i = operate [o, i] (getItem o i) := by intros; rfl) : Ev C δ P (.Subscript value slice pos) (.str ⟨#[c]⟩) := by
  refine Ev.sub hv hi fun R F s o i p ho hi => ?_
  cases ho; cases hi
  refine tail_any (T := "str") (by rfl) slot_str_getitem.lookup (PyProof.Rows.getItem_str (by simp; omega) hc ⟨F, Gv.tok p.sub, .str _ _⟩) (hs _ _)
end
end Mine

namespace Mine
theorem nodup_snd {α : Type} {l : List (α × Addr)} (h : (l.map (·.2)).Nodup) {x y : α} {c : Addr} (hx : (x, c) ∈ l) (hy : (y, c) ∈ l) : x = y := by
  induction l with
  | nil => cases hx
  | cons p r ih =>
    rw [List.map_cons, List.nodup_cons] at h
    rcases List.mem_cons.mp hx with e | hx' <;> rcases List.mem_cons.mp hy with e' | hy'
    · rw [← e'] at e; exact (Prod.mk.inj e).1
    · exact absurd (List.mem_map.mpr ⟨_, hy', by rw [← e]⟩) h.1
    · exact absurd (List.mem_map.mpr ⟨_, hx', by rw [← e']⟩) h.1
    · exact ih h.2 hx' hy'
theorem lookup_mem {l : List (Str × Addr)} {x : Str} {c : Addr} (h : l.lookup x = some c) : (x, c) ∈ l := by
  induction l with
  | nil => cases h
  | cons p r ih =>
    obtain ⟨y, d⟩ := p
    rw [List.lookup_cons] at h
    split at h
    · rename_i q; cases h; rw [eq_of_beq q]; exact .head _
    · exact .tail _ (ih h)

section
variable {C : Cx} {δ : VM} {P : MM} {F : FH} {h h' : Heap} {a : Addr}
/-- one mutable object is changed: what stays -/
structure Stay (C : Cx) (P : MM) (F : FH) (a : Addr) (h h' : Heap) : Prop where
  base : ∀ b o, C.h0.get? b = some o → h'.get? b = some o
  sub : Sub F h'
  oth : ∀ b o, b ≠ a → h.get? b = some o → h'.get? b = some o
theorem Pre.stay (p : Pre C δ P F h) (ha : a ∈ muts C P) (h0a : C.h0.get? a = none) (hs : Heap.ExtBut a h h') : Stay C P F a h h' := by
  refine ⟨fun b o e => hs b o (fun q => ?_) (p.base b o e), fun b o e => hs b o (fun q => ?_) (p.sub b o e), fun b o q e => hs b o q e⟩
  · rw [q, h0a] at e; cases e
  · rw [q, p.notF a ha] at e; cases e
theorem ne_cell (p : Pre C δ P F h) {x : Str} {c : Addr} (hc : C.env.cells.lookup x = some c) : c ≠ C.env.locals := by
  have := p.nodup
  unfold muts at this
  rw [List.nodup_cons] at this
  intro q
  exact this.1 (q ▸ List.mem_append_left _ (List.mem_map.mpr ⟨_, lookup_mem hc, rfl⟩))
theorem loc_not_P (p : Pre C δ P F h) {q : Addr × MD} (hq : q ∈ P) : q.1 ≠ C.env.locals := by
  have := p.nodup
  unfold muts at this
  rw [List.nodup_cons] at this
  intro z
  exact this.1 (z ▸ List.mem_append_right _ (List.mem_map.mpr ⟨_, hq, rfl⟩))
theorem cell_not_P (p : Pre C δ P F h) {x : Str} {c : Addr} (hc : (x, c) ∈ C.env.cells) {q : Addr × MD} (hq : q ∈ P) : q.1 ≠ c := by
  have := p.nodup
  unfold muts at this
  rw [List.nodup_cons, List.nodup_append] at this
  intro z
  exact this.2.2.2 c (List.mem_map.mpr ⟨_, hc, rfl⟩) q.1 (List.mem_map.mpr ⟨_, hq, rfl⟩) z.symm
theorem cells_nodup (p : Pre C δ P F h) : (C.env.cells.map (·.2)).Nodup := by
  have := p.nodup
  unfold muts at this
  rw [List.nodup_cons, List.nodup_append] at this
  exact this.2.1
theorem P_nodup (p : Pre C δ P F h) : (P.map (·.1)).Nodup := by
  have := p.nodup
  unfold muts at this
  rw [List.nodup_cons, List.nodup_append] at this
  exact this.2.2.1
theorem loc_mem : C.env.locals ∈ muts C P := List.mem_cons_self ..
theorem cell_mem {x : Str} {c : Addr} (hc : (x, c) ∈ C.env.cells) : c ∈ muts C P := List.mem_cons_of_mem _ (List.mem_append_left _ (List.mem_map.mpr ⟨_, hc, rfl⟩))
theorem P_mem {q : Addr × MD} (hq : q ∈ P) : q.1 ∈ muts C P := List.mem_cons_of_mem _ (List.mem_append_right _ (List.mem_map.mpr ⟨_, hq, rfl⟩))
end

section
variable {C : Cx} {δ : VM} {P : MM} {mg mb : Str → Option Value} {n : Nat}

def IsVar (C : Cx) (x : Str) : Prop := C.env.kindOf x = some .local ∨ (C.inner = false ∧ C.env.kindOf x = some .cell ∧ ∃ c, C.env.cells.lookup x = some c)
theorem store {F : FH} {s : Shared} {x : Str} {v : Value} {d : Dat} (c : COk C mg mb n) (p : Pre C δ P F s.heap) (hx : IsVar C x) (hd : Den C.w F v d) :
    wpAny (MG C) C.A (storeName C.env x v) (fun _ s' => (∃ h' tk, s' = { s with heap := h', toks := tk }) ∧ Pre C ((x, d) :: δ) P F s'.heap) NoE s := by
  obtain ⟨m, hn, hv⟩ := p.vars
  rcases hx with hk | ⟨hin, hk, c', hc⟩
  · refine wpAny_storeName_local hk hn (fun h' hn' hs => ⟨⟨_, _, rfl⟩, ?_⟩) (by rw [c.fn]; rfl)
    have st := p.stay (loc_mem (P := P)) p.ownL hs.extBut
    refine { base := st.base, sub := st.sub, le0 := p.le0, fresh := p.fresh, vars := ⟨_, hn', fun y e q => ?_⟩, cells := fun q hq => ?_, muta := fun q hq => ?_, nodup := p.nodup, notF := p.notF, own := p.own, ownL := p.ownL }
    · unfold look at q
      by_cases z : x = y
      · rw [if_pos z] at q; cases q; subst z
        exact ⟨v, .inl ⟨hk, if_pos rfl⟩, hd⟩
      · rw [if_neg z] at q
        obtain ⟨u, hu, he⟩ := hv y e q
        refine ⟨u, ?_, he⟩
        rcases hu with ⟨k1, k2⟩ | ⟨k1, c1, k2, o, k3, k4⟩
        · exact .inl ⟨k1, by show (if y = x then some v else m y) = some u; rw [if_neg (Ne.symm z)]; exact k2⟩
        · exact .inr ⟨k1, c1, k2, o, st.oth _ _ (ne_cell p k2) k3, k4⟩
    · obtain ⟨u, o, e1, e2⟩ := p.cells q hq
      refine ⟨u, o, st.oth _ _ (fun z => ?_) e1, e2⟩
      have := p.nodup; unfold muts at this; rw [List.nodup_cons] at this
      exact this.1 (z ▸ List.mem_append_left _ (List.mem_map.mpr ⟨_, hq, rfl⟩))
    · exact (p.muta q hq).le (Le.refl _) fun o e => st.oth _ _ (loc_not_P p hq) e
  · obtain ⟨u0, hu0⟩ := p.cells _ (lookup_mem hc)
    refine wpAny_storeName_cell c.fn hk hc hu0 (fun h' hc' hs => ⟨⟨_, s.toks, rfl⟩, ?_⟩)
    have st := p.stay (cell_mem (P := P) (lookup_mem hc)) (p.own hin _ (cell_mem (P := P) (lookup_mem hc))) hs.extBut
    refine { base := st.base, sub := st.sub, le0 := p.le0, fresh := p.fresh, vars := ⟨m, hn.at fun o e => st.oth _ _ (Ne.symm (ne_cell p hc)) e, fun y e q => ?_⟩, cells := fun q hq => ?_, muta := fun q hq => ?_, nodup := p.nodup, notF := p.notF, own := p.own, ownL := p.ownL }
    · unfold look at q
      by_cases z : x = y
      · rw [if_pos z] at q; cases q; subst z
        exact ⟨v, .inr ⟨hk, c', hc, hc'⟩, hd⟩
      · rw [if_neg z] at q
        obtain ⟨u, hu, he⟩ := hv y e q
        refine ⟨u, ?_, he⟩
        rcases hu with ⟨k1, k2⟩ | ⟨k1, c1, k2, o, k3, k4⟩
        · exact .inl ⟨k1, k2⟩
        · exact .inr ⟨k1, c1, k2, o, st.oth _ _ (fun w => z (nodup_snd (cells_nodup p) (lookup_mem hc) (w ▸ lookup_mem k2))) k3, k4⟩
    · by_cases z : q.2 = c'
      · exact ⟨some v, z ▸ hc'⟩
      · obtain ⟨u, o, e1, e2⟩ := p.cells q hq
        exact ⟨u, o, st.oth _ _ z e1, e2⟩
    · exact (p.muta q hq).le (Le.refl _) fun o e => st.oth _ _ (cell_not_P p (lookup_mem hc) hq) e

/-- a mutable object is changed -/
inductive Put : MM → Addr → MD → MD → MM → Prop
  | head {a : Addr} {m m' : MD} {P : MM} : Put ((a, m) :: P) a m m' ((a, m') :: P)
  | tail {q : Addr × MD} {a : Addr} {m m' : MD} {P P' : MM} : Put P a m m' P' → Put (q :: P) a m m' (q :: P')
theorem Put.mem {P P' : MM} {a : Addr} {m m' : MD} (h : Put P a m m' P') : (a, m) ∈ P := by
  induction h with
  | head => exact .head _
  | tail _ ih => exact .tail _ ih
theorem Put.app {P P' : MM} {a : Addr} {m m' : MD} (h : Put P a m m' P') (R : MM) : Put (P ++ R) a m m' (P' ++ R) := by
  induction h with
  | head => exact .head
  | tail _ ih => exact .tail ih
theorem Put.keys {P P' : MM} {a : Addr} {m m' : MD} (h : Put P a m m' P') : P'.map (·.1) = P.map (·.1) := by
  induction h with
  | head => rfl
  | tail _ ih => simp [ih]
theorem Put.cases {P P' : MM} {a : Addr} {m m' : MD} (h : Put P a m m' P') (hn : (P.map (·.1)).Nodup) : ∀ q ∈ P', q = (a, m') ∨ (q ∈ P ∧ q.1 ≠ a) := by
  induction h with
  | @head a m m' P =>
    rw [List.map_cons, List.nodup_cons] at hn
    intro q hq
    rcases List.mem_cons.mp hq with e | e
    · exact .inl e
    · exact .inr ⟨.tail _ e, fun z => hn.1 (z ▸ List.mem_map.mpr ⟨q, e, rfl⟩)⟩
  | @tail p a m m' P P' hp ih =>
    rw [List.map_cons, List.nodup_cons] at hn
    intro q hq
    rcases List.mem_cons.mp hq with e | e
    · subst e
      exact .inr ⟨.head _, fun z => hn.1 (z ▸ List.mem_map.mpr ⟨_, hp.mem, rfl⟩)⟩
    · rcases ih hn.2 q e with z | ⟨z1, z2⟩
      · exact .inl z
      · exact .inr ⟨.tail _ z1, z2⟩
theorem Pre.put {P' : MM} {F : FH} {h h' : Heap} {a : Addr} {m m' : MD} (p : Pre C δ P F h) (h0a : C.h0.get? a = none) (hp : Put P a m m' P') (hs : Heap.ExtBut a h h') (hm : MDen C.w F h' a m') : Pre C δ P' F h' := by
  have ha : a ∈ muts C P := P_mem (C := C) hp.mem
  have st := p.stay ha h0a hs
  have hmu : muts C P' = muts C P := by unfold muts; rw [hp.keys]
  obtain ⟨mm, hn, hv⟩ := p.vars
  have hal : C.env.locals ≠ a := fun z => loc_not_P p hp.mem z.symm
  refine { base := st.base, sub := st.sub, le0 := p.le0, fresh := p.fresh, vars := ⟨mm, hn.at fun o e => st.oth _ _ hal e, fun y e q => ?_⟩, cells := fun q hq => ?_, muta := fun q hq => ?_, nodup := hmu ▸ p.nodup, notF := hmu ▸ p.notF, own := hmu ▸ p.own, ownL := p.ownL }
  · obtain ⟨u, hu, he⟩ := hv y e q
    refine ⟨u, ?_, he⟩
    rcases hu with ⟨k1, k2⟩ | ⟨k1, c1, k2, o, k3, k4⟩
    · exact .inl ⟨k1, k2⟩
    · exact .inr ⟨k1, c1, k2, o, st.oth _ _ (fun w => cell_not_P p (lookup_mem k2) hp.mem w.symm) k3, k4⟩
  · obtain ⟨u, o, e1, e2⟩ := p.cells q hq
    exact ⟨u, o, st.oth _ _ (fun w => cell_not_P p hq hp.mem w.symm) e1, e2⟩
  · rcases hp.cases (P_nodup p) q hq with rfl | ⟨z1, z2⟩
    · exact hm
    · exact (p.muta q z1).le (Le.refl _) fun o e => st.oth _ _ z2 e
/-- a new mutable object -/
theorem Pre.alloc {F : FH} {s s' : Shared} {F' : FH} {a : Addr} {m : MD} (p : Pre C δ P F s.heap) (g : Gv F s F' s') (hm : MDen C.w F' s'.heap a m) (ha : s.heap.get? a = none) (hF : F' a = none) : Pre C δ ((a, m) :: P) F' s'.heap := by
  have q := p.gv g
  have hnot : a ∉ muts C P := fun z => by
    obtain ⟨o, e⟩ := p.mutSome a z
    rw [ha] at e; cases e
  have hmem : ∀ b, b ∈ muts C ((a, m) :: P) → b = a ∨ b ∈ muts C P := fun b hb => by
    simp only [muts, List.map_cons, List.mem_cons, List.mem_append] at hb ⊢
    rcases hb with h1 | h1 | h1 | h1
    · exact .inr (.inl h1)
    · exact .inr (.inr (.inl h1))
    · exact .inl h1
    · exact .inr (.inr (.inr h1))
  refine { q with muta := fun r hr => ?_, nodup := ?_, notF := fun b hb => ?_, own := fun hi b hb => ?_ }
  · rcases List.mem_cons.mp hr with rfl | hr
    · exact hm
    · exact q.muta r hr
  · have : (muts C ((a, m) :: P)).Perm (a :: muts C P) := by
      unfold muts
      rw [List.map_cons]
      exact (List.Perm.cons _ List.perm_middle).trans (List.Perm.swap ..)
    exact this.nodup_iff.mpr (List.nodup_cons.mpr ⟨hnot, p.nodup⟩)
  · rcases hmem b hb with rfl | z
    · exact hF
    · exact q.notF b z
  · rcases hmem b hb with rfl | z
    · cases e : C.h0.get? b with
      | none => rfl
      | some o => rw [p.base b o e] at ha; cases ha
    · exact q.own hi b z
def MD.dat : MD → Option Dat
  | .list xs => some (.list xs)
  | .dict es => some (.dict es)
  | .raw _ => none
theorem MDen.freeze {w : World} {F : FH} {h : Heap} {a : Addr} {m : MD} {d : Dat} (x : MDen w F h a m) (hd : m.dat = some d) : ∃ o, h.get? a = some o ∧ ∀ F', Le F F' → F' a = some o → Den w F' (.ref a) d := by
  cases m with
  | raw o => cases hd
  | list xs =>
    cases hd
    obtain ⟨vs, ⟨n, e⟩, he⟩ := x
    exact ⟨_, e, fun F' le ha => .list ha he.1 fun i v d a b => (he.2 i v d a b).mono le⟩
  | dict es =>
    cases hd
    obtain ⟨hs, kvs, hd, hk⟩ := x
    obtain ⟨o, es', ep, e, r⟩ := id hd
    exact ⟨o, e, fun F' le ha => .dict ha hs (fun h' e' => hd.at fun o' q => by rw [e] at q; cases q; exact e') hk⟩
/-- a mutable object is frozen -/
theorem Pre.freeze {F : FH} {h : Heap} {a : Addr} {m : MD} {d : Dat} (p : Pre C δ ((a, m) :: P) F h) (h0a : C.h0.get? a = none) (hd : m.dat = some d) : ∃ F', Le F F' ∧ Pre C δ P F' h ∧ Den C.w F' (.ref a) d := by
  obtain ⟨o, ho, hf⟩ := (p.muta _ (.head _)).freeze hd
  have hmu : a ∈ muts C ((a, m) :: P) := P_mem (C := C) (List.Mem.head _)
  have le : Le F (F.add a o) := FH.add_le (p.notF a hmu)
  have hsub : ∀ b, b ∈ muts C P → b ∈ muts C ((a, m) :: P) := (muts_sub (List.Sublist.cons _ (List.Sublist.refl _))).subset
  have hnd : a ∉ muts C P := by
    have hp : (muts C ((a, m) :: P)).Perm (a :: muts C P) := by
      unfold muts
      rw [List.map_cons]
      exact (List.Perm.cons _ List.perm_middle).trans (List.Perm.swap ..)
    exact (List.nodup_cons.mp (hp.nodup_iff.mp p.nodup)).1
  have q := p.drop (P' := P) (List.Sublist.cons _ (List.Sublist.refl _))
  obtain ⟨mm, hn, hv⟩ := q.vars
  refine ⟨F.add a o, le, { q with sub := fun b o' e => ?_, le0 := p.le0.trans le, fresh := fun b o' e => ?_, vars := ⟨mm, hn, fun x d e => ?_⟩, muta := fun r hr => (q.muta r hr).le le fun _ e => e, notF := fun b hb => ?_ }, hf _ le (FH.add_self ..)⟩
  · rcases FH.add_cases e with ⟨rfl, rfl⟩ | z
    · exact ho
    · exact p.sub b o' z
  · rcases FH.add_cases e with ⟨rfl, rfl⟩ | z
    · exact .inr h0a
    · exact p.fresh b o' z
  · obtain ⟨u, a1, a2⟩ := hv x d e
    exact ⟨u, a1, a2.mono le⟩
  · unfold FH.add
    rw [if_neg (fun z => hnd (by rw [← z]; exact hb))]
    exact q.notF b hb

/-- the end of a run -/
inductive Out where
  | next | brk | cont | ret (d : Dat)
def FlowIs (w : World) (F : FH) : Flow → Out → Prop
  | .next, .next => True
  | .brk, .brk => True
  | .cont, .cont => True
  | .ret v, .ret d => Den w F v d
  | _, _ => False
abbrev OQ := Out → VM → MM → Prop
def After (C : Cx) (R : MM) (F : FH) (s : Shared) (Q : OQ) (fl : Flow) (s' : Shared) : Prop :=
  ∃ out δ' P' F', (∃ h' tk, s' = { s with heap := h', toks := tk }) ∧ Le F F' ∧ Pre C δ' (P' ++ R) F' s'.heap ∧ FlowIs C.w F' fl out ∧ Q out δ' P'
structure Ex (C : Cx) (δ : VM) (P : MM) (st : Stmt) (Q : OQ) : Prop where
  run : ∀ R F s, Pre C δ (P ++ R) F s.heap → wpAny (MG C) C.A (exec st C.env) (After C R F s Q) NoE s
structure Run (C : Cx) (δ : VM) (P : MM) (ss : List Stmt) (Q : OQ) : Prop where
  run : ∀ R F s, Pre C δ (P ++ R) F s.heap → wpAny (MG C) C.A (execs ss C.env) (After C R F s Q) NoE s
def Seq (C : Cx) (rest : List Stmt) (Q : OQ) : OQ := fun out δ' P' => match out with
  | .next => Run C δ' P' rest Q
  | o => Q o δ' P'
theorem upd_trans {s s1 s2 : Shared} (a : ∃ h' tk, s1 = { s with heap := h', toks := tk }) (b : ∃ h' tk, s2 = { s1 with heap := h', toks := tk }) : ∃ h' tk, s2 = { s with heap := h', toks := tk } := by
  obtain ⟨h, t, rfl⟩ := a
  obtain ⟨h', t', rfl⟩ := b
  exact ⟨h', t', rfl⟩
theorem After.pre {R : MM} {F F1 : FH} {s s1 : Shared} {Q : OQ} (u : ∃ h' tk, s1 = { s with heap := h', toks := tk }) (le : Le F F1) {fl : Flow} {s2 : Shared} (h : After C R F1 s1 Q fl s2) : After C R F s Q fl s2 := by
  obtain ⟨out, δ', P', F', u', le', p, f, q⟩ := h
  exact ⟨out, δ', P', F', upd_trans u u', le.trans le', p, f, q⟩
theorem Run.nil {Q : OQ} (h : Q .next δ P) : Run C δ P [] Q := ⟨fun R F s p => wpAny_execs_nil ⟨.next, δ, P, F, ⟨s.heap, s.toks, rfl⟩, Le.refl _, p, trivial, h⟩⟩
theorem Run.cons {st : Stmt} {rest : List Stmt} {Q : OQ} (h : Ex C δ P st (Seq C rest Q)) : Run C δ P (st :: rest) Q := by
  refine ⟨fun R F s p => ?_⟩
  refine wpAny_execs_cons (wpAny_mono (h.run R F s p) (fun fl s1 h1 => ?_) fun _ _ e => e)
  obtain ⟨out, δ', P', F', u, le, p', f, q⟩ := h1
  cases fl <;> cases out <;> first | exact f.elim | skip
  · exact wpAny_mono (Run.run q R F' s1 p') (fun fl s2 h2 => h2.pre u le) fun _ _ e => e
  · exact ⟨.brk, δ', P', F', u, le, p', f, q⟩
  · exact ⟨.cont, δ', P', F', u, le, p', f, q⟩
  · exact ⟨.ret _, δ', P', F', u, le, p', f, q⟩
theorem Run.mono {ss : List Stmt} {Q Q' : OQ} (h : Run C δ P ss Q) (hq : ∀ o d p, Q o d p → Q' o d p) : Run C δ P ss Q' := by
  refine ⟨fun R F s p => ?_⟩
  refine wpAny_mono (h.run R F s p) (fun fl s1 h1 => ?_) fun _ _ e => e
  obtain ⟨out, δ', P', F', u, le, p', f, q⟩ := h1
  exact ⟨out, δ', P', F', u, le, p', f, hq _ _ _ q⟩
/-- ghost steps -/
theorem Run.cov {δ' : VM} {ss : List Stmt} {Q : OQ} (hc : Cov δ δ') (h : Run C δ' P ss Q) : Run C δ P ss Q := ⟨fun R F s p => h.run R F s (p.cov hc)⟩
theorem Run.drop {P' : MM} {ss : List Stmt} {Q : OQ} (hs : P'.Sublist P) (h : Run C δ P' ss Q) : Run C δ P ss Q := ⟨fun R F s p => h.run R F s (p.drop (hs.append (List.Sublist.refl _)))⟩
theorem Run.perm {P' : MM} {ss : List Stmt} {Q : OQ} (hs : P.Perm P') (h : Run C δ P' ss Q) : Run C δ P ss Q := ⟨fun R F s p => h.run R F s (p.perm (hs.append_right _))⟩
theorem Run.freeze {x : Str} {a : Addr} {m : MD} {d : Dat} {ss : List Stmt} {Q : OQ} (hx : look δ x = some (.ex (.ref a))) (hd : m.dat = some d) (h : Run C ((x, d) :: δ) P ss Q) (hin : C.inner = false := by rfl) : Run C δ ((a, m) :: P) ss Q := by
  refine ⟨fun R F s p => ?_⟩
  obtain ⟨F', le, p', e⟩ := Pre.freeze (P := P ++ R) p (p.own hin a (P_mem (C := C) (List.Mem.head _))) hd
  have p2 : Pre C ((x, d) :: δ) (P ++ R) F' s.heap := by
    obtain ⟨mm, hn, hv⟩ := p'.vars
    refine { p' with vars := ⟨mm, hn, fun y d' q => ?_⟩ }
    unfold look at q
    by_cases z : x = y
    · rw [if_pos z] at q; cases q; subst z
      obtain ⟨u, a1, a2⟩ := hv x _ hx
      cases a2
      exact ⟨_, a1, e⟩
    · rw [if_neg z] at q; exact hv y d' q
  exact wpAny_mono (h.run R F' s p2) (fun fl s2 h2 => h2.pre ⟨s.heap, s.toks, rfl⟩ le) fun _ _ e => e

theorem Ex.assign {x : Str} {px pos : Pos} {e : Expr} {d : Dat} {Q : OQ} (c : COk C mg mb n) (hx : IsVar C x) (he : Ev C δ P e d) (hq : Q .next ((x, d) :: δ) P)
    (hs : swapsWith e (some (.Name x px)) pos.line C.env = pure false := by rfl) : Ex C δ P (.Assign [.Name x px] e pos) Q := by
  refine ⟨fun R F s p => ?_⟩
  refine wpAny_Assign_Name ?_ hs
  refine wpAny_mono (he.run R F s p) (fun v s1 h1 => ?_) fun _ _ e => e
  obtain ⟨F1, g1, e1⟩ := h1
  refine wpAny_mono (store c (p.gv g1) hx e1) (fun _ s2 h2 => ?_) fun _ _ e => e
  exact ⟨.next, _, P, F1, upd_trans g1.upd h2.1, g1.le, h2.2, trivial, hq⟩
/-- e makes a new object -/
structure EvN (C : Cx) (δ : VM) (P : MM) (e : Expr) (m : MD) : Prop where
  run : ∀ R F s, Pre C δ (P ++ R) F s.heap →
  wpAny (MG C) C.A (eval e C.env) (fun v s' => ∃ F' a, v = .ref a ∧ Gv F s F' s' ∧ MDen C.w F' s'.heap a m ∧ s.heap.get? a = none ∧ F' a = none) NoE s
theorem EvN.ev {e : Expr} {m : MD} {d : Dat} (h : EvN C δ P e m) (hd : m.dat = some d) : Ev C δ P e d := by
  refine ⟨fun R F s p => ?_⟩
  refine wpAny_mono (h.run R F s p) (fun v s1 h1 => ?_) fun _ _ e => e
  obtain ⟨F', a, rfl, g, hm, ha, hF⟩ := h1
  obtain ⟨o, ho, hf⟩ := hm.freeze hd
  refine ⟨F'.add a o, ⟨g.upd, g.keep, g.le.trans (FH.add_le hF), fun b o' e => ?_, fun b o' e => ?_⟩, hf _ (FH.add_le hF) (FH.add_self ..)⟩
  · rcases FH.add_cases e with ⟨rfl, rfl⟩ | z
    · exact ho
    · exact g.sub b o' z
  · rcases FH.add_cases e with ⟨rfl, rfl⟩ | z
    · exact .inr ha
    · exact g.fresh b o' z
theorem Ex.assignN {x : Str} {px pos : Pos} {e : Expr} {m : MD} {Q : OQ} (c : COk C mg mb n) (hx : IsVar C x) (he : EvN C δ P e m) (hq : ∀ a, Q .next ((x, .ex (.ref a)) :: δ) ((a, m) :: P))
    (hs : swapsWith e (some (.Name x px)) pos.line C.env = pure false := by rfl) : Ex C δ P (.Assign [.Name x px] e pos) Q := by
  refine ⟨fun R F s p => ?_⟩
  refine wpAny_Assign_Name ?_ hs
  refine wpAny_mono (he.run R F s p) (fun v s1 h1 => ?_) fun _ _ e => e
  obtain ⟨F1, a, rfl, g1, hm, ha, hF⟩ := h1
  have p1 : Pre C δ (((a, m) :: P) ++ R) F1 s1.heap := Pre.alloc (P := P ++ R) p g1 hm ha hF
  refine wpAny_mono (store c p1 hx (.ex (.ref a))) (fun _ s2 h2 => ?_) fun _ _ e => e
  exact ⟨.next, _, _, F1, upd_trans g1.upd h2.1, g1.le, h2.2, trivial, hq a⟩
theorem Ex.if_ {t : Expr} {a b : List Stmt} {pos : Pos} {r : Bool} {Q : OQ} (h : Tr C δ P t r) (h1 : r = true → Run C δ P a Q) (h2 : r = false → Run C δ P b Q) : Ex C δ P (.If t a b pos) Q := by
  refine ⟨fun R F s p => ?_⟩
  refine wpAny_If (wpAny_mono (h.run R F s p) (fun r s1 q => ?_) fun _ _ e => e)
  obtain ⟨rfl, F1, g1⟩ := q
  cases hb : r with
  | true => exact wpAny_mono ((h1 hb).run R F1 s1 (p.gv g1)) (fun fl s2 h2 => h2.pre g1.upd g1.le) fun _ _ e => e
  | false => exact wpAny_mono ((h2 hb).run R F1 s1 (p.gv g1)) (fun fl s2 h2 => h2.pre g1.upd g1.le) fun _ _ e => e
theorem Ex.ret {e : Expr} {pos : Pos} {d : Dat} {Q : OQ} (h : Ev C δ P e d) (hq : Q (.ret d) δ P) : Ex C δ P (.Return (some e) pos) Q := by
  refine ⟨fun R F s p => ?_⟩
  refine wpAny_Return_some (wpAny_mono (h.run R F s p) (fun v s1 h1 => ?_) fun _ _ e => e)
  obtain ⟨F1, g1, e1⟩ := h1
  exact ⟨.ret d, δ, P, F1, g1.upd, g1.le, p.gv g1, e1, hq⟩
end
end Mine

namespace Mine
/-- what one step of an iterator does: only ws is changed -/
structure ItStep (ws : List Addr) (F : FH) (s : Shared) (F' : FH) (s' : Shared) : Prop where
  upd : ∃ h' tk, s' = { s with heap := h', toks := tk }
  keep : ∀ a o, a ∉ ws → s.heap.get? a = some o → s'.heap.get? a = some o
  le : Le F F'
  sub : Sub F' s'.heap
  fresh : ∀ a o, F' a = some o → F a = some o ∨ s.heap.get? a = none

/-- an iterator: St i: i items are taken; Dp: what it walks over stands -/
structure ItP (C : Cx) (tgt : Expr) (I : Addr) (ws : List Addr) (xs : List Dat) (St : Nat → FH → Heap → Prop) (Dp : FH → Heap → Prop) (sf : Prop) : Prop where
  self : sf → ∀ i F s (Q : Value → Shared → Prop), St i F s.heap → Q (.ref I) s → wpAny (MG C) C.A (pyIter (.ref I)) Q NoE s
  frame : ∀ i F h F' h', St i F h → (∀ a ∈ ws, ∀ o, h.get? a = some o → h'.get? a = some o) → Le F F' → Sub F' h' → St i F' h'
  has : ∀ i F h, St i F h → ∀ a ∈ ws, ∃ o, h.get? a = some o
  next : ∀ i d F s, xs[i]? = some d → St i F s.heap → Dp F s.heap → Sub F s.heap → (∀ a ∈ ws, F a = none) →
    wpAny (MG C) C.A (pyNext (.ref I)) (fun r s1 => ∃ v, r = some v ∧ wpAny (MG C) C.A (letOwnedTupleGo tgt (.ref I) v) (fun _ s2 => ∃ F', ItStep ws F s F' s2 ∧ Den C.w F' v d ∧ St (i + 1) F' s2.heap) NoE s1) NoE s
  done : ∀ F s, St xs.length F s.heap → Dp F s.heap → Sub F s.heap → (∀ a ∈ ws, F a = none) → wpAny (MG C) C.A (pyNext (.ref I)) (fun r s1 => r = none ∧ ItStep ws F s F s1) NoE s

def rawsOf (h : Heap) (ws : List Addr) : MM := ws.map fun a => (a, MD.raw ((h.get? a).getD default))
theorem rawsOf_keys (h : Heap) (ws : List Addr) : (rawsOf h ws).map (·.1) = ws := by
  unfold rawsOf
  rw [List.map_map]
  show ws.map id = ws
  exact List.map_id _
theorem muts_append (C : Cx) (P Q : MM) (b : Addr) : b ∈ muts C (P ++ Q) ↔ b ∈ muts C P ∨ b ∈ Q.map (·.1) := by
  unfold muts
  simp only [List.map_append, List.mem_cons, List.mem_append]
  constructor
  · rintro (h | h | h | h)
    · exact .inl (.inl h)
    · exact .inl (.inr (.inl h))
    · exact .inl (.inr (.inr h))
    · exact .inr h
  · rintro ((h | h | h) | h)
    · exact .inl h
    · exact .inr (.inl h)
    · exact .inr (.inr (.inl h))
    · exact .inr (.inr (.inr h))
section
variable {C : Cx} {δ : VM} {P R : MM} {mg mb : Str → Option Value} {n : Nat}
/-- a step of an iterator keeps the state; ws are raw entries -/
theorem Pre.itstep {ws : List Addr} {F F' : FH} {s s' : Shared} (p : Pre C δ (P ++ (rawsOf s.heap ws ++ R)) F s.heap) (st : ItStep ws F s F' s') (hw : ∀ a ∈ ws, ∃ o, s'.heap.get? a = some o) (h0w : ∀ a ∈ ws, C.h0.get? a = none) :
    Pre C δ (P ++ (rawsOf s'.heap ws ++ R)) F' s'.heap := by
  have hk : muts C (P ++ (rawsOf s'.heap ws ++ R)) = muts C (P ++ (rawsOf s.heap ws ++ R)) := by
    unfold muts; simp only [List.map_append, rawsOf_keys]
  have nd := p.nodup
  have hwm : ∀ a ∈ ws, a ∈ muts C (P ++ (rawsOf s.heap ws ++ R)) := fun a ha => by
    rw [muts_append, List.map_append, rawsOf_keys]; exact .inr (List.mem_append_left _ ha)
  have nd' : (C.env.locals :: (C.env.cells.map (·.2) ++ (P.map (·.1) ++ (ws ++ R.map (·.1))))).Nodup := by
    have := nd; unfold muts at this; simpa only [List.map_append, rawsOf_keys] using this
  have hloc : C.env.locals ∉ ws := fun z => by
    rw [List.nodup_cons] at nd'
    exact nd'.1 (List.mem_append_right _ (List.mem_append_right _ (List.mem_append_left _ z)))
  have hcell : ∀ q ∈ C.env.cells, q.2 ∉ ws := fun q hq z => by
    rw [List.nodup_cons, List.nodup_append] at nd'
    exact nd'.2.2.2 q.2 (List.mem_map.mpr ⟨q, hq, rfl⟩) q.2 (List.mem_append_right _ (List.mem_append_left _ z)) rfl
  have hP : ∀ q ∈ P, q.1 ∉ ws := fun q hq z => by
    rw [List.nodup_cons, List.nodup_append, List.nodup_append] at nd'
    exact nd'.2.2.1.2.2 q.1 (List.mem_map.mpr ⟨q, hq, rfl⟩) q.1 (List.mem_append_left _ z) rfl
  have hR : ∀ q ∈ R, q.1 ∉ ws := fun q hq z => by
    rw [List.nodup_cons, List.nodup_append, List.nodup_append, List.nodup_append] at nd'
    exact nd'.2.2.1.2.1.2.2 q.1 z q.1 (List.mem_map.mpr ⟨q, hq, rfl⟩) rfl
  obtain ⟨m, hn, hv⟩ := p.vars
  refine { base := fun b o e => st.keep b o (fun z => ?_) (p.base b o e), sub := st.sub, le0 := p.le0.trans st.le, fresh := fun a o e => ?_, vars := ⟨m, hn.at fun o e => st.keep _ _ hloc e, fun x d e => ?_⟩, cells := fun q hq => ?_, muta := fun q hq => ?_, nodup := hk ▸ nd, notF := fun a ha => ?_, own := fun hi a ha => p.own hi a (hk ▸ ha), ownL := p.ownL }
  · rw [h0w b z] at e; cases e
  · rcases st.fresh a o e with z | z
    · exact p.fresh a o z
    · cases y : C.h0.get? a with
      | none => exact .inr rfl
      | some o' => rw [p.base a o' y] at z; cases z
  · obtain ⟨v, a1, a2⟩ := hv x d e
    refine ⟨v, ?_, a2.mono st.le⟩
    rcases a1 with k | ⟨k1, c, k2, o, k3, k4⟩
    · exact .inl k
    · exact .inr ⟨k1, c, k2, o, st.keep _ _ (hcell _ (lookup_mem k2)) k3, k4⟩
  · obtain ⟨v, o, e1, e2⟩ := p.cells q hq
    exact ⟨v, o, st.keep _ _ (hcell q hq) e1, e2⟩
  · rcases List.mem_append.mp hq with hq | hq
    · exact (p.muta q (List.mem_append_left _ hq)).le st.le fun o e => st.keep _ _ (hP q hq) e
    · rcases List.mem_append.mp hq with hq | hq
      · unfold rawsOf at hq
        obtain ⟨a, ha, rfl⟩ := List.mem_map.mp hq
        obtain ⟨o, e⟩ := hw a ha
        show s'.heap.get? a = some ((s'.heap.get? a).getD default)
        rw [e]; rfl
      · exact (p.muta q (List.mem_append_right _ (List.mem_append_right _ hq))).le st.le fun o e => st.keep _ _ (hR q hq) e
  · rw [hk] at ha
    cases z : F' a with
    | none => rfl
    | some o =>
      rcases st.fresh a o z with y | y
      · rw [p.notF a ha] at y; cases y
      · obtain ⟨o', e⟩ := p.mutSome a ha
        rw [e] at y; cases y
/-- raw entries of another heap, where these objects are the same -/
theorem rawsOf_eq {h h' : Heap} {ws : List Addr} (hw : ∀ a ∈ ws, ∃ o, h.get? a = some o ∧ h'.get? a = some o) : rawsOf h' ws = rawsOf h ws := by
  unfold rawsOf
  refine List.map_congr_left fun a ha => ?_
  obtain ⟨o, e1, e2⟩ := hw a ha
  rw [e1, e2]
/-- the raw entries stand -/
theorem Pre.raws {ws : List Addr} {F : FH} {h h' : Heap} (p : Pre C δ (P ++ (rawsOf h ws ++ R)) F h') (hw : ∀ a ∈ ws, ∃ o, h.get? a = some o) : ∀ a ∈ ws, ∀ o, h.get? a = some o → h'.get? a = some o := by
  intro a ha o e
  have := p.muta (a, MD.raw ((h.get? a).getD default)) (List.mem_append_right _ (List.mem_append_left _ (List.mem_map.mpr ⟨a, ha, rfl⟩)))
  rw [e] at this
  exact this

/-- assigning a datum to a target -/
structure Asg (C : Cx) (tgt : Expr) (d : Dat) (δ δ' : VM) : Prop where
  run : ∀ P F s v, Pre C δ P F s.heap → Den C.w F v d →
  wpAny (MG C) C.A (assign tgt C.env v) (fun _ s' => ∃ F', (∃ h' tk, s' = { s with heap := h', toks := tk }) ∧ Le F F' ∧ Pre C δ' P F' s'.heap) NoE s
theorem Asg.name {x : Str} {px : Pos} {d : Dat} (c : COk C mg mb n) (hx : IsVar C x) : Asg C (.Name x px) d δ ((x, d) :: δ) := by
  refine ⟨fun P F s v p hd => ?_⟩
  exact wpAny_assign_Name (wpAny_mono (store c p hx hd) (fun _ s' h => ⟨F, h.1, Le.refl _, h.2⟩) fun _ _ e => e)
theorem tup2 {w : World} {F : FH} {v : Value} {a b : Dat} (h : Den w F v (.tup [a, b])) : ∃ t o n x y, v = .ref t ∧ F t = some o ∧ o.cls = .type "tuple" ∧ o.data = .seq #[x, y] n ∧ Den w F x a ∧ Den w F y b := by
  cases h with
  | @tup t o vs n _ ht hc hd hl hx =>
    obtain ⟨l⟩ := vs
    match l, hl with
    | [x, y], _ => exact ⟨t, o, n, x, y, rfl, ht, hc, hd, hx 0 x a rfl rfl, hx 1 y b rfl rfl⟩
theorem tup3 {w : World} {F : FH} {v : Value} {a b c : Dat} (h : Den w F v (.tup [a, b, c])) : ∃ t o n x y z, v = .ref t ∧ F t = some o ∧ o.cls = .type "tuple" ∧ o.data = .seq #[x, y, z] n ∧ Den w F x a ∧ Den w F y b ∧ Den w F z c := by
  cases h with
  | @tup t o vs n _ ht hc hd hl hx =>
    obtain ⟨l⟩ := vs
    match l, hl with
    | [x, y, z], _ => exact ⟨t, o, n, x, y, z, rfl, ht, hc, hd, hx 0 x a rfl rfl, hx 1 y b rfl rfl, hx 2 z c rfl rfl⟩
theorem Asg.tup2 {x y : Str} {px py pos : Pos} {k : Nat} {a b : Dat} (c : COk C mg mb n) (hx : IsVar C x) (hy : IsVar C y) : Asg C (.Tuple [.Name x px, .Name y py] k pos) (.tup [a, b]) δ ((y, b) :: (x, a) :: δ) := by
  refine ⟨fun P F s v p hd => ?_⟩
  obtain ⟨t, o, n, u1, u2, rfl, ht, hc, hdt, e1, e2⟩ := Mine.tup2 hd
  refine wpAny_assign_Tuple c.ar.hh ⟨o, p.sub _ _ ht, hc, n, hdt⟩ rfl rfl fun h' hx' => ?_
  have g : Gv F s F { s with heap := h' } := Gv.same (tk := s.toks) p.sub fun b o e => hx' b o (Nat.ne_of_lt (Heap.lt_size e)) e
  have p1 := p.gv g
  show wpAny _ _ (do holding [u2] (assign (.Name x px) C.env u1); do holding [] (assign (.Name y py) C.env u2); pure ()) _ _ _
  refine wpAny_bind (wpAny_holding (wpAny_assign_Name (wpAny_mono (store c p1 hx e1) (fun _ s2 h2 => ?_) fun _ _ e => e)))
  refine wpAny_bind (wpAny_holding (wpAny_assign_Name (wpAny_mono (store c h2.2 hy e2) (fun _ s3 h3 => wpAny_pure ?_) fun _ _ e => e)))
  exact ⟨F, upd_trans (upd_trans g.upd h2.1) h3.1, Le.refl _, h3.2⟩
theorem Asg.tup3 {x y z : Str} {px py pz pos : Pos} {k : Nat} {a b d : Dat} (c : COk C mg mb n) (hx : IsVar C x) (hy : IsVar C y) (hz : IsVar C z) :
    Asg C (.Tuple [.Name x px, .Name y py, .Name z pz] k pos) (.tup [a, b, d]) δ ((z, d) :: (y, b) :: (x, a) :: δ) := by
  refine ⟨fun P F s v p hd => ?_⟩
  obtain ⟨t, o, n, u1, u2, u3, rfl, ht, hc, hdt, e1, e2, e3⟩ := Mine.tup3 hd
  refine wpAny_assign_Tuple c.ar.hh ⟨o, p.sub _ _ ht, hc, n, hdt⟩ rfl rfl fun h' hx' => ?_
  have g : Gv F s F { s with heap := h' } := Gv.same (tk := s.toks) p.sub fun b o e => hx' b o (Nat.ne_of_lt (Heap.lt_size e)) e
  have p1 := p.gv g
  show wpAny _ _ (do holding [u2, u3] (assign (.Name x px) C.env u1); do holding [u3] (assign (.Name y py) C.env u2); do holding [] (assign (.Name z pz) C.env u3); pure ()) _ _ _
  refine wpAny_bind (wpAny_holding (wpAny_assign_Name (wpAny_mono (store c p1 hx e1) (fun _ s2 h2 => ?_) fun _ _ e => e)))
  refine wpAny_bind (wpAny_holding (wpAny_assign_Name (wpAny_mono (store c h2.2 hy e2) (fun _ s3 h3 => ?_) fun _ _ e => e)))
  refine wpAny_bind (wpAny_holding (wpAny_assign_Name (wpAny_mono (store c h3.2 hz e3) (fun _ s4 h4 => wpAny_pure ?_) fun _ _ e => e)))
  exact ⟨F, upd_trans (upd_trans (upd_trans g.upd h2.1) h3.1) h4.1, Le.refl _, h4.2⟩

/-- e is walked: its iterator -/
structure IterOf (C : Cx) (δ : VM) (P : MM) (tgt e : Expr) (xs : List Dat) (HD : VM → MM → Prop) (sf : Prop) : Prop where
  run : ∀ R F s, Pre C δ (P ++ R) F s.heap →
  wpAny (MG C) C.A (eval e C.env) (fun x s1 => wpAny (MG C) C.A (pyIter x) (fun it s2 => ∃ I ws St Dp F', it = .ref I ∧ ItP C tgt I ws xs St Dp sf ∧ Gv F s F' s2 ∧ St 0 F' s2.heap ∧ ws.Nodup ∧ (∀ a ∈ ws, s.heap.get? a = none) ∧ (∀ a ∈ ws, F' a = none) ∧
    (∀ δi Pi R' Fi h, HD δi Pi → Pre C δi (Pi ++ R') Fi h → Le F' Fi → Dp Fi h)) NoE s1) NoE s
theorem addRaws {ws : List Addr} {F F' : FH} {s s' : Shared} (p : Pre C δ (P ++ R) F s.heap) (g : Gv F s F' s') (nd : ws.Nodup) (hw : ∀ a ∈ ws, s.heap.get? a = none) (hF : ∀ a ∈ ws, F' a = none) (hh : ∀ a ∈ ws, ∃ o, s'.heap.get? a = some o) :
    Pre C δ (P ++ (rawsOf s'.heap ws ++ R)) F' s'.heap := by
  have q := p.gv g
  have hnot : ∀ a ∈ ws, a ∉ muts C (P ++ R) := fun a ha z => by
    obtain ⟨o, e⟩ := p.mutSome a z
    rw [hw a ha] at e; cases e
  have hperm : (P ++ (rawsOf s'.heap ws ++ R)).Perm (rawsOf s'.heap ws ++ (P ++ R)) := by
    rw [← List.append_assoc, ← List.append_assoc]
    exact (List.perm_append_comm).append_right _
  have hm : ∀ b, b ∈ muts C (rawsOf s'.heap ws ++ (P ++ R)) ↔ b ∈ ws ∨ b ∈ muts C (P ++ R) := fun b => by
    unfold muts
    simp only [List.map_append, rawsOf_keys, List.mem_cons, List.mem_append]
    constructor
    · rintro (h | h | h | h | h)
      · exact .inr (.inl h)
      · exact .inr (.inr (.inl h))
      · exact .inl h
      · exact .inr (.inr (.inr (.inl h)))
      · exact .inr (.inr (.inr (.inr h)))
    · rintro (h | h | h | h | h)
      · exact .inr (.inr (.inl h))
      · exact .inl h
      · exact .inr (.inl h)
      · exact .inr (.inr (.inr (.inl h)))
      · exact .inr (.inr (.inr (.inr h)))
  refine Pre.perm (P := rawsOf s'.heap ws ++ (P ++ R)) ?_ hperm.symm
  refine { q with muta := fun r hr => ?_, nodup := ?_, notF := fun b hb => ?_, own := fun hi b hb => ?_ }
  · rcases List.mem_append.mp hr with hr | hr
    · unfold rawsOf at hr
      obtain ⟨a, ha, rfl⟩ := List.mem_map.mp hr
      obtain ⟨o, e⟩ := hh a ha
      show s'.heap.get? a = some ((s'.heap.get? a).getD default)
      rw [e]; rfl
    · exact q.muta r hr
  · have e : (muts C (rawsOf s'.heap ws ++ (P ++ R))).Perm (ws ++ muts C (P ++ R)) := by
      unfold muts
      rw [List.map_append, rawsOf_keys]
      refine List.Perm.trans (List.Perm.cons _ ?_) List.perm_middle.symm
      rw [← List.append_assoc, ← List.append_assoc]
      exact (List.perm_append_comm).append_right _
    refine e.nodup_iff.mpr (List.nodup_append.mpr ⟨nd, q.nodup, fun a ha b hb z => hnot a ha (z ▸ hb)⟩)
  · rcases (hm b).mp hb with z | z
    · exact hF b z
    · exact q.notF b z
  · rcases (hm b).mp hb with z | z
    · cases e : C.h0.get? b with
      | none => rfl
      | some o => have := hw b z; rw [p.base b o e] at this; cases this
    · exact q.own hi b z

/-- a for loop -/
theorem Ex.for_ {tgt e : Expr} {body : List Stmt} {pos : Pos} {xs : List Dat} {HD : VM → MM → Prop} {sf : Prop} {Q : OQ} (hi : IterOf C δ P tgt e xs HD sf) (J : Nat → VM → MM → Prop) (hJ : ∀ i δi Pi, J i δi Pi → HD δi Pi) (h0 : J 0 δ P)
    (turn : ∀ i d δi Pi, xs[i]? = some d → J i δi Pi → ∃ δ1, Asg C tgt d δi δ1 ∧ Run C δ1 Pi body (fun out δ' P' => (out = .next ∨ out = .cont) ∧ J (i + 1) δ' P'))
    (done : ∀ δi Pi, J xs.length δi Pi → Q .next δi Pi) (hs : ∀ x, foldedSetIterable e C.env x = pure x := by intro _; rfl) : Ex C δ P (.For tgt e body [] pos) Q := by
  refine ⟨fun R F s p => ?_⟩
  refine wpAny_For (wpAny_mono (hi.run R F s p) (fun x s1 h1 => wpAny_mono h1 (fun it s2 h2 => ?_) fun _ _ e => e) fun _ _ e => e) hs
  obtain ⟨I, ws, St, Dp, F1, rfl, W, g, st, nd, hw, hF, hdp⟩ := h2
  have p2 := addRaws p g nd hw hF (W.has _ _ _ st)
  have h0w : ∀ a ∈ ws, C.h0.get? a = none := fun a ha => by
    cases e : C.h0.get? a with
    | none => rfl
    | some o => have := hw a ha; rw [p.base a o e] at this; cases this
  refine codeAny_forLoop_any (fun k s' => ∃ i δi Pi Fi, k = xs.length + 1 - i ∧ i ≤ xs.length ∧ (∃ h' tk, s' = { s with heap := h', toks := tk }) ∧ Le F1 Fi ∧ Pre C δi (Pi ++ (rawsOf s'.heap ws ++ R)) Fi s'.heap ∧ J i δi Pi ∧ St i Fi s'.heap) ?_ (xs.length + 1)
    ⟨0, δ, P, F1, rfl, Nat.zero_le _, g.upd, Le.refl _, p2, h0, st⟩
  rintro k s' ⟨i, δi, Pi, Fi, rfl, hle, hu, le, pi, hji, sti⟩
  have hFw : ∀ a ∈ ws, Fi a = none := fun a ha => pi.notF a (by rw [muts_append, List.map_append, rawsOf_keys]; exact .inr (List.mem_append_left _ ha))
  have dp := hdp δi Pi _ Fi s'.heap (hJ _ _ _ hji) pi le
  by_cases hlt : i < xs.length
  · have hx : xs[i]? = some xs[i] := by simp [hlt]
    refine wpAny_mono (W.next i xs[i] Fi s' hx sti dp pi.sub hFw) (fun r s3 h3 => ?_) fun _ _ e => e.elim
    obtain ⟨v, rfl, h3⟩ := h3
    refine wpAny_mono h3 (fun _ s4 h4 => ?_) fun _ _ e => e.elim
    obtain ⟨F4, stp, hd, st4⟩ := h4
    have p4 := pi.itstep stp (W.has _ _ _ st4) h0w
    obtain ⟨δ1, asg, run⟩ := turn i xs[i] δi Pi hx hji
    refine wpAny_mono (asg.run _ F4 s4 v p4 hd) (fun _ s5 h5 => ?_) fun _ _ e => e.elim
    obtain ⟨F5, u5, le5, p5⟩ := h5
    refine wpAny_mono (run.run _ F5 s5 p5) (fun fl s6 h6 => ?_) fun _ _ e => e.elim
    obtain ⟨out, δ', P', F6, u6, le6, p6, fo, ho, hj⟩ := h6
    have fin : ∃ m, m < xs.length + 1 - i ∧ ∃ i δi Pi Fi, m = xs.length + 1 - i ∧ i ≤ xs.length ∧ (∃ h' tk, s6 = { s with heap := h', toks := tk }) ∧ Le F1 Fi ∧ Pre C δi (Pi ++ (rawsOf s6.heap ws ++ R)) Fi s6.heap ∧ J i δi Pi ∧ St i Fi s6.heap := by
      have same := p6.raws (W.has _ _ _ st4)
      refine ⟨xs.length + 1 - (i + 1), by omega, i + 1, δ', P', F6, rfl, hlt, upd_trans hu (upd_trans stp.upd (upd_trans u5 u6)), le.trans (stp.le.trans (le5.trans le6)), ?_, hj, W.frame _ _ _ _ _ st4 same (le5.trans le6) p6.sub⟩
      rw [rawsOf_eq fun a ha => by obtain ⟨o, e⟩ := W.has _ _ _ st4 a ha; exact ⟨o, e, same a ha o e⟩]
      exact p6
    rcases ho with rfl | rfl
    · cases fl <;> first | exact fo.elim | exact fin
    · cases fl <;> first | exact fo.elim | exact fin
  · have hi' : i = xs.length := by omega
    subst hi'
    refine wpAny_mono (W.done Fi s' sti dp pi.sub hFw) (fun r s3 h3 => ?_) fun _ _ e => e.elim
    obtain ⟨rfl, stp⟩ := h3
    refine wpAny_execs_nil ?_
    refine ⟨.next, δi, Pi, Fi, upd_trans hu stp.upd, g.le.trans le, ?_, trivial, done _ _ hji⟩
    have hd : Pre C δi (Pi ++ R) Fi s'.heap := pi.drop (List.Sublist.append (List.Sublist.refl _) (List.sublist_append_right _ _))
    have hw' : ∀ a ∈ ws, a ∉ muts C (Pi ++ R) := fun a ha z => by
      have nd' := pi.nodup
      have e : (muts C (Pi ++ (rawsOf s'.heap ws ++ R))).Perm (ws ++ muts C (Pi ++ R)) := by
        unfold muts
        rw [List.map_append, List.map_append, rawsOf_keys, List.map_append]
        refine List.Perm.trans (List.Perm.cons _ ?_) List.perm_middle.symm
        rw [← List.append_assoc, ← List.append_assoc, ← List.append_assoc, ← List.append_assoc]
        refine List.Perm.append_right _ ?_
        first
          | exact List.perm_append_comm
          | (rw [← List.append_assoc, List.append_assoc ws]; exact List.perm_append_comm)
          | (rw [List.append_assoc ws]; exact List.perm_append_comm)
      have := e.nodup_iff.mp nd'
      rw [List.nodup_append] at this
      exact this.2.2 a ha a z rfl
    obtain ⟨m, hn, hv⟩ := hd.vars
    refine { base := fun b o e => stp.keep b o (fun z => ?_) (hd.base b o e), sub := stp.sub, le0 := hd.le0, fresh := hd.fresh, vars := ⟨m, hn.at fun o e => stp.keep _ _ (fun z => hw' _ z loc_mem) e, fun x d e => ?_⟩, cells := fun q hq => ?_, muta := fun q hq => (hd.muta q hq).le (Le.refl _) fun o e => stp.keep _ _ (fun z => hw' _ z (P_mem hq)) e, nodup := hd.nodup, notF := hd.notF, own := hd.own, ownL := hd.ownL }
    · rw [h0w b z] at e; cases e
    · obtain ⟨v, a1, a2⟩ := hv x d e
      refine ⟨v, ?_, a2⟩
      rcases a1 with k | ⟨k1, c, k2, o, k3, k4⟩
      · exact .inl k
      · exact .inr ⟨k1, c, k2, o, stp.keep _ _ (fun z => hw' _ z (cell_mem (lookup_mem k2))) k3, k4⟩
    · obtain ⟨v, o, e1, e2⟩ := hd.cells q hq
      exact ⟨v, o, stp.keep _ _ (fun z => hw' _ z (cell_mem hq)) e1, e2⟩

/-- a while loop -/
theorem Ex.while_ {test : Expr} {body : List Stmt} {pos : Pos} {Q : OQ} (J : Nat → VM → MM → Prop) (k : Nat) (h0 : J k δ P)
    (turn : ∀ k δi Pi, J k δi Pi → (Tr C δi Pi test false ∧ Q .next δi Pi) ∨ (Tr C δi Pi test true ∧ Run C δi Pi body (fun out δ' P' => (out = .next ∨ out = .cont) ∧ ∃ m, m < k ∧ J m δ' P'))) : Ex C δ P (.While test body [] pos) Q := by
  refine ⟨fun R F s p => ?_⟩
  refine wpAny_While ?_
  refine codeAny_whileLoop (fun k s' => ∃ δi Pi Fi, (∃ h' tk, s' = { s with heap := h', toks := tk }) ∧ Le F Fi ∧ Pre C δi (Pi ++ R) Fi s'.heap ∧ J k δi Pi) ?_ k ⟨δ, P, F, ⟨s.heap, s.toks, rfl⟩, Le.refl _, p, h0⟩
  rintro k s' ⟨δi, Pi, Fi, hu, le, pi, hj⟩
  rcases turn k δi Pi hj with ⟨ht, hq⟩ | ⟨ht, hr⟩
  · refine wpAny_mono (ht.run R Fi s' pi) (fun r s1 h1 => ?_) fun _ _ e => e.elim
    obtain ⟨rfl, F1, g⟩ := h1
    simp only [Bool.false_eq_true, if_false]
    exact wpAny_execs_nil ⟨.next, δi, Pi, F1, upd_trans hu g.upd, le.trans g.le, pi.gv g, trivial, hq⟩
  · refine wpAny_mono (ht.run R Fi s' pi) (fun r s1 h1 => ?_) fun _ _ e => e.elim
    obtain ⟨rfl, F1, g⟩ := h1
    simp only [if_true]
    refine wpAny_mono (hr.run R F1 s1 (pi.gv g)) (fun fl s6 h6 => ?_) fun _ _ e => e.elim
    obtain ⟨out, δ', P', F6, u6, le6, p6, fo, ho, m, hm, hj'⟩ := h6
    have fin : ∃ m, m < k ∧ ∃ δi Pi Fi, (∃ h' tk, s6 = { s with heap := h', toks := tk }) ∧ Le F Fi ∧ Pre C δi (Pi ++ R) Fi s6.heap ∧ J m δi Pi :=
      ⟨m, hm, δ', P', F6, upd_trans hu (upd_trans g.upd u6), le.trans (g.le.trans le6), p6, hj'⟩
    rcases ho with rfl | rfl
    · cases fl <;> first | exact fo.elim | exact fin
    · cases fl <;> first | exact fo.elim | exact fin
end
end Mine

namespace Mine
section
variable {C : Cx} {δ : VM} {P : MM} {mg mb : Str → Option Value} {n : Nat}

def EvL (C : Cx) (δ : VM) (P : MM) : List Expr → List Dat → Prop
  | [], [] => True
  | e :: es, d :: ds => Ev C δ P e d ∧ EvL C δ P es ds
  | _, _ => False
def PlainArgs (C : Cx) (es : List Expr) : Prop := starEach es C.env = es.map fun e => (false, eval e C.env)
theorem backTo_plain {es : List Expr} {env : Env} {pos : Pos} : backTo pos (es.map fun e => (false, eval e env)) = es.map fun e => (false, eval e env) := by
  unfold backTo
  rw [List.map_map]
  exact List.map_congr_left fun e _ => rfl
theorem spl_ev {R : MM} : ∀ {es : List Expr} {ds : List Dat}, EvL C δ P es ds → ∀ {F : FH} {s : Shared}, Pre C δ (P ++ R) F s.heap →
    wpAny (MG C) C.A (spliced (es.map fun e => (false, eval e C.env))) (fun vs s' => ∃ F', Gv F s F' s' ∧ DenL C.w F' vs ds) NoE s
  | [], [], _, F, s, p => PySem.Calls.spliced_nil ⟨F, Gv.refl p.sub, trivial⟩
  | e :: es, d :: ds, h, F, s, p => by
    refine PySem.Calls.spliced_cons (wpAny_mono (h.1.run R F s p) (fun v s1 h1 => ?_) fun _ _ e => e)
    obtain ⟨F1, g1, e1⟩ := h1
    refine wpAny_mono (spl_ev (R := R) h.2 (p.gv g1)) (fun vs s2 h2 => ?_) fun _ _ e => e
    obtain ⟨F2, g2, e2⟩ := h2
    exact ⟨F2, g1.trans g2, e1.mono g2.le, e2⟩

/-- displays -/
theorem fresh_F {F : FH} {h : Heap} (hs : Sub F h) {a : Addr} (ha : h.get? a = none) : F a = none := by
  cases z : F a with
  | none => rfl
  | some o => rw [hs a o z] at ha; cases ha
theorem EvN.list {es : List Expr} {pos : Pos} {ds : List Dat} (h : EvL C δ P es ds) (hl : ds.length ≤ sizeLine) (hp : PlainArgs C es := by rfl) : EvN C δ P (.List es pos) (.list ds) := by
  refine ⟨fun R F s p => ?_⟩
  refine wpAny_List ?_
  rw [hp, backTo_plain]
  refine wpAny_mono (spl_ev h p) (fun vs s1 h1 => ?_) fun _ _ e => e
  obtain ⟨F1, g1, e1⟩ := h1
  have e := e1.els
  have g2 : Gv F1 s1 F1 { s1 with heap := s1.heap.push { cls := .type "list", data := .seq vs.toArray } } := Gv.same (tk := s1.toks) g1.sub fun b o e => Heap.get?_push_of_some _ e
  have hn := fresh_none s1.heap (Nat.le_refl s1.heap.objs.size)
  refine ⟨by have := e.1; simp at this; omega, F1, _, rfl, g1.trans g2, ⟨vs.toArray, ⟨0, Heap.get?_push_size _ rfl⟩, e⟩, ?_, fresh_F g1.sub hn⟩
  cases z : s.heap.get? s1.heap.objs.size with
  | none => rfl
  | some o => rw [g1.keep _ _ z] at hn; cases hn
theorem Ev.list {es : List Expr} {pos : Pos} {ds : List Dat} (h : EvL C δ P es ds) (hl : ds.length ≤ sizeLine) (hp : PlainArgs C es := by rfl) : Ev C δ P (.List es pos) (.list ds) := (EvN.list h hl hp).ev rfl
theorem Ev.tup {es : List Expr} {k : Nat} {pos : Pos} {ds : List Dat} (h : EvL C δ P es ds) (hl : ds.length ≤ sizeLine) (hp : PlainArgs C es := by rfl) : Ev C δ P (.Tuple es k pos) (.tup ds) := by
  refine ⟨fun R F s p => ?_⟩
  refine wpAny_Tuple ?_
  rw [hp, backTo_plain]
  refine wpAny_mono (spl_ev h p) (fun vs s1 h1 => ?_) fun _ _ e => e
  obtain ⟨F1, g1, e1⟩ := h1
  have e := e1.els
  have hn := fresh_none s1.heap (Nat.le_refl s1.heap.objs.size)
  have g2 := Gv.add (s := s1) (tk := s1.toks) (a := s1.heap.objs.size) (o := { cls := .type "tuple", data := .seq vs.toArray }) (h' := s1.heap.push { cls := .type "tuple", data := .seq vs.toArray }) g1.sub (fun b o e => Heap.get?_push_of_some _ e) hn (Heap.get?_push_size _ rfl)
  exact ⟨by have := e.1; simp at this; omega, _, g1.trans g2, .tup (FH.add_self ..) rfl rfl e.1 fun i v d a b => (e.2 i v d a b).mono g2.le⟩
theorem ne_sys {s : Shared} (c : COk C mg mb n) (hb : ∀ b o, C.h0.get? b = some o → s.heap.get? b = some o) {a : Addr} (ha : s.heap.objs.size ≤ a) : (a == sysModules) = false := by
  obtain ⟨o, _, _, e, _⟩ := c.base.g
  have hlt : 3 < s.heap.objs.size := Heap.lt_size (hb _ _ e)
  rw [beq_eq_false_iff_ne]
  intro z
  exact absurd (Nat.lt_of_lt_of_le hlt ha) (by rw [z]; decide)
theorem EvN.dict0 {pos : Pos} (c : COk C mg mb n) : EvN C δ P (.Dict [] [] pos) (.dict []) := by
  refine ⟨fun R F s p => ?_⟩
  refine wpAny_Dict_empty ?_
  have hn := fresh_none s.heap (Nat.le_refl s.heap.objs.size)
  exact ⟨F, _, rfl, Gv.same (tk := s.toks) p.sub fun b o e => Heap.get?_push_of_some _ e, ⟨ne_sys c p.base (Nat.le_refl _), [], ⟨_, #[], 0, Heap.get?_push_size _ rfl, ⟨rfl, rfl, rfl⟩, rfl, by intro e he; simp at he, .nil, List.nodup_nil⟩, .nil⟩, hn, fresh_F p.sub hn⟩
theorem Ev.dict1 {k v : Expr} {pos : Pos} {i j : Int} (c : COk C mg mb n) (hk : Ev C δ P k (.int i)) (hv : Ev C δ P v (.int j)) : Ev C δ P (.Dict [some k] [v] pos) (.dict [(i, j)]) := by
  refine ⟨fun R F s p => ?_⟩
  refine wpAny_Dict_pairs (knd := knd C.w) (pairs := [(eval k C.env, do let x ← eval v C.env; standAt pos; pure x)]) rfl (by simp) (by simp) ?_
  have hn := fresh_none s.heap (Nat.le_refl s.heap.objs.size)
  have g0 : Gv F s F { s with heap := s.heap.push { cls := .type "dict", data := .dict #[] } } := Gv.same (tk := s.toks) p.sub fun b o e => Heap.get?_push_of_some _ e
  have p0 := p.gv g0
  refine evalPairs_cons (wpAny_mono (hk.run R F _ p0) (fun kv s1 h1 => ?_) fun _ _ e => e)
  obtain ⟨F1, g1, e1⟩ := h1
  cases e1
  refine wpAny_bind (wpAny_mono (hv.run R F1 _ (p0.gv g1)) (fun vv s2 h2 => wpAny_bind (wpAny_standAt (wpAny_pure ?_))) fun _ _ e => e)
  obtain ⟨F2, g2, e2⟩ := h2
  cases e2
  refine evalPairs_nil ?_
  have g02 := g0.trans (g1.trans g2)
  have hd0 : s2.heap.DictOf (knd C.w) s.heap.objs.size [] := ⟨_, #[], 0, (g1.trans g2).keep _ _ (Heap.get?_push_size _ rfl), ⟨rfl, rfl, rfl⟩, rfl, by intro e he; simp at he, .nil, List.nodup_nil⟩
  refine ⟨[(i, .int j _)], ⟨by simp [knd, intKind, Value.isInt], rfl, trivial⟩, hd0, fun h' hd hs => ?_⟩
  have hF2 : F2 s.heap.objs.size = none := by
    cases z : F2 s.heap.objs.size with
    | none => rfl
    | some o =>
      rcases (g1.trans g2).fresh _ _ z with y | y
      · rw [fresh_F p.sub hn] at y; cases y
      · rw [Heap.get?_push_size _ rfl] at y; cases y
  have hm : MDen C.w F2 h' s.heap.objs.size (.dict [(i, j)]) := ⟨ne_sys c p.base (Nat.le_refl _), _, hd, .cons .nil⟩
  obtain ⟨o, ho, hf⟩ := hm.freeze rfl
  refine ⟨F2.add s.heap.objs.size o, ⟨?_, fun b o' e => ?_, g02.le.trans (FH.add_le hF2), fun b o' e => ?_, fun b o' e => ?_⟩, hf _ (FH.add_le hF2) (FH.add_self ..)⟩
  · obtain ⟨h2, t2, rfl⟩ := g02.upd
    exact ⟨h', _, rfl⟩
  · exact hs.extBut b o' (Nat.ne_of_lt (Heap.lt_size e)) (g02.keep b o' e)
  · rcases FH.add_cases e with ⟨rfl, rfl⟩ | z
    · exact ho
    · exact hs.extBut b o' (fun q => by rw [q, hF2] at z; cases z) (g02.sub b o' z)
  · rcases FH.add_cases e with ⟨rfl, rfl⟩ | z
    · exact .inr hn
    · exact g02.fresh b o' z

/-- a call on data -/
structure CallP (C : Cx) (δ : VM) (P : MM) (f : Value) (ds : List Dat) (d : Dat) : Prop where
  run : ∀ R F s vs, Pre C δ (P ++ R) F s.heap → DenL C.w F vs ds → Gives C F s (call f vs) d
theorem any_plain {es : List Expr} {env : Env} : (es.map fun e => (false, eval e env)).any (·.1) = false := by
  induction es with
  | nil => rfl
  | cons e es ih => simp
theorem evalArgs_spl {f : Value} {es : List Expr} {Q : Args → Shared → Prop} {s : Shared} (h : wpAny (MG C) C.A (spliced (es.map fun e => (false, eval e C.env))) (fun vs s' => Q ⟨vs, []⟩ s') NoE s) :
    wpAny (MG C) C.A (evalArgs f true (es.map fun e => (false, eval e C.env)) []) Q NoE s := by
  cases es with
  | nil =>
    show wpAny (MG C) C.A (do let vs ← spliced []; pure ⟨vs, []⟩) Q NoE s
    exact wpAny_bind (wpAny_mono h (fun vs s' q => wpAny_pure q) fun _ _ e => e)
  | cons e es => exact PySem.Calls.evalArgs_plain h
end
end Mine

namespace Mine
section
variable {C : Cx} {δ : VM} {P : MM} {mg mb : Str → Option Value} {n : Nat}

theorem Ev.callB {x : Str} {np pos : Pos} {args : List Expr} {ds : List Dat} {id : String} {d : Dat} (hf : Ev C δ P (.Name x np) (.ex (.builtin id))) (ha : EvL C δ P args ds) (hc : CallP C δ P (.builtin id) ds d) (hp : PlainArgs C args := by rfl) :
    Ev C δ P (.Call (.Name x np) args [] pos) d := by
  refine ⟨fun R F s p => ?_⟩
  refine wpAny_Call_NameR (wpAny_mono (hf.run R F s p) (fun v s1 h1 => ?_) fun _ _ e => e)
  obtain ⟨F1, g1, e1⟩ := h1
  cases e1
  rw [hp, backTo_plain]
  refine PySem.Calls.callWith_builtin any_plain (evalArgs_spl (wpAny_mono (spl_ev ha (p.gv g1)) (fun vs s2 h2 => ?_) fun _ _ e => e))
  obtain ⟨F2, g2, e2⟩ := h2
  exact (hc.run R F2 s2 vs ((p.gv g1).gv g2) e2).after (g1.trans g2)
theorem Ev.callT {x : Str} {np pos : Pos} {args : List Expr} {ds : List Dat} {T : String} {d : Dat} (hf : Ev C δ P (.Name x np) (.ex (.type T))) (ha : EvL C δ P args ds) (hc : CallP C δ P (.type T) ds d) (hp : PlainArgs C args := by rfl) :
    Ev C δ P (.Call (.Name x np) args [] pos) d := by
  refine ⟨fun R F s p => ?_⟩
  refine wpAny_Call_NameR (wpAny_mono (hf.run R F s p) (fun v s1 h1 => ?_) fun _ _ e => e)
  obtain ⟨F1, g1, e1⟩ := h1
  cases e1
  rw [hp, backTo_plain]
  refine PySem.callWith_type any_plain (evalArgs_spl (wpAny_mono (spl_ev ha (p.gv g1)) (fun vs s2 h2 => ?_) fun _ _ e => e))
  obtain ⟨F2, g2, e2⟩ := h2
  exact (hc.run R F2 s2 vs ((p.gv g1).gv g2) e2).after (g1.trans g2)
/-- what a def of the top gives -/
def FnOkD (st : Stmt) (lv : Nat) (ds : List Dat) (d : Dat) : Prop :=
  match st with
  | .FunctionDef name args body _ _ _ scope _ _ _ => ∀ (w : World) (A : Around) (mg mb : Str → Option Value) (F : FH) (s : Shared) (a : Addr) (o : Obj) (pm code doc : Value) (vs : List Value), AOk A lv → Base mg mb s.heap →
      s.heap.get? a = some o → o.data = .func (PySem.Calls.docDef name args body scope pm code doc) → s.heap.CodeRec code name → Sub F s.heap → DenL w F vs ds →
      wpAny (model PG w) A (call (.ref a) vs) (fun v s' => ∃ F', Gv F s F' s' ∧ Den w F' v d) NoE s
  | _ => False
structure FnOk (st : Stmt) (lv : Nat) (ds : List Dat) (d : Dat) : Prop where
  of ::
  run : FnOkD st lv ds d
theorem AOk.mono {A : Around} {n m : Nat} (h : AOk A n) (hm : m ≤ n) : AOk A m := ⟨h.hh, by have := h.dep; omega, by have := h.un; omega⟩
theorem Ev.callF {i : Nat} {x : Str} {np pos : Pos} {args : List Expr} {ds : List Dat} {d : Dat} {lv : Nat} {ar : Arguments} {body : List Stmt} {dl : List Expr} {rt : Option Expr} {tp : List TypeParam} {sc : Scope} {ts : Option Scope} {bd : Str} {ps : Pos}
    (c : COk C mg mb n) (hst : stm i = .FunctionDef x ar body dl rt tp sc ts bd ps) (hi : i ∈ [2, 3, 6, 7, 9, 13, 15, 16]) (hk : C.env.kindOf x = some .globalImplicit) (hc : FnOk (stm i) lv ds d) (hlv : lv ≤ n) (ha : EvL C δ P args ds)
    (hp : PlainArgs C args := by rfl) (hx : (x == ("__debug__" : Str)) = false := by rfl) : Ev C δ P (.Call (.Name x np) args [] pos) d := by
  have hf := c.base.fns i hi
  replace hc := hc.run
  rw [hst] at hf hc
  obtain ⟨a, o, pm, code, doc, h1, h2, h3, h4⟩ := hf
  refine ⟨fun R F s p => ?_⟩
  refine wpAny_Call_NameR (wpAny_mono ((Ev.glob (δ := δ) (P := P) c hk h1 hx).run R F s p) (fun v s1 h5 => ?_) fun _ _ e => e)
  obtain ⟨F1, g1, e1⟩ := h5
  cases e1
  rw [hp, backTo_plain]
  refine PySem.Calls.callWith_function (o := o) (fd := PySem.Calls.docDef x ar body sc pm code doc) (evalArgs_spl (wpAny_mono (spl_ev ha (p.gv g1)) (fun vs s2 h2' => ?_) fun _ _ e => e))
  obtain ⟨F2, g2, e2⟩ := h2'
  have hb := ((p.gv g1).gv g2).base
  refine ⟨⟨hb _ _ h2, h3⟩, ?_⟩
  have hcode : s2.heap.CodeRec code x := by obtain ⟨c1, o1, vs1, t1, q1, q2, q3, q4⟩ := h4; exact ⟨c1, o1, vs1, t1, q1, hb _ _ q2, q3, q4⟩
  have := hc C.w C.A mg mb F2 s2 a o pm code doc vs (c.ar.mono hlv) (c.base.keeps hb) (hb _ _ h2) h3 hcode g2.sub e2
  exact wpAny_mono this (fun v s3 ⟨F3, g3, e3⟩ => ⟨F3, (g1.trans g2).trans g3, e3⟩) fun _ _ e => e

/-- a method -/
theorem Ev.meth {o : Expr} {name : Str} {apos pos : Pos} {args : List Expr} {ds : List Dat} {d0 d : Dat} {T id : String} (pa : PlainAttrs T) (slot : Slot T name id) (hty : typeOf (.builtin id) = pure (.type "method_descriptor"))
    (ho : Ev C δ P o d0) (hT : ∀ R F (s : Shared) v, Pre C δ (P ++ R) F s.heap → Den C.w F v d0 → s.TypeIs v T ∧ ∀ a, v = .ref a → ∃ ob, s.heap.get? a = some ob ∧ ob.dict = none) (ha : EvL C δ P args ds) (hc : CallP C δ P (.builtin id) (d0 :: ds) d)
    (hp : PlainArgs C args := by rfl) (hbase : attributeBase o name C.env (eval o C.env) = eval o C.env := by rfl) (hline : (apos.endLine == pos.line) = true := by rfl)
    (hfew : ((backTo pos (starEach args C.env)).all (fun x => !x.1) && (backToKw pos (keywordEach [] C.env)).all (fun x => x.1.isSome) && decide (args.length + ([] : List Keyword).length + (if ([] : List Keyword).isEmpty then 0 else 1) < 30)) = true := by rfl) :
    Ev C δ P (.Call (.Attribute o name apos) args [] pos) d := by
  refine ⟨fun R F s p => ?_⟩
  refine wpAny_Call_method hbase hfew hline pa slot hty (wpAny_mono (ho.run R F s p) (fun v s1 h1 => ?_) fun _ _ e => e)
  obtain ⟨F1, g1, e1⟩ := h1
  have p1 := p.gv g1
  obtain ⟨t1, t2⟩ := hT R F1 s1 v p1 e1
  refine ⟨t1, t2, ?_⟩
  rw [hp, backTo_plain]
  refine PySem.Calls.callWith_builtin any_plain (evalArgs_spl (wpAny_mono (spl_ev ha p1) (fun vs s2 h2 => ?_) fun _ _ e => e))
  obtain ⟨F2, g2, e2⟩ := h2
  exact (hc.run R F2 s2 (v :: vs) (p1.gv g2) ⟨e1.mono g2.le, e2⟩).after (g1.trans g2)
theorem isStrT {x : Str} : ∀ (R : MM) (F : FH) (s : Shared) (v : Value), Pre C δ (P ++ R) F s.heap → Den C.w F v (.str x) → s.TypeIs v "str" ∧ ∀ a, v = .ref a → ∃ ob, s.heap.get? a = some ob ∧ ob.dict = none := by
  intro R F s v p h
  cases h
  exact ⟨rfl, fun a q => by cases q⟩

/-- built-ins on data -/
theorem CallP.lower {x : Str} (hf : PySem.Builtin.Str.tooLong (Txt.lower x).length = false) : CallP C δ P (.builtin "str.lower") [.str x] (.str (Txt.lower x)) := by
  refine ⟨fun R F s vs p h => ?_⟩
  match vs, h with
  | [v], h => obtain ⟨h, _⟩ := h; cases h; exact PySem.SC.lower hf (gives_val p.sub (.str _ _))
theorem CallP.rfind {x y : Str} : CallP C δ P (.builtin "str.rfind") [.str x, .str y] (.int (Txt.rfind x y)) := by
  refine ⟨fun R F s vs p h => ?_⟩
  match vs, h with
  | [v, u], h => obtain ⟨h, h', _⟩ := h; cases h; cases h'; exact PySem.SC.rfind (gives_val p.sub (.int _ _))
theorem CallP.startswith {x y : Str} : CallP C δ P (.builtin "str.startswith") [.str x, .str y] (.bool (Txt.startswith x y)) := by
  refine ⟨fun R F s vs p h => ?_⟩
  match vs, h with
  | [v, u], h => obtain ⟨h, h', _⟩ := h; cases h; cases h'; exact PySem.SC.startswith (gives_val (tk := s.toks) p.sub (.bool _))
theorem CallP.chr {i : Int} (h0 : 0 ≤ i) (h1 : i ≤ 1114111) : CallP C δ P (.builtin "chr") [.int i] (.str ⟨#[i.toNat]⟩) := by
  refine ⟨fun R F s vs p h => ?_⟩
  match vs, h with
  | [v], h => obtain ⟨h, _⟩ := h; cases h; exact chr_of_range h0 h1 (gives_val p.sub (.str _ _))
theorem CallP.abs {i : Int} : CallP C δ P (.builtin "abs") [.int i] (.int (if i < 0 then -i else i)) := by
  refine ⟨fun R F s vs p h => ?_⟩
  match vs, h with
  | [v], h => obtain ⟨h, _⟩ := h; cases h; exact call_abs_int fun u tk => gives_val p.sub (.int _ _)
theorem CallP.intI {i : Int} : CallP C δ P (.type "int") [.int i] (.int i) := by
  refine ⟨fun R F s vs p h => ?_⟩
  match vs, h with
  | [v], h => obtain ⟨h, _⟩ := h; cases h; exact call_int_int (gives_val (tk := s.toks) p.sub (.int _ _))
theorem CallP.divmod {a b : Int} (hb : b ≠ 0) (hs : b.natAbs < 1073741824) : CallP C δ P (.builtin "divmod") [.int a, .int b] (.tup [.int (a.fdiv b), .int (a.fmod b)]) := by
  refine ⟨fun R F s vs p h => ?_⟩
  match vs, h with
  | [v, u], h =>
    obtain ⟨h, h', _⟩ := h; cases h; cases h'
    refine divmod_int hb ?_ (.inl (PyProof.noPylong_small hs))
    have hn := fresh_none s.heap (Nat.le_refl s.heap.objs.size)
    refine ⟨_, Gv.add (s := s) (tk := s.toks + 1 + 1) (h' := s.heap.push { cls := .type "tuple", data := .seq #[.int (a.fdiv b) s.toks, .int (a.fmod b) (s.toks + 1)] }) p.sub (fun b o e => Heap.get?_push_of_some _ e) hn (Heap.get?_push_size _ rfl), ?_⟩
    refine .tup (FH.add_self ..) rfl rfl rfl fun i v d hv hd => ?_
    match i, hv, hd with
    | 0, hv, hd => cases hv; cases hd; exact .int _ _
    | 1, hv, hd => cases hv; cases hd; exact .int _ _
    | i + 2, hv, hd => simp at hd
theorem CallP.isTup {i : Int} : CallP C δ P (.builtin "isinstance") [.int i, .ex (.type "tuple")] (.bool false) := by
  refine ⟨fun R F s vs p h => ?_⟩
  match vs, h with
  | [v, u], h =>
    obtain ⟨h, h', _⟩ := h; cases h; cases h'
    exact call_isinstance (isinstance_false_int (T := "tuple") rfl (by first | rfl | kernel_rfl) (by rw [isSubtype_type]; kernel_rfl)) (gives_val (tk := s.toks + 1) p.sub (.bool _))
theorem CallP.lenL {d : Dat} {xs : List Dat} (hd : AsL P d xs) (hs : (xs.length : Int) < 2 ^ 63) : CallP C δ P (.builtin "len") [d] (.int xs.length) := by
  refine ⟨fun R F s vs p h => ?_⟩
  match vs, h with
  | [v], h =>
    obtain ⟨h, _⟩ := h
    obtain ⟨a, us, rfl, hl, he⟩ := hd.get p h
    refine PySem.Calls.call_len_list hl.isList (by rw [he.1]; exact hs) ?_
    rw [he.1]; exact gives_val p.sub (.int _ _)
theorem CallP.lenD {d : Dat} {es : List (Int × Int)} (hd : AsD P d es) (hs : (es.length : Int) < 2 ^ 63) : CallP C δ P (.builtin "len") [d] (.int es.length) := by
  refine ⟨fun R F s vs p h => ?_⟩
  match vs, h with
  | [v], h =>
    obtain ⟨h, _⟩ := h
    obtain ⟨a, kvs, rfl, hsy, hm, hk⟩ := hd.get p h
    refine call_len_dict (knd := knd C.w) hsy hm (by rw [hk.length]; exact hs) ?_
    rw [hk.length]; exact gives_val p.sub (.int _ _)
theorem ints_at {w : World} {F : FH} {vs : Array Value} {L : List Int} (e : Els w F vs (L.map .int)) {i : Nat} {v : Value} (h : vs[i]? = some v) : ∃ t, v = .int (L.getD i 0) t := by
  obtain ⟨d, hd, hv⟩ := e.nth h
  simp only [List.getElem?_map, Option.map_eq_some_iff] at hd
  obtain ⟨x, hx, rfl⟩ := hd
  cases hv
  exact ⟨_, by rw [List.getD_eq_getElem?_getD, hx]; rfl⟩
theorem CallP.sum {d : Dat} {L : List Int} (hd : AsL P d (L.map .int)) (c : COk C mg mb n) : CallP C δ P (.builtin "sum") [d] (.int L.sum) := by
  refine ⟨fun R F s vs p h => ?_⟩
  match vs, h with
  | [v], h =>
    obtain ⟨h, _⟩ := h
    obtain ⟨a, us, rfl, hl, he⟩ := hd.get p h
    refine call_sum_walkG (wpAny_pyIter_list hl.isList ?_)
    have hn := fresh_none s.heap (Nat.le_refl s.heap.objs.size)
    obtain ⟨o, ho⟩ : ∃ o, s.heap.get? a = some o := by obtain ⟨n, q⟩ := hl; exact ⟨_, q⟩
    have hne : a ≠ s.heap.objs.size := Nat.ne_of_lt (Heap.lt_size ho)
    refine ⟨_, _, _, _, _, _, fun i => L.getD i 0, rfl, Walks.list (A := C.A.in1) c.ar.hh s.heap.objs.size a hne us, ⟨⟨_, Heap.get?_push_size _ rfl, rfl, rfl⟩, hl.isList.at fun o e => Heap.get?_push_of_some _ e⟩, fun b hb => ?_, fun i v hv => ints_at he hv, fun h' tk t' hk => ?_⟩
    · have hsz : (s.heap.push { cls := .type "list_iterator", data := .fields #[.ref a, .int 0 0] }).objs.size = s.heap.objs.size + 1 := Heap.size_push ..
      show b < (s.heap.push _).objs.size
      rw [hsz]
      rcases List.mem_cons.mp hb with rfl | hb
      · exact Nat.lt_succ_self _
      · rw [List.mem_singleton.mp hb]; exact Nat.lt_succ_of_lt (Heap.lt_size ho)
    · have e : preSum (fun i => L.getD i 0) us.size = L.sum := by
        rw [preSum_getD, he.1, List.length_map, List.take_length]
      rw [e]
      refine ⟨F, Gv.same (s := s) p.sub fun b o' e => hk b o' (fun z => ?_) (Heap.get?_push_of_some _ e), .int _ _⟩
      rw [List.mem_singleton.mp z, hn] at e; cases e
theorem ints_are {w : World} {F : FH} : ∀ {vs : List Value} {L : List Int}, Els w F vs.toArray (L.map .int) → IntsAre vs L
  | [], [], _ => .nil
  | [], _ :: _, h => by have := h.1; simp at this
  | _ :: _, [], h => by have := h.1; simp at this
  | v :: vs, x :: L, h => by
    have h0 := h.2 0 v (.int x) (by simp) (by simp)
    cases h0
    refine .cons _ _ (ints_are ⟨by have := h.1; simp at this ⊢; exact this, fun i u d hu hd => h.2 (i + 1) u d (by simpa using hu) (by simpa using hd)⟩)
theorem CallP.min {d : Dat} {L : List Int} {M : Int} (hd : AsL P d (L.map .int)) (c : COk C mg mb n) (hm : M ∈ L) (hle : ∀ a ∈ L, M ≤ a) : CallP C δ P (.builtin "min") [d] (.int M) := by
  refine ⟨fun R F s vs p h => ?_⟩
  match vs, h with
  | [v], h =>
    obtain ⟨h, _⟩ := h
    obtain ⟨a, us, rfl, hl, he⟩ := hd.get p h
    have hi : IntsAre us.toList L := ints_are (by simpa using he)
    obtain ⟨xs, e⟩ := hi.allInts.items
    have hns : L = xs.toList.map (·.1) := by rw [← hi.numsOf, ← nums_intItems, ← e]
    have hl' := hl.isList
    have e' : us = intItems xs := by rw [← e]
    rw [e'] at hl'
    have hlen : 0 < xs.size := by
      have : 0 < L.length := List.length_pos_of_mem hm
      rw [hns, List.length_map, Array.length_toList] at this; exact this
    refine min_intList c.ar.hh hl' hlen fun v h' tk hv hk => ?_
    obtain ⟨t, rfl⟩ := intItems_at hv
    obtain ⟨h1, h2⟩ := argBest_lt (numAt xs) (xs.size - 1)
    have hmin : numAt xs (argBest (fun i j => decide (numAt xs i < numAt xs j)) (xs.size - 1)) = M := by
      apply Int.le_antisymm
      · rw [hns] at hm
        obtain ⟨j, hj, rfl⟩ := mem_getD hm
        rw [List.length_map, Array.length_toList] at hj
        rw [← numAt_eq]; exact h2 j (by omega)
      · refine hle _ ?_
        rw [hns, numAt_eq]; exact getD_mem (by rw [List.length_map, Array.length_toList]; omega)
    rw [hmin]
    exact ⟨F, Gv.same (s := s) p.sub hk, .int _ _⟩
end
end Mine

namespace Mine
section
variable {C : Cx} {δ : VM} {P : MM} {mg mb : Str → Option Value} {n : Nat}

theorem none_keep {F : FH} {s s' : Shared} {F' : FH} (g : Gv F s F' s') {a : Addr} (h : s'.heap.get? a = none) : s.heap.get? a = none := by
  cases z : s.heap.get? a with
  | none => rfl
  | some o => rw [g.keep _ _ z] at h; cases h
/-- a list -/
theorem ItP.list (c : COk C mg mb n) (I a : Addr) (xs : List Dat) (x : Str) (px : Pos) : ItP C (.Name x px) I [I] xs (fun i _ h => h.IsListIter I a i) (fun F h => a ≠ I ∧ ∃ vs, h.PlainList a vs ∧ Els C.w F vs xs) True where
  self := fun _ i F s Q st h => wpAny_pyIter_listiter st h
  frame := fun i F h F' h' st hk _ _ => st.at fun o e => hk I (by simp) o e
  has := fun i F h st b hb => by rw [List.mem_singleton.mp hb]; obtain ⟨o, e, _⟩ := st; exact ⟨o, e⟩
  next := fun i d F s hx st dp hs hF => by
    obtain ⟨hne, vs, hl, he⟩ := dp
    obtain ⟨v, hv, hd⟩ := he.get hx
    refine wpAny_pyNext_list_item st hl.isList hv fun h' hit hs' => ⟨v, rfl, ?_⟩
    refine wpAny_pure ⟨F, ⟨⟨h', s.toks, rfl⟩, fun b o hb e => hs'.extBut b o (fun z => hb (by rw [z]; simp)) e, Le.refl _, fun b o e => hs'.extBut b o (fun z => ?_) (hs b o e), fun _ _ e => .inl e⟩, hd, hit⟩
    rw [z, hF I (by simp)] at e; cases e
  done := fun F s st dp hs hF => by
    obtain ⟨hne, vs, hl, he⟩ := dp
    refine wpAny_pyNext_list_end c.ar.hh st hl.isList (Array.getElem?_eq_none (Nat.le_of_eq he.1)) fun h' hs' => ⟨rfl, ⟨⟨h', s.toks, rfl⟩, fun b o hb e => hs' b o (fun z => hb (by rw [z]; simp)) e, Le.refl _, fun b o e => hs' b o (fun z => ?_) (hs b o e), fun _ _ e => .inl e⟩⟩
    rw [z, hF I (by simp)] at e; cases e
/-- a list of tuples -/
theorem ItP.listT (c : COk C mg mb n) (I a : Addr) (xs : List Dat) (ht : ∀ d ∈ xs, ∃ ds, d = .tup ds) (elts : List Expr) (k : Nat) (px : Pos) : ItP C (.Tuple elts k px) I [I] xs (fun i _ h => h.IsListIter I a i) (fun F h => a ≠ I ∧ ∃ vs, h.PlainList a vs ∧ Els C.w F vs xs) True where
  self := fun _ i F s Q st h => wpAny_pyIter_listiter st h
  frame := fun i F h F' h' st hk _ _ => st.at fun o e => hk I (by simp) o e
  has := fun i F h st b hb => by rw [List.mem_singleton.mp hb]; obtain ⟨o, e, _⟩ := st; exact ⟨o, e⟩
  next := fun i d F s hx st dp hs hF => by
    obtain ⟨hne, vs, hl, he⟩ := dp
    obtain ⟨v, hv, hd⟩ := he.get hx
    obtain ⟨ds, rfl⟩ := ht d (List.mem_of_getElem? hx)
    refine wpAny_pyNext_list_item st hl.isList hv fun h' hit hs' => ⟨v, rfl, ?_⟩
    have hvr : ∃ T, v = .ref T := by cases hd; exact ⟨_, rfl⟩
    obtain ⟨T, rfl⟩ := hvr
    refine wpAny_letOwnedTupleGo_listiter (s := { s with heap := h' }) hit ⟨F, ⟨⟨h', s.toks, rfl⟩, fun b o hb e => hs'.extBut b o (fun z => hb (by rw [z]; simp)) e, Le.refl _, fun b o e => hs'.extBut b o (fun z => ?_) (hs b o e), fun _ _ e => .inl e⟩, hd, hit⟩
    rw [z, hF I (by simp)] at e; cases e
  done := fun F s st dp hs hF => by
    obtain ⟨hne, vs, hl, he⟩ := dp
    refine wpAny_pyNext_list_end c.ar.hh st hl.isList (Array.getElem?_eq_none (Nat.le_of_eq he.1)) fun h' hs' => ⟨rfl, ⟨⟨h', s.toks, rfl⟩, fun b o hb e => hs' b o (fun z => hb (by rw [z]; simp)) e, Le.refl _, fun b o e => hs' b o (fun z => ?_) (hs b o e), fun _ _ e => .inl e⟩⟩
    rw [z, hF I (by simp)] at e; cases e
theorem iterL {tgt e : Expr} {d : Dat} {xs : List Dat} (he : Ev C δ P e d) (hL : AsL P d xs) (hi : ∀ I a, ItP C tgt I [I] xs (fun i _ h => h.IsListIter I a i) (fun F h => a ≠ I ∧ ∃ vs, h.PlainList a vs ∧ Els C.w F vs xs) True) :
    IterOf C δ P tgt e xs (fun _ Pi => AsL Pi d xs) True := by
  refine ⟨fun R F s p => ?_⟩
  refine wpAny_mono (he.run R F s p) (fun v s1 h1 => ?_) fun _ _ e => e
  obtain ⟨F1, g1, e1⟩ := h1
  obtain ⟨a, vs, rfl, hl, hels⟩ := hL.get (p.gv g1) e1
  refine wpAny_pyIter_list hl.isList ?_
  have hn := fresh_none s1.heap (Nat.le_refl s1.heap.objs.size)
  have hlt : a < s1.heap.objs.size := by obtain ⟨k, q⟩ := hl; exact Heap.lt_size q
  refine ⟨s1.heap.objs.size, [s1.heap.objs.size], _, _, F1, rfl, hi _ a, g1.trans (Gv.same (tk := s1.toks) g1.sub fun b o e => Heap.get?_push_of_some _ e), ⟨_, Heap.get?_push_size _ rfl, rfl, rfl⟩, by simp, fun b hb => ?_, fun b hb => ?_, fun δi Pi R' Fi h hJ p' le => ⟨Nat.ne_of_lt hlt, ?_⟩⟩
  · rw [List.mem_singleton.mp hb]; exact none_keep g1 hn
  · rw [List.mem_singleton.mp hb]; exact fresh_F g1.sub hn
  · obtain ⟨a', vs', q, hl', he'⟩ := hJ.get p' (e1.mono le)
    cases q
    exact ⟨vs', hl', he'⟩
theorem IterOf.list {x : Str} {px : Pos} {e : Expr} {d : Dat} {xs : List Dat} (c : COk C mg mb n) (he : Ev C δ P e d) (hL : AsL P d xs) : IterOf C δ P (.Name x px) e xs (fun _ Pi => AsL Pi d xs) True :=
  iterL he hL fun I a => ItP.list c I a xs x px
theorem IterOf.listT {elts : List Expr} {k : Nat} {px : Pos} {e : Expr} {d : Dat} {xs : List Dat} (c : COk C mg mb n) (he : Ev C δ P e d) (hL : AsL P d xs) (ht : ∀ d ∈ xs, ∃ ds, d = .tup ds) : IterOf C δ P (.Tuple elts k px) e xs (fun _ Pi => AsL Pi d xs) True :=
  iterL he hL fun I a => ItP.listT c I a xs ht elts k px

/-- a range -/
def rangeL (a : Int) (k : Nat) : List Dat := (List.range k).map fun (i : Nat) => Dat.int (a + (i : Int))
theorem rangeL_get {a : Int} {k i : Nat} {d : Dat} (h : (rangeL a k)[i]? = some d) : i < k ∧ d = .int (a + (i : Int)) := by
  unfold rangeL at h
  rw [List.getElem?_map] at h
  by_cases q : i < k
  · rw [List.getElem?_range q] at h; cases h; exact ⟨q, rfl⟩
  · rw [List.getElem?_eq_none (by simpa using q)] at h; cases h
theorem rangeL_len (a : Int) (k : Nat) : (rangeL a k).length = k := by simp [rangeL]
theorem ItP.range (c : COk C mg mb n) (I : Addr) (a : Int) (k : Nat) (x : Str) (px : Pos) : ItP C (.Name x px) I [I] (rangeL a k) (fun i _ h => IsRangeIter h I (a + (i : Nat)) ((k : Int) - (i : Nat)) 1) (fun _ _ => True) True where
  self := fun _ i F s Q st h => wpAny_pyIter_rangeiter st h
  frame := fun i F h F' h' st hk _ _ => hk I (by simp) _ st
  has := fun i F h st b hb => by rw [List.mem_singleton.mp hb]; exact ⟨_, st⟩
  next := fun i d F s hx st dp hs hF => by
    obtain ⟨hik, rfl⟩ := rangeL_get hx
    refine wpAny_pyNext_range_item st (by omega) fun h' hit hs' => ⟨_, rfl, ?_⟩
    refine wpAny_pure ⟨F, ⟨⟨h', s.toks + 1, rfl⟩, fun b o hb e => hs'.extBut b o (fun z => hb (by rw [z]; simp)) e, Le.refl _, fun b o e => hs'.extBut b o (fun z => ?_) (hs b o e), fun _ _ e => .inl e⟩, .int _ _, ?_⟩
    · rw [z, hF I (by simp)] at e; cases e
    · have e1 : a + ((i + 1 : Nat) : Int) = a + (i : Nat) + 1 := by omega
      have e2 : (k : Int) - ((i + 1 : Nat) : Int) = (k : Int) - (i : Nat) - 1 := by omega
      show IsRangeIter h' I (a + ((i + 1 : Nat) : Int)) ((k : Int) - ((i + 1 : Nat) : Int)) 1
      rw [e1, e2]; exact hit
  done := fun F s st dp hs hF => by
    rw [rangeL_len] at st
    refine wpAny_pyNext_range_end c.ar.hh st (by omega) fun h' hs' => ⟨rfl, ⟨⟨h', s.toks, rfl⟩, fun b o hb e => hs' b o (fun z => hb (by rw [z]; simp)) e, Le.refl _, fun b o e => hs' b o (fun z => ?_) (hs b o e), fun _ _ e => .inl e⟩⟩
    rw [z, hF I (by simp)] at e; cases e
theorem range_tail {x : Str} {px : Pos} {a b : Int} {k : Nat} {F F1 : FH} {s s1 : Shared} {t u v : Tok} {HD : VM → MM → Prop} (c : COk C mg mb n) (g1 : Gv F s F1 s1) (hsm : Builtin.Range.small a b 1 = true) (hsz : Builtin.Range.rangeSize a b 1 = k) (r : Addr) (hr : IsRange s1.heap r a b 1 t u v) :
    wpAny (MG C) C.A (pyIter (.ref r)) (fun it s2 => ∃ I ws St Dp F', it = .ref I ∧ ItP C (.Name x px) I ws (rangeL a k) St Dp True ∧ Gv F s F' s2 ∧ St 0 F' s2.heap ∧ ws.Nodup ∧ (∀ a ∈ ws, s.heap.get? a = none) ∧ (∀ a ∈ ws, F' a = none) ∧
    (∀ δi Pi R' Fi h, HD δi Pi → Pre C δi (Pi ++ R') Fi h → Le F' Fi → Dp Fi h)) NoE s1 := by
  refine wpAny_pyIter_range hr hsm ?_
  have hn := fresh_none s1.heap (Nat.le_refl s1.heap.objs.size)
  refine ⟨s1.heap.objs.size, [s1.heap.objs.size], _, _, F1, rfl, ItP.range c _ a k x px, g1.trans (Gv.same (tk := s1.toks) g1.sub fun b o e => Heap.get?_push_of_some _ e), ?_, by simp, fun b hb => ?_, fun b hb => ?_, fun _ _ _ _ _ _ _ _ => trivial⟩
  · show IsRangeIter _ _ (a + ((0 : Nat) : Int)) ((k : Int) - ((0 : Nat) : Int)) 1
    have e1 : a + ((0 : Nat) : Int) = a := by omega
    have e2 : (k : Int) - ((0 : Nat) : Int) = k := by omega
    rw [e1, e2, ← hsz]
    exact Heap.get?_push_size _ rfl
  · rw [List.mem_singleton.mp hb]; exact none_keep g1 hn
  · rw [List.mem_singleton.mp hb]; exact fresh_F g1.sub hn
theorem IterOf.range1 {x y : Str} {px py pos : Pos} {e : Expr} {b : Int} {k : Nat} (c : COk C mg mb n) (hf : Ev C δ P (.Name y py) (.ex (.type "range"))) (he : Ev C δ P e (.int b)) (hsm : Builtin.Range.small 0 b 1 = true) (hsz : Builtin.Range.rangeSize 0 b 1 = k) (hp : PlainArgs C [e] := by rfl) :
    IterOf C δ P (.Name x px) (.Call (.Name y py) [e] [] pos) (rangeL 0 k) (fun _ _ => True) True := by
  refine ⟨fun R F s p => ?_⟩
  refine wpAny_Call_NameR (wpAny_mono (hf.run R F s p) (fun v s1 h1 => ?_) fun _ _ e => e)
  obtain ⟨F1, g1, e1⟩ := h1
  cases e1
  rw [hp, backTo_plain]
  refine PySem.callWith_type any_plain (evalArgs_spl (wpAny_mono (spl_ev (es := [e]) (ds := [.int b]) ⟨he, trivial⟩ (p.gv g1)) (fun vs s2 h2 => ?_) fun _ _ e => e))
  obtain ⟨F2, g2, e2⟩ := h2
  match vs, e2 with
  | [v], e2 =>
    obtain ⟨e2, _⟩ := e2; cases e2
    refine call_range_1 ?_
    exact range_tail (s1 := { s2 with heap := _, toks := _ }) c ((g1.trans g2).trans (Gv.same g2.sub fun b o e => Heap.get?_push_of_some _ e)) hsm hsz _ (Heap.get?_push_size _ rfl)
theorem IterOf.range2 {x y : Str} {px py pos : Pos} {e e' : Expr} {a b : Int} {k : Nat} (c : COk C mg mb n) (hf : Ev C δ P (.Name y py) (.ex (.type "range"))) (he : Ev C δ P e (.int a)) (he' : Ev C δ P e' (.int b)) (hsm : Builtin.Range.small a b 1 = true) (hsz : Builtin.Range.rangeSize a b 1 = k)
    (hp : PlainArgs C [e, e'] := by rfl) : IterOf C δ P (.Name x px) (.Call (.Name y py) [e, e'] [] pos) (rangeL a k) (fun _ _ => True) True := by
  refine ⟨fun R F s p => ?_⟩
  refine wpAny_Call_NameR (wpAny_mono (hf.run R F s p) (fun v s1 h1 => ?_) fun _ _ e => e)
  obtain ⟨F1, g1, e1⟩ := h1
  cases e1
  rw [hp, backTo_plain]
  refine PySem.callWith_type any_plain (evalArgs_spl (wpAny_mono (spl_ev (es := [e, e']) (ds := [.int a, .int b]) ⟨he, he', trivial⟩ (p.gv g1)) (fun vs s2 h2 => ?_) fun _ _ e => e))
  obtain ⟨F2, g2, e2⟩ := h2
  match vs, e2 with
  | [v, u], e2 =>
    obtain ⟨e2, e3, _⟩ := e2; cases e2; cases e3
    refine call_range_2 ?_
    exact range_tail (s1 := { s2 with heap := _, toks := _ }) c ((g1.trans g2).trans (Gv.same g2.sub fun b o e => Heap.get?_push_of_some _ e)) hsm hsz _ (Heap.get?_push_size _ rfl)

/-- a dict's values, its items -/
theorem KVs.get {l : List (Int × Value)} {m : List (Int × Int)} (h : KVs l m) : ∀ {i : Nat} {k j : Int}, m[i]? = some (k, j) → ∃ t, l[i]? = some (k, .int j t) := by
  induction h with
  | nil => intro i k j e; simp at e
  | @cons k' n' t l m _ ih =>
    intro i k j e
    cases i with
    | zero => simp at e; obtain ⟨rfl, rfl⟩ := e; exact ⟨t, rfl⟩
    | succ i => exact ih (by simpa using e)
def valsL (es : List (Int × Int)) : List Dat := es.map fun p => .int p.2
def itemsL (es : List (Int × Int)) : List Dat := es.map fun p => .tup [.int p.1, .int p.2]
theorem ItP.vals (c : COk C mg mb n) (I a : Addr) (hne : a ≠ I) (kvs : List (Int × Value)) (es : List (Int × Int)) (hk : KVs kvs es) (ep : Nat) (x : Str) (px : Pos) :
    ItP C (.Name x px) I [I] (valsL es) (fun i _ h => h.IsValIter I a i kvs.length ep) (fun _ h => h.DictAt (knd C.w) a kvs ep) True where
  self := fun _ i F s Q st h => wpAny_pyIter_valiter st h
  frame := fun i F h F' h' st hk _ _ => st.at fun o e => hk I (by simp) o e
  has := fun i F h st b hb => by rw [List.mem_singleton.mp hb]; obtain ⟨o, e, _⟩ := st; exact ⟨o, e⟩
  next := fun i d F s hx st dp hs hF => by
    unfold valsL at hx
    rw [List.getElem?_map, Option.map_eq_some_iff] at hx
    obtain ⟨⟨k, j⟩, hx, rfl⟩ := hx
    obtain ⟨t, hx'⟩ := hk.get hx
    refine wpAny_pyNext_values_item (knd := knd C.w) st dp hx' fun h' hit hs' => ⟨_, rfl, ?_⟩
    refine wpAny_pure ⟨F, ⟨⟨h', s.toks, rfl⟩, fun b o hb e => hs'.extBut b o (fun z => hb (by rw [z]; simp)) e, Le.refl _, fun b o e => hs'.extBut b o (fun z => ?_) (hs b o e), fun _ _ e => .inl e⟩, .int _ _, hit⟩
    rw [z, hF I (by simp)] at e; cases e
  done := fun F s st dp hs hF => by
    have hl : (valsL es).length = kvs.length := by rw [hk.length]; simp [valsL]
    rw [hl] at st
    refine wpAny_pyNext_values_end (knd := knd C.w) c.ar.hh st dp (List.getElem?_eq_none (Nat.le_refl _)) fun h' hs' => ⟨rfl, ⟨⟨h', s.toks, rfl⟩, fun b o hb e => hs' b o (fun z => hb (by rw [z]; simp)) e, Le.refl _, fun b o e => hs' b o (fun z => ?_) (hs b o e), fun _ _ e => .inl e⟩⟩
    rw [z, hF I (by simp)] at e; cases e
theorem IterOf.vals {x : Str} {px apos pos : Pos} {o : Expr} {es : List (Int × Int)} (c : COk C mg mb n) (ho : Ev C δ P o (.dict es)) (hbase : attributeBase o "values" C.env (eval o C.env) = eval o C.env := by rfl) (hline : (apos.endLine == pos.line) = true := by rfl) :
    IterOf C δ P (.Name x px) (.Call (.Attribute o "values" apos) [] [] pos) (valsL es) (fun _ _ => True) True := by
  refine ⟨fun R F s p => ?_⟩
  refine wpAny_Call_method (T := "dict") (id := "dict.values") hbase rfl hline PySem.F.plainAttrs_dict PySem.F.slot_dict_values PySem.F.type_dict_values (wpAny_mono (ho.run R F s p) (fun v s1 h1 => ?_) fun _ _ e => e)
  obtain ⟨F1, g1, e1⟩ := h1
  cases e1 with | dict ha hsy hd hk =>
  rename_i a ob kvs
  have hm := hd s1.heap (g1.sub _ _ ha)
  refine ⟨hm.typeIs, hm.mapOf.noDict, ?_⟩
  show wpAny _ _ (callWith pos (.builtin "dict.values") [.ref a] [] []) _ _ s1
  refine method_meetsIn PySem.F.slot_dict_values PySem.F.entry_dict_values rfl (PySem.evalArgs_none ⟨rfl, hm.typeIs, PySem.F.args_dict_values_1 _, _, meets_dict_values (knd C.w) a hsy, ⟨kvs, hm⟩, ?_⟩)
  have hn := fresh_none s1.heap (Nat.le_refl s1.heap.objs.size)
  have hlt : a < s1.heap.objs.size := Heap.lt_size (g1.sub _ _ ha)
  obtain ⟨ep, hat⟩ := hm.dictAt
  have hat' : ∀ h : Heap, h.get? a = some ob → h.DictAt (knd C.w) a kvs ep := fun h e => hat.at' fun o' e' => by rw [g1.sub _ _ ha] at e'; cases e'; exact e
  have g2 : Gv F1 s1 F1 { s1 with heap := s1.heap.push { cls := .type "dict_values", data := .fields #[.ref a] } } := Gv.same (tk := s1.toks) g1.sub fun b o e => Heap.get?_push_of_some _ e
  refine wpAny_pyIter_values (knd := knd C.w) (d := a) (kvs := kvs) (ep := ep) ⟨_, Heap.get?_push_size _ rfl, rfl, rfl⟩ (hat' _ (g2.sub _ _ ha)) ?_
  have hsz : (s1.heap.push { cls := .type "dict_values", data := .fields #[.ref a] }).objs.size = s1.heap.objs.size + 1 := Heap.size_push ..
  have hn2 : s1.heap.get? (s1.heap.push { cls := .type "dict_values", data := .fields #[.ref a] }).objs.size = none := fresh_none _ (by rw [hsz]; exact Nat.le_succ _)
  refine ⟨_, [_], _, _, F1, rfl, ItP.vals c _ a (Nat.ne_of_lt (by rw [hsz]; exact Nat.lt_succ_of_lt hlt)) kvs es hk ep x px, g1.trans (g2.trans (Gv.same (tk := s1.toks) g2.sub fun b o e => Heap.get?_push_of_some _ e)), ⟨_, Heap.get?_push_size _ rfl, rfl, rfl⟩, by simp, fun b hb => ?_, fun b hb => ?_, fun δi Pi R' Fi h _ p' le => hat' h (p'.sub _ _ (le _ _ ha))⟩
  · rw [List.mem_singleton.mp hb]; exact none_keep g1 hn2
  · rw [List.mem_singleton.mp hb]; exact fresh_F g1.sub hn2
theorem ItP.items (c : COk C mg mb n) (I a : Addr) (hne : a ≠ I) (kvs : List (Int × Value)) (es : List (Int × Int)) (hk : KVs kvs es) (ep : Nat) (elts : List Expr) (k0 : Nat) (px : Pos) :
    ItP C (.Tuple elts k0 px) I [I] (itemsL es) (fun i _ h => ∃ ok ov, IsItemIter h I a i kvs.length ep ok ov) (fun _ h => h.DictAt (knd C.w) a kvs ep) False where
  self := fun f => f.elim
  frame := fun i F h F' h' ⟨ok, ov, st⟩ hk _ _ => ⟨ok, ov, hk I (by simp) _ st⟩
  has := fun i F h ⟨ok, ov, st⟩ b hb => by rw [List.mem_singleton.mp hb]; exact ⟨_, st⟩
  next := fun i d F s hx st dp hs hF => by
    obtain ⟨ok, ov, st⟩ := st
    unfold itemsL at hx
    rw [List.getElem?_map, Option.map_eq_some_iff] at hx
    obtain ⟨⟨k, j⟩, hx, rfl⟩ := hx
    obtain ⟨t, hx'⟩ := hk.get hx
    refine wpAny_pyNext_items_item (knd := knd C.w) st dp hx' fun key h1 hkey hio hT hsz hk1 => ⟨_, rfl, ?_⟩
    refine wpAny_letOwnedTupleGo_items (s := { s with heap := h1 }) hio fun h2 hit hs2 => ?_
    have hlt : I < s.heap.objs.size := Heap.lt_size st
    have hn := fresh_none s.heap (Nat.le_refl s.heap.objs.size)
    have hT2 : h2.get? s.heap.objs.size = some { cls := .type "tuple", data := .seq #[key, .int j t] } := hs2.extBut _ _ (Nat.ne_of_gt hlt) hT
    have keep : ∀ b o, b ∉ [I] → s.heap.get? b = some o → h2.get? b = some o := fun b o hb e => by
      have : b ≠ I := fun z => hb (by rw [z]; simp)
      exact hs2.extBut b o this (hk1 b o this e)
    have hFn : F s.heap.objs.size = none := fresh_F hs hn
    refine ⟨F.add s.heap.objs.size { cls := .type "tuple", data := .seq #[key, .int j t] }, ⟨⟨h2, s.toks, rfl⟩, keep, FH.add_le hFn, fun b o e => ?_, fun b o e => ?_⟩, ?_, ⟨_, _, hit⟩⟩
    · rcases FH.add_cases e with ⟨rfl, rfl⟩ | z
      · exact hT2
      · exact keep b o (fun q => by rw [List.mem_singleton.mp q, hF I (by simp)] at z; cases z) (hs b o z)
    · rcases FH.add_cases e with ⟨rfl, rfl⟩ | z
      · exact .inr hn
      · exact .inl z
    · refine .tup (FH.add_self ..) rfl rfl rfl fun i v d hv hd => ?_
      obtain ⟨tk, rfl⟩ := Value.isInt_shape (show Value.isInt k key = true from hkey)
      match i, hv, hd with
      | 0, hv, hd => cases hv; cases hd; exact .int _ _
      | 1, hv, hd => cases hv; cases hd; exact .int _ _
      | i + 2, hv, hd => simp at hd
  done := fun F s st dp hs hF => by
    obtain ⟨ok, ov, st⟩ := st
    have hl : (itemsL es).length = kvs.length := by rw [hk.length]; simp [itemsL]
    rw [hl] at st
    refine wpAny_pyNext_items_end (knd := knd C.w) c.ar.hh st dp (List.getElem?_eq_none (Nat.le_refl _)) fun h' hs' => ⟨rfl, ⟨⟨h', s.toks, rfl⟩, fun b o hb e => hs' b o (fun z => hb (by rw [z]; simp)) e, Le.refl _, fun b o e => hs' b o (fun z => ?_) (hs b o e), fun _ _ e => .inl e⟩⟩
    rw [z, hF I (by simp)] at e; cases e
theorem IterOf.items {elts : List Expr} {k0 : Nat} {px apos pos : Pos} {o : Expr} {es : List (Int × Int)} (c : COk C mg mb n) (ho : Ev C δ P o (.dict es)) (hbase : attributeBase o "items" C.env (eval o C.env) = eval o C.env := by rfl) (hline : (apos.endLine == pos.line) = true := by rfl) :
    IterOf C δ P (.Tuple elts k0 px) (.Call (.Attribute o "items" apos) [] [] pos) (itemsL es) (fun _ _ => True) False := by
  refine ⟨fun R F s p => ?_⟩
  refine wpAny_Call_method (T := "dict") (id := "dict.items") hbase rfl hline PySem.F.plainAttrs_dict PySem.F.slot_dict_items PySem.F.type_dict_items (wpAny_mono (ho.run R F s p) (fun v s1 h1 => ?_) fun _ _ e => e)
  obtain ⟨F1, g1, e1⟩ := h1
  cases e1 with | dict ha hsy hd hk =>
  rename_i a ob kvs
  have hm := hd s1.heap (g1.sub _ _ ha)
  refine ⟨hm.typeIs, hm.mapOf.noDict, ?_⟩
  show wpAny _ _ (callWith pos (.builtin "dict.items") [.ref a] [] []) _ _ s1
  refine method_meetsIn PySem.F.slot_dict_items PySem.F.entry_dict_items rfl (PySem.evalArgs_none ⟨rfl, hm.typeIs, PySem.F.args_dict_items_1 _, _, meets_dict_items (knd C.w) a hsy, ⟨kvs, hm⟩, ?_⟩)
  have hn := fresh_none s1.heap (Nat.le_refl s1.heap.objs.size)
  have hlt : a < s1.heap.objs.size := Heap.lt_size (g1.sub _ _ ha)
  obtain ⟨ep, hat⟩ := hm.dictAt
  have hat' : ∀ h : Heap, h.get? a = some ob → h.DictAt (knd C.w) a kvs ep := fun h e => hat.at' fun o' e' => by rw [g1.sub _ _ ha] at e'; cases e'; exact e
  have g2 : Gv F1 s1 F1 { s1 with heap := s1.heap.push { cls := .type "dict_items", data := .fields #[.ref a] } } := Gv.same (tk := s1.toks) g1.sub fun b o e => Heap.get?_push_of_some _ e
  refine wpAny_pyIter_items (knd := knd C.w) (d := a) (kvs := kvs) (ep := ep) ⟨_, Heap.get?_push_size _ rfl, rfl, rfl⟩ (hat' _ (g2.sub _ _ ha)) ?_
  have hsz : (s1.heap.push { cls := .type "dict_items", data := .fields #[.ref a] }).objs.size = s1.heap.objs.size + 1 := Heap.size_push ..
  have hn2 : s1.heap.get? (s1.heap.push { cls := .type "dict_items", data := .fields #[.ref a] }).objs.size = none := fresh_none _ (by rw [hsz]; exact Nat.le_succ _)
  refine ⟨_, [_], _, _, F1, rfl, ItP.items c _ a (Nat.ne_of_lt (by rw [hsz]; exact Nat.lt_succ_of_lt hlt)) kvs es hk ep elts k0 px, g1.trans (g2.trans (Gv.same (tk := s1.toks) g2.sub fun b o e => Heap.get?_push_of_some _ e)), ⟨_, _, Heap.get?_push_size _ rfl⟩, by simp, fun b hb => ?_, fun b hb => ?_, fun δi Pi R' Fi h _ p' le => hat' h (p'.sub _ _ (le _ _ ha))⟩
  · rw [List.mem_singleton.mp hb]; exact none_keep g1 hn2
  · rw [List.mem_singleton.mp hb]; exact fresh_F g1.sub hn2
end
end Mine

namespace Mine
section
variable {C : Cx} {δ : VM} {P : MM} {mg mb : Str → Option Value} {n : Nat}

/-- zip of two lists -/
def zipD : List Dat → List Dat → List Dat
  | x :: xs, y :: ys => .tup [x, y] :: zipD xs ys
  | _, _ => []
theorem zipD_get : ∀ {xs ys : List Dat} {i : Nat} {d : Dat}, (zipD xs ys)[i]? = some d → ∃ x y, xs[i]? = some x ∧ ys[i]? = some y ∧ d = .tup [x, y]
  | x :: xs, y :: ys, 0, d, h => by simp [zipD] at h; exact ⟨x, y, rfl, rfl, h.symm⟩
  | x :: xs, y :: ys, i + 1, d, h => by
    obtain ⟨a, b, h1, h2, h3⟩ := zipD_get (xs := xs) (ys := ys) (i := i) (d := d) (by simpa [zipD] using h)
    exact ⟨a, b, by simpa using h1, by simpa using h2, h3⟩
  | [], _, i, d, h => by simp [zipD] at h
  | _ :: _, [], i, d, h => by simp [zipD] at h
theorem zipD_len : ∀ (xs ys : List Dat), (zipD xs ys).length = min xs.length ys.length
  | x :: xs, y :: ys => by simp only [zipD, List.length_cons, zipD_len xs ys]; omega
  | [], _ => by simp [zipD]
  | _ :: _, [] => by simp [zipD]
theorem ItP.zip (c : COk C mg mb n) (z TI TO i1 i2 l1 l2 : Addr) (D : ZipApart z TI TO i1 i2 l1 l2) (xs ys : List Dat) (elts : List Expr) (k0 : Nat) (px : Pos) :
    ItP C (.Tuple elts k0 px) z [z, TI, TO, i1, i2] (zipD xs ys)
      (fun i _ h => IsZip h z TI TO .none ∧ IsPair h TI (.ref i1) (.ref i2) ∧ (∃ a b, IsPair h TO a b) ∧ h.IsListIter i1 l1 i ∧ h.IsListIter i2 l2 i)
      (fun F h => (∃ vs, h.PlainList l1 vs ∧ Els C.w F vs xs) ∧ ∃ us, h.PlainList l2 us ∧ Els C.w F us ys) True where
  self := fun _ i F s Q st h => wpAny_pyIter_zip st.1 h
  frame := fun i F h F' h' ⟨a1, a2, ⟨a, b, a3⟩, a4, a5⟩ hk _ _ => ⟨hk z (by simp) _ a1, hk TI (by simp) _ a2, ⟨a, b, hk TO (by simp) _ a3⟩, a4.at fun o e => hk i1 (by simp) o e, a5.at fun o e => hk i2 (by simp) o e⟩
  has := fun i F h ⟨a1, a2, ⟨a, b, a3⟩, a4, a5⟩ q hq => by
    simp only [List.mem_cons, List.mem_singleton, List.not_mem_nil, or_false] at hq
    rcases hq with rfl | rfl | rfl | rfl | rfl
    · exact ⟨_, a1⟩
    · exact ⟨_, a2⟩
    · exact ⟨_, a3⟩
    · obtain ⟨o, e, _⟩ := a4; exact ⟨o, e⟩
    · obtain ⟨o, e, _⟩ := a5; exact ⟨o, e⟩
  next := fun i d F s hx ⟨a1, a2, ⟨a, b, a3⟩, a4, a5⟩ ⟨⟨vs, hl1, he1⟩, us, hl2, he2⟩ hs hF => by
    obtain ⟨x, y, hx1, hy1, rfl⟩ := zipD_get hx
    obtain ⟨u, hu, hdu⟩ := he1.get hx1
    obtain ⟨v, hv, hdv⟩ := he2.get hy1
    refine wpAny_pyNext_zip_item D a1 a2 a3 a4 a5 hl1.isList hl2.isList hu hv fun h1 b1 b2 b3 b4 b5 b6 b7 => ⟨_, rfl, ?_⟩
    refine wpAny_letOwnedTupleGo_zip (s := { s with heap := h1 }) b1 fun h2 c1 hs2 => ?_
    have hzlt : z < s.heap.objs.size := Heap.lt_size a1
    have hn := fresh_none s.heap (Nat.le_refl s.heap.objs.size)
    have hT2 : h2.get? s.heap.objs.size = some { cls := .type "tuple", data := .seq #[u, v] } := hs2.extBut _ _ (Nat.ne_of_gt hzlt) b5
    have keep : ∀ b o, b ∉ [z, TI, TO, i1, i2] → s.heap.get? b = some o → h2.get? b = some o := fun b o hb e => by
      simp only [List.mem_cons, List.not_mem_nil, or_false, not_or] at hb
      exact hs2.extBut b o hb.1 (b7 b o hb.1 hb.2.2.1 hb.2.2.2.1 hb.2.2.2.2 e)
    have hFn : F s.heap.objs.size = none := fresh_F hs hn
    have hTI : h1.get? TI = some { cls := .type "tuple", data := .seq #[.ref i1, .ref i2] } := b7 TI _ D.TIz D.TITO D.TIi1 D.TIi2 a2
    refine ⟨F.add s.heap.objs.size { cls := .type "tuple", data := .seq #[u, v] }, ⟨⟨h2, s.toks, rfl⟩, keep, FH.add_le hFn, fun b o e => ?_, fun b o e => ?_⟩, ?_, c1, hs2.extBut _ _ D.TIz hTI, ⟨_, _, hs2.extBut _ _ D.TOz b2⟩, b3.at fun o e => hs2.extBut _ _ D.i1z e, b4.at fun o e => hs2.extBut _ _ D.i2z e⟩
    · rcases FH.add_cases e with ⟨rfl, rfl⟩ | q
      · exact hT2
      · exact keep b o (fun w => by rw [hF b w] at q; cases q) (hs b o q)
    · rcases FH.add_cases e with ⟨rfl, rfl⟩ | q
      · exact .inr hn
      · exact .inl q
    · refine .tup (FH.add_self ..) rfl rfl rfl fun i v d hv hd => ?_
      match i, hv, hd with
      | 0, hv, hd => cases hv; cases hd; exact hdu.mono (FH.add_le hFn)
      | 1, hv, hd => cases hv; cases hd; exact hdv.mono (FH.add_le hFn)
      | i + 2, hv, hd => simp at hd
  done := fun F s ⟨a1, a2, ⟨a, b, a3⟩, a4, a5⟩ ⟨⟨vs, hl1, he1⟩, us, hl2, he2⟩ hs hF => by
    rw [zipD_len] at a4 a5
    refine wpAny_pyNext_zip_end c.ar.hh D a1 a2 a3 a4 a5 hl1.isList hl2.isList ?_ fun h' hk => ⟨rfl, ⟨⟨h', s.toks, rfl⟩, fun b o hb e => ?_, Le.refl _, fun b o e => ?_, fun _ _ e => .inl e⟩⟩
    · by_cases q : xs.length ≤ ys.length
      · exact .inl (Array.getElem?_eq_none (by rw [he1.1]; omega))
      · exact .inr (Array.getElem?_eq_none (by rw [he2.1]; omega))
    · simp only [List.mem_cons, List.not_mem_nil, or_false, not_or] at hb
      exact hk b o hb.1 hb.2.2.1 hb.2.2.2.1 hb.2.2.2.2 e
    · have ne : ∀ q, q ∈ [z, TI, TO, i1, i2] → b ≠ q := fun q hq w => by rw [w, hF q hq] at e; cases e
      exact hk b o (ne z (by simp)) (ne TO (by simp)) (ne i1 (by simp)) (ne i2 (by simp)) (hs b o e)
theorem natne {a b : Nat} (h : a < b ∨ b < a) : @Ne Nat a b := by omega
theorem zip_apart (k a b : Nat) (h1 : a < k) (h2 : b < k) : ZipApart (k + 4) (k + 2) (k + 3) k (k + 1) a b := by
  constructor <;> (refine natne ?_; omega)
theorem zip_nodup (k : Nat) : ([k + 4, k + 2, k + 3, k, k + 1] : List Nat).Nodup := by simp
theorem IterOf.zip {elts : List Expr} {k0 : Nat} {px py pos : Pos} {y : Str} {e e' : Expr} {d d' : Dat} {xs ys : List Dat} (c : COk C mg mb n) (hf : Ev C δ P (.Name y py) (.ex (.type "zip"))) (he : Ev C δ P e d) (he' : Ev C δ P e' d') (hL : AsL P d xs) (hL' : AsL P d' ys)
    (hp : PlainArgs C [e, e'] := by rfl) : IterOf C δ P (.Tuple elts k0 px) (.Call (.Name y py) [e, e'] [] pos) (zipD xs ys) (fun _ Pi => AsL Pi d xs ∧ AsL Pi d' ys) True := by
  refine ⟨fun R F s p => ?_⟩
  refine wpAny_Call_NameR (wpAny_mono (hf.run R F s p) (fun v s1 h1 => ?_) fun _ _ e => e)
  obtain ⟨F1, g1, e1⟩ := h1
  cases e1
  rw [hp, backTo_plain]
  refine PySem.callWith_type any_plain (evalArgs_spl (wpAny_mono (spl_ev (es := [e, e']) (ds := [d, d']) ⟨he, he', trivial⟩ (p.gv g1)) (fun vs s2 h2 => ?_) fun _ _ e => e))
  obtain ⟨F2, g2, e2⟩ := h2
  match vs, e2 with
  | [v, u], e2 =>
    obtain ⟨e2, e3, _⟩ := e2
    have p2 := (p.gv g1).gv g2
    obtain ⟨a, us, rfl, hl, hels⟩ := hL.get p2 e2
    obtain ⟨a', us', rfl, hl', hels'⟩ := hL'.get p2 e3
    refine call_zip_2 hl.isList hl'.isList fun h' q1 q2 q3 q4 q5 q6 q7 => ?_
    refine wpAny_pyIter_zip (s := { s2 with heap := h' }) q1 ?_
    have lt1 : a < s2.heap.objs.size := by obtain ⟨k, q⟩ := hl; exact Heap.lt_size q
    have lt2 : a' < s2.heap.objs.size := by obtain ⟨k, q⟩ := hl'; exact Heap.lt_size q
    have hn : ∀ k, s2.heap.get? (s2.heap.objs.size + k) = none := fun k => fresh_none _ (Nat.le_add_right _ _)
    have g12 := g1.trans g2
    have D : ZipApart (s2.heap.objs.size + 4) (s2.heap.objs.size + 2) (s2.heap.objs.size + 3) s2.heap.objs.size (s2.heap.objs.size + 1) a a' := zip_apart _ _ _ lt1 lt2
    have mem : ∀ b, b ∈ [s2.heap.objs.size + 4, s2.heap.objs.size + 2, s2.heap.objs.size + 3, s2.heap.objs.size, s2.heap.objs.size + 1] → s2.heap.get? b = none := fun b hb => by
      simp only [List.mem_cons, List.not_mem_nil, or_false] at hb
      rcases hb with rfl | rfl | rfl | rfl | rfl
      · exact hn 4
      · exact hn 2
      · exact hn 3
      · exact hn 0
      · exact hn 1
    refine ⟨_, _, _, _, F2, rfl, ItP.zip c _ _ _ _ _ a a' D xs ys elts k0 px, g12.trans (Gv.same (tk := s2.toks) g12.sub q7), ⟨q1, q2, ⟨_, _, q3⟩, q4, q5⟩, ?_, fun b hb => none_keep g12 (mem b hb), fun b hb => fresh_F g12.sub (mem b hb), fun δi Pi R' Fi h hJ p' le => ⟨?_, ?_⟩⟩
    · exact zip_nodup _
    · obtain ⟨b, vs', q, hl3, he3⟩ := hJ.1.get p' (e2.mono le)
      cases q; exact ⟨vs', hl3, he3⟩
    · obtain ⟨b, vs', q, hl3, he3⟩ := hJ.2.get p' (e3.mono le)
      cases q; exact ⟨vs', hl3, he3⟩

/-- statements that change an object -/
theorem not_interactive (c : COk C mg mb n) : interactive C.env = false := by
  unfold interactive; rw [c.fn]; rfl
theorem Ex.append {x : Str} {px apos pos spos : Pos} {e : Expr} {a : Addr} {xs : List Dat} {d : Dat} {P' : MM} {Q : OQ} (c : COk C mg mb n) (hx : look δ x = some (.ex (.ref a))) (he : Ev C δ P e d) (hp : Put P a (.list xs) (.list (xs ++ [d])) P') (hl : xs.length ≤ sizeLine) (hq : Q .next δ P')
    (hpl : PlainArgs C [e] := by rfl) (hxd : (x == ("__debug__" : Str)) = false := by rfl)
    (hbase : attributeBase (.Name x px) "append" C.env (eval (.Name x px) C.env) = eval (.Name x px) C.env := by rfl) (hline : (apos.endLine == pos.line) = true := by rfl) (hin : C.inner = false := by rfl) : Ex C δ P (.Expr (.Call (.Attribute (.Name x px) "append" apos) [e] [] pos) spos) Q := by
  refine ⟨fun R F s p => ?_⟩
  refine wpAny_Expr_any ?_ (not_interactive c) rfl
  have htrees : backTo pos (starEach [e] C.env) = [(false, eval e C.env)] := by rw [hpl, backTo_plain]; rfl
  refine wpAny_Call_append hbase (by rw [htrees]; rfl) hline htrees (wpAny_mono ((Ev.name (δ := δ) (P := P) c hx hxd).run R F s p) (fun v s1 h1 => ?_) fun _ _ e => e)
  obtain ⟨F1, g1, e1⟩ := h1
  cases e1
  have p1 := p.gv g1
  obtain ⟨vs, ⟨k, hpl'⟩, hels⟩ := p1.muta _ (hp.app R).mem
  refine ⟨a, vs, rfl, ⟨_, k, hpl', rfl, rfl, rfl⟩, ?_⟩
  refine wpAny_mono (he.run R F1 s1 p1) (fun y s2 h2 => ?_) fun _ _ e => e
  obtain ⟨F2, g2, e2⟩ := h2
  have p2 := p1.gv g2
  obtain ⟨vs', hl', hels'⟩ := p2.muta _ (hp.app R).mem
  refine wpAny_list_append_plain hl' (fun h' hl3 hs3 => ?_) (by rw [hels'.1]; exact hl)
  refine ⟨.next, δ, P', F2, upd_trans (g1.trans g2).upd ⟨h', s2.toks, rfl⟩, (g1.trans g2).le, ?_, trivial, hq⟩
  exact p2.put (p2.own hin a (P_mem (C := C) (hp.app R).mem)) (hp.app R) hs3.extBut ⟨_, hl3, hels'.push e2⟩
theorem setItem_plain {prog : Program} {w : World} {A : Around} {E : Value → Shared → Prop} {s : Shared} {l : Addr} {items : Array Value} {k : Int} {t : Tok} {v : Value} {Q : Unit → Shared → Prop} (hl : s.heap.PlainList l items) (h0 : 0 ≤ k) (hfit : k < 2 ^ 63) (hn : k < items.size)
    (hQ : ∀ h', h'.PlainList l (items.setIfInBounds k.toNat v) → Heap.SameBut l s.heap h' → Q () { s with heap := h' }) : wpAny (model prog w) A (setItem (.ref l) (.int k t) v) Q E s := by
  obtain ⟨n, ho⟩ := hl
  have hL : s.heap.IsList l items := ⟨_, ho, rfl, n, rfl⟩
  unfold setItem
  refine wpAny_holding ?_
  refine wpAny_bind (wpAny_sequenceKey hL.typeIs (by decide) ?_)
  refine wpAny_bind (wpAny_callSpecial?_slot (name := Str.ofString "__setitem__") hL.typeIs slot_list_setitem (wpAny_call_entry slot_list_setitem hL.typeIs entry_list_setitem ?_ (args_list_setitem _ _ _)))
  show wpAny _ _ (Builtin.List.listSubscript? (.int k t) >>= _) _ _ s
  refine wpAny_bind (wpAny_listSubscript_int (fitsIndex_of h0 hfit) ?_)
  clear hfit
  obtain ⟨k, rfl⟩ := Int.eq_ofNat_of_zero_le h0
  have hk : k < items.size := by omega
  have hx : items[k]? = some items[k] := Array.getElem?_eq_getElem hk
  show wpAny _ _ ((seqItemAt l k >>= fun r => pure (r.map (k, ·))) >>= _) _ _ s
  refine wpAny_bind (wpAny_bind (wpAny_seqItemAt ho rfl (wpAny_pure ?_)))
  rw [hx]
  show wpAny _ _ (setSeqItemAt l k v >>= _) _ _ s
  have hfin : (s.heap.update l (Obj.mapSeq (·.setIfInBounds k v))).PlainList l (items.setIfInBounds k v) := by
    refine ⟨n, ?_⟩
    rw [Heap.get?_update_self (h := s.heap) (o := { cls := .type "list", data := .seq items n }) (Obj.mapSeq (·.setIfInBounds k v)) ho rfl]
    show some (Obj.mk _ _ (.seq (items.setIfInBounds k v) (if (items.setIfInBounds k v).size == items.size then n else n + 1)) _) = _
    rw [Array.size_setIfInBounds, beq_self_eq_true, if_pos rfl]
  refine wpAny_bind (wpAny_setSeqItemAt ho rfl ?_)
  first
    | exact wpAny_bind (wpAny_pure (wpAny_pure ⟨.none, rfl, wpAny_pure (hQ _ hfin (Heap.SameBut.update ..))⟩))
    | exact wpAny_pure ⟨.none, rfl, wpAny_pure (hQ _ hfin (Heap.SameBut.update ..))⟩
theorem Ex.setL {o i value : Expr} {spos pos : Pos} {a : Addr} {xs : List Dat} {d : Dat} {k : Nat} {P' : MM} {Q : OQ} (hv : Ev C δ P value d) (ho : Ev C δ P o (.ex (.ref a))) (hi : Ev C δ P i (.int (k : Int))) (hk : k < xs.length) (hfit : (k : Int) < 2 ^ 63) (hp : Put P a (.list xs) (.list (xs.set k d)) P') (hq : Q .next δ P')
    (hs : swapsWith value (some (.Subscript o i spos)) pos.line C.env = pure false := by rfl) (hin : C.inner = false := by rfl) : Ex C δ P (.Assign [.Subscript o i spos] value pos) Q := by
  refine ⟨fun R F s p => ?_⟩
  refine wpAny_Assign_Subscript (wpAny_mono (hv.run R F s p) (fun v s1 h1 => ?_) fun _ _ e => e) hs
  obtain ⟨F1, g1, e1⟩ := h1
  have p1 := p.gv g1
  refine wpAny_mono (ho.run R F1 s1 p1) (fun ov s2 h2 => ?_) fun _ _ e => e
  obtain ⟨F2, g2, e2⟩ := h2
  cases e2
  have p2 := p1.gv g2
  refine wpAny_mono (hi.run R F2 s2 p2) (fun iv s3 h3 => ?_) fun _ _ e => e
  obtain ⟨F3, g3, e3⟩ := h3
  cases e3
  have p3 := p2.gv g3
  obtain ⟨vs, hl, hels⟩ := p3.muta _ (hp.app R).mem
  refine setItem_plain hl (Int.natCast_nonneg k) hfit (by rw [hels.1]; exact Int.ofNat_lt.mpr hk) fun h' hl' hs' => ?_
  have g := (g1.trans g2).trans g3
  exact ⟨.next, δ, P', F3, upd_trans g.upd ⟨h', s3.toks, rfl⟩, g.le, p3.put (p3.own hin a (P_mem (C := C) (hp.app R).mem)) (hp.app R) hs'.extBut ⟨_, hl', hels.set k ((e1.mono g2.le).mono g3.le)⟩, trivial, hq⟩
theorem Ex.setD {o i value : Expr} {spos pos : Pos} {a : Addr} {es : List (Int × Int)} {k j : Int} {P' : MM} {Q : OQ} (hv : Ev C δ P value (.int j)) (ho : Ev C δ P o (.ex (.ref a))) (hi : Ev C δ P i (.int k)) (hl : es.length ≤ sizeLine) (hp : Put P a (.dict es) (.dict (putI es k j)) P') (hq : Q .next δ P')
    (hs : swapsWith value (some (.Subscript o i spos)) pos.line C.env = pure false := by rfl) (hin : C.inner = false := by rfl) : Ex C δ P (.Assign [.Subscript o i spos] value pos) Q := by
  refine ⟨fun R F s p => ?_⟩
  refine wpAny_Assign_Subscript (wpAny_mono (hv.run R F s p) (fun v s1 h1 => ?_) fun _ _ e => e) hs
  obtain ⟨F1, g1, e1⟩ := h1
  cases e1
  have p1 := p.gv g1
  refine wpAny_mono (ho.run R F1 s1 p1) (fun ov s2 h2 => ?_) fun _ _ e => e
  obtain ⟨F2, g2, e2⟩ := h2
  cases e2
  have p2 := p1.gv g2
  refine wpAny_mono (hi.run R F2 s2 p2) (fun iv s3 h3 => ?_) fun _ _ e => e
  obtain ⟨F3, g3, e3⟩ := h3
  cases e3
  have p3 := p2.gv g3
  obtain ⟨hsy, kvs, hm, hk⟩ := p3.muta _ (hp.app R).mem
  have g := (g1.trans g2).trans g3
  refine wpAny_setItem_pairs (knd := knd C.w) (k := k) (by simp [knd, intKind, Value.isInt]) hm (fun h' hm' hs' => ?_) (by rw [hk.length]; exact hl)
  exact ⟨.next, δ, P', F3, upd_trans g.upd ⟨h', s3.toks + 1, rfl⟩, g.le, p3.put (p3.own hin a (P_mem (C := C) (hp.app R).mem)) (hp.app R) hs'.extBut ⟨hsy, _, hm', hk.stored k j _⟩, trivial, hq⟩
theorem Ex.augD {o value : Expr} {x : Str} {px spos pos : Pos} {a : Addr} {es : List (Int × Int)} {k j j0 : Int} {P' : MM} {Q : OQ} (ho : Ev C δ P o (.ex (.ref a))) (hi : Ev C δ P (.Name x px) (.int k)) (hv : Ev C δ P value (.int j)) (hlk : lookI es k = some j0) (hl : es.length ≤ sizeLine)
    (hp : Put P a (.dict es) (.dict (putI es k (j0 + j))) P') (hq : Q .next δ P') (hin : C.inner = false := by rfl) : Ex C δ P (.AugAssign (.Subscript o (.Name x px) spos) .Add value pos) Q := by
  refine ⟨fun R F s p => ?_⟩
  refine wpAny_AugAssign_Subscript (wpAny_mono (ho.run R F s p) (fun ov s1 h1 => ?_) fun _ _ e => e)
  obtain ⟨F1, g1, e1⟩ := h1
  cases e1
  have p1 := p.gv g1
  refine wpAny_mono (hi.run R F1 s1 p1) (fun iv s2 h2 => ?_) fun _ _ e => e
  obtain ⟨F2, g2, e2⟩ := h2
  cases e2
  have p2 := p1.gv g2
  obtain ⟨hsy, kvs, hm, hk⟩ := p2.muta _ (hp.app R).mem
  rcases hk.look k with ⟨q1, q2⟩ | ⟨n', t', q1, q2⟩
  · rw [hlk] at q1; cases q1
  rw [hlk] at q1; cases q1
  refine wpAny_getItem_of (knd := knd C.w) (k := k) (by simp [knd, intKind, Value.isInt]) hm.mapOf q2 ?_
  have g3 : Gv F2 s2 F2 { s2 with toks := s2.toks + 1 } := Gv.tok g2.sub
  have p3 := p2.gv g3
  refine wpAny_mono (hv.run R F2 _ p3) (fun vv s4 h4 => ?_) fun _ _ e => e
  obtain ⟨F4, g4, e4⟩ := h4
  cases e4
  have p4 := p3.gv g4
  refine wpAny_iadd_int ?_
  have g5 : Gv F4 s4 F4 { s4 with toks := s4.toks + 1 } := Gv.tok g4.sub
  have p5 := p4.gv g5
  obtain ⟨hsy', kvs', hm', hk'⟩ := p5.muta _ (hp.app R).mem
  have g := (((g1.trans g2).trans g3).trans g4).trans g5
  refine wpAny_setItem_pairs (knd := knd C.w) (k := k) (by simp [knd, intKind, Value.isInt]) hm' (fun h' hm2 hs' => ?_) (by rw [hk'.length]; exact hl)
  exact ⟨.next, δ, P', F4, upd_trans g.upd ⟨h', _, rfl⟩, g.le, p5.put (p5.own hin a (P_mem (C := C) (hp.app R).mem)) (hp.app R) hs'.extBut ⟨hsy, _, hm2, hk'.stored k _ _⟩, trivial, hq⟩
theorem Ex.augN {x : Str} {px pos : Pos} {value : Expr} {a b : Int} {Q : OQ} (c : COk C mg mb n) (hx : IsVar C x) (hl : look δ x = some (.int a)) (hv : Ev C δ P value (.int b)) (hq : Q .next ((x, .int (a + b)) :: δ) P) : Ex C δ P (.AugAssign (.Name x px) .Add value pos) Q := by
  refine ⟨fun R F s p => ?_⟩
  refine wpAny_AugAssign_Name ?_
  obtain ⟨m, hn, hvs⟩ := p.vars
  obtain ⟨v, hvar, hd⟩ := hvs x _ hl
  cases hd with | int _ t0 =>
  have rest : wpAny (MG C) C.A (eval value C.env) (fun v s₂ => wpAny (MG C) C.A (inplaceOp .Add (.int a t0) v) (fun r s₃ => wpAny (MG C) C.A (storeName C.env x r) (fun _ => After C R F s Q .next) NoE s₃) NoE s₂) NoE s := by
    refine wpAny_mono (hv.run R F s p) (fun vv s1 h1 => ?_) fun _ _ e => e
    obtain ⟨F1, g1, e1⟩ := h1
    cases e1
    refine wpAny_iadd_int ?_
    have g2 := g1.trans (Gv.tok (tk := s1.toks + 1) g1.sub)
    refine wpAny_mono (store c (p.gv g2) hx (.int (a + b) _)) (fun _ s2 h2 => ?_) fun _ _ e => e
    exact ⟨.next, _, P, F1, upd_trans g2.upd h2.1, g2.le, h2.2, trivial, hq⟩
  rcases hvar with ⟨hk, hm⟩ | ⟨hk, c', hc, ho⟩
  · exact wpAny_loadName_local c.fn hk hn hm rest
  · exact wpAny_loadName_cell c.fn hk hc ho rest
theorem Ex.assignT {elts : List Expr} {k0 : Nat} {px pos : Pos} {e : Expr} {d : Dat} {δ' : VM} {Q : OQ} (ha : Asg C (.Tuple elts k0 px) d δ δ') (he : Ev C δ P e d) (hq : Q .next δ' P)
    (hs : swapsWithSole [.Tuple elts k0 px] e pos.line C.env = pure false := by rfl) (hw : swappedStores [.Tuple elts k0 px] e C.env = pure none := by rfl) : Ex C δ P (.Assign [.Tuple elts k0 px] e pos) Q := by
  refine ⟨fun R F s p => ?_⟩
  refine wpAny_Assign_stores (wpAny_mono (he.run R F s p) (fun v s1 h1 => ?_) fun _ _ e => e) hs hw
  obtain ⟨F1, g1, e1⟩ := h1
  show wpAny _ _ (PySem.assign (.Tuple elts k0 px) C.env v) _ _ s1
  refine wpAny_mono (ha.run (P ++ R) F1 s1 v (p.gv g1) e1) (fun _ s2 h2 => ?_) fun _ _ e => e
  obtain ⟨F2, u2, le2, p2⟩ := h2
  exact ⟨.next, δ', P, F2, upd_trans g1.upd u2, g1.le.trans le2, p2, trivial, hq⟩
end
end Mine

namespace Mine
/-- the loop of a comprehension, any target -/
theorem compLoop_any {prog : Program} {w : World} {A : Around} {R : Result → Shared → Prop} {s : Shared} {elt target iter : Expr} {ifs : List Expr} {scope : Scope} {pos : Pos} {it acc : Value} {env : Env} (I : Nat → Shared → Prop)
    (turn : ∀ n s, I n s → wpAny (model prog w) A (pyNext it) (fun r s₁ => match r with
      | none => R (.ok .next) s₁
      | some v => wpAny (model prog w) A (letOwnedTupleGo target it v) (fun _ s₁' => wpAny (model prog w) A (assign target env v) (fun _ s₂ =>
          wpAny (model prog w) A (forIn ifs true fun c r => if r = true then do let ok ← isTrue c env (eval c env); pure (ForInStep.yield ok) else pure (ForInStep.yield r)) (fun ok s₃ =>
            if ok = true then wpAny (model prog w) A (eval elt env) (fun x s₄ => wpAny (model prog w) A (call (.builtin "list.append") [acc, x]) (fun _ s₅ => ∃ m, m < n ∧ I m s₅) NoE s₄) NoE s₃ else ∃ m, m < n ∧ I m s₃) NoE s₂) NoE s₁') NoE s₁) NoE s)
    (n : Nat) (h : I n s) : codeAny (model prog w) A (.compLoop (.ListComp elt [⟨target, iter, ifs, 0⟩] scope pos) 0 it acc env) R s := by
  refine codeAny_loop rfl I (fun n s hI => ?_) n h
  show wpAny _ A ((compTurn (.ListComp elt [⟨target, iter, ifs, 0⟩] scope pos) 0 it acc env).onRaise (fun x => do noteFrame x env; theTreesLotGoes x)) _ _ s
  refine wpAny_noted ?_
  rw [compTurn_list]
  refine wpAny_bind (wpAny_standAt (wpAny_bind (wpAny_mono (turn n s hI) (fun r s₁ h₁ => ?_) fun _ _ h' => h'.elim)))
  cases r with
  | none => exact wpAny_pure h₁
  | some v =>
    refine wpAny_bind (wpAny_mono h₁ (fun _ s₁' h₁' => ?_) fun _ _ h' => h'.elim)
    refine wpAny_bind (wpAny_mono h₁' (fun _ s₂ h₂ => wpAny_bind (wpAny_mono h₂ (fun ok s₃ h₃ => ?_) fun _ _ h' => h'.elim)) fun _ _ h' => h'.elim)
    cases ok with
    | false => exact wpAny_pure ⟨rfl, h₃⟩
    | true => exact wpAny_bind (wpAny_bind (wpAny_mono h₃ (fun x s₄ h₄ => wpAny_bind (wpAny_mono h₄ (fun _ s₅ h₅ => wpAny_pure (wpAny_pure ⟨rfl, h₅⟩)) fun _ _ h' => h'.elim)) fun _ _ h' => h'.elim))
theorem compLoop_anyD {prog : Program} {w : World} {A : Around} {R : Result → Shared → Prop} {s : Shared} {kx vx target iter : Expr} {ifs : List Expr} {scope : Scope} {pos : Pos} {it : Value} {D : Addr} {env : Env} (I : Nat → Shared → Prop)
    (turn : ∀ n s, I n s → wpAny (model prog w) A (pyNext it) (fun r s₁ => match r with
      | none => R (.ok .next) s₁
      | some v => wpAny (model prog w) A (letOwnedTupleGo target it v) (fun _ s₁' => wpAny (model prog w) A (assign target env v) (fun _ s₂ =>
          wpAny (model prog w) A (forIn ifs true fun c r => if r = true then do let ok ← isTrue c env (eval c env); pure (ForInStep.yield ok) else pure (ForInStep.yield r)) (fun ok s₃ =>
            if ok = true then wpAny (model prog w) A (eval kx env) (fun kv s₄ => wpAny (model prog w) A (eval vx env) (fun vv s₅ => wpAny (model prog w) A (dictSet D kv vv) (fun _ s₆ => ∃ m, m < n ∧ I m s₆) NoE s₅) NoE s₄) NoE s₃ else ∃ m, m < n ∧ I m s₃) NoE s₂) NoE s₁') NoE s₁) NoE s)
    (n : Nat) (h : I n s) : codeAny (model prog w) A (.compLoop (.DictComp kx vx [⟨target, iter, ifs, 0⟩] scope pos) 0 it (.ref D) env) R s := by
  refine codeAny_loop rfl I (fun n s hI => ?_) n h
  show wpAny _ A ((compTurn (.DictComp kx vx [⟨target, iter, ifs, 0⟩] scope pos) 0 it (.ref D) env).onRaise (fun x => do noteFrame x env; theTreesLotGoes x)) _ _ s
  refine wpAny_noted ?_
  rw [compTurn_dict]
  refine wpAny_bind (wpAny_standAt (wpAny_bind (wpAny_mono (turn n s hI) (fun r s₁ h₁ => ?_) fun _ _ h' => h'.elim)))
  cases r with
  | none => exact wpAny_pure h₁
  | some v =>
    refine wpAny_bind (wpAny_mono h₁ (fun _ s₁' h₁' => ?_) fun _ _ h' => h'.elim)
    refine wpAny_bind (wpAny_mono h₁' (fun _ s₂ h₂ => wpAny_bind (wpAny_mono h₂ (fun ok s₃ h₃ => ?_) fun _ _ h' => h'.elim)) fun _ _ h' => h'.elim)
    cases ok with
    | false => exact wpAny_pure ⟨rfl, h₃⟩
    | true =>
      exact wpAny_bind (wpAny_bind (wpAny_mono h₃ (fun kv s₄ h₄ => wpAny_bind (wpAny_holding (wpAny_mono h₄ (fun vv s₅ h₅ => wpAny_bind (wpAny_standAt (wpAny_holding (wpAny_mono h₅ (fun _ s₆ h₆ => wpAny_pure ⟨rfl, h₆⟩) fun _ _ h' => h'.elim)))) fun _ _ h' => h'.elim))) fun _ _ h' => h'.elim))

/-- the tests of a comprehension -/
structure Tests (C : Cx) (δ : VM) (P : MM) (ifs : List Expr) (b : Bool) : Prop where
  run : ∀ R F s, Pre C δ (P ++ R) F s.heap →
  wpAny (MG C) C.A (forIn ifs true fun c r => if r = true then do let ok ← isTrue c C.env (eval c C.env); pure (ForInStep.yield ok) else pure (ForInStep.yield r)) (fun ok s' => ok = b ∧ ∃ F', Gv F s F' s') NoE s
theorem Tests.nil {C : Cx} {δ : VM} {P : MM} : Tests C δ P [] true := ⟨fun R F s p => wpAny_tests_nil ⟨rfl, F, Gv.refl p.sub⟩⟩
theorem Tests.one {C : Cx} {δ : VM} {P : MM} {e : Expr} {b : Bool} (h : Tr C δ P e b) : Tests C δ P [e] b := ⟨fun R F s p => wpAny_tests_one (h.run R F s p)⟩

/-- the context within a comprehension -/
def inC (C : Cx) (scope : Scope) (cl : List (Str × Addr)) (L : Addr) (h0 : Heap) (F0 : FH) : Cx := { w := C.w, A := C.A, env := compEnvC scope cl L C.env, h0 := h0, F0 := F0, inner := true }

/-- what a comprehension's scope must be -/
structure ScOk (C : Cx) (δ : VM) (scope : Scope) (cl : List (Str × Addr)) (δf : VM) : Prop where
  clos : closureFor scope C.env = pure cl
  kind : scope.kind = .function
  cell : ∀ y ∈ scope.names, y.2 ≠ .cell
  names : ∀ y ∈ scope.names, y.2 = .local → scope.names.lookup y.1 = some .local
  free : ∀ x d, look δf x = some d → look δ x = some d ∧ C.env.kindOf x = some .cell ∧ (compEnvC scope cl 0 C.env).kindOf x = some .cell ∧ cl.lookup x = C.env.cells.lookup x
  sub : ∀ p ∈ cl, p ∈ C.env.cells
  nd : (cl.map (·.1)).Nodup

section
variable {C : Cx} {δ δf : VM} {P R : MM} {mg mb : Str → Option Value} {n : Nat} {scope : Scope} {cl : List (Str × Addr)}
theorem cl_nodup : ∀ {cl : List (Str × Addr)}, (∀ p ∈ cl, p ∈ C.env.cells) → (cl.map (·.1)).Nodup → (C.env.cells.map (·.2)).Nodup → (cl.map (·.2)).Nodup
  | [], _, _, _ => List.nodup_nil
  | p :: r, hs, hn, hc => by
    rw [List.map_cons, List.nodup_cons] at hn ⊢
    refine ⟨fun hm => ?_, cl_nodup (fun q hq => hs q (.tail _ hq)) hn.2 hc⟩
    obtain ⟨q, hq, e⟩ := List.mem_map.mp hm
    have hx := nodup_snd hc (x := p.1) (y := q.1) (c := p.2) (hs p (.head _)) (by rw [← e]; exact hs q (.tail _ hq))
    exact hn.1 (List.mem_map.mpr ⟨q, hq, hx.symm⟩)
theorem inC_ok (c : COk C mg mb n) (S : ScOk C δ scope cl δf) {L : Addr} {h0 : Heap} {F0 : FH} (hb : ∀ b o, C.h0.get? b = some o → h0.get? b = some o) : COk (inC C scope cl L h0 F0) mg mb n :=
  ⟨S.kind, c.gl, c.bl, c.base.keeps hb, c.ar⟩
/-- entering a comprehension -/
theorem inC_pre (S : ScOk C δ scope cl δf) {ws : List Addr} {F F2 : FH} {s s2 : Shared} {h1 : Heap} {m : MD} {D L : Addr} (p : Pre C δ (P ++ R) F s.heap) (g : Gv F s F2 s2) (p2 : Pre C δ (P ++ (rawsOf s2.heap ws ++ R)) F2 s2.heap)
    (hw : ∀ a ∈ ws, ∃ o, s2.heap.get? a = some o) (hk : ∀ b o, s2.heap.get? b = some o → h1.get? b = some o) (hn : h1.Ns L fun x => ([] : List (Str × Value)).reverse.lookup x) (hD : s2.heap.get? D = none) (hL : s2.heap.get? L = none) (hDL : D ≠ L)
    (hm : MDen C.w F2 h1 D m) : Pre (inC C scope cl L s.heap F) δf ((P ++ [(D, m)]) ++ (rawsOf h1 ws ++ R)) F2 h1 := by
  have hraw : rawsOf h1 ws = rawsOf s2.heap ws := rawsOf_eq fun a ha => by obtain ⟨o, e⟩ := hw a ha; exact ⟨o, e, hk _ _ e⟩
  have hmem : ∀ a, a ∈ muts (inC C scope cl L s.heap F) ((P ++ [(D, m)]) ++ (rawsOf h1 ws ++ R)) → a = L ∨ a = D ∨ a ∈ muts C (P ++ (rawsOf s2.heap ws ++ R)) := fun a ha => by
    rw [hraw] at ha
    simp only [muts, List.map_append, List.mem_cons, List.mem_append, List.map_cons, List.map_nil, List.not_mem_nil, or_false] at ha ⊢
    rcases ha with h | h | (h | h) | h | h
    · exact .inl h
    · obtain ⟨q, hq, rfl⟩ := List.mem_map.mp h
      exact .inr (.inr (.inr (.inl (List.mem_map.mpr ⟨q, S.sub q hq, rfl⟩))))
    · exact .inr (.inr (.inr (.inr (.inl h))))
    · exact .inr (.inl h)
    · exact .inr (.inr (.inr (.inr (.inr (.inl h)))))
    · exact .inr (.inr (.inr (.inr (.inr (.inr h)))))
  have hFn : ∀ a, s2.heap.get? a = none → F2 a = none := fun a ha => fresh_F g.sub ha
  have hnot : ∀ a, s2.heap.get? a = none → a ∉ muts C (P ++ (rawsOf s2.heap ws ++ R)) := fun a ha z => by
    obtain ⟨o, e⟩ := p2.mutSome a z
    rw [ha] at e; cases e
  obtain ⟨m0, hn0, hv0⟩ := p2.vars
  refine { base := fun b o e => hk b o (g.keep b o e), sub := fun a o e => hk a o (g.sub a o e), le0 := g.le, fresh := fun a o e => g.fresh a o e, vars := ⟨_, hn, fun x d e => ?_⟩, cells := fun q hq => ?_, muta := fun q hq => ?_, nodup := ?_, notF := fun a ha => ?_, own := fun h => ?_, ownL := none_keep g hL }
  · obtain ⟨e1, k1, k2, k3⟩ := S.free x d e
    obtain ⟨v, hv, hd⟩ := hv0 x d e1
    rcases hv with ⟨q, _⟩ | ⟨_, c, q, o, ho, hc⟩
    · rw [k1] at q; cases q
    · exact ⟨v, .inr ⟨k2, c, k3.trans q, o, hk _ _ ho, hc⟩, hd⟩
  · obtain ⟨v, o, e1, e2⟩ := p2.cells q (S.sub q hq)
    exact ⟨v, o, hk _ _ e1, e2⟩
  · rcases List.mem_append.mp hq with hq | hq
    · rcases List.mem_append.mp hq with hq | hq
      · exact (p2.muta q (List.mem_append_left _ hq)).le (Le.refl _) fun o e => hk _ _ e
      · rw [List.mem_singleton.mp hq]; exact hm
    · rw [hraw] at hq
      exact (p2.muta q (List.mem_append_right _ hq)).le (Le.refl _) fun o e => hk _ _ e
  · have nd := p2.nodup
    rw [hraw]
    unfold muts at nd ⊢
    rw [List.nodup_cons, List.nodup_append] at nd
    have hX : (cl.map (·.2) ++ (P ++ (rawsOf s2.heap ws ++ R)).map (·.1)).Nodup := by
      rw [List.nodup_append]
      refine ⟨cl_nodup (C := C) S.sub S.nd nd.2.1, nd.2.2.1, fun a ha b hb => ?_⟩
      obtain ⟨q, hq, rfl⟩ := List.mem_map.mp ha
      exact nd.2.2.2 _ (List.mem_map.mpr ⟨q, S.sub q hq, rfl⟩) b hb
    have hXm : ∀ a, a ∈ cl.map (·.2) ++ (P ++ (rawsOf s2.heap ws ++ R)).map (·.1) → a ∈ muts C (P ++ (rawsOf s2.heap ws ++ R)) := fun a ha => by
      unfold muts
      rcases List.mem_append.mp ha with h | h
      · obtain ⟨q, hq, rfl⟩ := List.mem_map.mp h
        exact List.mem_cons_of_mem _ (List.mem_append_left _ (List.mem_map.mpr ⟨q, S.sub q hq, rfl⟩))
      · exact List.mem_cons_of_mem _ (List.mem_append_right _ h)
    have e : (cl.map (·.2) ++ ((P ++ [(D, m)]) ++ (rawsOf s2.heap ws ++ R)).map (·.1)).Perm (D :: (cl.map (·.2) ++ (P ++ (rawsOf s2.heap ws ++ R)).map (·.1))) := by
      simp only [List.map_append, List.map_cons, List.map_nil, List.append_assoc, List.singleton_append]
      refine List.Perm.trans (List.Perm.append_left _ List.perm_middle) List.perm_middle
    show (L :: (cl.map (·.2) ++ ((P ++ [(D, m)]) ++ (rawsOf s2.heap ws ++ R)).map (·.1))).Nodup
    rw [List.nodup_cons]
    refine ⟨fun z => ?_, e.nodup_iff.mpr (List.nodup_cons.mpr ⟨fun z => hnot D hD (hXm D z), hX⟩)⟩
    rcases List.mem_cons.mp (e.mem_iff.mp z) with h | h
    · exact hDL h.symm
    · exact hnot L hL (hXm L h)
  · rcases hmem a ha with rfl | rfl | h
    · exact hFn _ hL
    · exact hFn _ hD
    · exact p2.notF a h
  · cases h
theorem inC_gv {L : Addr} {δi : VM} {Q : MM} {F Fi : FH} {s si : Shared} (p : Pre (inC C scope cl L s.heap F) δi Q Fi si.heap) (u : ∃ h' tk, si = { s with heap := h', toks := tk }) : Gv F s Fi si :=
  ⟨u, p.base, p.le0, p.sub, p.fresh⟩

/-- the end of a comprehension's loop -/
structure CEnd (C : Cx) (F : FH) (s : Shared) (D L : Addr) (d : Dat) (s' : Shared) : Prop where
  main : ∃ F', Gv F s F' s' ∧ Den C.w F' (.ref D) d ∧ F' L = none
  hL : s.heap.get? L = none
  ns : ∃ m, s'.heap.Ns L m
/-- the turns of a list comprehension -/
def Turns (C : Cx) (P : MM) (scope : Scope) (cl : List (Str × Addr)) (δf : VM) (tgt : Expr) (ifs : List Expr) (elt : Expr) (xs : List Dat) (f : Dat → Option Dat) (mg mb : Str → Option Value) (n : Nat) : Prop :=
  ∀ (L : Addr) (h0 : Heap) (F0 : FH), COk (inC C scope cl L h0 F0) mg mb n → ∀ (i : Nat) (d : Dat), xs[i]? = some d → ∃ δ1, Asg (inC C scope cl L h0 F0) tgt d δf δ1 ∧ Cov δ1 δf ∧
    ((∃ r, f d = some r ∧ Tests (inC C scope cl L h0 F0) δ1 P ifs true ∧ Ev (inC C scope cl L h0 F0) δ1 P elt r) ∨ (f d = none ∧ Tests (inC C scope cl L h0 F0) δ1 P ifs false))
theorem take_filterMap {f : Dat → Option Dat} {xs : List Dat} {i : Nat} {d : Dat} (h : xs[i]? = some d) : (xs.take (i + 1)).filterMap f = (xs.take i).filterMap f ++ (f d).toList := by
  rw [List.take_add_one, h, List.filterMap_append]
  cases q : f d <;> simp [q]
theorem Put.left {P1 P2 P2' : MM} {a : Addr} {m m' : MD} (h : Put P2 a m m' P2') : Put (P1 ++ P2) a m m' (P1 ++ P2') := by
  induction P1 with
  | nil => exact h
  | cons q P1 ih => exact .tail ih
theorem comp_core {elt iter tgt : Expr} {ifs : List Expr} {pos : Pos} {xs : List Dat} {f : Dat → Option Dat} {I D L : Addr} {ws : List Addr} {St : Nat → FH → Heap → Prop} {Dp : FH → Heap → Prop} {HD : VM → MM → Prop} {F F2 : FH} {s s2 s4 : Shared}
    (c : COk C mg mb n) (S : ScOk C δ scope cl δf) (W : ItP C tgt I ws xs St Dp True) (p : Pre C δ (P ++ R) F s.heap) (g : Gv F s F2 s2) (hw : ∀ a ∈ ws, s.heap.get? a = none)
    (hdp : ∀ δi Pi R' Fi h, HD δi Pi → Pre C δi (Pi ++ R') Fi h → Le F2 Fi → Dp Fi h) (hHD : HD δ P) (turn : Turns C P scope cl δf tgt ifs elt xs f mg mb n) (hsz : xs.length ≤ sizeLine)
    (u4 : ∃ h' tk, s4 = { s with heap := h', toks := tk }) (p4 : Pre (inC C scope cl L s.heap F) δf ((P ++ [(D, .list [])]) ++ (rawsOf s4.heap ws ++ R)) F2 s4.heap) (st : St 0 F2 s4.heap) (hD : s.heap.get? D = none) (hL : s.heap.get? L = none) :
    codeAny (MG C) C.A (.compLoop (.ListComp elt [⟨tgt, iter, ifs, 0⟩] scope pos) 0 (.ref I) (.ref D) (compEnvC scope cl L C.env)) (fun r s' => match r with | .ok _ => CEnd C F s D L (.list (xs.filterMap f)) s' | .error _ => False) s4 := by
  have c' : COk (inC C scope cl L s.heap F) mg mb n := inC_ok c S p.base
  refine compLoop_any (fun k s' => ∃ i Fi, k = xs.length + 1 - i ∧ i ≤ xs.length ∧ (∃ h' tk, s' = { s with heap := h', toks := tk }) ∧ Le F2 Fi ∧
    Pre (inC C scope cl L s.heap F) δf ((P ++ [(D, .list ((xs.take i).filterMap f))]) ++ (rawsOf s'.heap ws ++ R)) Fi s'.heap ∧ St i Fi s'.heap) ?_ (xs.length + 1) ⟨0, F2, rfl, Nat.zero_le _, u4, Le.refl _, by simpa using p4, st⟩
  rintro k s' ⟨i, Fi, rfl, hle, hu, le, pi, sti⟩
  have hFw : ∀ a ∈ ws, Fi a = none := fun a ha => pi.notF a (by rw [muts_append, List.map_append, rawsOf_keys]; exact .inr (List.mem_append_left _ ha))
  have gi := inC_gv pi hu
  have dp := hdp δ P R Fi s'.heap hHD (p.gv gi) le
  by_cases hlt : i < xs.length
  · have hx : xs[i]? = some xs[i] := by simp [hlt]
    refine wpAny_mono (W.next i xs[i] Fi s' hx sti dp pi.sub hFw) (fun r s3 h3 => ?_) fun _ _ e => e
    obtain ⟨v, rfl, h3⟩ := h3
    refine wpAny_mono h3 (fun _ s5 h5 => ?_) fun _ _ e => e
    obtain ⟨F5, stp, hd, st5⟩ := h5
    have p5 := pi.itstep stp (W.has _ _ _ st5) hw
    obtain ⟨δ1, asg, cov, tf⟩ := turn L s.heap F c' i xs[i] hx
    refine wpAny_mono (asg.run _ F5 s5 v p5 hd) (fun _ s6 h6 => ?_) fun _ _ e => e
    obtain ⟨F6, u6, le6, p6⟩ := h6
    have up6 := upd_trans hu (upd_trans stp.upd u6)
    have hws5 := W.has _ _ _ st5
    rcases tf with ⟨r, hr, tests, ev⟩ | ⟨hr, tests⟩
    · have p6' : Pre (inC C scope cl L s.heap F) δ1 (P ++ ([(D, MD.list ((xs.take i).filterMap f))] ++ (rawsOf s5.heap ws ++ R))) F6 s6.heap := by rw [← List.append_assoc]; exact p6
      refine wpAny_mono (tests.run _ F6 s6 p6') (fun ok s7 h7 => ?_) fun _ _ e => e
      obtain ⟨rfl, F7, g7⟩ := h7
      simp only [if_true]
      have p7 := p6'.gv g7
      refine wpAny_mono (ev.run _ F7 s7 p7) (fun x s8 h8 => ?_) fun _ _ e => e
      obtain ⟨F8, g8, e8⟩ := h8
      have p8 := p7.gv g8
      obtain ⟨vs, hl8, he8⟩ := p8.muta (D, .list ((xs.take i).filterMap f)) (List.mem_append_right _ (List.mem_append_left _ (List.Mem.head _)))
      have hsz8 : vs.size ≤ sizeLine := by
        rw [he8.1]
        exact Nat.le_trans (List.length_filterMap_le _ _) (Nat.le_trans (List.length_take_le _ _) (by omega))
      refine wpAny_list_append_plain hl8 (fun h9 hl9 hs9 => ?_) hsz8
      have put : Put (P ++ ([(D, MD.list ((xs.take i).filterMap f))] ++ (rawsOf s5.heap ws ++ R))) D (.list ((xs.take i).filterMap f)) (.list ((xs.take i).filterMap f ++ [r])) (P ++ ([(D, MD.list ((xs.take i).filterMap f ++ [r]))] ++ (rawsOf s5.heap ws ++ R))) := Put.left .head
      have p9 := p8.put hD put hs9.extBut (h' := h9) ⟨_, hl9, he8.push e8⟩
      have e9 : (xs.take (i + 1)).filterMap f = (xs.take i).filterMap f ++ [r] := by rw [take_filterMap hx, hr]; rfl
      rw [← List.append_assoc, ← e9] at p9
      have same := p9.raws hws5
      refine ⟨xs.length + 1 - (i + 1), by omega, i + 1, F8, rfl, hlt, upd_trans up6 (upd_trans g7.upd (upd_trans g8.upd ⟨h9, s8.toks, rfl⟩)), le.trans (stp.le.trans (le6.trans (g7.le.trans g8.le))), ?_, W.frame _ _ _ _ _ st5 same (le6.trans (g7.le.trans g8.le)) p9.sub⟩
      rw [rawsOf_eq fun a ha => by obtain ⟨o, e⟩ := hws5 a ha; exact ⟨o, e, same a ha o e⟩]
      exact p9.cov cov
    · have p6' : Pre (inC C scope cl L s.heap F) δ1 (P ++ ([(D, MD.list ((xs.take i).filterMap f))] ++ (rawsOf s5.heap ws ++ R))) F6 s6.heap := by rw [← List.append_assoc]; exact p6
      refine wpAny_mono (tests.run _ F6 s6 p6') (fun ok s7 h7 => ?_) fun _ _ e => e
      obtain ⟨rfl, F7, g7⟩ := h7
      simp only [Bool.false_eq_true, if_false]
      have p7 := p6.gv g7
      have e9 : (xs.take (i + 1)).filterMap f = (xs.take i).filterMap f := by rw [take_filterMap hx, hr]; simp
      rw [← e9] at p7
      have same := p7.raws hws5
      refine ⟨xs.length + 1 - (i + 1), by omega, i + 1, F7, rfl, hlt, upd_trans up6 g7.upd, le.trans (stp.le.trans (le6.trans g7.le)), ?_, W.frame _ _ _ _ _ st5 same (le6.trans g7.le) p7.sub⟩
      rw [rawsOf_eq fun a ha => by obtain ⟨o, e⟩ := hws5 a ha; exact ⟨o, e, same a ha o e⟩]
      exact p7.cov cov
  · have hi' : i = xs.length := by omega
    subst hi'
    refine wpAny_mono (W.done Fi s' sti dp pi.sub hFw) (fun r s3 h3 => ?_) fun _ _ e => e
    obtain ⟨rfl, stp⟩ := h3
    show CEnd C F s D L (.list (xs.filterMap f)) s3
    have hmemD : (D, MD.list ((xs.take xs.length).filterMap f)) ∈ (P ++ [(D, MD.list ((xs.take xs.length).filterMap f))]) ++ (rawsOf s'.heap ws ++ R) := List.mem_append_left _ (List.mem_append_right _ (List.Mem.head _))
    have hm := pi.muta _ hmemD
    obtain ⟨o, ho, hf⟩ := hm.freeze rfl
    have hDm : D ∈ muts (inC C scope cl L s.heap F) ((P ++ [(D, MD.list ((xs.take xs.length).filterMap f))]) ++ (rawsOf s'.heap ws ++ R)) := P_mem (C := inC C scope cl L s.heap F) hmemD
    have hFD := pi.notF D hDm
    have nd := pi.nodup
    have hDw : D ∉ ws := fun z => by
      have h2 := P_nodup pi
      rw [List.map_append, List.map_append, List.map_append, rawsOf_keys, List.nodup_append] at h2
      exact h2.2.2 D (List.mem_append_right _ (List.Mem.head _)) D (List.mem_append_left _ z) rfl
    have hLw : L ∉ ws := fun z => by
      unfold muts at nd
      rw [List.nodup_cons] at nd
      refine nd.1 (List.mem_append_right _ ?_)
      obtain ⟨q, hq, e⟩ : ∃ q ∈ rawsOf s'.heap ws, q.1 = L := by
        have : L ∈ (rawsOf s'.heap ws).map (·.1) := by rw [rawsOf_keys]; exact z
        exact List.mem_map.mp this
      exact List.mem_map.mpr ⟨q, List.mem_append_right _ (List.mem_append_left _ hq), e⟩
    have hLD : L ≠ D := fun z => by
      unfold muts at nd
      rw [List.nodup_cons] at nd
      exact nd.1 (List.mem_append_right _ (List.mem_map.mpr ⟨_, hmemD, z.symm⟩))
    have hFL : Fi L = none := pi.notF L (List.Mem.head _)
    have keep : ∀ b o, s.heap.get? b = some o → s3.heap.get? b = some o := fun b o' e => stp.keep b o' (fun z => by rw [hw b z] at e; cases e) (gi.keep b o' e)
    refine ⟨⟨Fi.add D o, ⟨upd_trans hu stp.upd, keep, gi.le.trans (FH.add_le hFD), fun b o' e => ?_, fun b o' e => ?_⟩, ?_, ?_⟩, hL, ?_⟩
    · rcases FH.add_cases e with ⟨rfl, rfl⟩ | z
      · exact stp.keep _ _ hDw ho
      · exact stp.sub b o' z
    · rcases FH.add_cases e with ⟨rfl, rfl⟩ | z
      · exact .inr hD
      · exact gi.fresh b o' z
    · have := hf _ (FH.add_le hFD) (FH.add_self ..)
      simp only [List.take_length] at this
      exact this
    · unfold FH.add; rw [if_neg hLD]; exact hFL
    · obtain ⟨m, hn, _⟩ := pi.vars
      exact ⟨m, hn.at fun o e => stp.keep _ _ hLw e⟩
end
end Mine

namespace Mine
section
variable {C : Cx} {δ δf : VM} {P R : MM} {mg mb : Str → Option Value} {n : Nat} {scope : Scope} {cl : List (Str × Addr)}

/-- the dict of pairs -/
def dictOf (l : List (Int × Int)) : List (Int × Int) := l.foldl (fun es p => putI es p.1 p.2) []
theorem dictOf_snoc (l : List (Int × Int)) (k j : Int) : dictOf (l ++ [(k, j)]) = putI (dictOf l) k j := by simp [dictOf]
theorem putI_length (es : List (Int × Int)) (k j : Int) : (putI es k j).length ≤ es.length + 1 := by
  unfold putI
  split
  · simp
  · simp
theorem dictOf_length (l : List (Int × Int)) : (dictOf l).length ≤ l.length := by
  have : ∀ (l es : List (Int × Int)), (l.foldl (fun es p => putI es p.1 p.2) es).length ≤ es.length + l.length := by
    intro l
    induction l with
    | nil => intro es; simp
    | cons p l ih =>
      intro es
      have h1 := ih (putI es p.1 p.2)
      have h2 := putI_length es p.1 p.2
      simp only [List.foldl_cons, List.length_cons]
      omega
  have := this l []
  simpa [dictOf] using this

def TurnsD (C : Cx) (P : MM) (scope : Scope) (cl : List (Str × Addr)) (δf : VM) (tgt : Expr) (ifs : List Expr) (kx vx : Expr) (xs : List Dat) (f : Dat → Option (Int × Int)) (mg mb : Str → Option Value) (n : Nat) : Prop :=
  ∀ (L : Addr) (h0 : Heap) (F0 : FH), COk (inC C scope cl L h0 F0) mg mb n → ∀ (i : Nat) (d : Dat), xs[i]? = some d → ∃ δ1, Asg (inC C scope cl L h0 F0) tgt d δf δ1 ∧ Cov δ1 δf ∧
    ((∃ k j, f d = some (k, j) ∧ Tests (inC C scope cl L h0 F0) δ1 P ifs true ∧ Ev (inC C scope cl L h0 F0) δ1 P kx (.int k) ∧ Ev (inC C scope cl L h0 F0) δ1 P vx (.int j)) ∨ (f d = none ∧ Tests (inC C scope cl L h0 F0) δ1 P ifs false))
theorem take_filterMapD {f : Dat → Option (Int × Int)} {xs : List Dat} {i : Nat} {d : Dat} (h : xs[i]? = some d) : (xs.take (i + 1)).filterMap f = (xs.take i).filterMap f ++ (f d).toList := by
  rw [List.take_add_one, h, List.filterMap_append]
  cases q : f d <;> simp [q]
theorem comp_coreD {kx vx iter tgt : Expr} {ifs : List Expr} {pos : Pos} {xs : List Dat} {f : Dat → Option (Int × Int)} {I D L : Addr} {ws : List Addr} {St : Nat → FH → Heap → Prop} {Dp : FH → Heap → Prop} {HD : VM → MM → Prop} {F F2 : FH} {s s2 s4 : Shared}
    (c : COk C mg mb n) (S : ScOk C δ scope cl δf) (W : ItP C tgt I ws xs St Dp True) (p : Pre C δ (P ++ R) F s.heap) (g : Gv F s F2 s2) (hw : ∀ a ∈ ws, s.heap.get? a = none)
    (hdp : ∀ δi Pi R' Fi h, HD δi Pi → Pre C δi (Pi ++ R') Fi h → Le F2 Fi → Dp Fi h) (hHD : HD δ P) (turn : TurnsD C P scope cl δf tgt ifs kx vx xs f mg mb n) (hsz : xs.length ≤ sizeLine)
    (u4 : ∃ h' tk, s4 = { s with heap := h', toks := tk }) (p4 : Pre (inC C scope cl L s.heap F) δf ((P ++ [(D, .dict [])]) ++ (rawsOf s4.heap ws ++ R)) F2 s4.heap) (st : St 0 F2 s4.heap) (hD : s.heap.get? D = none) (hL : s.heap.get? L = none) :
    codeAny (MG C) C.A (.compLoop (.DictComp kx vx [⟨tgt, iter, ifs, 0⟩] scope pos) 0 (.ref I) (.ref D) (compEnvC scope cl L C.env)) (fun r s' => match r with | .ok _ => CEnd C F s D L (.dict (dictOf (xs.filterMap f))) s' | .error _ => False) s4 := by
  have c' : COk (inC C scope cl L s.heap F) mg mb n := inC_ok c S p.base
  refine compLoop_anyD (fun k s' => ∃ i Fi, k = xs.length + 1 - i ∧ i ≤ xs.length ∧ (∃ h' tk, s' = { s with heap := h', toks := tk }) ∧ Le F2 Fi ∧
    Pre (inC C scope cl L s.heap F) δf ((P ++ [(D, .dict (dictOf ((xs.take i).filterMap f)))]) ++ (rawsOf s'.heap ws ++ R)) Fi s'.heap ∧ St i Fi s'.heap) ?_ (xs.length + 1) ⟨0, F2, rfl, Nat.zero_le _, u4, Le.refl _, by simpa [dictOf] using p4, st⟩
  rintro k s' ⟨i, Fi, rfl, hle, hu, le, pi, sti⟩
  have hFw : ∀ a ∈ ws, Fi a = none := fun a ha => pi.notF a (by rw [muts_append, List.map_append, rawsOf_keys]; exact .inr (List.mem_append_left _ ha))
  have gi := inC_gv pi hu
  have dp := hdp δ P R Fi s'.heap hHD (p.gv gi) le
  by_cases hlt : i < xs.length
  · have hx : xs[i]? = some xs[i] := by simp [hlt]
    refine wpAny_mono (W.next i xs[i] Fi s' hx sti dp pi.sub hFw) (fun r s3 h3 => ?_) fun _ _ e => e
    obtain ⟨v, rfl, h3⟩ := h3
    refine wpAny_mono h3 (fun _ s5 h5 => ?_) fun _ _ e => e
    obtain ⟨F5, stp, hd, st5⟩ := h5
    have p5 := pi.itstep stp (W.has _ _ _ st5) hw
    obtain ⟨δ1, asg, cov, tf⟩ := turn L s.heap F c' i xs[i] hx
    refine wpAny_mono (asg.run _ F5 s5 v p5 hd) (fun _ s6 h6 => ?_) fun _ _ e => e
    obtain ⟨F6, u6, le6, p6⟩ := h6
    have up6 := upd_trans hu (upd_trans stp.upd u6)
    have hws5 := W.has _ _ _ st5
    rcases tf with ⟨kk, j, hr, tests, ev, ev2⟩ | ⟨hr, tests⟩
    · have p6' : Pre (inC C scope cl L s.heap F) δ1 (P ++ ([(D, MD.dict (dictOf ((xs.take i).filterMap f)))] ++ (rawsOf s5.heap ws ++ R))) F6 s6.heap := by rw [← List.append_assoc]; exact p6
      refine wpAny_mono (tests.run _ F6 s6 p6') (fun ok s7 h7 => ?_) fun _ _ e => e
      obtain ⟨rfl, F7, g7⟩ := h7
      simp only [if_true]
      have p7 := p6'.gv g7
      refine wpAny_mono (ev.run _ F7 s7 p7) (fun x s8 h8 => ?_) fun _ _ e => e
      obtain ⟨F8, g8, e8⟩ := h8
      cases e8
      have p8 := p7.gv g8
      refine wpAny_mono (ev2.run _ F8 s8 p8) (fun x s9 h9 => ?_) fun _ _ e => e
      obtain ⟨F9, g9, e9⟩ := h9
      cases e9
      have p9' := p8.gv g9
      obtain ⟨hsy, kvs, hm, hk⟩ := p9'.muta (D, .dict (dictOf ((xs.take i).filterMap f))) (List.mem_append_right _ (List.mem_append_left _ (List.Mem.head _)))
      have hsz8 : kvs.length ≤ sizeLine := by
        rw [hk.length]
        exact Nat.le_trans (dictOf_length _) (Nat.le_trans (List.length_filterMap_le _ _) (Nat.le_trans (List.length_take_le _ _) (by omega)))
      refine wpAny_dictSet_pairs (knd := knd C.w) (k := kk) (hsz := hsz8) (by simp [knd, intKind, Value.isInt]) hm fun h10 hm10 hs10 => ?_
      have put : Put (P ++ ([(D, MD.dict (dictOf ((xs.take i).filterMap f)))] ++ (rawsOf s5.heap ws ++ R))) D (.dict (dictOf ((xs.take i).filterMap f))) (.dict (putI (dictOf ((xs.take i).filterMap f)) kk j)) (P ++ ([(D, MD.dict (putI (dictOf ((xs.take i).filterMap f)) kk j))] ++ (rawsOf s5.heap ws ++ R))) := Put.left .head
      have p10 := p9'.put hD put hs10.extBut (h' := h10) ⟨hsy, _, hm10, hk.stored kk j _⟩
      have e10 : dictOf ((xs.take (i + 1)).filterMap f) = putI (dictOf ((xs.take i).filterMap f)) kk j := by rw [take_filterMapD hx, hr]; exact dictOf_snoc _ _ _
      rw [← List.append_assoc, ← e10] at p10
      have same := p10.raws hws5
      refine ⟨xs.length + 1 - (i + 1), by omega, i + 1, F9, rfl, hlt, upd_trans up6 (upd_trans g7.upd (upd_trans g8.upd (upd_trans g9.upd ⟨h10, _, rfl⟩))), le.trans (stp.le.trans (le6.trans (g7.le.trans (g8.le.trans g9.le)))), ?_, W.frame _ _ _ _ _ st5 same (le6.trans (g7.le.trans (g8.le.trans g9.le))) p10.sub⟩
      rw [rawsOf_eq fun a ha => by obtain ⟨o, e⟩ := hws5 a ha; exact ⟨o, e, same a ha o e⟩]
      exact p10.cov cov
    · have p6' : Pre (inC C scope cl L s.heap F) δ1 (P ++ ([(D, MD.dict (dictOf ((xs.take i).filterMap f)))] ++ (rawsOf s5.heap ws ++ R))) F6 s6.heap := by rw [← List.append_assoc]; exact p6
      refine wpAny_mono (tests.run _ F6 s6 p6') (fun ok s7 h7 => ?_) fun _ _ e => e
      obtain ⟨rfl, F7, g7⟩ := h7
      simp only [Bool.false_eq_true, if_false]
      have p7 := p6.gv g7
      have e9 : (xs.take (i + 1)).filterMap f = (xs.take i).filterMap f := by rw [take_filterMapD hx, hr]; simp
      rw [← e9] at p7
      have same := p7.raws hws5
      refine ⟨xs.length + 1 - (i + 1), by omega, i + 1, F7, rfl, hlt, upd_trans up6 g7.upd, le.trans (stp.le.trans (le6.trans g7.le)), ?_, W.frame _ _ _ _ _ st5 same (le6.trans g7.le) p7.sub⟩
      rw [rawsOf_eq fun a ha => by obtain ⟨o, e⟩ := hws5 a ha; exact ⟨o, e, same a ha o e⟩]
      exact p7.cov cov
  · have hi' : i = xs.length := by omega
    subst hi'
    refine wpAny_mono (W.done Fi s' sti dp pi.sub hFw) (fun r s3 h3 => ?_) fun _ _ e => e
    obtain ⟨rfl, stp⟩ := h3
    show CEnd C F s D L (.dict (dictOf (xs.filterMap f))) s3
    have hmemD : (D, MD.dict (dictOf ((xs.take xs.length).filterMap f))) ∈ (P ++ [(D, MD.dict (dictOf ((xs.take xs.length).filterMap f)))]) ++ (rawsOf s'.heap ws ++ R) := List.mem_append_left _ (List.mem_append_right _ (List.Mem.head _))
    have hm := pi.muta _ hmemD
    obtain ⟨o, ho, hf⟩ := hm.freeze rfl
    have hDm : D ∈ muts (inC C scope cl L s.heap F) ((P ++ [(D, MD.dict (dictOf ((xs.take xs.length).filterMap f)))]) ++ (rawsOf s'.heap ws ++ R)) := P_mem (C := inC C scope cl L s.heap F) hmemD
    have hFD := pi.notF D hDm
    have nd := pi.nodup
    have hDw : D ∉ ws := fun z => by
      have h2 := P_nodup pi
      rw [List.map_append, List.map_append, List.map_append, rawsOf_keys, List.nodup_append] at h2
      exact h2.2.2 D (List.mem_append_right _ (List.Mem.head _)) D (List.mem_append_left _ z) rfl
    have hLw : L ∉ ws := fun z => by
      unfold muts at nd
      rw [List.nodup_cons] at nd
      refine nd.1 (List.mem_append_right _ ?_)
      obtain ⟨q, hq, e⟩ : ∃ q ∈ rawsOf s'.heap ws, q.1 = L := by
        have : L ∈ (rawsOf s'.heap ws).map (·.1) := by rw [rawsOf_keys]; exact z
        exact List.mem_map.mp this
      exact List.mem_map.mpr ⟨q, List.mem_append_right _ (List.mem_append_left _ hq), e⟩
    have hLD : L ≠ D := fun z => by
      unfold muts at nd
      rw [List.nodup_cons] at nd
      exact nd.1 (List.mem_append_right _ (List.mem_map.mpr ⟨_, hmemD, z.symm⟩))
    have hFL : Fi L = none := pi.notF L (List.Mem.head _)
    have keep : ∀ b o, s.heap.get? b = some o → s3.heap.get? b = some o := fun b o' e => stp.keep b o' (fun z => by rw [hw b z] at e; cases e) (gi.keep b o' e)
    refine ⟨⟨Fi.add D o, ⟨upd_trans hu stp.upd, keep, gi.le.trans (FH.add_le hFD), fun b o' e => ?_, fun b o' e => ?_⟩, ?_, ?_⟩, hL, ?_⟩
    · rcases FH.add_cases e with ⟨rfl, rfl⟩ | z
      · exact stp.keep _ _ hDw ho
      · exact stp.sub b o' z
    · rcases FH.add_cases e with ⟨rfl, rfl⟩ | z
      · exact .inr hD
      · exact gi.fresh b o' z
    · have := hf _ (FH.add_le hFD) (FH.add_self ..)
      simp only [List.take_length] at this
      exact this
    · unfold FH.add; rw [if_neg hLD]; exact hFL
    · obtain ⟨m, hn, _⟩ := pi.vars
      exact ⟨m, hn.at fun o e => stp.keep _ _ hLw e⟩

theorem comp_list {elt iter tgt : Expr} {ifs : List Expr} {pos : Pos} {xs : List Dat} {f : Dat → Option Dat} {HD : VM → MM → Prop} {F : FH} {s : Shared} {RR : Value → Addr → Result → Shared → Prop}
    (c : COk C mg mb n) (S : ScOk C δ scope cl δf) (hi : IterOf C δ P tgt iter xs HD True) (hHD : HD δ P) (turn : Turns C P scope cl δf tgt ifs elt xs f mg mb n) (hsz : xs.length ≤ sizeLine) (p : Pre C δ (P ++ R) F s.heap)
    (hRR : ∀ D L fl s', CEnd C F s D L (.list (xs.filterMap f)) s' → RR (.ref D) L (.ok fl) s') :
    wpAny (MG C) C.A (eval iter C.env) (fun xv s₁ => wpAny (MG C) C.A (pyIter xv) (fun it s₂ => wpAny (MG C) C.A (newList []) (fun acc s₃ => wpAny (MG C) C.A (newFunctionEnv scope C.env.globals cl [] C.env.qual none .none (some C.env)) (fun cenv s₄ =>
      codeAny (MG C) C.A (.compStart (.ListComp elt [⟨tgt, iter, ifs, 0⟩] scope pos) 0 it acc { cenv with scope := relabel scope C.env }) (RR acc cenv.locals) s₄) NoE s₃) NoE s₂) NoE s₁) NoE s := by
  refine wpAny_mono (hi.run R F s p) (fun x s1 h1 => wpAny_mono h1 (fun it s2 h2 => ?_) fun _ _ e => e) fun _ _ e => e
  obtain ⟨I, ws, St, Dp, F2, rfl, W, g, st, nd, hw, hF, hdp⟩ := h2
  refine wpAny_newObj_type (wpAny_newFunctionEnv S.cell (by intro y hy; simp at hy) (fun h₁ hns₁ hsb₁ => ?_) S.kind)
  dsimp only at hns₁ hsb₁ ⊢
  generalize hH2 : s2.heap.push { cls := .type "list", dict := none, data := .seq ([] : List Value).toArray } = H2 at hns₁ hsb₁ ⊢
  have hC : H2.objs.size = s2.heap.objs.size + 1 := by rw [← hH2, Heap.size_push]
  have hDC : s2.heap.objs.size ≠ H2.objs.size := by rw [hC]; exact Nat.ne_of_lt (Nat.lt_succ_self _)
  have below : ∀ b, b < s2.heap.objs.size → b ≠ H2.objs.size := fun b hb => by rw [hC]; exact Nat.ne_of_lt (Nat.lt_succ_of_lt hb)
  have old : ∀ b o, s2.heap.get? b = some o → h₁.get? b = some o := fun b o e => hsb₁.extBut b o (below b (Heap.lt_size e)) (Heap.get?_push_of_some _ (hH2 ▸ Heap.get?_push_of_some _ e))
  have hacc : h₁.PlainList s2.heap.objs.size #[] := ⟨_, hsb₁.extBut _ _ hDC (Heap.get?_push_of_some _ (hH2 ▸ Heap.get?_push_size _ rfl))⟩
  have hwh := W.has _ _ _ st
  have p2 := addRaws p g nd hw hF hwh
  have hD2 : s2.heap.get? s2.heap.objs.size = none := fresh_none _ (Nat.le_refl _)
  have hL2 : s2.heap.get? H2.objs.size = none := fresh_none _ (by rw [hC]; exact Nat.le_succ _)
  have p4 := inC_pre (D := s2.heap.objs.size) (L := H2.objs.size) (m := .list []) S p g p2 hwh old hns₁ hD2 hL2 hDC ⟨_, hacc, Els.nil⟩
  have st1 : St 0 F2 h₁ := W.frame _ _ _ _ _ st (fun a _ o e => old a o e) (Le.refl _) p4.sub
  have core : codeAny (MG C) C.A (.compLoop (.ListComp elt [⟨tgt, iter, ifs, 0⟩] scope pos) 0 (.ref I) (.ref s2.heap.objs.size) (compEnvC scope cl H2.objs.size C.env)) (RR (.ref s2.heap.objs.size) H2.objs.size) { s2 with heap := h₁, toks := s2.toks + ([] : List (Str × Value)).length } := by
    refine codeAny_mono (comp_core (s2 := s2) (s4 := { s2 with heap := h₁, toks := s2.toks + ([] : List (Str × Value)).length }) c S W p g hw hdp hHD turn hsz (upd_trans g.upd ⟨_, _, rfl⟩) p4 st1 (none_keep g hD2) (none_keep g hL2)) fun r s' h => ?_
    cases r with
    | ok fl => exact hRR _ _ _ _ h
    | error x => exact h.elim
  exact codeAny_compStart_list core (wpAny_mono (W.self trivial 0 F2 _ (fun v s' => v = .ref I ∧ s' = _) st1 ⟨rfl, rfl⟩) (fun v s' h => by obtain ⟨rfl, rfl⟩ := h; exact core) fun _ _ e => e.elim)
theorem comp_dict {kx vx iter tgt : Expr} {ifs : List Expr} {pos : Pos} {xs : List Dat} {f : Dat → Option (Int × Int)} {HD : VM → MM → Prop} {F : FH} {s : Shared} {RR : Value → Addr → Result → Shared → Prop}
    (c : COk C mg mb n) (S : ScOk C δ scope cl δf) (hi : IterOf C δ P tgt iter xs HD True) (hHD : HD δ P) (turn : TurnsD C P scope cl δf tgt ifs kx vx xs f mg mb n) (hsz : xs.length ≤ sizeLine) (p : Pre C δ (P ++ R) F s.heap)
    (hRR : ∀ D L fl s', CEnd C F s D L (.dict (dictOf (xs.filterMap f))) s' → RR (.ref D) L (.ok fl) s') :
    wpAny (MG C) C.A (eval iter C.env) (fun xv s₁ => wpAny (MG C) C.A (pyIter xv) (fun it s₂ => wpAny (MG C) C.A newDict (fun acc s₃ => wpAny (MG C) C.A (newFunctionEnv scope C.env.globals cl [] C.env.qual none .none (some C.env)) (fun cenv s₄ =>
      codeAny (MG C) C.A (.compStart (.DictComp kx vx [⟨tgt, iter, ifs, 0⟩] scope pos) 0 it acc { cenv with scope := relabel scope C.env }) (RR acc cenv.locals) s₄) NoE s₃) NoE s₂) NoE s₁) NoE s := by
  refine wpAny_mono (hi.run R F s p) (fun x s1 h1 => wpAny_mono h1 (fun it s2 h2 => ?_) fun _ _ e => e) fun _ _ e => e
  obtain ⟨I, ws, St, Dp, F2, rfl, W, g, st, nd, hw, hF, hdp⟩ := h2
  refine wpAny_newObj_type (wpAny_newFunctionEnv S.cell (by intro y hy; simp at hy) (fun h₁ hns₁ hsb₁ => ?_) S.kind)
  dsimp only at hns₁ hsb₁ ⊢
  have hnew : (s2.heap.push { cls := .type "dict", dict := none, data := .dict #[] }).DictOf (knd C.w) s2.heap.objs.size [] := Heap.DictOf.new s2.heap
  generalize hH2 : s2.heap.push { cls := .type "dict", dict := none, data := .dict #[] } = H2 at hns₁ hsb₁ hnew ⊢
  have hC : H2.objs.size = s2.heap.objs.size + 1 := by rw [← hH2, Heap.size_push]
  have hDC : s2.heap.objs.size ≠ H2.objs.size := by rw [hC]; exact Nat.ne_of_lt (Nat.lt_succ_self _)
  have below : ∀ b, b < s2.heap.objs.size → b ≠ H2.objs.size := fun b hb => by rw [hC]; exact Nat.ne_of_lt (Nat.lt_succ_of_lt hb)
  have old : ∀ b o, s2.heap.get? b = some o → h₁.get? b = some o := fun b o e => hsb₁.extBut b o (below b (Heap.lt_size e)) (Heap.get?_push_of_some _ (hH2 ▸ Heap.get?_push_of_some _ e))
  have hacc : h₁.DictOf (knd C.w) s2.heap.objs.size [] := hnew.at fun o e => hsb₁.extBut _ _ hDC (Heap.get?_push_of_some _ e)
  have hwh := W.has _ _ _ st
  have p2 := addRaws p g nd hw hF hwh
  have hD2 : s2.heap.get? s2.heap.objs.size = none := fresh_none _ (Nat.le_refl _)
  have hL2 : s2.heap.get? H2.objs.size = none := fresh_none _ (by rw [hC]; exact Nat.le_succ _)
  have p4 := inC_pre (D := s2.heap.objs.size) (L := H2.objs.size) (m := .dict []) S p g p2 hwh old hns₁ hD2 hL2 hDC ⟨ne_sys c (p.gv g).base (Nat.le_refl _), _, hacc, .nil⟩
  have st1 : St 0 F2 h₁ := W.frame _ _ _ _ _ st (fun a _ o e => old a o e) (Le.refl _) p4.sub
  have core : codeAny (MG C) C.A (.compLoop (.DictComp kx vx [⟨tgt, iter, ifs, 0⟩] scope pos) 0 (.ref I) (.ref s2.heap.objs.size) (compEnvC scope cl H2.objs.size C.env)) (RR (.ref s2.heap.objs.size) H2.objs.size) { s2 with heap := h₁, toks := s2.toks + ([] : List (Str × Value)).length } := by
    refine codeAny_mono (comp_coreD (s2 := s2) (s4 := { s2 with heap := h₁, toks := s2.toks + ([] : List (Str × Value)).length }) c S W p g hw hdp hHD turn hsz (upd_trans g.upd ⟨_, _, rfl⟩) p4 st1 (none_keep g hD2) (none_keep g hL2)) fun r s' h => ?_
    cases r with
    | ok fl => exact hRR _ _ _ _ h
    | error x => exact h.elim
  exact codeAny_compStart_dict core (wpAny_mono (W.self trivial 0 F2 _ (fun v s' => v = .ref I ∧ s' = _) st1 ⟨rfl, rfl⟩) (fun v s' h => by obtain ⟨rfl, rfl⟩ := h; exact core) fun _ _ e => e.elim)
/-- the context's end -/
theorem CEnd.let {F : FH} {s s' : Shared} {D L : Addr} {d : Dat} (h : CEnd C F s D L d s') {h' : Heap} (hs : Heap.SameBut L s'.heap h') : ∃ F', Gv F s F' { s' with heap := h' } ∧ Den C.w F' (.ref D) d := by
  obtain ⟨F', g, e, hL⟩ := h.main
  refine ⟨F', ⟨upd_trans g.upd ⟨h', s'.toks, rfl⟩, fun b o q => hs.extBut b o (fun z => ?_) (g.keep b o q), g.le, fun b o q => hs.extBut b o (fun z => ?_) (g.sub b o q), g.fresh⟩, e⟩
  · rw [z, h.hL] at q; cases q
  · rw [z, hL] at q; cases q
/-- scratch let go -/
theorem Pre.forget {F : FH} {h h' : Heap} {a : Addr} {m : MD} (p : Pre C δ ((a, m) :: P) F h) (h0a : C.h0.get? a = none) (hs : Heap.ExtBut a h h') : Pre C δ P F h' := by
  have ha : a ∈ muts C ((a, m) :: P) := P_mem (C := C) (List.Mem.head _)
  have st := p.stay ha h0a hs
  have q := p.drop (P' := P) (List.Sublist.cons _ (List.Sublist.refl _))
  obtain ⟨mm, hn, hv⟩ := q.vars
  have hal : C.env.locals ≠ a := fun z => loc_not_P p (List.Mem.head _) z.symm
  have hnd := P_nodup p
  rw [List.map_cons, List.nodup_cons] at hnd
  refine { base := st.base, sub := st.sub, le0 := p.le0, fresh := p.fresh, vars := ⟨mm, hn.at fun o e => st.oth _ _ hal e, fun y e q => ?_⟩, cells := fun r hq => ?_, muta := fun r hr => ?_, nodup := q.nodup, notF := q.notF, own := q.own, ownL := q.ownL }
  · obtain ⟨u, hu, he⟩ := hv y e q
    refine ⟨u, ?_, he⟩
    rcases hu with ⟨k1, k2⟩ | ⟨k1, c1, k2, o, k3, k4⟩
    · exact .inl ⟨k1, k2⟩
    · exact .inr ⟨k1, c1, k2, o, st.oth _ _ (fun w => cell_not_P p (lookup_mem k2) (List.Mem.head _) w.symm) k3, k4⟩
  · obtain ⟨u, o, e1, e2⟩ := q.cells _ hq
    exact ⟨u, o, st.oth _ _ (fun w => cell_not_P p hq (List.Mem.head _) w.symm) e1, e2⟩
  · exact (q.muta r hr).le (Le.refl _) fun o e => st.oth _ _ (fun z => hnd.1 (List.mem_map.mpr ⟨r, hr, z⟩)) e

theorem Ev.listComp {elt iter tgt : Expr} {ifs : List Expr} {pos : Pos} {xs : List Dat} {f : Dat → Option Dat} {HD : VM → MM → Prop}
    (c : COk C mg mb n) (S : ScOk C δ scope cl δf) (hi : IterOf C δ P tgt iter xs HD True) (hHD : HD δ P) (hsz : xs.length ≤ sizeLine) (turn : Turns C P scope cl δf tgt ifs elt xs f mg mb n) 
    (hnames : ∀ y ∈ scope.names, y.2 = .local → scope.names.lookup y.1 = some .local) (hs : ∀ x, foldedSetIterable iter C.env x = pure x := by intro _; rfl) : Ev C δ P (.ListComp elt [⟨tgt, iter, ifs, 0⟩] scope pos) (.list (xs.filterMap f)) := by
  refine ⟨fun R F s p => ?_⟩
  unfold Gives
  rw [eval_ListComp]
  refine wpAny_comprehension_free (use := none) rfl hs S.clos S.kind hnames (comp_list (RR := fun acc L => compPost (MG C) C.A NoE none (fun v s' => ∃ F', Gv F s F' s' ∧ Den C.w F' v (.list (xs.filterMap f))) acc L) c S hi hHD turn hsz p fun D L fl s' h => ?_)
  obtain ⟨m, hn⟩ := h.ns
  exact ⟨m, hn, fun h' hs' => h.let hs'⟩
theorem Ev.dictComp {kx vx iter tgt : Expr} {ifs : List Expr} {pos : Pos} {xs : List Dat} {f : Dat → Option (Int × Int)} {HD : VM → MM → Prop}
    (c : COk C mg mb n) (S : ScOk C δ scope cl δf) (hi : IterOf C δ P tgt iter xs HD True) (hHD : HD δ P) (hsz : xs.length ≤ sizeLine) (turn : TurnsD C P scope cl δf tgt ifs kx vx xs f mg mb n)
    (hnames : ∀ y ∈ scope.names, y.2 = .local → scope.names.lookup y.1 = some .local) (hs : ∀ x, foldedSetIterable iter C.env x = pure x := by intro _; rfl) : Ev C δ P (.DictComp kx vx [⟨tgt, iter, ifs, 0⟩] scope pos) (.dict (dictOf (xs.filterMap f))) := by
  refine ⟨fun R F s p => ?_⟩
  unfold Gives
  rw [arm_eval_DictComp]
  refine wpAny_comprehension_free (use := none) rfl hs S.clos S.kind hnames (comp_dict (RR := fun acc L => compPost (MG C) C.A NoE none (fun v s' => ∃ F', Gv F s F' s' ∧ Den C.w F' v (.dict (dictOf (xs.filterMap f)))) acc L) c S hi hHD turn hsz p fun D L fl s' h => ?_)
  obtain ⟨m, hn⟩ := h.ns
  exact ⟨m, hn, fun h' hs' => h.let hs'⟩
theorem Ex.assignComp {x : Str} {px spos : Pos} {elt iter tgt : Expr} {ifs : List Expr} {pos : Pos} {xs : List Dat} {f : Dat → Option Dat} {HD : VM → MM → Prop} {Q : OQ}
    (c : COk C mg mb n) (hx : IsVar C x) (S : ScOk C δ scope cl δf) (hi : IterOf C δ P tgt iter xs HD True) (hHD : HD δ P) (hsz : xs.length ≤ sizeLine) (turn : Turns C P scope cl δf tgt ifs elt xs f mg mb n) (hq : Q .next ((x, .list (xs.filterMap f)) :: δ) P)
    (hnames : ∀ y ∈ scope.names, y.2 = .local → scope.names.lookup y.1 = some .local) (hs : ∀ x, foldedSetIterable iter C.env x = pure x := by intro _; rfl)
    (hsw : swapsWith (.ListComp elt [⟨tgt, iter, ifs, 0⟩] scope pos) (some (.Name x px)) spos.line C.env = pure true := by rfl) : Ex C δ P (.Assign [.Name x px] (.ListComp elt [⟨tgt, iter, ifs, 0⟩] scope pos) spos) Q := by
  refine ⟨fun R F s p => ?_⟩
  rw [exec_Assign_Name_used _ _ _ _ hsw]
  refine wpAny_bind (wpAny_standAt (wpAny_bind ?_))
  rw [arm_evalThenUse_ListComp]
  refine wpAny_bind (wpAny_mono (wpAny_comprehension_free (use := some (PySem.assign (.Name x px) C.env)) (Q := fun _ s' => After C R F s Q .next s') rfl hs S.clos S.kind hnames
    (comp_list (RR := fun acc L => compPost (MG C) C.A NoE (some (PySem.assign (.Name x px) C.env)) (fun _ s' => After C R F s Q .next s') acc L) c S hi hHD turn hsz p fun D L fl s' h => ?_)) (fun _ s' hq => wpAny_pure (wpAny_pure hq)) fun _ _ e => e)
  obtain ⟨m, hn⟩ := h.ns
  obtain ⟨F', g, e, hFL⟩ := h.main
  obtain ⟨o, _, _, ho, _⟩ := id hn
  have p1 : Pre C δ ((L, .raw o) :: (P ++ R)) F' s'.heap := Pre.alloc p g ho h.hL hFL
  show wpAny _ _ (PySem.assign (.Name x px) C.env (.ref D)) _ _ s'
  refine wpAny_assign_Name (wpAny_mono (store c p1 hx e) (fun _ s2 h2 => ?_) fun _ _ e => e)
  have hL2 : s2.heap.get? L = some o := h2.2.muta _ (List.Mem.head _)
  have h0L : C.h0.get? L = none := by
    cases z : C.h0.get? L with
    | none => rfl
    | some o' => have := h.hL; rw [p.base L o' z] at this; cases this
  refine ⟨m, hn.at fun o' e' => by rw [ho] at e'; cases e'; exact hL2, fun h' hs' => ?_⟩
  exact ⟨.next, _, P, F', upd_trans g.upd (upd_trans h2.1 ⟨h', s2.toks, rfl⟩), g.le, h2.2.forget h0L hs'.extBut, trivial, hq⟩
end
end Mine

namespace Mine
theorem Els.denL {w : World} {F : FH} : ∀ {l : List Value} {xs : List Dat}, Els w F l.toArray xs → DenL w F l xs
  | [], [], _ => trivial
  | [], _ :: _, h => by have := h.1; simp at this
  | _ :: _, [], h => by have := h.1; simp at this
  | v :: l, d :: xs, h => ⟨h.2 0 v d (by simp) (by simp), Els.denL ⟨by have := h.1; simp at this ⊢; exact this, fun i u e hu he => h.2 (i + 1) u e (by simpa using hu) (by simpa using he)⟩⟩
theorem DenL.erase {w : World} {F : FH} : ∀ {l : List Value} {xs : List Dat} (j : Nat), DenL w F l xs → DenL w F (l.eraseIdx j) (xs.eraseIdx j)
  | [], [], _, _ => by simp [DenL]
  | [], _ :: _, _, h => h.elim
  | _ :: _, [], _, h => h.elim
  | v :: l, d :: xs, 0, h => h.2
  | v :: l, d :: xs, j + 1, h => ⟨h.1, DenL.erase j h.2⟩
theorem Els.erase {w : World} {F : FH} {vs : Array Value} {xs : List Dat} (h : Els w F vs xs) (j : Nat) : Els w F (vs.eraseIdxIfInBounds j) (xs.eraseIdx j) := by
  obtain ⟨l⟩ := vs
  rw [List.eraseIdxIfInBounds_toArray]
  exact (h.denL.erase j).els
theorem Els.pick {w : World} {F : FH} {vs : Array Value} {xs : List Dat} (h : Els w F vs xs) : ∀ idx : List Nat, DenL w F (idx.filterMap (vs[·]?)) (idx.filterMap (xs[·]?))
  | [] => trivial
  | i :: r => by
    rw [List.filterMap_cons, List.filterMap_cons]
    by_cases q : i < xs.length
    · obtain ⟨v, hv, hd⟩ := h.get (i := i) (d := xs[i]) (by simp [q])
      rw [hv, List.getElem?_eq_getElem q]
      exact ⟨hd, h.pick r⟩
    · rw [List.getElem?_eq_none (by omega), Array.getElem?_eq_none (by rw [h.1]; omega)]
      exact h.pick r
theorem map_eraseIdx {α β : Type} (f : α → β) : ∀ (l : List α) (j : Nat), (l.eraseIdx j).map f = (l.map f).eraseIdx j
  | [], _ => rfl
  | _ :: _, 0 => rfl
  | x :: l, j + 1 => by simp [List.eraseIdx, map_eraseIdx f l j]
def pickD (xs : List Dat) (lo hi st : Option Int) : List Dat := (sliceRange (sliceBounds lo hi st xs.length).1 (sliceBounds lo hi st xs.length).2.1 (sliceBounds lo hi st xs.length).2.2).filterMap (xs[·]?)
section
variable {C : Cx} {δ : VM} {P : MM} {mg mb : Str → Option Value} {n : Nat}

/-- a part of a slice -/
structure EvP (C : Cx) (δ : VM) (P : MM) (e : Option Expr) (k : Option Int) : Prop where
  run : ∀ R F s, Pre C δ (P ++ R) F s.heap → wpAny (MG C) C.A (evalPart e C.env) (fun v s' => (∃ q : Option (Int × Tok), v = partValue q ∧ q.map (·.1) = k) ∧ ∃ F', Gv F s F' s') NoE s
theorem EvP.none : EvP C δ P none none := ⟨fun R F s p => wpAny_pure ⟨⟨.none, rfl, rfl⟩, F, Gv.refl p.sub⟩⟩
theorem EvP.some {e : Expr} {i : Int} (h : Ev C δ P e (.int i)) : EvP C δ P (some e) (some i) := by
  refine ⟨fun R F s p => ?_⟩
  rw [evalPart_some]
  refine wpAny_mono (h.run R F s p) (fun v s1 h1 => ?_) fun _ _ e => e
  obtain ⟨F1, g1, e1⟩ := h1
  cases e1 with | int _ t =>
  exact ⟨⟨.some (i, t), rfl, rfl⟩, F1, g1⟩
theorem isPart {q : Option (Int × Tok)} {k : Option Int} (h : q.map (·.1) = k) : IsPart (partValue q) k := by
  subst h
  cases q with
  | none => exact .none
  | some p => exact .int _ _
theorem slice_ev {lo up st : Option Expr} {a b d : Option Int} {p0 : Pos} (ha : EvP C δ P lo a) (hb : EvP C δ P up b) (hd : EvP C δ P st d) {R : MM} {F : FH} {s : Shared} (p : Pre C δ (P ++ R) F s.heap) :
    wpAny (MG C) C.A (eval (.Slice lo up st p0) C.env) (fun v s' => ∃ S qa qb qd F', v = .ref S ∧ Option.map Prod.fst qa = a ∧ Option.map Prod.fst qb = b ∧ Option.map Prod.fst qd = d ∧ Gv F s F' s' ∧ ∃ o, s'.heap.get? S = some o ∧ o.cls = .type "slice" ∧ o.data = .fields #[partValue qa, partValue qb, partValue qd]) NoE s := by
  refine wpAny_Slice (wpAny_mono (ha.run R F s p) (fun v1 s1 h1 => ?_) fun _ _ e => e)
  obtain ⟨⟨qa, rfl, ea⟩, F1, g1⟩ := h1
  refine wpAny_mono (hb.run R F1 s1 (p.gv g1)) (fun v2 s2 h2 => ?_) fun _ _ e => e
  obtain ⟨⟨qb, rfl, eb⟩, F2, g2⟩ := h2
  refine wpAny_mono (hd.run R F2 s2 ((p.gv g1).gv g2)) (fun v3 s3 h3 => ?_) fun _ _ e => e
  obtain ⟨⟨qd, rfl, ed⟩, F3, g3⟩ := h3
  exact ⟨_, qa, qb, qd, F3, rfl, ea, eb, ed, ((g1.trans g2).trans g3).trans (Gv.same (tk := s3.toks) g3.sub fun b o e => Heap.get?_push_of_some _ e), _, Heap.get?_push_size _ rfl, rfl, rfl⟩
theorem Ev.sliceL {value st : Expr} {lo up : Option Expr} {p0 pos : Pos} {a b : Option Int} {d : Int} {xs : List Dat} {d1 : Dat} (hv : Ev C δ P value d1) (hL : AsL P d1 xs) (ha : EvP C δ P lo a) (hb : EvP C δ P up b) (hd : EvP C δ P (some st) (some d)) (h0 : d ≠ 0) (hsz : xs.length ≤ sizeLine)
    (ht : ∀ o r, letTemporaryGo value o r = pure () := by intro _ _; rfl) : Ev C δ P (.Subscript value (.Slice lo up (some st) p0) pos) (.list (pickD xs a b (some d))) := by
  refine ⟨fun R F s p => ?_⟩
  refine wpAny_Subscript_Slice_step (T := "list") list_getitem_lookup (wpAny_mono (hv.run R F s p) (fun v s1 h1 => ?_) fun _ _ e => e) ht
  obtain ⟨F1, g1, e1⟩ := h1
  have p1 := p.gv g1
  refine wpAny_mono (slice_ev ha hb hd p1) (fun i s2 h2 => ?_) fun _ _ e => e
  obtain ⟨S, qa, qb, qd, F2, rfl, ea, eb, ed, g2, hS⟩ := h2
  have p2 := p1.gv g2
  obtain ⟨l, vs, rfl, hl, hels⟩ := hL.get p2 (e1.mono g2.le)
  refine ⟨hl.isList.typeIs, wpAny_getItem_list_slice (vl := partValue qa) (vu := partValue qb) (vs := partValue qd) (lo := a) (hi := b) (st := some d) hl.isList hS (isPart ea) (isPart eb) (isPart ed) (fun z => h0 (Option.some.inj z)) ?_ (by rw [hels.1]; exact hsz)⟩
  have hn := fresh_none s2.heap (Nat.le_refl s2.heap.objs.size)
  refine ⟨_, (g1.trans g2).trans (Gv.add (tk := s2.toks) (a := s2.heap.objs.size) (o := { cls := .type "list", data := .seq (slicePick vs a b (some d)) }) g2.sub (fun b o e => Heap.get?_push_of_some _ e) hn (Heap.get?_push_size _ rfl)), ?_⟩
  have he := (hels.pick (sliceRange (sliceBounds a b (some d) vs.size).1 (sliceBounds a b (some d) vs.size).2.1 (sliceBounds a b (some d) vs.size).2.2)).els
  have hE : Els C.w F2 (slicePick vs a b (some d)) (pickD xs a b (some d)) := by
    unfold slicePick pickD
    rw [hels.1] at he ⊢; exact he
  have hE' := hE.mono (FH.add_le (o := { cls := .type "list", data := .seq (slicePick vs a b (some d)) }) (fresh_F g2.sub hn))
  exact .list (n := 0) (FH.add_self ..) hE'.1 hE'.2
def cutS (x : Str) (a b : Option Int) : Str := ⟨((PySem.Builtin.Str.strSliceIndices a b 1 x.length).filterMap (x.cps[·]?)).toArray⟩
theorem Ev.sliceS {value : Expr} {lo up : Option Expr} {p0 pos : Pos} {a b : Option Int} {x : Str} (hv : Ev C δ P value (.str x)) (ha : EvP C δ P lo a) (hb : EvP C δ P up b) (hne : ((PySem.Builtin.Str.strSliceIndices a b 1 x.length).length == x.length) = false) (hlong : (cutS x a b).length ≤ sizeLine)
    (ht : ∀ o r, letTemporaryGo value o r = pure () := by intro _ _; rfl) : Ev C δ P (.Subscript value (.Slice lo up none p0) pos) (.str (cutS x a b)) := by
  refine ⟨fun R F s p => ?_⟩
  refine wpAny_Subscript_Slice (T := "str") PySem.F.slot_str_getitem.lookup (wpAny_mono (hv.run R F s p) (fun v s1 h1 => ?_) fun _ _ e => e) ht
  obtain ⟨F1, g1, e1⟩ := h1
  cases e1 with | str _ t =>
  have p1 := p.gv g1
  refine wpAny_mono (slice_ev ha hb EvP.none p1) (fun i s2 h2 => ?_) fun _ _ e => e
  obtain ⟨S, qa, qb, qd, F2, rfl, ea, eb, ed, g2, hS⟩ := h2
  have hq : qd = none := by cases qd <;> simp at ed ⊢
  subst hq
  refine ⟨typeIs_str _ x t, wpAny_getItem_str_slice (l := qa) (u := qb) (st := none) hS rfl ?_⟩
  have e : sliceMade x t qa qb none = .str (cutS x a b) := by
    unfold sliceMade slicePicked cutS
    simp only [ea, eb, Option.map_none, Option.getD_none, hne, Bool.and_false, Bool.false_eq_true, if_false]
  rw [e]
  first
    | exact ⟨hlong, F2, (g1.trans g2).trans (Gv.tok g2.sub), .str _ _⟩
    | exact ⟨hlong, fun t' k => ⟨F2, (g1.trans g2).trans (Gv.tok g2.sub), .str _ _⟩⟩
    | exact fun t' k => ⟨F2, (g1.trans g2).trans (Gv.tok g2.sub), .str _ _⟩
    | exact ⟨F2, (g1.trans g2).trans (Gv.tok g2.sub), .str _ _⟩
theorem Ev.sliceB {value : Expr} {lo up : Option Expr} {p0 pos : Pos} {a b : Option Int} {x : Array UInt8} (hv : Ev C δ P value (.bytes x)) (ha : EvP C δ P lo a) (hb : EvP C δ P up b) (hsz : x.size ≤ sizeLine)
    (ht : ∀ o r, letTemporaryGo value o r = pure () := by intro _ _; rfl) : Ev C δ P (.Subscript value (.Slice lo up none p0) pos) (.bytes (KBy.picked x a b)) := by
  refine ⟨fun R F s p => ?_⟩
  refine wpAny_Subscript_Slice (T := "bytes") FB.slot_bytes_getitem.lookup (wpAny_mono (hv.run R F s p) (fun v s1 h1 => ?_) fun _ _ e => e) ht
  obtain ⟨F1, g1, e1⟩ := h1
  cases e1 with | bytes _ t =>
  have p1 := p.gv g1
  refine wpAny_mono (slice_ev ha hb EvP.none p1) (fun i s2 h2 => ?_) fun _ _ e => e
  obtain ⟨S, qa, qb, qd, F2, rfl, ea, eb, ed, g2, hS⟩ := h2
  have hq : qd = none := by cases qd <;> simp at ed ⊢
  subst hq
  exact ⟨typeIs_bytes _ x t, getItem_meets (typeIs_bytes _ _ _) (by decide) FB.slot_bytes_getitem FB.entry_bytes_getitem (FB.args_bytes_getitem_2 _ _) (KBc.meets_slice2 x t _ (isPart ea) (isPart eb))
    ⟨hS, Nat.le_trans (KBc.size_picked_le x a b) hsz, fun t' k => ⟨F2, (g1.trans g2).trans (Gv.tok g2.sub), .bytes _ _⟩⟩⟩

/-- bytes -/
def bytesL (b : Array UInt8) : List Dat := b.toList.map fun c => .int (c.toNat : Int)
theorem ItP.bytes (c : COk C mg mb n) (I : Addr) (b : Array UInt8) (t : Tok) (x : Str) (px : Pos) : ItP C (.Name x px) I [I] (bytesL b) (fun i _ h => KBw.IsBytesIter h I b t i) (fun _ _ => True) True where
  self := fun _ i F s Q st h => KBw.pyIter_self st h
  frame := fun i F h F' h' st hk _ _ => by obtain ⟨o, e, r⟩ := st; exact ⟨o, hk I (by simp) o e, r⟩
  has := fun i F h st b hb => by rw [List.mem_singleton.mp hb]; obtain ⟨o, e, _⟩ := st; exact ⟨o, e⟩
  next := fun i d F s hx st dp hs hF => by
    unfold bytesL at hx
    rw [List.getElem?_map, Option.map_eq_some_iff] at hx
    obtain ⟨c', hx, rfl⟩ := hx
    refine KBw.next_item st (by simpa using hx) fun h' hit hs' => ⟨_, rfl, ?_⟩
    refine wpAny_pure ⟨F, ⟨⟨h', s.toks + 1, rfl⟩, fun b o hb e => hs'.extBut b o (fun z => hb (by rw [z]; simp)) e, Le.refl _, fun b o e => hs'.extBut b o (fun z => ?_) (hs b o e), fun _ _ e => .inl e⟩, .int _ _, hit⟩
    rw [z, hF I (by simp)] at e; cases e
  done := fun F s st dp hs hF => by
    have e : b[(bytesL b).length]? = none := Array.getElem?_eq_none (by simp [bytesL])
    refine KBw.next_end c.ar.hh st e fun h' hs' => ⟨rfl, ⟨⟨h', s.toks, rfl⟩, fun b o hb e => hs' b o (fun z => hb (by rw [z]; simp)) e, Le.refl _, fun b o e => hs' b o (fun z => ?_) (hs b o e), fun _ _ e => .inl e⟩⟩
    rw [z, hF I (by simp)] at e; cases e
theorem IterOf.bytes {x : Str} {px : Pos} {e : Expr} {b : Array UInt8} (c : COk C mg mb n) (he : Ev C δ P e (.bytes b)) : IterOf C δ P (.Name x px) e (bytesL b) (fun _ _ => True) True := by
  refine ⟨fun R F s p => ?_⟩
  refine wpAny_mono (he.run R F s p) (fun v s1 h1 => ?_) fun _ _ e => e
  obtain ⟨F1, g1, e1⟩ := h1
  cases e1 with | bytes _ t =>
  refine KBw.pyIter_bytes ?_
  have hn := fresh_none s1.heap (Nat.le_refl s1.heap.objs.size)
  refine ⟨s1.heap.objs.size, [s1.heap.objs.size], _, _, F1, rfl, ItP.bytes c _ b t x px, g1.trans (Gv.same (tk := s1.toks) g1.sub fun b o e => Heap.get?_push_of_some _ e), ⟨_, Heap.get?_push_size _ rfl, rfl, rfl⟩, by simp, fun b hb => ?_, fun b hb => ?_, fun _ _ _ _ _ _ _ _ => trivial⟩
  · rw [List.mem_singleton.mp hb]; exact none_keep g1 hn
  · rw [List.mem_singleton.mp hb]; exact fresh_F g1.sub hn

/-- a dict's keys -/
def keysL (es : List (Int × Int)) : List Dat := es.map fun p => .int p.1
theorem ItP.keys (c : COk C mg mb n) (I a : Addr) (hne : a ≠ I) (kvs : List (Int × Value)) (es : List (Int × Int)) (hk : KVs kvs es) (ep : Nat) (x : Str) (px : Pos) :
    ItP C (.Name x px) I [I] (keysL es) (fun i _ h => h.IsKeyIter I a i kvs.length ep) (fun _ h => h.DictAt (knd C.w) a kvs ep) True where
  self := fun _ i F s Q st h => wpAny_pyIter_keyiter st h
  frame := fun i F h F' h' st hk _ _ => st.at fun o e => hk I (by simp) o e
  has := fun i F h st b hb => by rw [List.mem_singleton.mp hb]; obtain ⟨o, e, _⟩ := st; exact ⟨o, e⟩
  next := fun i d F s hx st dp hs hF => by
    unfold keysL at hx
    rw [List.getElem?_map, Option.map_eq_some_iff] at hx
    obtain ⟨⟨k, j⟩, hx, rfl⟩ := hx
    obtain ⟨t, hx'⟩ := hk.get hx
    refine wpAny_pyNext_dict_item (knd := knd C.w) st dp hx' fun key h' hki hit hs' => ⟨_, rfl, ?_⟩
    have : ∃ u, key = .int k u := by
      cases key <;> simp [knd, intKind, Value.isInt] at hki
      subst hki; exact ⟨_, rfl⟩
    obtain ⟨u, rfl⟩ := this
    refine wpAny_pure ⟨F, ⟨⟨h', s.toks, rfl⟩, fun b o hb e => hs'.extBut b o (fun z => hb (by rw [z]; simp)) e, Le.refl _, fun b o e => hs'.extBut b o (fun z => ?_) (hs b o e), fun _ _ e => .inl e⟩, .int _ _, hit⟩
    rw [z, hF I (by simp)] at e; cases e
  done := fun F s st dp hs hF => by
    have hl : (keysL es).length = kvs.length := by rw [hk.length]; simp [keysL]
    rw [hl] at st
    refine wpAny_pyNext_dict_end (knd := knd C.w) c.ar.hh st dp (List.getElem?_eq_none (Nat.le_refl _)) fun h' hs' => ⟨rfl, ⟨⟨h', s.toks, rfl⟩, fun b o hb e => hs' b o (fun z => hb (by rw [z]; simp)) e, Le.refl _, fun b o e => hs' b o (fun z => ?_) (hs b o e), fun _ _ e => .inl e⟩⟩
    rw [z, hF I (by simp)] at e; cases e
theorem IterOf.keys {x : Str} {px : Pos} {o : Expr} {es : List (Int × Int)} (c : COk C mg mb n) (ho : Ev C δ P o (.dict es)) : IterOf C δ P (.Name x px) o (keysL es) (fun _ _ => True) True := by
  refine ⟨fun R F s p => ?_⟩
  refine wpAny_mono (ho.run R F s p) (fun v s1 h1 => ?_) fun _ _ e => e
  obtain ⟨F1, g1, e1⟩ := h1
  cases e1 with | dict ha hsy hd hk =>
  rename_i a ob kvs
  have hm := hd s1.heap (g1.sub _ _ ha)
  have hn := fresh_none s1.heap (Nat.le_refl s1.heap.objs.size)
  have hlt : a < s1.heap.objs.size := Heap.lt_size (g1.sub _ _ ha)
  obtain ⟨ep, hat⟩ := hm.dictAt
  have hat' : ∀ h : Heap, h.get? a = some ob → h.DictAt (knd C.w) a kvs ep := fun h e => hat.at' fun o' e' => by rw [g1.sub _ _ ha] at e'; cases e'; exact e
  refine wpAny_pyIter_dict (knd := knd C.w) (d := a) (kvs := kvs) (ep := ep) hsy hat ?_
  refine ⟨_, [_], _, _, F1, rfl, ItP.keys c _ a (Nat.ne_of_lt hlt) kvs es hk ep x px, g1.trans (Gv.same (tk := s1.toks) g1.sub fun b o e => Heap.get?_push_of_some _ e), ⟨_, Heap.get?_push_size _ rfl, rfl, rfl⟩, by simp, fun b hb => ?_, fun b hb => ?_, fun δi Pi R' Fi h _ p' le => hat' h (p'.sub _ _ (le _ _ ha))⟩
  · rw [List.mem_singleton.mp hb]; exact none_keep g1 hn
  · rw [List.mem_singleton.mp hb]; exact fresh_F g1.sub hn

theorem strs_are {w : World} {F : FH} : ∀ {vs : List Value} {L : List Str}, DenL w F vs (L.map .str) → ∃ l : List (Str × Tok), vs = strValues l ∧ l.map (·.1) = L
  | [], [], _ => ⟨[], rfl, rfl⟩
  | [], _ :: _, h => h.elim
  | _ :: _, [], h => h.elim
  | v :: vs, x :: L, h => by
    obtain ⟨h1, h2⟩ := h
    cases h1 with | str _ t =>
    obtain ⟨l, rfl, rfl⟩ := strs_are h2
    exact ⟨(x, t) :: l, rfl, rfl⟩
theorem CallP.join {x : Str} {d : Dat} {L : List Str} (hd : AsL P d (L.map .str)) (hok : JoinOk x L = true) : CallP C δ P (.builtin "str.join") [.str x, d] (.str (Txt.join x L)) := by
  refine ⟨fun R F s vs p h => ?_⟩
  match vs, h with
  | [v, u], h =>
    obtain ⟨h, h', _⟩ := h; cases h
    obtain ⟨a, us, rfl, hl, he⟩ := hd.get p h'
    obtain ⟨l⟩ := us
    obtain ⟨l', rfl, hl'⟩ := strs_are he.denL
    exact PySem.SC.join hl.isList hl' hok fun t' k => gives_val p.sub (.str _ _)

theorem Ex.remove {x : Str} {px apos pos spos : Pos} {e : Expr} {a : Addr} {L : List Int} {k : Int} {j : Nat} {P' : MM} {Q : OQ} (c : COk C mg mb n) (hx : look δ x = some (.ex (.ref a))) (he : Ev C δ P e (.int k)) (hj : L[j]? = some k) (hm : ∀ m, m < j → L[m]? ≠ some k) (hp : Put P a (.list (L.map .int)) (.list ((L.eraseIdx j).map .int)) P') (hl : L.length ≤ sizeLine) (hq : Q .next δ P')
    (hpl : PlainArgs C [e] := by rfl) (hxd : (x == ("__debug__" : Str)) = false := by rfl)
    (hbase : attributeBase (.Name x px) "remove" C.env (eval (.Name x px) C.env) = eval (.Name x px) C.env := by rfl) (hline : (apos.endLine == pos.line) = true := by rfl) (hin : C.inner = false := by rfl)
    (hfew : ((backTo pos (starEach [e] C.env)).all (fun x => !x.1) && (backToKw pos (keywordEach [] C.env)).all (fun x => x.1.isSome) && decide ([e].length + ([] : List Keyword).length + (if ([] : List Keyword).isEmpty then 0 else 1) < 30)) = true := by rfl) :
    Ex C δ P (.Expr (.Call (.Attribute (.Name x px) "remove" apos) [e] [] pos) spos) Q := by
  refine ⟨fun R F s p => ?_⟩
  refine wpAny_Expr_any ?_ (not_interactive c) rfl
  refine wpAny_Call_method hbase hfew hline PySem.F.plainAttrs_list PySem.F.slot_list_remove PySem.F.type_list_remove (wpAny_mono ((Ev.name (δ := δ) (P := P) c hx hxd).run R F s p) (fun v s1 h1 => ?_) fun _ _ e => e)
  obtain ⟨F1, g1, e1⟩ := h1
  cases e1
  have p1 := p.gv g1
  obtain ⟨vs, hls, hels⟩ := p1.muta _ (hp.app R).mem
  refine ⟨hls.isList.typeIs, fun b q => ?_, ?_⟩
  · cases q; obtain ⟨m, q⟩ := hls; exact ⟨_, q, rfl⟩
  rw [hpl, backTo_plain]
  refine PySem.P.remove_list (wpAny_mono (he.run R F1 s1 p1) (fun y s2 h2 => ?_) fun _ _ e => e)
  obtain ⟨F2, g2, e2⟩ := h2
  cases e2 with | int _ t =>
  have p2 := p1.gv g2
  obtain ⟨vs', ⟨m', hl'⟩, hels'⟩ := p2.muta _ (hp.app R).mem
  have hjl : j < L.length := by
    rcases Nat.lt_or_ge j L.length with z | z
    · exact z
    · rw [List.getElem?_eq_none z] at hj; cases hj
  have hsz' : vs'.size = L.length := by rw [hels'.1, List.length_map]
  have at' : ∀ i (hi : i < vs'.size), ∃ u, vs'[i] = .int (L.getD i 0) u := fun i hi => ints_at hels' (v := vs'[i]) (by simp [hi])
  refine ⟨vs', m', isI k, j, by omega, by rw [hsz']; exact hl, hl', fun y hy => ?_, ?_, fun m hm1 hm2 => ?_, ?_⟩
  · obtain ⟨i, u, rfl⟩ := mem_ints hels' hy
    exact MeetsSeq.EqGives.int i k u t
  · obtain ⟨u, e⟩ := at' j (by omega)
    rw [e, List.getD_eq_getElem?_getD, hj]; simp [isI]
  · obtain ⟨u, e⟩ := at' m hm1
    rw [e]
    have := hm m hm2
    rw [List.getD_eq_getElem?_getD]
    have hml : m < L.length := by omega
    rw [List.getElem?_eq_getElem hml] at this ⊢
    simp only [isI, Option.getD_some, beq_eq_false_iff_ne]
    intro z; exact this (by rw [z])
  · have hfin := IsL.update hl' (fun xs => xs.eraseIdxIfInBounds j)
    refine ⟨.next, δ, P', F2, upd_trans (g1.trans g2).upd ⟨_, s2.toks, rfl⟩, (g1.trans g2).le, ?_, trivial, hq⟩
    refine p2.put (p2.own hin a (P_mem (C := C) (hp.app R).mem)) (hp.app R) (Heap.SameBut.update ..).extBut ⟨_, ⟨_, hfin⟩, ?_⟩
    have := hels'.erase j
    rw [map_eraseIdx]; exact this
end
end Mine

namespace Mine
theorem plainAttrs_pat : PlainAttrs "re.Pattern" :=
  ⟨⟨"object.__getattribute__", by rw [typeLookup_type, builtinLookup_eq_fast]; kernel_rfl, by decide +kernel⟩, by rw [typeLookup_type, builtinLookup_eq_fast]; kernel_rfl⟩
theorem slot_pat_search : Slot "re.Pattern" "search" "re.Pattern.search" :=
  .of (owner := "re.Pattern") (n := "search") (by rw [typeLookup_type, builtinLookup_eq_fast]; kernel_rfl) (by decide +kernel) (by decide +kernel) (by decide +kernel)
    (by first | exact .inl (by decide +kernel) | exact .inr (by decide +kernel)) (by rw [isSubtype_type]; kernel_rfl)
theorem type_pat_search : typeOf (.builtin "re.Pattern.search") = pure (.type "method_descriptor") := by show builtinType _ = _; rw [builtinType_eq_fast]; kernel_rfl
theorem entry_pat_search : entryFor table "re.Pattern.search" = some Builtin.«re.Pattern.search» := entryFor_of_tree (by kernel_rfl)
theorem owner_pat : Manifest.owners.lookup (String.ofList ['n', 'r', 'e', 't', 't', 'a', 'P', '.', 'e', 'r'].reverse) = some Manifest.sig_re_Pattern := by kernel_rfl
theorem args_pat_search (a b : Value) : argsOk "re.Pattern.search" ⟨[a, b], []⟩ := by
  unfold argsOk; rw [signature?_of (id := "re.Pattern.search") (n := ['h', 'c', 'r', 'a', 'e', 's']) (o := ['n', 'r', 'e', 't', 't', 'a', 'P', '.', 'e', 'r']) (by kernel_rfl) owner_pat]; kernel_rfl

def driveP : Nat → Sre.M → Option Sre.M
  | 0, _ => none
  | k + 1, m => let m := m.runFor Builtin.Re.reTurnSteps; if m.outcome.isSome then some m else driveP k m
def failed (m : Sre.M) : Bool := match m.outcome with | some .failed => true | _ => false
/-- the pattern is nowhere in x -/
def noHit (x : Str) : Bool := match driveP 60 (Sre.forSearch codeP x.cps 0 (min (0 : Int).toNat x.cps.size) (min ((2 ^ 63 - 1 : Int)).toNat x.cps.size) false) with | some m => failed m | none => false
section
variable {M : Model} {A : Around} {E : Value → Shared → Prop}
theorem drive_of {Q : Sre.M → Shared → Prop} {s : Shared} : ∀ {k : Nat} {N : Nat} {m m' : Sre.M}, k ≤ N → driveP k m = some m' → Q m' s → wpAny M A (Builtin.Re.reDrive N m) Q E s
  | 0, _, _, _, _, h, _ => by cases h
  | k + 1, 0, _, _, hN, _, _ => by omega
  | k + 1, N + 1, m, m', hN, h, hQ => by
    unfold driveP at h
    unfold Builtin.Re.reDrive
    dsimp only at h ⊢
    split
    · rename_i q
      rw [if_pos q] at h
      cases h
      exact wpAny_pure hQ
    · rename_i q
      rw [if_neg q] at h
      exact wpAny_bind (wpAny_rule (drive_of (by omega) h hQ))
theorem rules_of {f : Nat → Bool} {g : Nat → String} {Q : PUnit → Shared → Prop} {s : Shared} (hQ : Q ⟨⟩ s) : ∀ (l : List Nat), wpAny M A (forIn l PUnit.unit fun i r => if f i = true then do rule (g i); pure (ForInStep.yield PUnit.unit) else pure (ForInStep.yield PUnit.unit)) Q E s
  | [] => by rw [List.forIn_nil]; exact wpAny_pure hQ
  | i :: l => by
    rw [List.forIn_cons]
    refine wpAny_bind ?_
    split
    · exact wpAny_bind (wpAny_rule (wpAny_pure (rules_of hQ l)))
    · exact wpAny_pure (rules_of hQ l)
end
section
variable {C : Cx} {δ : VM} {P : MM} {mg mb : Str → Option Value} {n : Nat}
/-- the pattern's search that finds nothing -/
theorem search_none {w : World} {A : Around} {s : Shared} {a o : Addr} {ob : Obj} {vs : Array Value} {k : Nat} {p q t : Tok} {x : Str} {Q : Value → Shared → Prop}
    (ha : s.heap.get? a = some { cls := .type "re.Pattern", data := .fields #[.str "\\.\\d+$" p, .int 256 q, .int 0 0, .none, .none, .ref o, .int 0 0] }) (ho : s.heap.get? o = some ob) (hd : ob.data = .seq vs k) (hv : (vs.map Builtin.Re.reRawOf).map (·.toNat) = codeP)
    (hx : noHit x = true) (hQ : Q .none s) : wpAny (model PG w) A (call (.builtin "re.Pattern.search") [.ref a, .str x t]) Q NoE s := by
  have hT : s.TypeIs (.ref a) "re.Pattern" := ⟨_, ha, rfl⟩
  refine wpAny_call_entry slot_pat_search hT entry_pat_search ?_ (args_pat_search _ _)
  show wpAny _ _ (Builtin.Re.reTarget "re.Pattern.search" "search" ⟨[.ref a, .str x t], []⟩ >>= _) _ _ s
  have htar : ∀ {Q : Builtin.Re.ReTarget → Shared → Prop}, Q { pattern := .ref a, string := .str x t, code := codeP, text := x.cps, kind := 0, groups := 0, pos := min (0 : Int).toNat x.cps.size, lim := min (2 ^ 63 - 1 : Int).toNat x.cps.size } s →
      wpAny (model PG w) A.in1 (Builtin.Re.reTarget "re.Pattern.search" "search" ⟨[.ref a, .str x t], []⟩) Q NoE s := by
    intro Q hQ
    unfold Builtin.Re.reTarget
    refine wpAny_bind (wpAny_of_eq (a := [some (.str x t), none, none]) rfl ?_)
    refine wpAny_bind (wpAny_pure ?_)
    refine wpAny_bind (wpAny_pure ?_)
    refine wpAny_bind (wpAny_fieldsOf ha rfl ?_)
    refine wpAny_bind (wpAny_of_eq (a := (x.cps, 0)) rfl ?_)
    refine wpAny_bind (wpAny_of_eq (a := ()) rfl ?_)
    refine wpAny_bind ?_
    show wpAny _ _ (Builtin.Re.reRawItems (.ref o)) _ _ s
    unfold Builtin.Re.reRawItems
    refine wpAny_bind (wpAny_seqItems ho hd (wpAny_pure (wpAny_pure ?_)))
    show Q { pattern := _, string := _, code := ((vs.map Builtin.Re.reRawOf).map (·.toNat)), text := _, kind := _, groups := _, pos := _, lim := _ } s
    rw [hv]
    exact hQ
  refine wpAny_bind (htar ?_)
  unfold noHit at hx
  split at hx
  · rename_i m hm
    show wpAny _ _ (Builtin.Re.reRunToEnd (Sre.forSearch codeP x.cps 0 (min (0 : Int).toNat x.cps.size) (min (2 ^ 63 - 1 : Int).toNat x.cps.size) false) >>= _) _ _ s
    refine wpAny_bind ?_
    unfold Builtin.Re.reRunToEnd
    refine wpAny_bind (drive_of (by decide) hm ?_)
    refine wpAny_bind (rules_of ?_ _)
    unfold failed at hx
    split at hx
    · rename_i q
      rw [q]
      exact wpAny_pure (wpAny_pure ⟨_, rfl, hQ⟩)
    · cases hx
  · cases hx
/-- the pattern is not found -/
theorem Tr.search {x y : Str} {np apos pos : Pos} {e : Expr} (c : COk C mg mb n) (hk : C.env.kindOf "IPV4_RE" = some .globalImplicit) (he : Ev C δ P e (.str x)) (hx : noHit x = true)
    (hp : PlainArgs C [e] := by rfl) (hbase : attributeBase (.Name "IPV4_RE" np) "search" C.env (eval (.Name "IPV4_RE" np) C.env) = eval (.Name "IPV4_RE" np) C.env := by rfl) (hline : (apos.endLine == pos.line) = true := by rfl)
    (hfew : ((backTo pos (starEach [e] C.env)).all (fun x => !x.1) && (backToKw pos (keywordEach [] C.env)).all (fun x => x.1.isSome) && decide ([e].length + ([] : List Keyword).length + (if ([] : List Keyword).isEmpty then 0 else 1) < 30)) = true := by rfl)
    (hq : ∀ whole, isTrue (.Call (.Attribute (.Name "IPV4_RE" np) "search" apos) [e] [] pos) C.env whole = (do let v ← whole; standAt pos; holding [v] (truthy v)) := by intro _; rfl) : Tr C δ P (.Call (.Attribute (.Name "IPV4_RE" np) "search" apos) [e] [] pos) false := by
  obtain ⟨a, p0, q0, o, ob, vs, k, hm, ha, ho, hd, hv⟩ := c.base.pat
  refine ⟨fun R F s p => ?_⟩
  rw [hq]
  refine wpAny_bind (wpAny_Call_method hbase hfew hline plainAttrs_pat slot_pat_search type_pat_search (wpAny_mono ((Ev.glob (δ := δ) (P := P) c hk hm rfl).run R F s p) (fun v s1 h1 => ?_) fun _ _ e => e))
  obtain ⟨F1, g1, e1⟩ := h1
  cases e1
  have p1 := p.gv g1
  refine ⟨⟨_, p1.base _ _ ha, rfl⟩, fun b q => by cases q; exact ⟨_, p1.base _ _ ha, rfl⟩, ?_⟩
  rw [hp, backTo_plain]
  refine PySem.Calls.callWith_builtin any_plain (evalArgs_spl (wpAny_mono (spl_ev (es := [e]) (ds := [.str x]) ⟨he, trivial⟩ p1) (fun us s2 h2 => ?_) fun _ _ e => e))
  obtain ⟨F2, g2, e2⟩ := h2
  have p2 := p1.gv g2
  match us, e2 with
  | [u], e2 =>
    obtain ⟨e2, _⟩ := e2
    cases e2
    refine search_none (p2.base _ _ ha) (p2.base _ _ ho) hd hv hx ?_
    refine wpAny_bind (wpAny_standAt (wpAny_holding ?_))
    exact wpAny_of_eq (a := false) rfl ⟨rfl, F2, g1.trans g2⟩
end
end Mine

namespace Mine
theorem Cov.push {δ V : VM} {x : Str} {d : Dat} (h : Cov δ V) (hn : ∀ y ∈ V.map (·.1), x ≠ y) : Cov ((x, d) :: δ) ((x, d) :: V) := by
  refine ⟨by simp [look], ?_⟩
  induction V with
  | nil => trivial
  | cons p r ih =>
    obtain ⟨y, e⟩ := p
    refine ⟨?_, ih h.2 fun z hz => hn z (List.mem_cons_of_mem _ hz)⟩
    unfold look
    rw [if_neg (hn y (List.Mem.head _))]
    exact h.1
theorem ne_all {l : List Str} {x : Str} (h : l.all (fun y => !decide (x = y)) = true) : ∀ y ∈ l, x ≠ y := fun y hy => by
  have := List.all_eq_true.mp h y hy
  simpa using this
theorem Cov.refl1 {V : VM} (hn : (V.map (·.1)).Nodup) : Cov V V := by
  induction V with
  | nil => trivial
  | cons p r ih =>
    obtain ⟨y, e⟩ := p
    rw [List.map_cons, List.nodup_cons] at hn
    exact Cov.push (ih hn.2) fun z hz q => hn.1 (q ▸ hz)

/-- the context of a def of the top -/
def fnC (name : Str) (sc : Scope) (w : World) (A : Around) (L a : Addr) (cd : Value) (h0 : Heap) (F0 : FH) : Cx := { w := w, A := A, env := envOf name sc L a cd, h0 := h0, F0 := F0 }

def fnName : Stmt → Str | .FunctionDef n _ _ _ _ _ _ _ _ _ => n | _ => ""
def fnArgs : Stmt → List Str | .FunctionDef _ a _ _ _ _ _ _ _ _ => a.args.map (·.arg) | _ => []
def fnBody : Stmt → List Stmt | .FunctionDef _ _ b _ _ _ _ _ _ _ => b | _ => []
def fnScope : Stmt → Option Scope | .FunctionDef _ _ _ _ _ _ s _ _ _ => some s | _ => none

section
variable {mg mb : Str → Option Value} {n : Nat}
theorem zipN_nodup : ∀ {xs : List Str} (hn : xs.Nodup) (vs : List Value), ((xs.zip vs).map (·.1)).Nodup
  | [], _, _ => by simp
  | _ :: _, _, [] => by simp
  | x :: xs, hn, v :: vs => by
    rw [List.zip_cons_cons, List.map_cons, List.nodup_cons]
    rw [List.nodup_cons] at hn
    refine ⟨fun h => ?_, zipN_nodup hn.2 vs⟩
    obtain ⟨q, hq, e⟩ := List.mem_map.mp h
    have := (List.of_mem_zip hq).1
    rw [show q.1 = x from e] at this
    exact hn.1 this
theorem DenL.zip {w : World} {F : FH} : ∀ {xs : List Str} {vs : List Value} {ds : List Dat}, DenL w F vs ds → xs.Nodup → ∀ {x : Str} {d : Dat}, look (xs.zip ds).reverse x = some d → ∃ v, (xs.zip vs).reverse.lookup x = some v ∧ Den w F v d := by
  have key : ∀ {xs : List Str} {vs : List Value} {ds : List Dat}, DenL w F vs ds → xs.Nodup → ∀ {x : Str} {d : Dat}, (x, d) ∈ xs.zip ds → ∃ v, (x, v) ∈ xs.zip vs ∧ Den w F v d := by
    intro xs
    induction xs with
    | nil => intro vs ds h _ x d hm; simp at hm
    | cons y xs ih =>
      intro vs ds h hn x d hm
      match vs, ds, h with
      | [], [], _ => simp at hm
      | v :: vs, e :: ds, h =>
        rw [List.zip_cons_cons] at hm ⊢
        rcases List.mem_cons.mp hm with q | q
        · cases q; exact ⟨v, .head _, h.1⟩
        · obtain ⟨u, hu, hd⟩ := ih h.2 (List.nodup_cons.mp hn).2 q
          exact ⟨u, .tail _ hu, hd⟩
  intro xs vs ds h hn x d hl
  obtain ⟨v, hv, hd⟩ := key h hn (List.mem_reverse.mp (look_mem hl))
  refine ⟨v, ?_, hd⟩
  have hnd : ((xs.zip vs).reverse.map (·.1)).Nodup := by
    rw [List.map_reverse, (List.reverse_perm _).nodup_iff]
    exact zipN_nodup hn vs
  have : ∀ {l : List (Str × Value)} {x : Str} {v : Value}, (l.map (·.1)).Nodup → (x, v) ∈ l → l.lookup x = some v := by
    intro l
    induction l with
    | nil => intro x v _ h; cases h
    | cons p l ih =>
      intro x v hn hm
      obtain ⟨y, u⟩ := p
      rw [List.map_cons, List.nodup_cons] at hn
      rw [List.lookup_cons]
      rcases List.mem_cons.mp hm with q | q
      · cases q; simp
      · have hne : (x == y) = false := by
          rw [beq_eq_false_iff_ne]
          intro z
          exact hn.1 (z ▸ List.mem_map.mpr ⟨_, q, rfl⟩)
        rw [hne]
        exact ih hn.2 q
  exact this hnd (List.mem_reverse.mpr hv)
theorem AOk.deeper {A : Around} {lv : Nat} {env : Env} (h : AOk A (lv + 1)) : AOk (A.deeper env) lv :=
  ⟨h.hh, by have := h.dep; show A.depth + 1 + lv ≤ 500; omega, by have := h.un; show A.units + 3 + 8 * lv ≤ 5000; omega⟩
theorem FnOk.mk {st : Stmt} {lv : Nat} {ds : List Dat} {d : Dat} {name : Str} {ar : Arguments} {body : List Stmt} {dl : List Expr} {rt : Option Expr} {tp : List TypeParam} {sc : Scope} {ts : Option Scope} {bd : Str} {ps : Pos}
    (hst : st = .FunctionDef name ar body dl rt tp sc ts bd ps)
    (hbind : ∀ vs : List Value, vs.length = ds.length → ∀ pm code doc, bindArgs (PySem.Calls.docDef name ar body sc pm code doc) ⟨vs, []⟩ = pure ((ar.args.map (·.arg)).zip vs))
    (hloc : ∀ x ∈ ar.args.map (·.arg), sc.names.lookup x = some .local) (hnd : (ar.args.map (·.arg)).Nodup)
    (run : ∀ w A mg mb L a cd h0 F0, COk (fnC name sc w A L a cd h0 F0) mg mb lv → Run (fnC name sc w A L a cd h0 F0) ((ar.args.map (·.arg)).zip ds).reverse [] body (fun out δ P => match out with | .ret d' => d' = d | _ => False))
    (hco : sc.isCoroutine = false := by rfl) (hgen : sc.isGenerator = false := by rfl) (hk : sc.kind = .function := by rfl) (hcell : ∀ x ∈ sc.names, x.2 ≠ .cell := by decide) : FnOk st (lv + 1) ds d := by
  subst hst
  refine ⟨?_⟩
  intro w A mg mb F s a o pm code doc vs hA hB ho hd hcd hsub hvs
  have hlen : vs.length = ds.length := by
    clear hbind run
    induction vs generalizing ds with
    | nil => cases ds with
      | nil => rfl
      | cons _ _ => exact hvs.elim
    | cons v vs ih => cases ds with
      | nil => exact hvs.elim
      | cons e ds => simp only [List.length_cons]; rw [ih hvs.2]
  refine wpAny_call (call_plain_ret (binds := (ar.args.map (·.arg)).zip vs) (by have := hA.dep; show A.depth < 1000; omega) ho hd hB.lim hcd (hbind vs hlen pm code doc) (fun x hx => hloc _ (List.of_mem_zip hx).1) (fun h₁ fr => ?_) hco hgen hk hcell)
  have hn := fresh_none s.heap (Nat.le_refl s.heap.objs.size)
  have c : COk (fnC name sc w (A.deeper (envOf name sc s.heap.objs.size a code)) s.heap.objs.size a code s.heap F) mg mb lv := ⟨hk, rfl, rfl, hB, hA.deeper⟩
  have p : Pre (fnC name sc w (A.deeper (envOf name sc s.heap.objs.size a code)) s.heap.objs.size a code s.heap F) ((ar.args.map (·.arg)).zip ds).reverse ([] ++ []) F h₁ := by
    refine { base := fr.keep, sub := fun b o e => fr.keep b o (hsub b o e), le0 := Le.refl _, fresh := fun b o e => .inl e, vars := ⟨_, fr.ns, fun x d e => ?_⟩, cells := fun q hq => (nomatch hq), muta := fun q hq => (nomatch hq), nodup := (by simp [muts, fnC, envOf]), notF := fun b hb => ?_, own := fun _ b hb => ?_, ownL := hn }
    · obtain ⟨v, hv, hd⟩ := DenL.zip hvs hnd e
      have hx : x ∈ ar.args.map (·.arg) := (List.of_mem_zip (List.mem_reverse.mp (look_mem e))).1
      exact ⟨v, .inl ⟨hloc x hx, hv⟩, hd⟩
    · simp [muts, fnC, envOf] at hb; subst hb; exact fresh_F hsub hn
    · simp [muts, fnC, envOf] at hb; subst hb; exact hn
  refine wpAny_mono ((run w _ mg mb s.heap.objs.size a code s.heap F c).run [] F { s with heap := h₁, toks := s.toks + ((ar.args.map (·.arg)).zip vs).length } p) (fun fl s' h => ?_) fun _ _ e => e
  obtain ⟨out, δ', P', F', u, le, p', f, q⟩ := h
  cases out with
  | ret d' =>
    cases fl with
    | ret v =>
      dsimp only at q
      subst q
      exact ⟨F', ⟨upd_trans ⟨h₁, _, rfl⟩ u, fun b o e => p'.base b o e, le, p'.sub, fun b o e => p'.fresh b o e⟩, f⟩
    | _ => exact f.elim
  | _ => exact q.elim
end
section
variable {C : Cx} {δ : VM} {P : MM} {mg mb : Str → Option Value} {n : Nat}
/-- a for loop whose state is a function of the turn -/
theorem Ex.forN {x : Str} {px : Pos} {e : Expr} {body : List Stmt} {pos : Pos} {xs : List Dat} {HD : VM → MM → Prop} {sf : Prop} {Q : OQ} (c : COk C mg mb n) (hx : IsVar C x) (hi : IterOf C δ P (.Name x px) e xs HD sf) (V : Nat → VM) (M : Nat → MM) (hHD : ∀ i δi, HD δi (M i)) (h0 : Cov δ (V 0)) (hM : P = M 0)
    (hn : ∀ i, ((V i).map (·.1)).all (fun y => !decide (x = y)) = true) (turn : ∀ (i : Nat) (d : Dat), xs[i]? = some d → Run C ((x, d) :: V i) (M i) body (fun out δ' P' => (out = .next ∨ out = .cont) ∧ Cov δ' (V (i + 1)) ∧ P' = M (i + 1)))
    (done : ∀ δ', Cov δ' (V xs.length) → Q .next δ' (M xs.length)) (hs : ∀ x, foldedSetIterable e C.env x = pure x := by intro _; rfl) : Ex C δ P (.For (.Name x px) e body [] pos) Q :=
  Ex.for_ hi (fun i δi Pi => Cov δi (V i) ∧ Pi = M i) (fun i δi Pi h => by rw [h.2]; exact hHD i δi) ⟨h0, hM⟩
    (fun i d δi Pi hx' h => ⟨_, Asg.name c hx, by rw [h.2]; exact (turn i d hx').cov (Cov.push h.1 (ne_all (hn i)))⟩)
    (fun δi Pi h => by rw [h.2]; exact done δi h.1) hs
theorem Ex.forT2 {x y : Str} {px py pt : Pos} {k : Nat} {e : Expr} {body : List Stmt} {pos : Pos} {xs : List Dat} {HD : VM → MM → Prop} {sf : Prop} {Q : OQ} (c : COk C mg mb n) (hx : IsVar C x) (hy : IsVar C y) (hi : IterOf C δ P (.Tuple [.Name x px, .Name y py] k pt) e xs HD sf) (V : Nat → VM) (M : Nat → MM) (hHD : ∀ i δi, HD δi (M i)) (h0 : Cov δ (V 0)) (hM : P = M 0)
    (ht : ∀ (i : Nat) (d : Dat), xs[i]? = some d → ∃ a b : Dat, d = Dat.tup [a, b]) (hn : ∀ i, ((V i).map (·.1)).all (fun z => !decide (x = z)) = true) (hn' : ∀ i, (x :: (V i).map (·.1)).all (fun z => !decide (y = z)) = true) (turn : ∀ (i : Nat) (a b : Dat), xs[i]? = some (Dat.tup [a, b]) → Run C ((y, b) :: (x, a) :: V i) (M i) body (fun out δ' P' => (out = .next ∨ out = .cont) ∧ Cov δ' (V (i + 1)) ∧ P' = M (i + 1)))
    (done : ∀ δ', Cov δ' (V xs.length) → Q .next δ' (M xs.length)) (hs : ∀ x, foldedSetIterable e C.env x = pure x := by intro _; rfl) : Ex C δ P (.For (.Tuple [.Name x px, .Name y py] k pt) e body [] pos) Q :=
  Ex.for_ hi (fun i δi Pi => Cov δi (V i) ∧ Pi = M i) (fun i δi Pi h => by rw [h.2]; exact hHD i δi) ⟨h0, hM⟩
    (fun i d δi Pi hx' h => by
      obtain ⟨a, b, rfl⟩ := ht i d hx'
      exact ⟨_, Asg.tup2 c hx hy, by rw [h.2]; exact (turn i a b hx').cov (Cov.push (Cov.push h.1 (ne_all (hn i))) (ne_all (hn' i)))⟩)
    (fun δi Pi h => by rw [h.2]; exact done δi h.1) hs
theorem Run.fin {Q : OQ} (h : Q .next δ P) : Run C δ P [] Q := Run.nil h
end

def sumOf (es : List (Int × Int)) : Int := (es.map (·.2)).sum
theorem count_calls_ok (es : List (Int × Int)) : FnOk (stm 3) 1 [.dict es] (.int (sumOf es)) := by
  refine FnOk.mk (st := stm 3) rfl ?_ ?_ ?_ ?_
  · intro vs hl pm code doc
    match vs, hl with
    | [v], _ => rfl
  · decide
  · decide
  · intro w A mg mb L a cd h0 F0 c
    refine Run.cons (Ex.assign c (.inl rfl) Ev.cint ?_)
    refine Run.cons (Ex.forN c (.inl rfl) (IterOf.vals c (Ev.name c rfl)) (fun i => [("nc", .int ((es.take i).map (·.2)).sum), ("callers", .dict es)]) (fun _ => []) (fun _ _ => trivial) ⟨rfl, rfl, trivial⟩ rfl (fun i => rfl) (fun i d hd => ?_) (fun δ' hc => ?_))
    · unfold valsL at hd
      rw [List.getElem?_map, Option.map_eq_some_iff] at hd
      obtain ⟨⟨k, j⟩, hd, rfl⟩ := hd
      refine Run.cons (Ex.augN c (.inl rfl) rfl (Ev.name c rfl) (Run.nil ⟨.inl rfl, ⟨?_, rfl, trivial⟩, rfl⟩))
      rw [List.take_add_one, hd]
      simp [look]
    · have e : (valsL es).length = es.length := by simp [valsL]
      rw [e, List.take_length] at hc
      exact Run.cons (Ex.ret (Ev.name c hc.1) rfl)
end Mine

namespace Mine
/-- the sum of two tables -/
def addTo (es : List (Int × Int)) (p : Int × Int) : List (Int × Int) := match lookI es p.1 with | some v => putI es p.1 (v + p.2) | none => putI es p.1 p.2
def addC (a b : List (Int × Int)) : List (Int × Int) := b.foldl addTo (dictOf a)
theorem addTo_length (es : List (Int × Int)) (p : Int × Int) : (addTo es p).length ≤ es.length + 1 := by
  unfold addTo
  split <;> exact putI_length _ _ _
theorem foldl_addTo_length : ∀ (b es : List (Int × Int)), (b.foldl addTo es).length ≤ es.length + b.length
  | [], es => by simp
  | p :: b, es => by
    have h1 := foldl_addTo_length b (addTo es p)
    have h2 := addTo_length es p
    simp only [List.foldl_cons, List.length_cons]
    omega
theorem itemsL_get {es : List (Int × Int)} {i : Nat} {a b : Dat} (h : (itemsL es)[i]? = some (.tup [a, b])) : ∃ k j, a = .int k ∧ b = .int j ∧ es[i]? = some (k, j) := by
  unfold itemsL at h
  rw [List.getElem?_map, Option.map_eq_some_iff] at h
  obtain ⟨⟨k, j⟩, h, e⟩ := h
  cases e
  exact ⟨k, j, rfl, rfl, h⟩
theorem itemsL_tup {es : List (Int × Int)} (i : Nat) (d : Dat) (h : (itemsL es)[i]? = some d) : ∃ a b : Dat, d = Dat.tup [a, b] := by
  unfold itemsL at h
  rw [List.getElem?_map, Option.map_eq_some_iff] at h
  obtain ⟨p, h, rfl⟩ := h
  exact ⟨_, _, rfl⟩
theorem foldl_take {α β : Type} (f : β → α → β) (b : β) (l : List α) (i : Nat) (x : α) (h : l[i]? = some x) : (l.take (i + 1)).foldl f b = f ((l.take i).foldl f b) x := by
  rw [List.take_add_one, h, List.foldl_append]; rfl
theorem add_callers_ok (ea eb : List (Int × Int)) (hl : ea.length + eb.length ≤ sizeLine) : FnOk (stm 2) 1 [.dict ea, .dict eb] (.dict (addC ea eb)) := by
  refine FnOk.mk (st := stm 2) rfl ?_ ?_ ?_ ?_
  · intro vs hl pm code doc
    match vs, hl with
    | [v, u], _ => rfl
  · decide
  · decide
  · intro w A mg mb L a cd h0 F0 c
    refine Run.cons (Ex.assignN c (.inl rfl) (EvN.dict0 c) fun a => ?_)
    refine Run.cons (Ex.forT2 c (.inl rfl) (.inl rfl) (IterOf.items c (Ev.name c rfl)) (fun i => [("new_callers", .ex (.ref a)), ("source", .dict eb), ("target", .dict ea)]) (fun i => [(a, .dict (dictOf (ea.take i)))]) (fun _ _ => trivial) ⟨rfl, rfl, rfl, trivial⟩ rfl itemsL_tup (fun i => rfl) (fun i => rfl) (fun i x y hd => ?_) (fun δ' hc => ?_))
    · obtain ⟨k, j, rfl, rfl, hx⟩ := itemsL_get hd
      refine Run.cons (Ex.setD (Ev.name c rfl) (Ev.name c rfl) (Ev.name c rfl) ?_ .head (Run.nil ⟨.inl rfl, ⟨rfl, rfl, rfl, trivial⟩, ?_⟩))
      · have := dictOf_length (ea.take i)
        have := List.length_take_le' i ea
        omega
      · unfold dictOf
        rw [foldl_take _ _ _ _ _ hx]
    · have e : (itemsL ea).length = ea.length := by simp [itemsL]
      rw [e, List.take_length]
      refine Run.cons (Ex.forT2 c (.inl rfl) (.inl rfl) (IterOf.items c (Ev.name c hc.2.1)) (fun i => [("new_callers", .ex (.ref a)), ("source", .dict eb), ("target", .dict ea)]) (fun i => [(a, .dict ((eb.take i).foldl addTo (dictOf ea)))]) (fun _ _ => trivial) hc rfl itemsL_tup (fun i => rfl) (fun i => rfl) (fun i x y hd => ?_) (fun δ' hc => ?_))
      · obtain ⟨k, j, rfl, rfl, hx⟩ := itemsL_get hd
        have hlen : ((eb.take i).foldl addTo (dictOf ea)).length ≤ sizeLine := by
          have := foldl_addTo_length (eb.take i) (dictOf ea)
          have := dictOf_length ea
          have := List.length_take_le' i eb
          omega
        rw [show (eb.take (i + 1)).foldl addTo (dictOf ea) = addTo ((eb.take i).foldl addTo (dictOf ea)) (k, j) from foldl_take _ _ _ _ _ hx]
        generalize (eb.take i).foldl addTo (dictOf ea) = es at hlen ⊢
        refine Run.cons (Ex.if_ (Tr.cmp (Ev.name c rfl) (Ev.name c rfl) (CmpP.inD (es := es) (.inr ⟨a, rfl, List.Mem.head _⟩))) (fun hb => ?_) (fun hb => ?_))
        · obtain ⟨j0, hj⟩ := Option.isSome_iff_exists.mp hb
          refine Run.cons (Ex.if_ (Tr.val (Ev.callB (Ev.blt c rfl (by decide) rfl) (ds := [.int j, .ex (.type "tuple")]) ⟨Ev.name c rfl, Ev.blt c rfl (by decide) rfl, trivial⟩ CallP.isTup) rfl) (fun hb => by cases hb) (fun _ => ?_))
          refine Run.cons (Ex.augD (Ev.name c rfl) (Ev.name c rfl) (Ev.name c rfl) hj hlen .head (Run.nil (Run.nil (Run.nil ⟨.inl rfl, ⟨rfl, rfl, rfl, trivial⟩, ?_⟩))))
          simp [addTo, hj]
        · have hj : lookI es k = none := by
            cases q : lookI es k with
            | none => rfl
            | some v => rw [q] at hb; cases hb
          refine Run.cons (Ex.setD (Ev.name c rfl) (Ev.name c rfl) (Ev.name c rfl) hlen .head (Run.nil (Run.nil ⟨.inl rfl, ⟨rfl, rfl, rfl, trivial⟩, ?_⟩)))
          simp [addTo, hj]
      · have e : (itemsL eb).length = eb.length := by simp [itemsL]
        rw [e, List.take_length]
        refine Run.freeze (x := "new_callers") hc.1 rfl ?_
        exact Run.cons (Ex.ret (Ev.name c rfl) rfl)

/-- the tie of two letters' figures -/
def tieOf (a b : Int) : Int := if a = b then 2 else if a.fmod 2 = b.fmod 2 then 1 else 0
def tieL (l : List (Int × Int)) : Int := l.foldl (fun t p => t + tieOf p.1 p.2) 0
theorem zipD_ints : ∀ (xs ys : List Int), zipD (xs.map .int) (ys.map .int) = (xs.zip ys).map fun p => .tup [.int p.1, .int p.2]
  | [], _ => rfl
  | _ :: _, [] => rfl
  | x :: xs, y :: ys => by simp [zipD, zipD_ints xs ys]
theorem zipD_tup {xs ys : List Dat} (i : Nat) (d : Dat) (h : (zipD xs ys)[i]? = some d) : ∃ a b : Dat, d = Dat.tup [a, b] := by
  obtain ⟨a, b, _, _, e⟩ := zipD_get h; exact ⟨a, b, e⟩
theorem law_tie_ok (xs ys : List Int) : FnOk (stm 16) 1 [.list (xs.map .int), .list (ys.map .int)] (.int (tieL (xs.zip ys))) := by
  refine FnOk.mk (st := stm 16) rfl ?_ ?_ ?_ ?_
  · intro vs hl pm code doc
    match vs, hl with
    | [v, u], _ => rfl
  · decide
  · decide
  · intro w A mg mb L a cd h0 F0 c
    refine Run.cons (Ex.assign c (.inl rfl) Ev.cint ?_)
    refine Run.cons (Ex.forT2 c (.inl rfl) (.inl rfl) (IterOf.zip c (Ev.blt c rfl (by decide) rfl) (Ev.name c rfl) (Ev.name c rfl) (.inl rfl) (.inl rfl)) (fun i => [("tie", .int (tieL ((xs.zip ys).take i)))]) (fun i => []) (fun _ _ => ⟨.inl rfl, .inl rfl⟩) ⟨rfl, trivial⟩ rfl zipD_tup (fun i => rfl) (fun i => rfl) (fun i x y hd => ?_) (fun δ' hc => ?_))
    · rw [zipD_ints, List.getElem?_map, Option.map_eq_some_iff] at hd
      obtain ⟨⟨a, b⟩, hx, e⟩ := hd
      cases e
      have e1 : tieL ((xs.zip ys).take (i + 1)) = tieL ((xs.zip ys).take i) + tieOf a b := foldl_take _ _ _ _ _ hx
      rw [e1]
      refine Run.cons (Ex.if_ (Tr.cmp (Ev.name c rfl) (Ev.name c rfl) CmpP.eqI) (fun hb => ?_) (fun hb => ?_))
      · refine Run.cons (Ex.augN c (.inl rfl) rfl Ev.cint (Run.nil (Run.nil ⟨.inl rfl, ⟨?_, trivial⟩, rfl⟩)))
        have : a = b := by simpa using hb
        simp [look, tieOf, this]
      · have hne : a ≠ b := by simpa using hb
        refine Run.cons (Ex.if_ (Tr.cmp (Ev.bin (Ev.name c rfl) Ev.cint (BinD.modI (by decide))) (Ev.bin (Ev.name c rfl) Ev.cint (BinD.modI (by decide))) CmpP.eqI) (fun hb => ?_) (fun hb => ?_))
        · refine Run.cons (Ex.augN c (.inl rfl) rfl Ev.cint (Run.nil (Run.nil (Run.nil ⟨.inl rfl, ⟨?_, trivial⟩, rfl⟩))))
          have : a.fmod 2 = b.fmod 2 := by simpa using hb
          simp [look, tieOf, this, hne]
        · refine Run.nil (Run.nil (Run.nil ⟨.inl rfl, ⟨?_, trivial⟩, rfl⟩))
          have : a.fmod 2 ≠ b.fmod 2 := by simpa using hb
          have e2 : tieOf a b = 0 := by simp [tieOf, this, hne]
          rw [e2, Int.add_zero]; rfl
    · have e : (zipD (xs.map Dat.int) (ys.map Dat.int)).length = (xs.zip ys).length := by rw [zipD_ints, List.length_map]
      rw [e, List.take_length] at hc
      exact Run.cons (Ex.ret (Ev.name c hc.1) rfl)

section
variable {C : Cx} {δ : VM} {P : MM} {mg mb : Str → Option Value} {n : Nat}
theorem Ev.exInt {e : Expr} {i : Int} {t : Tok} (h : Ev C δ P e (.ex (.int i t))) : Ev C δ P e (.int i) := by
  refine ⟨fun R F s p => ?_⟩
  refine wpAny_mono (h.run R F s p) (fun v s1 h1 => ?_) fun _ _ e => e
  obtain ⟨F1, g1, e1⟩ := h1
  cases e1
  exact ⟨F1, g1, .int _ _⟩
end
/-- the cost of two signs -/
def costOf (x y : Str) : Int := if x == y then 0 else if Txt.lower x == Txt.lower y then 1 else 2
theorem cost_ok (x y : Str) (hx : Builtin.Str.tooLong (Txt.lower x).length = false) (hy : Builtin.Str.tooLong (Txt.lower y).length = false) : FnOk (stm 13) 1 [.str x, .str y] (.int (costOf x y)) := by
  refine FnOk.mk (st := stm 13) rfl ?_ ?_ ?_ ?_
  · intro vs hl pm code doc
    match vs, hl with
    | [v, u], _ => rfl
  · decide
  · decide
  · intro w A mg mb L a cd h0 F0 c
    obtain ⟨t1, m1⟩ := c.base.move
    obtain ⟨t2, m2⟩ := c.base.case
    refine Run.cons (Ex.if_ (Tr.cmp (Ev.name c rfl) (Ev.name c rfl) CmpP.eqS) (fun hb => ?_) (fun hb => ?_))
    · refine Run.cons (Ex.ret Ev.cint ?_)
      show Dat.int 0 = Dat.int (costOf x y)
      simp [costOf, hb]
    · refine Run.nil (Run.cons (Ex.if_ (Tr.cmp (Ev.meth PySem.F.plainAttrs_str PySem.F.slot_str_lower PySem.F.type_str_lower (Ev.name c rfl) isStrT (ds := []) trivial (CallP.lower hx)) (Ev.meth PySem.F.plainAttrs_str PySem.F.slot_str_lower PySem.F.type_str_lower (Ev.name c rfl) isStrT (ds := []) trivial (CallP.lower hy)) CmpP.eqS) (fun hb2 => ?_) (fun hb2 => ?_)))
      · refine Run.cons (Ex.ret (Ev.exInt (Ev.glob c rfl m2)) ?_)
        show Dat.int 1 = Dat.int (costOf x y)
        simp [costOf, hb, hb2]
      · refine Run.nil (Run.cons (Ex.ret (Ev.exInt (Ev.glob c rfl m1)) ?_))
        show Dat.int 2 = Dat.int (costOf x y)
        simp [costOf, hb, hb2]
end Mine

namespace Mine
def AP : Array UInt8 := #[65, 66, 67, 68, 69, 70, 71, 72, 73, 74, 75, 76, 77, 78, 79, 80]
/-- a number's letters -/
def apB : Nat → Nat → Array UInt8 → Array UInt8
  | 0, _, v => v
  | f + 1, m, v => if m = 0 then v else apB f (m / 16) (KBy.picked AP (some ((m % 16 : Nat) : Int)) (some (((m % 16 : Nat) : Int) + 1)) ++ v)
theorem AP_eq : ([65, 66, 67, 68, 69, 70, 71, 72, 73, 74, 75, 76, 77, 78, 79, 80] : List UInt8).toArray = AP := rfl
theorem int2ap_ok (k : Int) (f : Nat) (hk : k.natAbs < 16 ^ f) (hf : f ≤ 100) : FnOk (stm 9) 1 [.int k] (.bytes (apB f k.natAbs #[])) := by
  refine FnOk.mk (st := stm 9) rfl ?_ ?_ ?_ ?_
  · intro vs hl pm code doc
    match vs, hl with
    | [v], _ => rfl
  · decide
  · decide
  · intro w A mg mb L a cd h0 F0 c
    refine Run.cons (Ex.assign c (.inl rfl) Ev.cbytes ?_)
    refine Run.cons (Ex.assign c (.inl rfl) Ev.cbytes ?_)
    refine Run.cons (Ex.assign c (.inl rfl) (Ev.callT (Ev.blt c rfl (by decide) rfl) (ds := [.int (if k < 0 then -k else k)]) ⟨Ev.callB (Ev.blt c rfl (by decide) rfl) (ds := [.int k]) ⟨Ev.name c rfl, trivial⟩ CallP.abs, trivial⟩ CallP.intI) ?_)
    have e : (if k < 0 then -k else k) = (k.natAbs : Int) := by split <;> omega
    rw [e]
    refine Run.cons (Ex.while_ (fun g δ P => ∃ m v, g ≤ f ∧ Cov δ [("num", .int ((m : Nat) : Int)), ("AP", .bytes AP), ("val", .bytes v)] ∧ P = [] ∧ m < 16 ^ g ∧ apB g m v = apB f k.natAbs #[] ∧ v.size + 16 * g ≤ 16 * f) f ⟨k.natAbs, #[], Nat.le_refl _, ⟨rfl, rfl, rfl, trivial⟩, rfl, hk, rfl, by simp⟩ ?_)
    rintro g δ P ⟨m, v, hg, hc, rfl, hm, he, hsz⟩
    by_cases hm0 : m = 0
    · subst hm0
      refine .inl ⟨Tr.val (Ev.name c hc.1) rfl, ?_⟩
      refine Run.cons (Ex.ret (Ev.name c hc.2.2.1) ?_)
      show Dat.bytes v = Dat.bytes (apB f k.natAbs #[])
      rw [← he]
      cases g <;> rfl
    · refine .inr ⟨?_, ?_⟩
      · have : truth (.int ((m : Nat) : Int)) = some true := by simp [truth, hm0]
        exact Tr.val (Ev.name c hc.1) this
      · cases g with
        | zero => simp at hm; omega
        | succ g =>
          refine Run.cov hc ?_
          refine Run.cons (Ex.assignT (Asg.tup2 c (.inl rfl) (.inl rfl)) (Ev.callB (Ev.blt c rfl (by decide) rfl) (ds := [.int (m : Int), .int 16]) ⟨Ev.name c rfl, Ev.cint, trivial⟩ (CallP.divmod (by decide) (by decide))) ?_)
          have e1 : ((m : Nat) : Int).fdiv 16 = ((m / 16 : Nat) : Int) := by rw [Int.fdiv_eq_ediv_of_nonneg _ (by decide)]; omega
          have e2 : ((m : Nat) : Int).fmod 16 = ((m % 16 : Nat) : Int) := by rw [Int.fmod_eq_emod_of_nonneg _ (by decide)]; omega
          rw [e1, e2]
          have hp : (KBy.picked AP (some ((m % 16 : Nat) : Int)) (some (((m % 16 : Nat) : Int) + 1))).size ≤ 16 := KBc.size_picked_le AP _ _
          refine Run.cons (Ex.assign c (.inl rfl) (Ev.bin (Ev.sliceB (Ev.name c rfl) (EvP.some (Ev.name c rfl)) (EvP.some (Ev.bin (Ev.name c rfl) Ev.cint BinD.add)) (by decide)) (Ev.name c rfl) (BinD.addB (by omega))) (Run.nil ⟨.inl rfl, g, Nat.lt_succ_self _, m / 16, _, by omega, ⟨rfl, rfl, rfl, trivial⟩, rfl, ?_, ?_, ?_⟩))
          · rw [Nat.pow_succ] at hm; omega
          · rw [← he]
            show _ = if m = 0 then v else _
            rw [if_neg hm0]
          · rw [Array.size_append]; omega

/-- a name that is no address and has no dot at its ends -/
def okHDN (x : Str) : Bool := noHit x && !(x == ("" : Str)) && (match (seqIndex? 0 x.length).bind (x.cps[·]?) with | some c => c != 46 | none => false) && (match (seqIndex? (-1) x.length).bind (x.cps[·]?) with | some c => c != 46 | none => false)
theorem is_HDN_ok (x : Str) (h : okHDN x = true) : FnOk (stm 6) 1 [.str x] (.bool true) := by
  unfold okHDN at h
  simp only [Bool.and_eq_true] at h
  obtain ⟨⟨⟨h1, h2⟩, h3⟩, h4⟩ := h
  split at h3
  · rename_i c0 q0
    split at h4
    · rename_i c1 q1
      have n0 : ((⟨#[c0]⟩ : Str) == ("." : Str)) = false := by
        rw [beq_eq_false_iff_ne]; intro z
        have : (#[c0] : Array Nat) = #[46] := congrArg Str.cps z
        simp at this; subst this; simp at h3
      have n1 : ((⟨#[c1]⟩ : Str) == ("." : Str)) = false := by
        rw [beq_eq_false_iff_ne]; intro z
        have : (#[c1] : Array Nat) = #[46] := congrArg Str.cps z
        simp at this; subst this; simp at h4
      refine FnOk.mk (st := stm 6) rfl ?_ ?_ ?_ ?_
      · intro vs hl pm code doc
        match vs, hl with
        | [v], _ => rfl
      · decide
      · decide
      · intro w A mg mb L a cd h0 F0 c
        refine Run.cons (Ex.if_ (Tr.search (x := x) (y := x) c rfl (Ev.name c rfl) h1) (fun hb => by cases hb) fun _ => Run.nil ?_)
        refine Run.cons (Ex.if_ (Tr.cmp (Ev.name c rfl) Ev.cstr CmpP.eqS) (fun hb => by rw [hb] at h2; cases h2) fun _ => Run.nil ?_)
        refine Run.cons (Ex.if_ (Tr.op (TrAll.or (Tr.cmp (Ev.subS (k := 0) (Ev.name c rfl) Ev.cint (by decide) q0) Ev.cstr CmpP.eqS) fun _ => TrAll.or (Tr.cmp (Ev.subS (k := -1) (Ev.name c rfl) (Ev.neg Ev.cint) (by decide) q1) Ev.cstr CmpP.eqS) fun _ => TrAll.or_nil)) (fun hb => ?_) fun _ => Run.nil ?_)
        · rw [n0, n1] at hb; cases hb
        · exact Run.cons (Ex.ret Ev.cbool rfl)
    · cases h4
  · cases h3

def fitsS (x : Str) : Bool := !Builtin.Str.tooLong x.length
/-- what domain_match asks of two names here -/
def dmOk (x y : Str) : Bool := fitsS (Txt.lower x) && fitsS (Txt.lower y) && (Txt.lower x == Txt.lower y || (okHDN (Txt.lower x) && (Txt.rfind (Txt.lower x) (Txt.lower y) == -1 || Txt.rfind (Txt.lower x) (Txt.lower y) == 0 ||
  (Txt.startswith (Txt.lower y) "." && okHDN (cutS (Txt.lower y) (some 1) none) && !((Builtin.Str.strSliceIndices (some 1) none 1 (Txt.lower y).length).length == (Txt.lower y).length) && decide ((cutS (Txt.lower y) (some 1) none).length ≤ sizeLine)))))
def dmOf (x y : Str) : Bool := Txt.lower x == Txt.lower y || !(Txt.rfind (Txt.lower x) (Txt.lower y) == -1 || Txt.rfind (Txt.lower x) (Txt.lower y) == 0)
theorem domain_match_ok (x y : Str) (h : dmOk x y = true) : FnOk (stm 7) 2 [.str x, .str y] (.bool (dmOf x y)) := by
  unfold dmOk fitsS at h
  simp only [Bool.and_eq_true, Bool.or_eq_true] at h
  obtain ⟨⟨hx, hy⟩, h⟩ := h
  have hx' : Builtin.Str.tooLong (Txt.lower x).length = false := by simpa using hx
  have hy' : Builtin.Str.tooLong (Txt.lower y).length = false := by simpa using hy
  refine FnOk.mk (st := stm 7) rfl ?_ ?_ ?_ ?_
  · intro vs hl pm code doc
    match vs, hl with
    | [v, u], _ => rfl
  · decide
  · decide
  · intro w A mg mb L a cd h0 F0 c
    refine Run.cons (Ex.assign c (.inl rfl) (Ev.meth PySem.F.plainAttrs_str PySem.F.slot_str_lower PySem.F.type_str_lower (Ev.name c rfl) isStrT (ds := []) trivial (CallP.lower hx')) ?_)
    refine Run.cons (Ex.assign c (.inl rfl) (Ev.meth PySem.F.plainAttrs_str PySem.F.slot_str_lower PySem.F.type_str_lower (Ev.name c rfl) isStrT (ds := []) trivial (CallP.lower hy')) ?_)
    unfold dmOf
    generalize Txt.lower x = X at h ⊢
    generalize Txt.lower y = Y at h ⊢
    refine Run.cons (Ex.if_ (Tr.cmp (Ev.name c rfl) (Ev.name c rfl) CmpP.eqS) (fun hb => ?_) fun hb => Run.nil ?_)
    · refine Run.cons (Ex.ret Ev.cbool ?_)
      show Dat.bool true = Dat.bool (X == Y || _)
      rw [hb]; rfl
    rw [hb, Bool.false_or]
    rw [hb] at h
    rcases h with h | ⟨hH, h⟩
    · cases h
    refine Run.cons (Ex.if_ (Tr.not (Tr.val (Ev.callF c rfl (i := 6) (ds := [.str X]) (by decide) rfl (is_HDN_ok X hH) (Nat.le_refl _) ⟨Ev.name c rfl, trivial⟩) rfl)) (fun hb => by cases hb) fun _ => Run.nil ?_)
    refine Run.cons (Ex.assign c (.inl rfl) (Ev.meth PySem.F.plainAttrs_str PySem.F.slot_str_rfind PySem.F.type_str_rfind (Ev.name c rfl) isStrT (ds := [.str Y]) ⟨Ev.name c rfl, trivial⟩ CallP.rfind) ?_)
    refine Run.cons (Ex.if_ (Tr.op (TrAll.or (Tr.cmp (Ev.name c rfl) (Ev.neg Ev.cint) CmpP.eqI) fun _ => TrAll.or (Tr.cmp (Ev.name c rfl) Ev.cint CmpP.eqI) fun _ => TrAll.or_nil)) (fun hb => ?_) fun hb => Run.nil ?_)
    · refine Run.cons (Ex.ret Ev.cbool ?_)
      show Dat.bool false = Dat.bool (!(Txt.rfind X Y == -1 || Txt.rfind X Y == 0))
      rw [Bool.or_false] at hb
      rw [hb]; rfl
    · rw [Bool.or_false] at hb
      have hb' := hb
      rw [Bool.or_eq_false_iff] at hb
      rcases h with (h | h) | ⟨⟨⟨hs, hH2⟩, hne⟩, hsz⟩
      · rw [h] at hb; cases hb.1
      · rw [h] at hb; cases hb.2
      refine Run.cons (Ex.if_ (Tr.not (Tr.val (Ev.meth PySem.F.plainAttrs_str PySem.F.slot_str_startswith PySem.F.type_str_startswith (Ev.name c rfl) isStrT (ds := [.str "."]) ⟨Ev.cstr, trivial⟩ CallP.startswith) rfl)) (fun hb => by rw [hs] at hb; cases hb) fun _ => Run.nil ?_)
      refine Run.cons (Ex.if_ (Tr.not (Tr.val (Ev.callF c rfl (i := 6) (ds := [.str (cutS Y (some 1) none)]) (by decide) rfl (is_HDN_ok _ hH2) (Nat.le_refl _) ⟨Ev.sliceS (Ev.name c rfl) (EvP.some Ev.cint) EvP.none (by simpa using hne) (by simpa using hsz), trivial⟩) rfl)) (fun hb => by cases hb) fun _ => Run.nil ?_)
      refine Run.cons (Ex.ret Ev.cbool ?_)
      show Dat.bool true = Dat.bool (!(Txt.rfind X Y == -1 || Txt.rfind X Y == 0))
      rw [hb']; rfl
end Mine

namespace Mine
theorem ScOk.plain {C : Cx} {δ : VM} {scope : Scope} (h1 : closureFor scope C.env = pure []) (h2 : scope.kind = .function) (h3 : ∀ y ∈ scope.names, y.2 ≠ .cell) (h4 : ∀ y ∈ scope.names, y.2 = .local → scope.names.lookup y.1 = some .local) : ScOk C δ scope [] [] :=
  ⟨h1, h2, h3, h4, fun _ _ e => (nomatch e), fun _ h => (nomatch h), List.nodup_nil⟩
def numAt (l : List Int) : Int := l.foldl (fun n f => 16 * n + 1 + f.fmod 2) 0
/-- a figure's letter -/
def L0 (f : Nat) : Str := ⟨#[66 + f % 2]⟩
def letterOf (f : Nat) : Str := if 1 < f then Txt.lower (L0 f) else L0 f
theorem word_bytes : ∀ a b c : Fin 4, (apB 4 (0 - numAt [((a.val : Nat) : Int), ((b.val : Nat) : Int), ((c.val : Nat) : Int)]).natAbs #[]).toList.map (·.toNat) = [66 + a.val % 2, 66 + b.val % 2, 66 + c.val % 2] ∧
    (0 - numAt [((a.val : Nat) : Int), ((b.val : Nat) : Int), ((c.val : Nat) : Int)]).natAbs < 16 ^ 4 := by decide +kernel
theorem L0_fits : ∀ f : Fin 4, Builtin.Str.tooLong (Txt.lower (L0 f.val)).length = false := by decide +kernel
def chrF : Dat → Option Dat
  | .int i => some (.str ⟨#[i.toNat]⟩)
  | _ => none
def lowF : Dat → Option Dat
  | .tup [.str x, .int f] => some (.str (if 1 < f then Txt.lower x else x))
  | _ => none
theorem chrF_bytes (l : List UInt8) : ((l.map fun c => Dat.int (c.toNat : Int)).filterMap chrF) = (l.map (·.toNat)).map fun c => Dat.str ⟨#[c]⟩ := by
  induction l with
  | nil => rfl
  | cons c l ih => simp [chrF, ih]
theorem law_word_ok (a b c : Fin 4) : FnOk (stm 15) 2 [.list [.int ((a.val : Nat) : Int), .int ((b.val : Nat) : Int), .int ((c.val : Nat) : Int)]] (.list [.str (letterOf a.val), .str (letterOf b.val), .str (letterOf c.val)]) := by
  refine FnOk.mk (st := stm 15) rfl ?_ ?_ ?_ ?_
  · intro vs hl pm code doc
    match vs, hl with
    | [v], _ => rfl
  · decide
  · decide
  · intro w A mg mb L ad cd h0 F0 cx
    obtain ⟨hw, hn⟩ := word_bytes a b c
    have hget : ∀ (i : Nat) (d : Dat), ([.int ((a.val : Nat) : Int), .int ((b.val : Nat) : Int), .int ((c.val : Nat) : Int)] : List Dat)[i]? = some d → ∃ j : Int, d = .int j ∧ ([((a.val : Nat) : Int), ((b.val : Nat) : Int), ((c.val : Nat) : Int)] : List Int)[i]? = some j := by
      intro i d h
      match i, h with
      | 0, h => cases h; exact ⟨_, rfl, rfl⟩
      | 1, h => cases h; exact ⟨_, rfl, rfl⟩
      | 2, h => cases h; exact ⟨_, rfl, rfl⟩
      | i + 3, h => simp at h
    refine Run.cons (Ex.assign cx (.inl rfl) Ev.cint ?_)
    refine Run.cons (Ex.forN cx (.inl rfl) (IterOf.list cx (Ev.name cx rfl) (.inl rfl)) (fun i => [("number", .int (numAt (([((a.val : Nat) : Int), ((b.val : Nat) : Int), ((c.val : Nat) : Int)] : List Int).take i))), ("figures", .list [.int ((a.val : Nat) : Int), .int ((b.val : Nat) : Int), .int ((c.val : Nat) : Int)])]) (fun i => []) (fun _ _ => .inl rfl) ⟨rfl, rfl, trivial⟩ rfl (fun i => rfl) (fun i d hd => ?_) (fun δ' hc => ?_))
    · obtain ⟨j, rfl, hj⟩ := hget i d hd
      rw [show numAt (([((a.val : Nat) : Int), ((b.val : Nat) : Int), ((c.val : Nat) : Int)] : List Int).take (i + 1)) = 16 * numAt (([((a.val : Nat) : Int), ((b.val : Nat) : Int), ((c.val : Nat) : Int)] : List Int).take i) + 1 + j.fmod 2 from foldl_take _ _ _ _ _ hj]
      exact Run.cons (Ex.assign cx (.inl rfl) (Ev.bin (Ev.bin (Ev.bin Ev.cint (Ev.name cx rfl) (BinD.mulI (.of_left (by decide)))) Ev.cint BinD.add) (Ev.bin (Ev.name cx rfl) Ev.cint (BinD.modI (by decide))) BinD.add) (Run.nil ⟨.inl rfl, ⟨rfl, rfl, trivial⟩, rfl⟩))
    · refine Run.cov hc ?_
      have hN : numAt (([((a.val : Nat) : Int), ((b.val : Nat) : Int), ((c.val : Nat) : Int)] : List Int).take ([.int ((a.val : Nat) : Int), .int ((b.val : Nat) : Int), .int ((c.val : Nat) : Int)] : List Dat).length) = numAt [((a.val : Nat) : Int), ((b.val : Nat) : Int), ((c.val : Nat) : Int)] := rfl
      rw [hN]
      generalize numAt [((a.val : Nat) : Int), ((b.val : Nat) : Int), ((c.val : Nat) : Int)] = N at hw hn ⊢
      have hlet : (bytesL (apB 4 (0 - N).natAbs #[])).filterMap chrF = [.str (L0 a.val), .str (L0 b.val), .str (L0 c.val)] := by
        unfold bytesL
        rw [chrF_bytes, hw]; rfl
      have hlen : (bytesL (apB 4 (0 - N).natAbs #[])).length ≤ sizeLine := by
        have := congrArg List.length hw
        simp only [List.length_map, List.length_cons, List.length_nil] at this
        simp only [bytesL, List.length_map]
        rw [this]; decide
      refine Run.cons (Ex.assignComp (f := chrF) (δf := []) cx (.inl rfl) (ScOk.plain rfl rfl (by decide) (by decide))
        (IterOf.bytes cx (Ev.callF cx rfl (i := 9) (ds := [.int (0 - N)]) (by decide) rfl (int2ap_ok (0 - N) 4 hn (by decide)) (by decide) ⟨Ev.bin Ev.cint (Ev.name cx rfl) BinD.subI, trivial⟩)) trivial hlen ?_ ?_ (by decide))
      · intro L' h0' F0' c' i d hd
        unfold bytesL at hd
        rw [List.getElem?_map, Option.map_eq_some_iff] at hd
        obtain ⟨u, hd, rfl⟩ := hd
        have hu := u.toNat_lt
        exact ⟨_, Asg.name c' (.inl rfl), trivial, .inl ⟨_, rfl, Tests.nil, Ev.callB (Ev.blt c' rfl (by decide) rfl) (ds := [.int (u.toNat : Int)]) ⟨Ev.name c' rfl, trivial⟩ (CallP.chr (by omega) (by omega))⟩⟩
      · rw [hlet]
        have hz : zipD [.str (L0 a.val), .str (L0 b.val), .str (L0 c.val)] [.int ((a.val : Nat) : Int), .int ((b.val : Nat) : Int), .int ((c.val : Nat) : Int)] = [.tup [.str (L0 a.val), .int ((a.val : Nat) : Int)], .tup [.str (L0 b.val), .int ((b.val : Nat) : Int)], .tup [.str (L0 c.val), .int ((c.val : Nat) : Int)]] := rfl
        have hr : (zipD [.str (L0 a.val), .str (L0 b.val), .str (L0 c.val)] [.int ((a.val : Nat) : Int), .int ((b.val : Nat) : Int), .int ((c.val : Nat) : Int)]).filterMap lowF = [.str (letterOf a.val), .str (letterOf b.val), .str (letterOf c.val)] := by
          rw [hz]
          have h1 : ∀ f : Fin 4, lowF (.tup [.str (L0 f.val), .int ((f.val : Nat) : Int)]) = some (.str (letterOf f.val)) := fun f => by
            simp only [lowF, letterOf]
            have : ((1 : Int) < ((f.val : Nat) : Int)) ↔ 1 < f.val := by omega
            simp only [this]
          simp only [List.filterMap_cons, h1, List.filterMap_nil]
        rw [← hr]
        refine Run.cons (Ex.ret (Ev.listComp (f := lowF) (δf := []) cx (ScOk.plain rfl rfl (by decide) (by decide))
          (IterOf.zip cx (Ev.blt cx rfl (by decide) rfl) (Ev.name cx rfl) (Ev.name cx rfl) (.inl rfl) (.inl rfl)) ⟨.inl rfl, .inl rfl⟩ (by rw [hz]; exact (by decide : (3 : Nat) ≤ sizeLine)) ?_ (by decide)) rfl)
        intro L' h0' F0' c' i d hd
        rw [hz] at hd
        have : ∃ f : Fin 4, d = .tup [.str (L0 f.val), .int ((f.val : Nat) : Int)] := by
          match i, hd with
          | 0, hd => cases hd; exact ⟨a, rfl⟩
          | 1, hd => cases hd; exact ⟨b, rfl⟩
          | 2, hd => cases hd; exact ⟨c, rfl⟩
          | i + 3, hd => simp at hd
        obtain ⟨f, rfl⟩ := this
        refine ⟨_, Asg.tup2 c' (.inl rfl) (.inl rfl), trivial, .inl ⟨_, rfl, Tests.nil, ?_⟩⟩
        refine Ev.ifExp (Tr.cmp (Ev.name c' rfl) Ev.cint CmpP.gtI) (fun h => ?_) (fun h => ?_)
        · have h' : (1 : Int) < ((f.val : Nat) : Int) := by simpa using h
          rw [if_pos h']
          exact Ev.meth PySem.F.plainAttrs_str PySem.F.slot_str_lower PySem.F.type_str_lower (Ev.name c' rfl) isStrT (ds := []) trivial (CallP.lower (L0_fits f))
        · have h' : ¬ (1 : Int) < ((f.val : Nat) : Int) := by simpa using h
          rw [if_neg h']
          exact Ev.name c' rfl
end Mine

namespace Mine
/-- the context of a def of the top with cells -/
def lawC (name : Str) (sc : Scope) (w : World) (A : Around) (L a : Addr) (cd : Value) (h0 : Heap) (F0 : FH) : Cx :=
  { w := w, A := A, env := newEnv sc L mainGlobals (cellsFrom (L + 1) sc.names []) (name ++ ".<locals>.") (some a) cd none builtinsNs, h0 := h0, F0 := F0 }
section
variable {mg mb : Str → Option Value} {n : Nat}
theorem FnOk.mkC {st : Stmt} {lv : Nat} {d0 d : Dat} {x0 : Str} {name : Str} {ar : Arguments} {body : List Stmt} {dl : List Expr} {rt : Option Expr} {tp : List TypeParam} {sc : Scope} {ts : Option Scope} {bd : Str} {ps : Pos}
    (hst : st = .FunctionDef name ar body dl rt tp sc ts bd ps)
    (hbind : ∀ v pm code doc, bindArgs (PySem.Calls.docDef name ar body sc pm code doc) ⟨[v], []⟩ = pure [(x0, v)])
    (hloc : sc.names.lookup x0 = some .local)
    (run : ∀ w A mg mb L a cd h0 F0, COk (lawC name sc w A L a cd h0 F0) mg mb lv → Run (lawC name sc w A L a cd h0 F0) [(x0, d0)] [] body (fun out δ P => match out with | .ret d' => d' = d | _ => False))
    (hco : sc.isCoroutine = false := by rfl) (hgen : sc.isGenerator = false := by rfl) (hk : sc.kind = .function := by rfl) (hnd : ∀ n, ((cellsFrom n sc.names []).map (·.1)).Nodup := by intro n; decide) : FnOk st (lv + 1) [d0] d := by
  subst hst
  refine ⟨?_⟩
  intro w A mg mb F s a o pm code doc vs hA hB ho hd hcd hsub hvs
  match vs, hvs with
  | [v], hvs =>
  have hkind0 : ∀ y ∈ [(x0, v)], sc.names.lookup y.1 = some .local := fun y hy => by rw [List.mem_singleton.mp hy]; exact hloc
  refine wpAny_call (codeAny_call_cells (fd := PySem.Calls.docDef name ar body sc pm code doc) (body := body) (binds := [(x0, v)]) (by have := hA.dep; show A.depth < 1000; omega) ho hd hB.lim hcd rfl (hbind v pm code doc) rfl (fun y hy => .inl (hkind0 y hy)) (fun s₁ ic => ?_) hco hgen hk)
  have hn := fresh_none s.heap (Nat.le_refl s.heap.objs.size)
  have c : COk (lawC name sc w (A.deeper (callEnvC (PySem.Calls.docDef name ar body sc pm code doc) s.heap.objs.size a)) s.heap.objs.size a code s.heap F) mg mb lv := ⟨hk, rfl, rfl, hB, hA.deeper⟩
  obtain ⟨ic1, iccell, icap, icab⟩ := ic
  obtain ⟨⟨h₁, tk, rfl⟩, icns, ickeep, icf⟩ := ic1
  have hk0 : (callEnvC (PySem.Calls.docDef name ar body sc pm code doc) s.heap.objs.size a).kindOf x0 = some .local := hloc
  have hm : bindL (callEnvC (PySem.Calls.docDef name ar body sc pm code doc) s.heap.objs.size a).kindOf [(x0, v)] (fun _ => none) = fun y => if y = x0 then some v else none := by
    unfold bindL; rw [if_pos hk0]; rfl
  rw [hm] at icns
  have hcells : (lawC name sc w (A.deeper (callEnvC (PySem.Calls.docDef name ar body sc pm code doc) s.heap.objs.size a)) s.heap.objs.size a code s.heap F).env.cells = cellsFrom (s.heap.objs.size + 1) sc.names [] := rfl
  have p : Pre (lawC name sc w (A.deeper (callEnvC (PySem.Calls.docDef name ar body sc pm code doc) s.heap.objs.size a)) s.heap.objs.size a code s.heap F) [(x0, d0)] ([] ++ []) F h₁ := by
    have hmem : ∀ b, b ∈ muts (lawC name sc w (A.deeper (callEnvC (PySem.Calls.docDef name ar body sc pm code doc) s.heap.objs.size a)) s.heap.objs.size a code s.heap F) ([] ++ []) → s.heap.get? b = none := fun b hb => by
      unfold muts at hb
      rcases List.mem_cons.mp hb with rfl | hb
      · exact hn
      · rw [List.append_nil] at hb
        simp only [List.map_nil, List.append_nil] at hb
        obtain ⟨q, hq, rfl⟩ := List.mem_map.mp hb
        exact fresh_none s.heap (Nat.le_of_lt (icab q.1 q.2 hq))
    refine { base := ickeep, sub := fun b o e => ickeep b o (hsub b o e), le0 := Le.refl _, fresh := fun b o e => .inl e, vars := ⟨_, icns, fun x d e => ?_⟩, cells := fun q hq => ?_, muta := fun q hq => (nomatch hq), nodup := ?_, notF := fun b hb => fresh_F hsub (hmem b hb), own := fun _ b hb => hmem b hb, ownL := hn }
    · unfold look at e
      by_cases q : x0 = x
      · rw [if_pos q] at e; cases e; subst q
        exact ⟨v, .inl ⟨hloc, if_pos rfl⟩, hvs.1⟩
      · rw [if_neg q] at e; cases e
    · have : ∀ {l : List (Str × Addr)} {q : Str × Addr}, (l.map (·.1)).Nodup → q ∈ l → l.lookup q.1 = some q.2 := by
        intro l
        induction l with
        | nil => intro q _ h; cases h
        | cons p l ih =>
          intro q hn hm
          rw [List.map_cons, List.nodup_cons] at hn
          obtain ⟨y, u⟩ := p
          rw [List.lookup_cons]
          rcases List.mem_cons.mp hm with e | e
          · rw [e]; simp
          · have hne : (q.1 == y) = false := by
              rw [beq_eq_false_iff_ne]; intro z
              exact hn.1 (List.mem_map.mpr ⟨q, e, z⟩)
            rw [hne]; exact ih hn.2 e
      exact ⟨_, iccell q.1 q.2 (this (hnd _) hq)⟩
    · unfold muts
      rw [List.nodup_cons]
      simp only [List.append_nil, List.map_nil]
      refine ⟨fun hb => ?_, ?_⟩
      · obtain ⟨q, hq, e⟩ := List.mem_map.mp hb
        have := icab q.1 q.2 hq
        rw [show q.2 = s.heap.objs.size from e] at this
        exact Nat.lt_irrefl _ this
      · exact List.pairwise_map.mpr icap
  refine wpAny_mono ((run w _ mg mb s.heap.objs.size a code s.heap F c).run [] F { s with heap := h₁, toks := tk } p) (fun fl s' h => ?_) fun _ _ e => e.elim
  obtain ⟨out, δ', P', F', u, le, p', f, q⟩ := h
  cases out with
  | ret d' =>
    cases fl with
    | ret v =>
      dsimp only at q
      subst q
      exact ⟨F', ⟨upd_trans ⟨h₁, _, rfl⟩ u, fun b o e => p'.base b o e, le, p'.sub, fun b o e => p'.fresh b o e⟩, f⟩
    | _ => exact f.elim
  | _ => exact q.elim
end

section
variable {C : Cx} {δ : VM} {P : MM} {mg mb : Str → Option Value} {n : Nat}
/-- free variables of a comprehension -/
def FreeOk (C : Cx) (δ : VM) (scope : Scope) (cl : List (Str × Addr)) : VM → Prop
  | [] => True
  | (x, d) :: r => (look δ x = some d ∧ C.env.kindOf x = some .cell ∧ (compEnvC scope cl 0 C.env).kindOf x = some .cell ∧ cl.lookup x = C.env.cells.lookup x) ∧ FreeOk C δ scope cl r
theorem FreeOk.all {scope : Scope} {cl : List (Str × Addr)} : ∀ {r : VM}, FreeOk C δ scope cl r → ∀ x d, look r x = some d → look δ x = some d ∧ C.env.kindOf x = some .cell ∧ (compEnvC scope cl 0 C.env).kindOf x = some .cell ∧ cl.lookup x = C.env.cells.lookup x
  | (y, e) :: r, h, x, d, q => by
    unfold look at q
    by_cases z : y = x
    · rw [if_pos z] at q; cases q; subst z; exact h.1
    · rw [if_neg z] at q; exact FreeOk.all h.2 x d q
def ClOk (C : Cx) : List (Str × Addr) → Prop
  | [] => True
  | (x, a) :: r => C.env.cells.lookup x = some a ∧ ClOk C r
theorem ClOk.all : ∀ {r : List (Str × Addr)}, ClOk C r → ∀ p ∈ r, p ∈ C.env.cells
  | (x, a) :: r, h, p, hp => by
    rcases List.mem_cons.mp hp with rfl | hp
    · exact lookup_mem h.1
    · exact ClOk.all h.2 p hp
def nodupS : List Str → Bool
  | [] => true
  | x :: r => r.all (fun y => !decide (x = y)) && nodupS r
theorem nodupS_ok : ∀ {l : List Str}, nodupS l = true → l.Nodup
  | [], _ => List.nodup_nil
  | x :: r, h => by
    unfold nodupS at h
    rw [Bool.and_eq_true] at h
    exact List.nodup_cons.mpr ⟨fun hm => ne_all h.1 x hm rfl, nodupS_ok h.2⟩
theorem ScOk.of {scope : Scope} {cl : List (Str × Addr)} {δf : VM} (h1 : closureFor scope C.env = pure cl) (h2 : scope.kind = .function) (h3 : ∀ y ∈ scope.names, y.2 ≠ .cell) (h4 : ∀ y ∈ scope.names, y.2 = .local → scope.names.lookup y.1 = some .local) (hf : FreeOk C δ scope cl δf) (hc : ClOk C cl) (hn : nodupS (cl.map (·.1)) = true) : ScOk C δ scope cl δf :=
  ⟨h1, h2, h3, h4, hf.all, hc.all, nodupS_ok hn⟩

/-- new dicts in a row -/
theorem spl_dicts (c : COk C mg mb n) : ∀ {ps : List Pos} {P : MM} {F : FH} {s : Shared}, Pre C δ P F s.heap →
    wpAny (MG C) C.A (spliced ((ps.map fun p => Expr.Dict [] [] p).map fun e => (false, eval e C.env))) (fun vs s' => ∃ (F' : FH) (ds : List Addr), vs = ds.map .ref ∧ ds.length = ps.length ∧ Le F F' ∧ (∃ h' tk, s' = { s with heap := h', toks := tk }) ∧ Pre C δ (ds.map (fun d => (d, MD.dict [])) ++ P) F' s'.heap) NoE s
  | [], P, F, s, p => PySem.Calls.spliced_nil ⟨F, [], rfl, rfl, Le.refl _, ⟨s.heap, s.toks, rfl⟩, p⟩
  | q :: ps, P, F, s, p => by
    refine PySem.Calls.spliced_cons (wpAny_mono ((EvN.dict0 (δ := δ) (P := P) (pos := q) c).run [] F s (by rw [List.append_nil]; exact p)) (fun v s1 h1 => ?_) fun _ _ e => e)
    obtain ⟨F1, a, rfl, g1, hm, ha, hF⟩ := h1
    have p1 := p.alloc g1 hm ha hF
    refine wpAny_mono (spl_dicts c p1) (fun vs s2 h2 => ?_) fun _ _ e => e
    obtain ⟨F2, ds, rfl, hl, le, u, p2⟩ := h2
    exact ⟨F2, a :: ds, rfl, by simp [hl], g1.le.trans le, upd_trans g1.upd u, p2.perm (by simp)⟩
theorem Ex.assignDicts {x : Str} {px lp pos : Pos} {ps : List Pos} {Q : OQ} (c : COk C mg mb n) (hx : IsVar C x) (hl : ps.length ≤ sizeLine) (hq : ∀ a (ds : List Addr), ds.length = ps.length → Q .next ((x, .ex (.ref a)) :: δ) ((a, .list (ds.map fun d => .ex (.ref d))) :: (ds.map (fun d => (d, MD.dict [])) ++ P)))
    (hp : PlainArgs C (ps.map fun p => Expr.Dict [] [] p) := by rfl) (hs : swapsWith (.List (ps.map fun p => Expr.Dict [] [] p) lp) (some (.Name x px)) pos.line C.env = pure false := by rfl) : Ex C δ P (.Assign [.Name x px] (.List (ps.map fun p => Expr.Dict [] [] p) lp) pos) Q := by
  refine ⟨fun R F s p => ?_⟩
  refine wpAny_Assign_Name (wpAny_List ?_) hs
  rw [hp, backTo_plain]
  refine wpAny_mono (spl_dicts c p) (fun vs s1 h1 => ?_) fun _ _ e => e
  obtain ⟨F1, ds, rfl, hlen, le1, u1, p1⟩ := h1
  refine ⟨by simp [hlen]; exact hl, ?_⟩
  have hn := fresh_none s1.heap (Nat.le_refl s1.heap.objs.size)
  have g2 : Gv F1 s1 F1 { s1 with heap := s1.heap.push { cls := .type "list", data := .seq (ds.map Value.ref).toArray } } := Gv.same (tk := s1.toks) p1.sub fun b o e => Heap.get?_push_of_some _ e
  have els : Els C.w F1 (ds.map Value.ref).toArray (ds.map fun d => Dat.ex (.ref d)) := by
    refine ⟨by simp, fun i v d hv hd => ?_⟩
    simp only [List.getElem?_toArray, List.getElem?_map, Option.map_eq_some_iff] at hv hd
    obtain ⟨b, hb, rfl⟩ := hv
    obtain ⟨b', hb', rfl⟩ := hd
    rw [hb] at hb'; cases hb'
    exact .ex _
  have p2 := p1.alloc (m := .list (ds.map fun d => .ex (.ref d))) g2 ⟨_, ⟨0, Heap.get?_push_size _ rfl⟩, els⟩ hn (fresh_F p1.sub hn)
  refine wpAny_mono (store c p2 hx (.ex (.ref s1.heap.objs.size))) (fun _ s3 h3 => ?_) fun _ _ e => e
  exact ⟨.next, _, _, F1, upd_trans u1 (upd_trans g2.upd h3.1), le1, by rw [List.cons_append, List.append_assoc]; exact h3.2, trivial, hq _ ds hlen⟩
/-- a list's element is frozen -/
theorem Run.freezeIn {a b : Addr} {m : MD} {d : Dat} {xs : List Dat} {k : Nat} {ss : List Stmt} {P' : MM} {Q : OQ} (hd : m.dat = some d) (hp : Put P b (.list xs) (.list (xs.set k d)) P') (hk : xs[k]? = some (.ex (.ref a))) (h : Run C δ P' ss Q) (hin : C.inner = false := by rfl) : Run C δ ((a, m) :: P) ss Q := by
  refine ⟨fun R F s p => ?_⟩
  obtain ⟨F', le, p', e⟩ := Pre.freeze (P := P ++ R) p (p.own hin a (P_mem (C := C) (List.Mem.head _))) hd
  obtain ⟨vs, hl, hels⟩ := p'.muta _ (hp.app R).mem
  have hels' : Els C.w F' vs (xs.set k d) := by
    refine ⟨by rw [List.length_set]; exact hels.1, fun i v dd hv hdd => ?_⟩
    rw [List.getElem?_set] at hdd
    by_cases q : k = i
    · subst q
      rw [if_pos rfl] at hdd
      split at hdd
      · cases hdd
        have := hels.2 k v _ hv hk
        cases this
        exact e
      · cases hdd
    · rw [if_neg q] at hdd
      exact hels.2 i v dd hv hdd
  have p2 : Pre C δ (P' ++ R) F' s.heap := by
    refine p'.put (p'.own hin b (P_mem (C := C) (hp.app R).mem)) (hp.app R) (fun _ _ _ e => e) ⟨vs, hl, hels'⟩
  exact wpAny_mono (h.run R F' s p2) (fun fl s2 h2 => h2.pre ⟨s.heap, s.toks, rfl⟩ le) fun _ _ e => e
/-- a statement with its end -/
theorem Ex.mono {st : Stmt} {Q Q' : OQ} (h : Ex C δ P st Q) (hq : ∀ o d p, Q o d p → Q' o d p) : Ex C δ P st Q' := by
  refine ⟨fun R F s p => ?_⟩
  refine wpAny_mono (h.run R F s p) (fun fl s1 h1 => ?_) fun _ _ e => e
  obtain ⟨out, δ', P', F', u, le, p', f, q⟩ := h1
  exact ⟨out, δ', P', F', u, le, p', f, hq _ _ _ q⟩
theorem Ex.cov {δ' : VM} {st : Stmt} {Q : OQ} (hc : Cov δ δ') (h : Ex C δ' P st Q) : Ex C δ P st Q := ⟨fun R F s p => h.run R F s (p.cov hc)⟩
end
/-- five things -/
def tab5 {α : Type} (f : Nat → α) : List α := [f 0, f 1, f 2, f 3, f 4]
def upd {α : Type} (f : Nat → α) (v : Nat) (x : α) : Nat → α := fun u => if u = v then x else f u
theorem tab5_get {α : Type} {f : Nat → α} {v : Nat} (h : v < 5) : (tab5 f)[v]? = some (f v) := by
  match v, h with
  | 0, _ | 1, _ | 2, _ | 3, _ | 4, _ => rfl
theorem tab5_set {α : Type} {f : Nat → α} {v : Nat} {x : α} (h : v < 5) : (tab5 f).set v x = tab5 (upd f v x) := by
  match v, h with
  | 0, _ | 1, _ | 2, _ | 3, _ | 4, _ => rfl
theorem tab5_map {α β : Type} {f : Nat → α} (g : α → β) : (tab5 f).map g = tab5 fun v => g (f v) := rfl
theorem nth5 {f : Nat → Dat} {v : Nat} (h : v < 5) : nth (tab5 f) (v : Int) = some (f v) := by
  unfold nth
  rw [if_pos (Int.natCast_nonneg v)]
  exact tab5_get h
end Mine

namespace Mine
def LSp : { sc : Scope // fnScope (stm 17) = some sc } := ⟨_, rfl⟩
def LS : Scope := LSp.1
/-- the law's context -/
def LC (w : World) (A : Around) (L a : Addr) (cd : Value) (h0 : Heap) (F0 : FH) : Cx := lawC "law" LS w A L a cd h0 F0
def S0p : { p : Stmt // (fnBody (stm 17))[0]? = some p } := ⟨_, rfl⟩
def S1p : { p : Stmt // (fnBody (stm 17))[1]? = some p } := ⟨_, rfl⟩
def S2p : { p : Stmt // (fnBody (stm 17))[2]? = some p } := ⟨_, rfl⟩
def S3p : { p : Stmt // (fnBody (stm 17))[3]? = some p } := ⟨_, rfl⟩
def S4p : { p : Stmt // (fnBody (stm 17))[4]? = some p } := ⟨_, rfl⟩
def S5p : { p : Stmt // (fnBody (stm 17))[5]? = some p } := ⟨_, rfl⟩
def S6p : { p : Stmt // (fnBody (stm 17))[6]? = some p } := ⟨_, rfl⟩
def S7p : { p : Stmt // (fnBody (stm 17))[7]? = some p } := ⟨_, rfl⟩
def S8p : { p : Stmt // (fnBody (stm 17))[8]? = some p } := ⟨_, rfl⟩
def S9p : { p : Stmt // (fnBody (stm 17))[9]? = some p } := ⟨_, rfl⟩
def S10p : { p : Stmt // (fnBody (stm 17))[10]? = some p } := ⟨_, rfl⟩
def S11p : { p : Stmt // (fnBody (stm 17))[11]? = some p } := ⟨_, rfl⟩
def S12p : { p : Stmt // (fnBody (stm 17))[12]? = some p } := ⟨_, rfl⟩
def S13p : { p : Stmt // (fnBody (stm 17))[13]? = some p } := ⟨_, rfl⟩
def S14p : { p : Stmt // (fnBody (stm 17))[14]? = some p } := ⟨_, rfl⟩
def S15p : { p : Stmt // (fnBody (stm 17))[15]? = some p } := ⟨_, rfl⟩
def S16p : { p : Stmt // (fnBody (stm 17))[16]? = some p } := ⟨_, rfl⟩
def S17p : { p : Stmt // (fnBody (stm 17))[17]? = some p } := ⟨_, rfl⟩
def S18p : { p : Stmt // (fnBody (stm 17))[18]? = some p } := ⟨_, rfl⟩
section
variable {w : World} {A : Around} {L a : Addr} {cd : Value} {h0 : Heap} {F0 : FH}
theorem iv_script : IsVar (LC w A L a cd h0 F0) "script" := .inl rfl
theorem iv_rows : IsVar (LC w A L a cd h0 F0) "rows" := .inl rfl
theorem iv_k : IsVar (LC w A L a cd h0 F0) "k" := .inl rfl
theorem iv_draw : IsVar (LC w A L a cd h0 F0) "draw" := .inl rfl
theorem iv_words : IsVar (LC w A L a cd h0 F0) "words" := .inl rfl
theorem iv_pairs : IsVar (LC w A L a cd h0 F0) "pairs" := .inl rfl
theorem iv_j : IsVar (LC w A L a cd h0 F0) "j" := .inl rfl
theorem iv_costs : IsVar (LC w A L a cd h0 F0) "costs" := .inl rfl
theorem iv_a : IsVar (LC w A L a cd h0 F0) "a" := .inl rfl
theorem iv_b : IsVar (LC w A L a cd h0 F0) "b" := .inl rfl
theorem iv_held : IsVar (LC w A L a cd h0 F0) "held" := .inl rfl
theorem iv_totals : IsVar (LC w A L a cd h0 F0) "totals" := .inl rfl
theorem iv_parted : IsVar (LC w A L a cd h0 F0) "parted" := .inl rfl
theorem iv_left : IsVar (LC w A L a cd h0 F0) "left" := .inl rfl
theorem iv_cuts : IsVar (LC w A L a cd h0 F0) "cuts" := .inl rfl
theorem iv_due : IsVar (LC w A L a cd h0 F0) "due" := .inl rfl
theorem iv_u : IsVar (LC w A L a cd h0 F0) "u" := .inl rfl
theorem iv_order : IsVar (LC w A L a cd h0 F0) "order" := .inl rfl
theorem iv_near : IsVar (LC w A L a cd h0 F0) "near" := .inl rfl
theorem iv_best : IsVar (LC w A L a cd h0 F0) "best" := .inl rfl
theorem iv_sides : IsVar (LC w A L a cd h0 F0) "sides" := .inl rfl
theorem iv_mark : IsVar (LC w A L a cd h0 F0) "mark" := .inl rfl
theorem iv_row : IsVar (LC w A L a cd h0 F0) "row" := .inr ⟨rfl, rfl, _, rfl⟩
theorem iv_tables : IsVar (LC w A L a cd h0 F0) "tables" := .inr ⟨rfl, rfl, _, rfl⟩
theorem iv_i : IsVar (LC w A L a cd h0 F0) "i" := .inr ⟨rfl, rfl, _, rfl⟩
theorem iv_worths : IsVar (LC w A L a cd h0 F0) "worths" := .inr ⟨rfl, rfl, _, rfl⟩
theorem iv_half : IsVar (LC w A L a cd h0 F0) "half" := .inr ⟨rfl, rfl, _, rfl⟩
theorem iv_total : IsVar (LC w A L a cd h0 F0) "total" := .inr ⟨rfl, rfl, _, rfl⟩
theorem iv_hosts : IsVar (LC w A L a cd h0 F0) "hosts" := .inr ⟨rfl, rfl, _, rfl⟩
theorem iv_names : IsVar (LC w A L a cd h0 F0) "names" := .inr ⟨rfl, rfl, _, rfl⟩
theorem iv_heaps : IsVar (LC w A L a cd h0 F0) "heaps" := .inr ⟨rfl, rfl, _, rfl⟩
theorem iv_v : IsVar (LC w A L a cd h0 F0) "v" := .inr ⟨rfl, rfl, _, rfl⟩
theorem iv_last : IsVar (LC w A L a cd h0 F0) "last" := .inr ⟨rfl, rfl, _, rfl⟩
theorem iv_ahead : IsVar (LC w A L a cd h0 F0) "ahead" := .inr ⟨rfl, rfl, _, rfl⟩
theorem iv_both : IsVar (LC w A L a cd h0 F0) "both" := .inr ⟨rfl, rfl, _, rfl⟩
theorem gl_range : (LC w A L a cd h0 F0).env.kindOf "range" = some .globalImplicit := rfl
theorem gl_sum : (LC w A L a cd h0 F0).env.kindOf "sum" = some .globalImplicit := rfl
theorem gl_zip : (LC w A L a cd h0 F0).env.kindOf "zip" = some .globalImplicit := rfl
theorem gl_len : (LC w A L a cd h0 F0).env.kindOf "len" = some .globalImplicit := rfl
theorem gl__substitution_cost : (LC w A L a cd h0 F0).env.kindOf "_substitution_cost" = some .globalImplicit := rfl
theorem gl_count_calls : (LC w A L a cd h0 F0).env.kindOf "count_calls" = some .globalImplicit := rfl
theorem gl__law_tie : (LC w A L a cd h0 F0).env.kindOf "_law_tie" = some .globalImplicit := rfl
theorem gl_add_callers : (LC w A L a cd h0 F0).env.kindOf "add_callers" = some .globalImplicit := rfl
theorem gl_min : (LC w A L a cd h0 F0).env.kindOf "min" = some .globalImplicit := rfl
theorem gl_Int2AP : (LC w A L a cd h0 F0).env.kindOf "Int2AP" = some .globalImplicit := rfl
end
end Mine

namespace Mine
/-- a row of figures -/
abbrev Row := Fin 4 × Fin 4 × Fin 4
def fig (f : Fin 4) : Int := ((f.val : Nat) : Int)
def rowI (r : Row) : List Int := [fig r.1, fig r.2.1, fig r.2.2]
def rowD (r : Row) : Dat := .list ((rowI r).map .int)
def wordD (r : Row) : Dat := .list [.str (letterOf r.1.val), .str (letterOf r.2.1.val), .str (letterOf r.2.2.val)]
def rowN (n : Nat) : Row := (⟨n % 4, Nat.mod_lt _ (by decide)⟩, ⟨n / 4 % 4, Nat.mod_lt _ (by decide)⟩, ⟨n / 16 % 4, Nat.mod_lt _ (by decide)⟩)
def baseN (k : Nat) : Int := [48, 16, 53, 39, 45].getD k 0
def pickI (xs : List Int) (lo hi st : Option Int) : List Int := (sliceRange (sliceBounds lo hi st xs.length).1 (sliceBounds lo hi st xs.length).2.1 (sliceBounds lo hi st xs.length).2.2).filterMap (xs[·]?)
theorem pickD_int (xs : List Int) (lo hi st : Option Int) : pickD (xs.map .int) lo hi st = (pickI xs lo hi st).map .int := by
  unfold pickD pickI
  rw [List.length_map, List.map_filterMap]
  refine congrArg (fun f => List.filterMap f _) (funext fun i => ?_)
  rw [List.getElem?_map]
def drawI (Ls : List Int) (k : Nat) : Int := (baseN k + (pickI Ls (some (k : Int)) (some 25) (some 5)).sum).fmod 64
def rowOf (Ls : List Int) (k : Nat) : Row := rowN (drawI Ls k).toNat
theorem draw_in (Ls : List Int) (k : Nat) : ∃ n : Nat, drawI Ls k = (n : Int) ∧ n < 64 := by
  have h1 : 0 ≤ drawI Ls k := by unfold drawI; rw [Int.fmod_eq_emod_of_nonneg _ (by decide)]; exact Int.emod_nonneg _ (by decide)
  have h2 : drawI Ls k < 64 := by unfold drawI; rw [Int.fmod_eq_emod_of_nonneg _ (by decide)]; exact Int.emod_lt_of_pos _ (by decide)
  exact ⟨(drawI Ls k).toNat, by omega, by omega⟩
theorem fdiv_nat (n m : Nat) (hm : 0 < m) : ((n : Nat) : Int).fdiv (m : Int) = ((n / m : Nat) : Int) := by
  rw [Int.fdiv_eq_ediv_of_nonneg _ (by omega)]; omega
theorem fmod_nat (n m : Nat) (hm : 0 < m) : ((n : Nat) : Int).fmod (m : Int) = ((n % m : Nat) : Int) := by
  rw [Int.fmod_eq_emod_of_nonneg _ (by omega)]; omega

section
variable {w : World} {A : Around} {L a : Addr} {cd : Value} {h0 : Heap} {F0 : FH} {mg mb : Str → Option Value} {Q : OQ} {P : MM}
theorem st0 (c : COk (LC w A L a cd h0 F0) mg mb 3) {V : VM} (k : ∀ ra, Q .next (("rows", .ex (.ref ra)) :: V) ((ra, .list []) :: P)) : Ex (LC w A L a cd h0 F0) V P S0p.1 Q :=
  Ex.assignN c iv_rows (EvN.list (ds := []) trivial (Nat.zero_le _)) k
theorem range_k {i : Nat} {d : Dat} {k : Nat} (h : (rangeL 0 k)[i]? = some d) : i < k ∧ d = .int ((i : Nat) : Int) := by
  obtain ⟨h1, h2⟩ := rangeL_get h
  rw [Int.zero_add] at h2
  exact ⟨h1, h2⟩
def rowsTo (Ls : List Int) (i : Nat) : List Dat := (List.range i).map fun k => rowD (rowOf Ls k)
theorem st1 (c : COk (LC w A L a cd h0 F0) mg mb 3) {Ls : List Int} (hL : Ls.length ≤ 63) {ra : Addr} (k : ∀ δ', Cov δ' [("rows", .ex (.ref ra))] → Q .next δ' [(ra, .list (rowsTo Ls 5))]) :
    Ex (LC w A L a cd h0 F0) [("rows", .ex (.ref ra)), ("script", .list (Ls.map .int))] [(ra, .list [])] S1p.1 Q := by
  refine Ex.forN c iv_k (IterOf.range1 c (Ev.blt c gl_range (by decide) rfl) Ev.cint (k := 5) rfl rfl) (fun i => [("rows", .ex (.ref ra)), ("script", .list (Ls.map .int))]) (fun i => [(ra, .list (rowsTo Ls i))]) (fun _ _ => trivial) ⟨rfl, rfl, trivial⟩ rfl (fun i => rfl) (fun i d hd => ?_) (fun δ' hc => ?_)
  · obtain ⟨hi, rfl⟩ := range_k hd
    have e0 : nth ([.int 48, .int 16, .int 53, .int 39, .int 45] : List Dat) ((i : Nat) : Int) = some (.int (baseN i)) := by
      match i, hi with
      | 0, _ | 1, _ | 2, _ | 3, _ | 4, _ => rfl
    have hsz : (Ls.map Dat.int).length ≤ sizeLine := by rw [List.length_map]; exact Nat.le_trans hL (by decide)
    refine Run.cons (Ex.assign c iv_draw (d := .int (drawI Ls i)) (Ev.bin (d1 := .int (baseN i + (pickI Ls (some (i : Int)) (some 25) (some 5)).sum)) (Ev.bin (d1 := .int (baseN i)) (Ev.subL (xs := [.int 48, .int 16, .int 53, .int 39, .int 45]) (Ev.list (ds := [.int 48, .int 16, .int 53, .int 39, .int 45]) ⟨Ev.cint, Ev.cint, Ev.cint, Ev.cint, Ev.cint, trivial⟩ (by decide)) (Ev.name c rfl) (.inl rfl) e0 (by omega))
      (Ev.callB (Ev.blt c gl_sum (by decide) rfl) (ds := [.list (pickD (Ls.map .int) (some (i : Int)) (some 25) (some 5))]) ⟨Ev.sliceL (Ev.name c rfl) (.inl rfl) (EvP.some (Ev.name c rfl)) (EvP.some Ev.cint) (EvP.some Ev.cint) (by decide) hsz, trivial⟩ (CallP.sum (by rw [pickD_int]; exact .inl rfl) c)) BinD.add) Ev.cint (BinD.modI (by decide))) ?_)
    obtain ⟨m, hm, hm64⟩ := draw_in Ls i
    have hr : rowOf Ls i = rowN m := by unfold rowOf; rw [hm]; rfl
    rw [hm]
    have e1 : ((m : Nat) : Int).fmod 4 = ((m % 4 : Nat) : Int) := fmod_nat m 4 (by decide)
    have e2 : (((m : Nat) : Int).fdiv 4).fmod 4 = ((m / 4 % 4 : Nat) : Int) := by rw [show ((m : Nat) : Int).fdiv 4 = ((m / 4 : Nat) : Int) from fdiv_nat m 4 (by decide)]; exact fmod_nat _ 4 (by decide)
    have e3 : ((m : Nat) : Int).fdiv 16 = ((m / 16 % 4 : Nat) : Int) := by rw [show ((m : Nat) : Int).fdiv 16 = ((m / 16 : Nat) : Int) from fdiv_nat m 16 (by decide)]; omega
    refine Run.cons (Ex.append c rfl (d := .list [.int (((m : Nat) : Int).fmod 4), .int ((((m : Nat) : Int).fdiv 4).fmod 4), .int (((m : Nat) : Int).fdiv 16)]) (Ev.list ⟨Ev.bin (Ev.name c rfl) Ev.cint (BinD.modI (by decide)), Ev.bin (Ev.bin (Ev.name c rfl) Ev.cint (BinD.divI (by decide) (by decide))) Ev.cint (BinD.modI (by decide)), Ev.bin (Ev.name c rfl) Ev.cint (BinD.divI (by decide) (by decide)), trivial⟩ (by exact (by decide : 3 ≤ sizeLine))) .head ?_ (Run.nil ⟨.inl rfl, ⟨rfl, rfl, trivial⟩, ?_⟩))
    · simp only [rowsTo, List.length_map, List.length_range]; exact Nat.le_trans (Nat.le_of_lt hi) (by decide)
    · rw [e1, e2, e3]
      unfold rowsTo
      rw [List.range_succ, List.map_append]
      show _ = [(ra, MD.list (_ ++ [rowD (rowOf Ls i)]))]
      rw [hr]; rfl
  · exact k _ ⟨hc.1, trivial⟩
def wordF : Dat → Option Dat
  | .list [.int x, .int y, .int z] => some (.list [.str (letterOf x.toNat), .str (letterOf y.toNat), .str (letterOf z.toNat)])
  | _ => none
theorem wordF_row (r : Row) : wordF (rowD r) = some (wordD r) := rfl
theorem st2 (c : COk (LC w A L a cd h0 F0) mg mb 3) {R : Nat → Row} (k : ∀ δ', Cov δ' [("words", .list (tab5 fun v => wordD (R v))), ("rows", .list (tab5 fun v => rowD (R v)))] → Q .next δ' P) :
    Ex (LC w A L a cd h0 F0) [("rows", .list (tab5 fun v => rowD (R v)))] P S2p.1 Q := by
  refine Ex.assignComp (f := wordF) (δf := []) c iv_words (ScOk.plain rfl rfl (by decide) (by decide)) (IterOf.list c (Ev.name c rfl) (.inl rfl)) (.inl rfl) (by exact (by decide : 5 ≤ sizeLine)) ?_ (k _ ⟨rfl, rfl, trivial⟩) (by decide)
  intro L' h0' F0' c' i d hd
  have : ∃ r, d = rowD r := by
    match i, hd with
    | 0, hd | 1, hd | 2, hd | 3, hd | 4, hd => exact ⟨_, (Option.some.inj hd).symm⟩
    | i + 5, hd => simp [tab5] at hd
  obtain ⟨r, rfl⟩ := this
  exact ⟨_, Asg.name c' (.inl rfl), trivial, .inl ⟨_, wordF_row r, Tests.nil, Ev.callF c' rfl (i := 15) (ds := [rowD r]) (by decide) rfl (law_word_ok r.1 r.2.1 r.2.2) (by decide) ⟨Ev.name c' rfl, trivial⟩⟩⟩
theorem st3 (c : COk (LC w A L a cd h0 F0) mg mb 3) {V : VM} (k : ∀ ta d0 d1 d2 d3 d4, Q .next (("tables", .ex (.ref ta)) :: V) ((ta, .list [.ex (.ref d0), .ex (.ref d1), .ex (.ref d2), .ex (.ref d3), .ex (.ref d4)]) :: (d0, .dict []) :: (d1, .dict []) :: (d2, .dict []) :: (d3, .dict []) :: (d4, .dict []) :: P)) : Ex (LC w A L a cd h0 F0) V P S3p.1 Q := by
  refine Ex.assignDicts (ps := [_, _, _, _, _]) c iv_tables (by decide) (fun ta ds hl => ?_)
  match ds, hl with
  | [d0, d1, d2, d3, d4], _ => exact k ta d0 d1 d2 d3 d4
theorem st4 (c : COk (LC w A L a cd h0 F0) mg mb 3) {V : VM} (k : ∀ pa, Q .next (("pairs", .ex (.ref pa)) :: V) ((pa, .list []) :: P)) : Ex (LC w A L a cd h0 F0) V P S4p.1 Q :=
  Ex.assignN c iv_pairs (EvN.list (ds := []) trivial (Nat.zero_le _)) k
end
end Mine

namespace Mine
/-- the tie of two rows -/
def tie (R : Nat → Row) (i j : Nat) : Int := tieL ((rowI (R i)).zip (rowI (R j)))
theorem tieOf_symm (a b : Int) : tieOf a b = tieOf b a := by
  unfold tieOf
  by_cases h : a = b
  · subst h; rfl
  · have h' : b ≠ a := fun z => h z.symm
    rw [if_neg h, if_neg h']
    by_cases q : a.fmod 2 = b.fmod 2
    · rw [if_pos q, if_pos q.symm]
    · rw [if_neg q, if_neg fun z => q z.symm]
theorem tie_eq (R : Nat → Row) (i j : Nat) : tie R i j = tieOf (fig (R i).1) (fig (R j).1) + tieOf (fig (R i).2.1) (fig (R j).2.1) + tieOf (fig (R i).2.2) (fig (R j).2.2) := by
  simp [tie, rowI, tieL]
theorem tie_symm (R : Nat → Row) (i j : Nat) : tie R i j = tie R j i := by
  rw [tie_eq, tie_eq, tieOf_symm (fig (R i).1), tieOf_symm (fig (R i).2.1), tieOf_symm (fig (R i).2.2)]
theorem tie_nonneg (R : Nat → Row) (i j : Nat) : 0 ≤ tie R i j := by
  have h : ∀ a b, 0 ≤ tieOf a b := fun a b => by unfold tieOf; split <;> (try split) <;> decide
  rw [tie_eq]
  have h1 := h (fig (R i).1) (fig (R j).1)
  have h2 := h (fig (R i).2.1) (fig (R j).2.1)
  have h3 := h (fig (R i).2.2) (fig (R j).2.2)
  omega
theorem cost_tie : ∀ f g : Fin 4, costOf (letterOf f.val) (letterOf g.val) = 2 - tieOf (fig f) (fig g) := by decide +kernel
theorem letter_fits : ∀ f : Fin 4, Builtin.Str.tooLong (Txt.lower (letterOf f.val)).length = false := by decide +kernel
def cst (f g : Fin 4) : Int := costOf (letterOf f.val) (letterOf g.val)
def costL (r q : Row) : List (Int × Int) := [(0, cst r.1 q.1), (1, cst r.2.1 q.2.1), (2, cst r.2.2 q.2.2)]
theorem cost_held (R : Nat → Row) (i j : Nat) : 6 - sumOf (costL (R i) (R j)) = tie R i j := by
  rw [tie_eq]
  simp only [sumOf, costL, cst, cost_tie, List.map_cons, List.map_nil, List.sum_cons, List.sum_nil]
  omega
/-- the tables while they are filled -/
def dv (R : Nat → Row) (i j v : Nat) : List (Int × Int) := ((List.range 5).filter fun u => u != v && (Nat.blt (max u v) i || (max u v == i && Nat.blt (min u v) j))).map fun u => (((u : Nat) : Int), tie R v u)
def dtab (R : Nat → Row) (v : Nat) : List (Int × Int) := ((List.range 5).filter fun u => u != v).map fun u => (((u : Nat) : Int), tie R v u)
theorem lt5 {i : Nat} (h : i < 5) : i = 0 ∨ i = 1 ∨ i = 2 ∨ i = 3 ∨ i = 4 := by omega
theorem dv_step (R : Nat → Row) {i j : Nat} (hi : i < 5) (hj : j < i) : upd (upd (dv R i j) i (putI (dv R i j i) (j : Int) (tie R i j))) j (putI (dv R i j j) (i : Int) (tie R j i)) 0 = dv R i (j + 1) 0 ∧
    upd (upd (dv R i j) i (putI (dv R i j i) (j : Int) (tie R i j))) j (putI (dv R i j j) (i : Int) (tie R j i)) 1 = dv R i (j + 1) 1 ∧ upd (upd (dv R i j) i (putI (dv R i j i) (j : Int) (tie R i j))) j (putI (dv R i j j) (i : Int) (tie R j i)) 2 = dv R i (j + 1) 2 ∧
    upd (upd (dv R i j) i (putI (dv R i j i) (j : Int) (tie R i j))) j (putI (dv R i j j) (i : Int) (tie R j i)) 3 = dv R i (j + 1) 3 ∧ upd (upd (dv R i j) i (putI (dv R i j i) (j : Int) (tie R i j))) j (putI (dv R i j j) (i : Int) (tie R j i)) 4 = dv R i (j + 1) 4 := by
  rcases lt5 hi with rfl | rfl | rfl | rfl | rfl <;> rcases lt5 (Nat.lt_trans hj hi) with rfl | rfl | rfl | rfl | rfl <;> first | omega | exact ⟨rfl, rfl, rfl, rfl, rfl⟩
theorem dv_row (R : Nat → Row) {i v : Nat} (hi : i < 5) (hv : v < 5) : dv R i i v = dv R (i + 1) 0 v := by
  rcases lt5 hi with rfl | rfl | rfl | rfl | rfl <;> rcases lt5 hv with rfl | rfl | rfl | rfl | rfl <;> rfl
theorem dv_end (R : Nat → Row) {v : Nat} (hv : v < 5) : dv R 5 0 v = dtab R v := by
  rcases lt5 hv with rfl | rfl | rfl | rfl | rfl <;> rfl
theorem dv_len (R : Nat → Row) (i j v : Nat) : (dv R i j v).length ≤ 5 := by
  unfold dv
  rw [List.length_map]
  exact Nat.le_trans (List.length_filter_le _ _) (by simp)
def dictsP (D : Nat → Addr) (f : Nat → List (Int × Int)) : MM := [(D 0, .dict (f 0)), (D 1, .dict (f 1)), (D 2, .dict (f 2)), (D 3, .dict (f 3)), (D 4, .dict (f 4))]
theorem dictsP_put {D : Nat → Addr} {f : Nat → List (Int × Int)} {v : Nat} {x : List (Int × Int)} (h : v < 5) : Put (dictsP D f) (D v) (.dict (f v)) (.dict x) (dictsP D (upd f v x)) := by
  rcases lt5 h with rfl | rfl | rfl | rfl | rfl
  · exact .head
  · exact .tail .head
  · exact .tail (.tail .head)
  · exact .tail (.tail (.tail .head))
  · exact .tail (.tail (.tail (.tail .head)))
def tripD (R : Nat → Row) (i j : Nat) : Dat := .tup [.int (2 ^ i), .int (2 ^ j), .int (tie R i j)]
def pairsTo (R : Nat → Row) (i j : Nat) : List Dat := ((List.range i).flatMap fun x => (List.range x).map fun y => tripD R x y) ++ (List.range j).map fun y => tripD R i y
theorem pairs_step (R : Nat → Row) (i j : Nat) : pairsTo R i (j + 1) = pairsTo R i j ++ [tripD R i j] := by
  unfold pairsTo; rw [List.range_succ, List.map_append, List.append_assoc]; rfl
theorem pairs_row (R : Nat → Row) (i : Nat) : pairsTo R i i = pairsTo R (i + 1) 0 := by
  unfold pairsTo; rw [List.range_succ, List.flatMap_append]; simp
theorem pairs_len (R : Nat → Row) {i j : Nat} (hi : i < 5) (hj : j ≤ i) : (pairsTo R i j).length ≤ 20 := by
  rcases lt5 hi with rfl | rfl | rfl | rfl | rfl <;> rcases lt5 (Nat.lt_of_le_of_lt hj hi) with rfl | rfl | rfl | rfl | rfl <;> first | omega | exact Nat.le_of_ble_eq_true rfl

section
variable {w : World} {A : Around} {L a : Addr} {cd : Value} {h0 : Heap} {F0 : FH} {mg mb : Str → Option Value} {Q : OQ} {P : MM}
def V5 (R : Nat → Row) (ta pa : Addr) : VM := [("pairs", .ex (.ref pa)), ("tables", .ex (.ref ta)), ("words", .list (tab5 fun v => wordD (R v))), ("rows", .list (tab5 fun v => rowD (R v)))]
def P5 (R : Nat → Row) (D : Nat → Addr) (ta pa : Addr) (i j : Nat) : MM := (pa, .list (pairsTo R i j)) :: (ta, .list (tab5 fun v => .ex (.ref (D v)))) :: dictsP D (dv R i j)
theorem word_zip (r q : Row) : ∃ xs ys, wordD r = .list xs ∧ wordD q = .list ys ∧ zipD xs ys = [.tup [.str (letterOf r.1.val), .str (letterOf q.1.val)], .tup [.str (letterOf r.2.1.val), .str (letterOf q.2.1.val)], .tup [.str (letterOf r.2.2.val), .str (letterOf q.2.2.val)]] := ⟨_, _, rfl, rfl, rfl⟩
theorem st5 (c : COk (LC w A L a cd h0 F0) mg mb 3) {R : Nat → Row} {D : Nat → Addr} {ta pa : Addr} (k : ∀ δ', Cov δ' (V5 R ta pa) → Q .next δ' (P5 R D ta pa 5 0)) :
    Ex (LC w A L a cd h0 F0) (V5 R ta pa) (P5 R D ta pa 0 0) S5p.1 Q := by
  refine Ex.forN c iv_i (IterOf.range1 c (Ev.blt c gl_range (by decide) rfl) Ev.cint (k := 5) rfl rfl) (fun i => V5 R ta pa) (fun i => P5 R D ta pa i 0) (fun _ _ => trivial) ⟨rfl, rfl, rfl, rfl, trivial⟩ rfl (fun i => rfl) (fun i d hd => ?_) (fun δ' hc => k _ hc)
  obtain ⟨hi, rfl⟩ := range_k hd
  have hsm : Builtin.Range.small 0 ((i : Nat) : Int) 1 = true := by rcases lt5 hi with rfl | rfl | rfl | rfl | rfl <;> rfl
  have hrs : Builtin.Range.rangeSize 0 ((i : Nat) : Int) 1 = i := by rcases lt5 hi with rfl | rfl | rfl | rfl | rfl <;> rfl
  refine Run.cons (Ex.forN c iv_j (IterOf.range1 c (Ev.blt c gl_range (by decide) rfl) (Ev.name c rfl) (k := i) hsm hrs) (fun j => ("i", .int ((i : Nat) : Int)) :: V5 R ta pa) (fun j => P5 R D ta pa i j) (fun _ _ => trivial) ⟨rfl, rfl, rfl, rfl, rfl, trivial⟩ rfl (fun i => rfl) (fun j d hd => ?_) (fun δ' hc => Run.nil ⟨.inl rfl, hc.2, ?_⟩))
  · obtain ⟨hj, rfl⟩ := range_k hd
    have hj5 : j < 5 := Nat.lt_trans hj hi
    obtain ⟨xs, ys, hx, hy, hz⟩ := word_zip (R i) (R j)
    have hwi : nth (tab5 fun v => wordD (R v)) ((i : Nat) : Int) = some (.list xs) := by rw [nth5 hi, hx]
    have hwj : nth (tab5 fun v => wordD (R v)) ((j : Nat) : Int) = some (.list ys) := by rw [nth5 hj5, hy]
    refine Run.cons (Ex.assignN c iv_costs (EvN.dict0 c) fun ac => ?_)
    refine Run.cons (Ex.forT2 c iv_a iv_b (IterOf.zip (xs := xs) (ys := ys) c (Ev.blt c gl_zip (by decide) rfl) (Ev.subL (Ev.name c rfl) (Ev.name c rfl) (.inl rfl) hwi (by omega)) (Ev.subL (Ev.name c rfl) (Ev.name c rfl) (.inl rfl) hwj (by omega)) (.inl rfl) (.inl rfl))
      (fun q => ("costs", .ex (.ref ac)) :: ("j", .int ((j : Nat) : Int)) :: ("i", .int ((i : Nat) : Int)) :: V5 R ta pa) (fun q => (ac, .dict ((costL (R i) (R j)).take q)) :: P5 R D ta pa i j) (fun _ _ => ⟨.inl rfl, .inl rfl⟩) ⟨rfl, rfl, rfl, rfl, rfl, rfl, rfl, trivial⟩ rfl zipD_tup (fun i => rfl) (fun i => rfl) (fun q x y hd => ?_) (fun δ' hc => ?_))
    · rw [hz] at hd
      have hq : ∃ f g : Fin 4, x = .str (letterOf f.val) ∧ y = .str (letterOf g.val) ∧ putI ((costL (R i) (R j)).take q) (((costL (R i) (R j)).take q).length : Int) (cst f g) = (costL (R i) (R j)).take (q + 1) := by
        match q, hd with
        | 0, hd => cases hd; exact ⟨_, _, rfl, rfl, rfl⟩
        | 1, hd => cases hd; exact ⟨_, _, rfl, rfl, rfl⟩
        | 2, hd => cases hd; exact ⟨_, _, rfl, rfl, rfl⟩
        | q + 3, hd => simp at hd
      obtain ⟨f, g, rfl, rfl, hput⟩ := hq
      have hl : ((costL (R i) (R j)).take q).length ≤ 3 := by rw [List.length_take]; exact Nat.min_le_right _ _
      rw [← hput]
      generalize (costL (R i) (R j)).take q = es at hl ⊢
      refine Run.cons (Ex.setD (j := cst f g) (Ev.callF c rfl (i := 13) (ds := [.str (letterOf f.val), .str (letterOf g.val)]) (by decide) gl__substitution_cost (cost_ok _ _ (letter_fits f) (letter_fits g)) (by decide) ⟨Ev.name c rfl, Ev.name c rfl, trivial⟩) (Ev.name c rfl)
        (Ev.callB (Ev.blt c gl_len (by decide) rfl) (ds := [.ex (.ref ac)]) ⟨Ev.name c rfl, trivial⟩ (CallP.lenD (.inr ⟨ac, rfl, List.Mem.head _⟩) (by omega))) (Nat.le_trans hl (by decide)) .head (Run.nil ⟨.inl rfl, ⟨rfl, rfl, rfl, rfl, rfl, rfl, rfl, trivial⟩, rfl⟩))
    · rw [hz]
      refine Run.cov hc ?_
      refine Run.freeze (x := "costs") rfl rfl ?_
      refine Run.cons (Ex.assign c iv_held (d := .int (tie R i j)) ?_ ?_)
      · rw [← cost_held]
        exact Ev.bin Ev.cint (Ev.callF c rfl (i := 3) (ds := [.dict (costL (R i) (R j))]) (by decide) gl_count_calls (count_calls_ok _) (by decide) ⟨Ev.name c rfl, trivial⟩) BinD.subI
      obtain ⟨e0, e1, e2, e3, e4⟩ := dv_step R hi hj
      have hmem : ((ta, MD.list (tab5 fun v => .ex (.ref (D v)))) : Addr × MD) ∈ P5 R D ta pa i j := List.Mem.tail _ (List.Mem.head _)
      refine Run.cons (Ex.setD (j := tie R i j) (k := ((j : Nat) : Int)) (a := D i) (Ev.name c rfl) (Ev.subL (Ev.name c rfl) (Ev.name c rfl) (.inr ⟨ta, rfl, List.Mem.tail _ (List.Mem.head _)⟩) (nth5 hi) (by omega)) (Ev.name c rfl) (Nat.le_trans (dv_len R i j i) (by decide)) (.tail (.tail (dictsP_put hi))) ?_)
      have hne : i ≠ j := by omega
      have hu : upd (dv R i j) i (putI (dv R i j i) (j : Int) (tie R i j)) j = dv R i j j := by unfold upd; rw [if_neg fun z => hne z.symm]
      have hput2 := dictsP_put (D := D) (f := upd (dv R i j) i (putI (dv R i j i) (j : Int) (tie R i j))) (v := j) (x := putI (dv R i j j) (i : Int) (tie R j i)) hj5
      rw [hu] at hput2
      refine Run.cons (Ex.setD (j := tie R j i) (k := ((i : Nat) : Int)) (a := D j) (by rw [← tie_symm R i j]; exact Ev.name c rfl) (Ev.subL (Ev.name c rfl) (Ev.name c rfl) (.inr ⟨ta, rfl, List.Mem.tail _ (List.Mem.head _)⟩) (nth5 hj5) (by omega)) (Ev.name c rfl) (Nat.le_trans (dv_len R i j j) (by decide)) (.tail (.tail hput2)) ?_)
      have ed : dictsP D (upd (upd (dv R i j) i (putI (dv R i j i) (j : Int) (tie R i j))) j (putI (dv R i j j) (i : Int) (tie R j i))) = dictsP D (dv R i (j + 1)) := by
        unfold dictsP; rw [e0, e1, e2, e3, e4]
      rw [ed]
      refine Run.cons (Ex.append c rfl (d := tripD R i j) (Ev.tup ⟨Ev.bin Ev.cint (Ev.name c rfl) (BinD.powI (by omega) ?_), Ev.bin Ev.cint (Ev.name c rfl) (BinD.powI (by omega) ?_), Ev.callF c rfl (i := 16) (ds := [rowD (R i), rowD (R j)]) (by decide) gl__law_tie (law_tie_ok _ _) (by decide) ⟨Ev.subL (Ev.name c rfl) (Ev.name c rfl) (.inl rfl) (nth5 hi) (by omega), Ev.subL (Ev.name c rfl) (Ev.name c rfl) (.inl rfl) (nth5 hj5) (by omega), trivial⟩, trivial⟩ (by exact (by decide : 3 ≤ sizeLine))) .head (Nat.le_trans (pairs_len R hi (Nat.le_of_lt hj)) (by decide)) (Run.nil ⟨.inl rfl, ⟨rfl, rfl, rfl, rfl, rfl, trivial⟩, ?_⟩))
      · rw [show (Builtin.Int.intBits 2 : Int) = 2 from rfl]; omega
      · rw [show (Builtin.Int.intBits 2 : Int) = 2 from rfl]; omega
      · unfold P5; rw [pairs_step]
  · rw [rangeL_len]
    unfold P5 dictsP
    rw [pairs_row, dv_row R hi (by decide : 0 < 5), dv_row R hi (by decide : 1 < 5), dv_row R hi (by decide : 2 < 5), dv_row R hi (by decide : 3 < 5), dv_row R hi (by decide : 4 < 5)]
end
end Mine

namespace Mine
def pairsI (R : Nat → Row) : List (Nat × Nat × Int) := [(1, 0, tie R 1 0), (2, 0, tie R 2 0), (2, 1, tie R 2 1), (3, 0, tie R 3 0), (3, 1, tie R 3 1), (3, 2, tie R 3 2), (4, 0, tie R 4 0), (4, 1, tie R 4 1), (4, 2, tie R 4 2), (4, 3, tie R 4 3)]
theorem pairs_eq (R : Nat → Row) : pairsTo R 5 0 = (pairsI R).map fun p => .tup [.int (2 ^ p.1), .int (2 ^ p.2.1), .int p.2.2] := rfl
def parts (h : Int) (x y : Nat) : Bool := (h.fdiv (2 ^ x)).fmod 2 != (h.fdiv (2 ^ y)).fmod 2
def wF (h : Int) : Dat → Option Dat
  | .tup [.int x, .int y, .int t] => if ((h.fdiv x).fmod 2 != (h.fdiv y).fmod 2) = true then some (.int t) else none
  | _ => none
def Wl (R : Nat → Row) (h : Int) : List Int := (pairsI R).filterMap fun p => if parts h p.1 p.2.1 = true then some p.2.2 else none
/-- the worth of a parting -/
def W (R : Nat → Row) (h : Int) : Int := (Wl R h).sum
theorem wF_pairs (R : Nat → Row) (h : Int) : (pairsTo R 5 0).filterMap (wF h) = (Wl R h).map .int := by
  rw [pairs_eq]
  unfold Wl
  rw [List.filterMap_map, List.map_filterMap]
  refine congrArg (fun f => List.filterMap f _) (funext fun p => ?_)
  show (if ((h.fdiv (2 ^ p.1)).fmod 2 != (h.fdiv (2 ^ p.2.1)).fmod 2) = true then some (Dat.int p.2.2) else none) = _
  unfold parts
  split <;> rfl
theorem pairs_get {R : Nat → Row} {i : Nat} {d : Dat} (h : (pairsTo R 5 0)[i]? = some d) : ∃ (x y : Nat) (t : Int), x < 5 ∧ y < 5 ∧ d = .tup [.int (2 ^ x), .int (2 ^ y), .int t] := by
  rw [pairs_eq, List.getElem?_map, Option.map_eq_some_iff] at h
  obtain ⟨p, hp, rfl⟩ := h
  have := List.mem_of_getElem? hp
  have h5 : p.1 < 5 ∧ p.2.1 < 5 := by
    simp only [pairsI, List.mem_cons, List.not_mem_nil, or_false] at this
    rcases this with rfl | rfl | rfl | rfl | rfl | rfl | rfl | rfl | rfl | rfl <;> exact ⟨Nat.le_of_ble_eq_true rfl, Nat.le_of_ble_eq_true rfl⟩
  exact ⟨p.1, p.2.1, p.2.2, h5.1, h5.2, rfl⟩
theorem pow2_ok {x : Nat} (h : x < 5) : (2 : Int) ^ x ≠ 0 ∧ ((2 : Int) ^ x).natAbs < 1073741824 := by
  rcases lt5 h with rfl | rfl | rfl | rfl | rfl <;> decide

theorem turn_of {C : Cx} {δ : VM} {P : MM} {ifs : List Expr} {elt : Expr} {f : Dat → Option Dat} {d : Dat} {b : Bool} (ht : Tests C δ P ifs b) (h1 : b = true → ∃ r, f d = some r ∧ Ev C δ P elt r) (h2 : b = false → f d = none) :
    (∃ r, f d = some r ∧ Tests C δ P ifs true ∧ Ev C δ P elt r) ∨ (f d = none ∧ Tests C δ P ifs false) := by
  cases b with
  | true => obtain ⟨r, e, v⟩ := h1 rfl; exact .inl ⟨r, e, ht, v⟩
  | false => exact .inr ⟨h2 rfl, ht⟩
theorem turn_ofD {C : Cx} {δ : VM} {P : MM} {ifs : List Expr} {kx vx : Expr} {f : Dat → Option (Int × Int)} {d : Dat} {b : Bool} (ht : Tests C δ P ifs b) (h1 : b = true → ∃ k j, f d = some (k, j) ∧ Ev C δ P kx (.int k) ∧ Ev C δ P vx (.int j)) (h2 : b = false → f d = none) :
    (∃ k j, f d = some (k, j) ∧ Tests C δ P ifs true ∧ Ev C δ P kx (.int k) ∧ Ev C δ P vx (.int j)) ∨ (f d = none ∧ Tests C δ P ifs false) := by
  cases b with
  | true => obtain ⟨k, j, e, v, v'⟩ := h1 rfl; exact .inl ⟨k, j, e, ht, v, v'⟩
  | false => exact .inr ⟨h2 rfl, ht⟩

section
variable {w : World} {A : Around} {L a : Addr} {cd : Value} {h0 : Heap} {F0 : FH} {mg mb : Str → Option Value} {Q : OQ} {P : MM}
theorem freezeTabs {C : Cx} {δ : VM} {D : Nat → Addr} {f : Nat → List (Int × Int)} {ta : Addr} {ss : List Stmt} (h : Run C δ ((ta, .list (tab5 fun v => .dict (f v))) :: P) ss Q) (hin : C.inner = false := by rfl) :
    Run C δ ((ta, .list (tab5 fun v => .ex (.ref (D v)))) :: (dictsP D f ++ P)) ss Q := by
  refine Run.perm (P' := (D 0, .dict (f 0)) :: (D 1, .dict (f 1)) :: (D 2, .dict (f 2)) :: (D 3, .dict (f 3)) :: (D 4, .dict (f 4)) :: (ta, .list (tab5 fun v => .ex (.ref (D v)))) :: P) ?_ ?_
  · exact (List.perm_middle (l₁ := dictsP D f)).symm
  · refine Run.freezeIn (b := ta) (k := 0) rfl (.tail (.tail (.tail (.tail .head)))) rfl ?_ hin
    refine Run.freezeIn (b := ta) (k := 1) rfl (.tail (.tail (.tail .head))) rfl ?_ hin
    refine Run.freezeIn (b := ta) (k := 2) rfl (.tail (.tail .head)) rfl ?_ hin
    refine Run.freezeIn (b := ta) (k := 3) rfl (.tail .head) rfl ?_ hin
    exact Run.freezeIn (b := ta) (k := 4) rfl .head rfl h hin
theorem st6 (c : COk (LC w A L a cd h0 F0) mg mb 3) {V : VM} (k : ∀ wa, Q .next (("worths", .ex (.ref wa)) :: V) ((wa, .list []) :: P)) : Ex (LC w A L a cd h0 F0) V P S6p.1 Q :=
  Ex.assignN c iv_worths (EvN.list (ds := []) trivial (Nat.zero_le _)) k
def worthsTo (R : Nat → Row) (i : Nat) : List Dat := (List.range i).map fun h => .int (W R ((h : Nat) : Int))
theorem st7 (c : COk (LC w A L a cd h0 F0) mg mb 3) {R : Nat → Row} {ta wa : Addr} (k : ∀ δ', Cov δ' [("worths", .ex (.ref wa)), ("tables", .ex (.ref ta))] → Q .next δ' ((wa, .list (worthsTo R 32)) :: P)) :
    Ex (LC w A L a cd h0 F0) [("worths", .ex (.ref wa)), ("tables", .ex (.ref ta)), ("pairs", .list (pairsTo R 5 0))] ((wa, .list []) :: P) S7p.1 Q := by
  refine Ex.forN c iv_half (IterOf.range1 c (Ev.blt c gl_range (by decide) rfl) Ev.cint (k := 32) rfl rfl) (fun i => [("worths", .ex (.ref wa)), ("tables", .ex (.ref ta)), ("pairs", .list (pairsTo R 5 0))]) (fun i => (wa, .list (worthsTo R i)) :: P) (fun _ _ => trivial) ⟨rfl, rfl, rfl, trivial⟩ rfl (fun i => rfl) (fun i d hd => ?_) (fun δ' hc => k _ ⟨hc.1, hc.2.1, trivial⟩)
  obtain ⟨hi, rfl⟩ := range_k hd
  refine Run.cons (Ex.append c rfl (d := .int (W R ((i : Nat) : Int))) (Ev.callB (Ev.blt c gl_sum (by decide) rfl) (ds := [.list ((pairsTo R 5 0).filterMap (wF ((i : Nat) : Int)))]) ⟨Ev.listComp (f := wF ((i : Nat) : Int)) (δf := [("half", .int ((i : Nat) : Int))]) c
    (ScOk.of rfl rfl (by decide) (by decide) ⟨⟨rfl, rfl, rfl, rfl⟩, trivial⟩ ⟨rfl, trivial⟩ rfl) (IterOf.listT c (Ev.name c rfl) (.inl rfl) ?_) (.inl rfl) ?_ ?_ (by decide), trivial⟩ (CallP.sum (.inl (congrArg Dat.list (wF_pairs R _))) c)) .head ?_ (Run.nil ⟨.inl rfl, ⟨rfl, rfl, rfl, trivial⟩, ?_⟩))
  · intro d hd
    obtain ⟨q, hq⟩ := List.getElem?_of_mem hd
    obtain ⟨x, y, t, _, _, rfl⟩ := pairs_get hq
    exact ⟨_, rfl⟩
  · rw [pairs_eq, List.length_map]; exact (by decide : 10 ≤ sizeLine)
  · intro L' h0' F0' c' q d hd
    obtain ⟨x, y, t, hx, hy, rfl⟩ := pairs_get hd
    obtain ⟨x1, x2⟩ := pow2_ok hx
    obtain ⟨y1, y2⟩ := pow2_ok hy
    refine ⟨_, Asg.tup3 c' (.inl rfl) (.inl rfl) (.inl rfl), ⟨rfl, trivial⟩, ?_⟩
    refine turn_of (Tests.one (Tr.cmp (Ev.bin (Ev.bin (Ev.name c' rfl) (Ev.name c' rfl) (BinD.divI x1 x2)) Ev.cint (BinD.modI (by decide))) (Ev.bin (Ev.bin (Ev.name c' rfl) (Ev.name c' rfl) (BinD.divI y1 y2)) Ev.cint (BinD.modI (by decide))) CmpP.neI)) (fun hb => ⟨.int t, ?_, Ev.name c' rfl⟩) (fun hb => ?_)
    · show (if _ then _ else _) = _; rw [if_pos hb]
    · show (if _ then _ else _) = _; rw [if_neg (by rw [hb]; exact Bool.false_ne_true)]
  · simp only [worthsTo, List.length_map, List.length_range]; exact Nat.le_trans (Nat.le_of_lt hi) (by decide)
  · unfold worthsTo; rw [List.range_succ, List.map_append]; rfl

/-- the sums of the first tables -/
def Tot (R : Nat → Row) : Nat → List (List (Int × Int))
  | 0 => [[]]
  | i + 1 => Tot R i ++ (Tot R i).map fun e => addC e (dtab R i)
theorem addC_length (x y : List (Int × Int)) : (addC x y).length ≤ x.length + y.length := by
  unfold addC
  exact Nat.le_trans (foldl_addTo_length y _) (Nat.add_le_add_right (dictOf_length x) _)
theorem dtab_length (R : Nat → Row) (v : Nat) : (dtab R v).length ≤ 5 := by
  unfold dtab
  rw [List.length_map]
  exact Nat.le_trans (List.length_filter_le _ _) (by simp)
theorem Tot_small (R : Nat → Row) : ∀ (i : Nat), (∀ e ∈ Tot R i, e.length ≤ 5 * i) ∧ (Tot R i).length = 2 ^ i
  | 0 => ⟨fun e he => by rw [List.mem_singleton.mp he]; simp, rfl⟩
  | i + 1 => by
    obtain ⟨h1, h2⟩ := Tot_small R i
    refine ⟨fun e he => ?_, ?_⟩
    · rcases List.mem_append.mp he with he | he
      · have := h1 e he; omega
      · obtain ⟨e0, he0, rfl⟩ := List.mem_map.mp he
        have := h1 e0 he0
        have := addC_length e0 (dtab R i)
        have := dtab_length R i
        omega
    · show (Tot R i ++ (Tot R i).map _).length = _
      rw [List.length_append, List.length_map, h2, Nat.pow_succ]; omega
theorem st8 (c : COk (LC w A L a cd h0 F0) mg mb 3) {V : VM} (k : Q .next (("totals", .list [.dict []]) :: V) P) : Ex (LC w A L a cd h0 F0) V P S8p.1 Q :=
  Ex.assign c iv_totals (Ev.list (ds := [.dict []]) ⟨(EvN.dict0 c).ev rfl, trivial⟩ (by decide)) k
def totF (e : List (Int × Int)) : Dat → Option Dat
  | .dict x => some (.dict (addC x e))
  | _ => none
theorem totF_map (e : List (Int × Int)) (l : List (List (Int × Int))) : (l.map Dat.dict).filterMap (totF e) = (l.map fun x => addC x e).map .dict := by
  induction l with
  | nil => rfl
  | cons x l ih => simp [totF, ih]
theorem st9 (c : COk (LC w A L a cd h0 F0) mg mb 3) {R : Nat → Row} {ta : Addr} {wd : Dat} (k : ∀ δ', Cov δ' [("totals", .list ((Tot R 4).map .dict)), ("worths", wd), ("tables", .ex (.ref ta))] → Q .next δ' [(ta, .list (tab5 fun v => .dict (dtab R v)))]) :
    Ex (LC w A L a cd h0 F0) [("totals", .list [.dict []]), ("worths", wd), ("tables", .ex (.ref ta))] [(ta, .list (tab5 fun v => .dict (dtab R v)))] S9p.1 Q := by
  refine Ex.forN c iv_i (IterOf.range1 c (Ev.blt c gl_range (by decide) rfl) Ev.cint (k := 4) rfl rfl) (fun i => [("totals", .list ((Tot R i).map .dict)), ("worths", wd), ("tables", .ex (.ref ta))]) (fun i => [(ta, .list (tab5 fun v => .dict (dtab R v)))]) (fun _ _ => trivial) ⟨rfl, rfl, rfl, trivial⟩ rfl (fun i => rfl) (fun i d hd => ?_) (fun δ' hc => k _ hc)
  obtain ⟨hi, rfl⟩ := range_k hd
  have hi5 : i < 5 := Nat.lt_succ_of_lt hi
  obtain ⟨hsm, hlen⟩ := Tot_small R i
  have h16 : (Tot R i).length ≤ 16 := by rw [hlen]; exact Nat.le_trans (Nat.pow_le_pow_right (by decide) (Nat.le_of_lt hi)) (by decide)
  have hr : (Tot R (i + 1)).map Dat.dict = (Tot R i).map Dat.dict ++ ((Tot R i).map Dat.dict).filterMap (totF (dtab R i)) := by
    rw [totF_map]; show (Tot R i ++ (Tot R i).map _).map Dat.dict = _; rw [List.map_append]
  rw [hr]
  refine Run.cons (Ex.assign c iv_totals (Ev.bin (Ev.name c rfl) (Ev.listComp (f := totF (dtab R i)) (δf := [("tables", .ex (.ref ta)), ("i", .int ((i : Nat) : Int))]) c (ScOk.of rfl rfl (by decide) (by decide) ⟨⟨rfl, rfl, rfl, rfl⟩, ⟨rfl, rfl, rfl, rfl⟩, trivial⟩ ⟨rfl, rfl, trivial⟩ rfl) (IterOf.list c (Ev.name c rfl) (.inl rfl)) (.inl rfl) ?_ ?_ (by decide)) (BinD.addL ?_)) (Run.nil ⟨.inl rfl, ⟨rfl, rfl, rfl, trivial⟩, rfl⟩))
  · rw [List.length_map]; exact Nat.le_trans h16 (by decide)
  · intro L' h0' F0' c' q d hd
    rw [List.getElem?_map, Option.map_eq_some_iff] at hd
    obtain ⟨e, he, rfl⟩ := hd
    have hel := hsm e (List.mem_of_getElem? he)
    have hdl := dtab_length R i
    exact ⟨_, Asg.name c' (.inl rfl), ⟨rfl, rfl, trivial⟩, .inl ⟨_, rfl, Tests.nil, Ev.callF c' rfl (i := 2) (ds := [.dict e, .dict (dtab R i)]) (by decide) rfl (add_callers_ok _ _ (Nat.le_trans (show _ ≤ 25 by omega) (by decide))) (by decide) ⟨Ev.name c' rfl, Ev.subL (Ev.name c' rfl) (Ev.name c' rfl) (.inr ⟨ta, rfl, List.Mem.head _⟩) (nth5 hi5) (by omega), trivial⟩⟩⟩
  · rw [totF_map]
    simp only [List.length_map]
    exact Nat.le_trans (show _ ≤ 32 by omega) (by decide)
theorem st10 (c : COk (LC w A L a cd h0 F0) mg mb 3) {V : VM} (k : ∀ pa, Q .next (("parted", .ex (.ref pa)) :: V) ((pa, .list []) :: P)) : Ex (LC w A L a cd h0 F0) V P S10p.1 Q :=
  Ex.assignN c iv_parted (EvN.list (ds := []) trivial (Nat.zero_le _)) k
end
end Mine

namespace Mine
def KeysIn (es : List (Int × Int)) : Prop := ∀ p ∈ es, ∃ u : Nat, u < 5 ∧ p.1 = (u : Int)
theorem KeysIn.put {es : List (Int × Int)} (h : KeysIn es) {u : Nat} (hu : u < 5) (j : Int) : KeysIn (putI es (u : Int) j) := by
  intro p hp
  unfold putI at hp
  split at hp
  · obtain ⟨q, hq, rfl⟩ := List.mem_map.mp hp
    split
    · exact h q hq
    · exact h q hq
  · rcases List.mem_append.mp hp with hp | hp
    · exact h p hp
    · rw [List.mem_singleton.mp hp]; exact ⟨u, hu, rfl⟩
theorem KeysIn.add {es : List (Int × Int)} (h : KeysIn es) {p : Int × Int} (hp : ∃ u : Nat, u < 5 ∧ p.1 = (u : Int)) : KeysIn (addTo es p) := by
  obtain ⟨u, hu, e⟩ := hp
  unfold addTo
  split <;> (rw [e]; exact h.put hu _)
theorem KeysIn.foldPut {l es : List (Int × Int)} (h : KeysIn es) (hl : KeysIn l) : KeysIn (l.foldl (fun es p => putI es p.1 p.2) es) := by
  induction l generalizing es with
  | nil => exact h
  | cons p l ih =>
    obtain ⟨u, hu, e⟩ := hl p (List.Mem.head _)
    refine ih ?_ fun q hq => hl q (List.Mem.tail _ hq)
    show KeysIn (putI es p.1 p.2)
    rw [e]; exact h.put hu _
theorem KeysIn.foldAdd {l es : List (Int × Int)} (h : KeysIn es) (hl : KeysIn l) : KeysIn (l.foldl addTo es) := by
  induction l generalizing es with
  | nil => exact h
  | cons p l ih => exact ih (h.add (hl p (List.Mem.head _))) fun q hq => hl q (List.Mem.tail _ hq)
theorem dtab_keys (R : Nat → Row) (v : Nat) : KeysIn (dtab R v) := by
  intro p hp
  unfold dtab at hp
  obtain ⟨u, hu, rfl⟩ := List.mem_map.mp hp
  exact ⟨u, List.mem_range.mp (List.mem_filter.mp hu).1, rfl⟩
theorem Tot_keys (R : Nat → Row) : ∀ (i : Nat), ∀ e ∈ Tot R i, KeysIn e
  | 0, e, he => by rw [List.mem_singleton.mp he]; intro p hp; cases hp
  | i + 1, e, he => by
    rcases List.mem_append.mp he with he | he
    · exact Tot_keys R i e he
    · obtain ⟨e0, he0, rfl⟩ := List.mem_map.mp he
      exact KeysIn.foldAdd (KeysIn.foldPut (fun p hp => by cases hp) (Tot_keys R i e0 he0)) (dtab_keys R i)
theorem lookI_of_mem {es : List (Int × Int)} {p : Int × Int} (h : p ∈ es) : ∃ j, lookI es p.1 = some j := by
  induction es with
  | nil => cases h
  | cons q es ih =>
    unfold lookI
    by_cases z : q.1 = p.1
    · rw [if_pos z]; exact ⟨_, rfl⟩
    · rw [if_neg z]
      rcases List.mem_cons.mp h with e | e
      · exact absurd (congrArg Prod.fst e).symm z
      · exact ih e
def partF (es : List (Int × Int)) (h : Int) : Dat → Option (Int × Int)
  | .int u => if ((h.fdiv (2 ^ u.toNat)).fmod 2 == 0) = true then (lookI es u).map fun j => (u, j) else none
  | _ => none
def totOf (R : Nat → Row) (h : Nat) : List (Int × Int) := (Tot R 4).getD h []
/-- the worth as the law sums it up -/
def part (R : Nat → Row) (h : Nat) : Int := sumOf (dictOf ((keysL (totOf R h)).filterMap (partF (totOf R h) (h : Int))))
def partsTo (R : Nat → Row) (i : Nat) : List Dat := (List.range i).map fun h => .int (part R (h + 1))
theorem totOf_mem (R : Nat → Row) {h : Nat} (hh : h < 16) : (Tot R 4)[h]? = some (totOf R h) ∧ totOf R h ∈ Tot R 4 := by
  have hl := (Tot_small R 4).2
  have : h < (Tot R 4).length := by rw [hl]; exact hh
  have e : (Tot R 4)[h]? = some (totOf R h) := by
    unfold totOf
    rw [List.getD_eq_getElem?_getD, List.getElem?_eq_getElem this]; rfl
  exact ⟨e, List.mem_of_getElem? e⟩

section
variable {w : World} {A : Around} {L a : Addr} {cd : Value} {h0 : Heap} {F0 : FH} {mg mb : Str → Option Value} {Q : OQ} {P : MM}
theorem st11 (c : COk (LC w A L a cd h0 F0) mg mb 3) {R : Nat → Row} {ta pa : Addr} {wd : Dat} (k : ∀ δ', Cov δ' [("parted", .ex (.ref pa)), ("worths", wd), ("tables", .ex (.ref ta))] → Q .next δ' ((pa, .list (partsTo R 15)) :: P)) :
    Ex (LC w A L a cd h0 F0) [("parted", .ex (.ref pa)), ("totals", .list ((Tot R 4).map .dict)), ("worths", wd), ("tables", .ex (.ref ta))] ((pa, .list []) :: P) S11p.1 Q := by
  refine Ex.forN c iv_half (IterOf.range2 c (Ev.blt c gl_range (by decide) rfl) Ev.cint Ev.cint (k := 15) rfl rfl) (fun i => [("parted", .ex (.ref pa)), ("totals", .list ((Tot R 4).map .dict)), ("worths", wd), ("tables", .ex (.ref ta))]) (fun i => (pa, .list (partsTo R i)) :: P) (fun _ _ => trivial) ⟨rfl, rfl, rfl, rfl, trivial⟩ rfl (fun i => rfl) (fun i d hd => ?_) (fun δ' hc => k _ ⟨hc.1, hc.2.2.1, hc.2.2.2.1, trivial⟩)
  obtain ⟨hi, rfl⟩ := rangeL_get hd
  have ei : (1 : Int) + (i : Nat) = ((i + 1 : Nat) : Int) := by omega
  rw [ei]
  obtain ⟨hg, hm⟩ := totOf_mem R (show i + 1 < 16 by omega)
  have hlen := (Tot_small R 4).1 _ hm
  have hkeys := Tot_keys R 4 _ hm
  have hnth : nth ((Tot R 4).map Dat.dict) ((i + 1 : Nat) : Int) = some (.dict (totOf R (i + 1))) := by
    unfold nth
    rw [if_pos (Int.natCast_nonneg _)]
    show ((Tot R 4).map Dat.dict)[i + 1]? = _
    rw [List.getElem?_map, hg]; rfl
  refine Run.cons (Ex.assign c iv_total (Ev.subL (Ev.name c rfl) (Ev.name c rfl) (.inl rfl) hnth (by omega)) ?_)
  have hp : partsTo R (i + 1) = partsTo R i ++ [.int (part R (i + 1))] := by unfold partsTo; rw [List.range_succ, List.map_append]; rfl
  rw [hp]
  unfold part
  generalize totOf R (i + 1) = es at hlen hkeys ⊢
  refine Run.cons (Ex.append c rfl (Ev.callF c rfl (i := 3) (ds := [.dict (dictOf ((keysL es).filterMap (partF es ((i + 1 : Nat) : Int))))]) (by decide) gl_count_calls (count_calls_ok _) (by decide) ⟨Ev.dictComp (f := partF es ((i + 1 : Nat) : Int)) (δf := [("total", .dict es), ("half", .int ((i + 1 : Nat) : Int))]) c
    (ScOk.of rfl rfl (by decide) (by decide) ⟨⟨rfl, rfl, rfl, rfl⟩, ⟨rfl, rfl, rfl, rfl⟩, trivial⟩ ⟨rfl, rfl, trivial⟩ rfl) (IterOf.keys c (Ev.name c rfl)) trivial ?_ ?_ (by decide), trivial⟩) .head ?_ (Run.nil ⟨.inl rfl, ⟨rfl, rfl, rfl, rfl, trivial⟩, rfl⟩))
  · simp only [keysL, List.length_map]
    exact Nat.le_trans hlen (by decide)
  · intro L' h0' F0' c' q d hd
    unfold keysL at hd
    rw [List.getElem?_map, Option.map_eq_some_iff] at hd
    obtain ⟨p, hp, rfl⟩ := hd
    have hpm := List.mem_of_getElem? hp
    obtain ⟨u, hu, eu⟩ := hkeys p hpm
    obtain ⟨j, hj⟩ := lookI_of_mem hpm
    rw [eu] at hj ⊢
    obtain ⟨x1, x2⟩ := pow2_ok hu
    refine ⟨_, Asg.name c' (.inl rfl), ⟨rfl, rfl, trivial⟩, ?_⟩
    refine turn_ofD (Tests.one (Tr.cmp (Ev.bin (Ev.bin (Ev.name c' rfl) (Ev.bin (d := .int (2 ^ u)) Ev.cint (Ev.name c' rfl) (BinD.powI (by omega) ?_)) (BinD.divI x1 x2)) Ev.cint (BinD.modI (by decide))) Ev.cint CmpP.eqI)) (fun hb => ⟨(u : Int), j, ?_, Ev.name c' rfl, Ev.subD (Ev.name c' rfl) (Ev.name c' rfl) (.inl rfl) hj⟩) (fun hb => ?_)
    · rw [show (Builtin.Int.intBits 2 : Int) = 2 from rfl]; omega
    · show (if _ then _ else _) = _
      rw [if_pos (show ((((i + 1 : Nat) : Int).fdiv (2 ^ (u : Int).toNat)).fmod 2 == 0) = true from hb), hj]; rfl
    · show (if _ then _ else _) = _
      exact if_neg (show ¬ ((((i + 1 : Nat) : Int).fdiv (2 ^ (u : Int).toNat)).fmod 2 == 0) = true from fun z => by rw [show ((((i + 1 : Nat) : Int).fdiv (2 ^ (u : Int).toNat)).fmod 2 == 0) = false from hb] at z; cases z)
  · simp only [partsTo, List.length_map, List.length_range]; exact Nat.le_trans (Nat.le_of_lt hi) (by decide)

def host0 (v : Nat) : Str := ⟨#[118 + v]⟩
def name0 (v : Nat) : Str := ⟨#[86 + v]⟩
theorem st12 (c : COk (LC w A L a cd h0 F0) mg mb 3) {V : VM} (k : ∀ ha, Q .next (("hosts", .ex (.ref ha)) :: V) ((ha, .list (tab5 fun v => .str (host0 v))) :: P)) : Ex (LC w A L a cd h0 F0) V P S12p.1 Q :=
  Ex.assignN c iv_hosts (EvN.list (ds := tab5 fun v => .str (host0 v)) ⟨Ev.cstr, Ev.cstr, Ev.cstr, Ev.cstr, Ev.cstr, trivial⟩ (by exact (by decide : 5 ≤ sizeLine))) k
theorem st13 (c : COk (LC w A L a cd h0 F0) mg mb 3) {V : VM} (k : ∀ na, Q .next (("names", .ex (.ref na)) :: V) ((na, .list (tab5 fun v => .str (name0 v))) :: P)) : Ex (LC w A L a cd h0 F0) V P S13p.1 Q :=
  Ex.assignN c iv_names (EvN.list (ds := tab5 fun v => .str (name0 v)) ⟨Ev.cstr, Ev.cstr, Ev.cstr, Ev.cstr, Ev.cstr, trivial⟩ (by exact (by decide : 5 ≤ sizeLine))) k
theorem st14 (c : COk (LC w A L a cd h0 F0) mg mb 3) {V : VM} (k : ∀ ha, Q .next (("heaps", .ex (.ref ha)) :: V) ((ha, .list (tab5 fun v => .int ((2 ^ v : Nat) : Int))) :: P)) : Ex (LC w A L a cd h0 F0) V P S14p.1 Q :=
  Ex.assignN c iv_heaps (EvN.list (ds := tab5 fun v => .int ((2 ^ v : Nat) : Int)) ⟨Ev.cint, Ev.cint, Ev.cint, Ev.cint, Ev.cint, trivial⟩ (by exact (by decide : 5 ≤ sizeLine))) k
def natL (l : List Nat) : List Int := l.map fun v => ((v : Nat) : Int)
theorem st15 (c : COk (LC w A L a cd h0 F0) mg mb 3) {V : VM} (k : ∀ la, Q .next (("left", .ex (.ref la)) :: V) ((la, .list ((natL [0, 1, 2, 3, 4]).map .int)) :: P)) : Ex (LC w A L a cd h0 F0) V P S15p.1 Q :=
  Ex.assignN c iv_left (EvN.list (ds := (natL [0, 1, 2, 3, 4]).map .int) ⟨Ev.cint, Ev.cint, Ev.cint, Ev.cint, Ev.cint, trivial⟩ (by exact (by decide : 5 ≤ sizeLine))) k
theorem st16 (c : COk (LC w A L a cd h0 F0) mg mb 3) {V : VM} (k : ∀ ca, Q .next (("cuts", .ex (.ref ca)) :: V) ((ca, .list (([] : List Int).map .int)) :: P)) : Ex (LC w A L a cd h0 F0) V P S16p.1 Q :=
  Ex.assignN c iv_cuts (EvN.list (ds := []) trivial (Nat.zero_le _)) k
end
end Mine

namespace Mine
def whBody : Stmt → List Stmt | .While _ b _ _ => b | _ => []
def B0p : { p : Stmt // (whBody S17p.1)[0]? = some p } := ⟨_, rfl⟩
def B1p : { p : Stmt // (whBody S17p.1)[1]? = some p } := ⟨_, rfl⟩
def B2p : { p : Stmt // (whBody S17p.1)[2]? = some p } := ⟨_, rfl⟩
def B3p : { p : Stmt // (whBody S17p.1)[3]? = some p } := ⟨_, rfl⟩
def B4p : { p : Stmt // (whBody S17p.1)[4]? = some p } := ⟨_, rfl⟩
def B5p : { p : Stmt // (whBody S17p.1)[5]? = some p } := ⟨_, rfl⟩
def B6p : { p : Stmt // (whBody S17p.1)[6]? = some p } := ⟨_, rfl⟩
def B7p : { p : Stmt // (whBody S17p.1)[7]? = some p } := ⟨_, rfl⟩
def B8p : { p : Stmt // (whBody S17p.1)[8]? = some p } := ⟨_, rfl⟩
def B9p : { p : Stmt // (whBody S17p.1)[9]? = some p } := ⟨_, rfl⟩
def B10p : { p : Stmt // (whBody S17p.1)[10]? = some p } := ⟨_, rfl⟩
def B11p : { p : Stmt // (whBody S17p.1)[11]? = some p } := ⟨_, rfl⟩
def B12p : { p : Stmt // (whBody S17p.1)[12]? = some p } := ⟨_, rfl⟩
def B13p : { p : Stmt // (whBody S17p.1)[13]? = some p } := ⟨_, rfl⟩
def B14p : { p : Stmt // (whBody S17p.1)[14]? = some p } := ⟨_, rfl⟩
def B15p : { p : Stmt // (whBody S17p.1)[15]? = some p } := ⟨_, rfl⟩
def B16p : { p : Stmt // (whBody S17p.1)[16]? = some p } := ⟨_, rfl⟩
def B17p : { p : Stmt // (whBody S17p.1)[17]? = some p } := ⟨_, rfl⟩
def B18p : { p : Stmt // (whBody S17p.1)[18]? = some p } := ⟨_, rfl⟩
theorem natL_get {ls : List Nat} {i : Nat} {d : Dat} (h : ((natL ls).map Dat.int)[i]? = some d) : ∃ v, v ∈ ls ∧ ls[i]? = some v ∧ d = .int ((v : Nat) : Int) := by
  unfold natL at h
  rw [List.getElem?_map, Option.map_eq_some_iff] at h
  obtain ⟨x, hx, rfl⟩ := h
  rw [List.getElem?_map, Option.map_eq_some_iff] at hx
  obtain ⟨v, hv, rfl⟩ := hx
  exact ⟨v, List.mem_of_getElem? hv, hv, rfl⟩
theorem natL_len (ls : List Nat) : ((natL ls).map Dat.int).length = ls.length := by simp [natL]
/-- variables of the loop -/
structure Ad where
  ca : Addr
  la : Addr
  he : Addr
  na : Addr
  ho : Addr
  ta : Addr
def VW (R : Nat → Row) (x : Ad) : VM := [("cuts", .ex (.ref x.ca)), ("left", .ex (.ref x.la)), ("heaps", .ex (.ref x.he)), ("names", .ex (.ref x.na)), ("hosts", .ex (.ref x.ho)), ("tables", .ex (.ref x.ta)), ("worths", .list (worthsTo R 32)), ("parted", .list (partsTo R 15))]
def PW (x : Ad) (cs : List Int) (ls : List Nat) (H : Nat → Nat) (nm hs : Nat → Str) (tb : Nat → List (Int × Int)) : MM :=
  [(x.ca, .list (cs.map .int)), (x.la, .list ((natL ls).map .int)), (x.he, .list (tab5 fun v => .int ((H v : Nat) : Int))), (x.na, .list (tab5 fun v => .str (nm v))), (x.ho, .list (tab5 fun v => .str (hs v))), (x.ta, .list (tab5 fun v => .dict (tb v)))]
section
variable {x : Ad} {cs : List Int} {ls : List Nat} {H : Nat → Nat} {nm hs : Nat → Str} {tb : Nat → List (Int × Int)}
theorem m_ca {p : Addr × MD} : (x.ca, MD.list (cs.map .int)) ∈ p :: PW x cs ls H nm hs tb := .tail _ (.head _)
theorem m_la {p : Addr × MD} : (x.la, MD.list ((natL ls).map .int)) ∈ p :: PW x cs ls H nm hs tb := .tail _ (.tail _ (.head _))
theorem m_he {p : Addr × MD} : (x.he, MD.list (tab5 fun v => .int ((H v : Nat) : Int))) ∈ p :: PW x cs ls H nm hs tb := .tail _ (.tail _ (.tail _ (.head _)))
theorem m_ta {p : Addr × MD} : (x.ta, MD.list (tab5 fun v => .dict (tb v))) ∈ p :: PW x cs ls H nm hs tb := .tail _ (.tail _ (.tail _ (.tail _ (.tail _ (.tail _ (.head _))))))
theorem n_ca : (x.ca, MD.list (cs.map .int)) ∈ PW x cs ls H nm hs tb := .head _
theorem n_la : (x.la, MD.list ((natL ls).map .int)) ∈ PW x cs ls H nm hs tb := .tail _ (.head _)
theorem n_he : (x.he, MD.list (tab5 fun v => .int ((H v : Nat) : Int))) ∈ PW x cs ls H nm hs tb := .tail _ (.tail _ (.head _))
theorem n_na : (x.na, MD.list (tab5 fun v => .str (nm v))) ∈ PW x cs ls H nm hs tb := .tail _ (.tail _ (.tail _ (.head _)))
theorem n_ho : (x.ho, MD.list (tab5 fun v => .str (hs v))) ∈ PW x cs ls H nm hs tb := .tail _ (.tail _ (.tail _ (.tail _ (.head _))))
theorem n_ta : (x.ta, MD.list (tab5 fun v => .dict (tb v))) ∈ PW x cs ls H nm hs tb := .tail _ (.tail _ (.tail _ (.tail _ (.tail _ (.head _)))))
end
theorem worth_nth (R : Nat → Row) {h : Nat} (hh : h < 32) : nth (worthsTo R 32) ((h : Nat) : Int) = some (.int (W R (h : Int))) := by
  unfold nth
  rw [if_pos (Int.natCast_nonneg _)]
  show (worthsTo R 32)[h]? = _
  unfold worthsTo
  rw [List.getElem?_map, List.getElem?_range hh]; rfl

/-- what should hold v and u together -/
def dueVal (R : Nat → Row) (H : Nat → Nat) (v u : Nat) : Int := (W R ((H u : Nat) : Int) + W R ((H v : Nat) : Int) - W R (((H u : Nat) : Int) + ((H v : Nat) : Int))).fdiv 2
def dueTo (R : Nat → Row) (H : Nat → Nat) (v : Nat) (l : List Nat) : List (Int × Int) := dictOf ((l.filter fun u => u != v).map fun (u : Nat) => (((u : Nat) : Int), dueVal R H v u))
theorem dueTo_len (R : Nat → Row) (H : Nat → Nat) (v : Nat) (l : List Nat) : (dueTo R H v l).length ≤ l.length := by
  unfold dueTo
  refine Nat.le_trans (dictOf_length _) ?_
  rw [List.length_map]
  exact List.length_filter_le _ _
section
variable {w : World} {A : Around} {L a : Addr} {cd : Value} {h0 : Heap} {F0 : FH} {mg mb : Str → Option Value} {Q : OQ} {P : MM}
variable {R : Nat → Row} {x : Ad} {cs : List Int} {ls : List Nat} {H : Nat → Nat} {nm hs : Nat → Str} {tb : Nat → List (Int × Int)}
theorem bo0 (c : COk (LC w A L a cd h0 F0) mg mb 3) (h5 : ∀ v ∈ ls, v < 5) (hl : ls.length ≤ 5) (hH : ∀ v ∈ ls, H v < 32) (hHH : ∀ v ∈ ls, ∀ u ∈ ls, u ≠ v → H u + H v < 32) (hdue : ∀ v ∈ ls, eqI (tb v) (dueTo R H v ls) = true)
    (k : ∀ δ', Cov δ' (VW R x) → Q .next δ' (PW x cs ls H nm hs tb)) : Ex (LC w A L a cd h0 F0) (VW R x) (PW x cs ls H nm hs tb) B0p.1 Q := by
  refine Ex.forN c iv_v (IterOf.list c (Ev.name c rfl) (.inr ⟨x.la, rfl, n_la⟩)) (fun _ => VW R x) (fun _ => PW x cs ls H nm hs tb) (fun _ _ => .inr ⟨x.la, rfl, n_la⟩) ⟨rfl, rfl, rfl, rfl, rfl, rfl, rfl, rfl, trivial⟩ rfl (fun i => rfl) (fun i d hd => ?_) k
  obtain ⟨v, hv, hvi, rfl⟩ := natL_get hd
  have hv5 := h5 v hv
  refine Run.cons (Ex.assignN c iv_due (EvN.dict0 c) fun da => ?_)
  refine Run.cons (Ex.forN c iv_u (IterOf.list c (Ev.name c rfl) (.inr ⟨x.la, rfl, m_la⟩)) (fun _ => ("due", .ex (.ref da)) :: ("v", .int ((v : Nat) : Int)) :: VW R x) (fun q => (da, .dict (dueTo R H v (ls.take q))) :: PW x cs ls H nm hs tb) (fun _ _ => .inr ⟨x.la, rfl, m_la⟩) ⟨rfl, rfl, rfl, rfl, rfl, rfl, rfl, rfl, rfl, rfl, trivial⟩ rfl (fun i => rfl) (fun q d hd => ?_) (fun δ' hc => ?_))
  · obtain ⟨u, hu, huq, rfl⟩ := natL_get hd
    have hu5 := h5 u hu
    have hstep : dueTo R H v (ls.take (q + 1)) = if u = v then dueTo R H v (ls.take q) else putI (dueTo R H v (ls.take q)) (u : Int) (dueVal R H v u) := by
      unfold dueTo
      rw [List.take_add_one, huq, List.filter_append, List.map_append]
      by_cases e : u = v
      · rw [if_pos e]
        have : (some u).toList.filter (fun u => u != v) = [] := by simp [e]
        rw [this]; simp
      · rw [if_neg e]
        have : (some u).toList.filter (fun u => u != v) = [u] := by simp [e]
        rw [this]; exact dictOf_snoc _ _ _
    refine Run.cons (Ex.if_ (Tr.cmp (Ev.name c rfl) (Ev.name c rfl) CmpP.neI) (fun hb => ?_) (fun hb => ?_))
    · have hne : u ≠ v := by intro z; subst z; simp at hb
      rw [hstep, if_neg hne]
      refine Run.cons (Ex.setD (j := dueVal R H v u) (Ev.bin (Ev.bin (Ev.bin (Ev.subL (Ev.name c rfl) (Ev.subL (Ev.name c rfl) (Ev.name c rfl) (.inr ⟨x.he, rfl, m_he⟩) (nth5 hu5) (by omega)) (.inl rfl) (worth_nth R (hH u hu)) (by have := hH u hu; omega)) (Ev.subL (Ev.name c rfl) (Ev.subL (Ev.name c rfl) (Ev.name c rfl) (.inr ⟨x.he, rfl, m_he⟩) (nth5 hv5) (by omega)) (.inl rfl) (worth_nth R (hH v hv)) (by have := hH v hv; omega)) BinD.add)
        (Ev.subL (Ev.name c rfl) (Ev.bin (Ev.subL (Ev.name c rfl) (Ev.name c rfl) (.inr ⟨x.he, rfl, m_he⟩) (nth5 hu5) (by omega)) (Ev.subL (Ev.name c rfl) (Ev.name c rfl) (.inr ⟨x.he, rfl, m_he⟩) (nth5 hv5) (by omega)) BinD.add) (.inl rfl) ?_ (by have := hHH v hv u hu hne; omega)) BinD.subI) Ev.cint (BinD.divI (by decide) (by decide))) (Ev.name c rfl) (Ev.name c rfl) ?_ .head (Run.nil (Run.nil ⟨.inl rfl, ⟨rfl, rfl, rfl, rfl, rfl, rfl, rfl, rfl, rfl, rfl, trivial⟩, rfl⟩)))
      · have := worth_nth R (hHH v hv u hu hne)
        rw [Int.natCast_add] at this
        exact this
      · have h1 := dueTo_len R H v (ls.take q)
        have h2 := List.length_take_le' q ls
        exact Nat.le_trans (Nat.le_trans h1 (Nat.le_trans h2 hl)) (by decide)
    · have he : u = v := by
        have : (((u : Nat) : Int) != ((v : Nat) : Int)) = false := hb
        simp only [bne_eq_false_iff_eq] at this
        omega
      rw [hstep, if_pos he]
      exact Run.nil (Run.nil ⟨.inl rfl, ⟨rfl, rfl, rfl, rfl, rfl, rfl, rfl, rfl, rfl, rfl, trivial⟩, rfl⟩)
  · rw [natL_len, List.take_length]
    refine Run.cov hc ?_
    refine Run.cons (Ex.if_ (Tr.cmp (Ev.subL (Ev.name c rfl) (Ev.name c rfl) (.inr ⟨x.ta, rfl, m_ta⟩) (nth5 hv5) (by omega)) (Ev.name c rfl) (CmpP.neD c (.inl rfl) (.inr ⟨da, rfl, List.Mem.head _⟩))) (fun hb => ?_) (fun hb => ?_))
    · rw [hdue v hv] at hb; cases hb
    · exact Run.nil (Run.drop (List.sublist_cons_self _ _) (Run.nil ⟨.inl rfl, ⟨rfl, rfl, rfl, rfl, rfl, rfl, rfl, rfl, trivial⟩, rfl⟩))
theorem bo1 (c : COk (LC w A L a cd h0 F0) mg mb 3) {v0 : Nat} {r : List Nat} (hls : ls = v0 :: r) (k : ∀ oa, Q .next (("order", .ex (.ref oa)) :: VW R x) ((oa, .list ((natL [v0]).map .int)) :: PW x cs ls H nm hs tb)) :
    Ex (LC w A L a cd h0 F0) (VW R x) (PW x cs ls H nm hs tb) B1p.1 Q := by
  subst hls
  exact Ex.assignN c iv_order (EvN.list (ds := [.int ((v0 : Nat) : Int)]) ⟨Ev.subL (Ev.name c rfl) Ev.cint (.inr ⟨x.la, rfl, n_la⟩) rfl (by omega), trivial⟩ (by exact (by decide : 1 ≤ sizeLine))) k
theorem bo2 (c : COk (LC w A L a cd h0 F0) mg mb 3) {v0 : Nat} {r : List Nat} {oa : Addr} (hls : ls = v0 :: r) (h5 : v0 < 5) (k : Q .next (("near", .dict (tb v0)) :: ("order", .ex (.ref oa)) :: VW R x) ((oa, .list ((natL [v0]).map .int)) :: PW x cs ls H nm hs tb)) :
    Ex (LC w A L a cd h0 F0) (("order", .ex (.ref oa)) :: VW R x) ((oa, .list ((natL [v0]).map .int)) :: PW x cs ls H nm hs tb) B2p.1 Q := by
  subst hls
  exact Ex.assign c iv_near (Ev.subL (Ev.name c rfl) (Ev.subL (Ev.name c rfl) Ev.cint (.inr ⟨x.la, rfl, m_la⟩) (d := .int ((v0 : Nat) : Int)) rfl (by omega)) (.inr ⟨x.ta, rfl, m_ta⟩) (nth5 h5) (by omega)) k
end
end Mine

namespace Mine
/-- the value at a key, or 0 -/
def vl (es : List (Int × Int)) (k : Int) : Int := (lookI es k).getD 0
theorem lookI_cons (p : Int × Int) (es : List (Int × Int)) (x : Int) : lookI (p :: es) x = if p.1 = x then some p.2 else lookI es x := rfl
def NK (es : List (Int × Int)) : Prop := (es.map (·.1)).Nodup
theorem lookI_map (es : List (Int × Int)) (k n x : Int) : lookI (es.map fun p => if p.1 = k then (p.1, n) else p) x = if k = x then (if (lookI es x).isSome then some n else none) else lookI es x := by
  induction es with
  | nil => simp [lookI]
  | cons p es ih =>
    rw [List.map_cons]
    unfold lookI
    by_cases h : p.1 = k
    · subst h
      simp only [if_true]
      by_cases q : p.1 = x
      · subst q; simp
      · simp only [if_neg q]
        rw [ih, if_neg q]
    · simp only [if_neg h]
      by_cases q : p.1 = x
      · subst q
        have : ¬ k = p.1 := fun z => h z.symm
        simp [this]
      · simp only [if_neg q]; exact ih
theorem lookI_append (a b : List (Int × Int)) (x : Int) : lookI (a ++ b) x = (lookI a x).or (lookI b x) := by
  induction a with
  | nil => simp [lookI]
  | cons p a ih =>
    rw [List.cons_append, lookI_cons, lookI_cons]
    by_cases q : p.1 = x
    · simp [q]
    · simp only [if_neg q]; exact ih
theorem lookI_any (es : List (Int × Int)) (k : Int) : es.any (fun p => p.1 = k) = (lookI es k).isSome := by
  induction es with
  | nil => rfl
  | cons p es ih =>
    rw [List.any_cons, ih, lookI_cons]
    by_cases q : p.1 = k
    · simp [q]
    · simp [q]
theorem lookI_put (es : List (Int × Int)) (k n x : Int) : lookI (putI es k n) x = if k = x then some n else lookI es x := by
  unfold putI
  rw [lookI_any]
  by_cases h : (lookI es k).isSome = true
  · rw [if_pos h, lookI_map]
    by_cases q : k = x
    · subst q; simp [h]
    · simp [q]
  · rw [if_neg h, lookI_append]
    have hn : lookI es k = none := by cases z : lookI es k <;> simp [z] at h ⊢
    by_cases q : k = x
    · subst q; simp [hn, lookI]
    · have : lookI [(k, n)] x = none := by simp [lookI, q]
      rw [this, if_neg q]; simp
theorem lookI_none {es : List (Int × Int)} {k : Int} (h : k ∉ es.map (·.1)) : lookI es k = none := by
  cases q : lookI es k with
  | none => rfl
  | some v =>
    have := lookI_any es k
    rw [q] at this
    obtain ⟨p, hp, e⟩ := List.any_eq_true.mp this
    exact absurd (List.mem_map.mpr ⟨p, hp, by simpa using e⟩) h
theorem mem_of_lookI {es : List (Int × Int)} {k v : Int} (h : lookI es k = some v) : (k, v) ∈ es := by
  induction es with
  | nil => cases h
  | cons p es ih =>
    unfold lookI at h
    by_cases q : p.1 = k
    · rw [if_pos q] at h; cases h; subst q; exact .head _
    · rw [if_neg q] at h; exact .tail _ (ih h)
theorem lookI_foldPut : ∀ (l es : List (Int × Int)) (x : Int), NK l → lookI (l.foldl (fun es p => putI es p.1 p.2) es) x = (lookI l x).or (lookI es x)
  | [], es, x, _ => by simp [lookI]
  | p :: l, es, x, h => by
    unfold NK at h
    rw [List.map_cons, List.nodup_cons] at h
    rw [List.foldl_cons, lookI_foldPut l _ x h.2, lookI_put, lookI_cons]
    by_cases q : p.1 = x
    · subst q
      rw [lookI_none h.1]; simp
    · simp [q]
theorem lookI_dictOf {l : List (Int × Int)} (h : NK l) (x : Int) : lookI (dictOf l) x = lookI l x := by
  unfold dictOf
  rw [lookI_foldPut l [] x h]; simp [lookI]
theorem lookI_addTo (es : List (Int × Int)) (p : Int × Int) (x : Int) : lookI (addTo es p) x = if p.1 = x then some (vl es x + p.2) else lookI es x := by
  unfold addTo vl
  split
  · rename_i v hv
    rw [lookI_put]
    by_cases q : p.1 = x
    · subst q; simp [hv]
    · simp [q]
  · rename_i hv
    rw [lookI_put]
    by_cases q : p.1 = x
    · subst q; simp [hv]
    · simp [q]
theorem lookI_foldAdd : ∀ (l es : List (Int × Int)) (x : Int), NK l → lookI (l.foldl addTo es) x = if (lookI l x).isSome then some (vl es x + vl l x) else lookI es x
  | [], es, x, _ => by simp [lookI]
  | p :: l, es, x, h => by
    unfold NK at h
    rw [List.map_cons, List.nodup_cons] at h
    rw [List.foldl_cons, lookI_foldAdd l _ x h.2]
    have e : lookI (p :: l) x = if p.1 = x then some p.2 else lookI l x := rfl
    by_cases q : p.1 = x
    · subst q
      have hn := lookI_none h.1
      simp [vl, hn, e, lookI_addTo]
    · have e1 : lookI (addTo es p) x = lookI es x := by rw [lookI_addTo, if_neg q]
      simp [vl, e, e1, q]
theorem vl_addC {b : List (Int × Int)} {a : List (Int × Int)} (ha : NK a) (hb : NK b) (x : Int) : vl (addC a b) x = vl a x + vl b x ∧ (lookI (addC a b) x).isSome = ((lookI a x).isSome || (lookI b x).isSome) := by
  have h := lookI_foldAdd b (dictOf a) x hb
  have hd := lookI_dictOf ha x
  unfold addC
  constructor
  · show (lookI _ x).getD 0 = _
    rw [h]
    unfold vl
    rw [hd]
    cases q : lookI b x <;> simp
  · rw [h]
    rw [hd]
    cases q : lookI b x <;> simp
theorem putI_NK {es : List (Int × Int)} (h : NK es) (k n : Int) : NK (putI es k n) := by
  unfold putI
  rw [lookI_any]
  unfold NK at h ⊢
  by_cases q : (lookI es k).isSome = true
  · rw [if_pos q, List.map_map]
    have : ((fun x : Int × Int => x.1) ∘ fun p : Int × Int => if p.1 = k then (p.1, n) else p) = fun x => x.1 := by
      funext p; simp only [Function.comp]; split <;> rfl
    rw [this]; exact h
  · rw [if_neg q, List.map_append, List.nodup_append]
    refine ⟨h, by simp, fun a ha b hb e => ?_⟩
    simp only [List.map_cons, List.map_nil, List.mem_singleton] at hb
    subst e; subst hb
    obtain ⟨p, hp, e⟩ := List.mem_map.mp ha
    obtain ⟨j, hj⟩ := lookI_of_mem hp
    rw [show p.1 = a from e] at hj
    rw [hj] at q; simp at q
theorem foldPut_NK : ∀ (l es : List (Int × Int)), NK es → NK (l.foldl (fun es p => putI es p.1 p.2) es)
  | [], _, h => h
  | p :: l, es, h => foldPut_NK l _ (putI_NK h _ _)
theorem dictOf_NK (l : List (Int × Int)) : NK (dictOf l) := foldPut_NK l [] List.nodup_nil
theorem addTo_NK {es : List (Int × Int)} (h : NK es) (p : Int × Int) : NK (addTo es p) := by
  unfold addTo; split <;> exact putI_NK h _ _
theorem foldAdd_NK : ∀ (l es : List (Int × Int)), NK es → NK (l.foldl addTo es)
  | [], _, h => h
  | p :: l, es, h => foldAdd_NK l _ (addTo_NK h p)
theorem addC_NK (a b : List (Int × Int)) : NK (addC a b) := foldAdd_NK b _ (dictOf_NK a)

/-- the next best -/
def bestI (od : List Nat) (nr : List (Int × Int)) (b : Int) (v : Nat) : Int := if (!((natL od).any (· == (v : Int))) && (decide (b < 0) || decide (vl nr b < vl nr (v : Int)))) = true then (v : Int) else b
def pick (ls od : List Nat) (nr : List (Int × Int)) : Int := ls.foldl (bestI od nr) (-1)
theorem natL_any (od : List Nat) (v : Nat) : (natL od).any (· == (v : Int)) = od.contains v := by
  induction od with
  | nil => rfl
  | cons u od ih =>
    have e : natL (u :: od) = (u : Int) :: natL od := rfl
    have e1 : ((u : Int) == (v : Int)) = (v == u) := by
      by_cases h : v = u
      · subst h; simp
      · have h' : (u : Int) ≠ (v : Int) := by omega
        rw [beq_eq_false_iff_ne.mpr h', beq_eq_false_iff_ne.mpr h]
    rw [e, List.any_cons, ih, List.contains_cons, e1]
theorem best_inv (ls od : List Nat) (nr : List (Int × Int)) : ∀ (l : List Nat) (b : Int), (∀ v ∈ l, v ∈ ls) → (b = -1 ∨ ∃ u : Nat, u ∈ ls ∧ u ∉ od ∧ b = (u : Int)) →
    ((l.foldl (bestI od nr) b = -1 ∨ ∃ u : Nat, u ∈ ls ∧ u ∉ od ∧ l.foldl (bestI od nr) b = (u : Int))) ∧ ((b ≠ -1 ∨ ∃ v ∈ l, v ∉ od) → l.foldl (bestI od nr) b ≠ -1)
  | [], b, _, h => ⟨h, fun hh => by rcases hh with hh | ⟨v, hv, _⟩; exact hh; cases hv⟩
  | v :: l, b, hl, h => by
    have hv := hl v (List.Mem.head _)
    have ih := best_inv ls od nr l (bestI od nr b v) fun u hu => hl u (List.Mem.tail _ hu)
    by_cases q : (!((natL od).any (· == (v : Int))) && (decide (b < 0) || decide (vl nr b < vl nr (v : Int)))) = true
    · have e : bestI od nr b v = (v : Int) := by unfold bestI; rw [if_pos q]
      have hvo : v ∉ od := by
        rw [Bool.and_eq_true] at q
        have := q.1
        rw [natL_any] at this
        simpa using this
      rw [List.foldl_cons]
      obtain ⟨i1, i2⟩ := ih (.inr ⟨v, hv, hvo, e⟩)
      exact ⟨i1, fun _ => i2 (.inl (by rw [e]; omega))⟩
    · have e : bestI od nr b v = b := by unfold bestI; rw [if_neg q]
      rw [List.foldl_cons]
      rw [e] at ih ⊢
      obtain ⟨i1, i2⟩ := ih h
      refine ⟨i1, fun hh => ?_⟩
      rcases hh with hh | ⟨u, hu, huo⟩
      · exact i2 (.inl hh)
      · rcases List.mem_cons.mp hu with e' | hu
        · subst e'
          refine i2 (.inl fun z => q ?_)
          rw [natL_any, z]
          simp [huo]
        · exact i2 (.inr ⟨u, hu, huo⟩)
theorem pick_ok {ls od : List Nat} (nr : List (Int × Int)) (h : ∃ v ∈ ls, v ∉ od) : ∃ u : Nat, u ∈ ls ∧ u ∉ od ∧ pick ls od nr = (u : Int) := by
  obtain ⟨i1, i2⟩ := best_inv ls od nr ls (-1) (fun _ h => h) (.inl rfl)
  rcases i1 with i1 | i1
  · exact absurd i1 (i2 (.inr h))
  · exact i1
theorem pigeon : ∀ (ls od : List Nat), ls.Nodup → (∀ v ∈ ls, v ∈ od) → ls.length ≤ od.length
  | [], _, _, _ => Nat.zero_le _
  | v :: ls, od, hn, h => by
    rw [List.nodup_cons] at hn
    have hv := h v (List.Mem.head _)
    have := pigeon ls (od.erase v) hn.2 fun u hu => (List.mem_erase_of_ne (fun z : u = v => hn.1 (by rw [← z]; exact hu))).mpr (h u (List.Mem.tail _ hu))
    rw [List.length_erase_of_mem hv] at this
    have hpos : 0 < od.length := List.length_pos_of_mem hv
    simp only [List.length_cons]; omega
/-- the order in which they are taken -/
def maIt (ls : List Nat) (tb : Nat → List (Int × Int)) (v0 : Nat) : Nat → List Nat × List (Int × Int)
  | 0 => ([v0], tb v0)
  | j + 1 => ((maIt ls tb v0 j).1 ++ [(pick ls (maIt ls tb v0 j).1 (maIt ls tb v0 j).2).toNat], addC (maIt ls tb v0 j).2 (tb (pick ls (maIt ls tb v0 j).1 (maIt ls tb v0 j).2).toNat))
structure MaOk (ls : List Nat) (tb : Nat → List (Int × Int)) (od : List Nat) (nr : List (Int × Int)) (j : Nat) : Prop where
  len : od.length = j + 1
  mem : ∀ v ∈ od, v ∈ ls
  nd : od.Nodup
  nk : NK nr
  some : ∀ v ∈ ls, v ∉ od → (lookI nr (v : Int)).isSome = true
  size : nr.length ≤ 5 * (j + 1)
  val : ∀ k : Int, vl nr k = (od.map fun u => vl (tb u) k).sum
theorem maIt_ok {ls : List Nat} {tb : Nat → List (Int × Int)} {v0 : Nat} (hn : ls.Nodup) (h0 : v0 ∈ ls) (hnk : ∀ v ∈ ls, NK (tb v)) (hlk : ∀ v ∈ ls, ∀ u ∈ ls, u ≠ v → (lookI (tb v) (u : Int)).isSome = true) (hsz : ∀ v ∈ ls, (tb v).length ≤ 5) :
    ∀ j, j + 1 ≤ ls.length → MaOk ls tb (maIt ls tb v0 j).1 (maIt ls tb v0 j).2 j ∧ (j + 1 < ls.length → ∃ u : Nat, u ∈ ls ∧ u ∉ (maIt ls tb v0 j).1 ∧ pick ls (maIt ls tb v0 j).1 (maIt ls tb v0 j).2 = (u : Int))
  | 0, h => by
    have hm : MaOk ls tb (maIt ls tb v0 0).1 (maIt ls tb v0 0).2 0 := ⟨rfl, fun v hv => by rw [List.mem_singleton.mp hv]; exact h0, by simp [maIt], hnk v0 h0, fun v hv hvo => hlk v0 h0 v hv fun z => hvo (by rw [z]; exact List.Mem.head _), hsz v0 h0, fun k => by simp [maIt]⟩
    refine ⟨hm, fun hlt => pick_ok _ (Classical.byContradiction fun hc => ?_)⟩
    have := pigeon ls (maIt ls tb v0 0).1 hn fun v hv => Classical.byContradiction fun hh => hc ⟨v, hv, hh⟩
    rw [hm.len] at this; omega
  | j + 1, h => by
    obtain ⟨hm, hp⟩ := maIt_ok hn h0 hnk hlk hsz j (by omega)
    obtain ⟨u, hu, huo, hpu⟩ := hp (by omega)
    have e1 : (maIt ls tb v0 (j + 1)).1 = (maIt ls tb v0 j).1 ++ [u] := by
      show (maIt ls tb v0 j).1 ++ [(pick ls (maIt ls tb v0 j).1 (maIt ls tb v0 j).2).toNat] = _
      rw [hpu]; rfl
    have e2 : (maIt ls tb v0 (j + 1)).2 = addC (maIt ls tb v0 j).2 (tb u) := by
      show addC (maIt ls tb v0 j).2 (tb (pick ls (maIt ls tb v0 j).1 (maIt ls tb v0 j).2).toNat) = _
      rw [hpu]; rfl
    have hm' : MaOk ls tb (maIt ls tb v0 (j + 1)).1 (maIt ls tb v0 (j + 1)).2 (j + 1) := by
      rw [e1, e2]
      refine ⟨by rw [List.length_append, hm.len]; rfl, fun v hv => ?_, ?_, addC_NK _ _, fun v hv hvo => ?_, ?_, fun k => ?_⟩
      · rcases List.mem_append.mp hv with hv | hv
        · exact hm.mem v hv
        · rw [List.mem_singleton.mp hv]; exact hu
      · rw [List.nodup_append]
        exact ⟨hm.nd, by simp, fun x hx y hy z => huo (by rw [List.mem_singleton.mp hy] at z; exact z ▸ hx)⟩
      · rw [(vl_addC hm.nk (hnk u hu) _).2, hm.some v hv fun z => hvo (List.mem_append_left _ z)]; rfl
      · have h1 := addC_length (maIt ls tb v0 j).2 (tb u)
        have h2 := hsz u hu
        have h3 := hm.size
        omega
      · rw [(vl_addC hm.nk (hnk u hu) _).1, hm.val, List.map_append, List.sum_append]; simp
    refine ⟨hm', fun hlt => pick_ok _ (Classical.byContradiction fun hc => ?_)⟩
    have := pigeon ls (maIt ls tb v0 (j + 1)).1 hn fun v hv => Classical.byContradiction fun hh => hc ⟨v, hv, hh⟩
    rw [hm'.len] at this; omega
end Mine

namespace Mine
section
variable {w : World} {A : Around} {L a : Addr} {cd : Value} {h0 : Heap} {F0 : FH} {mg mb : Str → Option Value} {Q : OQ} {P : MM}
variable {R : Nat → Row} {x : Ad} {cs : List Int} {ls : List Nat} {H : Nat → Nat} {nm hs : Nat → Str} {tb : Nat → List (Int × Int)}
theorem while_split {C : Cx} {δ : VM} {P : MM} {e : Expr} {b : Bool} {X Y : Prop} (h : Tr C δ P e b) (h0 : b = false → X) (h1 : b = true → Y) : (Tr C δ P e false ∧ X) ∨ (Tr C δ P e true ∧ Y) := by
  cases b with
  | false => exact .inl ⟨h, h0 rfl⟩
  | true => exact .inr ⟨h, h1 rfl⟩
theorem vl_some {es : List (Int × Int)} {k : Int} (h : (lookI es k).isSome = true) : lookI es k = some (vl es k) := by
  obtain ⟨v, hv⟩ := Option.isSome_iff_exists.mp h
  rw [vl, hv]; rfl
def VO (R : Nat → Row) (x : Ad) (oa : Addr) (nr : List (Int × Int)) : VM := ("near", .dict nr) :: ("order", .ex (.ref oa)) :: VW R x
theorem bo3 (c : COk (LC w A L a cd h0 F0) mg mb 3) {v0 : Nat} {oa : Addr} (h5 : ∀ v ∈ ls, v < 5) (hl : ls.length ≤ 5) (hn : ls.Nodup) (hv0 : v0 ∈ ls) (hnk : ∀ v ∈ ls, NK (tb v)) (hlk : ∀ v ∈ ls, ∀ u ∈ ls, u ≠ v → (lookI (tb v) (u : Int)).isSome = true) (hsz : ∀ v ∈ ls, (tb v).length ≤ 5)
    (k : ∀ δ' nr, Cov δ' (VO R x oa nr) → Q .next δ' ((oa, .list ((natL (maIt ls tb v0 (ls.length - 1)).1).map .int)) :: PW x cs ls H nm hs tb)) :
    Ex (LC w A L a cd h0 F0) (VO R x oa (tb v0)) ((oa, .list ((natL [v0]).map .int)) :: PW x cs ls H nm hs tb) B3p.1 Q := by
  have hpos : 1 ≤ ls.length := List.length_pos_of_mem hv0
  refine Ex.while_ (fun m δ P => ∃ j, m + (j + 1) = ls.length ∧ Cov δ (VO R x oa (maIt ls tb v0 j).2) ∧ P = (oa, .list ((natL (maIt ls tb v0 j).1).map .int)) :: PW x cs ls H nm hs tb) (ls.length - 1) ⟨0, by omega, ⟨rfl, rfl, rfl, rfl, rfl, rfl, rfl, rfl, rfl, rfl, trivial⟩, rfl⟩ ?_
  rintro m δ P ⟨j, hj, hc, rfl⟩
  obtain ⟨ok, hpk⟩ := maIt_ok hn hv0 hnk hlk hsz j (by omega)
  refine while_split (Tr.cmp (Ev.callB (Ev.blt c gl_len (by decide) rfl) (ds := [.ex (.ref oa)]) ⟨Ev.name c hc.2.1, trivial⟩ (CallP.lenL (.inr ⟨oa, rfl, List.Mem.head _⟩) (by rw [natL_len, ok.len]; omega))) (Ev.callB (Ev.blt c gl_len (by decide) rfl) (ds := [.ex (.ref x.la)]) ⟨Ev.name c hc.2.2.2.1, trivial⟩ (CallP.lenL (.inr ⟨x.la, rfl, m_la⟩) (by rw [natL_len]; omega))) CmpP.ltI) (fun hb => ?_) (fun hb => ?_)
  · rw [natL_len, natL_len, ok.len] at hb
    have hb' := of_decide_eq_false hb
    have hj1 : j = ls.length - 1 := by omega
    rw [← hj1] at k
    exact k _ _ hc
  · rw [natL_len, natL_len, ok.len] at hb
    have hb' := of_decide_eq_true hb
    have hlt : j + 1 < ls.length := by omega
    obtain ⟨u, hu, huo, hpu⟩ := hpk hlt
    refine Run.cov hc ?_
    have hod : ∀ v ∈ ls, v ∉ (maIt ls tb v0 j).1 → (lookI (maIt ls tb v0 j).2 (v : Int)).isSome = true := ok.some
    have hnext1 : (maIt ls tb v0 (j + 1)).1 = (maIt ls tb v0 j).1 ++ [u] := by
      show (maIt ls tb v0 j).1 ++ [(pick ls (maIt ls tb v0 j).1 (maIt ls tb v0 j).2).toNat] = _
      rw [hpu]; rfl
    have hnext2 : (maIt ls tb v0 (j + 1)).2 = addC (maIt ls tb v0 j).2 (tb u) := by
      show addC (maIt ls tb v0 j).2 (tb (pick ls (maIt ls tb v0 j).1 (maIt ls tb v0 j).2).toNat) = _
      rw [hpu]; rfl
    have hfin : ∀ (δ' : VM), Cov δ' (VO R x oa (addC (maIt ls tb v0 j).2 (tb u))) → ∃ m', m' < m ∧ ∃ j', m' + (j' + 1) = ls.length ∧ Cov δ' (VO R x oa (maIt ls tb v0 j').2) ∧ ((oa, MD.list ((natL ((maIt ls tb v0 j).1 ++ [u])).map .int)) :: PW x cs ls H nm hs tb : MM) = (oa, .list ((natL (maIt ls tb v0 j').1).map .int)) :: PW x cs ls H nm hs tb := by
      intro δ' hc'
      exact ⟨m - 1, by omega, j + 1, by omega, by rw [hnext2]; exact hc', by rw [hnext1]⟩
    have hodl := ok.len
    have hnrl := ok.size
    have hul := hsz u hu
    generalize (maIt ls tb v0 j).1 = od at *
    generalize (maIt ls tb v0 j).2 = nr at *
    refine Run.cons (Ex.assign c iv_best (Ev.neg Ev.cint) ?_)
    refine Run.cons (Ex.forN c iv_v (IterOf.list c (Ev.name c rfl) (.inr ⟨x.la, rfl, m_la⟩)) (fun q => ("best", .int ((ls.take q).foldl (bestI od nr) (-1))) :: VO R x oa nr) (fun q => (oa, .list ((natL od).map .int)) :: PW x cs ls H nm hs tb) (fun _ _ => .inr ⟨x.la, rfl, m_la⟩) ⟨rfl, rfl, rfl, rfl, rfl, rfl, rfl, rfl, rfl, rfl, rfl, trivial⟩ rfl (fun i => rfl) (fun q d hd => ?_) (fun δ' hc => ?_))
    · obtain ⟨v, hv, hvq, rfl⟩ := natL_get hd
      have hbi := (best_inv ls od nr (ls.take q) (-1) (fun v hv => List.mem_of_mem_take hv) (.inl rfl)).1
      rw [show (ls.take (q + 1)).foldl (bestI od nr) (-1) = bestI od nr ((ls.take q).foldl (bestI od nr) (-1)) v from foldl_take _ _ _ _ _ hvq]
      generalize (ls.take q).foldl (bestI od nr) (-1) = b at hbi ⊢
      refine Run.cons (Ex.if_ (r := !((natL od).any (· == (v : Int))) && ((decide (b < 0) || (decide (vl nr b < vl nr (v : Int)) || false)) && true)) (Tr.op (TrAll.and (Tr.cmp (Ev.name c rfl) (Ev.name c rfl) (CmpP.notInL (L := natL od) (.inr ⟨oa, rfl, List.Mem.head _⟩))) fun hb => TrAll.and (Tr.op (TrAll.or (Tr.cmp (Ev.name c rfl) Ev.cint CmpP.ltI) fun hb2 => TrAll.or (Tr.cmp (Ev.subD (Ev.name c rfl) (Ev.name c rfl) (.inl rfl) ?_) (Ev.subD (Ev.name c rfl) (Ev.name c rfl) (.inl rfl) ?_) CmpP.gtI) fun _ => TrAll.or_nil)) fun _ => TrAll.and_nil)) (fun hb => ?_) (fun hb => ?_))
      · rw [natL_any] at hb
        exact vl_some (hod v hv (by simpa using hb))
      · have hb3 : ¬ b < 0 := by simpa using hb2
        rcases hbi with hbi | ⟨y, hy, hyo, rfl⟩
        · omega
        · exact vl_some (hod y hy hyo)
      · refine Run.cons (Ex.assign c iv_best (Ev.name c rfl) (Run.nil (Run.nil ⟨.inl rfl, ⟨?_, rfl, rfl, rfl, rfl, rfl, rfl, rfl, rfl, rfl, rfl, trivial⟩, rfl⟩)))
        have : bestI od nr b v = (v : Int) := by unfold bestI; rw [if_pos (by simpa using hb)]
        rw [this]; rfl
      · refine Run.nil (Run.nil ⟨.inl rfl, ⟨?_, rfl, rfl, rfl, rfl, rfl, rfl, rfl, rfl, rfl, rfl, trivial⟩, rfl⟩)
        have : bestI od nr b v = b := by unfold bestI; rw [if_neg (by simpa using hb)]
        rw [this]; rfl
    · rw [natL_len, List.take_length] at hc
      rw [show ls.foldl (bestI od nr) (-1) = (u : Int) from hpu] at hc
      refine Run.cov hc ?_
      have hal : ((natL od).map Dat.int) ++ [.int ((u : Nat) : Int)] = (natL (od ++ [u])).map .int := by simp [natL]
      refine Run.cons (Ex.append c rfl (Ev.name c rfl) .head (by rw [natL_len, hodl]; exact Nat.le_trans (show j + 1 ≤ 5 by omega) (by decide)) ?_)
      rw [hal]
      refine Run.cons (Ex.assign c iv_near (Ev.callF c rfl (i := 2) (ds := [.dict nr, .dict (tb u)]) (by decide) gl_add_callers (add_callers_ok nr (tb u) (Nat.le_trans (show _ ≤ 100 by omega) (by decide))) (by decide) ⟨Ev.name c rfl, Ev.subL (Ev.name c rfl) (Ev.name c rfl) (.inr ⟨x.ta, rfl, m_ta⟩) (nth5 (h5 u hu)) (by have := h5 u hu; omega), trivial⟩) (Run.nil ⟨.inl rfl, hfin _ ⟨rfl, rfl, rfl, rfl, rfl, rfl, rfl, rfl, rfl, rfl, trivial⟩⟩))
theorem bo4 (c : COk (LC w A L a cd h0 F0) mg mb 3) {oa : Addr} {nr : List (Int × Int)} {pre : List Nat} {aa l : Nat} (hlen : pre.length ≤ 5) (k : ∀ δ', Cov δ' (("last", .int ((l : Nat) : Int)) :: ("order", .ex (.ref oa)) :: VW R x) → Q .next δ' ((oa, .list ((natL (pre ++ [aa, l])).map .int)) :: PW x cs ls H nm hs tb)) :
    Ex (LC w A L a cd h0 F0) (VO R x oa nr) ((oa, .list ((natL (pre ++ [aa, l])).map .int)) :: PW x cs ls H nm hs tb) B4p.1 Q := by
  refine Ex.assign c iv_last (d := .int ((l : Nat) : Int)) (Ev.subL (Ev.name c rfl) (Ev.neg Ev.cint) (.inr ⟨oa, rfl, List.Mem.head _⟩) ?_ (by omega)) (k _ ⟨rfl, rfl, rfl, rfl, rfl, rfl, rfl, rfl, rfl, rfl, trivial⟩)
  unfold nth
  rw [if_neg (by omega), natL_len, List.length_append]
  rw [if_pos (by simp; omega)]
  have : (-1 + (((pre.length + [aa, l].length : Nat)) : Int)).toNat = pre.length + 1 := by simp; omega
  rw [this]
  simp [natL]
theorem bo5 (c : COk (LC w A L a cd h0 F0) mg mb 3) {oa : Addr} {pre : List Nat} {aa l : Nat} (hlen : pre.length ≤ 5) (k : ∀ δ', Cov δ' (("ahead", .int ((aa : Nat) : Int)) :: ("last", .int ((l : Nat) : Int)) :: VW R x) → Q .next δ' ((oa, .list ((natL (pre ++ [aa, l])).map .int)) :: PW x cs ls H nm hs tb)) :
    Ex (LC w A L a cd h0 F0) (("last", .int ((l : Nat) : Int)) :: ("order", .ex (.ref oa)) :: VW R x) ((oa, .list ((natL (pre ++ [aa, l])).map .int)) :: PW x cs ls H nm hs tb) B5p.1 Q := by
  refine Ex.assign c iv_ahead (d := .int ((aa : Nat) : Int)) (Ev.subL (Ev.name c rfl) (Ev.neg Ev.cint) (.inr ⟨oa, rfl, List.Mem.head _⟩) ?_ (by omega)) (k _ ⟨rfl, rfl, rfl, rfl, rfl, rfl, rfl, rfl, rfl, rfl, trivial⟩)
  unfold nth
  rw [if_neg (by omega), natL_len, List.length_append]
  rw [if_pos (by simp; omega)]
  have : (-2 + (((pre.length + [aa, l].length : Nat)) : Int)).toNat = pre.length := by simp; omega
  rw [this]
  simp [natL]
end
end Mine

namespace Mine
def sidesTo (H : Nat → Nat) (l aa : Nat) (r : List Nat) : List Nat := r.foldl (fun ss v => if v ≠ l ∧ v ≠ aa then ss ++ ss.map (· + H v) else ss) [H l]
theorem sides_len (H : Nat → Nat) (l aa : Nat) : ∀ (r ss : List Nat), (r.foldl (fun ss v => if v ≠ l ∧ v ≠ aa then ss ++ ss.map (· + H v) else ss) ss).length ≤ ss.length * 2 ^ r.length
  | [], ss => by simp
  | v :: r, ss => by
    rw [List.foldl_cons]
    refine Nat.le_trans (sides_len H l aa r _) ?_
    rw [List.length_cons, Nat.pow_succ]
    split
    · rw [List.length_append, List.length_map]
      have : (ss.length + ss.length) * 2 ^ r.length = ss.length * (2 ^ r.length * 2) := by rw [Nat.add_mul, Nat.mul_comm (2 ^ r.length) 2, ← Nat.mul_assoc, Nat.mul_two, Nat.add_mul]
      omega
    · have : ss.length * 2 ^ r.length ≤ ss.length * (2 ^ r.length * 2) := Nat.mul_le_mul_left _ (by omega)
      exact this
def addF (h : Int) : Dat → Option Dat
  | .int s => some (.int (s + h))
  | _ => none
theorem addF_map (h : Nat) (ss : List Nat) : ((natL ss).map Dat.int).filterMap (addF ((h : Nat) : Int)) = (natL (ss.map (· + h))).map .int := by
  induction ss with
  | nil => rfl
  | cons s ss ih =>
    have e1 : natL (s :: ss) = (s : Int) :: natL ss := rfl
    have e2 : natL ((s :: ss).map (· + h)) = ((s + h : Nat) : Int) :: natL (ss.map (· + h)) := rfl
    rw [e1, e2, List.map_cons, List.map_cons, List.filterMap_cons]
    show Dat.int ((s : Int) + (h : Int)) :: _ = _
    rw [ih, ← Int.natCast_add]
def worthF (R : Nat → Row) : Dat → Option Dat
  | .int s => some (.int (W R s))
  | _ => none
theorem worthF_map (R : Nat → Row) (ss : List Nat) : ((natL ss).map Dat.int).filterMap (worthF R) = (ss.map fun s => W R ((s : Nat) : Int)).map .int := by
  induction ss with
  | nil => rfl
  | cons s ss ih =>
    have e1 : natL (s :: ss) = (s : Int) :: natL ss := rfl
    rw [e1, List.map_cons, List.filterMap_cons]
    show Dat.int (W R (s : Int)) :: _ = _
    rw [ih]; rfl
def hostF (hs : Nat → Str) (y : Str) : Dat → Option Dat
  | .int i => if dmOf (hs i.toNat) y = true then some (.int (2 ^ i.toNat)) else none
  | _ => none
def hostL (hs : Nat → Str) (y : Str) : List Int := (List.range 5).filterMap fun i => if dmOf (hs i) y = true then some ((2 : Int) ^ i) else none
theorem hostF_map (hs : Nat → Str) (y : Str) : (rangeL 0 5).filterMap (hostF hs y) = (hostL hs y).map .int := by
  unfold rangeL hostL
  rw [List.filterMap_map, List.map_filterMap]
  refine congrArg (fun f => List.filterMap f _) (funext fun i => ?_)
  show (if dmOf (hs ((0 : Int) + (i : Nat)).toNat) y = true then some (Dat.int (2 ^ ((0 : Int) + (i : Nat)).toNat)) else none) = _
  have : ((0 : Int) + (i : Nat)).toNat = i := by omega
  rw [this]
  split <;> rfl
def markOf (p : Nat) : Str := ⟨#[46, 65 + p]⟩
theorem mark_bytes : ∀ p : Fin 5, 0 < p.val → (apB 1 ((p.val : Nat) : Int).natAbs #[]).toList.map (·.toNat) = [65 + p.val] ∧ ((p.val : Nat) : Int).natAbs < 16 ^ 1 := by decide +kernel
theorem mark_join : ∀ p : Fin 5, JoinOk ("" : Str) [(⟨#[65 + p.val]⟩ : Str)] = true ∧ ("." : Str) ++ Txt.join ("" : Str) [(⟨#[65 + p.val]⟩ : Str)] = markOf p.val ∧ ("." : Str).length + (Txt.join ("" : Str) [(⟨#[65 + p.val]⟩ : Str)]).length ≤ sizeLine := by decide +kernel

section
variable {w : World} {A : Around} {L a : Addr} {cd : Value} {h0 : Heap} {F0 : FH} {mg mb : Str → Option Value} {Q : OQ} {P : MM}
variable {R : Nat → Row} {x : Ad} {cs : List Int} {ls : List Nat} {H : Nat → Nat} {nm hs : Nat → Str} {tb : Nat → List (Int × Int)} {l aa : Nat}
def VL (R : Nat → Row) (x : Ad) (aa l : Nat) : VM := ("ahead", .int ((aa : Nat) : Int)) :: ("last", .int ((l : Nat) : Int)) :: VW R x
theorem bo6 (c : COk (LC w A L a cd h0 F0) mg mb 3) (h5 : l < 5) (hcs : cs.length ≤ 5) (k : Q .next (VL R x aa l) (PW x (cs ++ [sumOf (tb l)]) ls H nm hs tb)) : Ex (LC w A L a cd h0 F0) (VL R x aa l) (PW x cs ls H nm hs tb) B6p.1 Q := by
  have e : ((cs ++ [sumOf (tb l)]).map Dat.int) = cs.map .int ++ [.int (sumOf (tb l))] := by simp
  unfold PW at k
  rw [e] at k
  exact Ex.append c rfl (Ev.callF c rfl (i := 3) (ds := [.dict (tb l)]) (by decide) gl_count_calls (count_calls_ok _) (by decide) ⟨Ev.subL (Ev.name c rfl) (Ev.name c rfl) (.inr ⟨x.ta, rfl, n_ta⟩) (nth5 h5) (by omega), trivial⟩) .head (by rw [List.length_map]; exact Nat.le_trans hcs (by decide)) k
def VS (R : Nat → Row) (x : Ad) (aa l : Nat) (ss : List Nat) : VM := ("sides", .list ((natL ss).map .int)) :: VL R x aa l
theorem bo7 (c : COk (LC w A L a cd h0 F0) mg mb 3) (h5 : l < 5) (k : Q .next (VS R x aa l [H l]) (PW x cs ls H nm hs tb)) : Ex (LC w A L a cd h0 F0) (VL R x aa l) (PW x cs ls H nm hs tb) B7p.1 Q :=
  Ex.assign c iv_sides (Ev.list (ds := [.int ((H l : Nat) : Int)]) ⟨Ev.subL (Ev.name c rfl) (Ev.name c rfl) (.inr ⟨x.he, rfl, n_he⟩) (nth5 h5) (by omega), trivial⟩ (by exact (by decide : 1 ≤ sizeLine))) k
theorem bo8 (c : COk (LC w A L a cd h0 F0) mg mb 3) (h5 : ∀ v ∈ ls, v < 5) (hl : ls.length ≤ 5) (k : ∀ δ', Cov δ' (VS R x aa l (sidesTo H l aa ls)) → Q .next δ' (PW x cs ls H nm hs tb)) : Ex (LC w A L a cd h0 F0) (VS R x aa l [H l]) (PW x cs ls H nm hs tb) B8p.1 Q := by
  refine Ex.forN c iv_v (IterOf.list c (Ev.name c rfl) (.inr ⟨x.la, rfl, n_la⟩)) (fun q => VS R x aa l (sidesTo H l aa (ls.take q))) (fun _ => PW x cs ls H nm hs tb) (fun _ _ => .inr ⟨x.la, rfl, n_la⟩) ⟨rfl, rfl, rfl, rfl, rfl, rfl, rfl, rfl, rfl, rfl, rfl, trivial⟩ rfl (fun i => rfl) (fun q d hd => ?_) (fun δ' hc => k _ (by rw [natL_len, List.take_length] at hc; exact hc))
  obtain ⟨v, hv, hvq, rfl⟩ := natL_get hd
  have hstep : sidesTo H l aa (ls.take (q + 1)) = if v ≠ l ∧ v ≠ aa then sidesTo H l aa (ls.take q) ++ (sidesTo H l aa (ls.take q)).map (· + H v) else sidesTo H l aa (ls.take q) := foldl_take _ _ _ _ _ hvq
  have hlen : (sidesTo H l aa (ls.take q)).length ≤ 32 := by
    have h1 := sides_len H l aa (ls.take q) [H l]
    have h2 := List.length_take_le' q ls
    have h3 : 2 ^ (ls.take q).length ≤ 2 ^ 5 := Nat.pow_le_pow_right (by decide) (by omega)
    unfold sidesTo
    simp only [List.length_cons, List.length_nil, Nat.zero_add, Nat.one_mul] at h1
    omega
  rw [hstep]
  generalize sidesTo H l aa (ls.take q) = ss at hlen ⊢
  refine Run.cons (Ex.if_ (r := ((v : Int) != (l : Int)) && (((v : Int) != (aa : Int)) && true)) (Tr.op (TrAll.and (Tr.cmp (Ev.name c rfl) (Ev.name c rfl) CmpP.neI) fun _ => TrAll.and (Tr.cmp (Ev.name c rfl) (Ev.name c rfl) CmpP.neI) fun _ => TrAll.and_nil)) (fun hb => ?_) (fun hb => ?_))
  · have hne : v ≠ l ∧ v ≠ aa := by
      simp only [Bool.and_true, Bool.and_eq_true, bne_iff_ne, ne_eq] at hb
      omega
    rw [if_pos hne]
    have ha : (natL (ss ++ ss.map (· + H v))).map Dat.int = (natL ss).map Dat.int ++ ((natL ss).map Dat.int).filterMap (addF ((H v : Nat) : Int)) := by rw [addF_map]; simp [natL]
    unfold VS
    rw [ha]
    refine Run.cons (Ex.assign c iv_sides (Ev.bin (Ev.name c rfl) (Ev.listComp (f := addF ((H v : Nat) : Int)) (δf := [("heaps", .ex (.ref x.he)), ("v", .int ((v : Nat) : Int))]) c (ScOk.of rfl rfl (by decide) (by decide) ⟨⟨rfl, rfl, rfl, rfl⟩, ⟨rfl, rfl, rfl, rfl⟩, trivial⟩ ⟨rfl, rfl, trivial⟩ rfl) (IterOf.list c (Ev.name c rfl) (.inl rfl)) (.inl rfl) ?_ ?_ (by decide)) (BinD.addL ?_)) (Run.nil (Run.nil ⟨.inl rfl, ⟨rfl, rfl, rfl, rfl, rfl, rfl, rfl, rfl, rfl, rfl, rfl, trivial⟩, rfl⟩)))
    · rw [natL_len]; exact Nat.le_trans hlen (by decide)
    · intro L' h0' F0' c' i d hd
      obtain ⟨s, _, _, rfl⟩ := natL_get hd
      exact ⟨_, Asg.name c' (.inl rfl), ⟨rfl, rfl, trivial⟩, .inl ⟨_, rfl, Tests.nil, Ev.bin (Ev.name c' rfl) (Ev.subL (Ev.name c' rfl) (Ev.name c' rfl) (.inr ⟨x.he, rfl, n_he⟩) (nth5 (h5 v hv)) (by have := h5 v hv; omega)) BinD.add⟩⟩
    · rw [addF_map, natL_len, natL_len, List.length_map]; exact Nat.le_trans (show _ ≤ 64 by omega) (by decide)
  · have hne : ¬ (v ≠ l ∧ v ≠ aa) := by
      intro z
      have : (((v : Int) != (l : Int)) && (((v : Int) != (aa : Int)) && true)) = true := by
        simp only [Bool.and_true, Bool.and_eq_true, bne_iff_ne, ne_eq]; omega
      rw [this] at hb; cases hb
    rw [if_neg hne]
    exact Run.nil (Run.nil ⟨.inl rfl, ⟨rfl, rfl, rfl, rfl, rfl, rfl, rfl, rfl, rfl, rfl, rfl, trivial⟩, rfl⟩)
theorem bo9 (c : COk (LC w A L a cd h0 F0) mg mb 3) {m : Int} {ss : List Nat} (hss : ∀ s ∈ ss, s < 32) (hl : ss.length ≤ 32) (hm : m ∈ ss.map fun s => W R ((s : Nat) : Int)) (hle : ∀ y ∈ ss.map fun s => W R ((s : Nat) : Int), m ≤ y) (hcl : cs.length ≤ 5) (k : Q .next (VS R x aa l ss) (PW x (cs ++ [m]) ls H nm hs tb)) :
    Ex (LC w A L a cd h0 F0) (VS R x aa l ss) (PW x (cs ++ [m]) ls H nm hs tb) B9p.1 Q := by
  have hc1 : nth ((cs ++ [m]).map Dat.int) (-1) = some (.int m) := by
    unfold nth
    rw [if_neg (by omega), List.length_map, List.length_append]
    rw [if_pos (by simp; omega)]
    have : (-1 + (((cs.length + [m].length : Nat)) : Int)).toNat = cs.length := by simp; omega
    rw [this]; simp
  refine Ex.if_ (Tr.cmp (Ev.subL (Ev.name c rfl) (Ev.neg Ev.cint) (.inr ⟨x.ca, rfl, n_ca⟩) hc1 (by omega)) (Ev.callB (Ev.blt c gl_min (by decide) rfl) (ds := [.list (((natL ss).map Dat.int).filterMap (worthF R))]) ⟨Ev.listComp (f := worthF R) (δf := [("worths", .list (worthsTo R 32))]) c
    (ScOk.of rfl rfl (by decide) (by decide) ⟨⟨rfl, rfl, rfl, rfl⟩, trivial⟩ ⟨rfl, trivial⟩ rfl) (IterOf.list c (Ev.name c rfl) (.inl rfl)) (.inl rfl) ?_ ?_ (by decide), trivial⟩ (CallP.min (M := m) (.inl (congrArg Dat.list (worthF_map R ss))) c hm hle)) CmpP.neI) (fun hb => ?_) (fun hb => Run.nil k)
  · rw [natL_len]; exact Nat.le_trans hl (by decide)
  · intro L' h0' F0' c' i d hd
    obtain ⟨s, hs, _, rfl⟩ := natL_get hd
    exact ⟨_, Asg.name c' (.inl rfl), ⟨rfl, trivial⟩, .inl ⟨_, rfl, Tests.nil, Ev.subL (Ev.name c' rfl) (Ev.name c' rfl) (.inl rfl) (worth_nth R (hss s hs)) (by have := hss s hs; omega)⟩⟩
  · have : (m != m) = true := hb
    simp at this
theorem bo10 (c : COk (LC w A L a cd h0 F0) mg mb 3) {ss : List Nat} (hl5 : l < 5) (hdm : ∀ i, i < 5 → dmOk (hs i) (nm l) = true) (hsum : (hostL hs (nm l)).sum = ((H l : Nat) : Int)) (k : Q .next (VS R x aa l ss) (PW x cs ls H nm hs tb)) :
    Ex (LC w A L a cd h0 F0) (VS R x aa l ss) (PW x cs ls H nm hs tb) B10p.1 Q := by
  refine Ex.if_ (Tr.cmp (Ev.callB (Ev.blt c gl_sum (by decide) rfl) (ds := [.list ((rangeL 0 5).filterMap (hostF hs (nm l)))]) ⟨Ev.listComp (f := hostF hs (nm l)) (δf := [("hosts", .ex (.ref x.ho)), ("names", .ex (.ref x.na)), ("last", .int ((l : Nat) : Int))]) c
    (ScOk.of rfl rfl (by decide) (by decide) ⟨⟨rfl, rfl, rfl, rfl⟩, ⟨rfl, rfl, rfl, rfl⟩, ⟨rfl, rfl, rfl, rfl⟩, trivial⟩ ⟨rfl, rfl, rfl, trivial⟩ rfl) (IterOf.range1 c (Ev.blt c gl_range (by decide) rfl) Ev.cint (k := 5) rfl rfl) trivial ?_ ?_ (by decide), trivial⟩ (CallP.sum (.inl (congrArg Dat.list (hostF_map hs (nm l)))) c)) (Ev.subL (Ev.name c rfl) (Ev.name c rfl) (.inr ⟨x.he, rfl, n_he⟩) (nth5 hl5) (by omega)) CmpP.neI) (fun hb => ?_) (fun hb => Run.nil k)
  · rw [rangeL_len]; decide
  · intro L' h0' F0' c' i d hd
    obtain ⟨hi, rfl⟩ := range_k hd
    refine ⟨_, Asg.name c' (.inl rfl), ⟨rfl, rfl, rfl, trivial⟩, ?_⟩
    refine turn_of (Tests.one (Tr.val (Ev.callF c' rfl (i := 7) (ds := [.str (hs i), .str (nm l)]) (by decide) rfl (domain_match_ok _ _ (hdm i hi)) (by decide) ⟨Ev.subL (Ev.name c' rfl) (Ev.name c' rfl) (.inr ⟨x.ho, rfl, n_ho⟩) (nth5 hi) (by omega), Ev.subL (Ev.name c' rfl) (Ev.name c' rfl) (.inr ⟨x.na, rfl, n_na⟩) (nth5 hl5) (by omega), trivial⟩) rfl)) (fun hb => ⟨.int (2 ^ i), ?_, Ev.bin Ev.cint (Ev.name c' rfl) (BinD.powI (by omega) ?_)⟩) (fun hb => ?_)
    · show (if _ then _ else _) = _; exact if_pos hb
    · rw [show (Builtin.Int.intBits 2 : Int) = 2 from rfl]; omega
    · show (if _ then _ else _) = _; exact if_neg fun z => by rw [show dmOf (hs ((i : Nat) : Int).toNat) (nm l) = false from hb] at z; cases z
  · rw [hsum] at hb
    simp at hb
theorem bo11 (c : COk (LC w A L a cd h0 F0) mg mb 3) {p : Nat} (hp : cs.length = p) (hp1 : 0 < p) (hp5 : p < 5) {V : VM} (k : Q .next (("mark", .str (markOf p)) :: VL R x aa l) (PW x cs ls H nm hs tb)) : Ex (LC w A L a cd h0 F0) (VL R x aa l) (PW x cs ls H nm hs tb) B11p.1 Q := by
  subst hp
  obtain ⟨hb, hn⟩ := mark_bytes ⟨cs.length, hp5⟩ hp1
  obtain ⟨j1, j2, j3⟩ := mark_join ⟨cs.length, hp5⟩
  have hf : (bytesL (apB 1 ((cs.length : Nat) : Int).natAbs #[])).filterMap chrF = [(⟨#[65 + cs.length]⟩ : Str)].map .str := by
    unfold bytesL
    rw [chrF_bytes, hb]; rfl
  have hlen : (bytesL (apB 1 ((cs.length : Nat) : Int).natAbs #[])).length ≤ sizeLine := by
    have := congrArg List.length hb
    simp only [List.length_map, List.length_cons, List.length_nil] at this
    simp only [bytesL, List.length_map]
    rw [this]; decide
  rw [← j2] at k
  have hlc : (((cs.map Dat.int).length : Nat) : Int) = ((cs.length : Nat) : Int) := by rw [List.length_map]
  refine Ex.assign c iv_mark (Ev.bin Ev.cstr (Ev.meth PySem.F.plainAttrs_str PySem.F.slot_str_join PySem.F.type_str_join Ev.cstr isStrT (ds := [.list ((bytesL (apB 1 ((cs.length : Nat) : Int).natAbs #[])).filterMap chrF)]) ⟨Ev.listComp (f := chrF) (δf := []) c (ScOk.plain rfl rfl (by decide) (by decide))
    (IterOf.bytes c (Ev.callF c rfl (i := 9) (ds := [.int ((cs.length : Nat) : Int)]) (by decide) gl_Int2AP (int2ap_ok ((cs.length : Nat) : Int) 1 hn (by decide)) (by decide) ⟨?_, trivial⟩)) trivial hlen ?_ (by decide), trivial⟩ (CallP.join (.inl (congrArg Dat.list hf)) j1)) (BinD.addS j3)) k
  · rw [← hlc]
    exact Ev.callB (Ev.blt c gl_len (by decide) rfl) (ds := [.ex (.ref x.ca)]) ⟨Ev.name c rfl, trivial⟩ (CallP.lenL (.inr ⟨x.ca, rfl, n_ca⟩) (by rw [List.length_map]; omega))
  · intro L' h0' F0' c' i d hd
    unfold bytesL at hd
    rw [List.getElem?_map, Option.map_eq_some_iff] at hd
    obtain ⟨u, hd, rfl⟩ := hd
    have hu := u.toNat_lt
    exact ⟨_, Asg.name c' (.inl rfl), trivial, .inl ⟨_, rfl, Tests.nil, Ev.callB (Ev.blt c' rfl (by decide) rfl) (ds := [.int (u.toNat : Int)]) ⟨Ev.name c' rfl, trivial⟩ (CallP.chr (by omega) (by omega))⟩⟩
end
end Mine

namespace Mine
theorem tab5_setm {α β : Type} {f : Nat → α} (g : α → β) {v : Nat} (h : v < 5) (y : α) : (tab5 fun v => g (f v)).set v (g y) = tab5 fun u => g (upd f v y u) := by
  rw [tab5_set h]
  congr 1
  funext u
  unfold upd
  split <;> rfl
def bitB (h i : Nat) : Bool := (((h : Nat) : Int).fdiv (2 ^ i)).fmod 2 == 1
def hsTo (hs : Nat → Str) (h : Nat) (mk : Str) (q : Nat) : Nat → Str := fun i => if i < q ∧ bitB h i = true then hs i ++ mk else hs i
theorem lower_mark : ∀ p : Fin 5, Builtin.Str.tooLong (Txt.lower (markOf p.val)).length = false := by decide +kernel
theorem erase_at {l : Nat} : ∀ {ls : List Nat}, l ∈ ls → ∃ j, ls[j]? = some l ∧ (∀ m, m < j → ls[m]? ≠ some l) ∧ ls.eraseIdx j = ls.erase l
  | v :: ls, h => by
    by_cases e : v = l
    · subst e
      exact ⟨0, rfl, fun m hm => by omega, by simp⟩
    · have hl : l ∈ ls := by
        rcases List.mem_cons.mp h with z | z
        · exact absurd z.symm e
        · exact z
      obtain ⟨j, h1, h2, h3⟩ := erase_at hl
      refine ⟨j + 1, by simpa using h1, fun m hm => ?_, ?_⟩
      · cases m with
        | zero => simpa using e
        | succ m => simpa using h2 m (by omega)
      · rw [List.eraseIdx_cons_succ, h3, List.erase_cons_tail (by simpa using e)]
def keepF (es : List (Int × Int)) (z : Int) : Dat → Option (Int × Int)
  | .int u => if (u != z) = true then some (u, vl es u) else none
  | _ => none
/-- a table without a key -/
def selD (es : List (Int × Int)) (ls : List Nat) (z : Nat) : List (Int × Int) := dictOf ((ls.filter fun u => u != z).map fun (u : Nat) => (((u : Nat) : Int), vl es ((u : Nat) : Int)))
theorem keepF_map (es : List (Int × Int)) (ls : List Nat) (z : Nat) : dictOf (((natL ls).map Dat.int).filterMap (keepF es ((z : Nat) : Int))) = selD es ls z := by
  unfold selD
  congr 1
  induction ls with
  | nil => rfl
  | cons u ls ih =>
    have e1 : natL (u :: ls) = (u : Int) :: natL ls := rfl
    rw [e1, List.map_cons, List.filterMap_cons]
    by_cases h : u = z
    · subst h
      have : keepF es ((u : Nat) : Int) (.int ((u : Nat) : Int)) = none := by simp [keepF]
      rw [this]; simp only [bne_self_eq_false, Bool.false_eq_true, not_false_eq_true, List.filter_cons_of_neg]; exact ih
    · have h' : ((u : Nat) : Int) ≠ ((z : Nat) : Int) := by omega
      have : keepF es ((z : Nat) : Int) (.int ((u : Nat) : Int)) = some (((u : Nat) : Int), vl es ((u : Nat) : Int)) := by simp [keepF, h']
      have hf : (u != z) = true := by simp [h]
      rw [this, List.filter_cons_of_pos (p := fun u => u != z) hf, List.map_cons, ← ih]
theorem selD_len (es : List (Int × Int)) (ls : List Nat) (z : Nat) : (selD es ls z).length ≤ ls.length := by
  unfold selD
  refine Nat.le_trans (dictOf_length _) ?_
  rw [List.length_map]
  exact List.length_filter_le _ _
def newT (tb : Nat → List (Int × Int)) (ls : List Nat) (aa l v : Nat) : List (Int × Int) := addC (selD (tb v) ls v) [(((aa : Nat) : Int), vl (tb v) ((l : Nat) : Int))]
def tbTo (tb : Nat → List (Int × Int)) (ls : List Nat) (aa l q : Nat) : Nat → List (Int × Int) := fun v => if v ∈ ls.take q ∧ v ≠ aa then newT tb ls aa l v else tb v

section
variable {w : World} {A : Around} {L a : Addr} {cd : Value} {h0 : Heap} {F0 : FH} {mg mb : Str → Option Value} {Q : OQ} {P : MM}
variable {R : Nat → Row} {x : Ad} {cs : List Int} {ls : List Nat} {H : Nat → Nat} {nm hs : Nat → Str} {tb : Nat → List (Int × Int)} {l aa : Nat}
def VM' (R : Nat → Row) (x : Ad) (aa l : Nat) (mk : Str) : VM := ("mark", .str mk) :: VL R x aa l
theorem bo12 (c : COk (LC w A L a cd h0 F0) mg mb 3) {mk : Str} (ha : aa < 5) (hl5 : l < 5) (k : Q .next (VM' R x aa l mk) (PW x cs ls (upd H aa (H aa + H l)) nm hs tb)) : Ex (LC w A L a cd h0 F0) (VM' R x aa l mk) (PW x cs ls H nm hs tb) B12p.1 Q := by
  have e : (tab5 fun v => Dat.int ((H v : Nat) : Int)).set aa (.int (((H aa : Nat) : Int) + ((H l : Nat) : Int))) = tab5 fun v => Dat.int ((upd H aa (H aa + H l) v : Nat) : Int) := by
    rw [← Int.natCast_add]; exact tab5_setm (fun n : Nat => Dat.int ((n : Nat) : Int)) ha _
  unfold PW at k
  rw [← e] at k
  exact Ex.setL (xs := tab5 fun v => Dat.int ((H v : Nat) : Int)) (k := aa) (Ev.bin (Ev.subL (Ev.name c rfl) (Ev.name c rfl) (.inr ⟨x.he, rfl, n_he⟩) (nth5 ha) (by omega)) (Ev.subL (Ev.name c rfl) (Ev.name c rfl) (.inr ⟨x.he, rfl, n_he⟩) (nth5 hl5) (by omega)) BinD.add) (Ev.name c rfl) (Ev.name c rfl) ha (by omega) (.tail (.tail .head)) k
theorem bo13 (c : COk (LC w A L a cd h0 F0) mg mb 3) {mk : Str} (ha : aa < 5) (hh : ∀ i, i < 5 → (hs i).length + mk.length ≤ sizeLine) (k : ∀ δ', Cov δ' (VM' R x aa l mk) → Q .next δ' (PW x cs ls H nm (hsTo hs (H aa) mk 5) tb)) : Ex (LC w A L a cd h0 F0) (VM' R x aa l mk) (PW x cs ls H nm hs tb) B13p.1 Q := by
  have e0 : hsTo hs (H aa) mk 0 = hs := by funext i; simp [hsTo]
  refine Ex.forN c iv_i (IterOf.range1 c (Ev.blt c gl_range (by decide) rfl) Ev.cint (k := 5) rfl rfl) (fun _ => VM' R x aa l mk) (fun q => PW x cs ls H nm (hsTo hs (H aa) mk q) tb) (fun _ _ => trivial) ⟨rfl, rfl, rfl, rfl, rfl, rfl, rfl, rfl, rfl, rfl, rfl, trivial⟩ (by rw [e0]) (fun i => rfl) (fun i d hd => ?_) k
  obtain ⟨hi, rfl⟩ := range_k hd
  obtain ⟨p1, p2⟩ := pow2_ok hi
  have hcur : hsTo hs (H aa) mk i i = hs i := by simp [hsTo]
  refine Run.cons (Ex.if_ (r := bitB (H aa) i) (Tr.cmp (Ev.bin (Ev.bin (Ev.subL (Ev.name c rfl) (Ev.name c rfl) (.inr ⟨x.he, rfl, n_he⟩) (nth5 ha) (by omega)) (Ev.bin (d := .int (2 ^ i)) Ev.cint (Ev.name c rfl) (BinD.powI (by omega) ?_)) (BinD.divI p1 p2)) Ev.cint (BinD.modI (by decide))) Ev.cint CmpP.eqI) (fun hb => ?_) (fun hb => ?_))
  · rw [show (Builtin.Int.intBits 2 : Int) = 2 from rfl]; omega
  · have e : (tab5 fun v => Dat.str (hsTo hs (H aa) mk i v)).set i (.str (hs i ++ mk)) = tab5 fun v => Dat.str (hsTo hs (H aa) mk (i + 1) v) := by
      rw [tab5_setm (fun y : Str => Dat.str y) hi (hs i ++ mk)]
      congr 1
      funext v
      unfold upd hsTo
      by_cases h : v = i
      · subst h; simp [hb]
      · have : (v < i + 1) ↔ v < i := by omega
        simp only [if_neg h, this]
    unfold PW
    rw [← e]
    refine Run.cons (Ex.setL (xs := tab5 fun v => Dat.str (hsTo hs (H aa) mk i v)) (k := i) (d := .str (hs i ++ mk)) (Ev.bin (d1 := .str (hs i)) (Ev.subL (Ev.name c rfl) (Ev.name c rfl) (.inr ⟨x.ho, rfl, n_ho⟩) (by rw [nth5 hi, hcur]) (by omega)) (Ev.name c rfl) (BinD.addS (hh i hi))) (Ev.name c rfl) (Ev.name c rfl) hi (by omega) (.tail (.tail (.tail (.tail .head)))) (Run.nil (Run.nil ⟨.inl rfl, ⟨rfl, rfl, rfl, rfl, rfl, rfl, rfl, rfl, rfl, rfl, rfl, trivial⟩, rfl⟩)))
  · have e : hsTo hs (H aa) mk (i + 1) = hsTo hs (H aa) mk i := by
      funext v
      unfold hsTo
      by_cases h : v = i
      · subst h; simp [hb]
      · have : (v < i + 1) ↔ v < i := by omega
        simp only [this]
    rw [e]
    exact Run.nil (Run.nil ⟨.inl rfl, ⟨rfl, rfl, rfl, rfl, rfl, rfl, rfl, rfl, rfl, rfl, rfl, trivial⟩, rfl⟩)
theorem bo14 (c : COk (LC w A L a cd h0 F0) mg mb 3) {p : Nat} (hp : p < 5) (ha : aa < 5) (k : Q .next (VM' R x aa l (markOf p)) (PW x cs ls H (upd nm aa (Txt.lower (markOf p))) hs tb)) : Ex (LC w A L a cd h0 F0) (VM' R x aa l (markOf p)) (PW x cs ls H nm hs tb) B14p.1 Q := by
  have e : (tab5 fun v => Dat.str (nm v)).set aa (.str (Txt.lower (markOf p))) = tab5 fun v => Dat.str (upd nm aa (Txt.lower (markOf p)) v) := tab5_setm (fun y : Str => Dat.str y) ha _
  unfold PW at k
  rw [← e] at k
  exact Ex.setL (xs := tab5 fun v => Dat.str (nm v)) (k := aa) (Ev.meth PySem.F.plainAttrs_str PySem.F.slot_str_lower PySem.F.type_str_lower (Ev.name c rfl) isStrT (ds := []) trivial (CallP.lower (lower_mark ⟨p, hp⟩))) (Ev.name c rfl) (Ev.name c rfl) ha (by omega) (.tail (.tail (.tail .head))) k
theorem bo15 (c : COk (LC w A L a cd h0 F0) mg mb 3) {mk : Str} (hl : l ∈ ls) (hll : ls.length ≤ 5) (k : Q .next (VM' R x aa l mk) (PW x cs (ls.erase l) H nm hs tb)) : Ex (LC w A L a cd h0 F0) (VM' R x aa l mk) (PW x cs ls H nm hs tb) B15p.1 Q := by
  obtain ⟨j, h1, h2, h3⟩ := erase_at hl
  have e : natL (ls.erase l) = (natL ls).eraseIdx j := by rw [← h3]; exact map_eraseIdx _ _ _
  unfold PW at k
  rw [e] at k
  refine Ex.remove (L := natL ls) (k := ((l : Nat) : Int)) (j := j) c rfl (Ev.name c rfl) ?_ (fun m hm z => ?_) (.tail .head) ?_ k
  · unfold natL; rw [List.getElem?_map, h1]; rfl
  · unfold natL at z
    rw [List.getElem?_map, Option.map_eq_some_iff] at z
    obtain ⟨u, hu, e⟩ := z
    have : u = l := by omega
    subst this
    exact h2 m hm hu
  · unfold natL; rw [List.length_map]; exact Nat.le_trans hll (by decide)
theorem bo16 (c : COk (LC w A L a cd h0 F0) mg mb 3) {mk : Str} (ha : aa < 5) (hl5 : l < 5) (hsz : (tb aa).length + (tb l).length ≤ sizeLine) (k : Q .next (("both", .dict (addC (tb aa) (tb l))) :: VM' R x aa l mk) (PW x cs ls H nm hs tb)) : Ex (LC w A L a cd h0 F0) (VM' R x aa l mk) (PW x cs ls H nm hs tb) B16p.1 Q :=
  Ex.assign c iv_both (Ev.callF c rfl (i := 2) (ds := [.dict (tb aa), .dict (tb l)]) (by decide) gl_add_callers (add_callers_ok _ _ hsz) (by decide) ⟨Ev.subL (Ev.name c rfl) (Ev.name c rfl) (.inr ⟨x.ta, rfl, n_ta⟩) (nth5 ha) (by omega), Ev.subL (Ev.name c rfl) (Ev.name c rfl) (.inr ⟨x.ta, rfl, n_ta⟩) (nth5 hl5) (by omega), trivial⟩) k
theorem bo17 (c : COk (LC w A L a cd h0 F0) mg mb 3) {mk : Str} {es : List (Int × Int)} (ha : aa < 5) (hll : ls.length ≤ 5) (hlk : ∀ u ∈ ls, u ≠ aa → (lookI es ((u : Nat) : Int)).isSome = true) (k : Q .next (("both", .dict es) :: VM' R x aa l mk) (PW x cs ls H nm hs (upd tb aa (selD es ls aa)))) :
    Ex (LC w A L a cd h0 F0) (("both", .dict es) :: VM' R x aa l mk) (PW x cs ls H nm hs tb) B17p.1 Q := by
  have e : (tab5 fun v => Dat.dict (tb v)).set aa (.dict (selD es ls aa)) = tab5 fun v => Dat.dict (upd tb aa (selD es ls aa) v) := tab5_setm (fun y : List (Int × Int) => Dat.dict y) ha _
  unfold PW at k
  rw [← e] at k
  rw [← keepF_map es ls aa] at k
  refine Ex.setL (xs := tab5 fun v => Dat.dict (tb v)) (k := aa) (Ev.dictComp (f := keepF es ((aa : Nat) : Int)) (δf := [("both", .dict es), ("ahead", .int ((aa : Nat) : Int))]) c (ScOk.of rfl rfl (by decide) (by decide) ⟨⟨rfl, rfl, rfl, rfl⟩, ⟨rfl, rfl, rfl, rfl⟩, trivial⟩ ⟨rfl, rfl, trivial⟩ rfl) (IterOf.list c (Ev.name c rfl) (.inr ⟨x.la, rfl, n_la⟩)) (.inr ⟨x.la, rfl, n_la⟩) (by rw [natL_len]; exact Nat.le_trans hll (by decide)) ?_ (by decide)) (Ev.name c rfl) (Ev.name c rfl) ha (by omega) (.tail (.tail (.tail (.tail (.tail .head))))) k
  intro L' h0' F0' c' i d hd
  obtain ⟨u, hu, _, rfl⟩ := natL_get hd
  refine ⟨_, Asg.name c' (.inl rfl), ⟨rfl, rfl, trivial⟩, ?_⟩
  refine turn_ofD (Tests.one (Tr.cmp (Ev.name c' rfl) (Ev.name c' rfl) CmpP.neI)) (fun hb => ⟨((u : Nat) : Int), vl es ((u : Nat) : Int), ?_, Ev.name c' rfl, Ev.subD (Ev.name c' rfl) (Ev.name c' rfl) (.inl rfl) (vl_some (hlk u hu ?_))⟩) (fun hb => ?_)
  · exact if_pos hb
  · intro z; subst z; simp at hb
  · exact if_neg fun z => by rw [hb] at z; cases z
theorem bo18 (c : COk (LC w A L a cd h0 F0) mg mb 3) (h5 : ∀ v ∈ ls, v < 5) (hn : ls.Nodup) (hll : ls.length ≤ 5) (hlk : ∀ v ∈ ls, v ≠ aa → (lookI (tb v) ((l : Nat) : Int)).isSome = true ∧ ∀ u ∈ ls, u ≠ v → (lookI (tb v) ((u : Nat) : Int)).isSome = true)
    (k : ∀ δ', Cov δ' (VW R x) → Q .next δ' (PW x cs ls H nm hs (tbTo tb ls aa l ls.length))) : Ex (LC w A L a cd h0 F0) (VL R x aa l) (PW x cs ls H nm hs tb) B18p.1 Q := by
  have e0 : tbTo tb ls aa l 0 = tb := by funext v; simp [tbTo]
  refine Ex.forN c iv_v (IterOf.list c (Ev.name c rfl) (.inr ⟨x.la, rfl, n_la⟩)) (fun _ => VL R x aa l) (fun q => PW x cs ls H nm hs (tbTo tb ls aa l q)) (fun _ _ => .inr ⟨x.la, rfl, n_la⟩) ⟨rfl, rfl, rfl, rfl, rfl, rfl, rfl, rfl, rfl, rfl, trivial⟩ (by rw [e0]) (fun i => rfl) (fun q d hd => ?_) (fun δ' hc => by rw [natL_len]; exact k _ hc.2.2)
  obtain ⟨v, hv, hvq, rfl⟩ := natL_get hd
  have hv5 := h5 v hv
  have hq : q < ls.length := by
    rcases Nat.lt_or_ge q ls.length with z | z
    · exact z
    · rw [List.getElem?_eq_none z] at hvq; cases hvq
  have hnv : v ∉ ls.take q := fun hm => by
    obtain ⟨i, hi, e⟩ := List.mem_iff_getElem.mp hm
    rw [List.length_take] at hi
    rw [List.getElem_take] at e
    rw [List.getElem?_eq_getElem hq] at hvq
    have e2 := Option.some.inj hvq
    exact List.pairwise_iff_getElem.mp hn i q (by omega) hq (by omega) (e.trans e2.symm)
  have htk : ls.take (q + 1) = ls.take q ++ [v] := by rw [List.take_add_one, hvq]; rfl
  have hcur : tbTo tb ls aa l q v = tb v := by unfold tbTo; rw [if_neg fun z => hnv z.1]
  refine Run.cons (Ex.if_ (Tr.cmp (Ev.name c rfl) (Ev.name c rfl) CmpP.neI) (fun hb => ?_) (fun hb => ?_))
  · have hne : v ≠ aa := by intro z; subst z; simp at hb
    obtain ⟨k1, k2⟩ := hlk v hv hne
    have e : (tab5 fun u => Dat.dict (tbTo tb ls aa l q u)).set v (.dict (newT tb ls aa l v)) = tab5 fun u => Dat.dict (tbTo tb ls aa l (q + 1) u) := by
      rw [tab5_setm (fun y : List (Int × Int) => Dat.dict y) hv5 (newT tb ls aa l v)]
      congr 1
      funext u
      unfold upd tbTo
      rw [htk]
      by_cases h : u = v
      · subst h; simp [hne]
      · simp [h]
    refine Run.cons (Ex.assign c iv_row (d := .dict (tb v)) (Ev.subL (Ev.name c rfl) (Ev.name c rfl) (.inr ⟨x.ta, rfl, n_ta⟩) (by rw [nth5 hv5, hcur]) (by omega)) ?_)
    unfold PW
    rw [← e]
    have hkeep := keepF_map (tb v) ls v
    refine Run.cons (Ex.setL (xs := tab5 fun u => Dat.dict (tbTo tb ls aa l q u)) (k := v) (d := .dict (newT tb ls aa l v)) ?_ (Ev.name c rfl) (Ev.name c rfl) hv5 (by omega) (.tail (.tail (.tail (.tail (.tail .head))))) (Run.nil (Run.nil ⟨.inl rfl, ⟨rfl, rfl, rfl, rfl, rfl, rfl, rfl, rfl, rfl, rfl, trivial⟩, rfl⟩)))
    unfold newT
    rw [← hkeep]
    refine Ev.callF c rfl (i := 2) (ds := [.dict (dictOf (((natL ls).map Dat.int).filterMap (keepF (tb v) ((v : Nat) : Int)))), .dict [(((aa : Nat) : Int), vl (tb v) ((l : Nat) : Int))]]) (by decide) gl_add_callers (add_callers_ok _ _ ?_) (by decide) ⟨Ev.dictComp (f := keepF (tb v) ((v : Nat) : Int)) (δf := [("row", .dict (tb v)), ("v", .int ((v : Nat) : Int))]) c (ScOk.of rfl rfl (by decide) (by decide) ⟨⟨rfl, rfl, rfl, rfl⟩, ⟨rfl, rfl, rfl, rfl⟩, trivial⟩ ⟨rfl, rfl, trivial⟩ rfl) (IterOf.list c (Ev.name c rfl) (.inr ⟨x.la, rfl, n_la⟩)) (.inr ⟨x.la, rfl, n_la⟩) (by rw [natL_len]; exact Nat.le_trans hll (by decide)) ?_ (by decide), Ev.dict1 c (Ev.name c rfl) (Ev.subD (Ev.name c rfl) (Ev.name c rfl) (.inl rfl) (vl_some k1)), trivial⟩
    · rw [hkeep]
      have := selD_len (tb v) ls v
      exact Nat.le_trans (show _ ≤ 6 by simp only [List.length_cons, List.length_nil]; omega) (by decide)
    · intro L' h0' F0' c' i d hd
      obtain ⟨u, hu, _, rfl⟩ := natL_get hd
      refine ⟨_, Asg.name c' (.inl rfl), ⟨rfl, rfl, trivial⟩, ?_⟩
      refine turn_ofD (Tests.one (Tr.cmp (Ev.name c' rfl) (Ev.name c' rfl) CmpP.neI)) (fun hb => ⟨((u : Nat) : Int), vl (tb v) ((u : Nat) : Int), ?_, Ev.name c' rfl, Ev.subD (Ev.name c' rfl) (Ev.name c' rfl) (.inl rfl) (vl_some (k2 u hu ?_))⟩) (fun hb => ?_)
      · exact if_pos hb
      · intro z; subst z; simp at hb
      · exact if_neg fun z => by rw [hb] at z; cases z
  · have he : v = aa := by
      have : (((v : Nat) : Int) != ((aa : Nat) : Int)) = false := hb
      simp only [bne_eq_false_iff_eq] at this
      omega
    have e : tbTo tb ls aa l (q + 1) = tbTo tb ls aa l q := by
      funext u
      unfold tbTo
      rw [htk]
      by_cases h : u = v
      · subst h; simp [he]
      · simp [h]
    rw [e]
    exact Run.nil (Run.nil ⟨.inl rfl, ⟨rfl, rfl, rfl, rfl, rfl, rfl, rfl, rfl, rfl, rfl, trivial⟩, rfl⟩)
end
end Mine

namespace Mine
/-- a state of the law's loop -/
structure Sta where
  ls : List Nat
  H : Nat → Nat
  nm : Nat → Str
  hs : Nat → Str
  tb : Nat → List (Int × Int)
  cs : List Int
/-- what a turn asks of its state -/
structure TurnOk (R : Nat → Row) (s : Sta) (v0 : Nat) (pre : List Nat) (aa l : Nat) : Prop where
  h5 : ∀ v ∈ s.ls, v < 5
  hl : s.ls.length ≤ 5
  hn : s.ls.Nodup
  head : ∃ r, s.ls = v0 :: r
  hH : ∀ v ∈ s.ls, s.H v < 32
  hHH : ∀ v ∈ s.ls, ∀ u ∈ s.ls, u ≠ v → s.H u + s.H v < 32
  hdue : ∀ v ∈ s.ls, eqI (s.tb v) (dueTo R s.H v s.ls) = true
  hnk : ∀ v ∈ s.ls, NK (s.tb v)
  hlk : ∀ v ∈ s.ls, ∀ u ∈ s.ls, u ≠ v → (lookI (s.tb v) (u : Int)).isSome = true
  hsz : ∀ v ∈ s.ls, (s.tb v).length ≤ 5
  hod : (maIt s.ls s.tb v0 (s.ls.length - 1)).1 = pre ++ [aa, l]
  ha : aa ∈ s.ls
  hla : l ∈ s.ls
  hne : aa ≠ l
  hss : ∀ t ∈ sidesTo s.H l aa s.ls, t < 32
  hm : sumOf (s.tb l) ∈ (sidesTo s.H l aa s.ls).map fun t => W R ((t : Nat) : Int)
  hle : ∀ y ∈ (sidesTo s.H l aa s.ls).map (fun t => W R ((t : Nat) : Int)), sumOf (s.tb l) ≤ y
  hdm : ∀ i, i < 5 → dmOk (s.hs i) (s.nm l) = true
  hsum : (hostL s.hs (s.nm l)).sum = ((s.H l : Nat) : Int)
  hcs : s.cs.length < 4
  hhs : ∀ i, i < 5 → (s.hs i).length ≤ 100
/-- the next state -/
def nextSta (s : Sta) (aa l : Nat) : Sta where
  ls := s.ls.erase l
  H := upd s.H aa (s.H aa + s.H l)
  nm := upd s.nm aa (Txt.lower (markOf (s.cs.length + 1)))
  hs := hsTo s.hs (s.H aa + s.H l) (markOf (s.cs.length + 1)) 5
  tb := tbTo (upd s.tb aa (selD (addC (s.tb aa) (s.tb l)) (s.ls.erase l) aa)) (s.ls.erase l) aa l (s.ls.erase l).length
  cs := s.cs ++ [sumOf (s.tb l)]
abbrev PS (x : Ad) (s : Sta) : MM := PW x s.cs s.ls s.H s.nm s.hs s.tb
section
variable {w : World} {A : Around} {L a : Addr} {cd : Value} {h0 : Heap} {F0 : FH} {mg mb : Str → Option Value} {Q : OQ}
variable {R : Nat → Row} {x : Ad}
theorem turn_run (c : COk (LC w A L a cd h0 F0) mg mb 3) {s : Sta} {v0 : Nat} {pre : List Nat} {aa l : Nat} (T : TurnOk R s v0 pre aa l) (k : ∀ δ', Cov δ' (VW R x) → Q .next δ' (PS x (nextSta s aa l))) :
    Run (LC w A L a cd h0 F0) (VW R x) (PS x s) (whBody S17p.1) Q := by
  obtain ⟨r, hls⟩ := T.head
  have hv0 : v0 ∈ s.ls := by rw [hls]; exact List.Mem.head _
  have hl5 := T.h5 l T.hla
  have ha5 := T.h5 aa T.ha
  have hpre : pre.length ≤ 5 := by
    obtain ⟨ok, _⟩ := maIt_ok T.hn hv0 T.hnk T.hlk T.hsz (s.ls.length - 1) (by have := List.length_pos_of_mem hv0; omega)
    have h1 := ok.len
    rw [T.hod, List.length_append] at h1
    have := T.hl
    simp only [List.length_cons, List.length_nil] at h1
    omega
  have hcs := T.hcs
  refine Run.cons (bo0 c T.h5 T.hl T.hH T.hHH T.hdue fun δ1 hc => ?_)
  refine Run.cov hc (Run.cons (bo1 c hls fun oa => ?_))
  refine Run.cons (bo2 c hls (T.h5 v0 hv0) ?_)
  refine Run.cons (bo3 c T.h5 T.hl T.hn hv0 T.hnk T.hlk T.hsz fun δ2 nr hc => ?_)
  rw [T.hod]
  refine Run.cov hc (Run.cons (bo4 c hpre fun δ3 hc => ?_))
  refine Run.cov hc (Run.cons (bo5 c hpre fun δ4 hc => ?_))
  refine Run.drop (List.sublist_cons_self _ _) (Run.cov hc ?_)
  refine Run.cons (bo6 c hl5 (by omega) ?_)
  refine Run.cons (bo7 c hl5 ?_)
  refine Run.cons (bo8 c T.h5 T.hl fun δ5 hc => ?_)
  have hsl : (sidesTo s.H l aa s.ls).length ≤ 32 := by
    have h1 := sides_len s.H l aa s.ls [s.H l]
    have h3 : 2 ^ s.ls.length ≤ 2 ^ 5 := Nat.pow_le_pow_right (by decide) T.hl
    unfold sidesTo
    simp only [List.length_cons, List.length_nil, Nat.zero_add, Nat.one_mul] at h1
    omega
  refine Run.cov hc (Run.cons (bo9 c T.hss hsl T.hm T.hle (by omega) ?_))
  refine Run.cons (bo10 c hl5 T.hdm T.hsum ?_)
  refine Run.cov (δ' := VL R x aa l) ⟨rfl, rfl, rfl, rfl, rfl, rfl, rfl, rfl, rfl, rfl, trivial⟩ ?_
  refine Run.cons (bo11 (V := []) c (p := s.cs.length + 1) (by simp) (Nat.succ_pos _) (by omega) ?_)
  refine Run.cons (bo12 c ha5 hl5 ?_)
  have hmk : (markOf (s.cs.length + 1)).length = 2 := rfl
  refine Run.cons (bo13 c ha5 (fun i hi => by rw [hmk]; exact Nat.le_trans (Nat.add_le_add_right (T.hhs i hi) 2) (by decide)) fun δ6 hc => ?_)
  have hHa : upd s.H aa (s.H aa + s.H l) aa = s.H aa + s.H l := if_pos rfl
  rw [hHa]
  refine Run.cov hc (Run.cons (bo14 c (by omega) ha5 ?_))
  refine Run.cons (bo15 c T.hla T.hl ?_)
  have hla : (s.ls.erase l).length ≤ 5 := by rw [List.length_erase_of_mem T.hla]; have := T.hl; omega
  have hsub : ∀ u ∈ s.ls.erase l, u ∈ s.ls ∧ u ≠ l := fun u hu => ⟨List.mem_of_mem_erase hu, fun z => by
    rw [z] at hu; exact (List.Nodup.not_mem_erase T.hn) hu⟩
  refine Run.cons (bo16 c ha5 hl5 (Nat.le_trans (Nat.add_le_add (T.hsz aa T.ha) (T.hsz l T.hla)) (by decide)) ?_)
  refine Run.cons (bo17 c ha5 hla (fun u hu hne => ?_) ?_)
  · obtain ⟨h1, h2⟩ := hsub u hu
    rw [(vl_addC (T.hnk aa T.ha) (T.hnk l T.hla) _).2, T.hlk aa T.ha u h1 hne]; rfl
  refine Run.cov (δ' := VL R x aa l) ⟨rfl, rfl, rfl, rfl, rfl, rfl, rfl, rfl, rfl, rfl, trivial⟩ ?_
  refine Run.cons (bo18 c (fun v hv => T.h5 v (hsub v hv).1) (T.hn.erase l) hla (fun v hv hne => ?_) fun δ7 hc => Run.nil (k _ hc))
  obtain ⟨h1, h2⟩ := hsub v hv
  have e : upd s.tb aa (selD (addC (s.tb aa) (s.tb l)) (s.ls.erase l) aa) v = s.tb v := if_neg hne
  rw [e]
  exact ⟨T.hlk v h1 l T.hla fun z => h2 z.symm, fun u hu huv => T.hlk v h1 u (hsub u hu).1 huv⟩
end
end Mine

namespace Mine
/-- a sum over all pairs of a list -/
def ps (F : Nat → Nat → Int) : List Nat → Int
  | [] => 0
  | x :: r => (r.map (F x)).sum + ps F r
theorem ps_cons (F : Nat → Nat → Int) (x : Nat) (r : List Nat) : ps F (x :: r) = (r.map (F x)).sum + ps F r := rfl
theorem sum_perm {l l' : List Int} (h : l.Perm l') : l.sum = l'.sum := by
  induction h with
  | nil => rfl
  | cons x _ ih => simp [ih]
  | swap x y l => simp; omega
  | trans _ _ ih1 ih2 => exact ih1.trans ih2
theorem ps_perm {F : Nat → Nat → Int} (hF : ∀ x y, F x y = F y x) {l l' : List Nat} (h : l.Perm l') : ps F l = ps F l' := by
  induction h with
  | nil => rfl
  | cons x p ih => rw [ps_cons, ps_cons, ih, sum_perm (p.map (F x))]
  | swap x y l =>
    simp only [ps_cons, List.map_cons, List.sum_cons]
    rw [hF x y]; omega
  | trans _ _ ih1 ih2 => exact ih1.trans ih2
theorem ps_snoc (F : Nat → Nat → Int) (u : Nat) : ∀ (p : List Nat), ps F (p ++ [u]) = ps F p + (p.map fun x => F x u).sum
  | [] => by simp [ps]
  | x :: p => by
    rw [List.cons_append, ps_cons, ps_cons, ps_snoc F u p, List.map_append, List.sum_append]
    simp only [List.map_cons, List.map_nil, List.sum_cons, List.sum_nil]
    omega
theorem ps_congr {F G : Nat → Nat → Int} : ∀ {l : List Nat}, l.Nodup → (∀ x ∈ l, ∀ y ∈ l, x ≠ y → F x y = G x y) → ps F l = ps G l
  | [], _, _ => rfl
  | x :: r, hn, h => by
    rw [List.nodup_cons] at hn
    rw [ps_cons, ps_cons, ps_congr hn.2 fun a ha b hb => h a (.tail _ ha) b (.tail _ hb)]
    congr 2
    exact List.map_congr_left fun y hy => h x (.head _) y (.tail _ hy) fun z => hn.1 (z ▸ hy)
theorem ps_zero : ∀ (l : List Nat), ps (fun _ _ => 0) l = 0
  | [] => rfl
  | x :: r => by
    rw [ps_cons, ps_zero r]
    have : ∀ r : List Nat, (r.map fun _ => (0 : Int)).sum = 0 := fun r => by
      induction r with
      | nil => rfl
      | cons _ _ ih => simp [ih]
    rw [this]; rfl
theorem sum_congr {F G : Nat → Int} {l : List Nat} (h : ∀ x ∈ l, F x = G x) : (l.map F).sum = (l.map G).sum := by rw [List.map_congr_left h]
theorem sum_add (F G : Nat → Int) : ∀ l : List Nat, (l.map fun x => F x + G x).sum = (l.map F).sum + (l.map G).sum
  | [] => rfl
  | x :: l => by simp only [List.map_cons, List.sum_cons, sum_add F G l]; omega
theorem sum_le {F G : Nat → Int} : ∀ {l : List Nat}, (∀ x ∈ l, F x ≤ G x) → (l.map F).sum ≤ (l.map G).sum
  | [], _ => Int.le_refl _
  | x :: l, h => by
    have h1 := h x (.head _)
    have h2 := sum_le (l := l) fun y hy => h y (.tail _ hy)
    simp only [List.map_cons, List.sum_cons]; omega
theorem sum_nonneg {F : Nat → Int} : ∀ {l : List Nat}, (∀ x ∈ l, 0 ≤ F x) → 0 ≤ (l.map F).sum
  | [], _ => Int.le_refl _
  | x :: l, h => by
    have h1 := h x (.head _)
    have h2 := sum_nonneg (l := l) fun y hy => h y (.tail _ hy)
    simp only [List.map_cons, List.sum_cons]; omega
/-- a parting's weight -/
def eW (ω : Nat → Nat → Int) (χ : Nat → Bool) (x y : Nat) : Int := if χ x = χ y then 0 else ω x y
def cutW (ω : Nat → Nat → Int) (ls : List Nat) (χ : Nat → Bool) : Int := ps (eW ω χ) ls
def one (u : Nat) : Nat → Bool := fun v => v == u
theorem eW_same {ω : Nat → Nat → Int} {χ : Nat → Bool} {x y : Nat} (h : χ x = χ y) : eW ω χ x y = 0 := if_pos h
theorem one_ne {u x : Nat} (h : x ≠ u) : one u x = false := by unfold one; rw [beq_eq_false_iff_ne.mpr h]
theorem eW_symm {ω : Nat → Nat → Int} (h : ∀ x y, ω x y = ω y x) (χ : Nat → Bool) (x y : Nat) : eW ω χ x y = eW ω χ y x := by
  unfold eW
  by_cases q : χ x = χ y
  · rw [if_pos q, if_pos q.symm]
  · rw [if_neg q, if_neg fun z => q z.symm, h]
theorem eW_nonneg {ω : Nat → Nat → Int} (h : ∀ x y, 0 ≤ ω x y) (χ : Nat → Bool) (x y : Nat) : 0 ≤ eW ω χ x y := by
  unfold eW; split
  · exact Int.le_refl _
  · exact h x y
def maskS (H : Nat → Nat) (ls : List Nat) (χ : Nat → Bool) : Nat := (ls.map fun v => if χ v = true then H v else 0).sum
theorem nsum_perm {l l' : List Nat} (h : l.Perm l') : l.sum = l'.sum := by
  induction h with
  | nil => rfl
  | cons x _ ih => simp [ih]
  | swap x y l => simp; omega
  | trans _ _ ih1 ih2 => exact ih1.trans ih2
theorem maskS_perm {H : Nat → Nat} {l l' : List Nat} (h : l.Perm l') (χ : Nat → Bool) : maskS H l χ = maskS H l' χ := nsum_perm (h.map _)
theorem maskS_cons (H : Nat → Nat) (x : Nat) (r : List Nat) (χ : Nat → Bool) : maskS H (x :: r) χ = (if χ x = true then H x else 0) + maskS H r χ := by simp [maskS]
theorem maskS_congr {H G : Nat → Nat} {l : List Nat} {χ ξ : Nat → Bool} (h : ∀ v ∈ l, χ v = ξ v ∧ H v = G v) : maskS H l χ = maskS G l ξ := by
  unfold maskS
  congr 1
  exact List.map_congr_left fun v hv => by rw [(h v hv).1, (h v hv).2]
theorem maskS_none {H : Nat → Nat} {l : List Nat} {χ : Nat → Bool} (h : ∀ v ∈ l, χ v = false) : maskS H l χ = 0 := by
  induction l with
  | nil => rfl
  | cons x l ih => rw [maskS_cons, ih fun v hv => h v (.tail _ hv), h x (.head _)]; rfl
theorem maskS_le (H : Nat → Nat) (χ : Nat → Bool) : ∀ l : List Nat, maskS H l χ ≤ (l.map H).sum
  | [] => Nat.le_refl _
  | x :: l => by
    have := maskS_le H χ l
    rw [maskS_cons, List.map_cons, List.sum_cons]
    split <;> omega
theorem perm1 {l : List Nat} {u : Nat} (hu : u ∈ l) : l.Perm (u :: l.erase u) := List.perm_cons_erase hu
theorem perm2 {l : List Nat} (hn : l.Nodup) {u v : Nat} (hu : u ∈ l) (hv : v ∈ l) (h : u ≠ v) : l.Perm (u :: v :: (l.erase u).erase v) := by
  have hv' : v ∈ l.erase u := (List.mem_erase_of_ne (fun z => h z.symm)).mpr hv
  exact (perm1 hu).trans ((perm1 hv').cons u)
theorem rest2 {l : List Nat} (hn : l.Nodup) {u v y : Nat} (hy : y ∈ (l.erase u).erase v) : y ∈ l ∧ y ≠ u ∧ y ≠ v := by
  have h1 := List.mem_of_mem_erase hy
  refine ⟨List.mem_of_mem_erase h1, fun z => ?_, fun z => ?_⟩
  · subst z; exact List.Nodup.not_mem_erase hn h1
  · subst z; exact List.Nodup.not_mem_erase (hn.erase u) hy
theorem rest1 {l : List Nat} (hn : l.Nodup) {u y : Nat} (hy : y ∈ l.erase u) : y ∈ l ∧ y ≠ u := by
  refine ⟨List.mem_of_mem_erase hy, fun z => ?_⟩
  subst z; exact List.Nodup.not_mem_erase hn hy
theorem maskS_set {H : Nat → Nat} {l : List Nat} (hn : l.Nodup) {v : Nat} (hv : v ∈ l) {χ : Nat → Bool} (hχ : χ v = false) : maskS H l (upd χ v true) = maskS H l χ + H v := by
  rw [maskS_perm (perm1 hv), maskS_perm (perm1 hv) χ, maskS_cons, maskS_cons, hχ]
  have e : maskS H (l.erase v) (upd χ v true) = maskS H (l.erase v) χ := maskS_congr fun y hy => ⟨if_neg (rest1 hn hy).2, rfl⟩
  have e2 : upd χ v true v = true := if_pos rfl
  rw [e, e2]
  simp; omega
theorem maskS_one {H : Nat → Nat} {l : List Nat} (hn : l.Nodup) {u : Nat} (hu : u ∈ l) : maskS H l (one u) = H u := by
  rw [maskS_perm (perm1 hu), maskS_cons, maskS_none fun v hv => by simpa [one] using (rest1 hn hv).2]
  simp [one]
theorem maskS_two {H : Nat → Nat} {l : List Nat} (hn : l.Nodup) {u v : Nat} (hu : u ∈ l) (hv : v ∈ l) (h : u ≠ v) : maskS H l (upd (one u) v true) = H u + H v := by
  rw [maskS_set hn hv (by simpa [one] using fun z : v = u => h z.symm), maskS_one hn hu]
theorem pair_le {H : Nat → Nat} {l : List Nat} (hn : l.Nodup) {u v : Nat} (hu : u ∈ l) (hv : v ∈ l) (h : u ≠ v) : H u + H v ≤ (l.map H).sum := by
  rw [← maskS_two hn hu hv h]; exact maskS_le _ _ _
/-- the weight of one -/
theorem cut_one {ω : Nat → Nat → Int} (hs : ∀ x y, ω x y = ω y x) {l : List Nat} (hn : l.Nodup) {u : Nat} (hu : u ∈ l) : cutW ω l (one u) = ((l.erase u).map (ω u)).sum := by
  unfold cutW
  rw [ps_perm (eW_symm hs _) (perm1 hu), ps_cons]
  have e1 : ((l.erase u).map (eW ω (one u) u)).sum = ((l.erase u).map (ω u)).sum := sum_congr fun y hy => by
    have := (rest1 hn hy).2
    simp [eW, one, this]
  have e2 : ps (eW ω (one u)) (l.erase u) = 0 := by
    rw [ps_congr (G := fun _ _ => 0) (hn.erase u) fun x hx y hy _ => ?_, ps_zero]
    have h1 := (rest1 hn hx).2
    have h2 := (rest1 hn hy).2
    exact eW_same ((one_ne h1).trans (one_ne h2).symm)
  rw [e1, e2]; omega
theorem cut_two {ω : Nat → Nat → Int} (hs : ∀ x y, ω x y = ω y x) {l : List Nat} (hn : l.Nodup) {u v : Nat} (hu : u ∈ l) (hv : v ∈ l) (h : u ≠ v) :
    cutW ω l (one u) + cutW ω l (one v) - cutW ω l (upd (one u) v true) = 2 * ω v u := by
  have hp := perm2 hn hu hv h
  have hr : ∀ y ∈ (l.erase u).erase v, y ≠ u ∧ y ≠ v := fun y hy => (rest2 hn hy).2
  have hne : ¬ v = u := fun z => h z.symm
  have key : ∀ χ : Nat → Bool, (∀ y ∈ (l.erase u).erase v, χ y = false) → cutW ω l χ = eW ω χ u v + (((l.erase u).erase v).map (eW ω χ u)).sum + (((l.erase u).erase v).map (eW ω χ v)).sum := by
    intro χ hχ
    unfold cutW
    rw [ps_perm (eW_symm hs _) hp, ps_cons, ps_cons, List.map_cons, List.sum_cons]
    have e2 : ps (eW ω χ) ((l.erase u).erase v) = 0 := by
      rw [ps_congr (G := fun _ _ => 0) ((hn.erase u).erase v) fun x hx y hy _ => ?_, ps_zero]
      simp [eW, hχ x hx, hχ y hy]
    rw [e2]; omega
  rw [key (one u) fun y hy => by simpa [one] using (hr y hy).1, key (one v) fun y hy => by simpa [one] using (hr y hy).2, key (upd (one u) v true) fun y hy => by
    unfold upd; rw [if_neg (hr y hy).2]; simpa [one] using (hr y hy).1]
  have a1 : eW ω (one u) u v = ω u v := by simp [eW, one, h, hne]
  have a2 : eW ω (one v) u v = ω u v := by simp [eW, one, h, hne]
  have a3 : eW ω (upd (one u) v true) u v = 0 := by simp [eW, upd, one, h]
  have b1 : (((l.erase u).erase v).map (eW ω (one u) u)).sum = (((l.erase u).erase v).map (ω u)).sum := sum_congr fun y hy => by have := hr y hy; simp [eW, one, this.1]
  have b2 : (((l.erase u).erase v).map (eW ω (one u) v)).sum = 0 := by
    rw [sum_congr (G := fun _ => 0) fun y hy => eW_same ((one_ne hne).trans (one_ne (hr y hy).1).symm)]
    generalize (l.erase u).erase v = r
    induction r with
    | nil => rfl
    | cons _ _ ih => simp [ih]
  have b3 : (((l.erase u).erase v).map (eW ω (one v) u)).sum = 0 := by
    rw [sum_congr (G := fun _ => 0) fun y hy => eW_same ((one_ne h).trans (one_ne (hr y hy).2).symm)]
    generalize (l.erase u).erase v = r
    induction r with
    | nil => rfl
    | cons _ _ ih => simp [ih]
  have b4 : (((l.erase u).erase v).map (eW ω (one v) v)).sum = (((l.erase u).erase v).map (ω v)).sum := sum_congr fun y hy => by have := hr y hy; simp [eW, one, this.2]
  have b5 : (((l.erase u).erase v).map (eW ω (upd (one u) v true) u)).sum = (((l.erase u).erase v).map (ω u)).sum := sum_congr fun y hy => by have := hr y hy; simp [eW, upd, one, this.1, this.2]
  have b6 : (((l.erase u).erase v).map (eW ω (upd (one u) v true) v)).sum = (((l.erase u).erase v).map (ω v)).sum := sum_congr fun y hy => by have := hr y hy; simp [eW, upd, one, this.1, this.2]
  rw [a1, a2, a3, b1, b2, b3, b4, b5, b6, hs v u]
  omega
/-- two are made one -/
def glue (ω : Nat → Nat → Int) (aa l : Nat) (x y : Nat) : Int := if x = aa then ω aa y + ω l y else if y = aa then ω x aa + ω x l else ω x y
theorem cut_glue {ω : Nat → Nat → Int} (hs : ∀ x y, ω x y = ω y x) {ls : List Nat} (hn : ls.Nodup) {aa l : Nat} (ha : aa ∈ ls) (hl : l ∈ ls) (h : aa ≠ l) {χ ξ : Nat → Bool} (h1 : ξ l = ξ aa) (h2 : ∀ v ∈ ls.erase l, χ v = ξ v) :
    cutW (glue ω aa l) (ls.erase l) χ = cutW ω ls ξ := by
  have hp := perm2 hn hl ha fun z => h z.symm
  have ha' : aa ∈ ls.erase l := (List.mem_erase_of_ne h).mpr ha
  have hsg : ∀ x y, glue ω aa l x y = glue ω aa l y x ∨ (x = aa ∧ y = aa) := by
    intro x y
    by_cases hx : x = aa <;> by_cases hy : y = aa
    · exact .inr ⟨hx, hy⟩
    · left; simp only [glue, hx, hy, if_true, if_false]; rw [hs aa y, hs l y]
    · left; simp only [glue, hx, hy, if_true, if_false]; rw [hs x aa, hs x l]
    · left; simp only [glue, hx, hy, if_false]; exact hs x y
  have hse : ∀ x y, eW (glue ω aa l) χ x y = eW (glue ω aa l) χ y x := by
    intro x y
    unfold eW
    by_cases q : χ x = χ y
    · rw [if_pos q, if_pos q.symm]
    · rw [if_neg q, if_neg fun z => q z.symm]
      rcases hsg x y with e | ⟨rfl, rfl⟩
      · exact e
      · rfl
  unfold cutW
  rw [ps_perm (eW_symm hs _) hp, ps_perm hse (perm1 ha'), ps_cons, ps_cons, ps_cons, List.map_cons, List.sum_cons]
  have e0 : eW ω ξ l aa = 0 := by simp [eW, h1]
  have e1 : (((ls.erase l).erase aa).map (eW (glue ω aa l) χ aa)).sum = (((ls.erase l).erase aa).map (eW ω ξ l)).sum + (((ls.erase l).erase aa).map (eW ω ξ aa)).sum := by
    rw [← sum_add]
    refine sum_congr fun y hy => ?_
    obtain ⟨_, hyl, hya⟩ := rest2 hn hy
    have hy1 : y ∈ ls.erase l := List.mem_of_mem_erase hy
    unfold eW glue
    rw [h2 aa ha', h2 y hy1, h1]
    by_cases q : ξ aa = ξ y
    · simp [q]
    · simp only [if_neg q, if_true]; omega
  have e2 : ps (eW (glue ω aa l) χ) ((ls.erase l).erase aa) = ps (eW ω ξ) ((ls.erase l).erase aa) := by
    refine ps_congr ((hn.erase l).erase aa) fun x hx y hy _ => ?_
    obtain ⟨_, _, hxa⟩ := rest2 hn hx
    obtain ⟨_, _, hya⟩ := rest2 hn hy
    unfold eW glue
    rw [h2 x (List.mem_of_mem_erase hx), h2 y (List.mem_of_mem_erase hy), if_neg hxa, if_neg hya]
  rw [e0, e1, e2]; omega
theorem mask_glue {H : Nat → Nat} {ls : List Nat} (hn : ls.Nodup) {aa l : Nat} (ha : aa ∈ ls) (hl : l ∈ ls) (h : aa ≠ l) {χ ξ : Nat → Bool} (h1 : ξ l = ξ aa) (h2 : ∀ v ∈ ls.erase l, χ v = ξ v) :
    maskS (upd H aa (H aa + H l)) (ls.erase l) χ = maskS H ls ξ := by
  have hp := perm2 hn hl ha fun z => h z.symm
  have ha' : aa ∈ ls.erase l := (List.mem_erase_of_ne h).mpr ha
  rw [maskS_perm hp, maskS_perm (perm1 ha'), maskS_cons, maskS_cons, maskS_cons, h2 aa ha', h1]
  have e : maskS (upd H aa (H aa + H l)) ((ls.erase l).erase aa) χ = maskS H ((ls.erase l).erase aa) ξ := maskS_congr fun y hy => ⟨h2 y (List.mem_of_mem_erase hy), if_neg (rest2 hn hy).2.2⟩
  have e2 : upd H aa (H aa + H l) aa = H aa + H l := if_pos rfl
  rw [e, e2]
  split <;> omega
end Mine

namespace Mine
theorem best_max (od : List Nat) (nr : List (Int × Int)) : ∀ (l : List Nat) (b : Int), (0 ≤ b → vl nr b ≤ vl nr (l.foldl (bestI od nr) b) ∧ 0 ≤ l.foldl (bestI od nr) b) ∧ ∀ v ∈ l, v ∉ od → vl nr (v : Int) ≤ vl nr (l.foldl (bestI od nr) b)
  | [], b => ⟨fun h => ⟨Int.le_refl _, h⟩, fun v hv => by cases hv⟩
  | v :: l, b => by
    rw [List.foldl_cons]
    obtain ⟨i1, i2⟩ := best_max od nr l (bestI od nr b v)
    by_cases q : (!((natL od).any (· == (v : Int))) && (decide (b < 0) || decide (vl nr b < vl nr (v : Int)))) = true
    · have e : bestI od nr b v = (v : Int) := by unfold bestI; rw [if_pos q]
      rw [e] at i1 i2 ⊢
      obtain ⟨j1, j2⟩ := i1 (Int.natCast_nonneg v)
      rw [Bool.and_eq_true] at q
      refine ⟨fun hb => ⟨?_, j2⟩, fun u hu huo => ?_⟩
      · have := q.2
        have hb' : decide (b < 0) = false := decide_eq_false (by omega)
        rw [hb', Bool.false_or] at this
        have := of_decide_eq_true this
        omega
      · rcases List.mem_cons.mp hu with rfl | hu
        · exact j1
        · exact i2 u hu huo
    · have e : bestI od nr b v = b := by unfold bestI; rw [if_neg q]
      rw [e] at i1 i2 ⊢
      refine ⟨i1, fun u hu huo => ?_⟩
      rcases List.mem_cons.mp hu with rfl | hu
      · rw [natL_any] at q
        have hc : od.contains u = false := by simpa using huo
        rw [hc] at q
        simp only [Bool.not_false, Bool.true_and, Bool.or_eq_true, decide_eq_true_eq, not_or] at q
        have := (i1 (by omega)).1
        omega
      · exact i2 u hu huo
theorem pick_max (ls od : List Nat) (nr : List (Int × Int)) {u : Nat} (h : pick ls od nr = (u : Int)) : ∀ v ∈ ls, v ∉ od → vl nr (v : Int) ≤ vl nr (u : Int) := by
  intro v hv hvo
  have := (best_max od nr ls (-1)).2 v hv hvo
  rw [show ls.foldl (bestI od nr) (-1) = (u : Int) from h] at this
  exact this
section
variable {ω : Nat → Nat → Int} {χ : Nat → Bool}
theorem cut_snoc (p : List Nat) (u : Nat) : cutW ω (p ++ [u]) χ = cutW ω p χ + (p.map fun x => eW ω χ x u).sum := ps_snoc _ _ _
theorem cross (hnn : ∀ x y, 0 ≤ ω x y) {q b : List Nat} {κ : Bool} {u : Nat} (hb : ∀ x ∈ b, χ x = κ) (hu : χ u ≠ κ) (hq : (q.map fun x => ω x u).sum ≤ cutW ω (q ++ b) χ) : ((q ++ b).map fun x => ω x u).sum ≤ cutW ω ((q ++ b) ++ [u]) χ := by
  rw [cut_snoc, List.map_append, List.sum_append, List.map_append, List.sum_append]
  have h1 : 0 ≤ (q.map fun x => eW ω χ x u).sum := sum_nonneg fun x _ => eW_nonneg hnn χ x u
  have h2 : (b.map fun x => eW ω χ x u).sum = (b.map fun x => ω x u).sum := sum_congr fun x hx => by
    unfold eW; rw [if_neg (by rw [hb x hx]; exact fun z => hu z.symm)]
  omega
/-- what holds while the order grows -/
def SW (ω : Nat → Nat → Int) (χ : Nat → Bool) (ls od : List Nat) : Prop := ∃ (q b : List Nat) (κ : Bool), od = q ++ b ∧ b ≠ [] ∧ (∀ x ∈ b, χ x = κ) ∧ ∀ u ∈ ls, u ∉ od → (q.map fun x => ω x u).sum ≤ cutW ω od χ
theorem sw_run (hnn : ∀ x y, 0 ≤ ω x y) {ls : List Nat} {tb : Nat → List (Int × Int)} {v0 : Nat} (hn : ls.Nodup) (h0 : v0 ∈ ls) (hnk : ∀ v ∈ ls, NK (tb v)) (hlk : ∀ v ∈ ls, ∀ u ∈ ls, u ≠ v → (lookI (tb v) (u : Int)).isSome = true) (hsz : ∀ v ∈ ls, (tb v).length ≤ 5)
    (hT : ∀ v ∈ ls, ∀ u ∈ ls, u ≠ v → vl (tb v) (u : Int) = ω v u) : ∀ j, j + 1 ≤ ls.length → SW ω χ ls (maIt ls tb v0 j).1
  | 0, h => ⟨[], [v0], χ v0, rfl, by simp, fun x hx => by rw [List.mem_singleton.mp hx], fun u _ _ => by simp [maIt, cutW, ps]⟩
  | j + 1, h => by
    obtain ⟨q, b, κ, e, hb, hκ, hq⟩ := sw_run hnn hn h0 hnk hlk hsz hT j (by omega)
    obtain ⟨ok, hp⟩ := maIt_ok hn h0 hnk hlk hsz j (by omega)
    obtain ⟨u, hu, huo, hpu⟩ := hp (by omega)
    have e1 : (maIt ls tb v0 (j + 1)).1 = (maIt ls tb v0 j).1 ++ [u] := by
      show (maIt ls tb v0 j).1 ++ [(pick ls (maIt ls tb v0 j).1 (maIt ls tb v0 j).2).toNat] = _
      rw [hpu]; rfl
    have hmax := pick_max ls _ _ hpu
    have hval : ∀ k ∈ ls, k ∉ (maIt ls tb v0 j).1 → vl (maIt ls tb v0 j).2 (k : Int) = ((maIt ls tb v0 j).1.map fun x => ω x k).sum := fun k hk hko => by
      rw [ok.val]
      exact sum_congr fun x hx => hT x (ok.mem x hx) k hk fun z => hko (z ▸ hx)
    rw [e1]
    generalize (maIt ls tb v0 j).1 = od at *
    generalize (maIt ls tb v0 j).2 = nr at *
    subst e
    have hmono : cutW ω (q ++ b) χ ≤ cutW ω ((q ++ b) ++ [u]) χ := by
      rw [cut_snoc]
      have : 0 ≤ ((q ++ b).map fun x => eW ω χ x u).sum := sum_nonneg fun x _ => eW_nonneg hnn χ x u
      omega
    by_cases hc : χ u = κ
    · refine ⟨q, b ++ [u], κ, by rw [List.append_assoc], by simp, fun x hx => ?_, fun k hk hko => ?_⟩
      · rcases List.mem_append.mp hx with hx | hx
        · exact hκ x hx
        · rw [List.mem_singleton.mp hx]; exact hc
      · exact Int.le_trans (hq k hk fun z => hko (List.mem_append_left _ z)) hmono
    · refine ⟨q ++ b, [u], χ u, rfl, by simp, fun x hx => by rw [List.mem_singleton.mp hx], fun k hk hko => ?_⟩
      have hko' : k ∉ q ++ b := fun z => hko (List.mem_append_left _ z)
      have h1 := hmax k hk hko'
      rw [hval k hk hko', hval u hu huo] at h1
      exact Int.le_trans h1 (cross hnn hκ hc (hq u hu huo))
theorem perm_full {ls od : List Nat} (hn : ls.Nodup) (hn' : od.Nodup) (hs : ∀ v ∈ od, v ∈ ls) (hl : ls.length ≤ od.length) : ls.Perm od := by
  refine (List.perm_ext_iff_of_nodup hn hn').mpr fun v => ⟨fun hv => Classical.byContradiction fun hc => ?_, hs v⟩
  have := pigeon (v :: od) ls (List.nodup_cons.mpr ⟨hc, hn'⟩) fun u hu => by
    rcases List.mem_cons.mp hu with rfl | hu
    · exact hv
    · exact hs u hu
  simp only [List.length_cons] at this
  omega
/-- the last one's cut is least -/
theorem sw_cut (hs : ∀ x y, ω x y = ω y x) (hnn : ∀ x y, 0 ≤ ω x y) {ls : List Nat} {tb : Nat → List (Int × Int)} {v0 : Nat} (hn : ls.Nodup) (h0 : v0 ∈ ls) (hnk : ∀ v ∈ ls, NK (tb v)) (hlk : ∀ v ∈ ls, ∀ u ∈ ls, u ≠ v → (lookI (tb v) (u : Int)).isSome = true) (hsz : ∀ v ∈ ls, (tb v).length ≤ 5)
    (hT : ∀ v ∈ ls, ∀ u ∈ ls, u ≠ v → vl (tb v) (u : Int) = ω v u) (h2 : 2 ≤ ls.length) : ∃ pre aa l, (maIt ls tb v0 (ls.length - 1)).1 = pre ++ [aa, l] ∧ aa ∈ ls ∧ l ∈ ls ∧ aa ≠ l ∧ ∀ χ : Nat → Bool, χ l ≠ χ aa → ((ls.erase l).map (ω l)).sum ≤ cutW ω ls χ := by
  obtain ⟨ok, hp⟩ := maIt_ok hn h0 hnk hlk hsz (ls.length - 2) (by omega)
  obtain ⟨l, hl, hlo, hpl⟩ := hp (by omega)
  have ej : ls.length - 1 = (ls.length - 2) + 1 := by omega
  have e1 : (maIt ls tb v0 (ls.length - 1)).1 = (maIt ls tb v0 (ls.length - 2)).1 ++ [l] := by
    rw [ej]
    show (maIt ls tb v0 (ls.length - 2)).1 ++ [(pick ls (maIt ls tb v0 (ls.length - 2)).1 (maIt ls tb v0 (ls.length - 2)).2).toNat] = _
    rw [hpl]; rfl
  have hne : (maIt ls tb v0 (ls.length - 2)).1 ≠ [] := fun z => by have := ok.len; rw [z] at this; simp at this
  obtain ⟨pre, aa, hpa⟩ : ∃ pre aa, (maIt ls tb v0 (ls.length - 2)).1 = pre ++ [aa] := ⟨_, _, (List.dropLast_concat_getLast hne).symm⟩
  refine ⟨pre, aa, l, by rw [e1, hpa]; simp, ok.mem aa (by rw [hpa]; simp), hl, fun z => hlo (by rw [hpa, ← z]; simp), fun χ hχ => ?_⟩
  obtain ⟨q, b, κ, e, hb, hκ, hq⟩ := sw_run (χ := χ) hnn hn h0 hnk hlk hsz hT (ls.length - 2) (by omega)
  have hka : χ aa = κ := by
    obtain ⟨b0, y, rfl⟩ : ∃ b0 y, b = b0 ++ [y] := ⟨_, _, (List.dropLast_concat_getLast hb).symm⟩
    rw [hpa, ← List.append_assoc] at e
    have := (List.append_inj' e rfl).2
    simp at this
    rw [this]
    exact hκ y (by simp)
  have hperm : ls.Perm ((maIt ls tb v0 (ls.length - 2)).1 ++ [l]) := by
    refine perm_full hn ?_ (fun v hv => ?_) ?_
    · rw [List.nodup_append]
      exact ⟨ok.nd, by simp, fun x hx y hy z => hlo (by rw [List.mem_singleton.mp hy] at z; exact z ▸ hx)⟩
    · rcases List.mem_append.mp hv with hv | hv
      · exact ok.mem v hv
      · rw [List.mem_singleton.mp hv]; exact hl
    · rw [List.length_append, ok.len]; simp; omega
  have h3 : cutW ω ls χ = cutW ω ((maIt ls tb v0 (ls.length - 2)).1 ++ [l]) χ := ps_perm (eW_symm hs χ) hperm
  have h4 : (ls.erase l).Perm (maIt ls tb v0 (ls.length - 2)).1 := by
    have := (perm1 hl).symm.trans (hperm.trans List.perm_append_comm)
    exact this.cons_inv
  have h5 : ((ls.erase l).map (ω l)).sum = ((maIt ls tb v0 (ls.length - 2)).1.map fun x => ω x l).sum := by
    rw [sum_perm (h4.map (ω l))]
    exact sum_congr fun x _ => hs l x
  rw [h3, h5, e]
  refine cross hnn hκ (fun z => hχ (z.trans hka.symm)) ?_
  rw [← e]; exact hq l hl hlo
end
end Mine

namespace Mine
/-- a host with its marks -/
def hostA (s : Str) (p : Nat) : List Bool → Str
  | [] => s
  | b :: r => hostA (if b = true then s ++ markOf p else s) (p + 1) r
def hostS (i : Nat) (bl : List Bool) : Str := hostA (host0 i) 1 bl
theorem hostA_snoc (b : Bool) : ∀ (bl : List Bool) (s : Str) (p : Nat), hostA s p (bl ++ [b]) = if b = true then hostA s p bl ++ markOf (p + bl.length) else hostA s p bl
  | [], s, p => by cases b <;> rfl
  | c :: r, s, p => by
    rw [List.cons_append]
    unfold hostA
    rw [hostA_snoc b r, List.length_cons]
    have : p + 1 + r.length = p + (r.length + 1) := by omega
    rw [this]
theorem hostS_snoc (i : Nat) (bl : List Bool) (b : Bool) : hostS i (bl ++ [b]) = if b = true then hostS i bl ++ markOf (bl.length + 1) else hostS i bl := by
  unfold hostS
  rw [hostA_snoc, Nat.add_comm 1 bl.length]
def boolLists : Nat → List (List Bool)
  | 0 => [[]]
  | k + 1 => (boolLists k).flatMap fun r => [true :: r, false :: r]
theorem mem_boolLists : ∀ (bl : List Bool), bl ∈ boolLists bl.length
  | [] => List.Mem.head _
  | b :: r => by
    refine List.mem_flatMap.mpr ⟨r, mem_boolLists r, ?_⟩
    cases b <;> simp
def chk (k : Nat) : Bool := (boolLists k).all fun bl => (List.range 5).all fun i => decide ((hostS i bl).length ≤ 100) &&
  ((List.range 5).all fun v => dmOk (hostS i bl) (name0 v) && (dmOf (hostS i bl) (name0 v) == ((i == v) && bl.all (!·)))) &&
  ((List.range k).all fun p => dmOk (hostS i bl) (Txt.lower (markOf (p + 1))) && (dmOf (hostS i bl) (Txt.lower (markOf (p + 1))) == bl.getD p false))
theorem chk0 : chk 0 = true := by decide +kernel
theorem chk1 : chk 1 = true := by decide +kernel
theorem chk2 : chk 2 = true := by decide +kernel
theorem chk3 : chk 3 = true := by decide +kernel
theorem chk_all {k : Nat} (h : k < 4) : chk k = true := by
  match k, h with
  | 0, _ => exact chk0
  | 1, _ => exact chk1
  | 2, _ => exact chk2
  | 3, _ => exact chk3
theorem chk_use {bl : List Bool} (h : bl.length < 4) {i : Nat} (hi : i < 5) : (hostS i bl).length ≤ 100 ∧ (∀ v, v < 5 → dmOk (hostS i bl) (name0 v) = true ∧ dmOf (hostS i bl) (name0 v) = ((i == v) && bl.all (!·))) ∧
    ∀ p, p < bl.length → dmOk (hostS i bl) (Txt.lower (markOf (p + 1))) = true ∧ dmOf (hostS i bl) (Txt.lower (markOf (p + 1))) = bl.getD p false := by
  have h1 := List.all_eq_true.mp (chk_all h) bl (mem_boolLists bl)
  have h2 := List.all_eq_true.mp h1 i (List.mem_range.mpr hi)
  rw [Bool.and_eq_true, Bool.and_eq_true] at h2
  obtain ⟨⟨a, b⟩, c⟩ := h2
  refine ⟨of_decide_eq_true a, fun v hv => ?_, fun p hp => ?_⟩
  · have := List.all_eq_true.mp b v (List.mem_range.mpr hv)
    rw [Bool.and_eq_true] at this
    exact ⟨this.1, by simpa using this.2⟩
  · have := List.all_eq_true.mp c p (List.mem_range.mpr hp)
    rw [Bool.and_eq_true] at this
    exact ⟨this.1, by simpa using this.2⟩
def bitsOf (h : Nat) : List Int := (List.range 5).filterMap fun i => if bitB h i = true then some ((2 : Int) ^ i) else none
theorem bits_sum : ∀ h : Fin 32, (bitsOf h.val).sum = ((h.val : Nat) : Int) := by decide +kernel
theorem bits_pow : ∀ v : Fin 5, ∀ i : Fin 5, bitB (2 ^ v.val) i.val = (i == v) := by decide +kernel
theorem bits_add : ∀ x y : Fin 32, (∀ i : Fin 5, ¬ (bitB x.val i.val = true ∧ bitB y.val i.val = true)) → ∀ i : Fin 5, bitB (x.val + y.val) i.val = (bitB x.val i.val || bitB y.val i.val) := by decide +kernel
end Mine

namespace Mine
/-- a table in the open -/
def tabF (ls : List Nat) (f : Nat → Int) : List (Int × Int) := ls.map fun (u : Nat) => (((u : Nat) : Int), f u)
theorem tabF_keys (f : Nat → Int) (ls : List Nat) : (tabF ls f).map (·.1) = natL ls := by
  unfold tabF natL; rw [List.map_map]; rfl
theorem natL_nodup {ls : List Nat} (h : ls.Nodup) : (natL ls).Nodup := by
  unfold natL
  exact List.pairwise_map.mpr (h.imp fun hab z => hab (by omega))
theorem tabF_NK (f : Nat → Int) {ls : List Nat} (h : ls.Nodup) : NK (tabF ls f) := by
  unfold NK; rw [tabF_keys]; exact natL_nodup h
theorem tabF_look (f : Nat → Int) : ∀ {ls : List Nat} {u : Nat}, u ∈ ls → lookI (tabF ls f) (u : Int) = some (f u)
  | v :: ls, u, h => by
    show lookI ((((v : Nat) : Int), f v) :: tabF ls f) (u : Int) = _
    rw [lookI_cons]
    by_cases e : v = u
    · subst e; simp
    · have e' : ¬ (((v : Nat) : Int) = ((u : Nat) : Int)) := by omega
      simp only [if_neg e']
      rcases List.mem_cons.mp h with z | z
      · exact absurd z.symm e
      · exact tabF_look f z
theorem tabF_vl (f : Nat → Int) {ls : List Nat} {u : Nat} (h : u ∈ ls) : vl (tabF ls f) (u : Int) = f u := by unfold vl; rw [tabF_look f h]; rfl
theorem dictOf_id : ∀ (l : List (Int × Int)), NK l → dictOf l = l := by
  have key : ∀ (l es : List (Int × Int)), NK (es ++ l) → l.foldl (fun es p => putI es p.1 p.2) es = es ++ l := by
    intro l
    induction l with
    | nil => intro es _; simp
    | cons p l ih =>
      intro es h
      have hp : putI es p.1 p.2 = es ++ [p] := by
        unfold putI
        rw [lookI_any]
        have hn : p.1 ∉ es.map (·.1) := by
          unfold NK at h
          rw [List.map_append, List.nodup_append] at h
          exact fun hm => h.2.2 p.1 hm p.1 (List.Mem.head _) rfl
        rw [lookI_none hn]; rfl
      rw [List.foldl_cons, hp, ih _ (by rw [List.append_assoc]; exact h), List.append_assoc]; rfl
  intro l h
  exact key l [] h
theorem eqI_refl {l : List (Int × Int)} (h : NK l) : eqI l l = true := by
  unfold eqI
  rw [Bool.and_eq_true]
  refine ⟨by simp, List.all_eq_true.mpr fun p hp => ?_⟩
  have : ∀ {l : List (Int × Int)} {p : Int × Int}, NK l → p ∈ l → lookI l p.1 = some p.2 := by
    intro l
    induction l with
    | nil => intro p _ h; cases h
    | cons q l ih =>
      intro p hn hm
      unfold NK at hn
      rw [List.map_cons, List.nodup_cons] at hn
      rw [lookI_cons]
      rcases List.mem_cons.mp hm with e | e
      · rw [e]; simp
      · have : ¬ q.1 = p.1 := fun z => hn.1 (by rw [z]; exact List.mem_map.mpr ⟨p, e, rfl⟩)
        rw [if_neg this]; exact ih hn.2 e
  rw [this h hp]; simp
def others (ls : List Nat) (v : Nat) : List Nat := ls.filter fun u => u != v
theorem mem_others {ls : List Nat} {u v : Nat} : u ∈ others ls v ↔ u ∈ ls ∧ u ≠ v := by
  unfold others
  rw [List.mem_filter]; simp
theorem others_erase {ls : List Nat} (hn : ls.Nodup) (v : Nat) : others ls v = ls.erase v := by
  unfold others
  rw [List.Nodup.erase_eq_filter hn]
/-- what holds at each turn -/
structure Inv (R : Nat → Row) (ω : Nat → Nat → Int) (fl : Nat → List Bool) (s : Sta) : Prop where
  sub : s.ls.Sublist [0, 1, 2, 3, 4]
  hT : ∀ v ∈ s.ls, s.tb v = tabF (others s.ls v) (ω v)
  sym : ∀ x y, ω x y = ω y x
  nn : ∀ x y, 0 ≤ ω x y
  pos : ∀ v ∈ s.ls, 1 ≤ s.H v
  sum : (s.ls.map s.H).sum = 31
  worth : ∀ χ, W R ((maskS s.H s.ls χ : Nat) : Int) = cutW ω s.ls χ
  len : s.ls.length + s.cs.length = 5
  ne : 1 ≤ s.ls.length
  cover : ∀ S : Nat, 1 ≤ S → S ≤ 30 → (∃ χ, S = maskS s.H s.ls χ) ∨ ∃ c ∈ s.cs, c ≤ W R (S : Int)
  real : ∀ c ∈ s.cs, ∃ S : Nat, 1 ≤ S ∧ S ≤ 30 ∧ c = W R (S : Int)
  dis : ∀ u ∈ s.ls, ∀ v ∈ s.ls, u ≠ v → ∀ i, i < 5 → ¬ (bitB (s.H u) i = true ∧ bitB (s.H v) i = true)
  fll : ∀ i, i < 5 → (fl i).length = s.cs.length
  hosts : ∀ i, i < 5 → s.hs i = hostS i (fl i)
  names : ∀ v ∈ s.ls, (s.nm v = name0 v ∧ s.H v = 2 ^ v ∧ (fl v).all (!·) = true) ∨ ∃ p, p < s.cs.length ∧ s.nm v = Txt.lower (markOf (p + 1)) ∧ ∀ i, i < 5 → (fl i).getD p false = bitB (s.H v) i
section
variable {R : Nat → Row} {ω : Nat → Nat → Int} {fl : Nat → List Bool} {s : Sta}
theorem Inv.nodup (h : Inv R ω fl s) : s.ls.Nodup := h.sub.nodup (by decide)
theorem Inv.lt5 (h : Inv R ω fl s) {v : Nat} (hv : v ∈ s.ls) : v < 5 := by
  have := h.sub.subset hv
  simp at this; omega
theorem Inv.le (h : Inv R ω fl s) {v : Nat} (hv : v ∈ s.ls) : s.H v ≤ 31 := by
  rw [← h.sum, ← maskS_one (H := s.H) h.nodup hv]; exact maskS_le _ _ _
theorem Inv.nk (h : Inv R ω fl s) {v : Nat} (hv : v ∈ s.ls) : NK (s.tb v) := by rw [h.hT v hv]; exact tabF_NK _ (h.nodup.filter _)
theorem Inv.look (h : Inv R ω fl s) {v : Nat} (hv : v ∈ s.ls) {u : Nat} (hu : u ∈ s.ls) (hne : u ≠ v) : lookI (s.tb v) (u : Int) = some (ω v u) := by
  rw [h.hT v hv]; exact tabF_look _ (mem_others.mpr ⟨hu, hne⟩)
theorem Inv.vl (h : Inv R ω fl s) {v : Nat} (hv : v ∈ s.ls) {u : Nat} (hu : u ∈ s.ls) (hne : u ≠ v) : vl (s.tb v) (u : Int) = ω v u := by
  unfold Mine.vl; rw [h.look hv hu hne]; rfl
theorem Inv.size (h : Inv R ω fl s) {v : Nat} (hv : v ∈ s.ls) : (s.tb v).length ≤ 5 := by
  rw [h.hT v hv]
  unfold tabF others
  rw [List.length_map]
  have := h.len
  exact Nat.le_trans (List.length_filter_le _ _) (by omega)
theorem Inv.sumOf (h : Inv R ω fl s) {v : Nat} (hv : v ∈ s.ls) : sumOf (s.tb v) = ((s.ls.erase v).map (ω v)).sum := by
  rw [h.hT v hv, others_erase h.nodup]
  unfold Mine.sumOf tabF
  rw [List.map_map]; rfl
theorem Inv.wone (h : Inv R ω fl s) {v : Nat} (hv : v ∈ s.ls) : W R ((s.H v : Nat) : Int) = ((s.ls.erase v).map (ω v)).sum := by
  rw [← maskS_one (H := s.H) h.nodup hv, h.worth, cut_one h.sym h.nodup hv]
theorem Inv.due (h : Inv R ω fl s) {v u : Nat} (hv : v ∈ s.ls) (hu : u ∈ s.ls) (hne : u ≠ v) : dueVal R s.H v u = ω v u := by
  unfold dueVal
  rw [← Int.natCast_add, ← maskS_two (H := s.H) h.nodup hu hv hne, h.worth]
  have e1 : W R ((s.H u : Nat) : Int) = cutW ω s.ls (one u) := by rw [← maskS_one (H := s.H) h.nodup hu, h.worth]
  have e2 : W R ((s.H v : Nat) : Int) = cutW ω s.ls (one v) := by rw [← maskS_one (H := s.H) h.nodup hv, h.worth]
  rw [e1, e2, cut_two h.sym h.nodup hu hv hne, Int.fdiv_eq_ediv_of_nonneg _ (by decide)]
  omega
/-- the sides -/
theorem sides_ok {H : Nat → Nat} {ls : List Nat} (hn : ls.Nodup) {l aa : Nat} (hl : l ∈ ls) (hne : aa ≠ l) : ∀ (r : List Nat), r.Nodup → (∀ v ∈ r, v ∈ ls) → ∀ (ss : List Nat) (don : List Nat), (∀ v ∈ r, v ∉ don) →
    (∀ t ∈ ss, ∃ χ : Nat → Bool, χ l = true ∧ χ aa = false ∧ (∀ v, χ v = true → v = l ∨ v ∈ don) ∧ t = maskS H ls χ) →
    ∀ t ∈ r.foldl (fun ss v => if v ≠ l ∧ v ≠ aa then ss ++ ss.map (· + H v) else ss) ss, ∃ χ : Nat → Bool, χ l = true ∧ χ aa = false ∧ t = maskS H ls χ
  | [], _, _, ss, don, _, hs => fun t ht => by obtain ⟨χ, a, b, _, e⟩ := hs t ht; exact ⟨χ, a, b, e⟩
  | v :: r, hr, hrl, ss, don, hd, hs => by
    rw [List.nodup_cons] at hr
    rw [List.foldl_cons]
    refine sides_ok hn hl hne r hr.2 (fun u hu => hrl u (.tail _ hu)) _ (v :: don) (fun u hu z => ?_) ?_
    · rcases List.mem_cons.mp z with z | z
      · exact hr.1 (z ▸ hu)
      · exact hd u (.tail _ hu) z
    · intro t ht
      have old : ∀ t ∈ ss, ∃ χ : Nat → Bool, χ l = true ∧ χ aa = false ∧ (∀ u, χ u = true → u = l ∨ u ∈ v :: don) ∧ t = maskS H ls χ := fun t ht => by
        obtain ⟨χ, a, b, c, e⟩ := hs t ht
        exact ⟨χ, a, b, fun u hu => (c u hu).imp id fun z => .tail _ z, e⟩
      by_cases hc : v ≠ l ∧ v ≠ aa
      · rw [if_pos hc] at ht
        rcases List.mem_append.mp ht with ht | ht
        · exact old t ht
        · obtain ⟨t0, ht0, rfl⟩ := List.mem_map.mp ht
          obtain ⟨χ, a, b, c, rfl⟩ := hs t0 ht0
          have hv : χ v = false := by
            cases q : χ v with
            | false => rfl
            | true => exact absurd (c v q) (fun z => z.elim hc.1 (hd v (.head _)))
          refine ⟨upd χ v true, ?_, ?_, fun u hu => ?_, (maskS_set hn (hrl v (.head _)) hv).symm⟩
          · unfold upd; split <;> first | rfl | exact a
          · unfold upd; rw [if_neg fun z => hc.2 z.symm]; exact b
          · unfold upd at hu
            by_cases z : u = v
            · exact .inr (z ▸ .head _)
            · rw [if_neg z] at hu; exact (c u hu).imp id fun z => .tail _ z
      · rw [if_neg hc] at ht
        exact old t ht
theorem sides_all {H : Nat → Nat} {ls : List Nat} (hn : ls.Nodup) {l aa : Nat} (hl : l ∈ ls) (hne : aa ≠ l) : ∀ t ∈ sidesTo H l aa ls, ∃ χ : Nat → Bool, χ l = true ∧ χ aa = false ∧ t = maskS H ls χ := by
  refine sides_ok hn hl hne ls hn (fun _ h => h) [H l] [] (fun _ _ z => by cases z) fun t ht => ?_
  rw [List.mem_singleton.mp ht]
  exact ⟨one l, by simp [one], one_ne hne, fun v hv => .inl (by simpa [one] using hv), (maskS_one hn hl).symm⟩
theorem sides_first {H : Nat → Nat} {l aa : Nat} {t : Nat} : ∀ (r ss : List Nat), t ∈ ss → t ∈ r.foldl (fun ss v => if v ≠ l ∧ v ≠ aa then ss ++ ss.map (· + H v) else ss) ss
  | [], _, h => h
  | v :: r, ss, h => by
    rw [List.foldl_cons]
    refine sides_first r _ ?_
    split
    · exact List.mem_append_left _ h
    · exact h
theorem hostL_bits {hs : Nat → Str} {y : Str} {h : Nat} (e : ∀ i, i < 5 → dmOf (hs i) y = bitB h i) : hostL hs y = bitsOf h := by
  unfold hostL bitsOf
  have : ∀ (l : List Nat), (∀ i ∈ l, i < 5) → l.filterMap (fun i => if dmOf (hs i) y = true then some ((2 : Int) ^ i) else none) = l.filterMap fun i => if bitB h i = true then some ((2 : Int) ^ i) else none := by
    intro l
    induction l with
    | nil => intro _; rfl
    | cons i l ih =>
      intro hl
      rw [List.filterMap_cons, List.filterMap_cons, ih fun j hj => hl j (.tail _ hj), e i (hl i (.head _))]
  exact this _ fun i hi => List.mem_range.mp hi
theorem Inv.names_ok (h : Inv R ω fl s) (hcs : s.cs.length < 4) {v : Nat} (hv : v ∈ s.ls) : (∀ i, i < 5 → dmOk (s.hs i) (s.nm v) = true) ∧ ∀ i, i < 5 → dmOf (s.hs i) (s.nm v) = bitB (s.H v) i := by
  have hv5 := h.lt5 hv
  rcases h.names v hv with ⟨e1, e2, e3⟩ | ⟨p, hp, e1, e2⟩
  · have key : ∀ i, i < 5 → dmOk (s.hs i) (s.nm v) = true ∧ dmOf (s.hs i) (s.nm v) = bitB (s.H v) i := fun i hi => by
      obtain ⟨_, k, _⟩ := chk_use (bl := fl i) (by rw [h.fll i hi]; exact hcs) hi
      obtain ⟨k1, k2⟩ := k v hv5
      rw [h.hosts i hi, e1]
      refine ⟨k1, ?_⟩
      rw [k2, e2]
      have hb : bitB (2 ^ v) i = (i == v) := by
        have := bits_pow ⟨v, hv5⟩ ⟨i, hi⟩
        rw [this]
        rw [Bool.eq_iff_iff, beq_iff_eq, beq_iff_eq]
        exact ⟨fun z => congrArg Fin.val z, fun z => Fin.ext z⟩
      rw [hb]
      by_cases z : i = v
      · subst z; rw [e3]; simp
      · simp [z]
    exact ⟨fun i hi => (key i hi).1, fun i hi => (key i hi).2⟩
  · have key : ∀ i, i < 5 → dmOk (s.hs i) (s.nm v) = true ∧ dmOf (s.hs i) (s.nm v) = bitB (s.H v) i := fun i hi => by
      obtain ⟨_, _, k⟩ := chk_use (bl := fl i) (by rw [h.fll i hi]; exact hcs) hi
      obtain ⟨k1, k2⟩ := k p (by rw [h.fll i hi]; exact hp)
      rw [h.hosts i hi, e1]
      exact ⟨k1, k2.trans (e2 i hi)⟩
    exact ⟨fun i hi => (key i hi).1, fun i hi => (key i hi).2⟩
/-- a turn's questions are all answered -/
theorem Inv.turn (h : Inv R ω fl s) (h2 : 2 ≤ s.ls.length) : ∃ v0 pre aa l, TurnOk R s v0 pre aa l ∧ ∀ χ : Nat → Bool, χ l ≠ χ aa → ((s.ls.erase l).map (ω l)).sum ≤ cutW ω s.ls χ := by
  obtain ⟨v0, r, hls⟩ : ∃ v0 r, s.ls = v0 :: r := by
    cases q : s.ls with
    | nil => rw [q] at h2; simp at h2
    | cons v0 r => exact ⟨v0, r, rfl⟩
  have hv0 : v0 ∈ s.ls := by rw [hls]; exact .head _
  have hlk : ∀ v ∈ s.ls, ∀ u ∈ s.ls, u ≠ v → (lookI (s.tb v) (u : Int)).isSome = true := fun v hv u hu hne => by rw [h.look hv hu hne]; rfl
  obtain ⟨pre, aa, l, hod, ha, hl, hne, hcut⟩ := sw_cut h.sym h.nn h.nodup hv0 (fun v hv => h.nk hv) hlk (fun v hv => h.size hv) (fun v hv u hu hne => h.vl hv hu hne) h2
  have hlen := h.len
  have hcs : s.cs.length < 4 := by omega
  obtain ⟨n1, n2⟩ := h.names_ok hcs hl
  have hside : ∀ t ∈ sidesTo s.H l aa s.ls, t < 32 ∧ Mine.sumOf (s.tb l) ≤ W R ((t : Nat) : Int) := fun t ht => by
    obtain ⟨χ, c1, c2, rfl⟩ := sides_all h.nodup hl hne t ht
    refine ⟨?_, ?_⟩
    · have := maskS_le s.H χ s.ls
      rw [h.sum] at this; omega
    · rw [h.worth, h.sumOf hl]
      exact hcut χ (by rw [c1, c2]; decide)
  refine ⟨v0, pre, aa, l, ?_, hcut⟩
  refine { h5 := fun v hv => h.lt5 hv, hl := by omega, hn := h.nodup, head := ⟨r, hls⟩, hH := fun v hv => by have := h.le hv; omega, hHH := fun v hv u hu hne => ?_, hdue := fun v hv => ?_, hnk := fun v hv => h.nk hv, hlk := hlk, hsz := fun v hv => h.size hv, hod := hod, ha := ha, hla := hl, hne := hne, hss := fun t ht => (hside t ht).1, hm := ?_, hle := fun y hy => ?_, hdm := n1, hsum := ?_, hcs := hcs, hhs := fun i hi => ?_ }
  · have := pair_le (H := s.H) h.nodup hu hv hne
    rw [h.sum] at this; omega
  · have e : dueTo R s.H v s.ls = s.tb v := by
      rw [h.hT v hv]
      unfold dueTo
      have e2 : ((s.ls.filter fun u => u != v).map fun (u : Nat) => (((u : Nat) : Int), dueVal R s.H v u)) = tabF (others s.ls v) (ω v) := by
        unfold tabF others
        exact List.map_congr_left fun u hu => by
          obtain ⟨hu1, hu2⟩ := mem_others.mp hu
          rw [h.due hv hu1 hu2]
      rw [e2]
      exact dictOf_id _ (tabF_NK _ (h.nodup.filter _))
    rw [e]; exact eqI_refl (h.nk hv)
  · refine List.mem_map.mpr ⟨s.H l, sides_first _ _ (.head _), ?_⟩
    rw [h.wone hl, h.sumOf hl]
  · obtain ⟨t, ht, rfl⟩ := List.mem_map.mp hy
    exact (hside t ht).2
  · rw [hostL_bits n2]
    exact bits_sum ⟨s.H l, by have := h.le hl; omega⟩
  · rw [h.hosts i hi]
    exact (chk_use (bl := fl i) (by rw [h.fll i hi]; exact hcs) hi).1
end
end Mine

namespace Mine
theorem tabF_congr {ls : List Nat} {f g : Nat → Int} (h : ∀ u ∈ ls, f u = g u) : tabF ls f = tabF ls g := List.map_congr_left fun u hu => by rw [h u hu]
theorem tabF_put {ls : List Nat} {f : Nat → Int} {u : Nat} (hu : u ∈ ls) (n : Int) : putI (tabF ls f) (u : Int) n = tabF ls fun x => if x = u then n else f x := by
  unfold putI
  rw [lookI_any, tabF_look f hu]
  simp only [Option.isSome_some, if_true]
  unfold tabF
  rw [List.map_map]
  refine List.map_congr_left fun x _ => ?_
  simp only [Function.comp]
  by_cases h : x = u
  · subst h; simp
  · have h' : ¬ ((x : Nat) : Int) = ((u : Nat) : Int) := by omega
    rw [if_neg h', if_neg h]
theorem selD_tab (es : List (Int × Int)) {ls : List Nat} (hn : ls.Nodup) (z : Nat) : selD es ls z = tabF (others ls z) fun u => vl es (u : Int) := by
  unfold selD
  exact dictOf_id _ (tabF_NK _ (hn.filter _))
theorem maskS_true (H : Nat → Nat) (ls : List Nat) : maskS H ls (fun _ => true) = (ls.map H).sum := by unfold maskS; simp
theorem glue_sym {ω : Nat → Nat → Int} (hs : ∀ x y, ω x y = ω y x) (aa l : Nat) (x y : Nat) : glue ω aa l x y = glue ω aa l y x := by
  by_cases hx : x = aa <;> by_cases hy : y = aa
  · rw [hx, hy]
  · simp only [glue, hx, hy, if_true, if_false]; rw [hs aa y, hs l y]
  · simp only [glue, hx, hy, if_true, if_false]; rw [hs x aa, hs x l]
  · simp only [glue, hx, hy, if_false]; exact hs x y
theorem glue_nn {ω : Nat → Nat → Int} (h : ∀ x y, 0 ≤ ω x y) (aa l : Nat) (x y : Nat) : 0 ≤ glue ω aa l x y := by
  unfold glue
  split
  · have := h aa y; have := h l y; omega
  · split
    · have := h x aa; have := h x l; omega
    · exact h x y
section
variable {R : Nat → Row} {ω : Nat → Nat → Int} {fl : Nat → List Bool} {s : Sta} {v0 : Nat} {pre : List Nat} {aa l : Nat}
theorem Inv.bits (h : Inv R ω fl s) {u v : Nat} (hu : u ∈ s.ls) (hv : v ∈ s.ls) (hne : u ≠ v) {i : Nat} (hi : i < 5) : bitB (s.H u + s.H v) i = (bitB (s.H u) i || bitB (s.H v) i) :=
  bits_add ⟨s.H u, by have := h.le hu; omega⟩ ⟨s.H v, by have := h.le hv; omega⟩ (fun j => h.dis u hu v hv hne j.val j.isLt) ⟨i, hi⟩
theorem Inv.next (h : Inv R ω fl s) (T : TurnOk R s v0 pre aa l) (hcut : ∀ χ : Nat → Bool, χ l ≠ χ aa → ((s.ls.erase l).map (ω l)).sum ≤ cutW ω s.ls χ) :
    Inv R (glue ω aa l) (fun i => fl i ++ [bitB (s.H aa + s.H l) i]) (nextSta s aa l) := by
  have ha := T.ha
  have hl := T.hla
  have hne := T.hne
  have hn := h.nodup
  have hn' : (s.ls.erase l).Nodup := hn.erase l
  have hr : ∀ v ∈ s.ls.erase l, v ∈ s.ls ∧ v ≠ l := fun v hv => rest1 hn hv
  have ha' : aa ∈ s.ls.erase l := (List.mem_erase_of_ne hne).mpr ha
  have hlen : (s.ls.erase l).length = s.ls.length - 1 := List.length_erase_of_mem hl
  have hpl : 1 ≤ s.ls.length := List.length_pos_of_mem hl
  have hHa : (nextSta s aa l).H aa = s.H aa + s.H l := if_pos rfl
  have hHo : ∀ v, v ≠ aa → (nextSta s aa l).H v = s.H v := fun v hv => if_neg hv
  have hpair := pair_le (H := s.H) hn ha hl hne
  rw [h.sum] at hpair
  refine { sub := (List.erase_sublist).trans h.sub, hT := fun v hv => ?_, sym := glue_sym h.sym aa l, nn := glue_nn h.nn aa l, pos := fun v hv => ?_, sum := ?_, worth := fun χ => ?_, len := ?_, ne := ?_, cover := fun S h1 h2 => ?_, real := fun c hc => ?_, dis := fun u hu v hv huv i hi => ?_, fll := fun i hi => ?_, hosts := fun i hi => ?_, names := fun v hv => ?_ }
  · obtain ⟨hv1, hv2⟩ := hr v hv
    show tbTo (upd s.tb aa (selD (addC (s.tb aa) (s.tb l)) (s.ls.erase l) aa)) (s.ls.erase l) aa l (s.ls.erase l).length v = tabF (others (s.ls.erase l) v) (glue ω aa l v)
    unfold tbTo
    rw [List.take_length]
    by_cases hva : v = aa
    · subst hva
      rw [if_neg fun z => z.2 rfl]
      have e : upd s.tb v (selD (addC (s.tb v) (s.tb l)) (s.ls.erase l) v) v = selD (addC (s.tb v) (s.tb l)) (s.ls.erase l) v := if_pos rfl
      rw [e, selD_tab _ hn']
      refine tabF_congr fun u hu => ?_
      obtain ⟨hu1, hu2⟩ := mem_others.mp hu
      obtain ⟨hu3, hu4⟩ := hr u hu1
      rw [(vl_addC (h.nk ha) (h.nk hl) _).1, h.vl ha hu3 hu2, h.vl hl hu3 hu4]
      simp [glue]
    · rw [if_pos ⟨hv, hva⟩]
      have e : upd s.tb aa (selD (addC (s.tb aa) (s.tb l)) (s.ls.erase l) aa) v = s.tb v := if_neg hva
      unfold newT
      rw [e, selD_tab _ hn', h.vl hv1 hl fun z => hv2 z.symm]
      have e2 : (tabF (others (s.ls.erase l) v) fun u => Mine.vl (s.tb v) (u : Int)) = tabF (others (s.ls.erase l) v) (ω v) := tabF_congr fun u hu => by
        obtain ⟨hu1, hu2⟩ := mem_others.mp hu
        exact h.vl hv1 (hr u hu1).1 hu2
      rw [e2]
      unfold addC
      rw [dictOf_id (tabF (others (s.ls.erase l) v) (ω v)) (tabF_NK _ (hn'.filter _))]
      have hao : aa ∈ others (s.ls.erase l) v := mem_others.mpr ⟨ha', fun z => hva z.symm⟩
      show addTo (tabF (others (s.ls.erase l) v) (ω v)) (((aa : Nat) : Int), ω v l) = _
      unfold addTo
      rw [tabF_look (ω v) hao]
      show putI _ ((aa : Nat) : Int) (ω v aa + ω v l) = _
      rw [tabF_put hao]
      refine tabF_congr fun u _ => ?_
      unfold glue
      rw [if_neg hva]
  · obtain ⟨hv1, _⟩ := hr v hv
    by_cases hva : v = aa
    · rw [hva, hHa]; have := h.pos aa ha; omega
    · rw [hHo v hva]; exact h.pos v hv1
  · rw [← maskS_true]
    show maskS (upd s.H aa (s.H aa + s.H l)) (s.ls.erase l) _ = 31
    rw [mask_glue hn ha hl hne (ξ := fun _ => true) rfl fun _ _ => rfl, maskS_true, h.sum]
  · have e1 := mask_glue (H := s.H) hn ha hl hne (χ := χ) (ξ := fun v => if v = l then χ aa else χ v) (by simp) fun v hv => by rw [if_neg (hr v hv).2]
    have e2 := cut_glue h.sym hn ha hl hne (χ := χ) (ξ := fun v => if v = l then χ aa else χ v) (by simp) fun v hv => by rw [if_neg (hr v hv).2]
    show W R ((maskS (upd s.H aa (s.H aa + s.H l)) (s.ls.erase l) χ : Nat) : Int) = cutW (glue ω aa l) (s.ls.erase l) χ
    rw [e1, e2, h.worth]
  · show (s.ls.erase l).length + (s.cs ++ [_]).length = 5
    rw [hlen, List.length_append]
    have := h.len
    simp only [List.length_cons, List.length_nil]; omega
  · show 1 ≤ (s.ls.erase l).length
    exact List.length_pos_of_mem ha'
  · rcases h.cover S h1 h2 with ⟨χ, e⟩ | ⟨c, hc, hle⟩
    · by_cases hχ : χ l = χ aa
      · exact .inl ⟨χ, by rw [e]; exact (mask_glue hn ha hl hne hχ fun _ _ => rfl).symm⟩
      · refine .inr ⟨Mine.sumOf (s.tb l), List.mem_append_right _ (List.Mem.head _), ?_⟩
        rw [h.sumOf hl, e, h.worth]
        exact hcut χ hχ
    · exact .inr ⟨c, List.mem_append_left _ hc, hle⟩
  · rcases List.mem_append.mp hc with hc | hc
    · exact h.real c hc
    · refine ⟨s.H l, h.pos l hl, by have := h.pos aa ha; omega, ?_⟩
      rw [List.mem_singleton.mp hc, h.wone hl, h.sumOf hl]
  · obtain ⟨hu1, hu2⟩ := hr u hu
    obtain ⟨hv1, hv2⟩ := hr v hv
    have hb := h.bits ha hl hne hi
    intro ⟨b1, b2⟩
    by_cases hua : u = aa
    · have hva : v ≠ aa := fun z => huv (hua.trans z.symm)
      rw [hua, hHa, hb] at b1
      rw [hHo v hva] at b2
      rcases (Bool.or_eq_true _ _).mp b1 with b1 | b1
      · exact h.dis aa ha v hv1 (fun z => hva z.symm) i hi ⟨b1, b2⟩
      · exact h.dis l hl v hv1 (fun z => hv2 z.symm) i hi ⟨b1, b2⟩
    · rw [hHo u hua] at b1
      by_cases hva : v = aa
      · rw [hva, hHa, hb] at b2
        rcases (Bool.or_eq_true _ _).mp b2 with b2 | b2
        · exact h.dis u hu1 aa ha hua i hi ⟨b1, b2⟩
        · exact h.dis u hu1 l hl hu2 i hi ⟨b1, b2⟩
      · rw [hHo v hva] at b2
        exact h.dis u hu1 v hv1 huv i hi ⟨b1, b2⟩
  · show (fl i ++ [_]).length = (s.cs ++ [_]).length
    rw [List.length_append, List.length_append, h.fll i hi]; rfl
  · show hsTo s.hs (s.H aa + s.H l) (markOf (s.cs.length + 1)) 5 i = hostS i (fl i ++ [bitB (s.H aa + s.H l) i])
    rw [hostS_snoc, h.fll i hi, ← h.hosts i hi]
    unfold hsTo
    simp only [hi, true_and]
  · obtain ⟨hv1, hv2⟩ := hr v hv
    have hv5 := h.lt5 hv1
    by_cases hva : v = aa
    · refine .inr ⟨s.cs.length, ?_, ?_, fun i hi => ?_⟩
      · show s.cs.length < (s.cs ++ [_]).length
        rw [List.length_append]; simp
      · show upd s.nm aa _ v = _
        exact if_pos hva
      · rw [hva, hHa, List.getD_eq_getElem?_getD, List.getElem?_append_right (by rw [h.fll i hi]; exact Nat.le_refl _), h.fll i hi]
        simp
    · have en : (nextSta s aa l).nm v = s.nm v := if_neg hva
      rcases h.names v hv1 with ⟨e1, e2, e3⟩ | ⟨p, hp, e1, e2⟩
      · refine .inl ⟨by rw [en, e1], by rw [hHo v hva, e2], ?_⟩
        rw [List.all_append, e3]
        have hbv : bitB (s.H v) v = true := by
          rw [e2]
          have := bits_pow ⟨v, hv5⟩ ⟨v, hv5⟩
          rw [this]; simp
        have b1 : bitB (s.H aa) v = false := by
          cases q : bitB (s.H aa) v with
          | false => rfl
          | true => exact absurd ⟨q, hbv⟩ (h.dis aa ha v hv1 (fun z => hva z.symm) v hv5)
        have b2 : bitB (s.H l) v = false := by
          cases q : bitB (s.H l) v with
          | false => rfl
          | true => exact absurd ⟨q, hbv⟩ (h.dis l hl v hv1 (fun z => hv2 z.symm) v hv5)
        rw [h.bits ha hl hne hv5, b1, b2]; rfl
      · refine .inr ⟨p, ?_, by rw [en, e1], fun i hi => ?_⟩
        · show p < (s.cs ++ [_]).length
          rw [List.length_append]; omega
        · rw [hHo v hva, ← e2 i hi, List.getD_eq_getElem?_getD, List.getD_eq_getElem?_getD, List.getElem?_append_left (by rw [h.fll i hi]; exact hp)]
end
end Mine

namespace Mine
def m5 (b0 b1 b2 b3 b4 : Bool) : Nat := (if b0 = true then 2 ^ 0 else 0) + ((if b1 = true then 2 ^ 1 else 0) + ((if b2 = true then 2 ^ 2 else 0) + ((if b3 = true then 2 ^ 3 else 0) + ((if b4 = true then 2 ^ 4 else 0) + 0))))
theorem mask_m5 (χ : Nat → Bool) : maskS (fun v => 2 ^ v) [0, 1, 2, 3, 4] χ = m5 (χ 0) (χ 1) (χ 2) (χ 3) (χ 4) := rfl
theorem parts_m5 : ∀ b0 b1 b2 b3 b4 : Bool, parts ((m5 b0 b1 b2 b3 b4 : Nat) : Int) 1 0 = (b1 != b0) ∧ parts ((m5 b0 b1 b2 b3 b4 : Nat) : Int) 2 0 = (b2 != b0) ∧ parts ((m5 b0 b1 b2 b3 b4 : Nat) : Int) 2 1 = (b2 != b1) ∧ parts ((m5 b0 b1 b2 b3 b4 : Nat) : Int) 3 0 = (b3 != b0) ∧
    parts ((m5 b0 b1 b2 b3 b4 : Nat) : Int) 3 1 = (b3 != b1) ∧ parts ((m5 b0 b1 b2 b3 b4 : Nat) : Int) 3 2 = (b3 != b2) ∧ parts ((m5 b0 b1 b2 b3 b4 : Nat) : Int) 4 0 = (b4 != b0) ∧ parts ((m5 b0 b1 b2 b3 b4 : Nat) : Int) 4 1 = (b4 != b1) ∧ parts ((m5 b0 b1 b2 b3 b4 : Nat) : Int) 4 2 = (b4 != b2) ∧ parts ((m5 b0 b1 b2 b3 b4 : Nat) : Int) 4 3 = (b4 != b3) := by decide +kernel
theorem sum_filterMap {α : Type} (b : α → Bool) (g : α → Int) : ∀ l : List α, (l.filterMap fun p => if b p = true then some (g p) else none).sum = (l.map fun p => if b p = true then g p else 0).sum
  | [] => rfl
  | p :: l => by
    rw [List.filterMap_cons, List.map_cons, List.sum_cons, ← sum_filterMap b g l]
    cases b p <;> simp
def sw' (b : Bool) (t : Int) : Int := if b = true then t else 0
theorem W_sum (R : Nat → Row) (h : Int) : W R h = sw' (parts h 1 0) (tie R 1 0) + (sw' (parts h 2 0) (tie R 2 0) + (sw' (parts h 2 1) (tie R 2 1) + (sw' (parts h 3 0) (tie R 3 0) + (sw' (parts h 3 1) (tie R 3 1) + (sw' (parts h 3 2) (tie R 3 2) + (sw' (parts h 4 0) (tie R 4 0) + (sw' (parts h 4 1) (tie R 4 1) + (sw' (parts h 4 2) (tie R 4 2) + (sw' (parts h 4 3) (tie R 4 3) + 0))))))))) := by
  unfold W Wl
  rw [sum_filterMap (fun p : Nat × Nat × Int => parts h p.1 p.2.1) (fun p => p.2.2)]
  rfl
theorem W_m5 (R : Nat → Row) (b0 b1 b2 b3 b4 : Bool) : W R ((m5 b0 b1 b2 b3 b4 : Nat) : Int) = sw' (b1 != b0) (tie R 1 0) + (sw' (b2 != b0) (tie R 2 0) + (sw' (b2 != b1) (tie R 2 1) + (sw' (b3 != b0) (tie R 3 0) + (sw' (b3 != b1) (tie R 3 1) + (sw' (b3 != b2) (tie R 3 2) + (sw' (b4 != b0) (tie R 4 0) + (sw' (b4 != b1) (tie R 4 1) + (sw' (b4 != b2) (tie R 4 2) + (sw' (b4 != b3) (tie R 4 3) + 0))))))))) := by
  obtain ⟨h1, h2, h3, h4, h5, h6, h7, h8, h9, h10⟩ := parts_m5 b0 b1 b2 b3 b4
  rw [W_sum, h1, h2, h3, h4, h5, h6, h7, h8, h9, h10]
theorem sw_eW (R : Nat → Row) (χ : Nat → Bool) (x y : Nat) : sw' (χ x != χ y) (tie R x y) = eW (tie R) χ y x := by
  unfold sw' eW
  rw [tie_symm R y x]
  cases χ x <;> cases χ y <;> rfl
theorem worth0 (R : Nat → Row) (χ : Nat → Bool) : W R ((maskS (fun v => 2 ^ v) [0, 1, 2, 3, 4] χ : Nat) : Int) = cutW (tie R) [0, 1, 2, 3, 4] χ := by
  rw [mask_m5, W_m5]
  simp only [sw_eW]
  simp only [cutW, ps, List.map_cons, List.map_nil, List.sum_cons, List.sum_nil]
  omega
/-- the first state -/
def sta0 (R : Nat → Row) : Sta := { ls := [0, 1, 2, 3, 4], H := fun v => 2 ^ v, nm := name0, hs := host0, tb := dtab R, cs := [] }
theorem cover0 : ∀ S : Fin 32, S.val = m5 (S.val.testBit 0) (S.val.testBit 1) (S.val.testBit 2) (S.val.testBit 3) (S.val.testBit 4) := by decide +kernel
theorem inv0 (R : Nat → Row) : Inv R (tie R) (fun _ => []) (sta0 R) := by
  have h5 : ∀ v ∈ [0, 1, 2, 3, 4], v < 5 := by decide
  refine { sub := List.Sublist.refl _, hT := fun v _ => rfl, sym := tie_symm R, nn := tie_nonneg R, pos := fun v _ => Nat.one_le_two_pow, sum := rfl, worth := worth0 R, len := rfl, ne := Nat.le_of_ble_eq_true rfl, cover := fun S h1 h2 => .inl ⟨S.testBit, ?_⟩, real := fun c hc => (nomatch hc), dis := fun u hu v hv huv i hi => ?_, fll := fun i _ => rfl, hosts := fun i _ => rfl, names := fun v hv => .inl ⟨rfl, rfl, rfl⟩ }
  · show S = maskS (fun v => 2 ^ v) [0, 1, 2, 3, 4] _
    rw [mask_m5]
    exact cover0 ⟨S, by omega⟩
  · have hb : ∀ w : Nat, w < 5 → bitB (2 ^ w) i = (i == w) := fun w hw => by
      have := bits_pow ⟨w, hw⟩ ⟨i, hi⟩
      rw [this, Bool.eq_iff_iff, beq_iff_eq, beq_iff_eq]
      exact ⟨fun z => congrArg Fin.val z, fun z => Fin.ext z⟩
    intro ⟨b1, b2⟩
    have b1' : bitB (2 ^ u) i = true := b1
    have b2' : bitB (2 ^ v) i = true := b2
    rw [hb u (h5 u hu)] at b1'
    rw [hb v (h5 v hv)] at b2'
    simp at b1' b2'
    omega

/-- the law's own sums -/
theorem part_sum {es : List (Int × Int)} (g : Int → Bool) : NK es → KeysIn es → ((es.filter fun p => g p.1).map (·.2)).sum = (if g 0 = true then vl es 0 else 0) + ((if g 1 = true then vl es 1 else 0) + ((if g 2 = true then vl es 2 else 0) + ((if g 3 = true then vl es 3 else 0) + (if g 4 = true then vl es 4 else 0)))) := by
  induction es with
  | nil => intro _ _; simp [vl, lookI]
  | cons p es ih =>
    intro hn hk
    unfold NK at hn
    rw [List.map_cons, List.nodup_cons] at hn
    have ih' := ih hn.2 fun q hq => hk q (.tail _ hq)
    obtain ⟨k, hk5, e⟩ := hk p (.head _)
    have h0 : vl es p.1 = 0 := by unfold vl; rw [lookI_none hn.1]; rfl
    have hv : ∀ x : Int, vl (p :: es) x = if p.1 = x then p.2 else vl es x := fun x => by
      unfold vl; rw [lookI_cons]; split <;> rfl
    have hf : (((p :: es).filter fun p => g p.1).map (·.2)).sum = (if g p.1 = true then p.2 else 0) + ((es.filter fun p => g p.1).map (·.2)).sum := by
      rw [List.filter_cons]
      split
      · simp
      · simp
    rw [hf, ih', hv, hv, hv, hv, hv]
    have hk' : p.1 = 0 ∨ p.1 = 1 ∨ p.1 = 2 ∨ p.1 = 3 ∨ p.1 = 4 := by omega
    rcases hk' with e | e | e | e | e
    all_goals
      rw [e] at h0 ⊢
      simp only [Int.reduceEq, if_true, if_false]
      rw [h0]
      split <;> omega
end Mine

namespace Mine
def chain (R : Nat → Row) (l : List Nat) : List (Int × Int) := l.foldl (fun e i => addC e (dtab R i)) []
theorem dtab_NK (R : Nat → Row) (v : Nat) : NK (dtab R v) := by
  have : dtab R v = tabF ((List.range 5).filter fun u => u != v) (tie R v) := rfl
  rw [this]
  exact tabF_NK _ ((by decide : ([0, 1, 2, 3, 4] : List Nat).Nodup).filter _)
theorem chain_ok (R : Nat → Row) (x : Int) : ∀ (l : List Nat) (e : List (Int × Int)), NK e → NK (l.foldl (fun e i => addC e (dtab R i)) e) ∧ vl (l.foldl (fun e i => addC e (dtab R i)) e) x = vl e x + (l.map fun i => vl (dtab R i) x).sum
  | [], e, h => ⟨h, by simp⟩
  | i :: l, e, h => by
    obtain ⟨h1, h2⟩ := chain_ok R x l (addC e (dtab R i)) (addC_NK _ _)
    refine ⟨h1, ?_⟩
    rw [List.foldl_cons, h2, (vl_addC h (dtab_NK R i) x).1, List.map_cons, List.sum_cons]
    omega
theorem dtab_vl (R : Nat → Row) {i u : Nat} (hi : i < 5) (hu : u < 5) : vl (dtab R i) (u : Int) = if i = u then 0 else tie R i u := by
  rcases lt5 hi with rfl | rfl | rfl | rfl | rfl <;> rcases lt5 hu with rfl | rfl | rfl | rfl | rfl <;> rfl
def bsel (b0 b1 b2 b3 : Bool) : List Nat := (if b0 = true then [0] else []) ++ ((if b1 = true then [1] else []) ++ ((if b2 = true then [2] else []) ++ (if b3 = true then [3] else [])))
theorem Tot4 (R : Nat → Row) : Tot R 4 = [chain R [], chain R [0], chain R [1], chain R [0, 1], chain R [2], chain R [0, 2], chain R [1, 2], chain R [0, 1, 2], chain R [3], chain R [0, 3], chain R [1, 3], chain R [0, 1, 3], chain R [2, 3], chain R [0, 2, 3], chain R [1, 2, 3], chain R [0, 1, 2, 3]] := by
  simp only [Tot, chain, List.foldl_cons, List.foldl_nil, List.map_append, List.map_cons, List.map_nil, List.cons_append, List.nil_append]
theorem tot_chain (R : Nat → Row) (b0 b1 b2 b3 : Bool) : totOf R (m5 b0 b1 b2 b3 false) = chain R (bsel b0 b1 b2 b3) := by
  unfold totOf
  rw [Tot4]
  generalize hc : chain R = ch
  cases b0 <;> cases b1 <;> cases b2 <;> cases b3 <;> rfl
theorem keep_part {es : List (Int × Int)} (hk : KeysIn es) (h : Int) : ∀ {l : List (Int × Int)}, (∀ p ∈ l, lookI es p.1 = some p.2) → (keysL l).filterMap (partF es h) = l.filter fun p => ((h.fdiv (2 ^ p.1.toNat)).fmod 2 == 0)
  | [], _ => rfl
  | p :: l, hl => by
    have e : keysL (p :: l) = .int p.1 :: keysL l := rfl
    rw [e, List.filterMap_cons, keep_part hk h fun q hq => hl q (.tail _ hq)]
    have e2 : partF es h (.int p.1) = if ((h.fdiv (2 ^ p.1.toNat)).fmod 2 == 0) = true then some p else none := by
      show (if ((h.fdiv (2 ^ p.1.toNat)).fmod 2 == 0) = true then (lookI es p.1).map fun j => (p.1, j) else none) = _
      rw [hl p (.head _)]; rfl
    rw [e2]
    by_cases q : ((h.fdiv (2 ^ p.1.toNat)).fmod 2 == 0) = true
    · rw [if_pos q, List.filter_cons_of_pos (p := fun p : Int × Int => ((h.fdiv (2 ^ p.1.toNat)).fmod 2 == 0)) q]
    · rw [if_neg q, List.filter_cons_of_neg (p := fun p : Int × Int => ((h.fdiv (2 ^ p.1.toNat)).fmod 2 == 0)) q]
theorem look_mem' {l : List (Int × Int)} (hn : NK l) : ∀ p ∈ l, lookI l p.1 = some p.2 := by
  induction l with
  | nil => intro p h; cases h
  | cons q l ih =>
    intro p hm
    unfold NK at hn
    rw [List.map_cons, List.nodup_cons] at hn
    rw [lookI_cons]
    rcases List.mem_cons.mp hm with e | e
    · rw [e]; simp
    · have : ¬ q.1 = p.1 := fun z => hn.1 (by rw [z]; exact List.mem_map.mpr ⟨p, e, rfl⟩)
      rw [if_neg this]; exact ih hn.2 p e
theorem bit_m5 : ∀ b0 b1 b2 b3 : Bool, ((((m5 b0 b1 b2 b3 false : Nat) : Int).fdiv (2 ^ (0 : Int).toNat)).fmod 2 == 0) = !b0 ∧ ((((m5 b0 b1 b2 b3 false : Nat) : Int).fdiv (2 ^ (1 : Int).toNat)).fmod 2 == 0) = !b1 ∧ ((((m5 b0 b1 b2 b3 false : Nat) : Int).fdiv (2 ^ (2 : Int).toNat)).fmod 2 == 0) = !b2 ∧
    ((((m5 b0 b1 b2 b3 false : Nat) : Int).fdiv (2 ^ (3 : Int).toNat)).fmod 2 == 0) = !b3 ∧ ((((m5 b0 b1 b2 b3 false : Nat) : Int).fdiv (2 ^ (4 : Int).toNat)).fmod 2 == 0) = true ∧ m5 b0 b1 b2 b3 false < 16 := by decide +kernel
theorem part_m5 (R : Nat → Row) (b0 b1 b2 b3 : Bool) : part R (m5 b0 b1 b2 b3 false) = W R ((m5 b0 b1 b2 b3 false : Nat) : Int) := by
  obtain ⟨g0, g1, g2, g3, g4, hlt⟩ := bit_m5 b0 b1 b2 b3
  have hc := fun x => chain_ok R x (bsel b0 b1 b2 b3) [] List.nodup_nil
  have hkeys := Tot_keys R 4 _ (totOf_mem R hlt).2
  have hNK : NK (totOf R (m5 b0 b1 b2 b3 false)) := by rw [tot_chain]; exact (hc 0).1
  unfold part
  rw [keep_part hkeys _ (look_mem' hNK), dictOf_id _ (List.Nodup.sublist ((List.filter_sublist).map _) hNK)]
  unfold sumOf
  rw [part_sum (fun k => ((((m5 b0 b1 b2 b3 false : Nat) : Int).fdiv (2 ^ k.toNat)).fmod 2 == 0)) hNK hkeys]
  simp only [g0, g1, g2, g3, g4]
  rw [tot_chain, W_m5]
  have v : ∀ u : Nat, u < 5 → vl (chain R (bsel b0 b1 b2 b3)) (u : Int) = ((bsel b0 b1 b2 b3).map fun i => vl (dtab R i) (u : Int)).sum := fun u _ => by
    have := (hc (u : Int)).2
    show vl ((bsel b0 b1 b2 b3).foldl _ []) (u : Int) = _
    rw [this]
    simp [vl, lookI]
  have v0 := v 0 (by decide)
  have v1 := v 1 (by decide)
  have v2 := v 2 (by decide)
  have v3 := v 3 (by decide)
  have v4 := v 4 (by decide)
  have d : ∀ i u : Nat, i < 5 → u < 5 → vl (dtab R i) (u : Int) = if i = u then 0 else tie R i u := fun i u hi hu => dtab_vl R hi hu
  have s10 := tie_symm R 0 1
  have s20 := tie_symm R 0 2
  have s30 := tie_symm R 0 3
  have s40 := tie_symm R 0 4
  have s21 := tie_symm R 1 2
  have s31 := tie_symm R 1 3
  have s41 := tie_symm R 1 4
  have s32 := tie_symm R 2 3
  have s42 := tie_symm R 2 4
  have s43 := tie_symm R 3 4
  have w0 : vl (chain R (bsel b0 b1 b2 b3)) 0 = ((bsel b0 b1 b2 b3).map fun i => vl (dtab R i) ((0 : Nat) : Int)).sum := v0
  have w1 : vl (chain R (bsel b0 b1 b2 b3)) 1 = ((bsel b0 b1 b2 b3).map fun i => vl (dtab R i) ((1 : Nat) : Int)).sum := v1
  have w2 : vl (chain R (bsel b0 b1 b2 b3)) 2 = ((bsel b0 b1 b2 b3).map fun i => vl (dtab R i) ((2 : Nat) : Int)).sum := v2
  have w3 : vl (chain R (bsel b0 b1 b2 b3)) 3 = ((bsel b0 b1 b2 b3).map fun i => vl (dtab R i) ((3 : Nat) : Int)).sum := v3
  have w4 : vl (chain R (bsel b0 b1 b2 b3)) 4 = ((bsel b0 b1 b2 b3).map fun i => vl (dtab R i) ((4 : Nat) : Int)).sum := v4
  rw [w0, w1, w2, w3, w4]
  clear v v0 v1 v2 v3 v4 w0 w1 w2 w3 w4 hc hkeys hNK hlt g0 g1 g2 g3 g4
  have e0 : ∀ u : Nat, u < 5 → vl (dtab R 0) (u : Int) = if 0 = u then 0 else tie R 0 u := fun u hu => d 0 u (by decide) hu
  cases b0 <;> cases b1 <;> cases b2 <;> cases b3 <;>
    simp only [bsel, sw', if_true, if_false, List.append_nil, List.nil_append, List.cons_append, List.map_cons, List.map_nil, List.sum_cons, List.sum_nil, Bool.not_true, Bool.not_false, Bool.false_eq_true, bne_self_eq_false, Bool.bne_false, Bool.bne_true,
      d 0 0 (by decide) (by decide), d 0 1 (by decide) (by decide), d 0 2 (by decide) (by decide), d 0 3 (by decide) (by decide), d 0 4 (by decide) (by decide),
      d 1 0 (by decide) (by decide), d 1 1 (by decide) (by decide), d 1 2 (by decide) (by decide), d 1 3 (by decide) (by decide), d 1 4 (by decide) (by decide),
      d 2 0 (by decide) (by decide), d 2 1 (by decide) (by decide), d 2 2 (by decide) (by decide), d 2 3 (by decide) (by decide), d 2 4 (by decide) (by decide),
      d 3 0 (by decide) (by decide), d 3 1 (by decide) (by decide), d 3 2 (by decide) (by decide), d 3 3 (by decide) (by decide), d 3 4 (by decide) (by decide), Nat.reduceEqDiff, reduceCtorEq] <;> omega
theorem m4_all : ∀ h : Fin 16, h.val = m5 (h.val.testBit 0) (h.val.testBit 1) (h.val.testBit 2) (h.val.testBit 3) false := by decide +kernel
theorem part_eq (R : Nat → Row) {h : Nat} (hh : h < 16) : part R h = W R (h : Int) := by
  have := m4_all ⟨h, hh⟩
  simp only at this
  rw [this]
  exact part_m5 R _ _ _ _
theorem m5_compl : ∀ S : Fin 32, 31 - S.val = m5 (!S.val.testBit 0) (!S.val.testBit 1) (!S.val.testBit 2) (!S.val.testBit 3) (!S.val.testBit 4) := by decide +kernel
theorem W_compl (R : Nat → Row) {S : Nat} (h : S < 32) : W R ((31 - S : Nat) : Int) = W R (S : Int) := by
  have e1 := m5_compl ⟨S, h⟩
  have e2 := cover0 ⟨S, h⟩
  simp only at e1 e2
  have n : ∀ a b : Bool, ((!a) != (!b)) = (a != b) := by decide
  rw [e1, W_m5]
  conv => rhs; rw [e2]
  rw [W_m5]
  simp only [n]
theorem exists_min : ∀ (cs : List Int), cs ≠ [] → ∃ m ∈ cs, ∀ c ∈ cs, m ≤ c
  | [], h => absurd rfl h
  | [c], _ => ⟨c, .head _, fun d hd => by rw [List.mem_singleton.mp hd]; exact Int.le_refl _⟩
  | c :: d :: r, _ => by
    obtain ⟨m, hm, hle⟩ := exists_min (d :: r) (by simp)
    by_cases q : c ≤ m
    · refine ⟨c, .head _, fun e he => ?_⟩
      rcases List.mem_cons.mp he with rfl | he
      · exact Int.le_refl _
      · exact Int.le_trans q (hle e he)
    · refine ⟨m, .tail _ hm, fun e he => ?_⟩
      rcases List.mem_cons.mp he with rfl | he
      · omega
      · exact hle e he
def partsI (R : Nat → Row) : List Int := (List.range 15).map fun h => part R (h + 1)
theorem partsTo_eq (R : Nat → Row) : partsTo R 15 = (partsI R).map .int := by unfold partsTo partsI; rw [List.map_map]; rfl
/-- at the end both least worths are one -/
theorem Inv.fin {R : Nat → Row} {ω : Nat → Nat → Int} {fl : Nat → List Bool} {s : Sta} (h : Inv R ω fl s) (h1 : s.ls.length = 1) : ∃ m, (m ∈ s.cs ∧ ∀ c ∈ s.cs, m ≤ c) ∧ m ∈ partsI R ∧ ∀ c ∈ partsI R, m ≤ c := by
  obtain ⟨v, hv⟩ : ∃ v, s.ls = [v] := by
    match s.ls, h1 with
    | [v], _ => exact ⟨v, rfl⟩
  have hH : s.H v = 31 := by have := h.sum; rw [hv] at this; simpa using this
  have hno : ∀ S : Nat, 1 ≤ S → S ≤ 30 → ∃ c ∈ s.cs, c ≤ W R (S : Int) := fun S a b => by
    rcases h.cover S a b with ⟨χ, e⟩ | z
    · rw [hv] at e
      simp only [maskS, List.map_cons, List.map_nil, List.sum_cons, List.sum_nil, hH] at e
      split at e <;> omega
    · exact z
  have hne : s.cs ≠ [] := by
    have := h.len
    intro z; rw [z, h1] at this; simp at this
  obtain ⟨m, hm, hle⟩ := exists_min s.cs hne
  refine ⟨m, ⟨hm, hle⟩, ?_, fun c hc => ?_⟩
  · obtain ⟨S, a, b, rfl⟩ := h.real m hm
    by_cases q : S ≤ 15
    · refine List.mem_map.mpr ⟨S - 1, List.mem_range.mpr (by omega), ?_⟩
      have : S - 1 + 1 = S := by omega
      rw [this, part_eq R (by omega)]
    · refine List.mem_map.mpr ⟨31 - S - 1, List.mem_range.mpr (by omega), ?_⟩
      have : 31 - S - 1 + 1 = 31 - S := by omega
      rw [this, part_eq R (by omega), W_compl R (by omega)]
  · obtain ⟨i, hi, rfl⟩ := List.mem_map.mp hc
    have hi' := List.mem_range.mp hi
    rw [part_eq R (by omega)]
    obtain ⟨d, hd, hd2⟩ := hno (i + 1) (by omega) (by omega)
    exact Int.le_trans (hle d hd) hd2
end Mine

namespace Mine
section
variable {w : World} {A : Around} {L a : Addr} {cd : Value} {h0 : Heap} {F0 : FH} {mg mb : Str → Option Value} {Q : OQ}
theorem st17 (c : COk (LC w A L a cd h0 F0) mg mb 3) {R : Nat → Row} {x : Ad} (k : ∀ δ' s ω fl, Inv R ω fl s → s.ls.length = 1 → Cov δ' (VW R x) → Q .next δ' (PS x s)) : Ex (LC w A L a cd h0 F0) (VW R x) (PS x (sta0 R)) S17p.1 Q := by
  refine Ex.while_ (fun n δ P => ∃ s ω fl, Inv R ω fl s ∧ n = s.ls.length ∧ Cov δ (VW R x) ∧ P = PS x s) 5 ⟨sta0 R, _, _, inv0 R, rfl, ⟨rfl, rfl, rfl, rfl, rfl, rfl, rfl, rfl, trivial⟩, rfl⟩ ?_
  rintro n δ P ⟨s, ω, fl, hI, rfl, hc, rfl⟩
  have hlen := hI.len
  refine while_split (Tr.cmp (Ev.callB (Ev.blt c gl_len (by decide) rfl) (ds := [.ex (.ref x.la)]) ⟨Ev.name c hc.2.1, trivial⟩ (CallP.lenL (.inr ⟨x.la, rfl, n_la⟩) (by rw [natL_len]; omega))) Ev.cint CmpP.gtI) (fun hb => ?_) (fun hb => ?_)
  · rw [natL_len] at hb
    have hb' := of_decide_eq_false hb
    have := hI.ne
    exact k _ s ω fl hI (by omega) hc
  · rw [natL_len] at hb
    have hb' := of_decide_eq_true hb
    obtain ⟨v0, pre, aa, l, T, hcut⟩ := hI.turn (by omega)
    refine Run.cov hc (turn_run c T fun δ' hc' => ⟨.inl rfl, (s.ls.erase l).length, ?_, nextSta s aa l, _, _, hI.next T hcut, rfl, hc', rfl⟩)
    rw [List.length_erase_of_mem T.hla]
    omega
theorem st18 (c : COk (LC w A L a cd h0 F0) mg mb 3) {R : Nat → Row} {x : Ad} {s : Sta} {m : Int} (h1 : m ∈ s.cs ∧ ∀ y ∈ s.cs, m ≤ y) (h2 : m ∈ partsI R) (h3 : ∀ y ∈ partsI R, m ≤ y) (k : ∀ δ' P', Q (.ret (.bool true)) δ' P') : Ex (LC w A L a cd h0 F0) (VW R x) (PS x s) S18p.1 Q := by
  have e : Dat.bool (m == m) = Dat.bool true := by simp
  refine Ex.ret (d := .bool (m == m)) (Ev.cmp (Ev.callB (Ev.blt c gl_min (by decide) rfl) (ds := [.ex (.ref x.ca)]) ⟨Ev.name c rfl, trivial⟩ (CallP.min (M := m) (L := s.cs) (.inr ⟨x.ca, rfl, n_ca⟩) c h1.1 h1.2)) (Ev.callB (Ev.blt c gl_min (by decide) rfl) (ds := [.list (partsTo R 15)]) ⟨Ev.name c rfl, trivial⟩ (CallP.min (M := m) (L := partsI R) (.inl (congrArg Dat.list (partsTo_eq R))) c h2 h3)) CmpP.eqI) ?_
  rw [e]
  exact k _ _
end
theorem law_ok (Ls : List Int) (hL : Ls.length ≤ 63) : FnOk (stm 17) 4 [.list (Ls.map .int)] (.bool true) := by
  refine FnOk.mkC (st := stm 17) (x0 := "script") rfl ?_ rfl ?_ (hnd := fun n => nodupS_ok rfl)
  · intro v pm code doc; rfl
  intro w A mg mb L a cd h0 F0 c
  replace c : COk (LC w A L a cd h0 F0) mg mb 3 := c
  show Run (LC w A L a cd h0 F0) _ _ _ _
  refine Run.cons (st0 c fun ra => ?_)
  refine Run.cons (st1 c hL fun δ1 hc => ?_)
  refine Run.cov hc (Run.freeze (x := "rows") rfl rfl ?_)
  refine Run.cov (δ' := [("rows", .list (tab5 fun v => rowD (rowOf Ls v)))]) ⟨rfl, trivial⟩ ?_
  generalize rowOf Ls = R
  refine Run.cons (st2 c fun δ2 hc => ?_)
  refine Run.cov hc (Run.cons (st3 c fun ta d0 d1 d2 d3 d4 => ?_))
  refine Run.cons (st4 c fun pa => ?_)
  refine Run.cons (st5 (R := R) (D := fun v => ([d0, d1, d2, d3, d4] : List Addr).getD v 0) (ta := ta) (pa := pa) c fun δ3 hc => ?_)
  refine Run.cov hc (Run.freeze (x := "pairs") rfl rfl ?_)
  refine Run.cov (δ' := [("tables", .ex (.ref ta)), ("pairs", .list (pairsTo R 5 0))]) ⟨rfl, rfl, trivial⟩ ?_
  refine freezeTabs (P := []) ?_
  have hd : (tab5 fun v => Dat.dict (dv R 5 0 v)) = tab5 fun v => Dat.dict (dtab R v) := by
    simp only [tab5, dv_end R (v := 0) (by decide), dv_end R (v := 1) (by decide), dv_end R (v := 2) (by decide), dv_end R (v := 3) (by decide), dv_end R (v := 4) (by decide)]
  rw [hd]
  refine Run.cons (st6 c fun wa => ?_)
  refine Run.cons (st7 c fun δ4 hc => ?_)
  refine Run.cov hc (Run.freeze (x := "worths") rfl rfl ?_)
  refine Run.cov (δ' := [("worths", .list (worthsTo R 32)), ("tables", .ex (.ref ta))]) ⟨rfl, rfl, trivial⟩ ?_
  refine Run.cons (st8 c ?_)
  refine Run.cons (st9 c fun δ5 hc => ?_)
  refine Run.cov hc (Run.cons (st10 c fun qa => ?_))
  refine Run.cons (st11 c fun δ6 hc => ?_)
  refine Run.cov hc (Run.freeze (x := "parted") rfl rfl ?_)
  refine Run.cov (δ' := [("tables", .ex (.ref ta)), ("worths", .list (worthsTo R 32)), ("parted", .list (partsTo R 15))]) ⟨rfl, rfl, rfl, trivial⟩ ?_
  refine Run.cons (st12 c fun ho => ?_)
  refine Run.cons (st13 c fun na => ?_)
  refine Run.cons (st14 c fun he => ?_)
  refine Run.cons (st15 c fun la => ?_)
  refine Run.cons (st16 c fun ca => ?_)
  refine Run.cons (st17 (R := R) (x := ⟨ca, la, he, na, ho, ta⟩) c fun δ7 s ω fl hI h1 hc => ?_)
  obtain ⟨m, m1, m2, m3⟩ := hI.fin h1
  exact Run.cov hc (Run.cons (st18 c m1 m2 m3 fun _ _ => rfl))
end Mine

set_option maxHeartbeats 8000000
namespace Mine
open_top hd for PySem.Challenge.rw_xp0003_01
end Mine

namespace Mine
theorem mg_at {Pm : Params} {h : Heap} {mg : Str → Option Value} (KX : (hd.heap_39 Pm).In h) (g : h.Ns mainGlobals mg) {o : Obj} {es : Array DictEntry} {ep : Nat} (h3 : (hd.heap_39 Pm).lookup 3 = some o) (hd' : o.data = .dict es ep) (x : Str) (v : Option Value) (hv : nsFind es x = v) : mg x = v := by
  obtain ⟨o', es', ep', ho, hdd, _, hf⟩ := g
  have h3' := KX 3 o h3
  have e : o' = o := Option.some.inj (ho.symm.trans h3')
  subst e
  rw [hd'] at hdd
  cases hdd
  rw [← hf x, hv]
theorem top_base {Pm : Params} {h : Heap} {mg mb : Str → Option Value} {loose : List Str} {mean : ExcName → Option Value} (KX : (hd.heap_39 Pm).In h) (T : Top hd.view_39 loose mean mg mb h) : Base mg mb h := by
  have key : ∀ (j : Nat) (d : DefRec), (recsOf hd.view_39)[j]? = some d → ∃ a o pm code doc, mg d.name = some (.ref a) ∧ h.get? a = some o ∧ o.data = .func (PySem.Calls.docDef d.name d.params d.body d.scope pm code doc) ∧ h.CodeRec code d.name := fun j d e => T.fn d (List.mem_of_getElem? e)
  have f0 := key 0 _ rfl
  have f1 := key 1 _ rfl
  have f2 := key 2 _ rfl
  have f3 := key 3 _ rfl
  have f4 := key 4 _ rfl
  have f5 := key 5 _ rfl
  have f6 := key 6 _ rfl
  have f7 := key 7 _ rfl
  refine { g := T.g, b := T.b, bb := T.builtins, lim := T.nolimit, free := fun x hx => ?_, fns := fun i hi => ?_, move := ⟨_, mg_at KX T.g rfl rfl _ _ rfl⟩, case := ⟨_, mg_at KX T.g rfl rfl _ _ rfl⟩, pat := ⟨50, _, _, 49, _, _, _, mg_at KX T.g rfl rfl _ _ rfl, KX 50 _ rfl, KX 49 _ rfl, rfl, ?_⟩ }
  · simp only [List.mem_cons, List.not_mem_nil, or_false] at hx
    rcases hx with rfl | rfl | rfl | rfl | rfl | rfl | rfl | rfl | rfl | rfl | rfl <;> exact mg_at KX T.g rfl rfl _ _ rfl
  · simp only [List.mem_cons, List.not_mem_nil, or_false] at hi
    rcases hi with rfl | rfl | rfl | rfl | rfl | rfl | rfl | rfl
    · exact f0
    · exact f1
    · exact f2
    · exact f3
    · exact f4
    · exact f5
    · exact f6
    · exact f7
  · decide +kernel
theorem well_ints {P : Params} {h : Heap} {w : World} {F : FH} : ∀ {vs : List Value} {L : List Int}, WellAll P h vs (ofPys (L.map PyData.int)) → DenL w F vs (L.map .int)
  | [], [], _ => trivial
  | _ :: _, [], h => (nomatch h)
  | [], _ :: _, h => (nomatch h)
  | v :: vs, x :: L, h => by
    cases h with
    | cons h1 h2 =>
      cases h1
      exact ⟨.int _ _, well_ints h2⟩
theorem law_end {s₁ : Shared} {w : World} {mg mb : Str → Option Value} {loose : List Str} {mean : ExcName → Option Value} (T : Top hd.view_39 loose mean mg mb s₁.heap) (KX : (hd.heap_39 w.params).In s₁.heap) {fa : Addr} (hmg : mg "law" = some (.ref fa)) (hg : s₁.gens = #[]) {Ls : List Int} (hL : Ls.length ≤ 63) {a : Addr}
    (hw : Well w.params s₁.heap (.ref a) (ofPy (.list (Ls.map PyData.int)))) {cl : Str → Option Addr} {mean' : ExcName → Option Value} :
    wpAny (model PG w) callerA (call (.ref fa) [.ref a]) (fun v s' => GoodWG PySem.Challenge.rw_xp0003_01.row.claim cl mean' [ofPy (.list (Ls.map PyData.int))] s₁ (.ok (.ret v)) s') (fun e s' => GoodWG PySem.Challenge.rw_xp0003_01.row.claim cl mean' [ofPy (.list (Ls.map PyData.int))] s₁ (.error e) s') s₁ := by
  have f8 : ∃ a o pm code doc, mg "law" = some (.ref a) ∧ s₁.heap.get? a = some o ∧ o.data = .func (PySem.Calls.docDef _ _ _ _ pm code doc) ∧ s₁.heap.CodeRec code "law" := T.fn _ (List.mem_of_getElem? (i := 8) rfl)
  obtain ⟨fa', o, pm, code, doc, h1, h2, h3, h4⟩ := f8
  rw [hmg] at h1
  cases h1
  have hwl : ∃ vs : List Value, s₁.heap.get? a = some { cls := .type "list", data := .seq vs.toArray } ∧ WellAll w.params s₁.heap vs (ofPys (Ls.map PyData.int)) := by
    cases hw with
    | list e1 e2 => exact ⟨_, e1, e2⟩
  obtain ⟨vs, e1, e2⟩ := hwl
  have hF : Sub (fun b => if b = a then some { cls := .type "list", data := .seq vs.toArray } else none) s₁.heap := fun b ob e => by
    by_cases q : b = a
    · subst q; simp only [if_true] at e; cases e; exact e1
    · simp only [if_neg q] at e; cases e
  have els := (well_ints (w := w) (F := fun b => if b = a then some { cls := .type "list", data := .seq vs.toArray } else none) e2).els
  have run := (law_ok Ls hL).run w callerA mg mb (fun b => if b = a then some { cls := .type "list", data := .seq vs.toArray } else none) s₁ fa o pm code doc [.ref a] ⟨rfl, by decide, by decide⟩ (top_base KX T) h2 h3 h4 hF ⟨.list (n := 0) (if_pos rfl) els.1 els.2, trivial⟩
  refine wpAny_mono run (fun v s' h => ?_) fun _ _ e => e.elim
  obtain ⟨F', g, d⟩ := h
  cases d
  obtain ⟨h', tk, rfl⟩ := g.upd
  exact ⟨.inl ⟨_, _, [], rfl, fun _ => rfl, ReadsW.bool true, (by first | rfl | wrow_post), fun _ => ⟨List.nodup_nil, fun _ hm => (nomatch hm)⟩⟩, OldK.of_keep g.keep, rfl, by show AllBare s₁.gens; rw [hg]; exact AllBare.empty⟩
end Mine

theorem PySem.Challenge.cw_xp0003_01_holds : PySem.Challenge.rw_xp0003_01.Holds :=
  Mine.hd (by
  k_fill
  intro w s₀ s₁ mg mb G Y fa o pm cd doc dV kV ho hd hcd hD hmg hg args vals as hpre hlay hrd hwl hlo
  have KX := kIn_of Y
  wrow_args hpre hlay hrd hwl hlo
  refine Ground.open G ?_
  intro T B D TE TW
  exact Mine.law_end T KX hmg hg (by omega) (by assumption))
