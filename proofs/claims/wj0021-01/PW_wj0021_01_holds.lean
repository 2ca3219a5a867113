import PyProof.Rows.All
import Wide.All
import OpenK.AllK
import Wide.FinOn
import KE.KTryOn
import PyProof.GenQ
import PyProof.GenComp
import PyProof.Draws
import Lean
import PySem.Challenge.RW_wj0021_01
set_option Elab.async false
set_option autoImplicit false
set_option linter.all false
set_option genInjectivity false
set_option genSizeOf false
set_option genSizeOfSpec false
/-! part 1 -/
set_option maxRecDepth 100000
namespace Mine
open PySem PySem.Calls PyProof.Rows PySem.W
abbrev KM := Addr → Option Obj
abbrev lObj (vs : List Value) (n : Nat) : Obj := { cls := .type "list", data := .seq vs.toArray n }
abbrev tObj (vs : List Value) (n : Nat) : Obj := { cls := .type "tuple", data := .seq vs.toArray n }
noncomputable def hk (hid : List Addr) (h : Heap) : KM := fun a => if a ∈ hid then none else h.get? a
mutual
noncomputable def Rd (K : KM) : PyData → Value → Prop
  | .none, v => v = .none
  | .bool b, v => v = .bool b
  | .int i, v => ∃ t, v = .int i t
  | .str x, v => ∃ t, v = .str x t
  | .list xs, v => ∃ a vs n, v = .ref a ∧ K a = some (lObj vs n) ∧ RdL K xs vs
  | .tuple xs, v => ∃ a vs n, v = .ref a ∧ K a = some (tObj vs n) ∧ RdL K xs vs
  | .dict _, _ => False
noncomputable def RdL (K : KM) : List PyData → List Value → Prop
  | [], vs => vs = []
  | d :: ds, vs => ∃ v r, vs = v :: r ∧ Rd K d v ∧ RdL K ds r
end
noncomputable def isSeqObj (o : Obj) : Prop := (∃ vs n, o = lObj vs n) ∨ ∃ vs n, o = tObj vs n
mutual
theorem Rd.mono {K K' : KM} (h : ∀ a o, isSeqObj o → K a = some o → K' a = some o) : ∀ (d : PyData) (v : Value), Rd K d v → Rd K' d v
  | .none, _, e => by simpa only [Rd] using e
  | .bool _, _, e => by simpa only [Rd] using e
  | .int _, _, e => by simpa only [Rd] using e
  | .str _, _, e => by simpa only [Rd] using e
  | .list xs, _, e => by
    simp only [Rd] at e ⊢
    obtain ⟨a, vs, n, e1, e2, e3⟩ := e
    exact ⟨a, vs, n, e1, h _ _ (.inl ⟨_, _, rfl⟩) e2, RdL.mono h xs vs e3⟩
  | .tuple xs, _, e => by
    simp only [Rd] at e ⊢
    obtain ⟨a, vs, n, e1, e2, e3⟩ := e
    exact ⟨a, vs, n, e1, h _ _ (.inr ⟨_, _, rfl⟩) e2, RdL.mono h xs vs e3⟩
  | .dict _, _, e => by simp only [Rd] at e
theorem RdL.mono {K K' : KM} (h : ∀ a o, isSeqObj o → K a = some o → K' a = some o) : ∀ (ds : List PyData) (vs : List Value), RdL K ds vs → RdL K' ds vs
  | [], _, e => by simpa only [RdL] using e
  | d :: ds, _, e => by
    simp only [RdL] at e ⊢
    obtain ⟨v, r, e1, e2, e3⟩ := e
    exact ⟨v, r, e1, Rd.mono h d v e2, RdL.mono h ds r e3⟩
end
theorem RdL.length {K : KM} : ∀ {ds : List PyData} {vs : List Value}, RdL K ds vs → vs.length = ds.length
  | [], _, e => by simp only [RdL] at e; rw [e]; rfl
  | d :: ds, _, e => by
    simp only [RdL] at e
    obtain ⟨v, r, rfl, _, e3⟩ := e
    simp [RdL.length e3]
theorem RdL.get {K : KM} : ∀ {ds : List PyData} {vs : List Value}, RdL K ds vs → ∀ {i : Nat} {d : PyData}, ds[i]? = some d → ∃ v, vs[i]? = some v ∧ Rd K d v
  | [], _, _, _, _, h => by simp at h
  | d :: ds, _, e, i, d', h => by
    simp only [RdL] at e
    obtain ⟨v, r, rfl, e2, e3⟩ := e
    cases i with
    | zero => simp at h; subst h; exact ⟨v, rfl, e2⟩
    | succ i => simp at h; obtain ⟨u, hu, hd⟩ := RdL.get e3 h; exact ⟨u, by simpa using hu, hd⟩
theorem RdL.append {K : KM} : ∀ {ds es : List PyData} {vs us : List Value}, RdL K ds vs → RdL K es us → RdL K (ds ++ es) (vs ++ us)
  | [], _, _, _, e, f => by simp only [RdL] at e; subst e; simpa using f
  | d :: ds, _, _, _, e, f => by
    simp only [RdL] at e
    obtain ⟨v, r, rfl, e2, e3⟩ := e
    simp only [List.cons_append, RdL]
    exact ⟨v, _, rfl, e2, RdL.append e3 f⟩
theorem RdL.snoc {K : KM} {ds : List PyData} {vs : List Value} {d : PyData} {v : Value} (e : RdL K ds vs) (f : Rd K d v) : RdL K (ds ++ [d]) (vs ++ [v]) :=
  e.append (by simp only [RdL]; exact ⟨v, [], rfl, f, rfl⟩)
theorem RdL.drop {K : KM} : ∀ {ds : List PyData} {vs : List Value} (k : Nat), RdL K ds vs → RdL K (ds.drop k) (vs.drop k)
  | _, _, 0, e => by simpa using e
  | [], _, k + 1, e => by simp only [RdL] at e; subst e; simp [RdL]
  | d :: ds, _, k + 1, e => by
    simp only [RdL] at e
    obtain ⟨v, r, rfl, e2, e3⟩ := e
    simpa using RdL.drop k e3
theorem RdL.take {K : KM} : ∀ {ds : List PyData} {vs : List Value} (k : Nat), RdL K ds vs → RdL K (ds.take k) (vs.take k)
  | _, _, 0, e => by simp [RdL]
  | [], _, k + 1, e => by simp only [RdL] at e; subst e; simp [RdL]
  | d :: ds, _, k + 1, e => by
    simp only [RdL] at e
    obtain ⟨v, r, rfl, e2, e3⟩ := e
    simp only [List.take_succ_cons, RdL]
    exact ⟨v, _, rfl, e2, RdL.take k e3⟩
theorem RdL.of_get {K : KM} : ∀ {ds : List PyData} {vs : List Value}, vs.length = ds.length → (∀ (i : Nat) (d : PyData), ds[i]? = some d → ∃ v, vs[i]? = some v ∧ Rd K d v) → RdL K ds vs
  | [], vs, hl, _ => by simp only [RdL]; exact List.length_eq_zero_iff.mp hl
  | d :: ds, [], hl, _ => by simp at hl
  | d :: ds, v :: vs, hl, h => by
    simp only [RdL]
    refine ⟨v, vs, rfl, ?_, RdL.of_get (by simpa using hl) fun i d' hd => ?_⟩
    · obtain ⟨u, hu, hd⟩ := h 0 d (by simp)
      simp at hu; subst hu; exact hd
    · obtain ⟨u, hu, hd⟩ := h (i + 1) d' (by simpa using hd)
      exact ⟨u, by simpa using hu, hd⟩
/-- immediates need no heap -/
noncomputable def imm : PyData → Bool
  | .none | .bool _ | .int _ | .str _ => true
  | _ => false
theorem Rd.imm {K K' : KM} {d : PyData} {v : Value} (hi : imm d = true) (h : Rd K d v) : Rd K' d v := by
  cases d <;> simp [Mine.imm] at hi <;> simpa only [Rd] using h
/-- the state s' stands behind s and all that stood in s stands in it -/
structure Kp (s s' : Shared) : Prop where
  get : ∀ {b : Addr} {o : Obj}, s.heap.get? b = some o → s'.heap.get? b = some o
  os : s'.os = s.os
  bare : AllBare s.gens → AllBare s'.gens
  gen : ∀ {g : Nat} {x : GenState}, s.gens[g]? = some x → s'.gens[g]? = some x
theorem Kp.refl (s : Shared) : Kp s s := ⟨id, rfl, id, id⟩
theorem Kp.trans {s s₁ s₂ : Shared} (h : Kp s s₁) (k : Kp s₁ s₂) : Kp s s₂ := ⟨fun e => k.get (h.get e), k.os.trans h.os, fun e => k.bare (h.bare e), fun e => k.gen (h.gen e)⟩
theorem Kp.mk' {s : Shared} {h' : Heap} {tk : Nat} (k : ∀ b o, s.heap.get? b = some o → h'.get? b = some o) : Kp s { s with heap := h', toks := tk } := ⟨fun e => k _ _ e, rfl, id, id⟩
theorem Kp.tok {s : Shared} {tk : Nat} : Kp s { s with toks := tk } := ⟨id, rfl, id, id⟩
theorem Kp.push {s : Shared} {tk : Nat} (o : Obj) : Kp s { s with heap := s.heap.push o, toks := tk } := Kp.mk' fun _ _ e => Heap.get?_push_of_some o e
theorem hk_mono {hid : List Addr} {s s' : Shared} (k : Kp s s') {a : Addr} {o : Obj} (e : hk hid s.heap a = some o) : hk hid s'.heap a = some o := by
  unfold hk at e ⊢
  split at e
  · cases e
  · rename_i h; rw [if_neg h]; exact k.get e
theorem Rd.keeps {hid : List Addr} {s s' : Shared} (k : Kp s s') {d : PyData} {v : Value} (h : Rd (hk hid s.heap) d v) : Rd (hk hid s'.heap) d v :=
  Rd.mono (fun _ _ _ e => hk_mono k e) d v h
theorem RdL.keeps {hid : List Addr} {s s' : Shared} (k : Kp s s') {d : List PyData} {v : List Value} (h : RdL (hk hid s.heap) d v) : RdL (hk hid s'.heap) d v :=
  RdL.mono (fun _ _ _ e => hk_mono k e) d v h
theorem hk_sub {hid : List Addr} {h : Heap} {a : Addr} {o : Obj} (e : hk hid h a = some o) : h.get? a = some o := by
  unfold hk at e
  split at e
  · cases e
  · exact e
theorem hk_of {hid : List Addr} {h : Heap} {a : Addr} {o : Obj} (n : a ∉ hid) (e : h.get? a = some o) : hk hid h a = some o := by
  unfold hk; rw [if_neg n]; exact e
theorem hk_not {hid : List Addr} {h : Heap} {a : Addr} {o : Obj} (e : hk hid h a = some o) : a ∉ hid := by
  intro n; unfold hk at e; rw [if_pos n] at e; cases e
/-- the hidden addresses are in use -/
noncomputable def HidOk (hid : List Addr) (s : Shared) : Prop := ∀ a ∈ hid, ∃ o, s.heap.get? a = some o
theorem HidOk.keeps {hid : List Addr} {s s' : Shared} (h : HidOk hid s) (k : Kp s s') : HidOk hid s' := fun a m => let ⟨o, e⟩ := h a m; ⟨o, k.get e⟩
theorem HidOk.new {hid : List Addr} {s : Shared} (h : HidOk hid s) {a : Addr} (n : s.heap.get? a = none) : a ∉ hid := fun m => by
  obtain ⟨o, e⟩ := h a m; rw [n] at e; cases e
theorem get_size (h : Heap) : h.get? h.objs.size = none := Heap.get?_none_of_le (Nat.le_refl _)
theorem HidOk.size {hid : List Addr} {s : Shared} (h : HidOk hid s) : s.heap.objs.size ∉ hid := h.new (get_size _)
section
variable (prog : Program) (w : World)
/-- a tree that yields the data d and changes nothing that stands -/
noncomputable def PD (A : Around) (hid : List Addr) (s : Shared) (t : Sem Value) (d : PyData) : Prop :=
  ∀ (Q E : Value → Shared → Prop), (∀ v s', Kp s s' → Rd (hk hid s'.heap) d v → Q v s') → wpAny (model prog w) A t Q E s
noncomputable def PBd (A : Around) (s : Shared) (t : Sem Bool) (b : Bool) : Prop :=
  ∀ (Q : Bool → Shared → Prop) (E : Value → Shared → Prop), (∀ s', Kp s s' → Q b s') → wpAny (model prog w) A t Q E s
/-- several trees, one behind the other -/
noncomputable def PL (A : Around) (hid : List Addr) (s : Shared) (t : Sem (List Value)) (ds : List PyData) : Prop :=
  ∀ (Q : List Value → Shared → Prop) (E : Value → Shared → Prop), (∀ vs s', Kp s s' → RdL (hk hid s'.heap) ds vs → Q vs s') → wpAny (model prog w) A t Q E s
end
section
variable {prog : Program} {w : World} {A : Around} {hid : List Addr} {s : Shared} {t : Sem Value} {d : PyData}
end
end Mine
/-! part 2 -/
set_option maxRecDepth 100000
namespace Mine
open PySem PySem.Calls PyProof.Rows PySem.W
abbrev Sig := List (Str × PyData)
abbrev Sc := List (Str × NameKind)
inductive Slot where
  | sh (d : PyData)
  | ow (ds : List PyData)
abbrev Sto := List (Str × Slot)
inductive Out where
  | next (st : Sto)
  | ret (d : PyData)
noncomputable def nm (s : String) : Str := Str.ofString s
structure Ip where
  ev : Sc → Sig → Expr → Option PyData
  tst : Sc → Sig → Expr → Option Bool
  src : Sc → Sig → Expr → Option (Bool × List PyData)
  exs : Sc → Sto → List Stmt → Option Out
  call : Str → List PyData → Option PyData
/-! views: one level at a time -/
noncomputable def vName : Expr → Option (Str × Pos)
  | .Name x p => some (x, p)
  | _ => none
noncomputable def vTuple : Expr → Option (List Expr)
  | .Tuple es _ _ => some es
  | _ => none
noncomputable def vList : Expr → Option (List Expr)
  | .List es _ => some es
  | _ => none
noncomputable def vCall : Expr → Option (Expr × List Expr × List Keyword × Pos)
  | .Call f as ks p => some (f, as, ks, p)
  | _ => none
noncomputable def vAttr : Expr → Option (Expr × Str × Pos)
  | .Attribute v m p => some (v, m, p)
  | _ => none
noncomputable def vConst : Expr → Option Const
  | .Constant c _ _ => some c
  | _ => none
noncomputable def vSlice : Expr → Option (Option Expr × Option Expr × Option Expr)
  | .Slice lo hi st _ => some (lo, hi, st)
  | _ => none
noncomputable def vStrC : Const → Option Str
  | .str x => some x
  | _ => none
noncomputable def vIntC : Const → Option Int
  | .int i => some i
  | _ => none
noncomputable def vTup : PyData → Option (List PyData)
  | .tuple xs => some xs
  | _ => none
noncomputable def vLst : PyData → Option (List PyData)
  | .list xs => some xs
  | _ => none
noncomputable def vInt : PyData → Option Int
  | .int i => some i
  | _ => none
/-- `g(..)`: a name is called, no keywords -/
noncomputable def vNCall (e : Expr) : Option (Str × List Expr) := (vCall e).bind fun c => (vName c.1).bind fun g => if c.2.2.1.isEmpty then some (g.1, c.2.1) else none
/-- `x.m(..)`: a name's method is called, no keywords; on the line where it begins -/
noncomputable def vMeth (e : Expr) : Option (Str × Str × Bool × List Expr) := (vCall e).bind fun c => (vAttr c.1).bind fun a => (vName a.1).bind fun x => if c.2.2.1.isEmpty then some (x.1, a.2.1, a.2.2.endLine == c.2.2.2.line, c.2.1) else none
noncomputable def constD : Const → Option PyData
  | .none => some .none
  | .bool b => some (.bool b)
  | .int i => some (.int i)
  | .str x => if x.length ≤ 1000 then some (.str x) else none
  | _ => none
/-- sizes that stay far below the model's line -/
noncomputable def few (n : Nat) : Bool := decide (n ≤ 100000)
noncomputable def binI : Operator → Int → Int → Option PyData
  | .Add, a, b => some (.int (a + b))
  | .Sub, a, b => some (.int (a - b))
  | .Mult, a, b => if a.natAbs < 1024 then some (.int (a * b)) else none
  | .Mod, a, b => if b = 0 then none else some (.int (a.fmod b))
  | .FloorDiv, a, b => if 0 < b ∧ b < 1024 then some (.int (a.fdiv b)) else none
  | .Pow, a, b => if a = 10 ∧ b = 6 then some (.int 1000000) else none
  | _, _, _ => none
noncomputable def isAdd : Operator → Bool
  | .Add => true
  | _ => false
noncomputable def isMult : Operator → Bool
  | .Mult => true
  | _ => false
noncomputable def binD (op : Operator) (a b : PyData) : Option PyData := match a with
  | .int i => (match b with | .int j => binI op i j | _ => none)
  | .str x => (match b with
    | .int n => if isMult op then (if x.length ≤ 1 ∧ 0 ≤ n ∧ n < 100 then some (.str (Txt.mul x n)) else none) else none
    | .str y => if isAdd op then (if few (x.length + y.length) then some (.str (x ++ y)) else none) else none
    | _ => none)
  | .list xs => (match b with
    | .list ys => if isAdd op then (if few (xs.length + ys.length) then some (.list (xs ++ ys)) else none) else none
    | _ => none)
  | _ => none
noncomputable def inInts (i : Int) : List PyData → Option Bool
  | [] => some false
  | .int j :: r => (inInts i r).map fun b => (j == i) || b
  | _ :: _ => none
noncomputable def shaped' (d : PyData) : Bool := SeqAt.shaped d
noncomputable def isNoneD : PyData → Bool
  | .none => true
  | _ => false
noncomputable def cmpI : CmpOp → Int → Int → Option Bool
  | .Lt, a, b => some (decide (a < b))
  | .LtE, a, b => some (decide (a ≤ b))
  | .Gt, a, b => some (decide (b < a))
  | .GtE, a, b => some (decide (b ≤ a))
  | .Eq, a, b => some (a == b)
  | .NotEq, a, b => some (a != b)
  | _, _, _ => none
noncomputable def cmpS : CmpOp → Str → Str → Option Bool
  | .Eq, a, b => some (a == b)
  | .NotEq, a, b => some (a != b)
  | _, _, _ => none
noncomputable def cmpL : CmpOp → List PyData → List PyData → Option Bool
  | .Eq, a, b => if shaped' (.list a) && shaped' (.list b) then some (PyData.eqv (.list a) (.list b)) else none
  | .NotEq, a, b => if shaped' (.list a) && shaped' (.list b) then some (!PyData.eqv (.list a) (.list b)) else none
  | _, _, _ => none
noncomputable def isIn : CmpOp → Bool
  | .In => true
  | _ => false
noncomputable def isIs : CmpOp → Bool
  | .Is => true
  | _ => false
noncomputable def cmpD (op : CmpOp) (a b : PyData) : Option Bool := match b with
  | .none => if isIs op then some (isNoneD a) else none
  | .int j => (match a with | .int i => cmpI op i j | _ => none)
  | .str y => (match a with | .str x => cmpS op x y | _ => none)
  | .list ys => (match a with
    | .int i => if isIn op then inInts i ys else none
    | .list xs => cmpL op xs ys
    | _ => none)
  | _ => none
/-- where a source keeps its tuple, the target must be a tuple -/
noncomputable def fitT (b : Bool) (tgt : Expr) : Bool := !b || (vTuple tgt).isSome
/-- a target's bindings -/
noncomputable def bind2 (sc : Sc) (ts : List Expr) (ds : List PyData) : Option Sig := match ts with
  | [a, b] => (match ds with
    | [d, e] => (vName a).bind fun x => (vName b).bind fun y => if sc.lookup x.1 == some .local && sc.lookup y.1 == some .local && x.1 != y.1 then some [(y.1, e), (x.1, d)] else none
    | _ => none)
  | _ => none
noncomputable def bindT (sc : Sc) (tgt : Expr) (d : PyData) : Option Sig := match vName tgt with
  | some x => if sc.lookup x.1 == some .local then some [(x.1, d)] else none
  | none => (vTuple tgt).bind fun ts => (vTup d).bind fun ds => bind2 sc ts ds
noncomputable def okScope (s : Scope) : Bool := s.kind == .function && s.names.all fun y => y.2 != .cell && y.1 != nm "__debug__" && y.1 != nm "__classdict__" && (y.2 != .local || s.names.lookup y.1 == some .local)
noncomputable def freesIn (sc : Sc) (s : Scope) : Bool := s.names.all fun y => y.2 != .free || sc.lookup y.1 == some .cell || sc.lookup y.1 == some .free
noncomputable def relabelN (names sc : Sc) : Sc := names.map fun (n, k) => if k == .free && sc.lookup n == some .cell then (n, .cell) else (n, k)
noncomputable def frees (s : Scope) (σ : Sig) : Sig := σ.filter fun p => s.names.lookup p.1 == some .free
noncomputable def tests (R : Ip) (sc : Sc) (σ : Sig) : List Expr → Option Bool
  | [] => some true
  | c :: r => (R.tst sc σ c).bind fun b => match b with | true => tests R sc σ r | false => some false
noncomputable def compGo (R : Ip) (sc : Sc) (σ : Sig) (tgt : Expr) (ifs : List Expr) (elt : Expr) : List PyData → Option (List PyData)
  | [] => some []
  | d :: ds => (bindT sc tgt d).bind fun b => (tests R sc (b ++ σ) ifs).bind fun ok => match ok with
    | true => (R.ev sc (b ++ σ) elt).bind fun x => (compGo R sc σ tgt ifs elt ds).bind fun xs => some (x :: xs)
    | false => compGo R sc σ tgt ifs elt ds
noncomputable def compGo2 (R : Ip) (sc : Sc) (σ : Sig) (x y : Str) (p q : Pos) (it2 elt : Expr) : List PyData → Option (List PyData)
  | [] => some []
  | d :: ds => (bindT sc (.Name x p) d).bind fun b => (R.src sc (b ++ σ) it2).bind fun items =>
    if fitT items.1 (.Name y q) && few items.2.length then (compGo R sc (b ++ σ) (.Name y q) [] elt items.2).bind fun xs => (compGo2 R sc σ x y p q it2 elt ds).bind fun r => if few (xs.length + r.length) then some (xs ++ r) else none else none
noncomputable def mapO (f : Expr → Option PyData) : List Expr → Option (List PyData)
  | [] => some []
  | e :: r => (f e).bind fun d => (mapO f r).bind fun ds => some (d :: ds)
noncomputable def sumD : List PyData → Option Int
  | [] => some 0
  | .int i :: r => if i.natAbs < 2 ^ 40 then (sumD r).map (i + ·) else none
  | _ :: _ => none
noncomputable def strsD : List PyData → Option (List Str)
  | [] => some []
  | .str x :: r => (strsD r).map (x :: ·)
  | _ :: _ => none
/-- an index or an end of a slice -/
noncomputable def partD : Option PyData → Option (Option Int)
  | none => some none
  | some .none => some none
  | some (.int i) => some (some i)
  | _ => none
noncomputable def optO (f : Expr → Option PyData) : Option Expr → Option (Option PyData)
  | none => some none
  | some e => (f e).map some
noncomputable def idxD (xs : List PyData) (i : Int) : Option PyData := if 0 ≤ i then xs[i.toNat]? else none
noncomputable def sliceD (xs : List PyData) (lo hi st : Option Int) : Option PyData :=
  match st with
  | none => some (.list ((xs.drop (lo.elim 0 (clipAt xs.length))).take (hi.elim xs.length (clipAt xs.length) - lo.elim 0 (clipAt xs.length))))
  | some k => if 0 < k then some (.list ((sliceRange (sliceBounds lo hi st xs.length).1 (sliceBounds lo hi st xs.length).2.1 (sliceBounds lo hi st xs.length).2.2).filterMap (xs[·]?))) else none
noncomputable def subD (d : PyData) (lo hi st : Option Int) : Option PyData := match d with
  | .list xs => if few xs.length then sliceD xs lo hi st else none
  | .str x => match lo, hi, st with
    | none, some j, none => if few x.length then some (.str (Txt.slice x none (some j))) else none
    | _, _, _ => none
  | _ => none
noncomputable def isNm (x : Str) (s : String) : Bool := x == Str.ofString s
/-- a name that stands for a global: the block's table says so -/
noncomputable def glob (sc : Sc) (σ : Sig) (f : Str) : Bool := sc.lookup f == some .globalImplicit && (σ.lookup f).isNone
noncomputable def rangeD (ds : List PyData) : Option (List PyData) := match ds with
  | [.int n] => if 0 ≤ n ∧ n ≤ 64 then some ((List.range n.toNat).map fun (k : Nat) => .int (k : Int)) else none
  | [.int a, .int b] => if a ≤ b ∧ b - a ≤ 64 ∧ a.natAbs < 2 ^ 40 then some ((List.range (b - a).toNat).map fun (k : Nat) => .int (a + (k : Int))) else none
  | _ => none
structure Prims where
  /-- the text's defs by name: parameters, body, scope -/
  fn : Str → Option (List Str × List (Str × PyData) × List Stmt × Scope)
  /-- calls that are known by a theorem of their own -/
  prim : Str → List PyData → Option PyData
  known : Str → Bool
  /-- `sorted` -/
  sortD : List PyData → Option (List PyData)
/-- the names of built-ins that stand for themselves -/
noncomputable def bfn1 (P : Prims) (f : String) (d : PyData) : Option PyData :=
  if f = "int" then (vInt d).map .int else
  (vLst d).bind fun xs =>
    if f = "len" then (if few xs.length then some (.int xs.length) else none)
    else if f = "sum" then (if few xs.length then (sumD xs).map .int else none)
    else if f = "sorted" then (P.sortD xs).map .list
    else none
noncomputable def bfn (P : Prims) (f : String) (ds : List PyData) : Option PyData := match ds with
  | [d] => bfn1 P f d
  | _ => none
noncomputable def bfnNames : List String := ["len", "sum", "int", "sorted"]
noncomputable def notSetE : Expr → Bool
  | .Set .. => false
  | _ => true
noncomputable def evUn (R : Ip) (sc : Sc) (σ : Sig) (op : UnaryOp) (x : Expr) : Option PyData := match op with
  | .USub => (R.ev sc σ x).bind fun a => (vInt a).bind fun i => some (.int (-i))
  | _ => none
noncomputable def evBool (R : Ip) (sc : Sc) (σ : Sig) (op : BoolOp) (es : List Expr) : Option PyData := match op with
  | .And => (match es with
    | [x, y] => (R.ev sc σ x).bind fun a => match a with
      | .bool b => cond b (R.ev sc σ y) (some (.bool false))
      | _ => none
    | _ => none)
  | _ => none
noncomputable def cmp1 (ops : List CmpOp) (rs : List Expr) : Option (CmpOp × Expr) := match ops with
  | [op] => (match rs with | [r] => some (op, r) | _ => none)
  | _ => none
noncomputable def evSub (R : Ip) (sc : Sc) (σ : Sig) (v i : Expr) : Option PyData := match vSlice i with
  | some s => (R.ev sc σ v).bind fun d => (optO (R.ev sc σ) s.1).bind fun a => (optO (R.ev sc σ) s.2.1).bind fun b => (optO (R.ev sc σ) s.2.2).bind fun c =>
    (partD a).bind fun a => (partD b).bind fun b => (partD c).bind fun c => subD d a b c
  | none => (R.ev sc σ v).bind fun d => (R.ev sc σ i).bind fun k => (vLst d).bind fun xs => (vInt k).bind fun k => if few xs.length then idxD xs k else none
noncomputable def evLR (R : Ip) (sc : Sc) (σ : Sig) (as : List Expr) : Option PyData := match as with
  | [a] => (vNCall a).bind fun c => if glob sc σ c.1 && isNm c.1 "range" then (mapO (R.ev sc σ) c.2).bind fun ds => (rangeD ds).map .list else none
  | _ => none
noncomputable def evNCall (P : Prims) (R : Ip) (sc : Sc) (σ : Sig) (f : Str) (as : List Expr) : Option PyData :=
    if !glob sc σ f then none
    else if isNm f "list" then evLR R sc σ as
    else if as.isEmpty then none
    else (mapO (R.ev sc σ) as).bind fun ds => match bfnNames.find? (isNm f) with
      | some n => bfn P n ds
      | none => R.call f ds
noncomputable def evJoin (R : Ip) (sc : Sc) (σ : Sig) (c : Const) (m : Str) (ln : Bool) (as : List Expr) : Option PyData := (vStrC c).bind fun sep => match as with
  | [e] => if isNm m "join" && sep.length == 0 && ln then (R.ev sc σ e).bind fun d => (vLst d).bind fun xs => if few xs.length then (strsD xs).bind fun ts => if few ((ts.map (·.length)).sum + ts.length) then some (.str (Str.join sep ts)) else none else none
    else none
  | _ => none
noncomputable def evCount (R : Ip) (sc : Sc) (σ : Sig) (x m : Str) (ln : Bool) (as : List Expr) : Option PyData := match as with
  | [e] => if isNm m "count" && ln then (σ.lookup x).bind fun d => (R.ev sc σ e).bind fun k => (vLst d).bind fun xs => if few xs.length && xs.all shaped' && shaped' k then some (.int (xs.countP fun y => PyData.eqv y k)) else none
    else none
  | _ => none
noncomputable def evCall (P : Prims) (R : Ip) (sc : Sc) (σ : Sig) (f : Expr) (as : List Expr) (ks : List Keyword) (p : Pos) : Option PyData :=
  if ks.isEmpty then match vName f with
    | some g => evNCall P R sc σ g.1 as
    | none => (vAttr f).bind fun a => match vConst a.1 with
      | some c => evJoin R sc σ c a.2.1 (a.2.2.endLine == p.line) as
      | none => (vName a.1).bind fun x => evCount R sc σ x.1 a.2.1 (a.2.2.endLine == p.line) as
  else none
noncomputable def evComp (R : Ip) (sc : Sc) (σ : Sig) (elt : Expr) (gens : List Comprehension) (s : Scope) : Option PyData := match gens with
  | [g] => if okScope s && freesIn sc s && g.is_async == 0 then (R.src sc σ g.iter).bind fun items =>
      if fitT items.1 g.target && few items.2.length then (compGo R (relabelN s.names sc) (frees s σ) g.target g.ifs elt items.2).map .list else none
    else none
  | [g, k] => (vName g.target).bind fun x => (vName k.target).bind fun y =>
    if okScope s && freesIn sc s && x.1 != y.1 && notSetE k.iter && g.is_async == 0 && k.is_async == 0 && g.ifs.isEmpty && k.ifs.isEmpty then (R.src sc σ g.iter).bind fun items =>
      if fitT items.1 (.Name x.1 x.2) && few items.2.length then (compGo2 R (relabelN s.names sc) (frees s σ) x.1 y.1 x.2 y.2 k.iter elt items.2).map .list else none
    else none
  | _ => none
noncomputable def evS (P : Prims) (R : Ip) (sc : Sc) (σ : Sig) : Expr → Option PyData
  | .Constant c _ _ => constD c
  | .Name x _ => σ.lookup x
  | .BinOp l op r _ => (R.ev sc σ l).bind fun a => (R.ev sc σ r).bind fun b => binD op a b
  | .UnaryOp op x _ => evUn R sc σ op x
  | .BoolOp op es _ => evBool R sc σ op es
  | .IfExp t a b _ => (R.tst sc σ t).bind fun c => cond c (R.ev sc σ a) (R.ev sc σ b)
  | .Compare l ops rs _ => (cmp1 ops rs).bind fun q => (R.ev sc σ l).bind fun a => (R.ev sc σ q.2).bind fun b => (cmpD q.1 a b).map .bool
  | .List es _ => if few es.length then (mapO (R.ev sc σ) es).map .list else none
  | .Tuple es _ _ => if few es.length then (mapO (R.ev sc σ) es).map .tuple else none
  | .Subscript v i _ => evSub R sc σ v i
  | .Call f as ks p => evCall P R sc σ f as ks p
  | .ListComp elt gens s _ => evComp R sc σ elt gens s
  | _ => none
noncomputable def tstBool (R : Ip) (sc : Sc) (σ : Sig) (op : BoolOp) (es : List Expr) : Option Bool := match op with
  | .Or => (match es with
    | [x, y] => (R.tst sc σ x).bind fun a => cond a (some true) (R.tst sc σ y)
    | _ => none)
  | _ => none
noncomputable def tstUn (R : Ip) (sc : Sc) (σ : Sig) (op : UnaryOp) (x : Expr) : Option Bool := match op with
  | .Not => (R.tst sc σ x).map fun b => !b
  | _ => none
noncomputable def vBool : PyData → Option Bool
  | .bool b => some b
  | _ => none
noncomputable def tstS (R : Ip) (sc : Sc) (σ : Sig) : Expr → Option Bool
  | .Compare l ops rs _ => (cmp1 ops rs).bind fun q => (R.ev sc σ l).bind fun a => (R.ev sc σ q.2).bind fun b => cmpD q.1 a b
  | .UnaryOp op x _ => tstUn R sc σ op x
  | .Call f as ks p => (R.ev sc σ (.Call f as ks p)).bind vBool
  | .BoolOp op es _ => tstBool R sc σ op es
  | _ => none
noncomputable def srcD (R : Ip) (sc : Sc) (σ : Sig) (e : Expr) : Option (Bool × List PyData) := (R.ev sc σ e).bind fun d => (vLst d).bind fun xs => some (false, xs)
noncomputable def srcEnum (R : Ip) (sc : Sc) (σ : Sig) (as : List Expr) : Option (Bool × List PyData) := match as with
  | [e] => (R.ev sc σ e).bind fun d => (vLst d).bind fun xs => if few xs.length then some (true, xs.zipIdx.map fun p => .tuple [.int p.2, p.1]) else none
  | _ => none
noncomputable def srcS (R : Ip) (sc : Sc) (σ : Sig) (e : Expr) : Option (Bool × List PyData) := match vNCall e with
  | some c =>
    if glob sc σ c.1 && isNm c.1 "range" then ((mapO (R.ev sc σ) c.2).bind rangeD).map fun x => (false, x)
    else if glob sc σ c.1 && isNm c.1 "enumerate" then srcEnum R sc σ c.2
    else srcD R sc σ e
  | none => srcD R sc σ e
noncomputable def shσ (st : Sto) : Sig := st.filterMap fun p => match p.2 with | .sh d => some (p.1, d) | .ow _ => none
noncomputable def allσ (st : Sto) : Sig := st.map fun p => match p.2 with | .sh d => (p.1, d) | .ow ds => (p.1, .list ds)
noncomputable def frz (st : Sto) : Sto := st.map fun p => match p.2 with | .sh d => (p.1, .sh d) | .ow ds => (p.1, .sh (.list ds))
/-- put a name's new slot -/
noncomputable def put (st : Sto) (x : Str) (sl : Slot) : Sto := (x, sl) :: st.filter fun p => p.1 != x
/-- an expression in a frame: by what is shared; else a plain value by all; else all lists are given away -/
noncomputable def evM (R : Ip) (sc : Sc) (st : Sto) (e : Expr) : Option (PyData × Sto) := match R.ev sc (shσ st) e with
  | some d => some (d, st)
  | none => match R.ev sc (allσ st) e with
    | some d => if imm d then some (d, st) else some (d, frz st)
    | none => none
noncomputable def storable (sc : Sc) (x : Str) : Bool := sc.lookup x == some .local || sc.lookup x == some .cell
noncomputable def immL (ds : List PyData) : Bool := ds.all imm
noncomputable def slotE (R : Ip) (sc : Sc) (st : Sto) (e : Expr) : Option (Slot × Sto) := (evM R sc st e).map fun x => (.sh x.1, x.2)
/-- `list(range(..))` -/
noncomputable def vLR (e : Expr) : Option (Str × Str × List Expr) := (vNCall e).bind fun c => match c.2 with
  | [a] => (vNCall a).bind fun g => some (c.1, g.1, g.2)
  | _ => none
/-- a value that a name is bound to: a list display of plain values is the name's own -/
noncomputable def slotM (R : Ip) (sc : Sc) (st : Sto) (e : Expr) : Option (Slot × Sto) := match vList e with
  | some es => (mapO (R.ev sc (allσ st)) es).bind fun ds => if immL ds && few ds.length then some (.ow ds, st) else slotE R sc st e
  | none => match vLR e with
    | some q => if glob sc (allσ st) q.1 && isNm q.1 "list" && glob sc (allσ st) q.2.1 && isNm q.2.1 "range" then
        (mapO (R.ev sc (allσ st)) q.2.2).bind fun ds => (rangeD ds).map fun xs => (.ow xs, st)
      else slotE R sc st e
    | none => slotE R sc st e
noncomputable def slotsM (R : Ip) (sc : Sc) (st : Sto) : List Expr → Option (List Slot × Sto)
  | [] => some ([], st)
  | e :: r => (slotM R sc st e).bind fun p => (slotsM R sc p.2 r).bind fun q => some (p.1 :: q.1, q.2)
noncomputable def noComp : Expr → Bool
  | .SetComp .. => false
  | .DictComp .. => false
  | _ => true
/-- a tuple of expressions that the compiler does not fold away -/
noncomputable def unfolded (es : List Expr) : Bool := !(es.all (foldedForSure 8)) && !(es.all (constantsAlone 8))
noncomputable def forGo (R : Ip) (sc : Sc) (tgt : Expr) (body : List Stmt) : Sto → List PyData → Option Out
  | st, [] => some (.next st)
  | st, d :: ds => (bindT sc tgt d).bind fun b => (R.exs sc (b.foldr (fun p st => put st p.1 (.sh p.2)) st) body).bind fun o => match o with
    | .next st' => forGo R sc tgt body st' ds
    | .ret d => some (.ret d)
noncomputable def whileGo (R : Ip) (sc : Sc) (t : Expr) (body : List Stmt) : Nat → Sto → Option Out
  | 0, _ => none
  | n + 1, st => (R.tst sc (allσ st) t).bind fun b => match b with
    | false => some (.next st)
    | true => (R.exs sc st body).bind fun o => match o with
      | .next st' => whileGo R sc t body n st'
      | .ret d => some (.ret d)
noncomputable def exName (R : Ip) (sc : Sc) (st : Sto) (x : Str) (e : Expr) : Option Out := if storable sc x && noComp e then (slotM R sc st e).bind fun p => some (.next (put p.2 x p.1)) else none
noncomputable def ex2 (R : Ip) (sc : Sc) (st : Sto) (x y : Str) (es : List Expr) : Option Out := match es with
  | [e, f] => if storable sc x && storable sc y && x != y && unfolded [e, f] then
      (slotM R sc st e).bind fun p => (slotM R sc p.2 f).bind fun q => some (.next (put (put q.2 x p.1) y q.1))
    else none
  | _ => none
noncomputable def ex3 (R : Ip) (sc : Sc) (st : Sto) (x y z : Str) (es : List Expr) : Option Out := match es with
  | [e, f, g] => if storable sc x && storable sc y && storable sc z && x != y && x != z && y != z && unfolded [e, f, g] then
      (slotM R sc st e).bind fun p => (slotM R sc p.2 f).bind fun q => (slotM R sc q.2 g).bind fun u => some (.next (put (put (put u.2 x p.1) y q.1) z u.1))
    else none
  | _ => none
noncomputable def exTup (R : Ip) (sc : Sc) (st : Sto) (ts es : List Expr) : Option Out := match ts with
  | [a, b] => (vName a).bind fun x => (vName b).bind fun y => ex2 R sc st x.1 y.1 es
  | [a, b, c] => (vName a).bind fun x => (vName b).bind fun y => (vName c).bind fun z => ex3 R sc st x.1 y.1 z.1 es
  | _ => none
noncomputable def exAsg (R : Ip) (sc : Sc) (st : Sto) (tgs : List Expr) (e : Expr) : Option Out := match tgs with
  | [t] => (match vName t with
    | some x => exName R sc st x.1 e
    | none => (vTuple t).bind fun ts => (vTuple e).bind fun es => exTup R sc st ts es)
  | _ => none
noncomputable def vOw : Slot → Option (List PyData)
  | .sh _ => none
  | .ow ds => some ds
noncomputable def exPop (R : Ip) (sc : Sc) (st : Sto) (x y : Str) (as : List Expr) : Option Out := match as with
  | [e] => ((st.lookup x).bind vOw).bind fun ds => ((st.lookup y).bind vOw).bind fun es => (R.ev sc (allσ st) e).bind fun k => (vInt k).bind fun k =>
    if 0 ≤ k ∧ few ds.length ∧ few es.length then (es[k.toNat]?).bind fun d => if imm d then some (.next (put (put st y (.ow (es.eraseIdx k.toNat))) x (.ow (ds ++ [d])))) else none else none
  | _ => none
noncomputable def exApp (R : Ip) (sc : Sc) (st : Sto) (x : Str) (e : Expr) : Option Out := ((st.lookup x).bind vOw).bind fun ds => if few ds.length then (match R.ev sc (shσ st) e with
        | some d => some (.next (put st x (.ow (ds ++ [d]))))
        | none => (R.ev sc (allσ st) e).bind fun d => if imm d then some (.next (put st x (.ow (ds ++ [d])))) else none) else none
noncomputable def exIns (R : Ip) (sc : Sc) (st : Sto) (x : Str) (e : Expr) : Option Out := ((st.lookup x).bind vOw).bind fun ds => if few ds.length then (R.ev sc (allσ st) e).bind fun d => if imm d then some (.next (put st x (.ow (d :: ds)))) else none else none
noncomputable def exMeth (R : Ip) (sc : Sc) (st : Sto) (x m : Str) (ln : Bool) (as : List Expr) : Option Out := match as with
  | [e] => if isNm m "append" && ln then (match vMeth e with
      | some q => if isNm q.2.1 "pop" && x != q.1 && q.2.2.1 then exPop R sc st x q.1 q.2.2.2 else none
      | none => exApp R sc st x e) else none
  | [z, e] => if isNm m "insert" && ln && (((vConst z).bind vIntC) == some 0) then exIns R sc st x e else none
  | _ => none
noncomputable def exSt (R : Ip) (sc : Sc) (st : Sto) : Stmt → Option Out
  | .Assign tgs e _ => exAsg R sc st tgs e
  | .Expr e _ => (vMeth e).bind fun q => exMeth R sc st q.1 q.2.1 q.2.2.1 q.2.2.2
  | .If t a b _ => (R.tst sc (allσ st) t).bind fun c => cond c (R.exs sc st a) (R.exs sc st b)
  | .For tgt iter body els _ => if els.isEmpty then (R.src sc (shσ st) iter).bind fun items => if fitT items.1 tgt && few items.2.length then forGo R sc tgt body st items.2 else none else none
  | .While t body els _ => if els.isEmpty then whileGo R sc t body 100 st else none
  | .Return e _ => e.bind fun e => (R.ev sc (allσ st) e).map .ret
  | _ => none
noncomputable def exsS (R : Ip) (sc : Sc) : Sto → List Stmt → Option Out
  | st, [] => some (.next st)
  | st, s :: r => (exSt R sc st s).bind fun o => match o with
    | .next st' => exsS R sc st' r
    | .ret d => some (.ret d)
noncomputable def callS (P : Prims) (R : Ip) (f : Str) (ds : List PyData) : Option PyData :=
  if P.known f then P.prim f ds else
  (P.fn f).bind fun q => if q.1.length = ds.length then (R.exs q.2.2.2.names ((q.1.zip (ds.map .sh)) ++ q.2.1.map fun p => (p.1, .sh p.2)) q.2.2.1).bind fun o => match o with
    | .ret d => some d
    | .next _ => none
  else none
noncomputable def nil : Ip := ⟨fun _ _ _ => none, fun _ _ _ => none, fun _ _ _ => none, fun _ _ _ => none, fun _ _ => none⟩
noncomputable def step (P : Prims) (R : Ip) : Ip := ⟨evS P R, tstS R, srcS R, exsS R, callS P R⟩
noncomputable def I (P : Prims) : Nat → Ip
  | 0 => nil
  | n + 1 => step P (I P n)
theorem vName_eq {e : Expr} {q : Str × Pos} (h : vName e = some q) : e = .Name q.1 q.2 := by cases e <;> first | (cases h; rfl) | cases h
theorem vTuple_eq {e : Expr} {q : List Expr} (h : vTuple e = some q) : ∃ c p, e = .Tuple q c p := by cases e <;> first | (cases h; exact ⟨_, _, rfl⟩) | cases h
theorem vList_eq {e : Expr} {q : List Expr} (h : vList e = some q) : ∃ p, e = .List q p := by cases e <;> first | (cases h; exact ⟨_, rfl⟩) | cases h
theorem vCall_eq {e : Expr} {q : Expr × List Expr × List Keyword × Pos} (h : vCall e = some q) : e = .Call q.1 q.2.1 q.2.2.1 q.2.2.2 := by cases e <;> first | (cases h; rfl) | cases h
theorem vAttr_eq {e : Expr} {q : Expr × Str × Pos} (h : vAttr e = some q) : e = .Attribute q.1 q.2.1 q.2.2 := by cases e <;> first | (cases h; rfl) | cases h
theorem vConst_eq {e : Expr} {q : Const} (h : vConst e = some q) : ∃ k p, e = .Constant q k p := by cases e <;> first | (cases h; exact ⟨_, _, rfl⟩) | cases h
theorem vSlice_eq {e : Expr} {q : Option Expr × Option Expr × Option Expr} (h : vSlice e = some q) : ∃ p, e = .Slice q.1 q.2.1 q.2.2 p := by cases e <;> first | (cases h; exact ⟨_, rfl⟩) | cases h
theorem vStrC_eq {c : Const} {x : Str} (h : vStrC c = some x) : c = .str x := by cases c <;> first | (cases h; rfl) | cases h
theorem vIntC_eq {c : Const} {x : Int} (h : vIntC c = some x) : c = .int x := by cases c <;> first | (cases h; rfl) | cases h
theorem vTup_eq {d : PyData} {x : List PyData} (h : vTup d = some x) : d = .tuple x := by cases d <;> first | (cases h; rfl) | cases h
theorem vLst_eq {d : PyData} {x : List PyData} (h : vLst d = some x) : d = .list x := by cases d <;> first | (cases h; rfl) | cases h
theorem vInt_eq {d : PyData} {x : Int} (h : vInt d = some x) : d = .int x := by cases d <;> first | (cases h; rfl) | cases h
theorem vBool_eq {d : PyData} {x : Bool} (h : vBool d = some x) : d = .bool x := by cases d <;> first | (cases h; rfl) | cases h
theorem vOw_eq {o : Option Slot} {x : List PyData} (h : o.bind vOw = some x) : o = some (.ow x) := by
  cases o with
  | none => cases h
  | some sl => cases sl <;> first | (cases h; rfl) | cases h
theorem vNCall_eq {e : Expr} {q : Str × List Expr} (h : vNCall e = some q) : ∃ p r, e = .Call (.Name q.1 p) q.2 [] r := by
  unfold vNCall at h
  simp only [Option.bind_eq_some_iff] at h
  obtain ⟨c, h1, g, h2, h3⟩ := h
  split at h3
  · rename_i hk
    cases h3
    obtain rfl := vCall_eq h1
    rw [vName_eq h2, List.isEmpty_iff.mp hk]
    exact ⟨_, _, rfl⟩
  · cases h3
theorem vMeth_eq {e : Expr} {q : Str × Str × Bool × List Expr} (h : vMeth e = some q) : ∃ p1 ap p2, e = .Call (.Attribute (.Name q.1 p1) q.2.1 ap) q.2.2.2 [] p2 ∧ q.2.2.1 = (ap.endLine == p2.line) := by
  unfold vMeth at h
  simp only [Option.bind_eq_some_iff] at h
  obtain ⟨c, h1, a, h2, x, h3, h4⟩ := h
  split at h4
  · rename_i hk
    cases h4
    obtain rfl := vCall_eq h1
    rw [vAttr_eq h2, vName_eq h3, List.isEmpty_iff.mp hk]
    exact ⟨_, _, _, rfl, rfl⟩
  · cases h4
theorem vLR_eq {e : Expr} {q : Str × Str × List Expr} (h : vLR e = some q) : ∃ p1 p2 p3 p4, e = .Call (.Name q.1 p1) [.Call (.Name q.2.1 p2) q.2.2 [] p3] [] p4 := by
  unfold vLR at h
  simp only [Option.bind_eq_some_iff] at h
  obtain ⟨c, h1, h2⟩ := h
  split at h2
  · rename_i a ha
    simp only [Option.bind_eq_some_iff] at h2
    obtain ⟨g, h3, h4⟩ := h2
    cases h4
    obtain ⟨p, r, rfl⟩ := vNCall_eq h1
    obtain ⟨p2, r2, rfl⟩ := vNCall_eq h3
    rw [ha]
    exact ⟨_, _, _, _, rfl⟩
  · cases h2
theorem cmp1_eq {ops : List CmpOp} {rs : List Expr} {q : CmpOp × Expr} (h : cmp1 ops rs = some q) : ops = [q.1] ∧ rs = [q.2] := by
  unfold cmp1 at h
  split at h
  · split at h
    · cases h; exact ⟨rfl, rfl⟩
    · cases h
  · cases h
theorem bindT_cases {sc : Sc} {tgt : Expr} {d : PyData} {b : Sig} (h : bindT sc tgt d = some b) : (∃ x p, tgt = .Name x p ∧ sc.lookup x = some .local ∧ b = [(x, d)]) ∨
    ∃ x px y py c p d1 d2, tgt = .Tuple [.Name x px, .Name y py] c p ∧ d = .tuple [d1, d2] ∧ sc.lookup x = some .local ∧ sc.lookup y = some .local ∧ x ≠ y ∧ b = [(y, d2), (x, d1)] := by
  unfold bindT at h
  split at h
  · rename_i q hq
    split at h
    · rename_i hx
      cases h
      exact .inl ⟨_, _, vName_eq hq, eq_of_beq hx, rfl⟩
    · cases h
  · simp only [Option.bind_eq_some_iff] at h
    obtain ⟨ts, h1, ds, h2, h3⟩ := h
    obtain ⟨c, p, rfl⟩ := vTuple_eq h1
    obtain rfl := vTup_eq h2
    unfold bind2 at h3
    split at h3
    · split at h3
      · simp only [Option.bind_eq_some_iff] at h3
        obtain ⟨x, h4, y, h5, h6⟩ := h3
        obtain rfl := vName_eq h4
        obtain rfl := vName_eq h5
        split at h6
        · rename_i hc
          cases h6
          simp only [Bool.and_eq_true, beq_iff_eq, bne_iff_ne] at hc
          exact .inr ⟨_, _, _, _, _, _, _, _, rfl, rfl, hc.1.1, hc.1.2, hc.2, rfl⟩
        · cases h6
      · cases h3
    · cases h3
end Mine
/-! part 3 -/
set_option maxRecDepth 100000
namespace Mine
open PySem PySem.Calls PyProof.Rows PySem.W
/-- the state s' stands behind s; but for the objects at W all stands as it stood -/
structure Fw (W : List Addr) (s s' : Shared) : Prop where
  get : ∀ {b : Addr} {o : Obj}, b ∉ W → s.heap.get? b = some o → s'.heap.get? b = some o
  os : s'.os = s.os
  bare : AllBare s.gens → AllBare s'.gens
  gen : ∀ {g : Nat} {x : GenState}, s.gens[g]? = some x → s'.gens[g]? = some x
theorem Kp.fw {s s' : Shared} (k : Kp s s') (W : List Addr) : Fw W s s' := ⟨fun _ e => k.get e, k.os, k.bare, k.gen⟩
theorem Fw.kp {s s' : Shared} (k : Fw [] s s') : Kp s s' := ⟨fun e => k.get (by simp) e, k.os, k.bare, k.gen⟩
theorem Fw.trans {W : List Addr} {s s₁ s₂ : Shared} (h : Fw W s s₁) (k : Fw W s₁ s₂) : Fw W s s₂ :=
  ⟨fun n e => k.get n (h.get n e), k.os.trans h.os, fun e => k.bare (h.bare e), fun e => k.gen (h.gen e)⟩
theorem Fw.mono {W W' : List Addr} {s s' : Shared} (h : Fw W s s') (k : ∀ a ∈ W, a ∈ W') : Fw W' s s' := ⟨fun n e => h.get (fun m => n (k _ m)) e, h.os, h.bare, h.gen⟩
/-- what is changed at objects that did not stand is no change -/
theorem Fw.drop {W W' : List Addr} {s s' : Shared} (h : Fw W s s') (k : ∀ a ∈ W, a ∈ W' ∨ s.heap.get? a = none) : Fw W' s s' :=
  ⟨fun {b o} n e => h.get (fun m => by rcases k _ m with q | q; exact n q; rw [q] at e; cases e) e, h.os, h.bare, h.gen⟩
theorem Fw.refl (W : List Addr) (s : Shared) : Fw W s s := (Kp.refl s).fw W
theorem sameBut_fw {s : Shared} {a : Addr} {h' : Heap} {tk : Nat} (k : Heap.SameBut a s.heap h') : Fw [a] s { s with heap := h', toks := tk } :=
  ⟨fun {b o} n e => (k.2 b (by simpa using n)).trans e, rfl, id, id⟩
theorem ext_fw {W : List Addr} {s : Shared} {h' : Heap} {tk : Nat} (k : ∀ b o, b ∉ W → s.heap.get? b = some o → h'.get? b = some o) : Fw W s { s with heap := h', toks := tk } :=
  ⟨fun {b o} n e => k b o n e, rfl, id, id⟩
structure Bt where
  h : Heap
  mg : Str → Option Value
  mb : Str → Option Value
  g : h.Ns mainGlobals mg
  b : h.Ns builtinsNs mb
  nl : h.NoLimit
  len : mg "len" = none ∧ mb "len" = some (.builtin "len")
  sum : mg "sum" = none ∧ mb "sum" = some (.builtin "sum")
  sorted : mg "sorted" = none ∧ mb "sorted" = some (.builtin "sorted")
  int : mg "int" = none ∧ mb "int" = some (.type "int")
  list : mg "list" = none ∧ mb "list" = some (.type "list")
  range : mg "range" = none ∧ mb "range" = some (.type "range")
  enumerate : mg "enumerate" = none ∧ mb "enumerate" = some (.type "enumerate")
noncomputable def Bs (B : Bt) (s : Shared) : Prop := ∀ b o, B.h.get? b = some o → s.heap.get? b = some o
theorem Bs.kp {B : Bt} {s s' : Shared} (h : Bs B s) (k : Kp s s') : Bs B s' := fun b o e => k.get (h b o e)
structure Rm (A : Around) (n : Nat) : Prop where
  hd : A.handled = none
  dp : A.depth + n < recursionLimit
  un : A.units + 16 * n + 100 < cLine
theorem Rm.less {A : Around} {n : Nat} (h : Rm A (n + 1)) : Rm A n := ⟨h.hd, by have := h.dp; omega, by have := h.un; omega⟩
theorem Rm.deeper {A : Around} {n : Nat} (h : Rm A (n + 1)) (env : Env) : Rm (A.deeper env) n := ⟨h.hd, by have := h.dp; show A.depth + 1 + n < _; omega, by have := h.un; simp only [Around.deeper_units]; omega⟩
theorem Rm.room {A : Around} {n : Nat} (h : Rm A n) : A.depth < recursionLimit := by have := h.dp; omega
theorem Rm.units {A : Around} {n : Nat} (h : Rm A n) : A.units + 64 < cLine := by have := h.un; omega
/-- the name x of the block stands for the value v -/
noncomputable def NmAt (env : Env) (x : Str) (v : Value) (s : Shared) : Prop :=
  (env.kindOf x = some .local ∧ ∃ m, s.heap.Ns env.locals m ∧ m x = some v) ∨
  ((env.kindOf x = some .cell ∨ env.kindOf x = some .free) ∧ ∃ c, env.cells.lookup x = some c ∧ s.heap.IsCell c (some v))
theorem NmAt.kp {env : Env} {x : Str} {v : Value} {s s' : Shared} (h : NmAt env x v s) (k : Kp s s') : NmAt env x v s' := by
  rcases h with ⟨a, m, b, c⟩ | ⟨a, c, b, d⟩
  · exact .inl ⟨a, m, b.keeps fun _ _ e => k.get e, c⟩
  · exact .inr ⟨a, c, b, d.keeps fun _ _ e => k.get e⟩
structure EOk (B : Bt) (env : Env) (σ : Sig) (hid : List Addr) (s : Shared) : Prop where
  base : Bs B s
  hids : HidOk hid s
  kind : env.scope.kind = .function
  gl : env.globals = mainGlobals
  bl : env.builtins = builtinsNs
  nodbg : env.kindOf "__debug__" = none ∧ env.kindOf "__classdict__" = none
  cells : ∀ n, env.kindOf n = some .cell ∨ env.kindOf n = some .free → ∃ c, env.cells.lookup n = some c
  names : ∀ x d, σ.lookup x = some d → ∃ v, Rd (hk hid s.heap) d v ∧ NmAt env x v s
theorem EOk.kp {B : Bt} {env : Env} {σ : Sig} {hid : List Addr} {s s' : Shared} (h : EOk B env σ hid s) (k : Kp s s') : EOk B env σ hid s' :=
  ⟨h.base.kp k, h.hids.keeps k, h.kind, h.gl, h.bl, h.nodbg, h.cells, fun x d e => let ⟨v, r, n⟩ := h.names x d e; ⟨v, r.keeps k, n.kp k⟩⟩
section
variable {prog : Program} {w : World} {B : Bt} {A : Around} {hid : List Addr} {s : Shared} {env : Env} {σ : Sig}
theorem load_nm {x : Str} {v : Value} {Q E : Value → Shared → Prop} (h : EOk B env σ hid s) (n : NmAt env x v s) (q : Q v s) : wpAny (model prog w) A (loadName env x) Q E s := by
  rcases n with ⟨a, m, b, c⟩ | ⟨a | a, c, b, d⟩
  · exact wpAny_loadName_local h.kind a b c q
  · exact wpAny_loadName_cell h.kind a b d q
  · refine wpAny_loadName_free h.kind a b d q ?_
    cases e : x == ("__classdict__" : Str) with
    | false => rfl
    | true => rw [eq_of_beq e, h.nodbg.2] at a; cases a
theorem NmAt.dbg {x : Str} {v : Value} (h : EOk B env σ hid s) (n : NmAt env x v s) : (x == ("__debug__" : Str)) = false := by
  cases e : x == ("__debug__" : Str) with
  | false => rfl
  | true =>
    exfalso
    have e' := eq_of_beq e
    rcases n with ⟨a, _⟩ | ⟨a | a, _⟩ <;> rw [e', h.nodbg.1] at a <;> cases a
theorem pd_name {x : Str} {p : Pos} {d : PyData} (h : EOk B env σ hid s) (e : σ.lookup x = some d) : PD prog w A hid s (eval (.Name x p) env) d := fun Q E q => by
  obtain ⟨v, r, n⟩ := h.names x d e
  exact wpAny_Name (load_nm h n (q v s (Kp.refl s) r)) (n.dbg h)
theorem pd_const {c : Const} {k : Nat} {p : Pos} {d : PyData} (e : constD c = some d) : PD prog w A hid s (eval (.Constant c k p) env) d := fun Q E q => by
  cases c with
  | none => simp [constD] at e; subst e; exact wpAny_Constant_none (q _ _ (Kp.refl s) (by simp [Rd]))
  | bool b => simp [constD] at e; subst e; exact wpAny_Constant_bool (q _ _ (Kp.refl s) (by simp [Rd]))
  | int i => simp [constD] at e; subst e; exact wpAny_Constant_int (q _ _ Kp.tok (by simp [Rd]))
  | str x =>
    simp only [constD] at e
    split at e
    · cases e; exact wpAny_Constant_str (q _ _ Kp.tok (by simp [Rd]))
    · cases e
  | _ => simp [constD] at e
theorem pd_tok {v : Value} {d : PyData} {Q : Value → Shared → Prop} {s₁ : Shared} {tk : Nat} (k : Kp s s₁) (q : ∀ v s', Kp s s' → Rd (hk hid s'.heap) d v → Q v s') (r : ∀ K, Rd K d v) : Q v { s₁ with toks := tk } :=
  q _ _ (k.trans Kp.tok) (r _)
theorem sizeLine_big : sizeLine = 16777216 := by decide
theorem few_le {n : Nat} (h : few n = true) : n ≤ sizeLine := by have := of_decide_eq_true h; rw [sizeLine_big]; omega
theorem few_le' {n : Nat} (h : few n = true) : n ≤ 100000 := of_decide_eq_true h
theorem rd_int {K : KM} {i : Int} {v : Value} (h : Rd K (.int i) v) : ∃ t, v = .int i t := by simpa only [Rd] using h
theorem rd_str {K : KM} {x : Str} {v : Value} (h : Rd K (.str x) v) : ∃ t, v = .str x t := by simpa only [Rd] using h
theorem rd_list {K : KM} {xs : List PyData} {v : Value} (h : Rd K (.list xs) v) : ∃ a vs n, v = .ref a ∧ K a = some (lObj vs n) ∧ RdL K xs vs := by simpa only [Rd] using h
theorem rd_tuple {K : KM} {xs : List PyData} {v : Value} (h : Rd K (.tuple xs) v) : ∃ a vs n, v = .ref a ∧ K a = some (tObj vs n) ∧ RdL K xs vs := by simpa only [Rd] using h
/-- a new list -/
theorem rd_push_list {vs : List Value} {ds : List PyData} {n : Nat} {tk : Nat} (hh : HidOk hid s) (r : RdL (hk hid s.heap) ds vs) :
    Rd (hk hid (s.heap.push (lObj vs n))) (.list ds) (.ref s.heap.objs.size) := by
  have k : Kp s { s with heap := s.heap.push (lObj vs n), toks := tk } := Kp.push _
  simp only [Rd]
  exact ⟨_, vs, n, rfl, hk_of hh.size (Heap.get?_push_size _ rfl), RdL.keeps k r⟩
theorem rd_push_tuple {vs : List Value} {ds : List PyData} {n : Nat} {tk : Nat} (hh : HidOk hid s) (r : RdL (hk hid s.heap) ds vs) :
    Rd (hk hid (s.heap.push (tObj vs n))) (.tuple ds) (.ref s.heap.objs.size) := by
  have k : Kp s { s with heap := s.heap.push (tObj vs n), toks := tk } := Kp.push _
  simp only [Rd]
  exact ⟨_, vs, n, rfl, hk_of hh.size (Heap.get?_push_size _ rfl), RdL.keeps k r⟩
theorem mulStr_ok {x : Str} {n : Int} (hx : x.length ≤ 1) (h0 : 0 ≤ n) (h1 : n < 100) : MulOk x n := by
  refine ⟨?_, fun h _ => ?_, fun h _ => ?_⟩
  · have a : decide (n < -(2 ^ 63 : Int)) = false := decide_eq_false (by omega)
    have b : decide (n ≥ 2 ^ 63) = false := decide_eq_false (by omega)
    rw [a, b]; rfl
  · intro q
    have h1' : (1 : Int) ≤ (2 ^ 63 - 1) / n := by
      apply Int.le_ediv_of_mul_le (by omega)
      omega
    omega
  · refine decide_eq_false ?_
    have : x.length * n.toNat ≤ 1 * 100 := Nat.mul_le_mul hx (by omega)
    have hs := sizeLine_big
    omega
theorem rd_i {K : KM} {i : Int} {t : Tok} : Rd K (.int i) (.int i t) := by simp only [Rd]; exact ⟨_, rfl⟩
theorem rd_s {K : KM} {x : Str} {t : Tok} : Rd K (.str x) (.str x t) := by simp only [Rd]; exact ⟨_, rfl⟩
theorem pd_binI {op : Operator} {i j : Int} {d : PyData} {t t' : Tok} (e : binI op i j = some d) : PD prog w A hid s (binaryOp op (.int i t) (.int j t')) d := fun Q E q => by
  cases op with
  | Add => cases e; exact add_int (pd_tok (Kp.refl s) q fun K => rd_i)
  | Sub => cases e; exact sub_int (pd_tok (Kp.refl s) q fun K => rd_i)
  | Mult =>
    replace e : (if i.natAbs < 1024 then some (PyData.int (i * j)) else none) = some d := e
    split at e
    · rename_i hm
      cases e
      refine mul_int (pd_tok (Kp.refl s) q fun K => rd_i) (IntMulOk.of_left ?_)
      exact intBits_le_64 (by omega) (by omega)
    · cases e
  | Mod =>
    replace e : (if j = 0 then none else some (PyData.int (i.fmod j))) = some d := e
    split at e
    · cases e
    · rename_i hb
      cases e
      exact mod_int hb (pd_tok (Kp.refl s) q fun K => rd_i)
  | FloorDiv =>
    replace e : (if 0 < j ∧ j < 1024 then some (PyData.int (i.fdiv j)) else none) = some d := e
    split at e
    · rename_i hb
      cases e
      exact floordiv_int (by omega) (pd_tok (Kp.refl s) q fun K => rd_i) (.inl (PyProof.noPylong_small (by omega)))
    · cases e
  | Pow =>
    replace e : (if i = 10 ∧ j = 6 then some (PyData.int 1000000) else none) = some d := e
    split at e
    · rename_i hb
      obtain ⟨rfl, rfl⟩ := hb
      cases e
      exact pow_int (by omega) (by decide) (pd_tok (Kp.refl s) q fun K => rd_i)
    · cases e
  | _ => cases e
theorem isAdd_eq {op : Operator} (h : isAdd op = true) : op = .Add := by cases op <;> first | rfl | cases h
theorem isMult_eq {op : Operator} (h : isMult op = true) : op = .Mult := by cases op <;> first | rfl | cases h
theorem pd_bin {op : Operator} {a b d : PyData} {u v : Value} (hh : HidOk hid s) (e : binD op a b = some d) (ra : Rd (hk hid s.heap) a u) (rb : Rd (hk hid s.heap) b v) : PD prog w A hid s (binaryOp op u v) d := by
  cases a with
  | int i =>
    cases b with
    | int j =>
      obtain ⟨t, rfl⟩ := rd_int ra; obtain ⟨t', rfl⟩ := rd_int rb
      exact pd_binI e
    | _ => cases e
  | str x =>
    intro Q E q
    cases b with
    | int n =>
      replace e : (if isMult op = true then (if x.length ≤ 1 ∧ 0 ≤ n ∧ n < 100 then some (PyData.str (Txt.mul x n)) else none) else none) = some d := e
      split at e
      · rename_i ho
        obtain rfl := isMult_eq ho
        split at e
        · rename_i hb
          cases e; obtain ⟨t, rfl⟩ := rd_str ra; obtain ⟨t', rfl⟩ := rd_int rb
          exact SB.mul (mulStr_ok hb.1 hb.2.1 hb.2.2) fun t' k => pd_tok (Kp.refl s) q fun K => rd_s
        · cases e
      · cases e
    | str y =>
      replace e : (if isAdd op = true then (if few (x.length + y.length) = true then some (PyData.str (x ++ y)) else none) else none) = some d := e
      split at e
      · rename_i ho
        obtain rfl := isAdd_eq ho
        split at e
        · rename_i hb
          cases e; obtain ⟨t, rfl⟩ := rd_str ra; obtain ⟨t', rfl⟩ := rd_str rb
          exact PyProof.Rows.add_str (fun t' k => pd_tok (Kp.refl s) q fun K => rd_s) (few_le hb)
        · cases e
      · cases e
    | _ => cases e
  | list xs =>
    intro Q E q
    cases b with
    | list ys =>
      replace e : (if isAdd op = true then (if few (xs.length + ys.length) = true then some (PyData.list (xs ++ ys)) else none) else none) = some d := e
      split at e
      · rename_i ho
        obtain rfl := isAdd_eq ho
        split at e
        · rename_i hb
          cases e
          obtain ⟨l, us, n, rfl, hl, hu⟩ := rd_list ra
          obtain ⟨l', vs, n', rfl, hl', hv⟩ := rd_list rb
          have hz := few_le hb
          refine PySem.P.add_list (hk_sub hl) (hk_sub hl') ?_ (by rw [List.size_toArray, List.size_toArray, hu.length, hv.length]; exact hz)
          rw [show (us.toArray ++ vs.toArray) = (us ++ vs).toArray from List.append_toArray ..]
          exact q _ _ (Kp.push _) (rd_push_list (tk := s.toks) hh (hu.append hv))
        · cases e
      · cases e
    | _ => cases e
  | _ => cases e
end
end Mine
/-! part 4 -/
set_option maxRecDepth 100000
namespace Mine
open PySem PySem.Calls PyProof.Rows PySem.W
mutual
theorem Rd.reads {K : KM} {h : Heap} (hK : ∀ a o, K a = some o → h.get? a = some o) : ∀ (d : PyData) (v : Value), Rd K d v → ∃ as, Reads h v d as
  | .none, v, e => by simp only [Rd] at e; subst e; exact ⟨_, .none⟩
  | .bool b, v, e => by simp only [Rd] at e; subst e; exact ⟨_, .bool b⟩
  | .int i, v, e => by simp only [Rd] at e; obtain ⟨t, rfl⟩ := e; exact ⟨_, .int i t⟩
  | .str x, v, e => by simp only [Rd] at e; obtain ⟨t, rfl⟩ := e; exact ⟨_, .str x t⟩
  | .list xs, v, e => by
    simp only [Rd] at e
    obtain ⟨a, vs, n, rfl, ha, hr⟩ := e
    obtain ⟨as, r⟩ := RdL.reads hK xs vs hr
    exact ⟨_, .list (hK _ _ ha) rfl rfl r⟩
  | .tuple xs, v, e => by
    simp only [Rd] at e
    obtain ⟨a, vs, n, rfl, ha, hr⟩ := e
    obtain ⟨as, r⟩ := RdL.reads hK xs vs hr
    exact ⟨_, .tuple (hK _ _ ha) rfl rfl r⟩
  | .dict _, v, e => by simp only [Rd] at e
theorem RdL.reads {K : KM} {h : Heap} (hK : ∀ a o, K a = some o → h.get? a = some o) : ∀ (d : List PyData) (v : List Value), RdL K d v → ∃ as, ReadsAll h v d as
  | [], v, e => by simp only [RdL] at e; subst e; exact ⟨_, .nil⟩
  | d :: ds, v, e => by
    simp only [RdL] at e
    obtain ⟨u, r, rfl, h1, h2⟩ := e
    obtain ⟨as, r1⟩ := Rd.reads hK d u h1
    obtain ⟨bs, r2⟩ := RdL.reads hK ds r h2
    exact ⟨_, .cons r1 r2⟩
end
section
variable (prog : Program) (w : World) (B : Bt)
/-- a source of items: its value's iterator yields them one by one, in whatever lies behind -/
structure Feed (A : Around) (K₀ : KM) (tu : Bool) (I : Addr) (wr : List Addr) (St : List PyData → Heap → Prop) : Prop where
  live : ∀ ds h, St ds h → ∀ b ∈ wr, ∃ o, h.get? b = some o
  frame : ∀ ds h h', St ds h → (∀ b o, b ∈ wr → h.get? b = some o → h'.get? b = some o) → (∀ a o, isSeqObj o → K₀ a = some o → h.get? a = some o → h'.get? a = some o) → St ds h'
  item : ∀ d ds s tgt (Q : Value → Shared → Prop) (E : Value → Shared → Prop), fitT tu tgt = true → St (d :: ds) s.heap →
    (∀ v s', Fw wr s s' → St ds s'.heap → (∀ hid, (∀ a ∈ hid, K₀ a = none ∧ ∃ o, s.heap.get? a = some o) → Rd (hk hid s'.heap) d v) → Q v s') →
    wpAny (model prog w) A (pyNext (.ref I)) (fun r s₁ => match r with | none => False | some v => wpAny (model prog w) A (letOwnedTupleGo tgt (.ref I) v) (fun _ s₂ => Q v s₂) E s₁) E s
  done : ∀ s (Q : Option Value → Shared → Prop) (E : Value → Shared → Prop), St [] s.heap → (∀ s', Fw wr s s' → Q none s') → wpAny (model prog w) A (pyNext (.ref I)) Q E s
  self : ∀ ds s (Q E : Value → Shared → Prop), St ds s.heap → Q (.ref I) s → wpAny (model prog w) A (pyIter (.ref I)) Q E s
noncomputable def PSrc (A : Around) (hid : List Addr) (s : Shared) (t : Sem Value) (tu : Bool) (items : List PyData) : Prop :=
  ∀ (Q E : Value → Shared → Prop), (∀ I s' K₀ wr St, Kp s s' → (∀ a o, K₀ a = some o → a ∉ hid ∧ s'.heap.get? a = some o) → (∀ b ∈ wr, s.heap.get? b = none ∧ K₀ b = none) →
    Feed prog w A K₀ tu I wr St → St items s'.heap → Q (.ref I) s') → wpAny (model prog w) A t (fun x s₁ => wpAny (model prog w) A (pyIter x) Q E s₁) E s
/-- the levels of the reckoning tell the truth -/
structure SndE (n : Nat) (R : Ip) : Prop where
  ev : ∀ {A : Around} {hid : List Addr} {s : Shared} {env : Env} {σ : Sig} {e : Expr} {d : PyData}, Rm A n → EOk B env σ hid s → R.ev env.scope.names σ e = some d → PD prog w A hid s (eval e env) d
  tst : ∀ {A : Around} {hid : List Addr} {s : Shared} {env : Env} {σ : Sig} {e : Expr} {b : Bool}, Rm A n → EOk B env σ hid s → R.tst env.scope.names σ e = some b → PBd prog w A s (isTrue e env (eval e env)) b
  src : ∀ {A : Around} {hid : List Addr} {s : Shared} {env : Env} {σ : Sig} {e : Expr} {tu : Bool} {ds : List PyData}, Rm A n → EOk B env σ hid s → R.src env.scope.names σ e = some (tu, ds) → PSrc prog w A hid s (eval e env) tu ds ∧ ∀ x, foldedSetIterable e env x = pure x
  fnm : ∀ {f : Str} {ds : List PyData} {d : PyData}, R.call f ds = some d → ∃ a o fd, B.mg f = some (.ref a) ∧ B.h.get? a = some o ∧ o.data = .func fd
  call : ∀ {A : Around} {hid : List Addr} {s : Shared} {f : Str} {a : Addr} {ds : List PyData} {vs : List Value} {d : PyData}, Rm A n → Bs B s → HidOk hid s → RdL (hk hid s.heap) ds vs → R.call f ds = some d →
    B.mg f = some (.ref a) → PD prog w A hid s (call (.ref a) vs) d
  noset : ∀ (sc : Sc) (σ : Sig) (es : List Expr) (k : Nat) (p : Pos), R.ev sc σ (.Set es k p) = none
  nostar : ∀ (sc : Sc) (σ : Sig) (e : Expr) (p : Pos), R.ev sc σ (.Starred e p) = none
end
section
variable {prog : Program} {w : World} {B : Bt} {A : Around} {hid : List Addr} {s : Shared} {env : Env} {σ : Sig} {n : Nat} {R : Ip}
theorem in_ints {i : Int} : ∀ {xs : List PyData} {vs : List Value} {b : Bool} {K : KM}, RdL K xs vs → inInts i xs = some b →
    (∀ y ∈ vs, ∃ j u, y = Value.int j u) ∧ b = vs.any fun y => match y with | .int j _ => j == i | _ => false
  | [], vs, b, K, r, e => by
    simp only [RdL] at r; subst r
    simp [inInts] at e; subst e; simp
  | .int j :: xs, vs, b, K, r, e => by
    simp only [RdL] at r
    obtain ⟨v, rest, rfl, h1, h2⟩ := r
    obtain ⟨u, rfl⟩ := rd_int h1
    simp only [inInts, Option.map_eq_some_iff] at e
    obtain ⟨b', e', rfl⟩ := e
    obtain ⟨h3, h4⟩ := in_ints h2 e'
    refine ⟨?_, by simp [h4]⟩
    intro y hy
    rcases List.mem_cons.mp hy with rfl | hy
    · exact ⟨_, _, rfl⟩
    · exact h3 y hy
  | .none :: _, _, _, _, _, e => by simp [inInts] at e
  | .bool _ :: _, _, _, _, _, e => by simp [inInts] at e
  | .str _ :: _, _, _, _, _, e => by simp [inInts] at e
  | .list _ :: _, _, _, _, _, e => by simp [inInts] at e
  | .tuple _ :: _, _, _, _, _, e => by simp [inInts] at e
  | .dict _ :: _, _, _, _, _, e => by simp [inInts] at e
theorem is_none_val {d : PyData} {K : KM} {u : Value} (r : Rd K d u) : (u == Value.none) = isNoneD d := by
  cases d <;> simp only [Rd] at r
  · subst r; rfl
  · subst r; rfl
  · obtain ⟨t, rfl⟩ := r; rfl
  · obtain ⟨t, rfl⟩ := r; rfl
  · obtain ⟨a, vs, n, rfl, _⟩ := r; rfl
  · obtain ⟨a, vs, n, rfl, _⟩ := r; rfl
theorem isIn_eq {op : CmpOp} (h : isIn op = true) : op = .In := by cases op <;> first | rfl | cases h
theorem isIs_eq {op : CmpOp} (h : isIs op = true) : op = .Is := by cases op <;> first | rfl | cases h
theorem pd_cmpI {op : CmpOp} {i j : Int} {c : Bool} {t t' : Tok} (e : cmpI op i j = some c) {Q E : Value → Shared → Prop} (q : Q (.bool c) s) : wpAny (model prog w) A (compareOp op (.int i t) (.int j t')) Q E s := by
  cases op with
  | Lt => cases e; exact lt_int q
  | LtE => cases e; exact le_int q
  | Gt => cases e; exact gt_int q
  | GtE => cases e; exact ge_int q
  | Eq => cases e; exact PyProof.Rows.eq_int q
  | NotEq => cases e; exact PyProof.Rows.ne_int q
  | _ => cases e
theorem pd_cmpS {op : CmpOp} {x y : Str} {c : Bool} {t t' : Tok} (e : cmpS op x y = some c) {Q E : Value → Shared → Prop} (q : Q (.bool c) s) : wpAny (model prog w) A (compareOp op (.str x t) (.str y t')) Q E s := by
  cases op with
  | Eq => cases e; exact PyProof.Rows.eq_str q
  | NotEq => cases e; exact PyProof.Rows.ne_str q
  | _ => cases e
theorem pd_cmpL {op : CmpOp} {xs ys : List PyData} {c : Bool} {u v : Value} (hm : Rm A n) (e : cmpL op xs ys = some c) (ra : Rd (hk hid s.heap) (.list xs) u) (rb : Rd (hk hid s.heap) (.list ys) v) {Q E : Value → Shared → Prop}
    (q : Q (.bool c) s) : wpAny (model prog w) A (compareOp op u v) Q E s := by
  obtain ⟨as, r1⟩ := Rd.reads (fun _ _ => hk_sub) _ _ ra
  obtain ⟨bs, r2⟩ := Rd.reads (fun _ _ => hk_sub) _ _ rb
  cases op with
  | Eq =>
    replace e : (if (shaped' (.list xs) && shaped' (.list ys)) = true then some (PyData.eqv (.list xs) (.list ys)) else none) = some c := e
    split at e
    · rename_i hs
      cases e
      have := Bool.and_eq_true_iff.mp hs
      exact SeqAt.compareEq_shaped r1 r2 this.1 this.2 hm.units q
    · cases e
  | NotEq =>
    replace e : (if (shaped' (.list xs) && shaped' (.list ys)) = true then some (!PyData.eqv (.list xs) (.list ys)) else none) = some c := e
    split at e
    · rename_i hs
      cases e
      have := Bool.and_eq_true_iff.mp hs
      exact SeqAt.compareNe_shaped r1 r2 this.1 this.2 hm.units q
    · cases e
  | _ => cases e
theorem pd_cmp {op : CmpOp} {a b : PyData} {c : Bool} {u v : Value} (hm : Rm A n) (e : cmpD op a b = some c) (ra : Rd (hk hid s.heap) a u) (rb : Rd (hk hid s.heap) b v) {Q E : Value → Shared → Prop}
    (q : Q (.bool c) s) : wpAny (model prog w) A (compareOp op u v) Q E s := by
  cases b with
  | none =>
    replace e : (if isIs op = true then some (isNoneD a) else none) = some c := e
    split at e
    · rename_i ho
      obtain rfl := isIs_eq ho
      cases e
      have : v = .none := by simpa only [Rd] using rb
      subst this
      refine is_none ?_
      rw [is_none_val ra]
      exact q
    · cases e
  | int j =>
    cases a with
    | int i => obtain ⟨t, rfl⟩ := rd_int ra; obtain ⟨t', rfl⟩ := rd_int rb; exact pd_cmpI e q
    | _ => cases e
  | str y =>
    cases a with
    | str x => obtain ⟨t, rfl⟩ := rd_str ra; obtain ⟨t', rfl⟩ := rd_str rb; exact pd_cmpS e q
    | _ => cases e
  | list ys =>
    cases a with
    | list xs => exact pd_cmpL hm e ra rb q
    | int i =>
      replace e : (if isIn op = true then inInts i ys else none) = some c := e
      split at e
      · rename_i ho
        obtain rfl := isIn_eq ho
        obtain ⟨t, rfl⟩ := rd_int ra
        obtain ⟨l, vs, n', rfl, hl, hv⟩ := rd_list rb
        obtain ⟨h1, h2⟩ := in_ints hv e
        refine SeqAt.in_listAt (items := vs.toArray) (fun y => match y with | .int j _ => j == i | _ => false) ⟨_, hk_sub hl, rfl, _, rfl⟩ (fun y hy => ?_) (by rw [List.any_toArray, ← h2]; exact q)
        obtain ⟨j, u, rfl⟩ := h1 y (List.mem_toArray.mp hy)
        exact SeqAt.EqAt.int_int _ _ _ _
      · cases e
    | _ => cases e
  | _ => cases e
theorem behind_of {op : CmpOp} {r : Expr} (h : ∀ es k p, r ≠ .Set es k p) : behindInMarks op r = false := by
  cases r <;> first | rfl | exact absurd rfl (h _ _ _)
theorem SndE.notSet {r : Expr} {sc : Sc} {d : PyData} (H : SndE prog w B n R) (e : R.ev sc σ r = some d) : ∀ es k p, r ≠ .Set es k p := by
  rintro es k p rfl; rw [H.noset] at e; cases e
theorem SndE.notStar {r : Expr} {sc : Sc} {d : PyData} (H : SndE prog w B n R) (e : R.ev sc σ r = some d) : ∀ f p, r ≠ .Starred f p := by
  rintro f p rfl; rw [H.nostar] at e; cases e
/-- an expression, evaluated in what a reckoning before it has left -/
theorem SndE.at {e : Expr} {d : PyData} {s' : Shared} (H : SndE prog w B n R) (hm : Rm A n) (h : EOk B env σ hid s) (k : Kp s s') (x : R.ev env.scope.names σ e = some d) :
    PD prog w A hid s' (eval e env) d := H.ev hm (h.kp k) x
theorem ev_bin {l r : Expr} {op : Operator} {p : Pos} {a b d : PyData} (H : SndE prog w B n R) (hm : Rm A n) (h : EOk B env σ hid s)
    (ea : R.ev env.scope.names σ l = some a) (eb : R.ev env.scope.names σ r = some b) (e : binD op a b = some d) : PD prog w A hid s (eval (.BinOp l op r p) env) d := fun Q E q =>
  wpAny_BinOp (H.ev hm h ea _ _ fun u s₁ k₁ r₁ => H.at hm h k₁ eb _ _ fun v s₂ k₂ r₂ =>
    pd_bin (h.hids.keeps (k₁.trans k₂)) e (r₁.keeps k₂) r₂ _ _ fun x s₃ k₃ r₃ => q x s₃ (k₁.trans (k₂.trans k₃)) r₃)
theorem ev_cmp {l r : Expr} {op : CmpOp} {p : Pos} {a b : PyData} {c : Bool} (H : SndE prog w B n R) (hm : Rm A n) (h : EOk B env σ hid s)
    (ea : R.ev env.scope.names σ l = some a) (eb : R.ev env.scope.names σ r = some b) (e : cmpD op a b = some c) : PD prog w A hid s (eval (.Compare l [op] [r] p) env) (.bool c) := fun Q E q =>
  wpAny_Compare1 (H.ev hm h ea _ _ fun u s₁ k₁ r₁ => H.at hm h k₁ eb _ _ fun v s₂ k₂ r₂ =>
    pd_cmp hm e (r₁.keeps k₂) r₂ (q _ _ (k₁.trans k₂) (by simp [Rd]))) (behind_of (H.notSet eb))
theorem tst_cmp {l r : Expr} {op : CmpOp} {p : Pos} {a b : PyData} {c : Bool} {whole : Sem Value} (H : SndE prog w B n R) (hm : Rm A n) (h : EOk B env σ hid s)
    (ea : R.ev env.scope.names σ l = some a) (eb : R.ev env.scope.names σ r = some b) (e : cmpD op a b = some c) : PBd prog w A s (isTrue (.Compare l [op] [r] p) env whole) c := fun Q E q =>
  wpAny_isTrue_Compare1 (H.ev hm h ea _ _ fun u s₁ k₁ r₁ => H.at hm h k₁ eb _ _ fun v s₂ k₂ r₂ =>
    pd_cmp hm e (r₁.keeps k₂) r₂ (wpAny_truthy_bool (q _ (k₁.trans k₂)))) (behind_of (H.notSet eb))
theorem ev_neg {x : Expr} {p : Pos} {i : Int} (H : SndE prog w B n R) (hm : Rm A n) (h : EOk B env σ hid s) (e : R.ev env.scope.names σ x = some (.int i)) :
    PD prog w A hid s (eval (.UnaryOp .USub x p) env) (.int (-i)) := fun Q E q =>
  wpAny_UnaryOp (H.ev hm h e _ _ fun u s₁ k₁ r₁ => by obtain ⟨t, rfl⟩ := rd_int r₁; exact neg_int (pd_tok k₁ q fun K => by simp [Rd]))
theorem ev_and {x y : Expr} {p : Pos} {b : Bool} {d : PyData} (H : SndE prog w B n R) (hm : Rm A n) (h : EOk B env σ hid s) (e : R.ev env.scope.names σ x = some (.bool b))
    (f : b = true → R.ev env.scope.names σ y = some d) (g : b = false → d = .bool false) : PD prog w A hid s (eval (.BoolOp .And [x, y] p) env) d := fun Q E q =>
  wpAny_And2 (H.ev hm h e _ _ fun u s₁ k₁ r₁ => by
    have : u = .bool b := by simpa only [Rd] using r₁
    subst this
    refine wpAny_truthy_bool ?_
    cases b with
    | true => rw [if_pos rfl]; exact H.at hm h k₁ (f rfl) _ _ fun v s₂ k₂ r₂ => q v s₂ (k₁.trans k₂) r₂
    | false => rw [if_neg Bool.false_ne_true]; rw [g rfl] at q; exact q _ _ k₁ (by simp [Rd]))
theorem ev_if {t a b : Expr} {p : Pos} {c : Bool} {d : PyData} (H : SndE prog w B n R) (hm : Rm A n) (h : EOk B env σ hid s) (e : R.tst env.scope.names σ t = some c)
    (f : c = true → R.ev env.scope.names σ a = some d) (g : c = false → R.ev env.scope.names σ b = some d) : PD prog w A hid s (eval (.IfExp t a b p) env) d := fun Q E q =>
  wpAny_IfExp (H.tst hm h e _ _ fun s₁ k₁ => by
    cases c with
    | true => rw [if_pos rfl]; exact H.at hm h k₁ (f rfl) _ _ fun v s₂ k₂ r₂ => q v s₂ (k₁.trans k₂) r₂
    | false => rw [if_neg Bool.false_ne_true]; exact H.at hm h k₁ (g rfl) _ _ fun v s₂ k₂ r₂ => q v s₂ (k₁.trans k₂) r₂)
theorem starEach_cons {e : Expr} {r : List Expr} (h : ∀ f p, e ≠ .Starred f p) : starEach (e :: r) env = (false, eval e env) :: starEach r env := by
  cases e <;> first | rfl | exact absurd rfl (h _ _)
theorem backTo_cons {p : Pos} {t : Sem Value} {r : List (Bool × Sem Value)} : backTo p ((false, t) :: r) = (false, t) :: backTo p r := rfl
theorem mapO_plain {sc : Sc} (H : SndE prog w B n R) {p : Pos} : ∀ {es : List Expr} {ds : List PyData}, mapO (R.ev sc σ) es = some ds → (backTo p (starEach es env)).any (·.1) = false ∧ (backTo p (starEach es env)).all (fun x => !x.1) = true ∧ ds.length = es.length
  | [], _, e => by simp [mapO] at e; subst e; exact ⟨rfl, rfl, rfl⟩
  | x :: r, _, e => by
    simp only [mapO, Option.bind_eq_some_iff] at e
    obtain ⟨d, e1, ds, e2, e3⟩ := e
    cases e3
    obtain ⟨a, b, c⟩ := mapO_plain H (p := p) e2
    rw [starEach_cons (H.notStar e1), backTo_cons]
    exact ⟨by simpa using a, by simpa using b, by simp [c]⟩
theorem ev_spliced (H : SndE prog w B n R) (hm : Rm A n) {p : Pos} : ∀ {es : List Expr} {ds : List PyData} {s : Shared}, EOk B env σ hid s → mapO (R.ev env.scope.names σ) es = some ds →
    PL prog w A hid s (spliced (backTo p (starEach es env))) ds
  | [], _, s, h, e => fun Q E q => by
    simp [mapO] at e; subst e
    exact spliced_nil (q [] s (Kp.refl s) (by simp [RdL]))
  | x :: r, _, s, h, e => fun Q E q => by
    simp only [mapO, Option.bind_eq_some_iff] at e
    obtain ⟨d, e1, ds, e2, e3⟩ := e
    cases e3
    rw [starEach_cons (H.notStar e1), backTo_cons]
    exact spliced_cons (H.ev hm h e1 _ _ fun u s₁ k₁ r₁ => ev_spliced H hm (h.kp k₁) e2 _ _ fun us s₂ k₂ r₂ => q _ _ (k₁.trans k₂) (by simp only [RdL]; exact ⟨u, us, rfl, r₁.keeps k₂, r₂⟩))
theorem ev_list {es : List Expr} {p : Pos} {ds : List PyData} (H : SndE prog w B n R) (hm : Rm A n) (h : EOk B env σ hid s) (hf : few es.length = true) (e : mapO (R.ev env.scope.names σ) es = some ds) :
    PD prog w A hid s (eval (.List es p) env) (.list ds) := fun Q E q =>
  wpAny_List (ev_spliced H hm h e _ _ fun vs s₁ k₁ r₁ => ⟨by rw [r₁.length, (mapO_plain (env := env) (p := p) H e).2.2]; exact few_le hf, q _ _ (k₁.trans (Kp.push _)) (rd_push_list (tk := s₁.toks) (h.hids.keeps k₁) r₁)⟩)
theorem ev_tuple {es : List Expr} {c : Nat} {p : Pos} {ds : List PyData} (H : SndE prog w B n R) (hm : Rm A n) (h : EOk B env σ hid s) (hf : few es.length = true) (e : mapO (R.ev env.scope.names σ) es = some ds) :
    PD prog w A hid s (eval (.Tuple es c p) env) (.tuple ds) := fun Q E q =>
  wpAny_Tuple (ev_spliced H hm h e _ _ fun vs s₁ k₁ r₁ => ⟨by rw [r₁.length, (mapO_plain (env := env) (p := p) H e).2.2]; exact few_le hf, q _ _ (k₁.trans (Kp.push _)) (rd_push_tuple (tk := s₁.toks) (h.hids.keeps k₁) r₁)⟩)
end
end Mine
/-! part 5 -/
set_option maxRecDepth 100000
namespace Mine
open PySem PySem.Calls PyProof.Rows PySem.W
section
variable {prog : Program} {w : World} {B : Bt} {A : Around} {hid : List Addr} {s : Shared} {env : Env} {σ : Sig} {n : Nat} {R : Ip}
theorem sub_oper (slice : Expr) (o i : Value) : ∃ vs, subscripted slice false o i = operate vs (getItem o i) := by
  unfold subscripted
  split
  · exact ⟨_, rfl⟩
  · rename_i h; cases h
  · exact ⟨_, rfl⟩
theorem sub_any {value slice : Expr} {pos : Pos} {Q E : Value → Shared → Prop}
    (h : wpAny (model prog w) A (eval value env) (fun o s₁ => wpAny (model prog w) A (eval slice env) (fun i s₂ => (∃ T id, s₂.TypeIs o T ∧ typeLookup (.type T) "__getitem__" = pure (some (.builtin id))) ∧
      wpAny (model prog w) A (getItem o i) Q E s₂) E s₁) E s) : wpAny (model prog w) A (eval (.Subscript value slice pos) env) Q E s := by
  rw [eval_Subscript]
  refine wpAny_bind (wpAny_mono h (fun o s₁ h₁ => wpAny_bind (wpAny_holding (wpAny_mono h₁ (fun i s₂ h₂ => wpAny_bind (wpAny_standAt ?_)) fun _ _ x => x))) fun _ _ x => x)
  obtain ⟨⟨T, id, hT, hl⟩, hg⟩ := h₂
  obtain ⟨vs, hvs⟩ := sub_oper slice o i
  have fin : wpAny (model prog w) A (subscripted slice false o i) (fun r s₃ => wpAny (model prog w) A (letTemporaryGo value o r >>= fun _ => pure r) Q E s₃) E s₂ := by
    rw [hvs]
    exact wpAny_operating (wpAny_mono hg (fun r s₃ h₃ => wpAny_bind (wpAny_letTemporaryGo (wpAny_pure h₃))) fun _ _ x => x)
  refine wpAny_bind ?_
  rw [getitemInPython_of_ne hT.not_modules]
  refine wpAny_bind (wpAny_specialOf hT hl ?_)
  first
    | exact wpAny_pure (wpAny_bind fin)
    | exact wpAny_bind (wpAny_pure (wpAny_bind fin))
    | exact wpAny_bind fin
theorem typeIs_list {s : Shared} {a : Addr} {vs : List Value} {k : Nat} (h : s.heap.get? a = some (lObj vs k)) : s.TypeIs (.ref a) "list" := ⟨_, h, rfl⟩
theorem ev_item {v i : Expr} {p : Pos} {xs : List PyData} {k : Int} {d : PyData} (H : SndE prog w B n R) (hm : Rm A n) (h : EOk B env σ hid s)
    (ev : R.ev env.scope.names σ v = some (.list xs)) (ei : R.ev env.scope.names σ i = some (.int k)) (hf : few xs.length = true) (e : idxD xs k = some d) : PD prog w A hid s (eval (.Subscript v i p) env) d := fun Q E q =>
  sub_any (H.ev hm h ev _ _ fun u s₁ k₁ r₁ => H.at hm h k₁ ei _ _ fun x s₂ k₂ r₂ => by
    obtain ⟨a, vs, m, rfl, ha, hv⟩ := rd_list (r₁.keeps k₂)
    obtain ⟨t, rfl⟩ := rd_int r₂
    refine ⟨⟨"list", _, typeIs_list (hk_sub ha), list_getitem_lookup⟩, ?_⟩
    unfold idxD at e
    split at e
    · rename_i h0
      obtain ⟨y, hy, rd⟩ := hv.get e
      have hlt : k.toNat < xs.length := (List.getElem?_eq_some_iff.mp e).1
      have := few_le' hf
      exact wpAny_getItem_list ⟨_, hk_sub ha, rfl, _, rfl⟩ h0 (by omega) (by simpa using hy) (q _ _ (k₁.trans k₂) rd)
    · cases e)
theorem ev_part {x : Option Expr} {a : Option PyData} {k : Option Int} {Q E : Value → Shared → Prop} (H : SndE prog w B n R) (hm : Rm A n) (h : EOk B env σ hid s) (e : optO (R.ev env.scope.names σ) x = some a) (ek : partD a = some k)
    (q : ∀ v s', Kp s s' → IsPart v k → Q v s') : wpAny (model prog w) A (evalPart x env) Q E s := by
  cases x with
  | none =>
    simp only [optO] at e; cases e
    simp only [partD] at ek; cases ek
    exact wpAny_evalPart_none (q _ _ (Kp.refl s) .none)
  | some x =>
    simp only [optO, Option.map_eq_some_iff] at e
    obtain ⟨d, e1, rfl⟩ := e
    refine wpAny_evalPart_some (H.ev hm h e1 _ _ fun v s₁ k₁ r₁ => q v s₁ k₁ ?_)
    cases d <;> simp [partD] at ek
    · subst ek; have : v = .none := by simpa only [Rd] using r₁
      subst this; exact .none
    · subst ek; obtain ⟨t, rfl⟩ := rd_int r₁; exact .int _ _
theorem RdL.pick {K : KM} {ds : List PyData} {vs : List Value} (h : RdL K ds vs) : ∀ idx : List Nat, RdL K (idx.filterMap (ds[·]?)) (idx.filterMap (vs[·]?))
  | [] => by simp [RdL]
  | i :: r => by
    have ih := RdL.pick h r
    cases e : ds[i]? with
    | none =>
      have : vs[i]? = none := by
        rw [List.getElem?_eq_none_iff] at e ⊢; rw [h.length]; exact e
      simpa [List.filterMap_cons, e, this] using ih
    | some d =>
      obtain ⟨v, hv, rd⟩ := h.get e
      simp only [List.filterMap_cons, e, hv, RdL]
      exact ⟨v, _, rfl, rd, ih⟩
theorem pick_list {K : KM} {xs : List PyData} {vs : List Value} {lo hi st : Option Int} {d : PyData} (h : RdL K xs vs) (e : sliceD xs lo hi st = some d) :
    ∃ ys us, d = .list ys ∧ slicePick vs.toArray lo hi st = us.toArray ∧ RdL K ys us ∧ st ≠ some 0 := by
  have hlen := h.length
  unfold sliceD at e
  split at e
  · cases e
    refine ⟨_, _, rfl, slicePick_plain _ _ _, ?_, by simp⟩
    simp only [List.size_toArray, hlen]
    exact (h.drop _).take _
  · rename_i k
    split at e
    · rename_i hk
      cases e
      refine ⟨_, (sliceRange (sliceBounds lo hi (some k) xs.length).1 (sliceBounds lo hi (some k) xs.length).2.1 (sliceBounds lo hi (some k) xs.length).2.2).filterMap (vs[·]?), rfl, ?_, h.pick _, ?_⟩
      · unfold slicePick
        simp only [List.size_toArray, hlen, List.getElem?_toArray]
      · intro q; cases q; omega
    · cases e
theorem ev_slice {v : Expr} {lo hi st : Option Expr} {p p' : Pos} {d dv : PyData} {a b c : Option PyData} {ka kb kc : Option Int} (H : SndE prog w B n R) (hm : Rm A n) (h : EOk B env σ hid s)
    (ev : R.ev env.scope.names σ v = some dv) (ea : optO (R.ev env.scope.names σ) lo = some a) (eb : optO (R.ev env.scope.names σ) hi = some b) (ec : optO (R.ev env.scope.names σ) st = some c)
    (pa : partD a = some ka) (pb : partD b = some kb) (pc : partD c = some kc) (e : subD dv ka kb kc = some d) : PD prog w A hid s (eval (.Subscript v (.Slice lo hi st p') p) env) d := fun Q E q =>
  sub_any (H.ev hm h ev _ _ fun u s₁ k₁ r₁ => wpAny_Slice (ev_part H hm (h.kp k₁) ea pa fun va s₂ k₂ ia => ev_part H hm (h.kp (k₁.trans k₂)) eb pb fun vb s₃ k₃ ib => ev_part H hm (h.kp (k₁.trans (k₂.trans k₃))) ec pc fun vc s₄ k₄ ic => by
    have k14 := k₂.trans (k₃.trans k₄)
    have k04 := k₁.trans k14
    have r4 := r₁.keeps k14
    have ks : Kp s₄ { s₄ with heap := s₄.heap.push { cls := .type "slice", data := .fields #[va, vb, vc] } } := Kp.push _
    unfold subD at e
    split at e
    · rename_i xs
      split at e
      · rename_i hf
        obtain ⟨l, vs, m, rfl, hl, hv⟩ := rd_list r4
        have hl' := ks.get (hk_sub hl)
        refine ⟨⟨"list", _, typeIs_list hl', list_getitem_lookup⟩, ?_⟩
        obtain ⟨ys, us, rfl, hp, hr, h0⟩ := pick_list hv e
        refine wpAny_getItem_list_slice ⟨_, hl', rfl, _, rfl⟩ (Heap.IsSliceOf.new ..) ia ib ic h0 ?_ (by simpa [hv.length] using few_le hf)
        rw [hp]
        exact q _ _ (k04.trans (ks.trans (Kp.push _))) (rd_push_list (tk := s₄.toks) ((h.hids.keeps k04).keeps ks) (hr.keeps ks))
      · cases e
    · rename_i x
      rcases ka with _ | i <;> rcases kb with _ | j <;> rcases kc with _ | c' <;> (try (simp at e; done))
      · simp only at e
        split at e
        · rename_i hf
          cases e
          obtain ⟨t, rfl⟩ := rd_str r4
          cases ia; cases ic
          cases ib with | int _ uj =>
          refine ⟨⟨"str", _, typeIs_str _ _ _, F.slot_str_getitem.lookup⟩, ?_⟩
          refine wpAny_getItem_str_slice (l := none) (u := some (j, uj)) (st := none) ⟨_, Heap.get?_push_size _ rfl, rfl, rfl⟩ rfl
            (post_val_or_str ⟨Nat.le_trans (Txt.slice_le x _ _) (few_le hf), fun t' k => q (.str (Txt.slice x none (some j)) t') _ (k04.trans (ks.trans Kp.tok)) (by simp [Rd])⟩)
        · cases e
    · cases e))
theorem kindOf_glob {f : Str} (h : glob env.scope.names σ f = true) : env.kindOf f = some .globalImplicit := by
  unfold glob at h
  exact eq_of_beq (Bool.and_eq_true_iff.mp h).1
theorem not_dbg {f : Str} (h : EOk B env σ hid s) (g : env.kindOf f = some .globalImplicit) : (f == ("__debug__" : Str)) = false := by
  cases e : f == ("__debug__" : Str) with
  | false => rfl
  | true => rw [eq_of_beq e, h.nodbg.1] at g; cases g
theorem ev_builtin {f : Str} {v : Value} {p : Pos} {Q E : Value → Shared → Prop} (h : EOk B env σ hid s) (g : env.kindOf f = some .globalImplicit) (b : B.mg f = none ∧ B.mb f = some v) (q : Q v s) :
    wpAny (model prog w) A (eval (.Name f p) env) Q E s :=
  Name_function_global h.kind g (loadGlobal_builtin (h.gl ▸ B.g.keeps h.base) b.1 (h.bl ▸ B.b.keeps h.base) b.2 q) (not_dbg h g)
theorem ev_global {f : Str} {v : Value} {p : Pos} {Q E : Value → Shared → Prop} (h : EOk B env σ hid s) (g : env.kindOf f = some .globalImplicit) (b : B.mg f = some v) (q : Q v s) :
    wpAny (model prog w) A (eval (.Name f p) env) Q E s :=
  Name_function_global h.kind g (loadGlobal_global (h.gl ▸ B.g.keeps h.base) b q) (not_dbg h g)
theorem ev_args (H : SndE prog w B n R) (hm : Rm A n) (h : EOk B env σ hid s) {f : Value} {p : Pos} {es : List Expr} {ds : List PyData} (hne : es ≠ []) (e : mapO (R.ev env.scope.names σ) es = some ds)
    {Q : Args → Shared → Prop} {E : Value → Shared → Prop} (q : ∀ vs s', Kp s s' → RdL (hk hid s'.heap) ds vs → Q ⟨vs, []⟩ s') : wpAny (model prog w) A (evalArgs f true (backTo p (starEach es env)) []) Q E s := by
  cases es with
  | nil => exact absurd rfl hne
  | cons x r =>
    have hx : ∃ d, R.ev env.scope.names σ x = some d := by
      simp only [mapO, Option.bind_eq_some_iff] at e; obtain ⟨d, e1, _⟩ := e; exact ⟨d, e1⟩
    obtain ⟨d, hx⟩ := hx
    have hs := ev_spliced (p := p) H hm h e
    rw [starEach_cons (H.notStar hx), backTo_cons] at hs ⊢
    exact evalArgs_plain (hs _ _ q)
/-- a call of a built-in, by its name -/
theorem call_bi (H : SndE prog w B n R) (hm : Rm A n) (h : EOk B env σ hid s) {f : Str} {p p' : Pos} {es : List Expr} {ds : List PyData} (g : env.kindOf f = some .globalImplicit) {id : String} (b : B.mg f = none ∧ B.mb f = some (.builtin id))
    (hne : es ≠ []) (e : mapO (R.ev env.scope.names σ) es = some ds) {Q E : Value → Shared → Prop} (q : ∀ vs s', Kp s s' → RdL (hk hid s'.heap) ds vs → wpAny (model prog w) A (call (.builtin id) vs) Q E s') :
    wpAny (model prog w) A (eval (.Call (.Name f p) es [] p') env) Q E s := by
  rw [arm_eval_Call_Name']
  refine wpAny_bind (ev_builtin h g b ?_)
  exact Calls.callWith_builtin (mapO_plain H e).1 (ev_args H hm h hne e fun vs s' k r => q vs s' k r)
theorem call_ty (H : SndE prog w B n R) (hm : Rm A n) (h : EOk B env σ hid s) {f : Str} {p p' : Pos} {es : List Expr} {ds : List PyData} (g : env.kindOf f = some .globalImplicit) {T : String} (b : B.mg f = none ∧ B.mb f = some (.type T))
    (hne : es ≠ []) (e : mapO (R.ev env.scope.names σ) es = some ds) {Q E : Value → Shared → Prop} (q : ∀ vs s', Kp s s' → RdL (hk hid s'.heap) ds vs → wpAny (model prog w) A (call (.type T) vs) Q E s') :
    wpAny (model prog w) A (eval (.Call (.Name f p) es [] p') env) Q E s := by
  rw [arm_eval_Call_Name']
  refine wpAny_bind (ev_builtin h g b ?_)
  exact PyProof.Rows.callWith_type (mapO_plain H e).1 (ev_args H hm h hne e fun vs s' k r => q vs s' k r)
theorem call_fn (H : SndE prog w B n R) (hm : Rm A n) (h : EOk B env σ hid s) {f : Str} {p p' : Pos} {es : List Expr} {ds : List PyData} {d : PyData} (g : env.kindOf f = some .globalImplicit)
    (hne : es ≠ []) (e : mapO (R.ev env.scope.names σ) es = some ds) (c : R.call f ds = some d) : PD prog w A hid s (eval (.Call (.Name f p) es [] p') env) d := fun Q E q => by
  obtain ⟨a, o, fd, hf, ho, hd⟩ := H.fnm c
  rw [arm_eval_Call_Name']
  refine wpAny_bind (ev_global h g hf ?_)
  refine Calls.callWith_function (ev_args H hm h hne e fun vs s' k r => ⟨⟨k.get (h.base _ _ ho), hd⟩, ?_⟩)
  exact H.call hm (h.base.kp k) (h.hids.keeps k) r c hf _ _ fun v s₂ k₂ r₂ => q v s₂ (k.trans k₂) r₂
theorem sum_ints : ∀ {xs : List PyData} {vs : List Value} {K : KM} {t : Int}, RdL K xs vs → sumD xs = some t → ∃ ns, IntsAre vs ns ∧ t = ns.sum ∧ ∀ m ∈ ns, m.natAbs < 2 ^ 40
  | [], vs, K, t, r, e => by
    simp only [RdL] at r; subst r; simp [sumD] at e; subst e; exact ⟨[], .nil, by simp, by simp⟩
  | .int i :: xs, vs, K, t, r, e => by
    simp only [RdL] at r
    obtain ⟨v, rest, rfl, h1, h2⟩ := r
    obtain ⟨u, rfl⟩ := rd_int h1
    simp only [sumD] at e
    split at e
    · rename_i hi
      simp only [Option.map_eq_some_iff] at e
      obtain ⟨t', e', rfl⟩ := e
      obtain ⟨ns, h3, h4, h5⟩ := sum_ints h2 e'
      exact ⟨i :: ns, .cons i u h3, by simp [h4], by simpa using ⟨hi, h5⟩⟩
    · cases e
  | .none :: _, _, _, _, _, e => by simp [sumD] at e
  | .bool _ :: _, _, _, _, _, e => by simp [sumD] at e
  | .str _ :: _, _, _, _, _, e => by simp [sumD] at e
  | .list _ :: _, _, _, _, _, e => by simp [sumD] at e
  | .tuple _ :: _, _, _, _, _, e => by simp [sumD] at e
  | .dict _ :: _, _, _, _, _, e => by simp [sumD] at e
theorem preSum_take (ns : List Int) : ∀ j, j ≤ ns.length → preSum (fun i => ns.getD i 0) j = (ns.take j).sum
  | 0, _ => by simp [preSum]
  | j + 1, h => by
    have hj : j < ns.length := by omega
    rw [preSum, preSum_take ns j (by omega), ← List.take_append_getElem hj, List.sum_append]
    simp [List.getD_eq_getElem?_getD, List.getElem?_eq_getElem hj]
theorem sum_bound (ns : List Int) (h : ∀ m ∈ ns, m.natAbs < 2 ^ 40) : ns.sum.natAbs ≤ ns.length * 2 ^ 40 := by
  induction ns with
  | nil => simp
  | cons a r ih =>
    have h1 := h a (by simp)
    have h2 := ih fun m hm => h m (by simp [hm])
    simp only [List.sum_cons, List.length_cons]
    omega
theorem call_sum {l : Addr} {vs : List Value} {k : Nat} {ns : List Int} {Q E : Value → Shared → Prop} (hh : A.handled = none) (hl : s.heap.get? l = some (lObj vs k)) (hi : IntsAre vs ns) (hb : ∀ m ∈ ns, m.natAbs < 2 ^ 40) (hf : few ns.length = true)
    (q : ∀ t s', Kp s s' → Q (.int ns.sum t) s') : wpAny (model prog w) A (call (.builtin "sum") [.ref l]) Q E s := by
  have hL : s.heap.IsList l vs.toArray := ⟨_, hl, rfl, _, rfl⟩
  have hne : l ≠ s.heap.objs.size := Nat.ne_of_lt (Heap.lt_size hl)
  have hlen : vs.toArray.size = ns.length := by simp [hi.length]
  refine call_sum_walk (wpAny_pyIter_list hL ?_)
  refine ⟨_, _, _, _, _, _, fun i => ns.getD i 0, rfl, Walks.list (by exact hh) _ _ hne vs.toArray, ⟨⟨_, Heap.get?_push_size _ rfl, rfl, rfl⟩, ⟨_, Heap.get?_push_of_some _ hl, rfl, _, rfl⟩⟩, ?_, ?_, ?_, ?_⟩
  · intro b hb
    rcases List.mem_cons.mp hb with rfl | hb
    · show _ < _; rw [Heap.size_push]; exact Nat.lt_succ_self _
    · rw [List.mem_singleton.mp hb]; show _ < _; rw [Heap.size_push]; exact Nat.lt_succ_of_lt (Heap.lt_size hl)
  · intro i v hv
    have hv' : vs[i]? = some v := by simpa using hv
    have hlt : i < ns.length := by rw [← hi.length]; exact (List.getElem?_eq_some_iff.mp hv').1
    obtain ⟨t, ht⟩ := hi.get i ns[i] (by simp [hlt])
    rw [hv'] at ht
    cases ht
    exact ⟨t, by simp [List.getD_eq_getElem?_getD, hlt]⟩
  · intro j hj
    rw [hlen] at hj
    have h1 := hb ns[j] (List.getElem_mem hj)
    have h2 := sum_bound (ns.take (j + 1)) fun m hm => hb m (List.mem_of_mem_take hm)
    have h3 : (ns.take (j + 1)).length ≤ 100000 := by rw [List.length_take]; have := few_le' hf; omega
    have h4 : (ns.take (j + 1)).length * 2 ^ 40 ≤ 100000 * 2 ^ 40 := Nat.mul_le_mul_right _ h3
    rw [preSum_take ns (j + 1) (by omega)]
    simp only [List.getD_eq_getElem?_getD, List.getElem?_eq_getElem hj, Option.getD_some, InLong]
    omega
  · intro h' tk t' hk
    rw [hlen, preSum_take ns _ (Nat.le_refl _), List.take_length]
    refine q t' _ (Kp.mk' fun b o e => ?_)
    refine hk b o (fun m => ?_) (Heap.get?_push_of_some _ e)
    rw [List.mem_singleton.mp m, get_size] at e
    cases e
theorem strs_are : ∀ {xs : List PyData} {vs : List Value} {K : KM} {ts : List Str}, RdL K xs vs → strsD xs = some ts → StrsAre vs ts
  | [], vs, K, t, r, e => by simp only [RdL] at r; subst r; simp [strsD] at e; subst e; exact .nil
  | .str x :: xs, vs, K, t, r, e => by
    simp only [RdL] at r
    obtain ⟨v, rest, rfl, h1, h2⟩ := r
    obtain ⟨u, rfl⟩ := rd_str h1
    simp only [strsD, Option.map_eq_some_iff] at e
    obtain ⟨t', e', rfl⟩ := e
    exact .cons x u (strs_are h2 e')
  | .none :: _, _, _, _, _, e => by simp [strsD] at e
  | .bool _ :: _, _, _, _, _, e => by simp [strsD] at e
  | .int _ :: _, _, _, _, _, e => by simp [strsD] at e
  | .list _ :: _, _, _, _, _, e => by simp [strsD] at e
  | .tuple _ :: _, _, _, _, _, e => by simp [strsD] at e
  | .dict _ :: _, _, _, _, _, e => by simp [strsD] at e
end
end Mine
/-! part 6 -/
set_option maxRecDepth 100000
namespace Mine
open PySem PySem.Calls PyProof.Rows PySem.W
section
variable {prog : Program} {w : World} {B : Bt} {A : Around} {hid : List Addr} {s : Shared} {env : Env} {σ : Sig} {n : Nat} {R : Ip}
theorem notSeq {o : Obj} {c : String} (h : o.cls = .type c) (n : (c == "list") = false) (m : (c == "tuple") = false) : ¬ isSeqObj o := by
  rintro (⟨_, _, rfl⟩ | ⟨_, _, rfl⟩)
  · simp only [Value.type.injEq] at h; subst h; simp at n
  · simp only [Value.type.injEq] at h; subst h; simp at m
/-- no owned tuple at an iterator of a list or of a range -/
theorem letgo_plain {I : Addr} {o : Obj} {c : String} {vs : Array Value} {tgt : Expr} {v : Value} {Q : Unit → Shared → Prop} {E : Value → Shared → Prop} (ho : s.heap.get? I = some o) (hc : o.cls = .type c) (hd : o.data = .fields vs)
    (hn : (["enumerate", "zip", "dict_itemiterator", "dict_reverseitemiterator", "odict_iterator", "itertools.zip_longest", "itertools.pairwise"] : List String).contains c = false) (q : Q () s) :
    wpAny (model prog w) A (letOwnedTupleGo tgt (.ref I) v) Q E s := by
  unfold letOwnedTupleGo
  split
  · cases v <;> first | exact wpAny_pure q | skip
    refine wpAny_bind (wpAny_load ho ?_)
    obtain ⟨c', d', dt, sl⟩ := o
    simp only at hc hd
    subst hc hd
    show wpAny _ _ (if ((_ : List String).contains c && _) = true then _ else _) _ _ _
    rw [hn, Bool.false_and, if_neg Bool.false_ne_true]
    exact wpAny_pure q
  · cases v <;> first | exact wpAny_pure q | skip
    refine wpAny_bind (wpAny_load ho ?_)
    obtain ⟨c', d', dt, sl⟩ := o
    simp only at hc hd
    subst hc hd
    show wpAny _ _ (if ((_ : List String).contains c && _) = true then _ else _) _ _ _
    rw [hn, Bool.false_and, if_neg Bool.false_ne_true]
    exact wpAny_pure q
  · exact wpAny_pure q
/-- a list's state as a source: the iterator stands at the place, the list and all its items are as they were -/
noncomputable def ListSt (K₀ : KM) (I l : Addr) (vs : List Value) (k : Nat) (all : List PyData) (ds : List PyData) (h : Heap) : Prop :=
  (∀ a o, isSeqObj o → K₀ a = some o → h.get? a = some o) ∧ K₀ l = some (lObj vs k) ∧ RdL K₀ all vs ∧ ∃ i, ds = all.drop i ∧ i ≤ all.length ∧ h.IsListIter I l i
theorem K0_rd {K₀ : KM} {h : Heap} {hid : List Addr} (hK : ∀ a o, isSeqObj o → K₀ a = some o → h.get? a = some o) (hn : ∀ a ∈ hid, K₀ a = none) {d : PyData} {v : Value} (r : Rd K₀ d v) : Rd (hk hid h) d v :=
  Rd.mono (fun a o ho e => hk_of (fun m => by rw [hn a m] at e; cases e) (hK a o ho e)) d v r
theorem feed_list {K₀ : KM} {I l : Addr} {vs : List Value} {k : Nat} {all : List PyData} (hh : A.handled = none) (hne : l ≠ I) : Feed prog w A K₀ false I [I] (ListSt K₀ I l vs k all) where
  live := fun ds h st b hb => by
    obtain ⟨_, _, _, i, _, _, oi, ho, _⟩ := st
    rw [List.mem_singleton.mp hb]; exact ⟨oi, ho⟩
  frame := fun ds h h' st hw hK => by
    obtain ⟨a, b, c, i, d, e, f⟩ := st
    refine ⟨fun x o ho hx => hK x o ho hx (a x o ho hx), b, c, i, d, e, f.at fun o x => hw I o (by simp) x⟩
  item := fun d ds s tgt Q E hft st q => by
    obtain ⟨hK, hl, hr, i, hds, hi, hit⟩ := st
    have hli : s.heap.IsList l vs.toArray := ⟨_, hK l _ (.inl ⟨_, _, rfl⟩) hl, rfl, _, rfl⟩
    have hlt : i < all.length := by
      rcases Nat.lt_or_ge i all.length with h | h
      · exact h
      · rw [List.drop_eq_nil_of_le h] at hds; cases hds
    have hd : all[i]? = some d := by
      have := congrArg List.head? hds
      simpa [List.head?_drop] using this.symm
    obtain ⟨v, hv, rd⟩ := hr.get hd
    refine wpAny_pyNext_list_item hit hli (x := v) (by simpa using hv) fun h' hit' hs' => ?_
    have hK' : ∀ a o, isSeqObj o → K₀ a = some o → h'.get? a = some o := fun a o ho e => by
      have e' := hK a o ho e
      refine (hs'.2 a fun q => ?_).trans e'
      obtain ⟨oi, ho', hc', _⟩ := hit
      rw [q, ho'] at e'
      cases e'
      exact notSeq hc' (by decide) (by decide) ho
    obtain ⟨oi, hoi, hci, hdi⟩ := id hit'
    refine letgo_plain hoi hci hdi (by decide) ?_
    refine q v _ (ext_fw fun b o n e => (hs'.2 b (by simpa using n)).trans e) ⟨hK', hl, hr, i + 1, ?_, hlt, hit'⟩ fun hid hn => K0_rd hK' (fun a m => (hn a m).1) rd
    have := congrArg List.tail hds
    simpa using this
  done := fun s Q E st q => by
    obtain ⟨hK, hl, hr, i, hds, hi, hit⟩ := st
    have hli : s.heap.IsList l vs.toArray := ⟨_, hK l _ (.inl ⟨_, _, rfl⟩) hl, rfl, _, rfl⟩
    have hge : all.length ≤ i := by
      rcases Nat.lt_or_ge i all.length with h | h
      · have := congrArg List.length hds
        rw [List.length_drop] at this
        simp at this; omega
      · exact h
    refine wpAny_pyNext_list_end hh hit hli (by simp [hr.length, hge]) fun h' he' => q _ ?_
    exact ext_fw fun b o n e => he' b o (by simpa using n) e
  self := fun ds s Q E st q => by
    obtain ⟨_, _, _, i, _, _, hit⟩ := st
    exact wpAny_pyIter_listiter hit q
theorem src_list {e : Expr} {xs : List PyData} (hh : A.handled = none) (h : HidOk hid s) (ev : PD prog w A hid s (eval e env) (.list xs)) : PSrc prog w A hid s (eval e env) false xs := fun Q E q =>
  ev _ _ fun u s₁ k₁ r₁ => by
    obtain ⟨l, vs, k, rfl, hl, hv⟩ := rd_list r₁
    refine wpAny_pyIter_list ⟨_, hk_sub hl, rfl, _, rfl⟩ ?_
    have hne : l ≠ s₁.heap.objs.size := Nat.ne_of_lt (Heap.lt_size (hk_sub hl))
    have kp : Kp s₁ { s₁ with heap := s₁.heap.push { cls := .type "list_iterator", data := .fields #[.ref l, .int 0 0] } } := Kp.push _
    refine q _ _ (hk hid s₁.heap) [s₁.heap.objs.size] (ListSt (hk hid s₁.heap) s₁.heap.objs.size l vs k xs) (k₁.trans kp) (fun a o e => ⟨hk_not e, kp.get (hk_sub e)⟩) ?_ (feed_list hh hne) ?_
    · intro b hb
      rw [List.mem_singleton.mp hb]
      refine ⟨?_, ?_⟩
      · cases e' : s.heap.get? s₁.heap.objs.size with
        | none => rfl
        | some o => have := k₁.get e'; rw [get_size] at this; cases this
      · unfold hk; split
        · rfl
        · exact get_size _
    · exact ⟨fun a o _ e => kp.get (hk_sub e), hl, hv, 0, rfl, Nat.zero_le _, ⟨_, Heap.get?_push_size _ rfl, rfl, rfl⟩⟩
/-- a range's state as a source -/
noncomputable def RangeSt (I : Addr) (a : Int) (m : Nat) (ds : List PyData) (h : Heap) : Prop :=
  ∃ i : Nat, i ≤ m ∧ ds = ((List.range m).map fun (k : Nat) => PyData.int (a + (k : Int))).drop i ∧ IsRangeIter h I (a + (i : Int)) ((m : Int) - (i : Int)) 1
theorem feed_range {K₀ : KM} {I : Addr} {a : Int} {m : Nat} (hh : A.handled = none) : Feed prog w A K₀ false I [I] (RangeSt I a m) where
  live := fun ds h st b hb => by
    obtain ⟨i, _, _, ho⟩ := st
    rw [List.mem_singleton.mp hb]; exact ⟨_, ho⟩
  frame := fun ds h h' st hw hK => by
    obtain ⟨i, hi, hd, hit⟩ := st
    exact ⟨i, hi, hd, hw I _ (by simp) hit⟩
  item := fun d ds s tgt Q E hft st q => by
    obtain ⟨i, hi, hds, hit⟩ := st
    have hlt : i < m := by
      rcases Nat.lt_or_ge i m with h | h
      · exact h
      · rw [List.drop_eq_nil_of_le (by simpa using h)] at hds; cases hds
    have hd : d = .int (a + (i : Int)) := by
      have := congrArg List.head? hds
      simp [List.head?_drop, hlt] at this
      exact this
    refine wpAny_pyNext_range_item hit (by omega) fun h' hit' hs' => ?_
    refine letgo_plain (c := "range_iterator") hit' rfl rfl (by decide) ?_
    refine q _ _ (ext_fw fun b o n e => (hs'.2 b (by simpa using n)).trans e) ⟨i + 1, hlt, ?_, ?_⟩ fun hid hn => by subst hd; simp [Rd]
    · have := congrArg List.tail hds
      simpa using this
    · have e1 : a + ((i + 1 : Nat) : Int) = a + (i : Int) + 1 := by push_cast; omega
      have e2 : ((m : Int) - ((i + 1 : Nat) : Int)) = (m : Int) - (i : Int) - 1 := by push_cast; omega
      rw [e1, e2]
      exact hit'
  done := fun s Q E st q => by
    obtain ⟨i, hi, hds, hit⟩ := st
    have hge : m ≤ i := by
      rcases Nat.lt_or_ge i m with h | h
      · have := congrArg List.length hds
        simp at this; omega
      · exact h
    exact wpAny_pyNext_range_end hh hit (by omega) fun h' he' => q _ (ext_fw fun b o n e => he' b o (by simpa using n) e)
  self := fun ds s Q E st q => by
    obtain ⟨i, _, _, hit⟩ := st
    exact wpAny_pyIter_rangeiter hit q
theorem rangeD_ints {ds items : List PyData} (e : rangeD ds = some items) : ∃ (a b : Int) (m : Nat), (ds = [.int b] ∧ a = 0 ∨ ds = [.int a, .int b]) ∧ items = ((List.range m).map fun (k : Nat) => PyData.int (a + (k : Int))) ∧
    Builtin.Range.rangeSize a b 1 = m ∧ Builtin.Range.small a b 1 = true ∧ m ≤ 64 := by
  unfold rangeD at e
  split at e
  · rename_i n
    split at e
    · rename_i hn
      cases e
      refine ⟨0, n, n.toNat, .inl ⟨rfl, rfl⟩, by simp, ?_, small_one (by omega) (by omega) (by omega) (by omega), by omega⟩
      rw [rangeSize_one]; split <;> omega
    · cases e
  · rename_i a b
    split at e
    · rename_i hn
      cases e
      refine ⟨a, b, (b - a).toNat, .inr rfl, by simp, ?_, small_one (by omega) (by omega) (by omega) (by omega), by omega⟩
      rw [rangeSize_one]; split <;> omega
    · cases e
  · cases e
theorem call_range {ds : List PyData} {vs : List Value} {a b : Int} (hd : ds = [.int b] ∧ a = 0 ∨ ds = [.int a, .int b]) {K : KM} (r : RdL K ds vs) {Q E : Value → Shared → Prop}
    (q : ∀ r s' t u v, Kp s s' → s.heap.get? r = none → IsRange s'.heap r a b 1 t u v → Q (.ref r) s') : wpAny (model prog w) A (call (.type "range") vs) Q E s := by
  rcases hd with ⟨rfl, rfl⟩ | rfl
  · simp only [RdL] at r
    obtain ⟨v, r, rfl, h1, rfl⟩ := r
    obtain ⟨t, rfl⟩ := rd_int h1
    exact call_range_1 (q _ _ _ _ _ (Kp.push _) (get_size _) (IsRange.new ..))
  · simp only [RdL] at r
    obtain ⟨v, r, rfl, h1, v', r', rfl, h2, rfl⟩ := r
    obtain ⟨t, rfl⟩ := rd_int h1
    obtain ⟨t', rfl⟩ := rd_int h2
    exact call_range_2 (q _ _ _ _ _ (Kp.push _) (get_size _) (IsRange.new ..))
theorem isNm_eq {x : Str} {s : String} (h : isNm x s = true) : x = Str.ofString s := eq_of_beq h
theorem src_range (H : SndE prog w B n R) (hm : Rm A n) (h : EOk B env σ hid s) {f : Str} {p p' : Pos} {es : List Expr} {ds items : List PyData} (g : env.kindOf f = some .globalImplicit) (hf : isNm f "range" = true)
    (e : mapO (R.ev env.scope.names σ) es = some ds) (er : rangeD ds = some items) : PSrc prog w A hid s (eval (.Call (.Name f p) es [] p') env) false items := fun Q E q => by
  obtain ⟨a, b, m, hd, rfl, hsz, hsm, hm64⟩ := rangeD_ints er
  have hne : es ≠ [] := by
    rintro rfl
    simp [mapO] at e; subst e
    rcases hd with ⟨x, _⟩ | x <;> cases x
  have := isNm_eq hf
  subst this
  refine call_ty H hm h g B.range hne e fun vs s₁ k₁ r₁ => call_range hd r₁ fun r s₂ t u v k₂ hnew hr => ?_
  refine wpAny_pyIter_range hr hsm ?_
  have kp : Kp s₂ { s₂ with heap := s₂.heap.push { cls := .type "range_iterator", data := .fields #[rawInt a, rawInt (Builtin.Range.rangeSize a b 1), rawInt 1] } } := Kp.push _
  have k03 := (k₁.trans k₂)
  refine q _ _ (fun _ => none) [s₂.heap.objs.size] (RangeSt s₂.heap.objs.size a m) (k03.trans kp) (fun a o e => by cases e) ?_ (feed_range hm.hd) ?_
  · intro b hb
    rw [List.mem_singleton.mp hb]
    refine ⟨?_, rfl⟩
    cases e' : s.heap.get? s₂.heap.objs.size with
      | none => rfl
      | some o => have := k03.get e'; rw [get_size] at this; cases this
  · refine ⟨0, Nat.zero_le _, rfl, ?_⟩
    have e1 : a + ((0 : Nat) : Int) = a := by simp
    have e2 : ((m : Int) - ((0 : Nat) : Int)) = Builtin.Range.rangeSize a b 1 := by rw [hsz]; simp
    rw [e1, e2]
    exact Heap.get?_push_size _ rfl
/-- an enumeration's state as a source -/
noncomputable def EnumSt (K₀ : KM) (I it l : Addr) (vs : List Value) (k : Nat) (all : List PyData) (ds : List PyData) (h : Heap) : Prop :=
  (∀ a o, isSeqObj o → K₀ a = some o → h.get? a = some o) ∧ K₀ l = some (lObj vs k) ∧ RdL K₀ all vs ∧ ∃ (i : Nat) (old : Value), ds = (all.zipIdx.map fun p => PyData.tuple [.int p.2, p.1]).drop i ∧ i ≤ all.length ∧ h.IsListIter it l i ∧ IsEnum h I it i old
theorem feed_enum {K₀ : KM} {I it l : Addr} {vs : List Value} {k : Nat} {all : List PyData} (hh : A.handled = none) (hne : I ≠ it) : Feed prog w A K₀ true I [I, it] (EnumSt K₀ I it l vs k all) where
  live := fun ds h st b hb => by
    obtain ⟨_, _, _, i, old, _, _, ⟨oi, ho, _⟩, he⟩ := st
    rcases List.mem_cons.mp hb with rfl | hb
    · exact ⟨_, he⟩
    · rw [List.mem_singleton.mp hb]; exact ⟨oi, ho⟩
  frame := fun ds h h' st hw hK => by
    obtain ⟨a, b, c, i, old, d, e, f, g⟩ := st
    exact ⟨fun x o ho hx => hK x o ho hx (a x o ho hx), b, c, i, old, d, e, f.at fun o x => hw it o (by simp) x, hw I _ (by simp) g⟩
  item := fun d ds s tgt Q E hft st q => by
    obtain ⟨hK, hl, hr, i, old, hds, hi, hit, he⟩ := st
    have hli : s.heap.IsList l vs.toArray := ⟨_, hK l _ (.inl ⟨_, _, rfl⟩) hl, rfl, _, rfl⟩
    have hlt : i < all.length := by
      rcases Nat.lt_or_ge i all.length with h | h
      · exact h
      · rw [List.drop_eq_nil_of_le (by simpa using h)] at hds; cases hds
    have hd : d = .tuple [.int i, all[i]] := by
      have := congrArg List.head? hds
      simp [List.head?_drop, hlt] at this
      exact this
    obtain ⟨v, hv, rd⟩ := hr.get (List.getElem?_eq_getElem hlt)
    refine wpAny_pyNext_enum_item he hit hli (x := v) (by simpa using hv) hne fun h' ho hit' hT hsz hk' => ?_
    have noseq : ∀ a o, isSeqObj o → s.heap.get? a = some o → a ≠ I ∧ a ≠ it := fun a o ho e => by
      refine ⟨fun q => ?_, fun q => ?_⟩
      · rw [q, he] at e; cases e; exact notSeq rfl (by decide) (by decide) ho
      · obtain ⟨oi, ho', hc', _⟩ := hit
        rw [q, ho'] at e; cases e; exact notSeq hc' (by decide) (by decide) ho
    have hK1 : ∀ a o, isSeqObj o → K₀ a = some o → h'.get? a = some o := fun a o hs e => by
      have e' := hK a o hs e
      obtain ⟨n1, n2⟩ := noseq a o hs e'
      exact hk' a o n1 n2 e'
    have helt : I < s.heap.objs.size := Heap.lt_size he
    have hTI : s.heap.objs.size ≠ I := Nat.ne_of_gt helt
    have fin : ∀ (h'' : Heap), IsEnum h'' I it ((i : Int) + 1) v → Heap.SameBut I h' h'' →
        Q (.ref s.heap.objs.size) { s with heap := h'', toks := s.toks + 1 } := fun h'' he'' hs'' => by
      have hne' : it ≠ I := Ne.symm hne
      have hK2 : ∀ a o, isSeqObj o → K₀ a = some o → h''.get? a = some o := fun a o hs e => by
        have e' := hK a o hs e
        exact (hs''.2 a (noseq a o hs e').1).trans (hK1 a o hs e)
      have hT2 : h''.get? s.heap.objs.size = some (tObj [.int i s.toks, v] 0) := (hs''.2 _ hTI).trans hT
      refine q _ _ (ext_fw fun b o n e => ?_) ⟨hK2, hl, hr, i + 1, v, ?_, hlt, ?_, ?_⟩ fun hid hn => ?_
      · have n1 : b ≠ I := fun q => n (by simp [q])
        have n2 : b ≠ it := fun q => n (by simp [q])
        exact (hs''.2 b n1).trans (hk' b o n1 n2 e)
      · have := congrArg List.tail hds
        simpa using this
      · exact hit'.at fun o x => (hs''.2 it hne').trans x
      · have e1 : ((i + 1 : Nat) : Int) = (i : Int) + 1 := by push_cast; rfl
        rw [e1]; exact he''
      · subst hd
        simp only [Rd]
        refine ⟨_, _, 0, rfl, hk_of (fun m => ?_) hT2, ?_⟩
        · obtain ⟨_, o, e⟩ := hn _ m
          rw [get_size] at e; cases e
        · simp only [RdL, Rd]
          exact ⟨_, _, rfl, ⟨_, rfl⟩, _, _, rfl, K0_rd hK2 (fun a m => (hn a m).1) rd, rfl⟩
    obtain ⟨elts, ht⟩ := Option.isSome_iff_exists.mp (show (vTuple tgt).isSome = true from hft)
    obtain ⟨x1, pos, rfl⟩ := vTuple_eq ht
    exact wpAny_letOwnedTupleGo_enum ho fun h'' he'' hs'' => fin h'' he'' hs''
  done := fun s Q E st q => by
    obtain ⟨hK, hl, hr, i, old, hds, hi, hit, he⟩ := st
    have hli : s.heap.IsList l vs.toArray := ⟨_, hK l _ (.inl ⟨_, _, rfl⟩) hl, rfl, _, rfl⟩
    have hge : all.length ≤ i := by
      rcases Nat.lt_or_ge i all.length with h | h
      · have := congrArg List.length hds
        simp at this; omega
      · exact h
    refine wpAny_pyNext_enum_end hh he hit hli (by simp [hr.length, hge]) fun h' he' => q _ ?_
    exact ext_fw fun b o n e => he' b o (fun q => n (by simp [q])) e
  self := fun ds s Q E st q => by
    obtain ⟨_, _, _, i, old, _, _, _, he⟩ := st
    exact wpAny_pyIter_enum he q
end
end Mine
/-! part 7 -/
set_option maxRecDepth 100000
namespace Mine
open PySem PySem.Calls PyProof.Rows PySem.W
section
variable {prog : Program} {w : World} {B : Bt} {A : Around} {hid : List Addr} {s : Shared} {env : Env} {σ : Sig} {n : Nat} {R : Ip}
theorem src_enum (H : SndE prog w B n R) (hm : Rm A n) (h : EOk B env σ hid s) {f : Str} {p p' : Pos} {e : Expr} {xs : List PyData} (g : env.kindOf f = some .globalImplicit) (hf : isNm f "enumerate" = true)
    (ev : R.ev env.scope.names σ e = some (.list xs)) : PSrc prog w A hid s (eval (.Call (.Name f p) [e] [] p') env) true (xs.zipIdx.map fun p => .tuple [.int p.2, p.1]) := fun Q E q => by
  have := isNm_eq hf
  subst this
  refine call_ty H hm h g B.enumerate (by simp) (ds := [.list xs]) (by simp [mapO, ev]) fun vs s₁ k₁ r₁ => ?_
  simp only [RdL] at r₁
  obtain ⟨v, r, rfl, h1, rfl⟩ := r₁
  obtain ⟨l, vs, k, rfl, hl, hv⟩ := rd_list h1
  refine call_enumerate_list ⟨_, hk_sub hl, rfl, _, rfl⟩ fun h' he hit hsz hk' => ?_
  refine wpAny_pyIter_enum he ?_
  have kp : Kp s₁ { s₁ with heap := h', toks := s₁.toks } := Kp.mk' hk'
  have hnew : ∀ b, s₁.heap.get? b = none → s.heap.get? b = none := fun b e' => by
    cases e'' : s.heap.get? b with
    | none => rfl
    | some o => have := k₁.get e''; rw [e'] at this; cases this
  refine q _ _ (hk hid s₁.heap) [s₁.heap.objs.size + 1, s₁.heap.objs.size] (EnumSt (hk hid s₁.heap) (s₁.heap.objs.size + 1) s₁.heap.objs.size l vs k xs) (k₁.trans kp) (fun a o e => ⟨hk_not e, kp.get (hk_sub e)⟩) ?_
    (feed_enum hm.hd (Nat.succ_ne_self _)) ?_
  · intro b hb
    have hz : ∀ b, s₁.heap.get? b = none → hk hid s₁.heap b = none := fun b e' => by
      unfold hk; split
      · rfl
      · exact e'
    rcases List.mem_cons.mp hb with rfl | hb
    · exact ⟨hnew _ (Heap.get?_none_of_le (Nat.le_succ _)), hz _ (Heap.get?_none_of_le (Nat.le_succ _))⟩
    · rw [List.mem_singleton.mp hb]
      exact ⟨hnew _ (get_size _), hz _ (get_size _)⟩
  · exact ⟨fun a o _ e => kp.get (hk_sub e), hl, hv, 0, .none, rfl, Nat.zero_le _, hit, he⟩
theorem fold_plain {e : Expr} (h : ∀ es k p, e ≠ .Set es k p) (env : Env) (x : Value) : foldedSetIterable e env x = pure x := by
  cases e <;> first | rfl | exact absurd rfl (h _ _ _)
theorem src_of_list (H : SndE prog w B n R) (hm : Rm A n) (h : EOk B env σ hid s) {e : Expr} {tu : Bool} {ds : List PyData}
    (x : srcD R env.scope.names σ e = some (tu, ds)) : PSrc prog w A hid s (eval e env) tu ds ∧ ∀ x, foldedSetIterable e env x = pure x := by
  unfold srcD at x
  simp only [Option.bind_eq_some_iff] at x
  obtain ⟨d, e1, xs, e2, e3⟩ := x
  cases e3
  obtain rfl := vLst_eq e2
  exact ⟨src_list hm.hd h.hids (H.ev hm h e1), fold_plain (H.notSet e1) env⟩
theorem src_step (H : SndE prog w B n R) (hm : Rm A n) (h : EOk B env σ hid s) {e : Expr} {tu : Bool} {ds : List PyData} (x : srcS R env.scope.names σ e = some (tu, ds)) :
    PSrc prog w A hid s (eval e env) tu ds ∧ ∀ x, foldedSetIterable e env x = pure x := by
  unfold srcS at x
  split at x
  · rename_i q hq
    split at x
    · rename_i hg
      have hg := Bool.and_eq_true_iff.mp hg
      simp only [Option.map_eq_some_iff, Option.bind_eq_some_iff] at x
      obtain ⟨items, ⟨ds', e1, e2⟩, e3⟩ := x
      cases e3
      obtain ⟨p, r, rfl⟩ := vNCall_eq hq
      exact ⟨src_range H hm h (kindOf_glob hg.1) hg.2 e1 e2, fun _ => rfl⟩
    · split at x
      · rename_i _ hg
        have hg := Bool.and_eq_true_iff.mp hg
        unfold srcEnum at x
        split at x
        · rename_i e1 ha
          simp only [Option.bind_eq_some_iff] at x
          obtain ⟨d, e1, xs, e2, e3⟩ := x
          obtain rfl := vLst_eq e2
          split at e3
          · cases e3
            obtain ⟨p, r, rfl⟩ := vNCall_eq hq
            rw [ha]
            exact ⟨src_enum H hm h (kindOf_glob hg.1) hg.2 e1, fun _ => rfl⟩
          · cases e3
        · cases x
      · exact src_of_list H hm h x
  · exact src_of_list H hm h x
/-- what is read is read still where other objects are hidden -/
theorem rd_hide {s s' : Shared} {hid hid' : List Addr} (k : Kp s s') (hn : ∀ a ∈ hid', a ∈ hid ∨ s.heap.get? a = none) {d : PyData} {v : Value} (r : Rd (hk hid s.heap) d v) : Rd (hk hid' s'.heap) d v :=
  Rd.mono (fun a o _ e => hk_of (fun m => by
    rcases hn a m with q | q
    · exact hk_not e q
    · have x := hk_sub e; rw [q] at x; cases x) (k.get (hk_sub e))) d v r
theorem look_cons {x y : Str} {d e : PyData} {r : Sig} (h : List.lookup y ((x, d) :: r) = some e) : (y = x ∧ d = e) ∨ (y ≠ x ∧ r.lookup y = some e) := by
  rw [List.lookup_cons] at h
  split at h
  · rename_i hb; cases h; exact .inl ⟨eq_of_beq hb, rfl⟩
  · rename_i hb; exact .inr ⟨ne_of_beq_false hb, h⟩
theorem look_none {x y : Str} {d : PyData} {r : Sig} (h : List.lookup y ((x, d) :: r) = none) : y ≠ x ∧ r.lookup y = none := by
  rw [List.lookup_cons] at h
  split at h
  · cases h
  · rename_i hb; exact ⟨ne_of_beq_false hb, h⟩
/-- a target is bound in a block -/
theorem assign_t {tgt : Expr} {d : PyData} {b : Sig} {K : KM} {v : Value} {m : Str → Option Value} (hh : A.handled = none) (hk : env.scope.kind = .function) (e : bindT env.scope.names tgt d = some b)
    (hK : ∀ a o, K a = some o → s.heap.get? a = some o) (r : Rd K d v) (hn : s.heap.Ns env.locals m) {Q : Unit → Shared → Prop} {E : Value → Shared → Prop}
    (q : ∀ s' m', Fw [env.locals] s s' → s'.heap.Ns env.locals m' → (∀ x d', b.lookup x = some d' → env.kindOf x = some .local ∧ ∃ u, m' x = some u ∧ Rd K d' u) → (∀ y, b.lookup y = none → m' y = m y) → Q () s') :
    wpAny (model prog w) A (assign tgt env v) Q E s := by
  have hp : (env.scope.kind == .class || (env.scope.kind == .module && env.locals != env.globals)) = false := by rw [hk]; rfl
  rcases bindT_cases e with ⟨x, p, rfl, hx', rfl⟩ | ⟨x, px, y, py, c, p, d, f, rfl, rfl, hx, hy, hxy, rfl⟩
  · replace hx' : env.kindOf x = some .local := hx'
    refine wpAny_assign_Name (wpAny_storeName_local hx' hn (fun h' hn' hs' => ?_) hp)
    refine q _ _ (sameBut_fw hs') hn' (fun y d' hy => ?_) fun y hy => ?_
    · rcases look_cons hy with ⟨rfl, rfl⟩ | ⟨_, hy⟩
      · exact ⟨hx', v, if_pos rfl, r⟩
      · cases hy
    · exact if_neg (look_none hy).1
  · replace hx : env.kindOf x = some .local := hx
    replace hy : env.kindOf y = some .local := hy
    obtain ⟨a, vs, k, rfl, ha, hv⟩ := rd_tuple r
    simp only [RdL] at hv
    obtain ⟨v1, r1, rfl, h1, v2, r2, rfl, h2, rfl⟩ := hv
    refine wpAny_assign_Tuple hh (items := #[v1, v2]) ⟨_, hK _ _ ha, rfl, _, rfl⟩ rfl rfl fun h₃ hx₃ => ?_
    have k3 : Kp s { s with heap := h₃, toks := s.toks } := Kp.mk' fun b o e => hx₃ b o (Nat.ne_of_lt (Heap.lt_size e)) e
    have hn₃ : h₃.Ns env.locals m := hn.keeps fun b o e => hx₃ b o (Nat.ne_of_lt (Heap.lt_size e)) e
    show wpAny _ A (do holding [v2] (assign (.Name x px) env v1); do holding [] (assign (.Name y py) env v2); pure ()) _ _ _
    refine wpAny_bind (wpAny_holding (wpAny_assign_Name (wpAny_storeName_local hx hn₃ (fun h₄ hn₄ hs₄ => ?_) hp)))
    refine wpAny_bind (wpAny_holding (wpAny_assign_Name (wpAny_storeName_local hy hn₄ (fun h₅ hn₅ hs₅ => wpAny_pure ?_) hp)))
    refine q _ _ ((k3.fw _).trans ((sameBut_fw (tk := s.toks + 1) hs₄).trans (sameBut_fw (s := { s with heap := h₄, toks := s.toks + 1 }) hs₅))) hn₅ (fun z d' hz => ?_) fun z hz => ?_
    · rcases look_cons hz with ⟨rfl, rfl⟩ | ⟨hzy, hz⟩
      · exact ⟨hy, v2, if_pos rfl, h2⟩
      · rcases look_cons hz with ⟨rfl, rfl⟩ | ⟨_, hz⟩
        · exact ⟨hx, v1, (if_neg hzy).trans (if_pos rfl), h1⟩
        · cases hz
    · obtain ⟨hzy, hz⟩ := look_none hz
      exact (if_neg hzy).trans (if_neg (look_none hz).1)
theorem tests_ok (H : SndE prog w B n R) (hm : Rm A n) : ∀ {ifs : List Expr} {ok : Bool} {s : Shared}, EOk B env σ hid s → tests R env.scope.names σ ifs = some ok →
    PBd prog w A s (forIn ifs true fun c r => if r = true then do let ok ← isTrue c env (eval c env); pure (ForInStep.yield ok) else pure (ForInStep.yield r)) ok
  | [], ok, s, h, e => fun Q E q => by
    simp [tests] at e; subst e
    rw [List.forIn_nil]
    exact wpAny_pure (q s (Kp.refl s))
  | c :: r, ok, s, h, e => fun Q E q => by
    simp only [tests, Option.bind_eq_some_iff] at e
    obtain ⟨b, e1, e2⟩ := e
    rw [List.forIn_cons, if_pos rfl]
    refine wpAny_bind (wpAny_bind (H.tst hm h e1 _ _ fun s₁ k₁ => wpAny_pure ?_))
    cases b with
    | true => exact tests_ok H hm (h.kp k₁) e2 _ _ fun s₂ k₂ => q s₂ (k₁.trans k₂)
    | false =>
      simp at e2; subst e2
      show wpAny _ _ (forIn r false _) _ _ _
      have : ∀ r : List Expr, (forIn r false fun c r => if r = true then do let ok ← isTrue c env (eval c env); pure (ForInStep.yield ok) else pure (ForInStep.yield r)) = (pure false : Sem Bool) := fun r => by
        induction r with
        | nil => rfl
        | cons x r ih => rw [List.forIn_cons, if_neg Bool.false_ne_true, pure_bind]; exact ih
      rw [this]
      exact wpAny_pure (q s₁ k₁)
end
end Mine
/-! part 8 -/
set_option maxRecDepth 100000
namespace Mine
open PySem PySem.Calls PyProof.Rows PySem.W
section
variable {prog : Program} {w : World} {A : Around} {R : Result → Shared → Prop} {s : Shared}
theorem compLoop_go {elt target iter : Expr} {ifs : List Expr} {scope : Scope} {pos : Pos} {it acc : Value} {env : Env} (I : Nat → Shared → Prop)
    (turn : ∀ n s, I n s → wpAny (model prog w) A (pyNext it) (fun r s₁ => match r with
      | none => R (.ok .next) s₁
      | some v => wpAny (model prog w) A (letOwnedTupleGo target it v) (fun _ s₁' => wpAny (model prog w) A (assign target env v) (fun _ s₂ =>
          wpAny (model prog w) A (forIn ifs true fun c r => if r = true then do let ok ← isTrue c env (eval c env); pure (ForInStep.yield ok) else pure (ForInStep.yield r)) (fun ok s₃ =>
            if ok = true then wpAny (model prog w) A (eval elt env) (fun x s₄ =>
              wpAny (model prog w) A (call (.builtin "list.append") [acc, x]) (fun _ s₅ => ∃ m, m < n ∧ I m s₅) (notedBy (model prog w) A env fun e s' => R (.error e) s') s₄) (notedBy (model prog w) A env fun e s' => R (.error e) s') s₃
            else ∃ m, m < n ∧ I m s₃) (notedBy (model prog w) A env fun e s' => R (.error e) s') s₂) (notedBy (model prog w) A env fun e s' => R (.error e) s') s₁') (notedBy (model prog w) A env fun e s' => R (.error e) s') s₁)
      (notedBy (model prog w) A env fun e s' => R (.error e) s') s)
    (n : Nat) (h : I n s) :
    codeAny (model prog w) A (.compLoop (.ListComp elt [⟨target, iter, ifs, 0⟩] scope pos) 0 it acc env) R s := by
  refine codeAny_loop rfl I (fun n s hI => ?_) n h
  show wpAny _ A ((compTurn (.ListComp elt [⟨target, iter, ifs, 0⟩] scope pos) 0 it acc env).onRaise (fun x => do noteFrame x env; theTreesLotGoes x)) _ _ s
  refine wpAny_noted ?_
  rw [compTurn_list]
  refine wpAny_bind (wpAny_standAt (wpAny_bind (wpAny_mono (turn n s hI) (fun r s₁ h₁ => ?_) fun _ _ h' => h')))
  cases r with
  | none => exact wpAny_pure h₁
  | some v =>
    refine wpAny_bind (wpAny_mono h₁ (fun _ s₁' h₁' => ?_) fun _ _ h' => h')
    refine wpAny_bind (wpAny_mono h₁' (fun _ s₂ h₂ => wpAny_bind (wpAny_mono h₂ (fun ok s₃ h₃ => ?_) fun _ _ h' => h')) fun _ _ h' => h')
    cases ok with
    | false => exact wpAny_pure ⟨rfl, h₃⟩
    | true =>
      exact wpAny_bind (wpAny_bind (wpAny_mono h₃ (fun x s₄ h₄ => wpAny_bind (wpAny_mono h₄ (fun _ s₅ h₅ => wpAny_pure (wpAny_pure ⟨rfl, h₅⟩)) fun _ _ h' => h')) fun _ _ h' => h'))
end
noncomputable def clGo (cells : List (Str × Addr)) : List (Str × NameKind) → List (Str × Addr) → List (Str × Addr)
  | [], acc => acc
  | (n, k) :: r, acc => clGo cells r (if k == .free then (n, (cells.lookup n).getD 0) :: acc else acc)
theorem clGo_for {env : Env} : ∀ (names : List (Str × NameKind)) (acc : List (Str × Addr)), (∀ y ∈ names, y.2 = .free → ∃ c, env.cells.lookup y.1 = some c) →
    (forIn names acc fun (x : Str × NameKind) (cs : List (Str × Addr)) => (if x.2 == NameKind.free then do let a ← cellOf env x.1; pure (ForInStep.yield ((x.1, a) :: cs)) else pure (ForInStep.yield cs) : Sem (ForInStep (List (Str × Addr))))) = pure (clGo env.cells names acc)
  | [], acc, h => by rw [List.forIn_nil]; rfl
  | (n, k) :: r, acc, h => by
    rw [List.forIn_cons]
    cases hk : k == NameKind.free with
    | false =>
      simp only [hk, Bool.false_eq_true, if_false, pure_bind, clGo]
      exact clGo_for r acc fun y hy => h y (List.mem_cons_of_mem _ hy)
    | true =>
      obtain ⟨c, hc⟩ := h (n, k) (by simp) (eq_of_beq hk)
      simp only at hc
      simp only [hk, if_true, cellOf, hc, pure_bind, clGo, Option.getD_some]
      exact clGo_for r _ fun y hy => h y (List.mem_cons_of_mem _ hy)
theorem clGo_lookup {cells : List (Str × Addr)} {x : Str} {c : Addr} (hc : cells.lookup x = some c) : ∀ (names : List (Str × NameKind)) (acc : List (Str × Addr)), ((x, NameKind.free) ∈ names ∨ acc.lookup x = some c) → (clGo cells names acc).lookup x = some c
  | [], acc, h => by rcases h with h | h; cases h; exact h
  | (n, k) :: r, acc, h => by
    unfold clGo
    refine clGo_lookup hc r _ ?_
    rcases h with h | h
    · rcases List.mem_cons.mp h with h | h
      · cases h
        right
        simp [hc]
      · exact .inl h
    · right
      split
      · rw [List.lookup_cons]
        split
        · rename_i hx
          rw [← eq_of_beq hx, hc]; rfl
        · exact h
      · exact h
theorem mem_of_lookup' {x : Str} {k : NameKind} : ∀ {names : List (Str × NameKind)}, names.lookup x = some k → (x, k) ∈ names
  | [], h => by cases h
  | (n, j) :: r, h => by
    rw [List.lookup_cons] at h
    split at h
    · rename_i hx; cases h; rw [eq_of_beq hx]; exact List.mem_cons_self ..
    · exact List.mem_cons_of_mem _ (mem_of_lookup' h)
theorem relabel_names {s : Scope} {env : Env} (hk : env.scope.kind = .function) : (relabel s env).names = relabelN s.names env.scope.names := by
  unfold relabel relabelN
  simp only
  refine List.map_congr_left fun y _ => ?_
  obtain ⟨n, k⟩ := y
  simp only [hk]
  have : (ScopeKind.function == ScopeKind.function) = true := rfl
  rw [this, Bool.and_true]
  rfl
theorem lookup_relabelN {names sc : Sc} {x : Str} : (relabelN names sc).lookup x = (names.lookup x).map fun k => if k == .free && sc.lookup x == some .cell then .cell else k := by
  unfold relabelN
  induction names with
  | nil => rfl
  | cons y r ih =>
    obtain ⟨n, k⟩ := y
    simp only [List.map_cons]
    by_cases hx : x = n
    · subst hx
      by_cases hc : (k == NameKind.free && sc.lookup x == some NameKind.cell) = true
      · rw [if_pos hc]; simp only [List.lookup_cons, beq_self_eq_true, Option.map_some]; rw [if_pos hc]
      · rw [if_neg hc]; simp only [List.lookup_cons, beq_self_eq_true, Option.map_some]; rw [if_neg hc]
    · have hb : (x == n) = false := beq_eq_false_iff_ne.mpr hx
      by_cases hc : (k == NameKind.free && sc.lookup n == some NameKind.cell) = true
      · rw [if_pos hc]; simp only [List.lookup_cons, hb]; exact ih
      · rw [if_neg hc]; simp only [List.lookup_cons, hb]; exact ih
theorem frees_lookup {s : Scope} {x : Str} {d : PyData} : ∀ {σ : Sig}, (frees s σ).lookup x = some d → σ.lookup x = some d ∧ s.names.lookup x = some .free
  | [], h => by cases h
  | (y, e) :: r, h => by
    unfold frees at h
    rw [List.filter_cons] at h
    split at h
    · rename_i hf
      rw [List.lookup_cons] at h ⊢
      split at h
      · rename_i hx
        cases h
        have hxy := eq_of_beq hx
        subst hxy
        refine ⟨by simp, eq_of_beq hf⟩
      · exact frees_lookup (s := s) h
    · rename_i hf
      obtain ⟨a, b⟩ := frees_lookup (s := s) (σ := r) h
      refine ⟨?_, b⟩
      rw [List.lookup_cons]
      split
      · rename_i hx
        rw [eq_of_beq hx] at b
        exact absurd (by simpa using b) hf
      · exact a
theorem lookup_append' {x : Str} {b σ : Sig} : (b ++ σ).lookup x = match b.lookup x with | some d => some d | none => σ.lookup x := by
  induction b with
  | nil => rfl
  | cons y r ih =>
    obtain ⟨n, d⟩ := y
    rw [List.cons_append, List.lookup_cons, List.lookup_cons]
    split
    · rfl
    · exact ih
section
variable {prog : Program} {w : World} {B : Bt} {A : Around} {hid : List Addr} {s : Shared} {env : Env} {σ : Sig} {n : Nat} {R : Ip}
theorem okScope_parts {sc : Scope} (h : okScope sc = true) : sc.kind = .function ∧ (∀ y ∈ sc.names, y.2 ≠ .cell) ∧ (∀ y ∈ sc.names, y.2 = .local → sc.names.lookup y.1 = some .local) ∧
    (∀ y ∈ sc.names, y.1 ≠ nm "__debug__" ∧ y.1 ≠ nm "__classdict__") := by
  unfold okScope at h
  simp only [Bool.and_eq_true, beq_iff_eq, List.all_eq_true, Bool.or_eq_true, bne_iff_ne] at h
  refine ⟨h.1, fun y hy => (h.2 y hy).1.1.1, fun y hy hl => ?_, fun y hy => ⟨(h.2 y hy).1.1.2, (h.2 y hy).1.2⟩⟩
  rcases (h.2 y hy).2 with q | q
  · exact absurd hl q
  · exact q
theorem frees_parts {sc : Scope} (h : freesIn env.scope.names sc = true) : ∀ y ∈ sc.names, y.2 = .free → env.kindOf y.1 = some .cell ∨ env.kindOf y.1 = some .free := fun y hy hf => by
  unfold freesIn at h
  simp only [List.all_eq_true, Bool.or_eq_true, beq_iff_eq, bne_iff_ne] at h
  rcases h y hy with (q | q) | q
  · exact absurd hf q
  · exact .inl q
  · exact .inr q
theorem closure_ok {sc : Scope} (h : EOk B env σ hid s) (hf : freesIn env.scope.names sc = true) : closureFor sc env = pure (clGo env.cells sc.names []) := by
  unfold closureFor
  have := clGo_for (env := env) sc.names [] fun y hy e => h.cells _ (frees_parts hf y hy e)
  refine (bind_pure _).trans (Eq.trans ?_ this)
  congr 1
theorem nodbg_relabel {sc : Scope} (hs : okScope sc = true) (x : Str) (hx : x = nm "__debug__" ∨ x = nm "__classdict__") (sc' : Sc) : (relabelN sc.names sc').lookup x = none := by
  rw [lookup_relabelN]
  cases e : sc.names.lookup x with
  | none => rfl
  | some k =>
    exfalso
    have := (okScope_parts hs).2.2.2 _ (mem_of_lookup' e)
    rcases hx with q | q
    · exact this.1 q
    · exact this.2 q
/-- the block of a comprehension: the names that it captures, and those that it binds -/
theorem comp_env {sc : Scope} {C : Addr} {hid' : List Addr} {s' : Shared} {b : Sig} {m : Str → Option Value} (h : EOk B env σ hid s) (hs : okScope sc = true) (hf : freesIn env.scope.names sc = true) (k : Kp s s')
    (hh : HidOk hid' s') (hn : ∀ a ∈ hid', a ∈ hid ∨ s.heap.get? a = none) (hm : s'.heap.Ns C m)
    (hb : ∀ x d, b.lookup x = some d → (relabelN sc.names env.scope.names).lookup x = some .local ∧ ∃ u, m x = some u ∧ Rd (hk hid' s'.heap) d u) :
    EOk B (compEnvC sc (clGo env.cells sc.names []) C env) (b ++ frees sc σ) hid' s' where
  base := h.base.kp k
  hids := hh
  kind := (okScope_parts hs).1
  gl := h.gl
  bl := h.bl
  nodbg := by
    have e : ∀ x, Env.kindOf (compEnvC sc (clGo env.cells sc.names []) C env) x = (relabelN sc.names env.scope.names).lookup x := fun x => by
      show (relabel sc env).names.lookup x = _
      rw [relabel_names h.kind]
    rw [e, e]
    exact ⟨nodbg_relabel hs _ (.inl rfl) _, nodbg_relabel hs _ (.inr rfl) _⟩
  cells := fun x hx => by
    have e : Env.kindOf (compEnvC sc (clGo env.cells sc.names []) C env) x = (relabelN sc.names env.scope.names).lookup x := by
      show (relabel sc env).names.lookup x = _
      rw [relabel_names h.kind]
    rw [e, lookup_relabelN] at hx
    cases e' : sc.names.lookup x with
    | none => rw [e'] at hx; simp at hx
    | some kd =>
      have hmem := mem_of_lookup' e'
      have hfree : kd = .free := by
        rw [e'] at hx
        simp only [Option.map_some, Option.some.injEq] at hx
        by_cases q : kd = .free
        · exact q
        · have : (kd == NameKind.free) = false := beq_eq_false_iff_ne.mpr q
          rw [this, Bool.false_and, if_neg Bool.false_ne_true] at hx
          rcases hx with r | r
          · exact absurd r ((okScope_parts hs).2.1 _ hmem)
          · exact r
      subst hfree
      obtain ⟨c, hc⟩ := h.cells x (frees_parts hf _ hmem rfl)
      exact ⟨c, clGo_lookup hc _ _ (.inl hmem)⟩
  names := fun x d hx => by
    have e : Env.kindOf (compEnvC sc (clGo env.cells sc.names []) C env) x = (relabelN sc.names env.scope.names).lookup x := by
      show (relabel sc env).names.lookup x = _
      rw [relabel_names h.kind]
    rw [lookup_append'] at hx
    cases hbx : b.lookup x with
    | some d' =>
      rw [hbx] at hx
      cases hx
      obtain ⟨h1, u, h2, h3⟩ := hb x d hbx
      exact ⟨u, h3, .inl ⟨e.trans h1, m, hm, h2⟩⟩
    | none =>
      rw [hbx] at hx
      obtain ⟨h1, h2⟩ := frees_lookup hx
      obtain ⟨v, r, nm⟩ := h.names x d h1
      have hmem := mem_of_lookup' h2
      have hkf := frees_parts hf _ hmem rfl
      refine ⟨v, rd_hide k hn r, .inr ⟨?_, ?_⟩⟩
      · rw [e, lookup_relabelN, h2]
        simp only [Option.map_some, Option.some.injEq]
        split
        · exact .inl rfl
        · exact .inr rfl
      · rcases nm with ⟨hl, _⟩ | ⟨_, c, hc, hv⟩
        · rcases hkf with q | q <;> rw [q] at hl <;> cases hl
        · exact ⟨c, clGo_lookup hc _ _ (.inl hmem), hv.keeps fun _ _ e => k.get e⟩
end
end Mine
/-! part 9 -/
set_option maxRecDepth 100000
namespace Mine
open PySem PySem.Calls PyProof.Rows PySem.W
section
variable {prog : Program} {w : World} {B : Bt} {A : Around} {hid : List Addr} {s : Shared} {env : Env} {σ : Sig} {n : Nat} {R : Ip}
theorem mapSeq_push (ys : List Value) (c : Nat) (x : Value) : Obj.mapSeq (fun xs => xs.push x) (lObj ys c) = lObj (ys ++ [x]) (c + 1) := by
  unfold Obj.mapSeq
  simp
theorem append_call {D : Addr} {ys : List Value} {c : Nat} {x : Value} {Q E : Value → Shared → Prop} (hl : s.heap.get? D = some (lObj ys c)) (hf : ys.length ≤ 100000)
    (q : ∀ s', Fw [D] s s' → s'.heap.get? D = some (lObj (ys ++ [x]) (c + 1)) → Q .none s') : wpAny (model prog w) A (call (.builtin "list.append") [.ref D, x]) Q E s := by
  have hz : ys.toArray.size ≤ sizeLine := by rw [List.size_toArray, sizeLine_big]; omega
  refine call_meets F.slot_list_append ⟨_, hl, rfl⟩ F.entry_list_append (F.args_list_append_2 _ _) (PySem.list_append D ys.toArray c x hz) ⟨hl, ?_⟩
  have e : (s.heap.update D (Obj.mapSeq fun xs => xs.push x)).get? D = some (lObj (ys ++ [x]) (c + 1)) := by
    rw [Heap.get?_update_self _ hl (by rw [mapSeq_push]; rfl), mapSeq_push]
  exact q _ (sameBut_fw (Heap.SameBut.update ..)) e
theorem rd_fw {W : List Addr} {s s' : Shared} {hid : List Addr} (k : Fw W s s') (hw : ∀ a ∈ W, a ∈ hid) {d : PyData} {v : Value} (r : Rd (hk hid s.heap) d v) : Rd (hk hid s'.heap) d v :=
  Rd.mono (fun a o _ e => hk_of (hk_not e) (k.get (fun m => hk_not e (hw a m)) (hk_sub e))) d v r
theorem rdL_fw {W : List Addr} {s s' : Shared} {hid : List Addr} (k : Fw W s s') (hw : ∀ a ∈ W, a ∈ hid) {d : List PyData} {v : List Value} (r : RdL (hk hid s.heap) d v) : RdL (hk hid s'.heap) d v :=
  RdL.mono (fun a o _ e => hk_of (hk_not e) (k.get (fun m => hk_not e (hw a m)) (hk_sub e))) d v r
theorem rd_less {h : Heap} {hid hid' : List Addr} (hn : ∀ a ∈ hid', a ∈ hid) {d : PyData} {v : Value} (r : Rd (hk hid h) d v) : Rd (hk hid' h) d v :=
  Rd.mono (fun a o _ e => hk_of (fun m => hk_not e (hn a m)) (hk_sub e)) d v r
theorem rdL_less {h : Heap} {hid hid' : List Addr} (hn : ∀ a ∈ hid', a ∈ hid) {d : List PyData} {v : List Value} (r : RdL (hk hid h) d v) : RdL (hk hid' h) d v :=
  RdL.mono (fun a o _ e => hk_of (fun m => hk_not e (hn a m)) (hk_sub e)) d v r
theorem none_kp {s s' : Shared} (k : Kp s s') {a : Addr} (e : s'.heap.get? a = none) : s.heap.get? a = none := by
  cases e' : s.heap.get? a with
  | none => rfl
  | some o => rw [k.get e'] at e; cases e
theorem Feed.next {K₀ : KM} {tu : Bool} {I : Addr} {wr : List Addr} {St : List PyData → Heap → Prop} (F : Feed prog w A K₀ tu I wr St) {d : PyData} {ds : List PyData} {tgt : Expr} {E : Value → Shared → Prop} (ht : fitT tu tgt = true) (st : St (d :: ds) s.heap)
    {X : Option Value → Shared → Prop} (Q : Value → Shared → Prop)
    (x : ∀ v s₁, wpAny (model prog w) A (letOwnedTupleGo tgt (.ref I) v) (fun _ s₂ => Q v s₂) E s₁ → X (some v) s₁)
    (q : ∀ v s', Fw wr s s' → St ds s'.heap → (∀ hid, (∀ a ∈ hid, K₀ a = none ∧ ∃ o, s.heap.get? a = some o) → Rd (hk hid s'.heap) d v) → Q v s') :
    wpAny (model prog w) A (pyNext (.ref I)) X E s := by
  refine wpAny_mono (F.item d ds s tgt Q E ht st q) (fun r s₁ h₁ => ?_) fun _ _ e => e
  cases r with
  | none => exact h₁.elim
  | some v => exact x v s₁ h₁
/-- what stands while a loop of a comprehension runs: its block C, its list D, its source's iterators wr, the outer loops' iterators ex -/
structure CompAt (s s₀ : Shared) (hid ex : List Addr) (C D : Addr) (wr : List Addr) (K₀ : KM) (s' : Shared) : Prop where
  k0 : Kp s s₀
  fw : Fw (C :: D :: wr) s₀ s'
  live : ∀ b ∈ wr, ∃ o, s'.heap.get? b = some o
  exl : ∀ b ∈ ex, ∃ o, s'.heap.get? b = some o
  hids : HidOk hid s'
  C0 : s.heap.get? C = none ∧ C ≠ D ∧ C ∉ wr ∧ K₀ C = none
  D0 : s.heap.get? D = none ∧ D ∉ wr ∧ K₀ D = none
  wr0 : ∀ b ∈ wr, s.heap.get? b = none ∧ K₀ b = none
  ex0 : ∀ b ∈ ex, s.heap.get? b = none ∧ K₀ b = none ∧ b ≠ C ∧ b ≠ D ∧ b ∉ wr
  K0 : ∀ a, K₀ a ≠ none → a ∉ hid
noncomputable def hidC (hid ex : List Addr) (C D : Addr) (wr : List Addr) : List Addr := D :: C :: (wr ++ (ex ++ hid))
theorem CompAt.kp {s₀ : Shared} {ex : List Addr} {C D : Addr} {wr : List Addr} {K₀ : KM} {s' : Shared} (c : CompAt s s₀ hid ex C D wr K₀ s') : Kp s s' :=
  (((c.k0.fw _).trans c.fw).drop fun a ha => by
    rcases List.mem_cons.mp ha with rfl | ha
    · exact .inr c.C0.1
    · rcases List.mem_cons.mp ha with rfl | ha
      · exact .inr c.D0.1
      · exact .inr (c.wr0 a ha).1).kp
theorem CompAt.hid0 {s₀ : Shared} {ex : List Addr} {C D : Addr} {wr : List Addr} {K₀ : KM} {s' : Shared} (c : CompAt s s₀ hid ex C D wr K₀ s') : ∀ a ∈ hidC hid ex C D wr, a ∈ hid ∨ s.heap.get? a = none := fun a ha => by
  rcases List.mem_cons.mp ha with rfl | ha
  · exact .inr c.D0.1
  · rcases List.mem_cons.mp ha with rfl | ha
    · exact .inr c.C0.1
    · rcases List.mem_append.mp ha with ha | ha
      · exact .inr (c.wr0 a ha).1
      · rcases List.mem_append.mp ha with ha | ha
        · exact .inr (c.ex0 a ha).1
        · exact .inl ha
theorem CompAt.K0n {s₀ : Shared} {ex : List Addr} {C D : Addr} {wr : List Addr} {K₀ : KM} {s' : Shared} (c : CompAt s s₀ hid ex C D wr K₀ s') : ∀ a ∈ hidC hid ex C D wr, K₀ a = none := fun a ha => by
  rcases List.mem_cons.mp ha with rfl | ha
  · exact c.D0.2.2
  · rcases List.mem_cons.mp ha with rfl | ha
    · exact c.C0.2.2.2
    · rcases List.mem_append.mp ha with ha | ha
      · exact (c.wr0 a ha).2
      · rcases List.mem_append.mp ha with ha | ha
        · exact (c.ex0 a ha).2.1
        · cases e : K₀ a with
          | none => rfl
          | some o => exact absurd ha (c.K0 a (by rw [e]; simp))
theorem CompAt.hidOk {s₀ : Shared} {ex : List Addr} {C D : Addr} {wr : List Addr} {K₀ : KM} {s' : Shared} (c : CompAt s s₀ hid ex C D wr K₀ s') {o : Obj} (hD : s'.heap.get? D = some o) {m : Str → Option Value} (hn : s'.heap.Ns C m) : HidOk (hidC hid ex C D wr) s' := fun a ha => by
  rcases List.mem_cons.mp ha with rfl | ha
  · exact ⟨_, hD⟩
  · rcases List.mem_cons.mp ha with rfl | ha
    · obtain ⟨oC, es, ep, h, _⟩ := hn; exact ⟨_, h⟩
    · rcases List.mem_append.mp ha with ha | ha
      · exact c.live a ha
      · rcases List.mem_append.mp ha with ha | ha
        · exact c.exl a ha
        · exact c.hids a ha
/-- names of the block that stand for data -/
noncomputable def BindOk (sc : Sc) (b : Sig) (K : KM) (m : Str → Option Value) : Prop := ∀ x d, b.lookup x = some d → sc.lookup x = some .local ∧ ∃ u, m x = some u ∧ Rd K d u
noncomputable def compI (s s₀ : Shared) (hid ex : List Addr) (C D : Addr) (wr : List Addr) (K₀ : KM) (St : List PyData → Heap → Prop) (sc : Sc) (b₀ : Sig) (go : List PyData → Option (List PyData)) (pre ds : List PyData) (bound : Nat)
    (k : Nat) (s' : Shared) : Prop :=
  ∃ rest out ys c rs m, k = rest.length ∧ CompAt s s₀ hid ex C D wr K₀ s' ∧ St rest s'.heap ∧ s'.heap.Ns C m ∧ BindOk sc b₀ (hk (hidC hid ex C D wr) s'.heap) m ∧
    s'.heap.get? D = some (lObj ys c) ∧ RdL (hk (hidC hid ex C D wr) s'.heap) (pre ++ out) ys ∧ go rest = some rs ∧ out ++ rs = ds ∧ pre.length + out.length + rest.length ≤ bound
theorem BindOk.fw {W : List Addr} {s s' : Shared} {sc : Sc} {b : Sig} {hid : List Addr} {m : Str → Option Value} (h : BindOk sc b (hk hid s.heap) m) (k : Fw W s s') (hw : ∀ a ∈ W, a ∈ hid) : BindOk sc b (hk hid s'.heap) m := fun x d e => by
  obtain ⟨a, u, b, c⟩ := h x d e; exact ⟨a, u, b, rd_fw k hw c⟩
theorem comp_turn {tgt elt : Expr} {ifs : List Expr} {sc : Scope} {I C D : Addr} {wr ex : List Addr} {K₀ : KM} {tu : Bool} {St : List PyData → Heap → Prop} {pre ds : List PyData} {b₀ : Sig} {Rr : Result → Shared → Prop} {bound : Nat} {s₀ : Shared}
    (H : SndE prog w B n R) (hm : Rm A n) (h : EOk B env σ hid s) (hs : okScope sc = true) (hf : freesIn env.scope.names sc = true) (F : Feed prog w A K₀ tu I wr St) (ht : fitT tu tgt = true) (hb : bound ≤ 100000)
    (hdis : ∀ d b, bindT (relabelN sc.names env.scope.names) tgt d = some b → ∀ x d', b₀.lookup x = some d' → b.lookup x = none)
    (hR : ∀ s' ys c m, Kp s s' → Fw (C :: D :: wr) s₀ s' → s'.heap.Ns C m → s'.heap.get? D = some (lObj ys c) → RdL (hk (hidC hid ex C D wr) s'.heap) (pre ++ ds) ys → Rr (.ok .next) s')
    (k : Nat) (s' : Shared) (h0 : compI s s₀ hid ex C D wr K₀ St (relabelN sc.names env.scope.names) b₀ (compGo R (relabelN sc.names env.scope.names) (b₀ ++ frees sc σ) tgt ifs elt) pre ds bound k s') {E : Value → Shared → Prop} :
    wpAny (model prog w) A (pyNext (.ref I)) (fun r s₁ => match r with
      | none => Rr (.ok .next) s₁
      | some v => wpAny (model prog w) A (letOwnedTupleGo tgt (.ref I) v) (fun _ s₁' => wpAny (model prog w) A (assign tgt (compEnvC sc (clGo env.cells sc.names []) C env) v) (fun _ s₂ =>
          wpAny (model prog w) A (forIn ifs true fun c r => if r = true then do let ok ← isTrue c (compEnvC sc (clGo env.cells sc.names []) C env) (eval c (compEnvC sc (clGo env.cells sc.names []) C env)); pure (ForInStep.yield ok) else pure (ForInStep.yield r)) (fun ok s₃ =>
            if ok = true then wpAny (model prog w) A (eval elt (compEnvC sc (clGo env.cells sc.names []) C env)) (fun x s₄ =>
              wpAny (model prog w) A (call (.builtin "list.append") [.ref D, x]) (fun _ s₅ => ∃ m, m < k ∧ compI s s₀ hid ex C D wr K₀ St (relabelN sc.names env.scope.names) b₀ (compGo R (relabelN sc.names env.scope.names) (b₀ ++ frees sc σ) tgt ifs elt) pre ds bound m s₅) E s₄) E s₃
            else ∃ m, m < k ∧ compI s s₀ hid ex C D wr K₀ St (relabelN sc.names env.scope.names) b₀ (compGo R (relabelN sc.names env.scope.names) (b₀ ++ frees sc σ) tgt ifs elt) pre ds bound m s₃) E s₂) E s₁') E s₁) E s' := by
  obtain ⟨rest, out, ys, c, rs, m, rfl, ca, st, hns, hbo, hD, ro, go, rfl, hlen⟩ := h0
  have hkind : (compEnvC sc (clGo env.cells sc.names []) C env).scope.kind = .function := (okScope_parts hs).1
  have hnames : (compEnvC sc (clGo env.cells sc.names []) C env).scope.names = relabelN sc.names env.scope.names := by
    show (relabel sc env).names = _
    exact relabel_names h.kind
  have hwrC : ∀ a ∈ wr, a ∈ hidC hid ex C D wr := fun a ha => List.mem_cons_of_mem _ (List.mem_cons_of_mem _ (List.mem_append_left _ ha))
  cases rest with
  | nil =>
    simp only [compGo] at go; cases go
    refine F.done s' _ _ st fun s₁ fw₁ => ?_
    rw [List.append_nil] at hR
    have fw : Fw (C :: D :: wr) s₀ s₁ := ca.fw.trans (fw₁.mono fun a ha => List.mem_cons_of_mem _ (List.mem_cons_of_mem _ ha))
    have kp : Kp s s₁ := (((ca.k0.fw _).trans fw).drop fun a ha => by
      rcases List.mem_cons.mp ha with rfl | ha
      · exact .inr ca.C0.1
      · rcases List.mem_cons.mp ha with rfl | ha
        · exact .inr ca.D0.1
        · exact .inr (ca.wr0 a ha).1).kp
    exact hR s₁ ys c m kp fw (hns.at' fun o e => fw₁.get ca.C0.2.2.1 e) (fw₁.get ca.D0.2.1 hD) (rdL_fw fw₁ hwrC ro)
  | cons d rest =>
    simp only [compGo, Option.bind_eq_some_iff] at go
    obtain ⟨b, eb, ok, eo, go⟩ := go
    refine F.next ht st (fun v s₂ => wpAny (model prog w) A (assign tgt (compEnvC sc (clGo env.cells sc.names []) C env) v) _ _ s₂) (fun v s₁ h => h) fun v s₁ fw₁ st₁ rd₁ => ?_
    have rd := rd₁ _ fun a ha => ⟨ca.K0n a ha, ca.hidOk hD hns a ha⟩
    have hns₁ : s₁.heap.Ns C m := hns.at' fun o e => fw₁.get ca.C0.2.2.1 e
    refine assign_t (K := hk (hidC hid ex C D wr) s₁.heap) hm.hd hkind (by rw [hnames]; exact eb) (fun _ _ => hk_sub) rd hns₁ fun s₂ m' fw₂ hns₂ hb₂ hb₃ => ?_
    replace fw₂ : Fw [C] s₁ s₂ := fw₂
    replace hns₂ : s₂.heap.Ns C m' := hns₂
    have hC2 : ∀ a ∈ [C], a ∈ hidC hid ex C D wr := fun a ha => by rw [List.mem_singleton.mp ha]; exact List.mem_cons_of_mem _ (List.mem_cons_self ..)
    have hDC : D ≠ C := Ne.symm ca.C0.2.1
    have fw02 : Fw (C :: D :: wr) s₀ s₂ := (ca.fw.trans (fw₁.mono fun a ha => List.mem_cons_of_mem _ (List.mem_cons_of_mem _ ha))).trans (fw₂.mono fun a ha => by rw [List.mem_singleton.mp ha]; exact List.mem_cons_self ..)
    have hD2 : s₂.heap.get? D = some (lObj ys c) := fw₂.get (by simpa using hDC) (fw₁.get ca.D0.2.1 hD)
    have fr : ∀ {s₃ : Shared}, (∀ b o, b ∈ wr → s₁.heap.get? b = some o → s₃.heap.get? b = some o) → (∀ a o, K₀ a = some o → s₁.heap.get? a = some o → s₃.heap.get? a = some o) → St rest s₃.heap := fun h1 h2 => F.frame rest _ _ st₁ h1 fun a o _ e e' => h2 a o e e'
    have hCwr : ∀ b ∈ wr, b ∉ [C] := fun b hb q => ca.C0.2.2.1 (by rw [← List.mem_singleton.mp q]; exact hb)
    have st₂ : St rest s₂.heap := fr (fun b o hb e => fw₂.get (hCwr b hb) e) fun a o e e' => fw₂.get (fun q => by rw [List.mem_singleton.mp q, ca.C0.2.2.2] at e; cases e) e'
    have hidk : ∀ a ∈ hid, a ∉ wr ∧ a ≠ C ∧ a ≠ D := fun a ha => by
      obtain ⟨o, e⟩ := h.hids a ha
      refine ⟨fun q => ?_, fun q => ?_, fun q => ?_⟩
      · rw [(ca.wr0 a q).1] at e; cases e
      · rw [q, ca.C0.1] at e; cases e
      · rw [q, ca.D0.1] at e; cases e
    have ca₂ : CompAt s s₀ hid ex C D wr K₀ s₂ := ⟨ca.k0, fw02, F.live rest _ st₂, fun a ha => by
      obtain ⟨o, e⟩ := ca.exl a ha
      have := ca.ex0 a ha
      exact ⟨o, fw₂.get (by simpa using this.2.2.1) (fw₁.get this.2.2.2.2 e)⟩, fun a ha => by
      obtain ⟨o, e⟩ := ca.hids a ha
      exact ⟨o, fw₂.get (by simpa using (hidk a ha).2.1) (fw₁.get (hidk a ha).1 e)⟩, ca.C0, ca.D0, ca.wr0, ca.ex0, ca.K0⟩
    have ro₂ := rdL_fw fw₂ hC2 (rdL_fw fw₁ hwrC ro)
    have hbb : BindOk (relabelN sc.names env.scope.names) b (hk (hidC hid ex C D wr) s₂.heap) m' := fun x d' hx => by
      obtain ⟨h1, u, h2, h3⟩ := hb₂ x d' hx
      refine ⟨?_, u, h2, rd_fw fw₂ hC2 h3⟩
      rw [← hnames]; exact h1
    have hbo₁ := (hbo.fw fw₁ hwrC).fw fw₂ hC2
    have hbo₂ : BindOk (relabelN sc.names env.scope.names) (b ++ b₀) (hk (hidC hid ex C D wr) s₂.heap) m' := fun x d' hx => by
      rw [lookup_append'] at hx
      cases hbx : b.lookup x with
      | some d'' => rw [hbx] at hx; cases hx; exact hbb x d' hbx
      | none =>
        rw [hbx] at hx
        obtain ⟨a1, u, a2, a3⟩ := hbo₁ x d' hx
        exact ⟨a1, u, (hb₃ x hbx).trans a2, a3⟩
    have eok : EOk B (compEnvC sc (clGo env.cells sc.names []) C env) (b ++ (b₀ ++ frees sc σ)) (hidC hid ex C D wr) s₂ := by
      rw [← List.append_assoc]
      exact comp_env h hs hf ca₂.kp (ca₂.hidOk hD2 hns₂) ca₂.hid0 hns₂ hbo₂
    have hbo₃ : BindOk (relabelN sc.names env.scope.names) b₀ (hk (hidC hid ex C D wr) s₂.heap) m' := fun x d' hx => by
      obtain ⟨a1, u, a2, a3⟩ := hbo₁ x d' hx
      exact ⟨a1, u, (hb₃ x (hdis d b eb x d' hx)).trans a2, a3⟩
    have after : ∀ {s₃ : Shared}, Kp s₂ s₃ → CompAt s s₀ hid ex C D wr K₀ s₃ ∧ St rest s₃.heap ∧ s₃.heap.get? D = some (lObj ys c) ∧ RdL (hk (hidC hid ex C D wr) s₃.heap) (pre ++ out) ys ∧ s₃.heap.Ns C m' ∧
        BindOk (relabelN sc.names env.scope.names) b₀ (hk (hidC hid ex C D wr) s₃.heap) m' := fun {s₃} k₃ => by
      have st₃ : St rest s₃.heap := F.frame rest _ _ st₂ (fun b o hb e => k₃.get e) fun a o _ _ e => k₃.get e
      exact ⟨⟨ca.k0, ca₂.fw.trans (k₃.fw _), F.live rest _ st₃, fun a ha => let ⟨o, e⟩ := ca₂.exl a ha; ⟨o, k₃.get e⟩, ca₂.hids.keeps k₃, ca.C0, ca.D0, ca.wr0, ca.ex0, ca.K0⟩, st₃, k₃.get hD2, ro₂.keeps k₃, hns₂.keeps fun _ _ e => k₃.get e,
        fun x d' e => let ⟨a, u, b, c⟩ := hbo₃ x d' e; ⟨a, u, b, c.keeps k₃⟩⟩
    refine tests_ok H hm eok (by rw [hnames]; exact eo) _ _ fun s₃ k₃ => ?_
    simp only [List.length_cons] at hlen
    cases ok with
    | false =>
      rw [if_neg Bool.false_ne_true]
      obtain ⟨a1, a2, a3, a4, a5, a6⟩ := after k₃
      exact ⟨_, Nat.lt_succ_self _, rest, out, ys, c, rs, m', rfl, a1, a2, a5, a6, a3, a4, go, rfl, by omega⟩
    | true =>
      simp only [Option.bind_eq_some_iff] at go
      obtain ⟨x, ex', xs, exs, go⟩ := go
      cases go
      rw [if_pos rfl]
      refine H.at hm eok k₃ (by rw [hnames]; exact ex') _ _ fun u s₄ k₄ ru => ?_
      obtain ⟨a1, a2, a3, a4, a5, a6⟩ := after (k₃.trans k₄)
      refine append_call a3 (by rw [a4.length, List.length_append]; omega) fun s₅ fw₅ hD5 => ?_
      have hDh : ∀ a ∈ [D], a ∈ hidC hid ex C D wr := fun a ha => by rw [List.mem_singleton.mp ha]; exact List.mem_cons_self ..
      have hDwr : ∀ b ∈ wr, b ∉ [D] := fun b hb q => ca.D0.2.1 (by rw [← List.mem_singleton.mp q]; exact hb)
      have st₅ : St rest s₅.heap := F.frame rest _ _ a2 (fun b o hb e => fw₅.get (hDwr b hb) e) fun a o _ e e' => fw₅.get (fun q => by rw [List.mem_singleton.mp q, ca.D0.2.2] at e; cases e) e'
      have hids₅ : HidOk hid s₅ := fun a ha => by
        obtain ⟨o, e⟩ := a1.hids a ha
        exact ⟨o, fw₅.get (by simpa using (hidk a ha).2.2) e⟩
      have hexl₅ : ∀ b ∈ ex, ∃ o, s₅.heap.get? b = some o := fun b hb' => by
        obtain ⟨o, e⟩ := a1.exl b hb'
        exact ⟨o, fw₅.get (by simpa using (ca.ex0 b hb').2.2.2.1) e⟩
      refine ⟨_, Nat.lt_succ_self _, rest, out ++ [x], ys ++ [u], c + 1, xs, m', rfl, ?_, st₅, a5.at' fun o e => fw₅.get (by simpa using ca.C0.2.1) e, a6.fw fw₅ hDh, hD5, ?_, exs, by simp, by simp; omega⟩
      · exact ⟨ca.k0, a1.fw.trans (fw₅.mono fun a ha => by rw [List.mem_singleton.mp ha]; exact List.mem_cons_of_mem _ (List.mem_cons_self ..)), F.live rest _ st₅, hexl₅, hids₅, ca.C0, ca.D0, ca.wr0, ca.ex0, ca.K0⟩
      · rw [← List.append_assoc]; exact (rdL_fw fw₅ hDh a4).snoc (rd_fw fw₅ hDh ru)
end
end Mine
/-! part 10 -/
set_option maxRecDepth 100000
namespace Mine
open PySem PySem.Calls PyProof.Rows PySem.W
section
variable {prog : Program} {w : World} {B : Bt} {A : Around} {hid : List Addr} {s : Shared} {env : Env} {σ : Sig} {n : Nat} {R : Ip}
/-- the frame around a comprehension's loop: its list, its block -/
theorem comp_block {tgt iter elt : Expr} {ifs : List Expr} {more : List Comprehension} {sc : Scope} {pos : Pos} {I : Addr} {wr : List Addr} {K₀ : KM} {tu : Bool} {St : List PyData → Heap → Prop} {items ds : List PyData} {E : Value → Shared → Prop} {s₂ : Shared}
    {RR : Value → Addr → Result → Shared → Prop}
    (h : EOk B env σ hid s) (hs : okScope sc = true) (F : Feed prog w A K₀ tu I wr St) (k2 : Kp s s₂) (st : St items s₂.heap)
    (hK : ∀ a o, K₀ a = some o → a ∉ hid ∧ s₂.heap.get? a = some o) (hwr : ∀ b ∈ wr, s.heap.get? b = none ∧ K₀ b = none)
    (loop : ∀ C D c s₀ m Rr, CompAt s s₀ hid [] C D wr K₀ s₀ → St items s₀.heap → s₀.heap.Ns C m → s₀.heap.get? D = some (lObj [] c) →
      (∀ s' ys c m, Kp s s' → s'.heap.Ns C m → s'.heap.get? D = some (lObj ys c) → RdL (hk (hidC hid [] C D wr) s'.heap) ds ys → Rr (.ok .next) s') →
      codeAny (model prog w) A (.compLoop (.ListComp elt (⟨tgt, iter, ifs, 0⟩ :: more) sc pos) 0 (.ref I) (.ref D) (compEnvC sc (clGo env.cells sc.names []) C env)) Rr s₀)
    (hRR : ∀ C D s' ys c m, Kp s s' → s.heap.get? C = none → s.heap.get? D = none → C ≠ D → s'.heap.Ns C m → s'.heap.get? D = some (lObj ys c) → RdL (hk (hidC hid [] C D wr) s'.heap) ds ys → RR (.ref D) C (.ok .next) s') :
    wpAny (model prog w) A (newList []) (fun acc s₃ => wpAny (model prog w) A (newFunctionEnv sc env.globals (clGo env.cells sc.names []) [] env.qual none .none (some env)) (fun cenv s₄ =>
      codeAny (model prog w) A (.compStart (.ListComp elt (⟨tgt, iter, ifs, 0⟩ :: more) sc pos) 0 (.ref I) acc { cenv with scope := relabel sc env }) (RR acc cenv.locals) s₄) E s₃) E s₂ := by
  refine wpAny_newObj_type (wpAny_newFunctionEnv (okScope_parts hs).2.1 (by intro y hy; simp at hy) (fun h₁ hns₁ hsb₁ => ?_) (okScope_parts hs).1)
  dsimp only at hns₁ hsb₁ ⊢
  generalize hH2 : s₂.heap.push { cls := .type "list", dict := none, data := .seq ([] : List Value).toArray } = H2 at hns₁ hsb₁ ⊢
  have hC : H2.objs.size = s₂.heap.objs.size + 1 := by rw [← hH2, Heap.size_push]
  have hCD : H2.objs.size ≠ s₂.heap.objs.size := by rw [hC]; exact Nat.succ_ne_self _
  have old : ∀ b o, s₂.heap.get? b = some o → h₁.get? b = some o := fun b o e => hsb₁.extBut b o (by rw [hC]; exact Nat.ne_of_lt (Nat.lt_succ_of_lt (Heap.lt_size e))) (Heap.get?_push_of_some _ (hH2 ▸ Heap.get?_push_of_some _ e))
  have hD : h₁.get? s₂.heap.objs.size = some (lObj [] 0) := hsb₁.extBut _ _ (Ne.symm hCD) (Heap.get?_push_of_some _ (hH2 ▸ Heap.get?_push_size _ rfl))
  have C0 : s₂.heap.get? H2.objs.size = none := Heap.get?_none_of_le (by rw [hC]; exact Nat.le_succ _)
  have D0 : s₂.heap.get? s₂.heap.objs.size = none := get_size _
  have live₂ := F.live items _ st
  have nwr : ∀ a, s₂.heap.get? a = none → a ∉ wr := fun a e q => by obtain ⟨o, e'⟩ := live₂ a q; rw [e] at e'; cases e'
  have nK : ∀ a, s₂.heap.get? a = none → K₀ a = none := fun a e => by
    cases e' : K₀ a with
    | none => rfl
    | some o => rw [(hK a o e').2] at e; cases e
  have loop' : ∀ s₃ : Shared, s₃ = { s₂ with heap := h₁, toks := s₂.toks + ([] : List (Str × Value)).length } →
      codeAny (model prog w) A (.compLoop (.ListComp elt (⟨tgt, iter, ifs, 0⟩ :: more) sc pos) 0 (.ref I) (.ref s₂.heap.objs.size) (compEnvC sc (clGo env.cells sc.names []) H2.objs.size env)) (RR (.ref s₂.heap.objs.size) H2.objs.size) s₃ := by
    rintro s₃ rfl
    have k4 : Kp s₂ { s₂ with heap := h₁, toks := s₂.toks + ([] : List (Str × Value)).length } := Kp.mk' old
    have st₄ : St items h₁ := F.frame items _ _ st (fun b o _ e => old b o e) fun a o _ _ e => old a o e
    refine loop _ _ 0 _ _ _ ⟨k2.trans k4, Fw.refl _ _, F.live items _ st₄, by simp, (h.hids.keeps k2).keeps k4, ⟨none_kp k2 C0, hCD, nwr _ C0, nK _ C0⟩, ⟨none_kp k2 D0, nwr _ D0, nK _ D0⟩, hwr, by simp, fun a ha => ?_⟩ st₄ hns₁ hD ?_
    · cases e : K₀ a with
      | none => exact absurd e ha
      | some o => exact (hK a o e).1
    · intro s' ys c m k hn hg hr
      exact hRR _ _ s' ys c m k (none_kp k2 C0) (none_kp k2 D0) hCD hn hg hr
  refine codeAny_compStart_list (loop' _ rfl) (F.self items _ _ _ ?_ (loop' _ rfl))
  exact F.frame items _ _ st (fun b o _ e => old b o e) fun a o _ _ e => old a o e
theorem comp_loop1 {tgt iter elt : Expr} {ifs : List Expr} {sc : Scope} {pos : Pos} {I C D : Addr} {wr : List Addr} {K₀ : KM} {tu : Bool} {St : List PyData → Heap → Prop} {items ds : List PyData} {Rr : Result → Shared → Prop} {c : Nat} {s₀ : Shared} {m : Str → Option Value}
    (H : SndE prog w B n R) (hm : Rm A n) (h : EOk B env σ hid s) (hs : okScope sc = true) (hf : freesIn env.scope.names sc = true) (F : Feed prog w A K₀ tu I wr St) (ht : fitT tu tgt = true) (hfew : few items.length = true)
    (e : compGo R (relabelN sc.names env.scope.names) (frees sc σ) tgt ifs elt items = some ds) (ca : CompAt s s₀ hid [] C D wr K₀ s₀) (st : St items s₀.heap) (hn : s₀.heap.Ns C m) (hD : s₀.heap.get? D = some (lObj [] c))
    (hR : ∀ s' ys c m, Kp s s' → s'.heap.Ns C m → s'.heap.get? D = some (lObj ys c) → RdL (hk (hidC hid [] C D wr) s'.heap) ds ys → Rr (.ok .next) s') :
    codeAny (model prog w) A (.compLoop (.ListComp elt [⟨tgt, iter, ifs, 0⟩] sc pos) 0 (.ref I) (.ref D) (compEnvC sc (clGo env.cells sc.names []) C env)) Rr s₀ := by
  refine compLoop_go (compI s s₀ hid [] C D wr K₀ St (relabelN sc.names env.scope.names) [] (compGo R (relabelN sc.names env.scope.names) ([] ++ frees sc σ) tgt ifs elt) [] ds items.length)
    (fun k s' hI => comp_turn H hm h hs hf F ht (few_le' hfew) (fun _ _ _ x d' q => by cases q) (fun s' ys c m k fw hn hg hr => hR s' ys c m k hn hg hr) k s' hI) items.length ?_
  refine ⟨items, [], [], c, ds, m, rfl, ca, st, hn, (fun x d q => by cases q), hD, by simp [RdL], by simpa using e, by simp, by simp⟩
/-- a comprehension's list, whatever is done with it -/
theorem comp_core {tgt iter elt : Expr} {ifs : List Expr} {more : List Comprehension} {sc : Scope} {pos p : Pos} {tu : Bool} {items ds : List PyData} {use : Option (Value → Sem Unit)} {Q E : Value → Shared → Prop}
    (hm : Rm A n) (h : EOk B env σ hid s) (hs : okScope sc = true) (hf : freesIn env.scope.names sc = true) (hsrc : PSrc prog w A hid s (eval iter env) tu items ∧ ∀ x, foldedSetIterable iter env x = pure x)
    (loop : ∀ I wr K₀ St C D c s₀ m Rr, Feed prog w A K₀ tu I wr St → CompAt s s₀ hid [] C D wr K₀ s₀ → St items s₀.heap → s₀.heap.Ns C m → s₀.heap.get? D = some (lObj [] c) →
      (∀ s' ys c m, Kp s s' → s'.heap.Ns C m → s'.heap.get? D = some (lObj ys c) → RdL (hk (hidC hid [] C D wr) s'.heap) ds ys → Rr (.ok .next) s') →
      codeAny (model prog w) A (.compLoop (.ListComp elt (⟨tgt, iter, ifs, 0⟩ :: more) sc pos) 0 (.ref I) (.ref D) (compEnvC sc (clGo env.cells sc.names []) C env)) Rr s₀)
    (fin : ∀ C D s' m, Kp s s' → s.heap.get? C = none → (∀ a ∈ hid, a ≠ C) → s'.heap.Ns C m → (∀ s'', Fw [C] s' s'' → Rd (hk hid s''.heap) (.list ds) (.ref D)) → compPost (model prog w) A E use Q (.ref D) C (.ok .next) s') :
    wpAny (model prog w) A (comprehension (.ListComp elt (⟨tgt, iter, ifs, 0⟩ :: more) sc pos) sc env p (newList []) false (eval iter env) use) Q E s := by
  refine wpAny_comprehension_free (use := use) rfl hsrc.2 (closure_ok h hf) (okScope_parts hs).1 (okScope_parts hs).2.2.1 (hsrc.1 _ _ fun I s₂ K₀ wr St k2 hK hwr F st => ?_)
  refine comp_block (RR := fun acc C => compPost (model prog w) A E use Q acc C) h hs F k2 st hK hwr (fun C D c s₀ m Rr ca => loop I wr K₀ St C D c s₀ m Rr F ca) fun C D s' ys c m k C0 D0 hCD hn hg hr => ?_
  have hidC' : ∀ a ∈ hid, a ≠ C := fun a ha q => by obtain ⟨o, e⟩ := h.hids a ha; rw [q, C0] at e; cases e
  have hidD' : D ∉ hid := fun q => by obtain ⟨o, e⟩ := h.hids D q; rw [D0] at e; cases e
  refine fin C D s' m k C0 hidC' hn fun s'' fw => ?_
  simp only [Rd]
  refine ⟨D, ys, c, rfl, hk_of hidD' (fw.get (by simpa using Ne.symm hCD) hg), ?_⟩
  exact rdL_less (fun a ha => List.mem_cons_of_mem _ (List.mem_cons_of_mem _ (List.mem_append_right _ (by simpa using ha)))) (rdL_fw fw (fun a ha => by rw [List.mem_singleton.mp ha]; exact List.mem_cons_of_mem _ (List.mem_cons_self ..)) hr)
theorem comp_val {e : Expr} {tgt iter elt : Expr} {ifs : List Expr} {more : List Comprehension} {sc : Scope} {pos : Pos} {tu : Bool} {items ds : List PyData} {Q E : Value → Shared → Prop} (q : ∀ v s', Kp s s' → Rd (hk hid s'.heap) (.list ds) v → Q v s')
    {C D : Addr} {s' : Shared} {m : Str → Option Value} (k : Kp s s') (C0 : s.heap.get? C = none) (hn : s'.heap.Ns C m) (r : ∀ s'', Fw [C] s' s'' → Rd (hk hid s''.heap) (.list ds) (.ref D)) : compPost (model prog w) A E none Q (.ref D) C (.ok .next) s' :=
  ⟨m, hn, fun h' hs => by
    have fw : Fw [C] s' { s' with heap := h', toks := s'.toks } := sameBut_fw hs
    exact q _ _ ((((k.fw [C]).trans fw).drop fun a ha => by rw [List.mem_singleton.mp ha]; exact .inr C0).kp) (r _ fw)⟩
theorem ev_comp {tgt iter elt : Expr} {ifs : List Expr} {sc : Scope} {pos : Pos} {tu : Bool} {items ds : List PyData} (H : SndE prog w B n R) (hm : Rm A n) (h : EOk B env σ hid s) (hs : okScope sc = true) (hf : freesIn env.scope.names sc = true)
    (es : R.src env.scope.names σ iter = some (tu, items)) (ht : fitT tu tgt = true) (hfew : few items.length = true) (e : compGo R (relabelN sc.names env.scope.names) (frees sc σ) tgt ifs elt items = some ds) :
    PD prog w A hid s (eval (.ListComp elt [⟨tgt, iter, ifs, 0⟩] sc pos) env) (.list ds) := fun Q E q => by
  rw [arm_eval_ListComp]
  refine comp_core hm h hs hf (H.src hm h es) (fun I wr K₀ St C D c s₀ m Rr F ca st hn hD hR => comp_loop1 H hm h hs hf F ht hfew e ca st hn hD hR) fun C D s' m k C0 _ hn r => ?_
  exact comp_val (e := elt) (tgt := tgt) (iter := iter) (elt := elt) (ifs := ifs) (more := []) (sc := sc) (pos := pos) (tu := tu) (items := items) q k C0 hn r
end
end Mine
/-! part 11 -/
set_option maxRecDepth 100000
namespace Mine
open PySem PySem.Calls PyProof.Rows PySem.W
section
variable {prog : Program} {w : World} {A : Around} {R : Result → Shared → Prop} {s : Shared}
theorem compTurn_two (elt t1 i1 t2 i2 : Expr) (scope : Scope) (pos : Pos) (it acc : Value) (env : Env) :
    compTurn (.ListComp elt [⟨t1, i1, [], 0⟩, ⟨t2, i2, [], 0⟩] scope pos) 0 it acc env = (standAt i1.pos >>= fun _ => pyNext it >>= fun r => match r with
      | none => pure (.done .next)
      | some v => letOwnedTupleGo t1 it v >>= fun _ => assign t1 env v >>= fun _ =>
        (eval i2 env >>= fun x => standAt i2.pos >>= fun _ => foldedSetIterable i2 env x >>= fun x => holding [x] (pyIter x) >>= fun i => runOwn (.compStart (.ListComp elt [⟨t1, i1, [], 0⟩, ⟨t2, i2, [], 0⟩] scope pos) 1 i acc env) env >>= fun _ =>
          again (.compLoop (.ListComp elt [⟨t1, i1, [], 0⟩, ⟨t2, i2, [], 0⟩] scope pos) 0 it acc env))) := by rfl
theorem compTurn_in (elt t1 i1 t2 i2 : Expr) (scope : Scope) (pos : Pos) (it acc : Value) (env : Env) :
    compTurn (.ListComp elt [⟨t1, i1, [], 0⟩, ⟨t2, i2, [], 0⟩] scope pos) 1 it acc env = (standAt i2.pos >>= fun _ => pyNext it >>= fun r => match r with
      | none => pure (.done .next)
      | some v => letOwnedTupleGo t2 it v >>= fun _ => assign t2 env v >>= fun _ =>
        (eval elt env >>= fun x => call (.builtin "list.append") [acc, x] >>= fun _ => pure ()) >>= fun _ =>
          again (.compLoop (.ListComp elt [⟨t1, i1, [], 0⟩, ⟨t2, i2, [], 0⟩] scope pos) 1 it acc env)) := by rfl
theorem compLoop_in {elt t1 i1 t2 i2 : Expr} {scope : Scope} {pos : Pos} {it acc : Value} {env : Env} (I : Nat → Shared → Prop)
    (turn : ∀ n s, I n s → wpAny (model prog w) A (pyNext it) (fun r s₁ => match r with
      | none => R (.ok .next) s₁
      | some v => wpAny (model prog w) A (letOwnedTupleGo t2 it v) (fun _ s₁' => wpAny (model prog w) A (assign t2 env v) (fun _ s₂ =>
          wpAny (model prog w) A (forIn ([] : List Expr) true fun c r => if r = true then do let ok ← isTrue c env (eval c env); pure (ForInStep.yield ok) else pure (ForInStep.yield r)) (fun ok s₃ =>
            if ok = true then wpAny (model prog w) A (eval elt env) (fun x s₄ =>
              wpAny (model prog w) A (call (.builtin "list.append") [acc, x]) (fun _ s₅ => ∃ m, m < n ∧ I m s₅) (notedBy (model prog w) A env fun e s' => R (.error e) s') s₄) (notedBy (model prog w) A env fun e s' => R (.error e) s') s₃
            else ∃ m, m < n ∧ I m s₃) (notedBy (model prog w) A env fun e s' => R (.error e) s') s₂) (notedBy (model prog w) A env fun e s' => R (.error e) s') s₁') (notedBy (model prog w) A env fun e s' => R (.error e) s') s₁)
      (notedBy (model prog w) A env fun e s' => R (.error e) s') s)
    (n : Nat) (h : I n s) :
    codeAny (model prog w) A (.compLoop (.ListComp elt [⟨t1, i1, [], 0⟩, ⟨t2, i2, [], 0⟩] scope pos) 1 it acc env) R s := by
  refine codeAny_loop rfl I (fun n s hI => ?_) n h
  show wpAny _ A ((compTurn (.ListComp elt [⟨t1, i1, [], 0⟩, ⟨t2, i2, [], 0⟩] scope pos) 1 it acc env).onRaise (fun x => do noteFrame x env; theTreesLotGoes x)) _ _ s
  refine wpAny_noted ?_
  rw [compTurn_in]
  refine wpAny_bind (wpAny_standAt (wpAny_bind (wpAny_mono (turn n s hI) (fun r s₁ h₁ => ?_) fun _ _ h' => h')))
  cases r with
  | none => exact wpAny_pure h₁
  | some v =>
    refine wpAny_bind (wpAny_mono h₁ (fun _ s₁' h₁' => ?_) fun _ _ h' => h')
    refine wpAny_bind (wpAny_mono h₁' (fun _ s₂ h₂ => ?_) fun _ _ h' => h')
    rw [List.forIn_nil] at h₂
    have h₃ := h₂
    refine wpAny_bind ?_
    have h₄ : wpAny (model prog w) A (eval elt env) (fun x s₄ =>
              wpAny (model prog w) A (call (.builtin "list.append") [acc, x]) (fun _ s₅ => ∃ m, m < n ∧ I m s₅) (notedBy (model prog w) A env fun e s' => R (.error e) s') s₄) (notedBy (model prog w) A env fun e s' => R (.error e) s') s₂ := by
      intro Γ p hΓ
      have := h₃ Γ p hΓ
      exact this Γ p hΓ
    exact wpAny_bind (wpAny_mono h₄ (fun x s₄ h₄ => wpAny_bind (wpAny_mono h₄ (fun _ s₅ h₅ => wpAny_pure (wpAny_pure ⟨rfl, h₅⟩)) fun _ _ h' => h')) fun _ _ h' => h')
theorem compLoop_out {elt t1 i1 t2 i2 : Expr} {scope : Scope} {pos : Pos} {it acc : Value} {env : Env} (I : Nat → Shared → Prop) (hf : ∀ x, foldedSetIterable i2 env x = pure x)
    (turn : ∀ n s, I n s → wpAny (model prog w) A (pyNext it) (fun r s₁ => match r with
      | none => R (.ok .next) s₁
      | some v => wpAny (model prog w) A (letOwnedTupleGo t1 it v) (fun _ s₁' => wpAny (model prog w) A (assign t1 env v) (fun _ s₂ =>
          wpAny (model prog w) A (eval i2 env) (fun x s₃ => wpAny (model prog w) A (pyIter x) (fun i s₄ =>
            codeAny (model prog w) A (.compStart (.ListComp elt [⟨t1, i1, [], 0⟩, ⟨t2, i2, [], 0⟩] scope pos) 1 i acc env) (fun r s' => match r with | .ok _ => ∃ m, m < n ∧ I m s' | .error e => cameBackBy (model prog w) A env (notedBy (model prog w) A env fun e s' => R (.error e) s') e s') s₄)
              (notedBy (model prog w) A env fun e s' => R (.error e) s') s₃) (notedBy (model prog w) A env fun e s' => R (.error e) s') s₂) (notedBy (model prog w) A env fun e s' => R (.error e) s') s₁') (notedBy (model prog w) A env fun e s' => R (.error e) s') s₁)
      (notedBy (model prog w) A env fun e s' => R (.error e) s') s)
    (n : Nat) (h : I n s) :
    codeAny (model prog w) A (.compLoop (.ListComp elt [⟨t1, i1, [], 0⟩, ⟨t2, i2, [], 0⟩] scope pos) 0 it acc env) R s := by
  refine codeAny_loop rfl I (fun n s hI => ?_) n h
  show wpAny _ A ((compTurn (.ListComp elt [⟨t1, i1, [], 0⟩, ⟨t2, i2, [], 0⟩] scope pos) 0 it acc env).onRaise (fun x => do noteFrame x env; theTreesLotGoes x)) _ _ s
  refine wpAny_noted ?_
  rw [compTurn_two]
  refine wpAny_bind (wpAny_standAt (wpAny_bind (wpAny_mono (turn n s hI) (fun r s₁ h₁ => ?_) fun _ _ h' => h')))
  cases r with
  | none => exact wpAny_pure h₁
  | some v =>
    refine wpAny_bind (wpAny_mono h₁ (fun _ s₁' h₁' => ?_) fun _ _ h' => h')
    refine wpAny_bind (wpAny_mono h₁' (fun _ s₂ h₂ => ?_) fun _ _ h' => h')
    refine wpAny_bind (wpAny_mono h₂ (fun x s₃ h₃ => wpAny_bind (wpAny_standAt (wpAny_bind (wpAny_of_eq (hf x) (wpAny_bind (wpAny_holding (wpAny_mono h₃ (fun i s₄ h₄ => wpAny_bind ?_) fun _ _ h' => h'))))))) fun _ _ h' => h')
    refine wpAny_runOwn (codeAny_mono (A := A) ?_ fun r s' hr => hr)
    refine codeAny_mono h₄ fun r s' hr => ?_
    cases r with
    | ok f => exact wpAny_pure ⟨rfl, hr⟩
    | error e => exact hr
theorem compStart_in {elt t1 i1 t2 i2 scope pos it acc env}
    (h0 : codeAny (model prog w) A (.compLoop (.ListComp elt [⟨t1, i1, [], 0⟩, ⟨t2, i2, [], 0⟩] scope pos) 1 it acc env) R s)
    (h : wpAny (model prog w) A (pyIter it) (fun it' s' => codeAny (model prog w) A (.compLoop (.ListComp elt [⟨t1, i1, [], 0⟩, ⟨t2, i2, [], 0⟩] scope pos) 1 it' acc env) R s')
      (notedBy (model prog w) A env fun x s' => R (.error x) s') s) :
    codeAny (model prog w) A (.compStart (.ListComp elt [⟨t1, i1, [], 0⟩, ⟨t2, i2, [], 0⟩] scope pos) 1 it acc env) R s := by
  refine codeAny_of_tree ?_
  show wpAny _ _ ((compStart (.ListComp elt [⟨t1, i1, [], 0⟩, ⟨t2, i2, [], 0⟩] scope pos) 1 it acc env).onRaise (fun x => do noteFrame x env; standAt theWindowsPlace)) _ _ s
  refine wpAny_notedAt ?_
  unfold compStart
  show wpAny _ _ (ask >>= _) _ _ s
  refine wpAny_bind (wpAny_askSetting (wpAny_ite ?_))
  split
  · first
      | exact wpAny_bind (wpAny_pure (wpAny_pure (And.intro rfl h0)))
      | exact wpAny_pure (And.intro rfl h0)
  · first
      | exact wpAny_bind (wpAny_rule (wpAny_bind (wpAny_standAt (wpAny_bind (wpAny_mono h (fun it' s' h' => wpAny_pure (And.intro rfl h')) fun _ _ x => x)))))
      | exact wpAny_bind (wpAny_rule (wpAny_bind (wpAny_bind (wpAny_standAt (wpAny_bind (wpAny_mono h (fun it' s' h' => wpAny_pure (And.intro rfl h')) fun _ _ x => x))))))
end
end Mine
/-! part 12 -/
set_option maxRecDepth 100000
namespace Mine
open PySem PySem.Calls PyProof.Rows PySem.W
section
variable {prog : Program} {w : World} {B : Bt} {A : Around} {hid : List Addr} {s : Shared} {env : Env} {σ : Sig} {n : Nat} {R : Ip}
theorem rdL_hide {s s' : Shared} {hid hid' : List Addr} (k : Kp s s') (hn : ∀ a ∈ hid', a ∈ hid ∨ s.heap.get? a = none) {d : List PyData} {v : List Value} (r : RdL (hk hid s.heap) d v) : RdL (hk hid' s'.heap) d v :=
  RdL.mono (fun a o _ e => hk_of (fun m => by
    rcases hn a m with q | q
    · exact hk_not e q
    · have x := hk_sub e; rw [q] at x; cases x) (k.get (hk_sub e))) d v r
theorem compGo2_length {R : Ip} {sc : Sc} {σ : Sig} {x y : Str} {p q : Pos} {i2 elt : Expr} : ∀ {items ds : List PyData}, compGo2 R sc σ x y p q i2 elt items = some ds → ds.length ≤ 100000
  | [], ds, e => by simp [compGo2] at e; subst e; simp
  | d :: r, ds, e => by
    simp only [compGo2, Option.bind_eq_some_iff] at e
    obtain ⟨b, _, it, _, e⟩ := e
    split at e
    · simp only [Option.bind_eq_some_iff] at e
      obtain ⟨xs, _, rs, _, e⟩ := e
      split at e
      · rename_i hf
        cases e
        have := few_le' hf
        simpa using this
      · cases e
    · cases e
theorem compGo_length_eq {R : Ip} {sc : Sc} {σ : Sig} {tgt elt : Expr} : ∀ {items ds : List PyData}, compGo R sc σ tgt [] elt items = some ds → ds.length = items.length
  | [], ds, e => by simp [compGo] at e; subst e; simp
  | d :: r, ds, e => by
    simp only [compGo, tests, Option.bind_eq_some_iff] at e
    obtain ⟨b, _, ok, eo, e⟩ := e
    cases eo
    simp only [Option.bind_eq_some_iff] at e
    obtain ⟨x, _, xs, e2, e3⟩ := e
    cases e3
    have := compGo_length_eq e2
    simp [this]
theorem bindT_name {sc : Sc} {x : Str} {p : Pos} {d : PyData} {b : Sig} (e : bindT sc (.Name x p) d = some b) : b = [(x, d)] := by
  replace e : (if (sc.lookup x == some NameKind.local) = true then some [(x, d)] else none) = some b := e
  split at e
  · cases e; rfl
  · cases e
noncomputable def compI2 (s s₀ : Shared) (hid : List Addr) (C D : Addr) (wr : List Addr) (K₀ : KM) (St : List PyData → Heap → Prop) (go : List PyData → Option (List PyData)) (ds : List PyData) (k : Nat) (s' : Shared) : Prop :=
  ∃ rest out ys c rs m, k = rest.length ∧ CompAt s s₀ hid [] C D wr K₀ s' ∧ St rest s'.heap ∧ s'.heap.Ns C m ∧ s'.heap.get? D = some (lObj ys c) ∧ RdL (hk (hidC hid [] C D wr) s'.heap) out ys ∧ go rest = some rs ∧ out ++ rs = ds
theorem comp_loop2 {x y : Str} {p q : Pos} {i1 i2 elt : Expr} {sc : Scope} {pos : Pos} {I C D : Addr} {wr : List Addr} {K₀ : KM} {tu : Bool} {St : List PyData → Heap → Prop} {items ds : List PyData} {Rr : Result → Shared → Prop} {c : Nat} {s₀ : Shared} {m : Str → Option Value}
    (H : SndE prog w B n R) (hm : Rm A n) (h : EOk B env σ hid s) (hs : okScope sc = true) (hf : freesIn env.scope.names sc = true) (hxy : (x != y) = true) (F : Feed prog w A K₀ tu I wr St) (ht : fitT tu (.Name x p) = true)
    (hfold : ∀ env z, foldedSetIterable i2 env z = pure z) (hlen : ds.length ≤ 100000)
    (e : compGo2 R (relabelN sc.names env.scope.names) (frees sc σ) x y p q i2 elt items = some ds) (ca : CompAt s s₀ hid [] C D wr K₀ s₀) (st : St items s₀.heap) (hn : s₀.heap.Ns C m) (hD : s₀.heap.get? D = some (lObj [] c))
    (hR : ∀ s' ys c m, Kp s s' → s'.heap.Ns C m → s'.heap.get? D = some (lObj ys c) → RdL (hk (hidC hid [] C D wr) s'.heap) ds ys → Rr (.ok .next) s') :
    codeAny (model prog w) A (.compLoop (.ListComp elt [⟨.Name x p, i1, [], 0⟩, ⟨.Name y q, i2, [], 0⟩] sc pos) 0 (.ref I) (.ref D) (compEnvC sc (clGo env.cells sc.names []) C env)) Rr s₀ := by
  refine compLoop_out (compI2 s s₀ hid C D wr K₀ St (compGo2 R (relabelN sc.names env.scope.names) (frees sc σ) x y p q i2 elt) ds) (hfold _) ?_ items.length ⟨items, [], [], c, ds, m, rfl, ca, st, hn, hD, by simp [RdL], e, by simp⟩
  clear ca st hn hD e m c
  rintro k s' ⟨rest, out, ys, c, rs, m, rfl, ca, st, hns, hD, ro, go, rfl⟩
  have hkind : (compEnvC sc (clGo env.cells sc.names []) C env).scope.kind = .function := (okScope_parts hs).1
  have hnames : (compEnvC sc (clGo env.cells sc.names []) C env).scope.names = relabelN sc.names env.scope.names := by
    show (relabel sc env).names = _
    exact relabel_names h.kind
  have hwrC : ∀ a ∈ wr, a ∈ hidC hid [] C D wr := fun a ha => List.mem_cons_of_mem _ (List.mem_cons_of_mem _ (List.mem_append_left _ ha))
  cases rest with
  | nil =>
    simp only [compGo2] at go; cases go
    refine F.done s' _ _ st fun s₁ fw₁ => ?_
    rw [List.append_nil] at hR
    have fw : Fw (C :: D :: wr) s₀ s₁ := ca.fw.trans (fw₁.mono fun a ha => List.mem_cons_of_mem _ (List.mem_cons_of_mem _ ha))
    have kp : Kp s s₁ := (((ca.k0.fw _).trans fw).drop fun a ha => by
      rcases List.mem_cons.mp ha with rfl | ha
      · exact .inr ca.C0.1
      · rcases List.mem_cons.mp ha with rfl | ha
        · exact .inr ca.D0.1
        · exact .inr (ca.wr0 a ha).1).kp
    exact hR s₁ ys c m kp (hns.at' fun o e => fw₁.get ca.C0.2.2.1 e) (fw₁.get ca.D0.2.1 hD) (rdL_fw fw₁ hwrC ro)
  | cons d rest =>
    simp only [compGo2, Option.bind_eq_some_iff] at go
    obtain ⟨b, eb, items2, ei, go⟩ := go
    split at go
    case isFalse => cases go
    rename_i hfit
    obtain ⟨hfit, hfew2⟩ := Bool.and_eq_true_iff.mp hfit
    simp only [Option.bind_eq_some_iff] at go
    obtain ⟨xs, exs, rs', ers, go⟩ := go
    split at go
    case isFalse => cases go
    cases go
    refine F.next ht st (fun v s₂ => wpAny (model prog w) A (assign (.Name x p) (compEnvC sc (clGo env.cells sc.names []) C env) v) _ _ s₂) (fun v s₁ h => h) fun v s₁ fw₁ st₁ rd₁ => ?_
    have rd := rd₁ _ fun a ha => ⟨ca.K0n a ha, ca.hidOk hD hns a ha⟩
    have hns₁ : s₁.heap.Ns C m := hns.at' fun o e => fw₁.get ca.C0.2.2.1 e
    refine assign_t (K := hk (hidC hid [] C D wr) s₁.heap) hm.hd hkind (by rw [hnames]; exact eb) (fun _ _ => hk_sub) rd hns₁ fun s₂ m' fw₂ hns₂ hb₂ hb₃ => ?_
    replace fw₂ : Fw [C] s₁ s₂ := fw₂
    replace hns₂ : s₂.heap.Ns C m' := hns₂
    have hC2 : ∀ a ∈ [C], a ∈ hidC hid [] C D wr := fun a ha => by rw [List.mem_singleton.mp ha]; exact List.mem_cons_of_mem _ (List.mem_cons_self ..)
    have hDC : D ≠ C := Ne.symm ca.C0.2.1
    have fw02 : Fw (C :: D :: wr) s₀ s₂ := (ca.fw.trans (fw₁.mono fun a ha => List.mem_cons_of_mem _ (List.mem_cons_of_mem _ ha))).trans (fw₂.mono fun a ha => by rw [List.mem_singleton.mp ha]; exact List.mem_cons_self ..)
    have hD2 : s₂.heap.get? D = some (lObj ys c) := fw₂.get (by simpa using hDC) (fw₁.get ca.D0.2.1 hD)
    have hCwr : ∀ b ∈ wr, b ∉ [C] := fun b hb q => ca.C0.2.2.1 (by rw [← List.mem_singleton.mp q]; exact hb)
    have st₂ : St rest s₂.heap := F.frame rest _ _ st₁ (fun b o hb e => fw₂.get (hCwr b hb) e) fun a o _ e e' => fw₂.get (fun q => by rw [List.mem_singleton.mp q, ca.C0.2.2.2] at e; cases e) e'
    have hidk : ∀ a ∈ hid, a ∉ wr ∧ a ≠ C ∧ a ≠ D := fun a ha => by
      obtain ⟨o, e⟩ := h.hids a ha
      refine ⟨fun q => ?_, fun q => ?_, fun q => ?_⟩
      · rw [(ca.wr0 a q).1] at e; cases e
      · rw [q, ca.C0.1] at e; cases e
      · rw [q, ca.D0.1] at e; cases e
    have ca₂ : CompAt s s₀ hid [] C D wr K₀ s₂ := ⟨ca.k0, fw02, F.live rest _ st₂, by simp, fun a ha => by
      obtain ⟨o, e⟩ := ca.hids a ha
      exact ⟨o, fw₂.get (by simpa using (hidk a ha).2.1) (fw₁.get (hidk a ha).1 e)⟩, ca.C0, ca.D0, ca.wr0, ca.ex0, ca.K0⟩
    have ro₂ := rdL_fw fw₂ hC2 (rdL_fw fw₁ hwrC ro)
    have hbb : BindOk (relabelN sc.names env.scope.names) b (hk (hidC hid [] C D wr) s₂.heap) m' := fun x d' hx => by
      obtain ⟨h1, u, h2, h3⟩ := hb₂ x d' hx
      refine ⟨?_, u, h2, rd_fw fw₂ hC2 h3⟩
      rw [← hnames]; exact h1
    have hidok₂ := ca₂.hidOk hD2 hns₂
    have eok : EOk B (compEnvC sc (clGo env.cells sc.names []) C env) (b ++ frees sc σ) (hidC hid [] C D wr) s₂ :=
      comp_env h hs hf ca₂.kp hidok₂ ca₂.hid0 hns₂ hbb
    obtain ⟨tu2, items2⟩ := items2
    obtain ⟨hsrc, _⟩ := H.src hm eok (by rw [hnames]; exact ei)
    refine hsrc _ _ fun I2 s₃ K2 wr2 St2 k3 hK2 hwr2 F2 st3 => ?_
    -- the inner loop
    have dom2 : ∀ a, a ∈ hidC hid [] C D wr → a ∉ wr2 := fun a ha q => by
      obtain ⟨o, e⟩ := hidok₂ a ha
      rw [(hwr2 a q).1] at e; cases e
    have inC : C ∈ hidC hid [] C D wr := List.mem_cons_of_mem _ (List.mem_cons_self ..)
    have inD : D ∈ hidC hid [] C D wr := List.mem_cons_self ..
    have K2n : ∀ a, a ∈ hidC hid [] C D wr → K2 a = none := fun a ha => by
      cases e : K2 a with
      | none => rfl
      | some o => exact absurd ha (hK2 a o e).1
    have hidsub : ∀ a ∈ hid, a ∈ hidC hid [] C D wr := fun a ha => List.mem_cons_of_mem _ (List.mem_cons_of_mem _ (List.mem_append_right _ (by simpa using ha)))
    have inner : ∀ s₄, Kp s₂ s₄ → St2 items2 s₄.heap → ∀ Rr' : Result → Shared → Prop,
        (∀ s' ys' c' m'', Kp s s' → Fw (C :: D :: wr2) s₄ s' → s'.heap.Ns C m'' → s'.heap.get? D = some (lObj ys' c') → RdL (hk (hidC hid wr C D wr2) s'.heap) (out ++ xs) ys' → Rr' (.ok .next) s') →
        codeAny (model prog w) A (.compLoop (.ListComp elt [⟨.Name x p, i1, [], 0⟩, ⟨.Name y q, i2, [], 0⟩] sc pos) 1 (.ref I2) (.ref D) (compEnvC sc (clGo env.cells sc.names []) C env)) Rr' s₄ := fun s₄ k4 st4 Rr' hR' => by
      have hide : ∀ a ∈ hidC hid wr C D wr2, a ∈ hidC hid [] C D wr ∨ s₂.heap.get? a = none := fun a ha => by
        rcases List.mem_cons.mp ha with rfl | ha
        · exact .inl inD
        · rcases List.mem_cons.mp ha with rfl | ha
          · exact .inl inC
          · rcases List.mem_append.mp ha with ha | ha
            · exact .inr (hwr2 a ha).1
            · rcases List.mem_append.mp ha with ha | ha
              · exact .inl (hwrC a ha)
              · exact .inl (hidsub a ha)
      refine compLoop_in (compI s s₄ hid wr C D wr2 K2 St2 (relabelN sc.names env.scope.names) b (compGo R (relabelN sc.names env.scope.names) (b ++ frees sc σ) (.Name y q) [] elt) out xs (out.length + items2.length))
        (fun k s' hI => comp_turn H hm h hs hf F2 hfit ?_ ?_ hR' k s' hI) items2.length ?_
      · have hl : xs.length = items2.length := compGo_length_eq exs
        simp only [List.length_append] at hlen
        omega
      · intro d b2 e2 z d' hz
        obtain ⟨rfl⟩ := bindT_name eb
        obtain ⟨rfl⟩ := bindT_name e2
        rw [List.lookup_cons] at hz
        split at hz
        · rename_i hzx
          rw [eq_of_beq hzx, List.lookup_cons]
          have : (x == y) = false := by simpa using hxy
          rw [this]; rfl
        · cases hz
      · refine ⟨items2, [], ys, c, xs, m', rfl, ?_, st4, hns₂.keeps fun _ _ e => k4.get e, ?_, k4.get hD2, by rw [List.append_nil]; exact rdL_hide k4 hide ro₂, exs, by simp, by simp⟩
        · refine ⟨ca₂.kp.trans k4, Fw.refl _ _, F2.live items2 _ st4, fun a ha => ?_, ca₂.hids.keeps k4, ⟨ca.C0.1, ca.C0.2.1, dom2 C inC, K2n C inC⟩, ⟨ca.D0.1, dom2 D inD, K2n D inD⟩, fun b hb => ⟨none_kp ca₂.kp (hwr2 b hb).1, (hwr2 b hb).2⟩, fun b hb => ⟨(ca.wr0 b hb).1, K2n b (hwrC b hb), ?_, ?_, dom2 b (hwrC b hb)⟩, fun a ha q => ?_⟩
          · obtain ⟨o, e⟩ := ca₂.live a ha; exact ⟨o, k4.get e⟩
          · intro q; exact ca.C0.2.2.1 (q ▸ hb)
          · intro q; exact ca.D0.2.1 (q ▸ hb)
          · exact ha (K2n a (hidsub a q))
        · intro z d' hz
          obtain ⟨a1, u, a2, a3⟩ := hbb z d' hz
          exact ⟨a1, u, a2, rd_hide k4 hide a3⟩
    have fin : ∀ s₅ ys' c' m'', Kp s s₅ → (∃ s₄, Kp s₂ s₄ ∧ Fw (C :: D :: wr2) s₄ s₅) → s₅.heap.Ns C m'' → s₅.heap.get? D = some (lObj ys' c') → RdL (hk (hidC hid wr C D wr2) s₅.heap) (out ++ xs) ys' →
        ∃ m, m < (d :: rest).length ∧ compI2 s s₀ hid C D wr K₀ St (compGo2 R (relabelN sc.names env.scope.names) (frees sc σ) x y p q i2 elt) (out ++ (xs ++ rs')) m s₅ := fun s₅ ys' c' m'' k5 ⟨s₄, k4, fw5⟩ hns5 hD5 r5 => by
      have fw25 : Fw (C :: D :: wr2) s₂ s₅ := (k4.fw _).trans fw5
      have nwr2 : ∀ b ∈ wr, b ∉ C :: D :: wr2 := fun b hb q => by
        rcases List.mem_cons.mp q with rfl | q
        · exact ca.C0.2.2.1 hb
        · rcases List.mem_cons.mp q with rfl | q
          · exact ca.D0.2.1 hb
          · exact dom2 b (hwrC b hb) q
      have st5 : St rest s₅.heap := F.frame rest _ _ st₂ (fun b o hb e => fw25.get (nwr2 b hb) e) fun a o _ e e' => fw25.get (fun q => by
        rcases List.mem_cons.mp q with rfl | q
        · rw [ca.C0.2.2.2] at e; cases e
        · rcases List.mem_cons.mp q with rfl | q
          · rw [ca.D0.2.2] at e; cases e
          · rw [(hwr2 a q).1] at e'; cases e') e'
      have fw05 : Fw (C :: D :: wr) s₀ s₅ := by
        refine ((fw02.mono (W' := (C :: D :: wr) ++ wr2) fun a ha => List.mem_append_left _ ha).trans (fw25.mono fun a ha => ?_)).drop fun a ha => ?_
        · rcases List.mem_cons.mp ha with rfl | ha
          · simp
          · rcases List.mem_cons.mp ha with rfl | ha
            · simp
            · exact List.mem_append_right _ ha
        · rcases List.mem_append.mp ha with ha | ha
          · exact .inl ha
          · right
            cases e : s₀.heap.get? a with
            | none => rfl
            | some o =>
              exfalso
              by_cases q : a ∈ C :: D :: wr
              · have : a ∈ hidC hid [] C D wr := by
                  rcases List.mem_cons.mp q with rfl | q
                  · exact inC
                  · rcases List.mem_cons.mp q with rfl | q
                    · exact inD
                    · exact hwrC a q
                exact dom2 a this ha
              · have := fw02.get q e
                rw [(hwr2 a ha).1] at this; cases this
      refine ⟨_, Nat.lt_succ_self _, rest, out ++ xs, ys', c', rs', m'', rfl, ⟨ca.k0, fw05, F.live rest _ st5, by simp, h.hids.keeps k5, ca.C0, ca.D0, ca.wr0, ca.ex0, ca.K0⟩, st5, hns5, hD5, ?_, ers, by rw [List.append_assoc]⟩
      refine rdL_less (fun a ha => ?_) r5
      rcases List.mem_cons.mp ha with rfl | ha
      · exact List.mem_cons_self ..
      · rcases List.mem_cons.mp ha with rfl | ha
        · exact List.mem_cons_of_mem _ (List.mem_cons_self ..)
        · refine List.mem_cons_of_mem _ (List.mem_cons_of_mem _ (List.mem_append_right _ ?_))
          simpa using ha
    refine compStart_in (inner s₃ k3 st3 _ fun s' ys' c' m'' k fw hn' hd' hr' => fin s' ys' c' m'' k ⟨s₃, k3, fw⟩ hn' hd' hr') (F2.self items2 _ _ _ st3 (inner s₃ k3 st3 _ fun s' ys' c' m'' k fw hn' hd' hr' => fin s' ys' c' m'' k ⟨s₃, k3, fw⟩ hn' hd' hr'))
end
end Mine
/-! part 13 -/
set_option maxRecDepth 100000
namespace Mine
open PySem PySem.Calls PyProof.Rows PySem.W
/-- what `sorted` yields -/
noncomputable def SortOk (prog : Program) (w : World) (P : Prims) : Prop := ∀ {A : Around} {hid : List Addr} {s : Shared} {xs ys : List PyData} {v : Value} {n : Nat}, Rm A n → HidOk hid s → Rd (hk hid s.heap) (.list xs) v → P.sortD xs = some ys → PD prog w A hid s (call (.builtin "sorted") [v]) (.list ys)
section
variable {prog : Program} {w : World} {B : Bt} {A : Around} {hid : List Addr} {s : Shared} {env : Env} {σ : Sig} {n : Nat} {R : Ip} {P : Prims}
theorem items_rd {K : KM} {a : Int} {m : Nat} {acc : Array Value} (h : ItemsOf (fun i v => ∃ t, v = Value.int (a + (i : Int) * 1) t) acc m) : RdL K ((List.range m).map fun (k : Nat) => PyData.int (a + (k : Int))) acc.toList := by
  obtain ⟨hsz, hv⟩ := h
  refine RdL.of_get (by simp [hsz]) fun i d hd => ?_
  have hi : i < m := by
    rcases Nat.lt_or_ge i m with q | q
    · exact q
    · rw [List.getElem?_eq_none (by simpa using q)] at hd; cases hd
  have hd' : d = .int (a + (i : Int)) := by
    simp [hi] at hd; exact hd.symm
  have hlt : i < acc.size := by omega
  obtain ⟨t, ht⟩ := hv i acc[i] (by simp [hlt])
  refine ⟨acc[i], by simp [hlt], ?_⟩
  rw [ht, hd']
  simp [Rd]
theorem ev_list_range (H : SndE prog w B n R) (hm : Rm A n) (h : EOk B env σ hid s) {f g : Str} {p p' p2 p3 : Pos} {bs : List Expr} {ds items : List PyData} (gf : env.kindOf f = some .globalImplicit) (hf : isNm f "list" = true)
    (gg : env.kindOf g = some .globalImplicit) (hg : isNm g "range" = true) (e : mapO (R.ev env.scope.names σ) bs = some ds) (er : rangeD ds = some items) :
    PD prog w A hid s (eval (.Call (.Name f p) [.Call (.Name g p2) bs [] p3] [] p') env) (.list items) := fun Q E q => by
  obtain ⟨a, b, m, hd, rfl, hsz, hsm, hm64⟩ := rangeD_ints er
  have hne : bs ≠ [] := by
    rintro rfl
    simp [mapO] at e; subst e
    rcases hd with ⟨x, _⟩ | x <;> cases x
  have h1 := isNm_eq hf
  have h2 := isNm_eq hg
  subst h1 h2
  rw [arm_eval_Call_Name']
  refine wpAny_bind (ev_builtin h gf B.list ?_)
  refine PyProof.Rows.callWith_type rfl ?_
  rw [starEach_cons (by rintro _ _ ⟨⟩), backTo_cons]
  refine evalArgs_plain (spliced_cons (call_ty H hm h gg B.range hne e fun vs s₁ k₁ r₁ => call_range hd r₁ fun r s₂ t u v k₂ hnew hr => ?_))
  refine spliced_nil ?_
  have k02 := k₁.trans k₂
  refine call_list_range hm.hd hr hsm (by rw [hsz]) (by omega) fun h' tk acc' c' hk' hg' hi => ?_
  have kp : Kp s₂ { s₂ with heap := h', toks := tk } := Kp.mk' hk'
  refine q _ _ (k02.trans kp) ?_
  simp only [Rd]
  refine ⟨_, acc'.toList, c', rfl, hk_of (h.hids.keeps k02).size (by simpa using hg'), items_rd hi⟩
theorem ev_len (H : SndE prog w B n R) (hm : Rm A n) (h : EOk B env σ hid s) {f : Str} {p p' : Pos} {es : List Expr} {xs : List PyData} (g : env.kindOf f = some .globalImplicit) (hf : f = Str.ofString "len") (hne : es ≠ [])
    (e : mapO (R.ev env.scope.names σ) es = some [.list xs]) (hfew : few xs.length = true) : PD prog w A hid s (eval (.Call (.Name f p) es [] p') env) (.int xs.length) := fun Q E q => by
  subst hf
  refine call_bi H hm h g B.len hne e fun vs s₁ k₁ r₁ => ?_
  simp only [RdL] at r₁
  obtain ⟨v, r, rfl, h1, rfl⟩ := r₁
  obtain ⟨l, vs, k, rfl, hl, hv⟩ := rd_list h1
  have := few_le' hfew
  refine call_len_list (items := vs.toArray) ⟨_, hk_sub hl, rfl, _, rfl⟩ (by rw [List.size_toArray, hv.length]; omega) ?_
  rw [List.size_toArray, hv.length]
  exact q _ _ (k₁.trans Kp.tok) (by simp [Rd])
theorem ev_sum (H : SndE prog w B n R) (hm : Rm A n) (h : EOk B env σ hid s) {f : Str} {p p' : Pos} {es : List Expr} {xs : List PyData} {t : Int} (g : env.kindOf f = some .globalImplicit) (hf : f = Str.ofString "sum") (hne : es ≠ [])
    (e : mapO (R.ev env.scope.names σ) es = some [.list xs]) (hfew : few xs.length = true) (et : sumD xs = some t) : PD prog w A hid s (eval (.Call (.Name f p) es [] p') env) (.int t) := fun Q E q => by
  subst hf
  refine call_bi H hm h g B.sum hne e fun vs s₁ k₁ r₁ => ?_
  simp only [RdL] at r₁
  obtain ⟨v, r, rfl, h1, rfl⟩ := r₁
  obtain ⟨l, vs, k, rfl, hl, hv⟩ := rd_list h1
  obtain ⟨ns, hi, rfl, hb⟩ := sum_ints hv et
  have hlen : ns.length = xs.length := by rw [← hi.length, hv.length]
  exact call_sum hm.hd (hk_sub hl) hi hb (by rw [hlen]; exact hfew) fun t s' k' => q _ _ (k₁.trans k') (by simp [Rd])
theorem ev_int (H : SndE prog w B n R) (hm : Rm A n) (h : EOk B env σ hid s) {f : Str} {p p' : Pos} {es : List Expr} {i : Int} (g : env.kindOf f = some .globalImplicit) (hf : f = Str.ofString "int") (hne : es ≠ [])
    (e : mapO (R.ev env.scope.names σ) es = some [.int i]) : PD prog w A hid s (eval (.Call (.Name f p) es [] p') env) (.int i) := fun Q E q => by
  subst hf
  refine call_ty H hm h g B.int hne e fun vs s₁ k₁ r₁ => ?_
  simp only [RdL] at r₁
  obtain ⟨v, r, rfl, h1, rfl⟩ := r₁
  obtain ⟨t, rfl⟩ := rd_int h1
  exact call_int_int (q _ _ k₁ (by simp [Rd]))
theorem ev_sorted (HS : SortOk prog w P) (H : SndE prog w B n R) (hm : Rm A n) (h : EOk B env σ hid s) {f : Str} {p p' : Pos} {es : List Expr} {xs ys : List PyData} (g : env.kindOf f = some .globalImplicit) (hf : f = Str.ofString "sorted") (hne : es ≠ [])
    (e : mapO (R.ev env.scope.names σ) es = some [.list xs]) (et : P.sortD xs = some ys) : PD prog w A hid s (eval (.Call (.Name f p) es [] p') env) (.list ys) := fun Q E q => by
  subst hf
  refine call_bi H hm h g B.sorted hne e fun vs s₁ k₁ r₁ => ?_
  simp only [RdL] at r₁
  obtain ⟨v, r, rfl, h1, rfl⟩ := r₁
  exact HS hm (h.hids.keeps k₁) h1 et _ _ fun v s₂ k₂ r₂ => q v s₂ (k₁.trans k₂) r₂
theorem meth_few {e : Expr} {p : Pos} {d : PyData} {sc : Sc} (H : SndE prog w B n R) (e1 : R.ev sc σ e = some d) :
    ((backTo p (starEach [e] env)).all (fun x => !x.1) && (backToKw p (keywordEach [] env)).all (fun x => x.1.isSome) && decide ([e].length + ([] : List Keyword).length + (if ([] : List Keyword).isEmpty then 0 else 1) < 30)) = true := by
  rw [starEach_cons (H.notStar e1)]; rfl
theorem meth_args {e : Expr} {p : Pos} {d : PyData} {sc : Sc} (H : SndE prog w B n R) (e1 : R.ev sc σ e = some d) : backTo p (starEach [e] env) = [(false, eval e env)] := by
  rw [starEach_cons (H.notStar e1)]; rfl
theorem join_cases (ts : List Str) (sep : Str) : Txt.join sep ts = Str.join sep ts := by first | exact StrLaws.glued_eq_join sep ts | exact Str.glued_eq_join sep ts | exact PySem.Builtin.Str.glued_eq_join sep ts
theorem ev_join (H : SndE prog w B n R) (hm : Rm A n) (h : EOk B env σ hid s) {sep m : Str} {c : Nat} {p0 ap p : Pos} {e : Expr} {xs : List PyData} {ts : List Str} (hmn : isNm m "join" = true) (hs : sep.length = 0) (hl : (ap.endLine == p.line) = true)
    (e1 : R.ev env.scope.names σ e = some (.list xs)) (hfew : few xs.length = true) (et : strsD xs = some ts) (hw : few ((ts.map (·.length)).sum + ts.length) = true) :
    PD prog w A hid s (eval (.Call (.Attribute (.Constant (.str sep) c p0) m ap) [e] [] p) env) (.str (Str.join sep ts)) := fun Q E q => by
  have := isNm_eq hmn
  subst this
  refine wpAny_Call_method (T := "str") (id := "str.join") rfl (meth_few H e1) hl F.plainAttrs_str F.slot_str_join F.type_str_join (wpAny_Constant_str ⟨typeIs_str _ _ _, (fun a q => by cases q), ?_⟩)
  rw [meth_args H e1]
  refine Calls.callWith_builtin rfl (evalArgs_plain (spliced_cons (H.ev hm (h.kp Kp.tok) e1 _ _ fun v s₁ k₁ r₁ => spliced_nil ?_)))
  obtain ⟨l, vs, k, rfl, hl, hv⟩ := rd_list r₁
  have := few_le' hw
  refine PyProof.Rows.join_listW (items := vs.toArray) ⟨_, hk_sub hl, rfl, _, rfl⟩ (by simpa using strs_are hv et) (by omega) (by omega) fun t' k => ?_
  rw [join_cases ts sep]
  exact q _ _ ((Kp.tok.trans k₁).trans Kp.tok) (by simp [Rd])
theorem count_rd {K : KM} {h : Heap} (hK : ∀ a o, K a = some o → h.get? a = some o) : ∀ {xs : List PyData} {vs : List Value}, RdL K xs vs → ∀ i (hi : i < vs.length), ∃ (hx : i < xs.length) , Rd K xs[i] vs[i]
  | [], vs, r, i, hi => by simp only [RdL] at r; subst r; simp at hi
  | d :: ds, vs, r, i, hi => by
    simp only [RdL] at r
    obtain ⟨v, rest, rfl, h1, h2⟩ := r
    cases i with
    | zero => exact ⟨by simp, h1⟩
    | succ i =>
      obtain ⟨hx, hr⟩ := count_rd hK h2 i (by simpa using hi)
      exact ⟨by simpa using hx, by simpa using hr⟩
theorem lObj_inj {vs us : List Value} {a b : Nat} (h : lObj vs a = lObj us b) : vs = us := by
  simp only [lObj, Obj.mk.injEq, Data.seq.injEq] at h
  have := h.2.2.1.1
  simpa using congrArg Array.toList this
theorem tObj_inj {vs us : List Value} {a b : Nat} (h : tObj vs a = tObj us b) : vs = us := by
  simp only [tObj, Obj.mk.injEq, Data.seq.injEq] at h
  have := h.2.2.1.1
  simpa using congrArg Array.toList this
theorem ltObj_ne {vs us : List Value} {a b : Nat} : lObj vs a ≠ tObj us b := by
  intro h
  simp [lObj, tObj] at h
mutual
theorem rd_fun {K : KM} : ∀ (d d' : PyData) (v : Value), Rd K d v → Rd K d' v → d = d'
  | .none, d', v, r, r' => by
    simp only [Rd] at r; subst r
    cases d' <;> simp [Rd] at r' <;> rfl
  | .bool b, d', v, r, r' => by
    simp only [Rd] at r; subst r
    cases d' <;> simp [Rd] at r'
    rw [r']
  | .int i, d', v, r, r' => by
    simp only [Rd] at r; obtain ⟨t, rfl⟩ := r
    cases d' <;> simp [Rd] at r'
    rw [r']
  | .str x, d', v, r, r' => by
    simp only [Rd] at r; obtain ⟨t, rfl⟩ := r
    cases d' <;> simp [Rd] at r'
    rw [r']
  | .list xs, d', v, r, r' => by
    simp only [Rd] at r
    obtain ⟨a, vs, n, rfl, ha, hv⟩ := r
    cases d' with
    | list ys =>
      simp only [Rd] at r'
      obtain ⟨a', vs', n', e, ha', hv'⟩ := r'
      cases e
      rw [ha] at ha'
      have := lObj_inj (Option.some.inj ha')
      subst this
      rw [rdL_fun xs ys vs hv hv']
    | tuple ys =>
      simp only [Rd] at r'
      obtain ⟨a', vs', n', e, ha', hv'⟩ := r'
      cases e
      rw [ha] at ha'
      exact absurd (Option.some.inj ha') ltObj_ne
    | _ => simp [Rd] at r'
  | .tuple xs, d', v, r, r' => by
    simp only [Rd] at r
    obtain ⟨a, vs, n, rfl, ha, hv⟩ := r
    cases d' with
    | tuple ys =>
      simp only [Rd] at r'
      obtain ⟨a', vs', n', e, ha', hv'⟩ := r'
      cases e
      rw [ha] at ha'
      have := tObj_inj (Option.some.inj ha')
      subst this
      rw [rdL_fun xs ys vs hv hv']
    | list ys =>
      simp only [Rd] at r'
      obtain ⟨a', vs', n', e, ha', hv'⟩ := r'
      cases e
      rw [ha] at ha'
      exact absurd (Option.some.inj ha').symm ltObj_ne
    | _ => simp [Rd] at r'
  | .dict _, _, _, r, _ => by simp only [Rd] at r
theorem rdL_fun {K : KM} : ∀ (ds ds' : List PyData) (vs : List Value), RdL K ds vs → RdL K ds' vs → ds = ds'
  | [], ds', vs, r, r' => by
    simp only [RdL] at r; subst r
    cases ds' with
    | nil => rfl
    | cons _ _ => simp only [RdL] at r'; obtain ⟨_, _, e, _⟩ := r'; cases e
  | d :: ds, ds', vs, r, r' => by
    simp only [RdL] at r
    obtain ⟨v, rest, rfl, h1, h2⟩ := r
    cases ds' with
    | nil => simp only [RdL] at r'; cases r'
    | cons d' ds' =>
      simp only [RdL] at r'
      obtain ⟨v', rest', e, h1', h2'⟩ := r'
      cases e
      rw [rd_fun d d' v h1 h1', rdL_fun ds ds' rest h2 h2']
end
theorem ev_count (H : SndE prog w B n R) (hm : Rm A n) (h : EOk B env σ hid s) {x m : Str} {p0 ap p : Pos} {e : Expr} {xs : List PyData} {k : PyData} (hmn : isNm m "count" = true) (hl : (ap.endLine == p.line) = true)
    (ex : σ.lookup x = some (.list xs)) (e1 : R.ev env.scope.names σ e = some k) (hfew : few xs.length = true) (hs : xs.all shaped' = true) (hk' : shaped' k = true) :
    PD prog w A hid s (eval (.Call (.Attribute (.Name x p0) m ap) [e] [] p) env) (.int (xs.countP fun y => PyData.eqv y k)) := fun Q E q => by
  have := isNm_eq hmn
  subst this
  refine wpAny_Call_method (T := "list") (id := "list.count") rfl (meth_few H e1) hl F.plainAttrs_list F.slot_list_count F.type_list_count (pd_name h ex _ _ fun v s₁ k₁ r₁ => ?_)
  obtain ⟨l, vs, c, rfl, hl, hv⟩ := rd_list r₁
  refine ⟨typeIs_list (hk_sub hl), fun a q => ⟨_, by cases q; exact hk_sub hl, rfl⟩, ?_⟩
  rw [meth_args H e1]
  refine Calls.callWith_builtin rfl (evalArgs_plain (spliced_cons (H.ev hm (h.kp k₁) e1 _ _ fun v s₂ k₂ r₂ => spliced_nil ?_)))
  have hv2 := hv.keeps k₂
  obtain ⟨bs, rk⟩ := Rd.reads (fun _ _ => hk_sub) _ _ r₂
  have key : ∀ i (hi : i < vs.length), ∃ hx : i < xs.length, SeqAt.EqAt A.in1 s₂ vs[i] v (PyData.eqv xs[i] k) := fun i hi => by
    obtain ⟨hx, hr⟩ := count_rd (K := hk hid s₂.heap) (fun _ _ => hk_sub) hv2 i hi
    obtain ⟨as, ra⟩ := Rd.reads (fun _ _ => hk_sub) _ _ hr
    have hsx := List.all_eq_true.mp hs xs[i] (List.getElem_mem hx)
    refine ⟨hx, SeqAt.eqAt_reads _ _ _ _ _ _ as bs ra rk (SeqAt.canLay_of_shaped hsx) (SeqAt.canLay_of_shaped hk') (SeqAt.room_of_shaped hsx ?_)⟩
    show A.units + 1 + 64 < cLine
    have := hm.un; omega
  classical
  let e' : Value → Bool := fun y => decide (∃ (i : Nat) (hi : i < xs.length), vs[i]? = some y ∧ PyData.eqv xs[i] k = true)
  have he : ∀ i (hi : i < vs.length), ∃ hx : i < xs.length, e' vs[i] = PyData.eqv xs[i] k := fun i hi => by
    obtain ⟨hx, hr⟩ := count_rd (K := hk hid s₂.heap) (fun _ _ => hk_sub) hv2 i hi
    refine ⟨hx, ?_⟩
    cases hb : PyData.eqv xs[i] k with
    | true => exact decide_eq_true ⟨i, hx, by simp, hb⟩
    | false =>
      refine decide_eq_false ?_
      rintro ⟨j, hj, hj1, hj2⟩
      have hjl : j < vs.length := by rw [hv2.length]; exact hj
      obtain ⟨_, hrj⟩ := count_rd (K := hk hid s₂.heap) (fun _ _ => hk_sub) hv2 j hjl
      have hvj : vs[j] = vs[i] := by
        rw [List.getElem?_eq_getElem hjl] at hj1; exact Option.some.inj hj1
      rw [hvj] at hrj
      have := rd_fun _ _ _ hr hrj
      rw [← this, hb] at hj2; cases hj2
  have hmap : vs.map e' = xs.map fun y => PyData.eqv y k := by
    apply List.ext_getElem
    · simp [hv2.length]
    · intro i h1 h2
      simp only [List.length_map] at h1 h2
      obtain ⟨hx, h3⟩ := he i h1
      simpa using h3
  have hcount : vs.countP e' = xs.countP fun y => PyData.eqv y k := by
    have h1 := List.countP_map (p := fun b => b) (f := e') (l := vs)
    have h2 := List.countP_map (p := fun b => b) (f := fun y => PyData.eqv y k) (l := xs)
    rw [hmap] at h1
    rw [h1] at h2
    simpa [Function.comp_def] using h2
  have hl2 := k₂.get (hk_sub hl)
  refine call_meets F.slot_list_count (typeIs_list hl2) F.entry_list_count (F.args_list_count_2 _ _) (SeqAt.list_countAt l vs.toArray c none #[] v e') ⟨hl2, fun y hy => ?_, ?_⟩
  · obtain ⟨i, hi, rfl⟩ := List.getElem_of_mem (show y ∈ vs by simpa using hy)
    obtain ⟨hx, h1⟩ := key i hi
    obtain ⟨_, h2⟩ := he i hi
    rw [h2]; exact h1
  · show Q (.int ((vs.countP e' : Nat) : Int) _) _
    rw [hcount]
    exact q _ _ (k₁.trans (k₂.trans Kp.tok)) (by simp [Rd])
end
end Mine
/-! part 14 -/
set_option maxRecDepth 100000
namespace Mine
open PySem PySem.Calls PyProof.Rows PySem.W
section
variable {prog : Program} {w : World} {B : Bt} {A : Around} {hid : List Addr} {s : Shared} {env : Env} {σ : Sig} {n : Nat} {R : Ip} {P : Prims}
theorem notSetE_ok {e : Expr} (h : notSetE e = true) : ∀ es k p, e ≠ .Set es k p := by
  rintro es k p rfl; cases h
theorem ev_comp2 {x y : Str} {p q : Pos} {i1 i2 elt : Expr} {sc : Scope} {pos : Pos} {tu : Bool} {items ds : List PyData} (H : SndE prog w B n R) (hm : Rm A n) (h : EOk B env σ hid s) (hs : okScope sc = true) (hf : freesIn env.scope.names sc = true)
    (hxy : (x != y) = true) (hns : notSetE i2 = true) (es : R.src env.scope.names σ i1 = some (tu, items)) (ht : fitT tu (.Name x p) = true) (e : compGo2 R (relabelN sc.names env.scope.names) (frees sc σ) x y p q i2 elt items = some ds) :
    PD prog w A hid s (eval (.ListComp elt [⟨.Name x p, i1, [], 0⟩, ⟨.Name y q, i2, [], 0⟩] sc pos) env) (.list ds) := fun Q E qq => by
  rw [arm_eval_ListComp]
  refine comp_core hm h hs hf (H.src hm h es) (fun I wr K₀ St C D c s₀ m Rr F ca st hn hD hR => comp_loop2 H hm h hs hf hxy F ht (fold_plain (notSetE_ok hns)) (compGo2_length e) e ca st hn hD hR) fun C D s' m k C0 _ hn r => ?_
  exact comp_val (e := elt) (tgt := elt) (iter := elt) (elt := elt) (ifs := []) (more := []) (sc := sc) (pos := pos) (tu := tu) (items := items) qq k C0 hn r
theorem find_isNm {f m : Str} {l : List String} {x : String} (h : l.find? (isNm f) = some x) : f = Str.ofString x ∧ x ∈ l := ⟨isNm_eq (List.find?_some h), List.mem_of_find?_eq_some h⟩
theorem bfn_step {b : String} {ds : List PyData} {d : PyData} (HS : SortOk prog w P) (H : SndE prog w B n R) (hm : Rm A n) (h : EOk B env σ hid s) {f : Str} {p q : Pos} {as : List Expr} (hg : glob env.scope.names σ f = true) (hfb : f = Str.ofString b) (hne : as ≠ []) (e1 : mapO (R.ev env.scope.names σ) as = some ds) (x : bfn P b ds = some d) :
    PD prog w A hid s (eval (.Call (.Name f p) as [] q) env) d := by
  unfold bfn at x
  split at x
  · rename_i d0
    unfold bfn1 at x
    split at x
    · rename_i hb
      subst hb
      simp only [Option.map_eq_some_iff] at x
      obtain ⟨i, e2, rfl⟩ := x
      obtain rfl := vInt_eq e2
      exact ev_int H hm h (kindOf_glob hg) hfb hne e1
    · simp only [Option.bind_eq_some_iff] at x
      obtain ⟨xs, e2, x⟩ := x
      obtain rfl := vLst_eq e2
      split at x
      · rename_i hb
        subst hb
        split at x
        · rename_i hf
          cases x
          exact ev_len H hm h (kindOf_glob hg) hfb hne e1 hf
        · cases x
      · split at x
        · rename_i hb
          subst hb
          split at x
          · rename_i hf
            simp only [Option.map_eq_some_iff] at x
            obtain ⟨t, et, rfl⟩ := x
            exact ev_sum H hm h (kindOf_glob hg) hfb hne e1 hf et
          · cases x
        · split at x
          · rename_i hb
            subst hb
            simp only [Option.map_eq_some_iff] at x
            obtain ⟨ys, et, rfl⟩ := x
            exact ev_sorted HS H hm h (kindOf_glob hg) hfb hne e1 et
          · cases x
  · cases x
theorem ncall_step (HS : SortOk prog w P) (H : SndE prog w B n R) (hm : Rm A n) (h : EOk B env σ hid s) {f : Str} {p q : Pos} {as : List Expr} {d : PyData} (x : evNCall P R env.scope.names σ f as = some d) :
    PD prog w A hid s (eval (.Call (.Name f p) as [] q) env) d := by
  unfold evNCall at x
  split at x
  · cases x
  · rename_i hg
    have hg : glob env.scope.names σ f = true := by
      cases e : glob env.scope.names σ f with
      | true => rfl
      | false => rw [e] at hg; exact absurd rfl hg
    split at x
    · rename_i hl
      unfold evLR at x
      split at x
      · rename_i a
        simp only [Option.bind_eq_some_iff] at x
        obtain ⟨c, hc, x⟩ := x
        split at x
        · rename_i hgr
          have hgr := Bool.and_eq_true_iff.mp hgr
          simp only [Option.bind_eq_some_iff, Option.map_eq_some_iff] at x
          obtain ⟨ds, e1, items, er, rfl⟩ := x
          obtain ⟨p2, r2, rfl⟩ := vNCall_eq hc
          exact ev_list_range H hm h (kindOf_glob hg) hl (kindOf_glob hgr.1) hgr.2 e1 er
        · cases x
      · cases x
    · split at x
      · cases x
      · rename_i hne
        have hne : as ≠ [] := fun q => hne (List.isEmpty_iff.mpr q)
        simp only [Option.bind_eq_some_iff] at x
        obtain ⟨ds, e1, x⟩ := x
        split at x
        · rename_i b hb
          exact bfn_step HS H hm h hg (find_isNm (m := f) hb).1 hne e1 x
        · exact call_fn H hm h (kindOf_glob hg) hne e1 x
theorem call_step (HS : SortOk prog w P) (H : SndE prog w B n R) (hm : Rm A n) (h : EOk B env σ hid s) {f : Expr} {as : List Expr} {ks : List Keyword} {p : Pos} {d : PyData} (x : evCall P R env.scope.names σ f as ks p = some d) :
    PD prog w A hid s (eval (.Call f as ks p) env) d := by
  unfold evCall at x
  split at x
  · rename_i hk
    obtain rfl := List.isEmpty_iff.mp hk
    split at x
    · rename_i g hg
      obtain rfl := vName_eq hg
      exact ncall_step HS H hm h x
    · simp only [Option.bind_eq_some_iff] at x
      obtain ⟨a, ha, x⟩ := x
      obtain rfl := vAttr_eq ha
      split at x
      · rename_i c hc
        obtain ⟨k, p1, e⟩ := vConst_eq hc
        rw [e]
        unfold evJoin at x
        simp only [Option.bind_eq_some_iff] at x
        obtain ⟨sep, hs, x⟩ := x
        obtain rfl := vStrC_eq hs
        split at x
        · split at x
          · rename_i hc
            simp only [Bool.and_eq_true] at hc
            simp only [Option.bind_eq_some_iff] at x
            obtain ⟨dv, e1, xs, hv, x⟩ := x
            obtain rfl := vLst_eq hv
            split at x
            · rename_i hf
              simp only [Option.bind_eq_some_iff] at x
              obtain ⟨ts, et, x⟩ := x
              split at x
              · rename_i hw
                cases x
                exact ev_join H hm h hc.1.1 (eq_of_beq hc.1.2) hc.2 e1 hf et hw
              · cases x
            · cases x
          · cases x
        · cases x
      · simp only [Option.bind_eq_some_iff] at x
        obtain ⟨y, hy, x⟩ := x
        rw [vName_eq hy]
        unfold evCount at x
        split at x
        · split at x
          · rename_i hc
            simp only [Bool.and_eq_true] at hc
            simp only [Option.bind_eq_some_iff] at x
            obtain ⟨dv, e0, k, e1, xs, hv, x⟩ := x
            obtain rfl := vLst_eq hv
            split at x
            · rename_i hf
              simp only [Bool.and_eq_true] at hf
              cases x
              exact ev_count H hm h hc.1 hc.2 e0 e1 hf.1.1 hf.1.2 hf.2
            · cases x
          · cases x
        · cases x
  · cases x
theorem comp_step (H : SndE prog w B n R) (hm : Rm A n) (h : EOk B env σ hid s) {elt : Expr} {gens : List Comprehension} {sc : Scope} {d : PyData} (x : evComp R env.scope.names σ elt gens sc = some d) :
    (∃ tgt iter ifs tu items ds, gens = [⟨tgt, iter, ifs, 0⟩] ∧ okScope sc = true ∧ freesIn env.scope.names sc = true ∧ R.src env.scope.names σ iter = some (tu, items) ∧ fitT tu tgt = true ∧ few items.length = true ∧ compGo R (relabelN sc.names env.scope.names) (frees sc σ) tgt ifs elt items = some ds ∧ d = .list ds) ∨
    ∃ x y p q i1 i2 tu items ds, gens = [⟨.Name x p, i1, [], 0⟩, ⟨.Name y q, i2, [], 0⟩] ∧ okScope sc = true ∧ freesIn env.scope.names sc = true ∧ (x != y) = true ∧ notSetE i2 = true ∧ R.src env.scope.names σ i1 = some (tu, items) ∧ fitT tu (.Name x p) = true ∧ compGo2 R (relabelN sc.names env.scope.names) (frees sc σ) x y p q i2 elt items = some ds ∧ d = .list ds := by
  unfold evComp at x
  split at x
  · rename_i g
    obtain ⟨t, i, f, a⟩ := g
    split at x
    · rename_i hc
      simp only [Bool.and_eq_true, beq_iff_eq] at hc
      obtain ⟨⟨h1, h2⟩, rfl⟩ := hc
      simp only [Option.bind_eq_some_iff] at x
      obtain ⟨⟨tu, items⟩, es, x⟩ := x
      split at x
      · rename_i hf
        have hf := Bool.and_eq_true_iff.mp hf
        simp only [Option.map_eq_some_iff] at x
        obtain ⟨ds, e1, rfl⟩ := x
        exact .inl ⟨_, _, _, _, _, _, rfl, h1, h2, es, hf.1, hf.2, e1, rfl⟩
      · cases x
    · cases x
  · rename_i g k
    simp only [Option.bind_eq_some_iff] at x
    obtain ⟨a, ha, b, hb, x⟩ := x
    obtain ⟨t1, i1, f1, a1⟩ := g
    obtain ⟨t2, i2, f2, a2⟩ := k
    obtain rfl := vName_eq ha
    obtain rfl := vName_eq hb
    split at x
    · rename_i hc
      simp only [Bool.and_eq_true, beq_iff_eq, List.isEmpty_iff] at hc
      obtain ⟨⟨⟨⟨⟨⟨⟨h1, h2⟩, h3⟩, h4⟩, rfl⟩, rfl⟩, rfl⟩, rfl⟩ := hc
      simp only [Option.bind_eq_some_iff] at x
      obtain ⟨⟨tu, items⟩, es, x⟩ := x
      split at x
      · rename_i hf
        have hf := Bool.and_eq_true_iff.mp hf
        simp only [Option.map_eq_some_iff] at x
        obtain ⟨ds, e1, rfl⟩ := x
        exact .inr ⟨_, _, _, _, _, _, _, _, _, rfl, h1, h2, h3, h4, es, hf.1, e1, rfl⟩
      · cases x
    · cases x
  · cases x
theorem sub_step (H : SndE prog w B n R) (hm : Rm A n) (h : EOk B env σ hid s) {v i : Expr} {p : Pos} {d : PyData} (x : evSub R env.scope.names σ v i = some d) : PD prog w A hid s (eval (.Subscript v i p) env) d := by
  unfold evSub at x
  split at x
  · rename_i q hq
    obtain ⟨p2, rfl⟩ := vSlice_eq hq
    simp only [Option.bind_eq_some_iff] at x
    obtain ⟨dv, ev, a, ea, b, eb, c, ec, ka, pa, kb, pb, kc, pc, x⟩ := x
    exact ev_slice H hm h ev ea eb ec pa pb pc x
  · simp only [Option.bind_eq_some_iff] at x
    obtain ⟨dv, ev, k, ek, xs, hv, j, hk, x⟩ := x
    obtain rfl := vLst_eq hv
    obtain rfl := vInt_eq hk
    split at x
    · rename_i hf
      exact ev_item H hm h ev ek hf x
    · cases x
theorem ev_step (HS : SortOk prog w P) (H : SndE prog w B n R) (hm : Rm A n) (h : EOk B env σ hid s) {e : Expr} {d : PyData} (x : evS P R env.scope.names σ e = some d) : PD prog w A hid s (eval e env) d := by
  cases e with
  | Constant c k p => exact pd_const x
  | Name y p => exact pd_name h x
  | BinOp l op r p =>
    obtain ⟨a, ea, x⟩ := Option.bind_eq_some_iff.mp (show ((R.ev env.scope.names σ l).bind _) = some d from x)
    obtain ⟨b, eb, x⟩ := Option.bind_eq_some_iff.mp x
    exact ev_bin H hm h ea eb x
  | UnaryOp op y p =>
    replace x : evUn R env.scope.names σ op y = some d := x
    cases op with
    | USub =>
      obtain ⟨a, ea, x⟩ := Option.bind_eq_some_iff.mp (show ((R.ev env.scope.names σ y).bind _) = some d from x)
      obtain ⟨i, hi, x⟩ := Option.bind_eq_some_iff.mp x
      cases x
      obtain rfl := vInt_eq hi
      exact ev_neg H hm h ea
    | _ => cases x
  | BoolOp op es p =>
    replace x : evBool R env.scope.names σ op es = some d := x
    unfold evBool at x
    split at x
    · split at x
      · obtain ⟨a, ea, x⟩ := Option.bind_eq_some_iff.mp x
        cases a with
        | bool b => exact ev_and H hm h ea (fun q => by subst q; exact x) fun q => by subst q; cases x; rfl
        | _ => cases x
      · cases x
    · cases x
  | IfExp t a b p =>
    obtain ⟨c, ec, x⟩ := Option.bind_eq_some_iff.mp (show ((R.tst env.scope.names σ t).bind _) = some d from x)
    exact ev_if H hm h ec (fun q => by subst q; exact x) fun q => by subst q; exact x
  | Compare l ops rs p =>
    obtain ⟨q, hq, x⟩ := Option.bind_eq_some_iff.mp (show (cmp1 ops rs).bind _ = some d from x)
    obtain ⟨a, ea, x⟩ := Option.bind_eq_some_iff.mp x
    obtain ⟨b, eb, x⟩ := Option.bind_eq_some_iff.mp x
    obtain ⟨c, ec, rfl⟩ := Option.map_eq_some_iff.mp x
    obtain ⟨rfl, rfl⟩ := cmp1_eq hq
    exact ev_cmp H hm h ea eb ec
  | List es p =>
    replace x : (if few es.length = true then (mapO (R.ev env.scope.names σ) es).map PyData.list else none) = some d := x
    split at x
    · rename_i hf
      obtain ⟨ds, e1, rfl⟩ := Option.map_eq_some_iff.mp x
      exact ev_list H hm h hf e1
    · cases x
  | Tuple es c p =>
    replace x : (if few es.length = true then (mapO (R.ev env.scope.names σ) es).map PyData.tuple else none) = some d := x
    split at x
    · rename_i hf
      obtain ⟨ds, e1, rfl⟩ := Option.map_eq_some_iff.mp x
      exact ev_tuple H hm h hf e1
    · cases x
  | Subscript v i p => exact sub_step H hm h x
  | Call f as ks p => exact call_step HS H hm h x
  | ListComp elt gens sc p =>
    rcases comp_step H hm h x with ⟨tgt, iter, ifs, tu, items, ds, rfl, h1, h2, es, h3, h4, e1, rfl⟩ | ⟨y, z, p, q, i1, i2, tu, items, ds, rfl, h1, h2, h3, h4, es, h5, e1, rfl⟩
    · exact ev_comp H hm h h1 h2 es h3 h4 e1
    · exact ev_comp2 H hm h h1 h2 h3 h4 es h5 e1
  | _ => cases x
theorem pbd_val {e : Expr} {b : Bool} {whole : Sem Value} (hw : PD prog w A hid s whole (.bool b)) (hp : isTrue e env whole = do let v ← whole; standAt e.pos; holding [v] (truthy v)) : PBd prog w A s (isTrue e env whole) b := fun Q E q => by
  refine isTrue_plain (hw _ _ fun v s₁ k₁ r₁ => ?_) hp
  have : v = .bool b := by simpa only [Rd] using r₁
  subst this
  exact wpAny_truthy_bool (q s₁ k₁)
theorem tst_step (H : SndE prog w B n R) (hm : Rm A n) (h : EOk B env σ hid s) {e : Expr} {b : Bool} (x : tstS R env.scope.names σ e = some b) : PBd prog w A s (isTrue e env (eval e env)) b := by
  cases e with
  | Compare l ops rs p =>
    obtain ⟨q, hq, x1⟩ := Option.bind_eq_some_iff.mp (show (cmp1 ops rs).bind _ = some b from x)
    obtain ⟨a, ea, x1⟩ := Option.bind_eq_some_iff.mp x1
    obtain ⟨c, eb, x1⟩ := Option.bind_eq_some_iff.mp x1
    obtain ⟨rfl, rfl⟩ := cmp1_eq hq
    exact tst_cmp H hm h ea eb x1
  | UnaryOp op y p =>
    replace x : tstUn R env.scope.names σ op y = some b := x
    cases op with
    | Not =>
      obtain ⟨a, ea, rfl⟩ := Option.map_eq_some_iff.mp (show (R.tst env.scope.names σ y).map _ = some b from x)
      intro Q E q
      exact wpAny_isTrue_Not (H.tst hm h ea _ _ fun s₁ k₁ => q s₁ k₁)
    | _ => cases x
  | Call f as ks p =>
    obtain ⟨a, ea, x⟩ := Option.bind_eq_some_iff.mp (show (R.ev env.scope.names σ (.Call f as ks p)).bind _ = some b from x)
    obtain rfl := vBool_eq x
    exact pbd_val (H.ev hm h ea) rfl
  | BoolOp op es p =>
    replace x : tstBool R env.scope.names σ op es = some b := x
    unfold tstBool at x
    split at x
    · split at x
      · obtain ⟨a, ea, x⟩ := Option.bind_eq_some_iff.mp x
        intro Q E q
        refine wpAny_isTrue_BoolOp (wpAny_allTrue_Or_cons (H.tst hm h ea _ _ fun s₁ k₁ => ?_))
        cases a with
        | true => cases x; rw [if_pos rfl]; exact q s₁ k₁
        | false =>
          rw [if_neg Bool.false_ne_true]
          refine wpAny_allTrue_Or_cons (H.tst hm (h.kp k₁) x _ _ fun s₂ k₂ => ?_)
          cases b with
          | true => rw [if_pos rfl]; exact q s₂ (k₁.trans k₂)
          | false => rw [if_neg Bool.false_ne_true]; exact wpAny_allTrue_Or_nil (q s₂ (k₁.trans k₂))
      · cases x
    · cases x
  | _ => cases x
end
end Mine
/-! part 15 -/
set_option maxRecDepth 100000
namespace Mine
open PySem PySem.Calls PyProof.Rows PySem.W
/-- what a name's slot says of its value -/
noncomputable def SlotV (own hid : List Addr) (sl : Slot) (v : Value) (s : Shared) : Prop := match sl with
  | .sh d => Rd (hk (own ++ hid) s.heap) d v
  | .ow ds => ∃ a vs c, v = .ref a ∧ a ∈ own ∧ s.heap.get? a = some (lObj vs c) ∧ RdL (hk (own ++ hid) s.heap) ds vs
/-- a def's frame amid its run: begun in s₀, its own lists at own -/
structure FOk (B : Bt) (env : Env) (st : Sto) (hid own : List Addr) (s₀ s : Shared) : Prop where
  kp : Kp s₀ s
  base0 : Bs B s₀
  hids : HidOk hid s
  apo : ∀ a ∈ own, a ∉ hid
  kind : env.scope.kind = .function
  gl : env.globals = mainGlobals
  bl : env.builtins = builtinsNs
  nodbg : env.kindOf "__debug__" = none ∧ env.kindOf "__classdict__" = none
  nofree : ∀ x, env.kindOf x ≠ some .free
  L0 : s₀.heap.get? env.locals = none
  ns : ∃ m, s.heap.Ns env.locals m
  cells : ∀ x, env.kindOf x = some .cell → ∃ c, env.cells.lookup x = some c
  cell : ∀ x c, env.cells.lookup x = some c → s₀.heap.get? c = none ∧ ∃ v, s.heap.IsCell c v
  apart : ∀ x y c, env.cells.lookup x = some c → env.cells.lookup y = some c → x = y
  owns : ∀ a ∈ own, s₀.heap.get? a = none ∧ ∃ vs c, s.heap.get? a = some (lObj vs c)
  slots : ∀ x sl, st.lookup x = some sl → ∃ v, NmAt env x v s ∧ SlotV own hid sl v s
  dist : ∀ x y ds es a, x ≠ y → st.lookup x = some (.ow ds) → st.lookup y = some (.ow es) → NmAt env x (.ref a) s → NmAt env y (.ref a) s → False
  nd : (st.map (·.1)).Nodup
  cnd : (env.cells.map (·.1)).Nodup
theorem FOk.base {B : Bt} {env : Env} {st : Sto} {hid own : List Addr} {s₀ s : Shared} (F : FOk B env st hid own s₀ s) : Bs B s := F.base0.kp F.kp
theorem FOk.new0 {B : Bt} {env : Env} {st : Sto} {hid own : List Addr} {s₀ s : Shared} (F : FOk B env st hid own s₀ s) {a : Addr} (h : s₀.heap.get? a = none) : B.h.get? a = none := by
  cases e : B.h.get? a with
  | none => rfl
  | some o => rw [F.base0 a o e] at h; cases h
noncomputable def frW (env : Env) (own : List Addr) : List Addr := env.locals :: (env.cells.map (·.2) ++ own)
/-- a step of a frame -/
structure Go (B : Bt) (env : Env) (hid : List Addr) (s₀ : Shared) (own : List Addr) (s : Shared) (st' : Sto) (own' : List Addr) (s' : Shared) : Prop where
  F : FOk B env st' hid own' s₀ s'
  fw : Fw (frW env own) s s'
  sub : ∀ a ∈ own', a ∈ own ∨ s.heap.get? a = none
  dom : ∀ a, s'.heap.get? a = none → s.heap.get? a = none
noncomputable def Post (B : Bt) (env : Env) (hid : List Addr) (s₀ : Shared) (own : List Addr) (s : Shared) (out : Out) (f : Flow) (s' : Shared) : Prop := match out with
  | .next st' => f = .next ∧ ∃ own', Go B env hid s₀ own s st' own' s'
  | .ret d => ∃ v, f = .ret v ∧ Rd (hk hid s'.heap) d v ∧ Fw (frW env own) s s' ∧ Kp s₀ s'
theorem Go.trans {B : Bt} {env : Env} {hid own own₁ own₂ : List Addr} {s₀ s s₁ s₂ : Shared} {st₁ st₂ : Sto} (g : Go B env hid s₀ own s st₁ own₁ s₁) (h : Go B env hid s₀ own₁ s₁ st₂ own₂ s₂) : Go B env hid s₀ own s st₂ own₂ s₂ where
  F := h.F
  fw := by
    have a1 : Fw (frW env (own ++ own₁)) s s₁ := g.fw.mono fun a ha => by
      simp only [frW, List.mem_cons, List.mem_append] at ha ⊢
      rcases ha with x | x | x
      · exact .inl x
      · exact .inr (.inl x)
      · exact .inr (.inr (.inl x))
    have a2 : Fw (frW env (own ++ own₁)) s₁ s₂ := h.fw.mono fun a ha => by
      simp only [frW, List.mem_cons, List.mem_append] at ha ⊢
      rcases ha with x | x | x
      · exact .inl x
      · exact .inr (.inl x)
      · exact .inr (.inr (.inr x))
    refine (a1.trans a2).drop fun a ha => ?_
    simp only [frW, List.mem_cons, List.mem_append] at ha ⊢
    rcases ha with x | x | x | x
    · exact .inl (.inl x)
    · exact .inl (.inr (.inl x))
    · exact .inl (.inr (.inr x))
    · rcases g.sub a x with q | q
      · exact .inl (.inr (.inr q))
      · exact .inr q
  sub := fun a ha => by
    rcases h.sub a ha with q | q
    · exact g.sub a q
    · exact .inr (g.dom a q)
  dom := fun a ha => g.dom a (h.dom a ha)
theorem Go.post {B : Bt} {env : Env} {hid own own₁ : List Addr} {s₀ s s₁ s₂ : Shared} {st₁ : Sto} {o : Out} {f : Flow} (g : Go B env hid s₀ own s st₁ own₁ s₁) (h : Post B env hid s₀ own₁ s₁ o f s₂) : Post B env hid s₀ own s o f s₂ := by
  cases o with
  | next st₂ => obtain ⟨rfl, own₂, h⟩ := h; exact ⟨rfl, own₂, g.trans h⟩
  | ret d =>
    obtain ⟨v, rfl, r, fw, k⟩ := h
    refine ⟨v, rfl, r, ?_, k⟩
    have a1 : Fw (frW env (own ++ own₁)) s s₁ := g.fw.mono fun a ha => by
      simp only [frW, List.mem_cons, List.mem_append] at ha ⊢
      rcases ha with x | x | x
      · exact .inl x
      · exact .inr (.inl x)
      · exact .inr (.inr (.inl x))
    have a2 : Fw (frW env (own ++ own₁)) s₁ s₂ := fw.mono fun a ha => by
      simp only [frW, List.mem_cons, List.mem_append] at ha ⊢
      rcases ha with x | x | x
      · exact .inl x
      · exact .inr (.inl x)
      · exact .inr (.inr (.inr x))
    refine (a1.trans a2).drop fun a ha => ?_
    simp only [frW, List.mem_cons, List.mem_append] at ha ⊢
    rcases ha with x | x | x | x
    · exact .inl (.inl x)
    · exact .inl (.inr (.inl x))
    · exact .inl (.inr (.inr x))
    · rcases g.sub a x with q | q
      · exact .inl (.inr (.inr q))
      · exact .inr q
theorem ns_fun {h : Heap} {a : Addr} {m m' : Str → Option Value} (x : h.Ns a m) (y : h.Ns a m') : m = m' := by
  obtain ⟨o, es, ep, h1, h2, _, h3⟩ := x
  obtain ⟨o', es', ep', h1', h2', _, h3'⟩ := y
  rw [h1] at h1'; cases h1'
  rw [h2] at h2'; cases h2'
  funext z
  rw [← h3 z, ← h3' z]
theorem NmAt.fun {env : Env} {x : Str} {v v' : Value} {s : Shared} (h : NmAt env x v s) (h' : NmAt env x v' s) : v = v' := by
  rcases h with ⟨a, m, b, c⟩ | ⟨a, k, b, o, c, d⟩ <;> rcases h' with ⟨a', m', b', c'⟩ | ⟨a', k', b', o', c', d'⟩
  · rw [ns_fun b b'] at c; rw [c] at c'; exact Option.some.inj c'
  · rcases a' with a' | a' <;> rw [a] at a' <;> cases a'
  · rcases a with a | a <;> rw [a] at a' <;> cases a'
  · rw [b] at b'; cases b'
    rw [c] at c'; cases c'
    rw [d] at d'; cases d'; rfl
theorem put_lookup {st : Sto} {x y : Str} {sl : Slot} : (put st x sl).lookup y = if y = x then some sl else st.lookup y := by
  unfold put
  rw [List.lookup_cons]
  by_cases h : y = x
  · subst h; simp
  · have hb : (y == x) = false := beq_eq_false_iff_ne.mpr h
    rw [hb, if_neg h]
    simp only
    induction st with
    | nil => rfl
    | cons p r ih =>
      obtain ⟨z, sl'⟩ := p
      rw [List.filter_cons]
      by_cases hz : z = x
      · subst hz
        simp only [bne_self_eq_false, Bool.false_eq_true, if_false]
        rw [List.lookup_cons, hb]; exact ih
      · have : (z != x) = true := bne_iff_ne.mpr hz
        simp only [this, if_true]
        rw [List.lookup_cons, List.lookup_cons, ih]
theorem put_nd {st : Sto} {x : Str} {sl : Slot} (h : (st.map (·.1)).Nodup) : ((put st x sl).map (·.1)).Nodup := by
  unfold put
  rw [List.map_cons, List.nodup_cons]
  refine ⟨?_, ?_⟩
  · intro q
    obtain ⟨p, hp, e⟩ := List.mem_map.mp q
    have := (List.mem_filter.mp hp).2
    simp [e] at this
  · exact h.sublist (List.filter_sublist.map _)
theorem lookup_mem {α : Type} {x : Str} {v : α} : ∀ {l : List (Str × α)}, l.lookup x = some v → (x, v) ∈ l
  | [], h => by cases h
  | (y, u) :: r, h => by
    rw [List.lookup_cons] at h
    split at h
    · rename_i hx; cases h; rw [eq_of_beq hx]; exact List.mem_cons_self ..
    · exact List.mem_cons_of_mem _ (lookup_mem h)
theorem shσ_lookup {x : Str} {d : PyData} : ∀ {st : Sto}, (st.map (·.1)).Nodup → (shσ st).lookup x = some d → st.lookup x = some (.sh d)
  | [], _, h => by cases h
  | (y, sl) :: r, nd, h => by
    rw [List.map_cons, List.nodup_cons] at nd
    cases sl with
    | sh d' =>
      have e : shσ ((y, Slot.sh d') :: r) = (y, d') :: shσ r := by unfold shσ; rw [List.filterMap_cons]
      rw [e, List.lookup_cons] at h
      rw [List.lookup_cons]
      split at h
      · rename_i hx; cases h; rfl
      · rename_i hx; exact shσ_lookup nd.2 h
    | ow ds =>
      have e : shσ ((y, Slot.ow ds) :: r) = shσ r := by unfold shσ; rw [List.filterMap_cons]
      rw [e] at h
      have ih := shσ_lookup nd.2 h
      rw [List.lookup_cons]
      split
      · rename_i hx
        exfalso
        have := lookup_mem ih
        rw [eq_of_beq hx] at this
        exact nd.1 (List.mem_map.mpr ⟨_, this, rfl⟩)
      · exact ih
noncomputable def slD : Slot → PyData
  | .sh d => d
  | .ow ds => .list ds
theorem allσ_lookup {x : Str} {d : PyData} : ∀ {st : Sto}, (allσ st).lookup x = some d → ∃ sl, st.lookup x = some sl ∧ d = slD sl
  | [], h => by cases h
  | (y, sl) :: r, h => by
    have e : allσ ((y, sl) :: r) = (y, slD sl) :: allσ r := by cases sl <;> rfl
    rw [e, List.lookup_cons] at h
    rw [List.lookup_cons]
    split at h
    · cases h; exact ⟨sl, rfl, rfl⟩
    · exact allσ_lookup h
theorem frz_lookup {x : Str} {sl : Slot} : ∀ {st : Sto}, (frz st).lookup x = some sl → ∃ sl', st.lookup x = some sl' ∧ sl = .sh (slD sl')
  | [], h => by cases h
  | (y, sl') :: r, h => by
    have e : frz ((y, sl') :: r) = (y, .sh (slD sl')) :: frz r := by cases sl' <;> rfl
    rw [e, List.lookup_cons] at h
    rw [List.lookup_cons]
    split at h
    · cases h; exact ⟨sl', rfl, rfl⟩
    · exact frz_lookup h
theorem frz_names (st : Sto) : (frz st).map (·.1) = st.map (·.1) := by
  unfold frz
  rw [List.map_map]
  refine List.map_congr_left fun p _ => ?_
  obtain ⟨x, sl⟩ := p
  cases sl <;> rfl
section
variable {prog : Program} {w : World} {B : Bt} {A : Around} {hid own : List Addr} {s s₀ : Shared} {env : Env} {st : Sto} {n : Nat} {R : Ip} {P : Prims}
theorem SlotV.hide {sl : Slot} {v : Value} {own' : List Addr} {s' : Shared} (h : SlotV own hid sl v s) (k : Kp s s') (hn : ∀ a ∈ own', a ∈ own ∨ s.heap.get? a = none) (hs : ∀ a, a ∈ own → a ∈ own') : SlotV own' hid sl v s' := by
  have hh : ∀ a ∈ own' ++ hid, a ∈ own ++ hid ∨ s.heap.get? a = none := fun a ha => by
    rcases List.mem_append.mp ha with q | q
    · rcases hn a q with q | q
      · exact .inl (List.mem_append_left _ q)
      · exact .inr q
    · exact .inl (List.mem_append_right _ q)
  cases sl with
  | sh d => exact rd_hide k hh h
  | ow ds =>
    obtain ⟨a, vs, c, e1, e2, e3, e4⟩ := h
    exact ⟨a, vs, c, e1, hs a e2, k.get e3, rdL_hide k hh e4⟩
/-- nothing that stands is changed; new lists may be the frame's own -/
theorem FOk.more {own' : List Addr} {s' : Shared} (F : FOk B env st hid own s₀ s) (k : Kp s s') (hn : ∀ a ∈ own', a ∈ own ∨ s.heap.get? a = none) (hs : ∀ a, a ∈ own → a ∈ own') (ho : ∀ a ∈ own', ∃ vs c, s'.heap.get? a = some (lObj vs c)) :
    FOk B env st hid own' s₀ s' where
  kp := F.kp.trans k
  base0 := F.base0
  hids := F.hids.keeps k
  apo := fun a ha => by
    rcases hn a ha with q | q
    · exact F.apo a q
    · exact F.hids.new q
  kind := F.kind
  gl := F.gl
  bl := F.bl
  nodbg := F.nodbg
  nofree := F.nofree
  L0 := F.L0
  ns := let ⟨m, h⟩ := F.ns; ⟨m, h.keeps fun _ _ e => k.get e⟩
  cells := F.cells
  cell := fun x c e => let ⟨a, v, h⟩ := F.cell x c e; ⟨a, v, h.keeps fun _ _ e => k.get e⟩
  apart := F.apart
  owns := fun a ha => ⟨by
    rcases hn a ha with q | q
    · exact (F.owns a q).1
    · exact none_kp F.kp q, ho a ha⟩
  slots := fun x sl e => let ⟨v, a, b⟩ := F.slots x sl e; ⟨v, a.kp k, b.hide k hn hs⟩
  dist := fun x y ds es a hxy hx hy nx ny => by
    obtain ⟨v, a1, _⟩ := F.slots x _ hx
    obtain ⟨u, a2, _⟩ := F.slots y _ hy
    have e1 := nx.fun (a1.kp k)
    have e2 := ny.fun (a2.kp k)
    subst e1
    subst e2
    exact F.dist x y ds es a hxy hx hy a1 a2
  nd := F.nd
  cnd := F.cnd
theorem FOk.keeps {s' : Shared} (F : FOk B env st hid own s₀ s) (k : Kp s s') : FOk B env st hid own s₀ s' :=
  F.more k (fun _ h => .inl h) (fun _ h => h) fun a ha => let ⟨_, vs, c, e⟩ := F.owns a ha; ⟨vs, c, k.get e⟩
theorem FOk.hidOk (F : FOk B env st hid own s₀ s) : HidOk (own ++ hid) s := fun a ha => by
  rcases List.mem_append.mp ha with q | q
  · obtain ⟨_, vs, c, e⟩ := F.owns a q; exact ⟨_, e⟩
  · exact F.hids a q
theorem FOk.eok (F : FOk B env st hid own s₀ s) {σ : Sig} {H : List Addr} (hH : HidOk H s) (hn : ∀ x d, σ.lookup x = some d → ∃ v, Rd (hk H s.heap) d v ∧ NmAt env x v s) : EOk B env σ H s :=
  ⟨F.base, hH, F.kind, F.gl, F.bl, F.nodbg, fun x hx => by
    rcases hx with hx | hx
    · exact F.cells x hx
    · exact absurd hx (F.nofree x), hn⟩
theorem FOk.esh (F : FOk B env st hid own s₀ s) : EOk B env (shσ st) (own ++ hid) s :=
  F.eok F.hidOk fun x d e => let ⟨v, a, b⟩ := F.slots x _ (shσ_lookup F.nd e); ⟨v, b, a⟩
/-- no name with a list of its own stands for v -/
noncomputable def Un (env : Env) (st : Sto) (v : Value) (s : Shared) : Prop := ∀ y es, st.lookup y = some (.ow es) → ¬ NmAt env y v s
theorem Un.kp {v : Value} {s' : Shared} (F : FOk B env st hid own s₀ s) (h : Un env st v s) (k : Kp s s') : Un env st v s' := fun y es e n => by
  obtain ⟨u, a, _⟩ := F.slots y _ e
  have := n.fun (a.kp k)
  subst this
  exact h y es e a
/-- own lists that no name stands for yet -/
noncomputable def Pnd (env : Env) (st : Sto) (own pend : List Addr) (s : Shared) : Prop := ∀ a ∈ pend, a ∈ own ∧ Un env st (.ref a) s
theorem slot_pend {pend : List Addr} {x : Str} {sl : Slot} {v : Value} (F : FOk B env st hid own s₀ s) (hp : Pnd env st own pend s) (hx : st.lookup x = some sl) (hn : NmAt env x v s) (h : SlotV own hid sl v s) : Rd (hk (pend ++ hid) s.heap) (slD sl) v := by
  have hh : ∀ a ∈ pend ++ hid, a ∈ own ++ hid := fun a ha => by
    rcases List.mem_append.mp ha with q | q
    · exact List.mem_append_left _ (hp a q).1
    · exact List.mem_append_right _ q
  cases sl with
  | sh d => exact rd_less hh h
  | ow ds =>
    obtain ⟨a, vs, c, rfl, e2, e3, e4⟩ := h
    simp only [slD, Rd]
    refine ⟨a, vs, c, rfl, hk_of (fun m => ?_) e3, rdL_less hh e4⟩
    rcases List.mem_append.mp m with q | q
    · exact (hp a q).2 x ds hx hn
    · exact F.apo a e2 q
theorem FOk.pend (F : FOk B env st hid own s₀ s) {pend : List Addr} (hp : Pnd env st own pend s) : FOk B env (frz st) hid pend s₀ s :=
  { F with
    owns := fun a ha => F.owns a (hp a ha).1
    apo := fun a ha => F.apo a (hp a ha).1
    slots := fun x sl e => by
      obtain ⟨sl', e1, rfl⟩ := frz_lookup e
      obtain ⟨v, a, b⟩ := F.slots x sl' e1
      exact ⟨v, a, slot_pend F hp e1 a b⟩
    dist := fun x y ds es a _ hx _ _ _ => by obtain ⟨sl', _, e⟩ := frz_lookup hx; cases e
    nd := by rw [frz_names]; exact F.nd }
theorem FOk.hidP (F : FOk B env st hid own s₀ s) {pend : List Addr} (hp : Pnd env st own pend s) : HidOk (pend ++ hid) s := fun a ha => by
  rcases List.mem_append.mp ha with q | q
  · obtain ⟨_, vs, c, e⟩ := F.owns a (hp a q).1; exact ⟨_, e⟩
  · exact F.hids a q
theorem FOk.eallP (F : FOk B env st hid own s₀ s) {pend : List Addr} (hp : Pnd env st own pend s) : EOk B env (allσ st) (pend ++ hid) s :=
  F.eok (F.hidP hp) fun x d e => by
    obtain ⟨sl, e1, rfl⟩ := allσ_lookup e
    obtain ⟨v, a, b⟩ := F.slots x sl e1
    exact ⟨v, slot_pend F hp e1 a b, a⟩
theorem pnd_nil : Pnd env st own [] s := fun a ha => by cases ha
theorem FOk.eall (F : FOk B env st hid own s₀ s) : EOk B env (allσ st) hid s := F.eallP pnd_nil
theorem Pnd.frz {pend : List Addr} : (∀ a ∈ pend, a ∈ own) → Pnd env (frz st) own pend s := fun h a ha => ⟨h a ha, fun y es e => by obtain ⟨sl', _, e⟩ := frz_lookup e; cases e⟩
theorem Pnd.keeps {pend : List Addr} {s' : Shared} (F : FOk B env st hid own s₀ s) (hp : Pnd env st own pend s) (k : Kp s s') : Pnd env st own pend s' := fun a ha => ⟨(hp a ha).1, (hp a ha).2.kp F k⟩
theorem evM_ok (H : SndE prog w B n R) (hm : Rm A n) (F : FOk B env st hid own s₀ s) {pend : List Addr} (hp : Pnd env st own pend s) {e : Expr} {d : PyData} {st' : Sto} (x : evM R env.scope.names st e = some (d, st')) {Q E : Value → Shared → Prop}
    (q : ∀ v s' own', Kp s s' → FOk B env st' hid own' s₀ s' → (∀ a ∈ own', a ∈ own) → Pnd env st' own' pend s' → Rd (hk (own' ++ hid) s'.heap) d v → Q v s') : wpAny (model prog w) A (eval e env) Q E s := by
  unfold evM at x
  split at x
  · rename_i d' e1
    cases x
    exact H.ev hm F.esh e1 _ _ fun v s' k r => q v s' own k (F.keeps k) (fun _ h => h) (hp.keeps F k) r
  · split at x
    · rename_i _ d' e1
      split at x
      · rename_i hi
        cases x
        exact H.ev hm F.eall e1 _ _ fun v s' k r => q v s' own k (F.keeps k) (fun _ h => h) (hp.keeps F k) (Rd.imm hi r)
      · cases x
        exact H.ev hm (F.eallP hp) e1 _ _ fun v s' k r => q v s' pend k ((F.pend hp).keeps k) (fun _ h => (hp _ h).1) (Pnd.frz fun _ h => h) r
    · cases x
end
end Mine
/-! part 16 -/
set_option maxRecDepth 100000
namespace Mine
open PySem PySem.Calls PyProof.Rows PySem.W
theorem ns_nonseq {h : Heap} {a : Addr} {m : Str → Option Value} (x : h.Ns a m) : ∀ o, h.get? a = some o → ¬ isSeqObj o := fun o e => by
  obtain ⟨o', es, ep, h1, h2, _⟩ := x
  rw [h1] at e; cases e
  rintro (⟨_, _, rfl⟩ | ⟨_, _, rfl⟩) <;> cases h2
theorem cell_nonseq {h : Heap} {c : Addr} {v : Option Value} (x : h.IsCell c v) : ∀ o, h.get? c = some o → ¬ isSeqObj o := fun o e => by
  obtain ⟨o', h1, h2⟩ := x
  rw [h1] at e; cases e
  rintro (⟨_, _, rfl⟩ | ⟨_, _, rfl⟩) <;> cases h2
/-- what is written is hidden or is no list and no tuple -/
theorem rd_wr {W hid : List Addr} {s s' : Shared} (k : Fw W s s') (hw : ∀ a ∈ W, a ∈ hid ∨ ∀ o, s.heap.get? a = some o → ¬ isSeqObj o) {d : PyData} {v : Value} (r : Rd (hk hid s.heap) d v) : Rd (hk hid s'.heap) d v :=
  Rd.mono (fun a o hs e => hk_of (hk_not e) (k.get (fun m => by
    rcases hw a m with q | q
    · exact hk_not e q
    · exact q o (hk_sub e) hs) (hk_sub e))) d v r
theorem rdL_wr {W hid : List Addr} {s s' : Shared} (k : Fw W s s') (hw : ∀ a ∈ W, a ∈ hid ∨ ∀ o, s.heap.get? a = some o → ¬ isSeqObj o) {d : List PyData} {v : List Value} (r : RdL (hk hid s.heap) d v) : RdL (hk hid s'.heap) d v :=
  RdL.mono (fun a o hs e => hk_of (hk_not e) (k.get (fun m => by
    rcases hw a m with q | q
    · exact hk_not e q
    · exact q o (hk_sub e) hs) (hk_sub e))) d v r
section
variable {prog : Program} {w : World} {B : Bt} {A : Around} {hid own : List Addr} {s s₀ s' : Shared} {env : Env} {st st' : Sto} {n : Nat} {R : Ip} {P : Prims} {W : List Addr}
theorem SlotV.wr {sl : Slot} {v : Value} (h : SlotV own hid sl v s) (k : Fw W s s') (hw : ∀ a ∈ W, a ∈ own ++ hid ∨ ∀ o, s.heap.get? a = some o → ¬ isSeqObj o) (ho : ∀ ds a, sl = .ow ds → v = .ref a → a ∉ W) : SlotV own hid sl v s' := by
  cases sl with
  | sh d => exact rd_wr k hw h
  | ow ds =>
    obtain ⟨a, vs, c, e1, e2, e3, e4⟩ := h
    exact ⟨a, vs, c, e1, e2, k.get (ho ds a rfl e1) e3, rdL_wr k hw e4⟩
theorem FOk.L_live (F : FOk B env st hid own s₀ s) : ∃ o, s.heap.get? env.locals = some o := by
  obtain ⟨m, o, es, ep, h, _⟩ := F.ns; exact ⟨o, h⟩
theorem FOk.L_own (F : FOk B env st hid own s₀ s) : env.locals ∉ own := fun q => by
  obtain ⟨_, vs, c, e⟩ := F.owns _ q
  obtain ⟨m, hm⟩ := F.ns
  exact ns_nonseq hm _ e (.inl ⟨_, _, rfl⟩)
theorem FOk.c_own (F : FOk B env st hid own s₀ s) {x : Str} {c : Addr} (h : env.cells.lookup x = some c) : c ∉ own := fun q => by
  obtain ⟨_, vs, k, e⟩ := F.owns _ q
  obtain ⟨_, v, hc⟩ := F.cell x c h
  exact cell_nonseq hc _ e (.inl ⟨_, _, rfl⟩)
theorem FOk.L_cell (F : FOk B env st hid own s₀ s) {x : Str} {c : Addr} (h : env.cells.lookup x = some c) : c ≠ env.locals := fun q => by
  obtain ⟨_, v, o, h1, h2⟩ := F.cell x c h
  obtain ⟨m, o', es, ep, h3, h4, _⟩ := F.ns
  rw [q, h3] at h1; cases h1
  rw [h4] at h2; cases h2
/-- the frame's places: its block and its cells -/
noncomputable def Plc (env : Env) (a : Addr) : Prop := a = env.locals ∨ ∃ x, env.cells.lookup x = some a
theorem FOk.plc_nonseq (F : FOk B env st hid own s₀ s) {a : Addr} (h : Plc env a) : ∀ o, s.heap.get? a = some o → ¬ isSeqObj o := by
  rcases h with rfl | ⟨x, h⟩
  · obtain ⟨m, hm⟩ := F.ns; exact ns_nonseq hm
  · obtain ⟨_, v, hc⟩ := F.cell x a h; exact cell_nonseq hc
theorem FOk.plc_new (F : FOk B env st hid own s₀ s) {a : Addr} (h : Plc env a) : s₀.heap.get? a = none := by
  rcases h with rfl | ⟨x, h⟩
  · exact F.L0
  · exact (F.cell x a h).1
/-- a change at the frame's own places -/
theorem FOk.upd (F : FOk B env st hid own s₀ s) (fw : Fw W s s') (hW : ∀ a ∈ W, Plc env a) (ns' : ∃ m, s'.heap.Ns env.locals m)
    (cell' : ∀ x c, env.cells.lookup x = some c → ∃ v, s'.heap.IsCell c v) (nd' : (st'.map (·.1)).Nodup)
    (sl' : ∀ x sl, st'.lookup x = some sl → ∃ v, NmAt env x v s' ∧ SlotV own hid sl v s)
    (dist' : ∀ x y ds es a, x ≠ y → st'.lookup x = some (.ow ds) → st'.lookup y = some (.ow es) → NmAt env x (.ref a) s' → NmAt env y (.ref a) s' → False) :
    FOk B env st' hid own s₀ s' where
  kp := ((F.kp.fw W).trans fw |>.drop fun a ha => .inr (F.plc_new (hW a ha))).kp
  base0 := F.base0
  hids := fun a ha => by
    obtain ⟨o, e⟩ := F.hids a ha
    by_cases hm : a ∈ W
    · rcases hW a hm with rfl | ⟨x, h⟩
      · obtain ⟨m, o, es, ep, h, _⟩ := ns'; exact ⟨o, h⟩
      · obtain ⟨v, o, h, _⟩ := cell' x a h; exact ⟨o, h⟩
    · exact ⟨o, fw.get hm e⟩
  apo := F.apo
  kind := F.kind
  gl := F.gl
  bl := F.bl
  nodbg := F.nodbg
  nofree := F.nofree
  L0 := F.L0
  ns := ns'
  cells := F.cells
  cell := fun x c e => ⟨(F.cell x c e).1, cell' x c e⟩
  apart := F.apart
  owns := fun a ha => by
    obtain ⟨h1, vs, c, h2⟩ := F.owns a ha
    refine ⟨h1, vs, c, fw.get (fun m => ?_) h2⟩
    rcases hW a m with rfl | ⟨x, h⟩
    · exact F.L_own ha
    · exact F.c_own h ha
  slots := fun x sl e => by
    obtain ⟨v, a, b⟩ := sl' x sl e
    refine ⟨v, a, b.wr fw (fun a ha => .inr (F.plc_nonseq (hW a ha))) fun ds a hs hv hm => ?_⟩
    subst hs
    obtain ⟨a', vs, c, e1, e2, _⟩ := b
    rw [hv] at e1; cases e1
    rcases hW a hm with rfl | ⟨x, h⟩
    · exact F.L_own e2
    · exact F.c_own h e2
  dist := dist'
  nd := nd'
  cnd := F.cnd
theorem go_upd (F : FOk B env st hid own s₀ s) (F' : FOk B env st' hid own s₀ s') (fw : Fw W s s') (hW : ∀ a ∈ W, Plc env a) : Go B env hid s₀ own s st' own s' where
  F := F'
  fw := fw.mono fun a ha => by
    simp only [frW, List.mem_cons, List.mem_append, List.mem_map]
    rcases hW a ha with rfl | ⟨x, h⟩
    · exact .inl rfl
    · exact .inr (.inl ⟨_, lookup_mem h, rfl⟩)
  sub := fun a ha => .inl ha
  dom := fun a ha => by
    by_cases hm : a ∈ W
    · rcases hW a hm with rfl | ⟨x, h⟩
      · obtain ⟨o, e⟩ := F'.L_live; rw [ha] at e; cases e
      · obtain ⟨_, v, o, h, _⟩ := F'.cell x a h; rw [ha] at h; cases h
    · cases e : s.heap.get? a with
      | none => rfl
      | some o => rw [fw.get hm e] at ha; cases ha
theorem store_nm (F : FOk B env st hid own s₀ s) {x : Str} {v : Value} {sl : Slot} (hx : storable env.scope.names x = true) (hs : SlotV own hid sl v s) (hu : ∀ ds, sl = .ow ds → Un env st v s) {Q : Unit → Shared → Prop} {E : Value → Shared → Prop}
    (q : ∀ s', Go B env hid s₀ own s (put st x sl) own s' → (∀ a o, isSeqObj o → s.heap.get? a = some o → s'.heap.get? a = some o) → (∀ u, u ≠ v → Un env st u s → Un env (put st x sl) u s') → (∀ C m, s.heap.Ns C m → C ≠ env.locals → s'.heap.Ns C m) → Q () s') :
    wpAny (model prog w) A (storeName env x v) Q E s := by
  have fin : ∀ s' W, Fw W s s' → (∀ a ∈ W, Plc env a) → (∃ m, s'.heap.Ns env.locals m) → (∀ x c, env.cells.lookup x = some c → ∃ v, s'.heap.IsCell c v) → NmAt env x v s' → (∀ y u, y ≠ x → NmAt env y u s → NmAt env y u s') → (∀ C m, s.heap.Ns C m → C ≠ env.locals → s'.heap.Ns C m) → Q () s' := by
    intro s' W fw hW ns' cell' hn ho hC
    have back : ∀ y u sl', y ≠ x → st.lookup y = some sl' → NmAt env y u s' → NmAt env y u s := fun y u sl' hy e nu => by
      obtain ⟨u', a, _⟩ := F.slots y _ e
      have := nu.fun (ho y u' hy a)
      subst this; exact a
    have F' : FOk B env (put st x sl) hid own s₀ s' := by
      refine F.upd fw hW ns' cell' (put_nd F.nd) (fun y sl' e => ?_) fun y z ds es a hyz ey ez ny nz => ?_
      · rw [put_lookup] at e
        split at e
        · rename_i hy; cases e; subst hy; exact ⟨v, hn, hs⟩
        · rename_i hy; obtain ⟨u, a, b⟩ := F.slots y sl' e; exact ⟨u, ho y u hy a, b⟩
      · rw [put_lookup] at ey ez
        split at ey
        · rename_i hy
          cases ey; subst hy
          rw [if_neg (Ne.symm hyz)] at ez
          have := ny.fun hn
          subst this
          exact hu ds rfl z es ez (back z _ _ (Ne.symm hyz) ez nz)
        · rename_i hy
          split at ez
          · rename_i hz
            cases ez; subst hz
            have := nz.fun hn
            subst this
            exact hu es rfl y ds ey (back y _ _ hy ey ny)
          · rename_i hz
            exact F.dist y z ds es a hyz ey ez (back y _ _ hy ey ny) (back z _ _ hz ez nz)
    refine q s' (go_upd F F' fw hW) (fun a o hs' e => fw.get (fun m => F.plc_nonseq (hW a m) o e hs') e) (fun u huv hU y es e nu => ?_) hC
    rw [put_lookup] at e
    split at e
    · rename_i hy; subst hy; exact huv (nu.fun hn)
    · rename_i hy; exact hU y es e (back y u _ hy e nu)
  have hp : (env.scope.kind == .class || (env.scope.kind == .module && env.locals != env.globals)) = false := by rw [F.kind]; rfl
  simp only [storable, Bool.or_eq_true, beq_iff_eq] at hx
  rcases hx with hx | hx
  · have hx' : env.kindOf x = some .local := hx
    obtain ⟨m, hm⟩ := F.ns
    refine wpAny_storeName_local hx' hm (fun h' hn' hs' => ?_) hp
    have fw : Fw [env.locals] s { s with heap := h', toks := s.toks + 1 } := sameBut_fw hs'
    refine fin _ _ fw (fun a ha => .inl (List.mem_singleton.mp ha)) ⟨_, hn'⟩ (fun y c e => ?_) (.inl ⟨hx', _, hn', by simp⟩) (fun y u hy nu => ?_) fun C mm hh hne => hh.sameBut hs' hne
    · obtain ⟨_, v, o, h1, h2⟩ := F.cell y c e
      exact ⟨v, o, fw.get (by simpa using F.L_cell e) h1, h2⟩
    · rcases nu with ⟨a, m', b, c⟩ | ⟨a, k, b, o, c, d⟩
      · have := ns_fun hm b
        subst this
        exact .inl ⟨a, _, hn', by simp [hy, c]⟩
      · exact .inr ⟨a, k, b, o, fw.get (by simpa using F.L_cell b) c, d⟩
  · have hx' : env.kindOf x = some .cell := hx
    obtain ⟨c, hc⟩ := F.cells x hx'
    obtain ⟨_, v₀, hv₀⟩ := F.cell x c hc
    refine wpAny_storeName_cell F.kind hx' hc hv₀ fun h' hn' hs' => ?_
    have fw : Fw [c] s { s with heap := h', toks := s.toks } := sameBut_fw hs'
    have hcL := F.L_cell hc
    refine fin _ _ fw (fun a ha => .inr ⟨x, by rw [List.mem_singleton.mp ha]; exact hc⟩) ?_ (fun y c' e => ?_) (.inr ⟨.inl hx', c, hc, hn'⟩) (fun y u hy nu => ?_) fun C mm hh hne => ?_
    · obtain ⟨m, hm⟩ := F.ns
      exact ⟨m, hm.sameBut hs' (Ne.symm hcL)⟩
    · by_cases h : c' = c
      · subst h; exact ⟨_, hn'⟩
      · obtain ⟨_, v, o, h1, h2⟩ := F.cell y c' e
        exact ⟨v, o, fw.get (by simpa using h) h1, h2⟩
    · rcases nu with ⟨a, m', b, d⟩ | ⟨a, k, b, o, d, f⟩
      · exact .inl ⟨a, m', b.sameBut hs' (Ne.symm hcL), d⟩
      · refine .inr ⟨a, k, b, o, fw.get ?_ d, f⟩
        rintro q
        rw [List.mem_singleton] at q
        subst q
        exact hy (F.apart y x k b hc)
    · refine hh.sameBut hs' fun q => ?_
      subst q
      obtain ⟨o, es, ep, h1, h2, _⟩ := hh
      obtain ⟨o', h3, h4⟩ := hv₀
      rw [h1] at h3; cases h3
      rw [h2] at h4; cases h4
theorem FOk.look (F : FOk B env st hid own s₀ s) (h : ∀ x, st'.lookup x = st.lookup x) (nd : (st'.map (·.1)).Nodup) : FOk B env st' hid own s₀ s :=
  { F with
    slots := fun x sl e => F.slots x sl (by rw [← h]; exact e)
    dist := fun x y ds es a hxy hx hy => F.dist x y ds es a hxy (by rw [← h]; exact hx) (by rw [← h]; exact hy)
    nd := nd }
noncomputable def putS (st : Sto) (b : Sig) : Sto := b.foldr (fun p st => put st p.1 (.sh p.2)) st
theorem putS_lookup {y : Str} : ∀ {b : Sig}, (putS st b).lookup y = match b.lookup y with | some d => some (.sh d) | none => st.lookup y
  | [] => rfl
  | (x, d) :: r => by
    show (put (putS st r) x (.sh d)).lookup y = _
    rw [put_lookup, List.lookup_cons]
    by_cases h : y = x
    · subst h; simp
    · have hb : (y == x) = false := beq_eq_false_iff_ne.mpr h
      rw [if_neg h, hb]
      exact putS_lookup
theorem putS_nd (h : (st.map (·.1)).Nodup) : ∀ {b : Sig}, ((putS st b).map (·.1)).Nodup
  | [] => h
  | (x, d) :: r => put_nd (putS_nd h)
/-- a target of a loop is bound -/
theorem bind_t (hh : A.handled = none) (F : FOk B env st hid own s₀ s) {tgt : Expr} {d : PyData} {b : Sig} {v : Value} (e : bindT env.scope.names tgt d = some b) (r : Rd (hk (own ++ hid) s.heap) d v) {Q : Unit → Shared → Prop} {E : Value → Shared → Prop}
    (q : ∀ s', Go B env hid s₀ own s (putS st b) own s' → (∀ a o, isSeqObj o → s.heap.get? a = some o → s'.heap.get? a = some o) → Fw [env.locals] s s' → Q () s') : wpAny (model prog w) A (assign tgt env v) Q E s := by
  obtain ⟨m, hm⟩ := F.ns
  refine assign_t hh F.kind e (fun _ _ => hk_sub) r hm fun s' m' fw hn' h1 h2 => ?_
  have other : ∀ y u, b.lookup y = none → NmAt env y u s → NmAt env y u s' := fun y u hy nu => by
    rcases nu with ⟨a, m'', c, d⟩ | ⟨a, k, c, o, d, f⟩
    · have := ns_fun hm c
      subst this
      exact .inl ⟨a, _, hn', by rw [h2 y hy]; exact d⟩
    · exact .inr ⟨a, k, c, o, fw.get (by simpa using F.L_cell c) d, f⟩
  have back : ∀ y u sl', b.lookup y = none → st.lookup y = some sl' → NmAt env y u s' → NmAt env y u s := fun y u sl' hy e nu => by
    obtain ⟨u', a, _⟩ := F.slots y _ e
    have := nu.fun (other y u' hy a)
    subst this; exact a
  have hW : ∀ a ∈ [env.locals], Plc env a := fun a ha => .inl (List.mem_singleton.mp ha)
  have F' : FOk B env (putS st b) hid own s₀ s' := by
    refine F.upd fw hW ⟨m', hn'⟩ (fun y c e => ?_) (putS_nd F.nd) (fun y sl' e => ?_) fun y z ds es a hyz ey ez ny nz => ?_
    · obtain ⟨_, v, o, h1, h2⟩ := F.cell y c e
      exact ⟨v, o, fw.get (by simpa using F.L_cell e) h1, h2⟩
    · rw [putS_lookup] at e
      cases hy : b.lookup y with
      | some d' =>
        rw [hy] at e; cases e
        obtain ⟨k, u, hu, hr⟩ := h1 y d' hy
        exact ⟨u, .inl ⟨k, m', hn', hu⟩, hr⟩
      | none =>
        rw [hy] at e
        obtain ⟨u, a, c⟩ := F.slots y sl' e
        exact ⟨u, other y u hy a, c⟩
    · rw [putS_lookup] at ey ez
      cases hy : b.lookup y with
      | some d' => rw [hy] at ey; cases ey
      | none =>
        cases hz : b.lookup z with
        | some d' => rw [hz] at ez; cases ez
        | none =>
          rw [hy] at ey; rw [hz] at ez
          exact F.dist y z ds es a hyz ey ez (back y _ _ hy ey ny) (back z _ _ hz ez nz)
  exact q s' (go_upd F F' fw hW) (fun a o hs' e => fw.get (fun m => F.plc_nonseq (hW a m) o e hs') e) fw
end
end Mine
/-! part 17 -/
set_option maxRecDepth 100000
namespace Mine
open PySem PySem.Calls PyProof.Rows PySem.W
theorem RdL.immL {K K' : KM} : ∀ {ds : List PyData} {vs : List Value}, immL ds = true → RdL K ds vs → RdL K' ds vs
  | [], _, _, h => by simpa only [RdL] using h
  | d :: ds, _, hi, h => by
    simp only [Mine.immL, List.all_cons, Bool.and_eq_true] at hi
    simp only [RdL] at h ⊢
    obtain ⟨v, r, e1, e2, e3⟩ := h
    exact ⟨v, r, e1, e2.imm hi.1, RdL.immL hi.2 e3⟩
section
variable {prog : Program} {w : World} {B : Bt} {A : Around} {hid own : List Addr} {s s₀ s' : Shared} {env : Env} {st st' : Sto} {n : Nat} {R : Ip} {P : Prims} {W : List Addr} {σ : Sig}
theorem ev_list_range_new (H : SndE prog w B n R) (hm : Rm A n) (h : EOk B env σ hid s) {f g : Str} {p p' p2 p3 : Pos} {bs : List Expr} {ds items : List PyData} (gf : env.kindOf f = some .globalImplicit) (hf : isNm f "list" = true)
    (gg : env.kindOf g = some .globalImplicit) (hg : isNm g "range" = true) (e : mapO (R.ev env.scope.names σ) bs = some ds) (er : rangeD ds = some items) {Q E : Value → Shared → Prop}
    (q : ∀ a vs c s', Kp s s' → s.heap.get? a = none → s'.heap.get? a = some (lObj vs c) → (∀ K, RdL K items vs) → Q (.ref a) s') :
    wpAny (model prog w) A (eval (.Call (.Name f p) [.Call (.Name g p2) bs [] p3] [] p') env) Q E s := by
  obtain ⟨a, b, m, hd, rfl, hsz, hsm, hm64⟩ := rangeD_ints er
  have hne : bs ≠ [] := by
    rintro rfl
    simp [mapO] at e; subst e
    rcases hd with ⟨x, _⟩ | x <;> cases x
  have h1 := isNm_eq hf
  have h2 := isNm_eq hg
  subst h1 h2
  rw [arm_eval_Call_Name']
  refine wpAny_bind (ev_builtin h gf B.list ?_)
  refine PyProof.Rows.callWith_type rfl ?_
  rw [starEach_cons (by rintro _ _ ⟨⟩), backTo_cons]
  refine evalArgs_plain (spliced_cons (call_ty H hm h gg B.range hne e fun vs s₁ k₁ r₁ => call_range hd r₁ fun r s₂ t u v k₂ hnew hr => ?_))
  refine spliced_nil ?_
  have k02 := k₁.trans k₂
  refine call_list_range hm.hd hr hsm (by rw [hsz]) (by omega) fun h' tk acc' c' hk' hg' hi => ?_
  have kp : Kp s₂ { s₂ with heap := h', toks := tk } := Kp.mk' hk'
  exact q _ acc'.toList c' _ (k02.trans kp) (none_kp k02 (get_size _)) (by simpa using hg') fun K => items_rd hi
/-- a new list becomes the frame's own -/
theorem own_new (F : FOk B env st hid own s₀ s) {pend : List Addr} (hp : Pnd env st own pend s) (k : Kp s s') {a : Addr} {vs : List Value} {c : Nat} {ds : List PyData} (hn : s.heap.get? a = none) (hg : s'.heap.get? a = some (lObj vs c)) (hr : ∀ K, RdL K ds vs) :
    FOk B env st hid (a :: own) s₀ s' ∧ Pnd env st (a :: own) pend s' ∧ SlotV (a :: own) hid (.ow ds) (.ref a) s' ∧ Un env st (.ref a) s' := by
  refine ⟨F.more k (fun b hb => ?_) (fun b hb => List.mem_cons_of_mem _ hb) (fun b hb => ?_), fun b hb => ⟨List.mem_cons_of_mem _ (hp b hb).1, (hp b hb).2.kp F k⟩, ⟨a, vs, c, rfl, List.mem_cons_self .., hg, hr _⟩, fun y es e ny => ?_⟩
  · rcases List.mem_cons.mp hb with rfl | hb
    · exact .inr hn
    · exact .inl hb
  · rcases List.mem_cons.mp hb with rfl | hb
    · exact ⟨vs, c, hg⟩
    · obtain ⟨_, us, c', e⟩ := F.owns b hb
      exact ⟨us, c', k.get e⟩
  · obtain ⟨u, h1, a', us, c', rfl, h2, h3, _⟩ := F.slots y _ e
    have := ny.fun (h1.kp k)
    cases this
    rw [hn] at h3; cases h3
theorem slot_ok (H : SndE prog w B n R) (hm : Rm A n) (F : FOk B env st hid own s₀ s) {pend : List Addr} (hp : Pnd env st own pend s) {e : Expr} {sl : Slot} (x : slotM R env.scope.names st e = some (sl, st')) {Q E : Value → Shared → Prop}
    (q : ∀ v s' own', Kp s s' → FOk B env st' hid own' s₀ s' → (∀ a ∈ own', a ∈ own ∨ s.heap.get? a = none) → Pnd env st' own' pend s' → SlotV own' hid sl v s' → (∀ ds, sl = .ow ds → Un env st' v s' ∧ ∃ a, v = .ref a ∧ a ∈ own' ∧ s.heap.get? a = none) → Q v s') :
    wpAny (model prog w) A (eval e env) Q E s := by
  have byM : ∀ e, slotE R env.scope.names st e = some (sl, st') → wpAny (model prog w) A (eval e env) Q E s := by
    intro e x
    obtain ⟨⟨d, st1⟩, e1, e2⟩ := Option.map_eq_some_iff.mp x
    cases e2
    exact evM_ok H hm F hp e1 fun v s' own' k F' ho hp' r => q v s' own' k F' (fun a ha => .inl (ho a ha)) hp' r fun ds e => by cases e
  unfold slotM at x
  split at x
  · rename_i es hes
    obtain ⟨p, rfl⟩ := vList_eq hes
    obtain ⟨ds, e1, x⟩ := Option.bind_eq_some_iff.mp x
    split at x
    · rename_i hi
      cases x
      have hi := Bool.and_eq_true_iff.mp hi
      refine wpAny_List (ev_spliced H hm F.eall e1 _ _ fun vs s₁ k₁ r₁ => ⟨by rw [r₁.length]; exact few_le hi.2, ?_⟩)
      have kp := k₁.trans (Kp.push (s := s₁) (tk := s₁.toks) (lObj vs 0))
      obtain ⟨a1, a2, a3, a4⟩ := own_new F hp kp (none_kp k₁ (get_size _)) (Heap.get?_push_size _ rfl) fun K => r₁.immL hi.1
      exact q _ _ _ kp a1 (fun b hb => by
        rcases List.mem_cons.mp hb with rfl | hb
        · exact .inr (none_kp k₁ (get_size _))
        · exact .inl hb) a2 a3 fun ds e => ⟨a4, _, rfl, List.mem_cons_self .., none_kp k₁ (get_size _)⟩
    · exact byM _ x
  · split at x
    · rename_i u hu
      obtain ⟨p1, p2, p3, p4, rfl⟩ := vLR_eq hu
      split at x
      · rename_i hg
        simp only [Bool.and_eq_true] at hg
        obtain ⟨⟨⟨h1, h2⟩, h3⟩, h4⟩ := hg
        obtain ⟨ds, e1, x⟩ := Option.bind_eq_some_iff.mp x
        obtain ⟨xs, e2, e3⟩ := Option.map_eq_some_iff.mp x
        cases e3
        refine ev_list_range_new H hm F.eall (kindOf_glob h1) h2 (kindOf_glob h3) h4 e1 e2 fun a vs c s' k hn hg hr => ?_
        obtain ⟨a1, a2, a3, a4⟩ := own_new F hp k hn hg hr
        exact q _ _ _ k a1 (fun b hb => by
            rcases List.mem_cons.mp hb with rfl | hb
            · exact .inr hn
            · exact .inl hb) a2 a3 fun ds e => ⟨a4, _, rfl, List.mem_cons_self .., hn⟩
      · exact byM _ x
    · exact byM _ x
theorem sh_ne {d : PyData} {v : Value} {a : Addr} (h : SlotV own hid (.sh d) v s) (ha : a ∈ own) : v ≠ .ref a := by
  rintro rfl
  have h : Rd (hk (own ++ hid) s.heap) d (.ref a) := h
  cases d with
  | list xs => obtain ⟨b, vs, c, e, hb, _⟩ := rd_list h; cases e; exact hk_not hb (List.mem_append_left _ ha)
  | tuple xs => obtain ⟨b, vs, c, e, hb, _⟩ := rd_tuple h; cases e; exact hk_not hb (List.mem_append_left _ ha)
  | none => simp [Rd] at h
  | bool b => simp [Rd] at h
  | int i => simp [Rd] at h
  | str x => simp [Rd] at h
  | dict x => simp [Rd] at h
structure AccOk (own hid : List Addr) (env : Env) (st : Sto) (s : Shared) (acc : List (Slot × Value)) : Prop where
  sl : ∀ p ∈ acc, SlotV own hid p.1 p.2 s
  un : ∀ p ∈ acc, ∀ ds, p.1 = .ow ds → Un env st p.2 s
  pw : acc.Pairwise fun p q => ∀ ds es, p.1 = .ow ds → q.1 = .ow es → p.2 ≠ q.2
noncomputable def adr : Slot × Value → Option Addr
  | (.ow _, .ref a) => some a
  | _ => none
theorem adr_some {p : Slot × Value} {a : Addr} (h : adr p = some a) : (∃ ds, p.1 = .ow ds) ∧ p.2 = .ref a := by
  obtain ⟨sl, v⟩ := p
  cases sl with
  | sh d => simp [adr] at h
  | ow ds => cases v <;> simp [adr] at h; subst h; exact ⟨⟨_, rfl⟩, rfl⟩
theorem AccOk.pnd {acc : List (Slot × Value)} (h : AccOk own hid env st s acc) : Pnd env st own (acc.filterMap adr) s := fun a ha => by
  obtain ⟨p, hp, e⟩ := List.mem_filterMap.mp ha
  obtain ⟨⟨ds, h1⟩, h2⟩ := adr_some e
  have h3 := h.sl p hp
  rw [h1, h2] at h3
  obtain ⟨a', vs, c, e1, e2, _⟩ := h3
  cases e1
  refine ⟨e2, ?_⟩
  have := h.un p hp ds h1
  rwa [h2] at this
theorem AccOk.next {acc : List (Slot × Value)} {own' : List Addr} (h : AccOk own hid env st s acc) (k : Kp s s') (hp : Pnd env st' own' (acc.filterMap adr) s') (hs : ∀ a ∈ own', a ∈ own ∨ s.heap.get? a = none) : AccOk own' hid env st' s' acc := by
  have hh : ∀ a ∈ own' ++ hid, a ∈ own ++ hid ∨ s.heap.get? a = none := fun a ha => by
    rcases List.mem_append.mp ha with q | q
    · rcases hs a q with q | q
      · exact .inl (List.mem_append_left _ q)
      · exact .inr q
    · exact .inl (List.mem_append_right _ q)
  have key : ∀ p ∈ acc, ∀ ds a, p.1 = .ow ds → p.2 = .ref a → a ∈ acc.filterMap adr := fun p hpm ds a h1 h2 => by
    refine List.mem_filterMap.mpr ⟨p, hpm, ?_⟩
    obtain ⟨sl, v⟩ := p
    simp only at h1 h2
    subst h1 h2
    rfl
  refine ⟨fun p hpm => ?_, fun p hpm ds h1 => ?_, h.pw⟩
  · have h1 := h.sl p hpm
    cases hsl : p.1 with
    | sh d => rw [hsl] at h1; exact rd_hide k hh h1
    | ow ds =>
      rw [hsl] at h1
      obtain ⟨a, vs, c, e1, e2, e3, e4⟩ := h1
      exact ⟨a, vs, c, e1, (hp a (key p hpm ds a hsl e1)).1, k.get e3, rdL_hide k hh e4⟩
  · have h2 := h.sl p hpm
    rw [h1] at h2
    obtain ⟨a, vs, c, e1, _⟩ := h2
    rw [e1]
    exact (hp a (key p hpm ds a h1 e1)).2
theorem slotM_star (H : SndE prog w B n R) {sc : Sc} {e : Expr} {p : Slot × Sto} (x : slotM R sc st e = some p) : ∀ f q, e ≠ .Starred f q := by
  rintro f q rfl
  obtain ⟨q, e1, _⟩ := Option.map_eq_some_iff.mp (show (evM R sc st (.Starred f q)).map _ = some p from x)
  unfold evM at e1
  rw [H.nostar, H.nostar] at e1
  cases e1
theorem slotsM_star (H : SndE prog w B n R) {sc : Sc} : ∀ {es : List Expr} {st : Sto} {p : List Slot × Sto}, slotsM R sc st es = some p → ∀ e ∈ es, ∀ f q, e ≠ .Starred f q
  | [], _, _, _, e, he => by cases he
  | x :: r, st, p, h, e, he => by
    simp only [slotsM, Option.bind_eq_some_iff] at h
    obtain ⟨p1, h1, q, h2, _⟩ := h
    rcases List.mem_cons.mp he with rfl | he
    · exact slotM_star H h1
    · exact slotsM_star H h2 e he
theorem slots_ok (H : SndE prog w B n R) (hm : Rm A n) {p : Pos} : ∀ {es : List Expr} {sls : List Slot} {st st' : Sto} {own : List Addr} {s : Shared} {acc : List (Slot × Value)}, FOk B env st hid own s₀ s → AccOk own hid env st s acc →
    slotsM R env.scope.names st es = some (sls, st') → ∀ {Q : List Value → Shared → Prop} {E : Value → Shared → Prop},
    (∀ vs s' own', Kp s s' → FOk B env st' hid own' s₀ s' → (∀ a ∈ own', a ∈ own ∨ s.heap.get? a = none) → vs.length = sls.length → AccOk own' hid env st' s' (acc ++ sls.zip vs) → Q vs s') → wpAny (model prog w) A (spliced (backTo p (starEach es env))) Q E s
  | [], sls, st, st', own, s, acc, F, ha, x, Q, E, q => by
    simp only [slotsM, Option.some.injEq, Prod.mk.injEq] at x
    obtain ⟨rfl, rfl⟩ := x
    exact spliced_nil (q [] s own (Kp.refl s) F (fun a h => .inl h) rfl (by simpa using ha))
  | e :: r, sls, st, st', own, s, acc, F, ha, x, Q, E, q => by
    simp only [slotsM, Option.bind_eq_some_iff] at x
    obtain ⟨⟨sl, st1⟩, h1, ⟨sls1, st2⟩, h2, h3⟩ := x
    cases h3
    rw [starEach_cons (slotM_star H h1), backTo_cons]
    refine spliced_cons (slot_ok H hm F ha.pnd h1 fun v s1 own1 k1 F1 ho1 hp1 hs1 hn1 => ?_)
    have a1 := ha.next k1 hp1 ho1
    have a2 : AccOk own1 hid env st1 s1 (acc ++ [(sl, v)]) := by
      refine ⟨fun p hp => ?_, fun p hp ds e => ?_, ?_⟩
      · rcases List.mem_append.mp hp with hp | hp
        · exact a1.sl p hp
        · rw [List.mem_singleton.mp hp]; exact hs1
      · rcases List.mem_append.mp hp with hp | hp
        · exact a1.un p hp ds e
        · rw [List.mem_singleton.mp hp] at e ⊢; exact (hn1 ds e).1
      · refine List.pairwise_append.mpr ⟨a1.pw, List.pairwise_singleton .., fun p hp q hq => ?_⟩
        rw [List.mem_singleton.mp hq]
        intro ds es e1 e2
        obtain ⟨_, a, e3, _, e4⟩ := hn1 es e2
        have h5 := ha.sl p hp
        rw [e1] at h5
        obtain ⟨b, vs, c, e6, _, e7, _⟩ := h5
        show p.2 ≠ v
        rw [e3, e6]
        intro e8
        cases e8
        rw [e4] at e7; cases e7
    refine slots_ok H hm F1 a2 h2 fun vs s2 own2 k2 F2 ho2 hl a3 => q (v :: vs) s2 own2 (k1.trans k2) F2 (fun a h => ?_) (by simp [hl]) (by simpa using a3)
    rcases ho2 a h with h | h
    · exact ho1 a h
    · exact .inr (none_kp k1 h)
theorem SlotV.seq {sl : Slot} {v : Value} (h : SlotV own hid sl v s) (k : ∀ a o, isSeqObj o → s.heap.get? a = some o → s'.heap.get? a = some o) : SlotV own hid sl v s' := by
  have m : ∀ a o, isSeqObj o → hk (own ++ hid) s.heap a = some o → hk (own ++ hid) s'.heap a = some o := fun a o hs e => hk_of (hk_not e) (k a o hs (hk_sub e))
  cases sl with
  | sh d => exact Rd.mono m d v h
  | ow ds =>
    obtain ⟨a, vs, c, e1, e2, e3, e4⟩ := h
    exact ⟨a, vs, c, e1, e2, k a _ (.inl ⟨_, _, rfl⟩) e3, RdL.mono m _ _ e4⟩
abbrev Ent := Str × Pos × Slot × Value
noncomputable def putA (st : Sto) (l : List Ent) : Sto := l.foldl (fun st p => put st p.1 p.2.2.1) st
theorem stores_ok (f : Ent → Value → Sem Unit) (hf : ∀ (p : Ent) (v : Value) (s : Shared) (Q : Unit → Shared → Prop) (E : Value → Shared → Prop), wpAny (model prog w) A (storeName env p.1 v) Q E s → wpAny (model prog w) A (f p v) Q E s) :
    ∀ (l : List Ent) {st : Sto} {s : Shared}, FOk B env st hid own s₀ s → (∀ p ∈ l, storable env.scope.names p.1 = true) → AccOk own hid env st s (l.map (·.2.2)) → ∀ {Q : Unit → Shared → Prop} {E : Value → Shared → Prop},
    (∀ s', Go B env hid s₀ own s (putA st l) own s' → Q () s') → wpAny (model prog w) A (assignInOrder (l.map f) (l.map (·.2.2.2))) Q E s
  | [], st, s, F, hs, ha, Q, E, q => wpAny_pure (q s ⟨F, Fw.refl _ _, fun _ h => .inl h, fun _ h => h⟩)
  | p :: r, st, s, F, hs, ha, Q, E, q => by
    show wpAny _ A (do holding (r.map (·.2.2.2)) (f p p.2.2.2); assignInOrder (r.map f) (r.map (·.2.2.2))) Q E s
    refine wpAny_bind (wpAny_holding (hf _ _ _ _ _ (store_nm F (hs p (List.mem_cons_self ..)) (ha.sl p.2.2 (List.mem_cons_self ..)) (ha.un p.2.2 (List.mem_cons_self ..)) fun s1 g1 hseq hun _ => ?_)))
    have hpw := List.pairwise_cons.mp ha.pw
    refine stores_ok f hf r g1.F (fun p' hp' => hs p' (List.mem_cons_of_mem _ hp')) ⟨fun p' hp' => (ha.sl p' (List.mem_cons_of_mem _ hp')).seq hseq, fun p' hp' ds e => ?_, hpw.2⟩ fun s2 g2 => q s2 (g1.trans g2)
    have h1 := ha.sl p' (List.mem_cons_of_mem _ hp')
    refine hun p'.2 (fun heq => ?_) (ha.un p' (List.mem_cons_of_mem _ hp') ds e)
    cases hsl : p.2.2.1 with
    | ow es => exact hpw.1 p' hp' es ds hsl e heq.symm
    | sh d =>
      have h2 := ha.sl p.2.2 (List.mem_cons_self ..)
      rw [hsl] at h2
      rw [e] at h1
      obtain ⟨a, vs, c, e1, e2, _⟩ := h1
      exact sh_ne h2 e2 (heq ▸ e1)
end
theorem name_pos (x : Str) (p : Pos) : Expr.pos (.Name x p) = p := rfl
theorem swapped2 {env : Env} {e f : Expr} {x y : Str} {px py tp vp : Pos} {c c' : Nat} (hk : env.scope.kind = .function) (hxy : x ≠ y) (he : ∀ g p, e ≠ .Starred g p) (hf : ∀ g p, f ≠ .Starred g p) (hu : unfolded [e, f] = true) :
    ∃ o, swappedStores [.Tuple [.Name x px, .Name y py] c tp] (.Tuple [e, f] c' vp) env = pure o ∧ (o = none ∨ o = some [x, y]) := by
  simp only [unfolded, Bool.and_eq_true, Bool.not_eq_true'] at hu
  have hb : env.blockKind = .function := by simp [Env.blockKind, hk, ScopeKind.isAnnotationScope]
  have hbk : (env.blockKind != .function) = false := by rw [hb]; rfl
  unfold swappedStores
  simp only [hbk, List.length_cons, List.length_nil, hu.1, hu.2]
  rw [if_neg (by decide)]
  have h1 : (x == y) = false := beq_eq_false_iff_ne.mpr hxy
  have h2 : (y == x) = false := beq_eq_false_iff_ne.mpr (Ne.symm hxy)
  split
  · rename_i h
    exfalso
    revert h
    simp only [List.any_cons, List.any_nil, Bool.or_false]
    intro h
    cases h
  · by_cases ha : env.kindOf x = some .local <;> by_cases hc : env.kindOf y = some .local ∧ py.line = px.line <;>
      first | (simp [ha, hc, name_pos, List.filterMap_cons, List.eraseDups, List.eraseDupsBy, List.eraseDupsBy.loop, h1, h2]; exact ⟨_, rfl, by simp⟩) | simp [ha, hc, name_pos, List.filterMap_cons, List.eraseDups, List.eraseDupsBy, List.eraseDupsBy.loop, h1, h2]
theorem swapped3 {env : Env} {e f g : Expr} {x y z : Str} {px py pz tp vp : Pos} {c c' : Nat} (hk : env.scope.kind = .function) (hxy : x ≠ y) (hxz : x ≠ z) (hyz : y ≠ z) (he : ∀ g p, e ≠ .Starred g p) (hf : ∀ g p, f ≠ .Starred g p) (hg : ∀ h p, g ≠ .Starred h p) (hu : unfolded [e, f, g] = true) :
    ∃ o, swappedStores [.Tuple [.Name x px, .Name y py, .Name z pz] c tp] (.Tuple [e, f, g] c' vp) env = pure o ∧ (o = none ∨ o = some [x, y, z]) := by
  simp only [unfolded, Bool.and_eq_true, Bool.not_eq_true'] at hu
  have hb : env.blockKind = .function := by simp [Env.blockKind, hk, ScopeKind.isAnnotationScope]
  have hbk : (env.blockKind != .function) = false := by rw [hb]; rfl
  unfold swappedStores
  simp only [hbk, List.length_cons, List.length_nil, hu.1, hu.2]
  rw [if_neg (by simp)]
  have h1 : (x == y) = false := beq_eq_false_iff_ne.mpr hxy
  have h2 : (y == x) = false := beq_eq_false_iff_ne.mpr (Ne.symm hxy)
  have h3 : (x == z) = false := beq_eq_false_iff_ne.mpr hxz
  have h4 : (z == x) = false := beq_eq_false_iff_ne.mpr (Ne.symm hxz)
  have h5 : (y == z) = false := beq_eq_false_iff_ne.mpr hyz
  have h6 : (z == y) = false := beq_eq_false_iff_ne.mpr (Ne.symm hyz)
  split
  · rename_i h
    exfalso
    revert h
    simp only [List.any_cons, List.any_nil, Bool.or_false]
    intro h
    cases h
  · by_cases ha : env.kindOf x = some .local <;> by_cases hc : env.kindOf y = some .local ∧ py.line = px.line <;> by_cases hd : env.kindOf z = some .local ∧ pz.line = px.line <;>
      first | (simp [ha, hc, hd, name_pos, List.filterMap_cons, List.eraseDups, List.eraseDupsBy, List.eraseDupsBy.loop, h1, h2, h3, h4, h5, h6]; exact ⟨_, rfl, by simp⟩) | simp [ha, hc, hd, name_pos, List.filterMap_cons, List.eraseDups, List.eraseDupsBy, List.eraseDupsBy.loop, h1, h2, h3, h4, h5, h6]
end Mine
/-! part 18 -/
set_option maxRecDepth 100000
namespace Mine
open PySem PySem.Calls PyProof.Rows PySem.W
structure SndX (prog : Program) (w : World) (B : Bt) (n : Nat) (R : Ip) : Prop extends SndE prog w B n R where
  used : ∀ {A : Around} {hid : List Addr} {s : Shared} {env : Env} {σ : Sig} {elt : Expr} {gens : List Comprehension} {sc : Scope} {pos : Pos} {d : PyData}, Rm A n → EOk B env σ hid s → R.ev env.scope.names σ (.ListComp elt gens sc pos) = some d →
    ∀ (u : Value → Sem Unit) (Q : Shared → Prop) (E : Value → Shared → Prop), (∀ v s' C m, Kp s s' → Rd (hk hid s'.heap) d v → s.heap.get? C = none → s'.heap.Ns C m →
      wpAny (model prog w) A (u v) (fun _ s'' => ∃ m', s''.heap.Ns C m' ∧ ∀ s''', Fw [C] s'' s''' → Q s''') E s') → wpAny (model prog w) A (evalThenUse (.ListComp elt gens sc pos) env u) (fun _ => Q) E s
  exs : ∀ {A : Around} {hid own : List Addr} {s₀ s : Shared} {env : Env} {st : Sto} {body : List Stmt} {o : Out}, Rm A n → FOk B env st hid own s₀ s → R.exs env.scope.names st body = some o →
    ∀ {Q : Flow → Shared → Prop} {E : Value → Shared → Prop}, (∀ f s', Post B env hid s₀ own s o f s' → Q f s') → wpAny (model prog w) A (execs body env) Q E s
section
variable {prog : Program} {w : World} {B : Bt} {A : Around} {hid own : List Addr} {s s₀ s' : Shared} {env : Env} {st st' : Sto} {n : Nat} {R : Ip} {P : Prims} {W : List Addr} {σ : Sig}
theorem go_kp {own' : List Addr} (F' : FOk B env st' hid own' s₀ s') (k : Kp s s') (ho : ∀ a ∈ own', a ∈ own ∨ s.heap.get? a = none) : Go B env hid s₀ own s st' own' s' := ⟨F', k.fw _, ho, fun a => none_kp k⟩
theorem nm_wr (F : FOk B env st hid own s₀ s) (k : Fw W s s') (hL : env.locals ∉ W) (hc : ∀ x c, env.cells.lookup x = some c → c ∉ W) {y : Str} {u : Value} (nu : NmAt env y u s) : NmAt env y u s' := by
  rcases nu with ⟨a, m, b, d⟩ | ⟨a, c, b, o, d, f⟩
  · exact .inl ⟨a, m, b.at' fun o e => k.get hL e, d⟩
  · exact .inr ⟨a, c, b, o, k.get (hc y c b) d, f⟩
theorem nm_wr_back (F : FOk B env st hid own s₀ s) (k : Fw W s s') (hL : env.locals ∉ W) (hc : ∀ x c, env.cells.lookup x = some c → c ∉ W) {y : Str} {u : Value} {sl : Slot} (e : st.lookup y = some sl) (nu : NmAt env y u s') : NmAt env y u s := by
  obtain ⟨u', a, _⟩ := F.slots y _ e
  have := nu.fun (nm_wr F k hL hc a)
  subst this
  exact a
theorem FOk.wr (F : FOk B env st hid own s₀ s) (k : Fw W s s') (h0 : ∀ a ∈ W, s₀.heap.get? a = none) (hh : HidOk hid s') (hL : env.locals ∉ W) (hc : ∀ x c, env.cells.lookup x = some c → c ∉ W) (ho : ∀ a ∈ own, a ∉ W)
    (hw : ∀ a ∈ W, a ∈ hid ∨ ∀ o, s.heap.get? a = some o → ¬ isSeqObj o) : FOk B env st hid own s₀ s' where
  kp := ((F.kp.fw W).trans k |>.drop fun a ha => .inr (h0 a ha)).kp
  base0 := F.base0
  hids := hh
  apo := F.apo
  kind := F.kind
  gl := F.gl
  bl := F.bl
  nodbg := F.nodbg
  nofree := F.nofree
  L0 := F.L0
  ns := let ⟨m, h⟩ := F.ns; ⟨m, h.at' fun o e => k.get hL e⟩
  cells := F.cells
  cell := fun x c e => let ⟨a, v, o, h1, h2⟩ := F.cell x c e; ⟨a, v, o, k.get (hc x c e) h1, h2⟩
  apart := F.apart
  owns := fun a ha => let ⟨a1, vs, c, e⟩ := F.owns a ha; ⟨a1, vs, c, k.get (ho a ha) e⟩
  slots := fun x sl e => by
    obtain ⟨v, a, b⟩ := F.slots x sl e
    refine ⟨v, nm_wr F k hL hc a, b.wr k (fun a ha => ?_) fun ds a hs hv => ?_⟩
    · rcases hw a ha with q | q
      · exact .inl (List.mem_append_right _ q)
      · exact .inr q
    · subst hs
      obtain ⟨a', vs, c, e1, e2, _⟩ := b
      rw [hv] at e1; cases e1
      exact ho a e2
  dist := fun x y ds es a hxy hx hy nx ny => F.dist x y ds es a hxy hx hy (nm_wr_back F k hL hc hx nx) (nm_wr_back F k hL hc hy ny)
  nd := F.nd
  cnd := F.cnd
theorem evU_ok (H : SndX prog w B n R) (hm : Rm A n) (F : FOk B env st hid own s₀ s) {elt : Expr} {gens : List Comprehension} {sc : Scope} {pos : Pos} {d : PyData} (x : evM R env.scope.names st (.ListComp elt gens sc pos) = some (d, st')) {u : Value → Sem Unit} {Q : Shared → Prop} {E : Value → Shared → Prop}
    (q : ∀ v s' own' C m, Kp s s' → FOk B env st' hid own' s₀ s' → (∀ a ∈ own', a ∈ own) → Rd (hk (own' ++ hid) s'.heap) d v → s.heap.get? C = none → s'.heap.Ns C m →
      wpAny (model prog w) A (u v) (fun _ s'' => ∃ m', s''.heap.Ns C m' ∧ ∀ s''', Fw [C] s'' s''' → Q s''') E s') : wpAny (model prog w) A (evalThenUse (.ListComp elt gens sc pos) env u) (fun _ => Q) E s := by
  unfold evM at x
  split at x
  · rename_i d' e1
    cases x
    exact H.used hm F.esh e1 u Q E fun v s' C m k r => q v s' own C m k (F.keeps k) (fun _ h => h) r
  · split at x
    · rename_i _ d' e1
      split at x
      · rename_i hi
        cases x
        exact H.used hm F.eall e1 u Q E fun v s' C m k r => q v s' own C m k (F.keeps k) (fun _ h => h) (Rd.imm hi r)
      · cases x
        exact H.used hm F.eall e1 u Q E fun v s' C m k r => q v s' [] C m k ((F.pend pnd_nil).keeps k) (fun _ h => by cases h) r
    · cases x
theorem swaps_name {e : Expr} {x : Str} {px : Pos} {l : Nat} (hn : noComp e = true) : swapsWith e (some (.Name x px)) l env = pure false ∨ (swapsWith e (some (.Name x px)) l env = pure true ∧ ∃ elt gens sc p, e = .ListComp elt gens sc p) := by
  cases e with
  | ListComp elt gens sc p =>
    cases h : (env.blockKind == .function && env.kindOf x == some .local && px.line == (Expr.ListComp elt gens sc p).pos.line && !(sc.names.any fun (n, k) => n == x && (k == .local || k == .cell))) with
    | false => exact .inl (by unfold swapsWith; simp only [h])
    | true => exact .inr ⟨by unfold swapsWith; simp only [h], _, _, _, _, rfl⟩
  | SetComp => cases hn
  | DictComp => cases hn
  | _ => exact .inl rfl
theorem asg_name (H : SndX prog w B n R) (hm : Rm A n) (F : FOk B env st hid own s₀ s) {x : Str} {px pos : Pos} {e : Expr} {sl : Slot} (hx : storable env.scope.names x = true) (hn : noComp e = true) (hs : slotM R env.scope.names st e = some (sl, st'))
    {Q : Flow → Shared → Prop} {E : Value → Shared → Prop} (q : ∀ f s', Post B env hid s₀ own s (.next (put st' x sl)) f s' → Q f s') : wpAny (model prog w) A (exec (.Assign [.Name x px] e pos) env) Q E s := by
  rcases swaps_name (env := env) (x := x) (px := px) (l := pos.line) hn with hsw | ⟨hsw, elt, gens, sc, p, rfl⟩
  · refine wpAny_Assign_Name (slot_ok H.toSndE hm F pnd_nil hs fun v s1 own1 k1 F1 ho1 _ hs1 hn1 => store_nm F1 hx hs1 (fun ds e => (hn1 ds e).1) fun s2 g2 _ _ _ => ?_) hsw
    exact q _ _ ⟨rfl, own1, (go_kp F1 k1 ho1).trans g2⟩
  · rw [exec_Assign_Name_used _ _ _ _ hsw]
    obtain ⟨⟨d, st1⟩, h1, h2⟩ := Option.map_eq_some_iff.mp (show (evM R env.scope.names st (.ListComp elt gens sc p)).map _ = some (sl, st') from hs)
    cases h2
    refine wpAny_bind (wpAny_standAt (wpAny_bind (wpAny_mono (evU_ok H hm F h1 (Q := Q .next) fun v s1 own1 C m k1 F1 ho1 r1 hC hCn => ?_) (fun _ _ h => wpAny_pure h) fun _ _ h => h)))
    have hCL : C ≠ env.locals := fun q => by
      obtain ⟨o, e⟩ := F.L_live
      rw [← q, hC] at e; cases e
    have hCc : ∀ y c, env.cells.lookup y = some c → c ∉ [C] := fun y c e m => by
      obtain ⟨_, v, o, h1, _⟩ := F.cell y c e
      rw [List.mem_singleton.mp m, hC] at h1; cases h1
    have hCo : ∀ a ∈ own1, a ∉ [C] := fun a ha m => by
      obtain ⟨_, vs, c, e⟩ := F.owns a (ho1 a ha)
      rw [List.mem_singleton.mp m, hC] at e; cases e
    have hCh : C ∉ hid := fun m => by
      obtain ⟨o, e⟩ := F.hids C m
      rw [hC] at e; cases e
    refine PyProof.Rows.assign_Name (store_nm F1 hx (sl := .sh d) r1 (fun ds e => by cases e) fun s2 g2 _ _ hN => ?_)
    obtain hC2 := hN C m hCn hCL
    refine ⟨m, hC2, fun s3 k3 => q _ _ ⟨rfl, own1, ?_⟩⟩
    have F3 : FOk B env (put st1 x (.sh d)) hid own1 s₀ s3 := by
      refine g2.F.wr k3 (fun a ha => by rw [List.mem_singleton.mp ha]; exact none_kp F.kp hC) (fun a ha => ?_) (fun q => hCL (List.mem_singleton.mp q).symm) hCc hCo fun a ha => .inr (by rw [List.mem_singleton.mp ha]; exact ns_nonseq hC2)
      obtain ⟨o, e⟩ := g2.F.hids a ha
      exact ⟨o, k3.get (fun m => hCh (by rw [← List.mem_singleton.mp m]; exact ha)) e⟩
    have gk := (go_kp (own := own) F1 k1 fun a ha => .inl (ho1 a ha)).trans g2
    refine ⟨F3, ?_, gk.sub, fun a ha => ?_⟩
    · have a1 : Fw (C :: frW env own) s s2 := gk.fw.mono fun a ha => List.mem_cons_of_mem _ ha
      have a2 : Fw (C :: frW env own) s2 s3 := k3.mono fun a ha => by rw [List.mem_singleton.mp ha]; exact List.mem_cons_self ..
      refine (a1.trans a2).drop fun a ha => ?_
      rcases List.mem_cons.mp ha with rfl | ha
      · exact .inr hC
      · exact .inl ha
    · by_cases h : a = C
      · subst h; exact hC
      · refine gk.dom a ?_
        cases e : s2.heap.get? a with
        | none => rfl
        | some o => rw [k3.get (by simpa using h) e] at ha; cases ha
/-- a list of the frame's own is changed in place -/
theorem own_upd (F : FOk B env st hid own s₀ s) {a : Addr} {x : Str} {ds ds' : List PyData} {vs' : List Value} {c' : Nat} (hx : st.lookup x = some (.ow ds)) (hn : NmAt env x (.ref a) s) (ha : a ∈ own) (fw : Fw [a] s s')
    (hg : s'.heap.get? a = some (lObj vs' c')) (hr : RdL (hk (own ++ hid) s.heap) ds' vs') : Go B env hid s₀ own s (put st x (.ow ds')) own s' := by
  have hL : env.locals ∉ [a] := fun m => F.L_own (by rw [List.mem_singleton.mp m]; exact ha)
  have hc : ∀ y c, env.cells.lookup y = some c → c ∉ [a] := fun y c e m => F.c_own e (by rw [List.mem_singleton.mp m]; exact ha)
  have hw : ∀ b ∈ [a], b ∈ own ++ hid ∨ ∀ o, s.heap.get? b = some o → ¬ isSeqObj o := fun b hb => .inl (List.mem_append_left _ (by rw [List.mem_singleton.mp hb]; exact ha))
  have hah : a ∉ hid := F.apo a ha
  refine ⟨{ F with
    kp := ((F.kp.fw [a]).trans fw |>.drop fun b hb => .inr (by rw [List.mem_singleton.mp hb]; exact (F.owns a ha).1)).kp
    hids := fun b hb => by
      obtain ⟨o, e⟩ := F.hids b hb
      exact ⟨o, fw.get (fun m => hah (by rw [← List.mem_singleton.mp m]; exact hb)) e⟩
    ns := let ⟨m, h⟩ := F.ns; ⟨m, h.at' fun o e => fw.get hL e⟩
    cell := fun y c e => let ⟨a, v, o, h1, h2⟩ := F.cell y c e; ⟨a, v, o, fw.get (hc y c e) h1, h2⟩
    owns := fun b hb => by
      obtain ⟨h1, vs, c, e⟩ := F.owns b hb
      by_cases h : b = a
      · subst h; exact ⟨h1, _, _, hg⟩
      · exact ⟨h1, vs, c, fw.get (by simpa using h) e⟩
    slots := fun y sl e => by
      rw [put_lookup] at e
      split at e
      · rename_i hy
        cases e; subst hy
        exact ⟨_, nm_wr F fw hL hc hn, a, vs', c', rfl, ha, hg, rdL_wr fw hw hr⟩
      · rename_i hy
        obtain ⟨v, h1, h2⟩ := F.slots y sl e
        refine ⟨v, nm_wr F fw hL hc h1, h2.wr fw hw fun es b hs hv hm => ?_⟩
        subst hs
        rw [List.mem_singleton.mp hm] at hv
        subst hv
        exact F.dist y x es ds a hy e hx h1 hn
    dist := fun y z es fs b hyz hy hz ny nz => by
      have key : ∀ {y : Str} {es : List PyData}, (put st x (.ow ds')).lookup y = some (.ow es) → ∃ es', st.lookup y = some (.ow es') := fun {y es} hy => by
        rw [put_lookup] at hy
        split at hy
        · rename_i h; subst h; exact ⟨ds, hx⟩
        · exact ⟨es, hy⟩
      obtain ⟨es', hy'⟩ := key hy
      obtain ⟨fs', hz'⟩ := key hz
      exact F.dist y z es' fs' b hyz hy' hz' (nm_wr_back F fw hL hc hy' ny) (nm_wr_back F fw hL hc hz' nz)
    nd := put_nd F.nd }, ?_, fun b hb => .inl hb, fun b hb => ?_⟩
  · exact fw.mono fun b hb => by
      rw [List.mem_singleton.mp hb]
      simp only [frW, List.mem_cons, List.mem_append]
      exact .inr (.inr ha)
  · by_cases h : b = a
    · subst h; rw [hg] at hb; cases hb
    · cases e : s.heap.get? b with
      | none => rfl
      | some o => rw [fw.get (by simpa using h) e] at hb; cases hb
/-- a name with a list of its own is read -/
theorem ow_name (F : FOk B env st hid own s₀ s) {x : Str} {p : Pos} {ds : List PyData} (hx : st.lookup x = some (.ow ds)) {Q E : Value → Shared → Prop}
    (q : ∀ a vs c, NmAt env x (.ref a) s → a ∈ own → s.heap.get? a = some (lObj vs c) → RdL (hk (own ++ hid) s.heap) ds vs → Q (.ref a) s) : wpAny (model prog w) A (eval (.Name x p) env) Q E s := by
  obtain ⟨v, nv, a, vs, c, rfl, h2, h3, h4⟩ := F.slots x _ hx
  exact wpAny_Name (load_nm F.eall nv (q a vs c nv h2 h3 h4)) (nv.dbg F.eall)
theorem expr_fun {e : Expr} {pos : Pos} (hk : env.scope.kind = .function) (hs : swapsWith e none pos.line env = pure false) {Q : Flow → Shared → Prop} {E : Value → Shared → Prop}
    (h : wpAny (model prog w) A (eval e env) (fun v s' => v = .none ∧ Q .next s') E s) : wpAny (model prog w) A (exec (.Expr e pos) env) Q E s :=
  wpAny_Expr (wpAny_mono h (fun v s' h' => by obtain ⟨rfl, h'⟩ := h'; exact h') fun _ _ e => e) (by simp [interactive, hk]) hs
theorem ex_append (H : SndX prog w B n R) (hm : Rm A n) (F : FOk B env st hid own s₀ s) {x m : Str} {p0 ap p ep : Pos} {e : Expr} {ds : List PyData} {d : PyData} (hmn : isNm m "append" = true) (hl : (ap.endLine == p.line) = true) (hx : st.lookup x = some (.ow ds))
    (hf : few ds.length = true) (he : R.ev env.scope.names (shσ st) e = some d ∨ (R.ev env.scope.names (allσ st) e = some d ∧ imm d = true)) {Q : Flow → Shared → Prop} {E : Value → Shared → Prop}
    (q : ∀ f s', Post B env hid s₀ own s (.next (put st x (.ow (ds ++ [d])))) f s' → Q f s') : wpAny (model prog w) A (exec (.Expr (.Call (.Attribute (.Name x p0) m ap) [e] [] p) ep) env) Q E s := by
  have := isNm_eq hmn
  subst this
  have hfe : ∃ σ, R.ev env.scope.names σ e = some d := by rcases he with h | ⟨h, _⟩ <;> exact ⟨_, h⟩
  obtain ⟨σ', hfe⟩ := hfe
  refine expr_fun F.kind rfl (wpAny_Call_method (T := "list") (id := "list.append") rfl (meth_few H.toSndE hfe) hl PySem.F.plainAttrs_list PySem.F.slot_list_append PySem.F.type_list_append (ow_name F hx fun a vs c nv ha hg hr => ?_))
  refine ⟨typeIs_list hg, fun b q => ⟨_, by cases q; exact hg, rfl⟩, ?_⟩
  rw [meth_args H.toSndE hfe]
  have hev : ∀ (Q E : Value → Shared → Prop), (∀ v s', Kp s s' → Rd (hk (own ++ hid) s'.heap) d v → Q v s') → wpAny (model prog w) A (eval e env) Q E s := fun Q E q => by
    rcases he with h | ⟨h, hi⟩
    · exact H.ev hm F.esh h Q E q
    · exact H.ev hm F.eall h Q E fun v s' k r => q v s' k (r.imm hi)
  refine Calls.callWith_builtin rfl (evalArgs_plain (spliced_cons (hev _ _ fun v s1 k1 r1 => spliced_nil ?_)))
  refine append_call (k1.get hg) (by rw [hr.length]; exact few_le' hf) fun s2 fw hg2 => ⟨rfl, q _ _ ⟨rfl, own, ?_⟩⟩
  exact (go_kp (F.keeps k1) k1 fun a h => .inl h).trans (own_upd (F.keeps k1) hx (nv.kp k1) ha fw hg2 ((hr.keeps k1).snoc r1))
theorem mapSeq_erase (ys : List Value) (c k : Nat) (hk : k < ys.length) : Obj.mapSeq (fun xs => xs.eraseIdxIfInBounds k) (lObj ys c) = lObj (ys.eraseIdx k) (c + 1) := by
  unfold Obj.mapSeq
  simp [List.length_eraseIdx, hk]
  omega
theorem RdL.erase {K : KM} : ∀ {ds : List PyData} {vs : List Value} (k : Nat), RdL K ds vs → RdL K (ds.eraseIdx k) (vs.eraseIdx k)
  | [], _, k, e => by simp only [RdL] at e; subst e; simp [RdL]
  | d :: ds, _, 0, e => by
    simp only [RdL] at e
    obtain ⟨v, r, rfl, e2, e3⟩ := e
    simpa using e3
  | d :: ds, _, k + 1, e => by
    simp only [RdL] at e
    obtain ⟨v, r, rfl, e2, e3⟩ := e
    simp only [List.eraseIdx_cons_succ, RdL]
    exact ⟨v, _, rfl, e2, RdL.erase k e3⟩
theorem ex_append_pop (H : SndX prog w B n R) (hm : Rm A n) (F : FOk B env st hid own s₀ s) {x y m m2 : Str} {p0 p1 ap ap2 p p2 ep : Pos} {e : Expr} {ds es : List PyData} {d : PyData} {k : Int} (hmn : isNm m "append" = true) (hmn2 : isNm m2 "pop" = true) (hxy : x ≠ y)
    (hl : (ap.endLine == p.line) = true) (hl2 : (ap2.endLine == p2.line) = true) (hx : st.lookup x = some (.ow ds)) (hy : st.lookup y = some (.ow es))
    (hf : few ds.length = true) (hf2 : few es.length = true) (he : R.ev env.scope.names (allσ st) e = some (.int k)) (hk0 : 0 ≤ k) (hd : es[k.toNat]? = some d) (hi : imm d = true) {Q : Flow → Shared → Prop} {E : Value → Shared → Prop}
    (q : ∀ f s', Post B env hid s₀ own s (.next (put (put st y (.ow (es.eraseIdx k.toNat))) x (.ow (ds ++ [d])))) f s' → Q f s') :
    wpAny (model prog w) A (exec (.Expr (.Call (.Attribute (.Name x p0) m ap) [.Call (.Attribute (.Name y p1) m2 ap2) [e] [] p2] [] p) ep) env) Q E s := by
  have := isNm_eq hmn
  subst this
  have := isNm_eq hmn2
  subst this
  refine expr_fun F.kind rfl (wpAny_Call_method (T := "list") (id := "list.append") rfl rfl hl PySem.F.plainAttrs_list PySem.F.slot_list_append PySem.F.type_list_append (ow_name F hx fun a vs c nv ha hg hr => ?_))
  refine ⟨typeIs_list hg, fun b q => ⟨_, by cases q; exact hg, rfl⟩, ?_⟩
  rw [starEach_cons (by rintro _ _ ⟨⟩), backTo_cons]
  refine Calls.callWith_builtin rfl (evalArgs_plain (spliced_cons ?_))
  refine wpAny_Call_method (T := "list") (id := "list.pop") rfl (meth_few H.toSndE he) hl2 PySem.F.plainAttrs_list PySem.F.slot_list_pop PySem.F.type_list_pop (ow_name F hy fun b us c2 nb hb hgb hrb => ?_)
  refine ⟨typeIs_list hgb, fun b q => ⟨_, by cases q; exact hgb, rfl⟩, ?_⟩
  rw [meth_args H.toSndE he]
  refine Calls.callWith_builtin rfl (evalArgs_plain (spliced_cons (H.ev hm F.eall he _ _ fun v s1 k1 r1 => spliced_nil ?_)))
  obtain ⟨t, rfl⟩ := rd_int r1
  obtain ⟨v, hv, rv⟩ := RdL.get hrb hd
  have hkl : k.toNat < us.length := by
    rcases Nat.lt_or_ge k.toNat us.length with h | h
    · exact h
    · rw [List.getElem?_eq_none h] at hv; cases hv
  have hul := few_le' hf2
  have hul2 := hrb.length
  have F1 := F.keeps k1
  have hab : a ≠ b := fun q => by subst q; exact F.dist x y ds es a hxy hx hy nv nb
  refine call_meets PySem.F.slot_list_pop (typeIs_list (k1.get hgb)) PySem.F.entry_list_pop (PySem.F.args_list_pop_2 _ _) (PySem.MeetsSeq.list_pop_at b us.toArray c2 k t k.toNat v (by simp [Builtin.List.listFitsIndex]; omega) (seqIndex_of hk0 (by simp; omega)) (by simpa using hv) (by rw [List.size_toArray, sizeLine_big]; omega)) ⟨k1.get hgb, ?_⟩
  have hgb2 : (s1.heap.update b (Obj.mapSeq fun xs => xs.eraseIdxIfInBounds k.toNat)).get? b = some (lObj (us.eraseIdx k.toNat) (c2 + 1)) := by
    rw [Heap.get?_update_self _ (k1.get hgb) (by rw [mapSeq_erase _ _ _ hkl]; rfl), mapSeq_erase _ _ _ hkl]
  have fw1 : Fw [b] s1 { s1 with heap := s1.heap.update b (Obj.mapSeq fun xs => xs.eraseIdxIfInBounds k.toNat), toks := s1.toks } := sameBut_fw (Heap.SameBut.update ..)
  have g1 := own_upd F1 hy (nb.kp k1) hb fw1 hgb2 ((hrb.keeps k1).erase k.toNat)
  have hx2 : (put st y (.ow (es.eraseIdx k.toNat))).lookup x = some (.ow ds) := by rw [put_lookup, if_neg hxy]; exact hx
  refine spliced_nil ?_
  obtain ⟨v2, nv2, a2, vs2, c3, e1, ha2, hg2, hr2⟩ := g1.F.slots x _ hx2
  have hnL : env.locals ∉ [b] := fun m => F.L_own (by rw [List.mem_singleton.mp m]; exact hb)
  have hnc : ∀ y c, env.cells.lookup y = some c → c ∉ [b] := fun y c e m => F.c_own e (by rw [List.mem_singleton.mp m]; exact hb)
  have := nv2.fun (nm_wr F1 fw1 hnL hnc (nv.kp k1))
  subst this
  cases e1
  refine append_call hg2 (by rw [hr2.length]; exact few_le' hf) fun s3 fw3 hg3 => ⟨rfl, q _ _ ⟨rfl, own, ?_⟩⟩
  exact (go_kp F1 k1 fun a h => .inl h).trans (g1.trans (own_upd g1.F hx2 nv2 ha2 fw3 hg3 (hr2.snoc (rv.imm hi))))
theorem mapSeq_ins (ys : List Value) (c : Nat) (v : Value) : Obj.mapSeq (fun xs : Array Value => have k := if (0 : Int) < 0 then (0 + ((xs.size : Nat) : Int)).toNat else min (0 : Int).toNat xs.size; (xs.extract 0 k).push v ++ xs.extract k) (lObj ys c) = lObj (v :: ys) (c + 1) := by
  unfold Obj.mapSeq
  simp
theorem ex_insert (H : SndX prog w B n R) (hm : Rm A n) (F : FOk B env st hid own s₀ s) {x m : Str} {p0 ap p ep cp : Pos} {ck : Nat} {e : Expr} {ds : List PyData} {d : PyData} (hmn : isNm m "insert" = true) (hl : (ap.endLine == p.line) = true) (hx : st.lookup x = some (.ow ds))
    (hf : few ds.length = true) (he : R.ev env.scope.names (allσ st) e = some d) (hi : imm d = true) {Q : Flow → Shared → Prop} {E : Value → Shared → Prop}
    (q : ∀ f s', Post B env hid s₀ own s (.next (put st x (.ow (d :: ds)))) f s' → Q f s') : wpAny (model prog w) A (exec (.Expr (.Call (.Attribute (.Name x p0) m ap) [.Constant (.int 0) ck cp, e] [] p) ep) env) Q E s := by
  have := isNm_eq hmn
  subst this
  have hst : backTo p (starEach [.Constant (.int 0) ck cp, e] env) = [(false, eval (.Constant (.int 0) ck cp) env), (false, eval e env)] := by
    rw [starEach_cons (by rintro _ _ ⟨⟩), backTo_cons, starEach_cons (H.notStar he), backTo_cons]; rfl
  refine expr_fun F.kind rfl (wpAny_Call_method (T := "list") (id := "list.insert") rfl (by rw [hst]; rfl) hl PySem.F.plainAttrs_list PySem.F.slot_list_insert PySem.F.type_list_insert (ow_name F hx fun a vs c nv ha hg hr => ?_))
  refine ⟨typeIs_list hg, fun b q => ⟨_, by cases q; exact hg, rfl⟩, ?_⟩
  rw [hst]
  refine Calls.callWith_builtin rfl (evalArgs_plain (spliced_cons (wpAny_Constant_int (spliced_cons ?_))))
  have k0 : Kp s { s with toks := s.toks + 1 } := Kp.tok
  refine H.ev hm (F.keeps k0).eall he _ _ fun v s1 k1' r1 => spliced_nil ?_
  have k1 := k0.trans k1'
  have hul := few_le' hf
  have hul2 := hr.length
  refine call_meets PySem.F.slot_list_insert (typeIs_list (k1.get hg)) PySem.F.entry_list_insert (PySem.F.args_list_insert_3 _ _ _) (PySem.AutoListH.list_insert_list_int_val_1 a vs.toArray c 0 s.toks v (by decide) (by rw [List.size_toArray, sizeLine_big]; omega)) ⟨k1.get hg, ?_⟩
  have hg2 := Heap.get?_update_self (fun o => Obj.mapSeq (fun xs : Array Value => have k := if (0 : Int) < 0 then (0 + ((xs.size : Nat) : Int)).toNat else min (0 : Int).toNat xs.size; (xs.extract 0 k).push v ++ xs.extract k) o) (k1.get hg) (by rw [mapSeq_ins]; rfl)
  rw [mapSeq_ins] at hg2
  refine ⟨rfl, q _ _ ⟨rfl, own, ?_⟩⟩
  refine (go_kp (F.keeps k1) k1 fun a h => .inl h).trans (own_upd (F.keeps k1) hx (nv.kp k1) ha (sameBut_fw (Heap.SameBut.update ..)) hg2 ?_)
  simp only [RdL]
  exact ⟨v, vs, rfl, r1.imm hi, hr.keeps k1⟩
end
end Mine
/-! part 19 -/
set_option maxRecDepth 100000
namespace Mine
open PySem PySem.Calls PyProof.Rows PySem.W
section
variable {prog : Program} {w : World} {B : Bt} {A : Around} {hid own : List Addr} {s s₀ s' : Shared} {env : Env} {st st' : Sto} {n : Nat} {R : Ip} {P : Prims} {W : List Addr} {σ : Sig}
theorem slotsM_len {sc : Sc} : ∀ {es : List Expr} {st : Sto} {p : List Slot × Sto}, slotsM R sc st es = some p → p.1.length = es.length
  | [], _, _, h => by simp only [slotsM, Option.some.injEq] at h; subst h; rfl
  | x :: r, st, p, h => by
    simp only [slotsM, Option.bind_eq_some_iff] at h
    obtain ⟨p1, h1, q, h2, h3⟩ := h
    cases h3
    simp [slotsM_len h2]
theorem AccOk.keeps {acc : List (Slot × Value)} (F : FOk B env st hid own s₀ s) (h : AccOk own hid env st s acc) (k : Kp s s') : AccOk own hid env st s' acc :=
  h.next k (h.pnd.keeps F k) fun a ha => .inl ha
theorem AccOk.rev {acc : List (Slot × Value)} (h : AccOk own hid env st s acc) : AccOk own hid env st s acc.reverse :=
  ⟨fun p hp => h.sl p (List.mem_reverse.mp hp), fun p hp => h.un p (List.mem_reverse.mp hp), List.pairwise_reverse.mpr (h.pw.imp fun hq ds es e1 e2 q => hq es ds e2 e1 q.symm)⟩
theorem ev_slots_tuple (H : SndX prog w B n R) (hm : Rm A n) (F : FOk B env st hid own s₀ s) {es : List Expr} {c : Nat} {p : Pos} {sls : List Slot} (hf : few es.length = true) (x : slotsM R env.scope.names st es = some (sls, st')) {Q E : Value → Shared → Prop}
    (q : ∀ a vs c s' own', Go B env hid s₀ own s st' own' s' → vs.length = sls.length → AccOk own' hid env st' s' (sls.zip vs) → s'.heap.get? a = some (tObj vs c) → Q (.ref a) s') : wpAny (model prog w) A (eval (.Tuple es c p) env) Q E s :=
  wpAny_Tuple (slots_ok H.toSndE hm F (acc := []) ⟨by simp, by simp, List.Pairwise.nil⟩ x fun vs s1 own1 k1 F1 ho hl ha => by
    have kp : Kp s1 { s1 with heap := s1.heap.push (tObj vs 0), toks := s1.toks } := Kp.push _
    refine ⟨by rw [hl, slotsM_len x]; exact few_le hf, q _ vs 0 _ own1 (go_kp (F1.keeps kp) (k1.trans kp) fun a h => ho a h) hl ?_ (Heap.get?_push_size _ rfl)⟩
    exact (show AccOk own1 hid env st' s1 (sls.zip vs) by simpa using ha).keeps F1 kp)
theorem ext_new {h' : Heap} (he : Heap.ExtBut s.heap.objs.size s.heap h') : Kp s { s with heap := h', toks := s.toks } := Kp.mk' fun b o e => he b o (Nat.ne_of_lt (Heap.lt_size e)) e
theorem go_look {own' : List Addr} {st'' : Sto} (g : Go B env hid s₀ own s st' own' s') (h : ∀ x, st''.lookup x = st'.lookup x) (nd : (st''.map (·.1)).Nodup) : Go B env hid s₀ own s st'' own' s' := ⟨g.F.look h nd, g.fw, g.sub, g.dom⟩
/-- the stores of a tuple's items, in order or turned round -/
theorem tuple_store (F : FOk B env st hid own s₀ s) {a : Addr} {c : Nat} (l : List Ent) (hs : ∀ p ∈ l, storable env.scope.names p.1 = true) (ha : AccOk own hid env st s (l.map (·.2.2))) {Q : Unit → Shared → Prop} {E : Value → Shared → Prop} (hh : A.handled = none)
    (hg : s.heap.get? a = some (tObj (l.map (·.2.2.2)) c)) (tp : Pos) (c' : Nat) (elts : List Expr) (h1 : (assignEach elts env).map (·.2) = l.map fun p => assign (.Name p.1 p.2.1) env) (h2 : (assignEach elts env).findIdx? (·.1) = none)
    (q : ∀ s', Go B env hid s₀ own s (putA st l) own s' → Q () s') : wpAny (model prog w) A (assign (.Tuple elts c' tp) env (.ref a)) Q E s := by
  refine wpAny_assign_Tuple hh (items := (l.map (·.2.2.2)).toArray) ⟨_, hg, rfl, _, rfl⟩ ?_ h2 fun h' he => ?_
  · have := congrArg List.length h1
    simpa using this
  · rw [h1]
    have k := ext_new he
    exact stores_ok (fun p v => assign (.Name p.1 p.2.1) env v) (fun p v s Q E h => PyProof.Rows.assign_Name h) l (F.keeps k) hs (ha.keeps F k) fun s' g => q s' ((go_kp (F.keeps k) k fun _ h => .inl h).trans g)
theorem tuple_swap (F : FOk B env st hid own s₀ s) {a : Addr} {c : Nat} (l : List Ent) (hs : ∀ p ∈ l, storable env.scope.names p.1 = true) (ha : AccOk own hid env st s (l.map (·.2.2))) {Q : Unit → Shared → Prop} {E : Value → Shared → Prop} (hh : A.handled = none)
    (hg : s.heap.get? a = some (tObj (l.map (·.2.2.2)) c)) (names : List Str) (hn : names = l.map (·.1))
    (q : ∀ s', Go B env hid s₀ own s (putA st l.reverse) own s' → Q () s') : wpAny (model prog w) A (unpackItems (.ref a) names.length none) (fun items s₂ =>
      wpAny (model prog w) A (assignInOrder (names.reverse.map fun n => bindName env n) items.reverse) Q E s₂) E s := by
  subst hn
  have hz : (l.map (·.1)).length = (l.map (·.2.2.2)).toArray.size := by simp
  rw [hz]
  refine unpackItems_tuple hh ⟨_, hg, rfl, _, rfl⟩ fun h' he => ?_
  have k := ext_new he
  have e1 : ((l.map (·.1)).reverse.map fun n => bindName env n) = l.reverse.map fun p v => bindName env p.1 v := by simp [List.map_reverse, Function.comp_def]
  have e2 : (l.map (·.2.2.2)).toArray.toList.reverse = l.reverse.map (·.2.2.2) := by simp [List.map_reverse]
  rw [e1, e2]
  refine stores_ok (fun p v => bindName env p.1 v) (fun p v s Q E h => wpAny_bindName h) l.reverse (F.keeps k) (fun p hp => hs p (List.mem_reverse.mp hp)) ?_ fun s' g => q s' ((go_kp (F.keeps k) k fun _ h => .inl h).trans g)
  have := (ha.keeps F k).rev
  rwa [← List.map_reverse] at this
theorem asg_tuple (H : SndX prog w B n R) (hm : Rm A n) (F : FOk B env st hid own s₀ s) {l0 : List (Str × Pos)} {es elts : List Expr} {c c' : Nat} {tp vp pos : Pos} {sls : List Slot} (hl0 : sls.length = l0.length) (hs : ∀ p ∈ l0, storable env.scope.names p.1 = true)
    (hf : few es.length = true) (x : slotsM R env.scope.names st es = some (sls, st')) (h1 : (assignEach elts env).map (·.2) = l0.map fun p => assign (.Name p.1 p.2) env) (h2 : (assignEach elts env).findIdx? (·.1) = none)
    (hsw : ∃ o, swappedStores [.Tuple elts c tp] (.Tuple es c' vp) env = pure o ∧ (o = none ∨ o = some (l0.map (·.1)))) {out : Sto}
    (hout : ∀ l : List Ent, l.map (fun p => (p.1, p.2.1)) = l0 → l.map (·.2.2.1) = sls → ∀ y, out.lookup y = (putA st' l).lookup y ∧ out.lookup y = (putA st' l.reverse).lookup y) (hnd : (st'.map (·.1)).Nodup → (out.map (·.1)).Nodup)
    {Q : Flow → Shared → Prop} {E : Value → Shared → Prop} (q : ∀ f s', Post B env hid s₀ own s (.next out) f s' → Q f s') : wpAny (model prog w) A (exec (.Assign [.Tuple elts c tp] (.Tuple es c' vp) pos) env) Q E s := by
  have key : ∀ vs : List Value, vs.length = sls.length → ∃ l : List Ent, l.map (fun p => (p.1, p.2.1)) = l0 ∧ l.map (·.2.2.1) = sls ∧ l.map (·.2.2.2) = vs ∧ l.map (·.2.2) = sls.zip vs := by
    intro vs hl
    clear x h1 hsw hout
    induction l0 generalizing sls vs with
    | nil =>
      have : sls = [] := List.length_eq_zero_iff.mp hl0
      subst this
      have : vs = [] := List.length_eq_zero_iff.mp hl
      subst this
      exact ⟨[], rfl, rfl, rfl, rfl⟩
    | cons p r ih =>
      cases sls with
      | nil => simp at hl0
      | cons sl sls =>
        cases vs with
        | nil => simp at hl
        | cons v vs =>
          obtain ⟨l, a1, a2, a3, a4⟩ := ih (sls := sls) (by simpa using hl0) (fun p hp => hs p (List.mem_cons_of_mem _ hp)) vs (by simpa using hl)
          exact ⟨(p.1, p.2, sl, v) :: l, by simp [a1], by simp [a2], by simp [a3], by simp [a4]⟩
  obtain ⟨o, ho, hoo⟩ := hsw
  rcases hoo with rfl | rfl
  · refine PyProof.Rows.Assign_Tuple (ev_slots_tuple H hm F hf x fun a vs c s1 own1 g1 hl ha hg => ?_) rfl ho
    obtain ⟨l, a1, a2, a3, a4⟩ := key vs hl
    rw [← a3] at hg
    rw [← a4] at ha
    refine tuple_store g1.F l (fun p hp => hs (p.1, p.2.1) (by rw [← a1]; exact List.mem_map.mpr ⟨p, hp, rfl⟩)) ha hm.hd hg _ _ _ (by rw [h1, ← a1]; simp [Function.comp_def]) h2 fun s2 g2 => ?_
    exact q _ _ ⟨rfl, own1, g1.trans (go_look g2 (fun y => (hout l a1 a2 y).1) (hnd g1.F.nd))⟩
  · refine PyProof.Rows.Assign_Tuple_swapped (names := l0.map (·.1)) (ev_slots_tuple H hm F hf x fun a vs c s1 own1 g1 hl ha hg => ?_) rfl ho
    obtain ⟨l, a1, a2, a3, a4⟩ := key vs hl
    rw [← a3] at hg
    rw [← a4] at ha
    refine tuple_swap g1.F l (fun p hp => hs (p.1, p.2.1) (by rw [← a1]; exact List.mem_map.mpr ⟨p, hp, rfl⟩)) ha hm.hd hg _ (by rw [← a1]; simp [Function.comp_def]) fun s2 g2 => ?_
    exact q _ _ ⟨rfl, own1, g1.trans (go_look g2 (fun y => (hout l a1 a2 y).2) (hnd g1.F.nd))⟩
theorem ent_cons {l : List Ent} {x : Str} {px : Pos} {r0 : List (Str × Pos)} {p : Slot} {rs : List Slot} (h1 : l.map (fun p => (p.1, p.2.1)) = (x, px) :: r0) (h2 : l.map (·.2.2.1) = p :: rs) : ∃ v l', l = (x, px, p, v) :: l' ∧ l'.map (fun p => (p.1, p.2.1)) = r0 ∧ l'.map (·.2.2.1) = rs := by
  cases l with
  | nil => cases h1
  | cons a l =>
    obtain ⟨a1, a2, a3, a4⟩ := a
    cases h1
    cases h2
    exact ⟨a4, l, rfl, rfl, rfl⟩
theorem put_swap {st : Sto} {x y : Str} {p u : Slot} (h : x ≠ y) {k : Str} : (put (put st x p) y u).lookup k = (put (put st y u) x p).lookup k := by
  rw [put_lookup, put_lookup, put_lookup, put_lookup]
  by_cases ha : k = y
  · rw [if_pos ha, if_neg (fun e => h (e.symm.trans ha)), if_pos ha]
  · rw [if_neg ha, if_neg ha]
theorem put_put {st st2 : Sto} {x : Str} {p : Slot} (h : ∀ {k : Str}, st.lookup k = st2.lookup k) {k : Str} : (put st x p).lookup k = (put st2 x p).lookup k := by
  rw [put_lookup, put_lookup, h]
theorem asg2 (H : SndX prog w B n R) (hm : Rm A n) (F : FOk B env st hid own s₀ s) {x y : Str} {px py tp vp pos : Pos} {c c' : Nat} {e f : Expr} {p u : Slot} (hx : storable env.scope.names x = true) (hy : storable env.scope.names y = true) (hxy : x ≠ y) (hu : unfolded [e, f] = true)
    (hs : slotsM R env.scope.names st [e, f] = some ([p, u], st')) {Q : Flow → Shared → Prop} {E : Value → Shared → Prop} (q : ∀ f s', Post B env hid s₀ own s (.next (put (put st' x p) y u)) f s' → Q f s') :
    wpAny (model prog w) A (exec (.Assign [.Tuple [.Name x px, .Name y py] c tp] (.Tuple [e, f] c' vp) pos) env) Q E s := by
  have hst := slotsM_star H.toSndE hs
  refine asg_tuple H hm F (l0 := [(x, px), (y, py)]) (sls := [p, u]) rfl (by simp [hx, hy]) (by simp [few]) hs rfl rfl (swapped2 F.kind hxy (hst e (by simp)) (hst f (by simp)) hu) (fun l h1 h2 z => ?_) (fun h => put_nd (put_nd h)) q
  obtain ⟨v1, l1, rfl, h1, h2⟩ := ent_cons h1 h2
  obtain ⟨v2, l2, rfl, h1, h2⟩ := ent_cons h1 h2
  obtain rfl := List.map_eq_nil_iff.mp h1
  exact ⟨rfl, put_swap hxy⟩
theorem asg3 (H : SndX prog w B n R) (hm : Rm A n) (F : FOk B env st hid own s₀ s) {x y z : Str} {px py pz tp vp pos : Pos} {c c' : Nat} {e f g : Expr} {p u t : Slot} (hx : storable env.scope.names x = true) (hy : storable env.scope.names y = true) (hz : storable env.scope.names z = true) (hxy : x ≠ y) (hxz : x ≠ z) (hyz : y ≠ z) (hu : unfolded [e, f, g] = true)
    (hs : slotsM R env.scope.names st [e, f, g] = some ([p, u, t], st')) {Q : Flow → Shared → Prop} {E : Value → Shared → Prop} (q : ∀ f s', Post B env hid s₀ own s (.next (put (put (put st' x p) y u) z t)) f s' → Q f s') :
    wpAny (model prog w) A (exec (.Assign [.Tuple [.Name x px, .Name y py, .Name z pz] c tp] (.Tuple [e, f, g] c' vp) pos) env) Q E s := by
  have hst := slotsM_star H.toSndE hs
  refine asg_tuple H hm F (l0 := [(x, px), (y, py), (z, pz)]) (sls := [p, u, t]) rfl (by simp [hx, hy, hz]) (by simp [few]) hs rfl rfl (swapped3 F.kind hxy hxz hyz (hst e (by simp)) (hst f (by simp)) (hst g (by simp)) hu) (fun l h1 h2 k => ?_) (fun h => put_nd (put_nd (put_nd h))) q
  obtain ⟨v1, l1, rfl, h1, h2⟩ := ent_cons h1 h2
  obtain ⟨v2, l2, rfl, h1, h2⟩ := ent_cons h1 h2
  obtain ⟨v3, l3, rfl, h1, h2⟩ := ent_cons h1 h2
  obtain rfl := List.map_eq_nil_iff.mp h1
  refine ⟨rfl, ?_⟩
  show (put (put (put st' x p) y u) z t).lookup k = (put (put (put st' z t) y u) x p).lookup k
  rw [put_put (put_swap hxy) , put_swap hxz, put_put (put_swap hyz)]
end
end Mine
/-! part 20 -/
set_option maxRecDepth 100000
namespace Mine
open PySem PySem.Calls PyProof.Rows PySem.W
section
variable {prog : Program} {w : World} {B : Bt} {A : Around} {hid own : List Addr} {s s₀ s' : Shared} {env : Env} {st st' : Sto} {n : Nat} {R : Ip} {P : Prims} {W : List Addr} {σ : Sig}
/-- more that did not stand is hidden -/
theorem FOk.hideMore {wr : List Addr} (F : FOk B env st hid own s₀ s) (k : Kp s s') (hn : ∀ a ∈ wr, s.heap.get? a = none) (hl : ∀ a ∈ wr, ∃ o, s'.heap.get? a = some o) : FOk B env st (wr ++ hid) own s₀ s' :=
  { F.keeps k with
    hids := fun a ha => by
      rcases List.mem_append.mp ha with h | h
      · exact hl a h
      · exact F.hids.keeps k a h
    apo := fun a ha m => by
      rcases List.mem_append.mp m with h | h
      · obtain ⟨_, vs, c, e⟩ := F.owns a ha
        rw [hn a h] at e; cases e
      · exact F.apo a ha h
    slots := fun x sl e => by
      obtain ⟨v, a, b⟩ := F.slots x sl e
      refine ⟨v, a.kp k, ?_⟩
      have hh : ∀ a ∈ own ++ (wr ++ hid), a ∈ own ++ hid ∨ s.heap.get? a = none := fun a ha => by
        simp only [List.mem_append] at ha ⊢
        rcases ha with h | h | h
        · exact .inl (.inl h)
        · exact .inr (hn a h)
        · exact .inl (.inr h)
      cases sl with
      | sh d => exact rd_hide k hh b
      | ow ds =>
        obtain ⟨a, vs, c, e1, e2, e3, e4⟩ := b
        exact ⟨a, vs, c, e1, e2, k.get e3, rdL_hide k hh e4⟩ }
theorem cells_look (hcn : (env.cells.map (·.1)).Nodup) : ∀ c, c ∈ env.cells.map (·.2) → ∃ x, env.cells.lookup x = some c := by
  intro c hc
  obtain ⟨⟨x, c'⟩, hm, rfl⟩ := List.mem_map.mp hc
  refine ⟨x, ?_⟩
  generalize env.cells = l at hcn hm
  induction l with
  | nil => cases hm
  | cons p r ih =>
    obtain ⟨y, d⟩ := p
    rw [List.map_cons, List.nodup_cons] at hcn
    rw [List.lookup_cons]
    rcases List.mem_cons.mp hm with h | h
    · cases h; simp
    · have hne : x ≠ y := fun q => hcn.1 (by subst q; exact List.mem_map.mpr ⟨_, h, rfl⟩)
      rw [beq_eq_false_iff_ne.mpr hne]
      exact ih hcn.2 h
theorem frW_no {wr : List Addr} (F : FOk B env st (wr ++ hid) own s₀ s) (hL : env.locals ∉ wr) (hc : ∀ x c, env.cells.lookup x = some c → c ∉ wr) : ∀ a ∈ wr, a ∉ frW env own := fun a ha m => by
  simp only [frW, List.mem_cons, List.mem_append] at m
  rcases m with rfl | m | m
  · exact hL ha
  · obtain ⟨x, e⟩ := cells_look F.cnd a m; exact hc x a e ha
  · exact F.apo a m (List.mem_append_left _ ha)
/-- the state of a loop in a frame -/
structure LoopAt (B : Bt) (env : Env) (hid : List Addr) (s₀ : Shared) (own : List Addr) (s : Shared) (wr : List Addr) (s₁ : Shared) (st₂ : Sto) (own₂ : List Addr) (s₂ : Shared) : Prop where
  F : FOk B env st₂ (wr ++ hid) own₂ s₀ s₂
  fw : Fw (wr ++ frW env own) s₁ s₂
  sub : ∀ a ∈ own₂, a ∈ own ∨ s₁.heap.get? a = none
  dom : ∀ a, s₂.heap.get? a = none → s₁.heap.get? a = none
theorem plc_of_frW (hcn : (env.cells.map (·.1)).Nodup) {a : Addr} (h : a ∈ frW env own) : Plc env a ∨ a ∈ own := by
  simp only [frW, List.mem_cons, List.mem_append] at h
  rcases h with rfl | h | h
  · exact .inl (.inl rfl)
  · obtain ⟨x, e⟩ := cells_look hcn a h; exact .inl (.inr ⟨x, e⟩)
  · exact .inr h
theorem for_ok (H : SndX prog w B n R) (hm : Rm A n) (F : FOk B env st hid own s₀ s) {tgt iter : Expr} {body : List Stmt} {pos : Pos} {tu : Bool} {items : List PyData} {o : Out} (es : R.src env.scope.names (shσ st) iter = some (tu, items)) (ht : fitT tu tgt = true)
    (hgo : forGo R env.scope.names tgt body st items = some o) {Q : Flow → Shared → Prop} {E : Value → Shared → Prop} (q : ∀ f s', Post B env hid s₀ own s o f s' → Q f s') : wpAny (model prog w) A (exec (.For tgt iter body [] pos) env) Q E s := by
  obtain ⟨hsrc, hfold⟩ := H.src hm F.esh es
  refine wpAny_For (hsrc _ _ fun I s1 K₀ wr St k1 hK hwr Fd hst => ?_) hfold
  have hlive : ∀ a ∈ wr, ∃ o, s1.heap.get? a = some o := Fd.live _ _ hst
  have wL : env.locals ∉ wr := fun m => by
    obtain ⟨o, e⟩ := F.L_live
    rw [(hwr _ m).1] at e; cases e
  have wC : ∀ x c, env.cells.lookup x = some c → c ∉ wr := fun x c e m => by
    obtain ⟨_, v, o, h, _⟩ := F.cell x c e
    rw [(hwr _ m).1] at h; cases h
  have w0 : ∀ a ∈ wr, s₀.heap.get? a = none := fun a ha => none_kp F.kp (hwr a ha).1
  let Inv : Nat → Shared → Prop := fun k s2 => ∃ rest st2 own2, k = rest.length ∧ LoopAt B env hid s₀ own s wr s1 st2 own2 s2 ∧ St rest s2.heap ∧ forGo R env.scope.names tgt body st2 rest = some o
  refine codeAny_forLoop_any Inv (fun k s2 hI => ?_) items.length ⟨items, st, own, rfl, ⟨F.hideMore k1 (fun a ha => (hwr a ha).1) hlive, Fw.refl _ _, fun a h => .inl h, fun a h => h⟩, hst, hgo⟩
  obtain ⟨rest, st2, own2, rfl, L, hst2, hgo2⟩ := hI
  have wO : ∀ a ∈ own2, a ∉ wr := fun a ha m => L.F.apo a ha (List.mem_append_left _ m)
  have step : ∀ s3 ds, Fw wr s2 s3 → St ds s3.heap → FOk B env st2 (wr ++ hid) own2 s₀ s3 := fun s3 ds fw hs => by
    refine L.F.wr fw w0 (fun a ha => ?_) wL wC wO fun a ha => .inl (List.mem_append_left _ ha)
    rcases List.mem_append.mp ha with h | h
    · exact Fd.live _ _ hs a h
    · obtain ⟨oo, e⟩ := L.F.hids a (List.mem_append_right _ h)
      by_cases hw : a ∈ wr
      · exact Fd.live _ _ hs a hw
      · exact ⟨oo, fw.get hw e⟩
  have total : ∀ {s3 : Shared} {X : List Addr}, Fw X s1 s3 → (∀ a ∈ X, a ∈ frW env own ∨ s.heap.get? a = none) → Fw (frW env own) s s3 := fun {s3 X} fw hX => ((k1.fw X).trans fw).drop hX
  have hown2 : ∀ a ∈ own2, a ∈ frW env own ∨ s.heap.get? a = none := fun a ha => by
    rcases L.sub a ha with h | h
    · exact .inl (by simp only [frW, List.mem_cons, List.mem_append]; exact .inr (.inr h))
    · exact .inr (none_kp k1 h)
  cases rest with
  | nil =>
    simp only [forGo, Option.some.injEq] at hgo2
    subst hgo2
    refine Fd.done s2 _ _ hst2 fun s3 fw => wpAny_execs_nil (q _ _ ⟨rfl, own2, ?_⟩)
    have hid' : HidOk hid s3 := fun a ha => by
      obtain ⟨oo, e⟩ := L.F.hids a (List.mem_append_right _ ha)
      have hw : a ∉ wr := fun m => by
        obtain ⟨oo, e⟩ := F.hids a ha
        rw [(hwr a m).1] at e; cases e
      exact ⟨oo, fw.get hw e⟩
    have ns2 : ∀ a ∈ wr, a ∈ hid ∨ a ∈ wr := fun a ha => .inr ha
    refine ⟨?_, ?_, fun a ha => ?_, fun a ha => ?_⟩
    · -- the iterators may be gone
      have F3 : FOk B env st2 hid own2 s₀ s3 :=
        { L.F with
          kp := ((L.F.kp.fw wr).trans fw |>.drop fun a ha => .inr (w0 a ha)).kp
          hids := hid'
          apo := fun a ha m => L.F.apo a ha (List.mem_append_right _ m)
          ns := let ⟨m, h⟩ := L.F.ns; ⟨m, h.at' fun o e => fw.get wL e⟩
          cell := fun x c e => let ⟨a, v, o, h1, h2⟩ := L.F.cell x c e; ⟨a, v, o, fw.get (wC x c e) h1, h2⟩
          owns := fun a ha => let ⟨a1, vs, c, e⟩ := L.F.owns a ha; ⟨a1, vs, c, fw.get (wO a ha) e⟩
          slots := fun x sl e => by
            obtain ⟨v, a, b⟩ := L.F.slots x sl e
            refine ⟨v, nm_wr L.F fw wL wC a, ?_⟩
            have hh : ∀ a ∈ own2 ++ hid, a ∈ own2 ++ (wr ++ hid) := fun a ha => by
              simp only [List.mem_append] at ha ⊢
              rcases ha with h | h
              · exact .inl h
              · exact .inr (.inr h)
            have b' : SlotV own2 (wr ++ hid) sl v s3 := b.wr fw (fun a ha => .inl (List.mem_append_right _ (List.mem_append_left _ ha))) fun ds a hs hv => by
              subst hs
              obtain ⟨a', vs, c, e1, e2, _⟩ := b
              rw [hv] at e1; cases e1
              exact wO a e2
            cases sl with
            | sh d => exact rd_less hh b'
            | ow ds =>
              obtain ⟨a, vs, c, e1, e2, e3, e4⟩ := b'
              exact ⟨a, vs, c, e1, e2, e3, rdL_less hh e4⟩
          dist := fun x y ds es a hxy hx hy nx ny => L.F.dist x y ds es a hxy hx hy (nm_wr_back L.F fw wL wC hx nx) (nm_wr_back L.F fw wL wC hy ny) }
      exact F3
    · refine total (X := wr ++ frW env own) (L.fw.trans (fw.mono fun a ha => List.mem_append_left _ ha)) fun a ha => ?_
      rcases List.mem_append.mp ha with h | h
      · exact .inr (hwr a h).1
      · exact .inl h
    · rcases L.sub a ha with h | h
      · exact .inl h
      · exact .inr (none_kp k1 h)
    · by_cases hw : a ∈ wr
      · exact (hwr a hw).1
      · refine none_kp k1 (L.dom a ?_)
        cases e : s2.heap.get? a with
        | none => rfl
        | some oo => rw [fw.get hw e] at ha; cases ha
  | cons d ds =>
    simp only [forGo, Option.bind_eq_some_iff] at hgo2
    obtain ⟨b, eb, o', eo, hgo3⟩ := hgo2
    have hKn : ∀ a ∈ own2 ++ (wr ++ hid), K₀ a = none := fun a ha => by
      cases e : K₀ a with
      | none => rfl
      | some oo =>
        exfalso
        obtain ⟨h1, h2⟩ := hK a oo e
        simp only [List.mem_append] at ha h1
        rcases ha with h | h | h
        · rcases L.sub a h with h | h
          · exact h1 (.inl h)
          · rw [h] at h2; cases h2
        · rw [(hwr a h).2] at e; cases e
        · exact h1 (.inr h)
    refine Fd.next ht hst2 (fun v s₂ => wpAny (model prog w) A (assign tgt env v) _ _ s₂) (fun v s₁ h => h) fun v s3 fw hst3 hrd => ?_
    have rd := hrd (own2 ++ (wr ++ hid)) fun a ha => ⟨hKn a ha, L.F.hidOk a ha⟩
    have F3 := step s3 ds fw hst3
    refine bind_t hm.hd F3 eb rd fun s4 g4 hseq _ => ?_
    refine H.exs hm g4.F eo fun f s5 hp => ?_
    have hp3 := g4.post hp
    have fwo : ∀ {s5 : Shared}, Fw (frW env own2) s3 s5 → Fw (wr ++ frW env own) s1 s5 := fun {s5} fw5 => by
      have a1 : Fw (wr ++ (frW env own ++ frW env own2)) s1 s2 := L.fw.mono fun a ha => by
        simp only [List.mem_append] at ha ⊢
        rcases ha with h | h
        · exact .inl h
        · exact .inr (.inl h)
      have a2 : Fw (wr ++ (frW env own ++ frW env own2)) s2 s3 := fw.mono fun a ha => List.mem_append_left _ ha
      have a3 : Fw (wr ++ (frW env own ++ frW env own2)) s3 s5 := fw5.mono fun a ha => List.mem_append_right _ (List.mem_append_right _ ha)
      refine ((a1.trans a2).trans a3).drop fun a ha => ?_
      simp only [List.mem_append] at ha
      rcases ha with h | h | h
      · exact .inl (List.mem_append_left _ h)
      · exact .inl (List.mem_append_right _ h)
      · simp only [frW, List.mem_cons, List.mem_append] at h ⊢
        rcases h with h | h | h
        · exact .inl (.inr (.inl h))
        · exact .inl (.inr (.inr (.inl h)))
        · rcases L.sub a h with h | h
          · exact .inl (.inr (.inr (.inr h)))
          · exact .inr h
    cases o' with
    | next st5 =>
      obtain ⟨rfl, own5, g5⟩ := hp3
      refine ⟨ds.length, Nat.lt_succ_self _, ds, st5, own5, rfl, ⟨g5.F, fwo g5.fw, fun a ha => ?_, fun a ha => ?_⟩, ?_, hgo3⟩
      · rcases g5.sub a ha with h | h
        · exact L.sub a h
        · refine .inr (L.dom a ?_)
          have hw : a ∉ wr := fun m => g5.F.apo a ha (List.mem_append_left _ m)
          cases e : s2.heap.get? a with
          | none => rfl
          | some oo => rw [fw.get hw e] at h; cases h
      · refine L.dom a ?_
        have h3 := g5.dom a ha
        have hw : a ∉ wr := fun m => by
          obtain ⟨oo, e⟩ := Fd.live _ _ hst3 a m
          rw [h3] at e; cases e
        cases e : s2.heap.get? a with
        | none => rfl
        | some oo => rw [fw.get hw e] at h3; cases h3
      · refine Fd.frame ds _ _ hst3 (fun b oo hb e => g5.fw.get (fun m => frW_no F3 wL wC b hb m) e) fun a oo hs hk e => g5.fw.get (fun m => ?_) e
        rcases plc_of_frW F3.cnd m with h | h
        · exact F3.plc_nonseq h _ e hs
        · rw [hKn a (List.mem_append_left _ h)] at hk; cases hk
    | ret dr =>
      simp only [Option.some.injEq] at hgo3
      subst hgo3
      obtain ⟨u, rfl, hr, fw5, kp5⟩ := hp3
      refine q _ _ ⟨u, rfl, rd_less (fun a ha => List.mem_append_right _ ha) hr, ?_, kp5⟩
      refine total (fwo fw5) fun a ha => ?_
      rcases List.mem_append.mp ha with h | h
      · exact .inr (hwr a h).1
      · exact .inl h
theorem while_ok (H : SndX prog w B n R) (hm : Rm A n) (F : FOk B env st hid own s₀ s) {t : Expr} {body : List Stmt} {pos : Pos} {o : Out} {k : Nat} (hgo : whileGo R env.scope.names t body k st = some o) {Q : Flow → Shared → Prop} {E : Value → Shared → Prop}
    (q : ∀ f s', Post B env hid s₀ own s o f s' → Q f s') : wpAny (model prog w) A (exec (.While t body [] pos) env) Q E s := by
  refine wpAny_While (codeAny_whileLoop (fun k s2 => ∃ st2 own2, Go B env hid s₀ own s st2 own2 s2 ∧ whileGo R env.scope.names t body k st2 = some o) (fun k s2 hI => ?_) k ⟨st, own, ⟨F, Fw.refl _ _, fun a h => .inl h, fun a h => h⟩, hgo⟩)
  obtain ⟨st2, own2, g, hg⟩ := hI
  cases k with
  | zero => cases hg
  | succ k =>
    simp only [whileGo, Option.bind_eq_some_iff] at hg
    obtain ⟨b, eb, hg⟩ := hg
    refine H.tst hm g.F.eall eb _ _ fun s3 k3 => ?_
    have g3 : Go B env hid s₀ own s st2 own2 s3 := g.trans (go_kp (g.F.keeps k3) k3 fun a h => .inl h)
    cases b with
    | false =>
      simp only [Option.some.injEq] at hg
      subst hg
      rw [if_neg Bool.false_ne_true]
      exact wpAny_execs_nil (q _ _ ⟨rfl, own2, g3⟩)
    | true =>
      simp only [Option.bind_eq_some_iff] at hg
      obtain ⟨o', eo, hg⟩ := hg
      rw [if_pos rfl]
      refine H.exs hm g3.F eo fun f s4 hp => ?_
      cases o' with
      | next st4 =>
        obtain ⟨rfl, own4, g4⟩ := hp
        exact ⟨k, Nat.lt_succ_self _, st4, own4, g3.trans g4, hg⟩
      | ret d =>
        simp only [Option.some.injEq] at hg
        subst hg
        have := g3.post hp
        obtain ⟨v, rfl, h⟩ := this
        exact q _ _ ⟨v, rfl, h⟩
end
end Mine
/-! part 21 -/
set_option maxRecDepth 100000
namespace Mine
open PySem PySem.Calls PyProof.Rows PySem.W
section
variable {prog : Program} {w : World} {B : Bt} {A : Around} {hid own : List Addr} {s s₀ s' : Shared} {env : Env} {st st' : Sto} {n : Nat} {R : Ip} {P : Prims} {W : List Addr} {σ : Sig}
theorem append_from {sc : Sc} {e : Expr} {st : Sto} {x : Str} {ds : List PyData} {o : Out} (h : (match R.ev sc (shσ st) e with
        | some d => some (Out.next (put st x (.ow (ds ++ [d]))))
        | none => (R.ev sc (allσ st) e).bind fun d => if imm d then some (.next (put st x (.ow (ds ++ [d])))) else none) = some o) :
    ∃ d, (R.ev sc (shσ st) e = some d ∨ (R.ev sc (allσ st) e = some d ∧ imm d = true)) ∧ o = .next (put st x (.ow (ds ++ [d]))) := by
  split at h
  · rename_i d e1; cases h; exact ⟨d, .inl e1, rfl⟩
  · simp only [Option.bind_eq_some_iff] at h
    obtain ⟨d, e1, h⟩ := h
    split at h
    · rename_i hi; cases h; exact ⟨d, .inr ⟨e1, hi⟩, rfl⟩
    · cases h
theorem slots2 {sc : Sc} {e f : Expr} {p q : Slot × Sto} (h1 : slotM R sc st e = some p) (h2 : slotM R sc p.2 f = some q) : slotsM R sc st [e, f] = some ([p.1, q.1], q.2) := by
  show (slotM R sc st e).bind _ = _
  rw [h1]
  show ((slotM R sc p.2 f).bind _).bind _ = _
  rw [h2]; rfl
theorem slots3 {sc : Sc} {e f g : Expr} {p q u : Slot × Sto} (h1 : slotM R sc st e = some p) (h2 : slotM R sc p.2 f = some q) (h3 : slotM R sc q.2 g = some u) : slotsM R sc st [e, f, g] = some ([p.1, q.1, u.1], u.2) := by
  show (slotM R sc st e).bind _ = _
  rw [h1]
  show (slotsM R sc p.2 [f, g]).bind _ = _
  rw [slots2 h2 h3]; rfl
theorem asg_ok (H : SndX prog w B n R) (hm : Rm A n) (F : FOk B env st hid own s₀ s) {tgs : List Expr} {e : Expr} {pos : Pos} {o : Out} (x : exAsg R env.scope.names st tgs e = some o) {Q : Flow → Shared → Prop} {E : Value → Shared → Prop}
    (q : ∀ f s', Post B env hid s₀ own s o f s' → Q f s') : wpAny (model prog w) A (exec (.Assign tgs e pos) env) Q E s := by
  unfold exAsg at x
  split at x
  · split at x
    · rename_i v hv
      obtain rfl := vName_eq hv
      unfold exName at x
      split at x
      · rename_i hc
        have hc := Bool.and_eq_true_iff.mp hc
        obtain ⟨⟨sl, st1⟩, e1, e2⟩ := Option.bind_eq_some_iff.mp x
        cases e2
        exact asg_name H hm F hc.1 hc.2 e1 q
      · cases x
    · obtain ⟨ts, ht, x1⟩ := Option.bind_eq_some_iff.mp x
      obtain ⟨es, he, x2⟩ := Option.bind_eq_some_iff.mp x1
      clear x x1
      obtain ⟨c1, p1, rfl⟩ := vTuple_eq ht
      obtain ⟨c2, p2, rfl⟩ := vTuple_eq he
      unfold exTup at x2
      split at x2
      · obtain ⟨a, ha, x3⟩ := Option.bind_eq_some_iff.mp x2
        obtain ⟨b, hb, x4⟩ := Option.bind_eq_some_iff.mp x3
        clear x2 x3
        obtain rfl := vName_eq ha
        obtain rfl := vName_eq hb
        unfold ex2 at x4
        split at x4
        · split at x4
          · rename_i hc
            simp only [Bool.and_eq_true, bne_iff_ne] at hc
            obtain ⟨⟨⟨h1, h2⟩, h3⟩, h4⟩ := hc
            obtain ⟨p, e1, x5⟩ := Option.bind_eq_some_iff.mp x4
            obtain ⟨u, e2, x6⟩ := Option.bind_eq_some_iff.mp x5
            cases x6
            exact asg2 H hm F h1 h2 h3 h4 (slots2 e1 e2) q
          · cases x4
        · cases x4
      · obtain ⟨a, ha, x3⟩ := Option.bind_eq_some_iff.mp x2
        obtain ⟨b, hb, x4⟩ := Option.bind_eq_some_iff.mp x3
        obtain ⟨c, hc, x5⟩ := Option.bind_eq_some_iff.mp x4
        clear x2 x3 x4
        obtain rfl := vName_eq ha
        obtain rfl := vName_eq hb
        obtain rfl := vName_eq hc
        unfold ex3 at x5
        split at x5
        · split at x5
          · rename_i hc
            simp only [Bool.and_eq_true, bne_iff_ne] at hc
            obtain ⟨⟨⟨⟨⟨⟨h1, h2⟩, h3⟩, h4⟩, h5⟩, h6⟩, h7⟩ := hc
            obtain ⟨p, e1, x6⟩ := Option.bind_eq_some_iff.mp x5
            obtain ⟨u, e2, x7⟩ := Option.bind_eq_some_iff.mp x6
            obtain ⟨t, e3, x8⟩ := Option.bind_eq_some_iff.mp x7
            cases x8
            exact asg3 H hm F h1 h2 h3 h4 h5 h6 h7 (slots3 e1 e2 e3) q
          · cases x5
        · cases x5
      · cases x2
  · cases x
theorem meth_ok (H : SndX prog w B n R) (hm : Rm A n) (F : FOk B env st hid own s₀ s) {e : Expr} {pos : Pos} {v : Str × Str × Bool × List Expr} (hv : vMeth e = some v) {o : Out} (x : exMeth R env.scope.names st v.1 v.2.1 v.2.2.1 v.2.2.2 = some o) {Q : Flow → Shared → Prop} {E : Value → Shared → Prop}
    (q : ∀ f s', Post B env hid s₀ own s o f s' → Q f s') : wpAny (model prog w) A (exec (.Expr e pos) env) Q E s := by
  obtain ⟨p1, ap, p2, rfl, hln⟩ := vMeth_eq hv
  obtain ⟨y, m, ln, as⟩ := v
  dsimp only at x hln
  unfold exMeth at x
  split at x
  · rename_i a
    split at x
    · rename_i hc
      have hc := Bool.and_eq_true_iff.mp hc
      rw [hln] at hc
      split at x
      · rename_i u hu
        obtain ⟨p3, ap3, p4, rfl, hln2⟩ := vMeth_eq hu
        split at x
        · rename_i hc2
          simp only [Bool.and_eq_true, bne_iff_ne] at hc2
          obtain ⟨⟨h2, h3⟩, h5⟩ := hc2
          rw [hln2] at h5
          unfold exPop at x
          split at x
          · rename_i a2 ha2
            obtain ⟨ds, hx, x⟩ := Option.bind_eq_some_iff.mp x
            obtain ⟨es, hy, x⟩ := Option.bind_eq_some_iff.mp x
            obtain ⟨k, e1, x3⟩ := Option.bind_eq_some_iff.mp x
            obtain ⟨i, hi, x4⟩ := Option.bind_eq_some_iff.mp x3
            clear x x3
            obtain rfl := vInt_eq hi
            split at x4
            · rename_i hc3
              obtain ⟨d, hd, x5⟩ := Option.bind_eq_some_iff.mp x4
              split at x5
              · rename_i hi
                cases x5
                rw [ha2]
                exact ex_append_pop H hm F hc.1 h2 h3 hc.2 h5 (vOw_eq hx) (vOw_eq hy) hc3.2.1 hc3.2.2 e1 hc3.1 hd hi q
              · cases x5
            · cases x4
          · cases x
        · cases x
      · unfold exApp at x
        obtain ⟨ds, hx, x⟩ := Option.bind_eq_some_iff.mp x
        split at x
        · rename_i hf
          obtain ⟨d, he, rfl⟩ := append_from x
          exact ex_append H hm F hc.1 hc.2 (vOw_eq hx) hf he q
        · cases x
    · cases x
  · rename_i z a
    split at x
    · rename_i hc
      simp only [Bool.and_eq_true, beq_iff_eq] at hc
      obtain ⟨⟨h1, h2⟩, h3⟩ := hc
      rw [hln] at h2
      obtain ⟨c, hc, h3⟩ := Option.bind_eq_some_iff.mp h3
      obtain rfl := vIntC_eq h3
      obtain ⟨k, p, e⟩ := vConst_eq hc
      rw [e]
      unfold exIns at x
      obtain ⟨ds, hx, x⟩ := Option.bind_eq_some_iff.mp x
      split at x
      · rename_i hf
        obtain ⟨d, hd, x⟩ := Option.bind_eq_some_iff.mp x
        split at x
        · rename_i hi
          cases x
          exact ex_insert H hm F h1 h2 (vOw_eq hx) hf hd hi q
        · cases x
      · cases x
    · cases x
  · cases x
theorem exSt_ok (H : SndX prog w B n R) (hm : Rm A n) (F : FOk B env st hid own s₀ s) {c : Stmt} {o : Out} (x : exSt R env.scope.names st c = some o) {Q : Flow → Shared → Prop} {E : Value → Shared → Prop}
    (q : ∀ f s', Post B env hid s₀ own s o f s' → Q f s') : wpAny (model prog w) A (exec c env) Q E s := by
  cases c with
  | Assign tgs e p => exact asg_ok H hm F x q
  | Expr e p =>
    obtain ⟨v, hv, x⟩ := Option.bind_eq_some_iff.mp (show (vMeth e).bind _ = some o from x)
    exact meth_ok H hm F hv x q
  | If t a b p =>
    obtain ⟨c, e1, x⟩ := Option.bind_eq_some_iff.mp (show (R.tst env.scope.names (allσ st) t).bind _ = some o from x)
    refine wpAny_If (H.tst hm F.eall e1 _ _ fun s1 k1 => ?_)
    have g := go_kp (own := own) (F.keeps k1) k1 fun a h => .inl h
    cases c with
    | true => rw [if_pos rfl]; exact H.exs hm g.F x fun f s2 hp => q f s2 (g.post hp)
    | false => rw [if_neg Bool.false_ne_true]; exact H.exs hm g.F x fun f s2 hp => q f s2 (g.post hp)
  | For tgt iter body els p =>
    replace x : (if els.isEmpty = true then (R.src env.scope.names (shσ st) iter).bind fun items => if (fitT items.1 tgt && few items.2.length) = true then forGo R env.scope.names tgt body st items.2 else none else none) = some o := x
    split at x
    · rename_i he
      obtain rfl := List.isEmpty_iff.mp he
      obtain ⟨⟨tu, items⟩, e1, x⟩ := Option.bind_eq_some_iff.mp x
      split at x
      · rename_i hc
        have hc := Bool.and_eq_true_iff.mp hc
        exact for_ok H hm F e1 hc.1 x q
      · cases x
    · cases x
  | While t body els p =>
    replace x : (if els.isEmpty = true then whileGo R env.scope.names t body 100 st else none) = some o := x
    split at x
    · rename_i he
      obtain rfl := List.isEmpty_iff.mp he
      exact while_ok H hm F x q
    · cases x
  | Return e p =>
    obtain ⟨e, rfl, x⟩ := Option.bind_eq_some_iff.mp (show e.bind _ = some o from x)
    obtain ⟨d, e1, rfl⟩ := Option.map_eq_some_iff.mp x
    exact wpAny_Return_some (H.ev hm F.eall e1 _ _ fun v s1 k r => q _ _ ⟨v, rfl, r, k.fw _, F.kp.trans k⟩)
  | _ => cases x
theorem exs_step (H : SndX prog w B n R) (hm : Rm A n) : ∀ {body : List Stmt} {own : List Addr} {st : Sto} {s : Shared}, FOk B env st hid own s₀ s → ∀ {o : Out}, exsS R env.scope.names st body = some o → ∀ {Q : Flow → Shared → Prop} {E : Value → Shared → Prop},
    (∀ f s', Post B env hid s₀ own s o f s' → Q f s') → wpAny (model prog w) A (execs body env) Q E s
  | [], own, st, s, F, o, x, Q, E, q => by
    simp only [exsS, Option.some.injEq] at x
    subst x
    exact wpAny_execs_nil (q _ _ ⟨rfl, own, F, Fw.refl _ _, fun a h => .inl h, fun a h => h⟩)
  | c :: r, own, st, s, F, o, x, Q, E, q => by
    simp only [exsS, Option.bind_eq_some_iff] at x
    obtain ⟨o1, e1, x⟩ := x
    refine wpAny_execs_cons (exSt_ok H hm F e1 fun f s1 hp => ?_)
    cases o1 with
    | next st1 =>
      obtain ⟨rfl, own1, g⟩ := hp
      exact exs_step H hm g.F x fun f s2 hp => q f s2 (g.post hp)
    | ret d =>
      simp only [Option.some.injEq] at x
      subst x
      obtain ⟨v, rfl, h⟩ := hp
      exact q _ _ ⟨v, rfl, h⟩
theorem used_of {elt : Expr} {g : Comprehension} {more : List Comprehension} {sc : Scope} {pos : Pos} {u : Value → Sem Unit} {Q : Shared → Prop} {E : Value → Shared → Prop} (hg : g.is_async = 0)
    (h : ∀ p, wpAny (model prog w) A (comprehension (.ListComp elt (g :: more) sc pos) sc env p (newList []) false (eval g.iter env) (some u)) (fun _ => Q) E s) :
    wpAny (model prog w) A (evalThenUse (.ListComp elt (g :: more) sc pos) env u) (fun _ => Q) E s := by
  obtain ⟨t, i, f, a⟩ := g
  simp only at hg
  subst hg
  show wpAny _ A (do let _ ← comprehension (.ListComp elt (⟨t, i, f, 0⟩ :: more) sc pos) sc env _ (newList []) false (eval i env) (some u)) _ _ s
  exact wpAny_bind (wpAny_mono (h _) (fun _ s' hq => wpAny_pure hq) fun _ _ e => e)
theorem used_step (H : SndE prog w B n R) (hm : Rm A n) (h : EOk B env σ hid s) {elt : Expr} {gens : List Comprehension} {sc : Scope} {pos : Pos} {d : PyData} (x : evS P R env.scope.names σ (.ListComp elt gens sc pos) = some d)
    (u : Value → Sem Unit) (Q : Shared → Prop) (E : Value → Shared → Prop) (q : ∀ v s' C m, Kp s s' → Rd (hk hid s'.heap) d v → s.heap.get? C = none → s'.heap.Ns C m →
      wpAny (model prog w) A (u v) (fun _ s'' => ∃ m', s''.heap.Ns C m' ∧ ∀ s''', Fw [C] s'' s''' → Q s''') E s') : wpAny (model prog w) A (evalThenUse (.ListComp elt gens sc pos) env u) (fun _ => Q) E s := by
  have fin : ∀ ds, d = .list ds → ∀ (C D : Addr) (s' : Shared) (m : Str → Option Value), Kp s s' → s.heap.get? C = none → (∀ a ∈ hid, a ≠ C) → s'.heap.Ns C m → (∀ s'', Fw [C] s' s'' → Rd (hk hid s''.heap) (.list ds) (.ref D)) →
      compPost (model prog w) A E (some u) (fun _ => Q) (.ref D) C (.ok .next) s' := fun ds hd C D s' m k C0 _ hn r => by
    show wpAny _ A (u (.ref D)) _ E s'
    subst hd
    refine wpAny_mono (q _ s' C m k (r s' (Fw.refl _ _)) C0 hn) (fun _ s'' hq => ?_) fun _ _ e => e
    obtain ⟨m', h1, h2⟩ := hq
    exact ⟨m', h1, fun h' hs => h2 _ (sameBut_fw (tk := s''.toks) hs)⟩
  rcases comp_step H hm h x with ⟨tgt, iter, ifs, tu, items, ds, rfl, h1, h2, es, h3, h4, e1, rfl⟩ | ⟨y, z, p, q, i1, i2, tu, items, ds, rfl, h1, h2, h3, h4, es, h5, e1, rfl⟩
  · refine used_of rfl fun p => ?_
    exact comp_core hm h h1 h2 (H.src hm h es) (fun I wr K₀ St C D c s₀ m Rr F ca st hn hD hR => comp_loop1 H hm h h1 h2 F h3 h4 e1 ca st hn hD hR) (fin ds rfl)
  · refine used_of rfl fun p => ?_
    exact comp_core hm h h1 h2 (H.src hm h es) (fun I wr K₀ St C D c s₀ m Rr F ca st hn hD hR => comp_loop2 H hm h h1 h2 h3 F h5 (fold_plain (notSetE_ok h4)) (compGo2_length e1) e1 ca st hn hD hR) (fin ds rfl)
end
end Mine
/-! part 22 -/
set_option maxRecDepth 100000
namespace Mine
open PySem PySem.Calls PyProof.Rows PySem.W
abbrev Fn := List Str × List (Str × PyData) × List Stmt × Scope
noncomputable def nodupS : List Str → Bool
  | [] => true
  | x :: r => !r.contains x && nodupS r
theorem nodupS_ok : ∀ {l : List Str}, nodupS l = true → l.Nodup
  | [], _ => List.nodup_nil
  | x :: r, h => by
    simp only [nodupS, Bool.and_eq_true, Bool.not_eq_true'] at h
    exact List.nodup_cons.mpr ⟨fun m => (by have := List.contains_iff_mem.mpr m; rw [h.1] at this; cases this), nodupS_ok h.2⟩
noncomputable def okFn (q : Fn) : Bool :=
  q.2.2.2.kind == .function && !q.2.2.2.isCoroutine && !q.2.2.2.isGenerator && nodupS (q.2.2.2.names.map (·.1)) && nodupS (q.1 ++ q.2.1.map (·.1)) &&
  (q.1 ++ q.2.1.map (·.1)).all (fun x => q.2.2.2.names.lookup x == some .local || q.2.2.2.names.lookup x == some .cell) &&
  q.2.2.2.names.all (fun y => y.2 != .free) && (q.2.2.2.names.lookup (nm "__debug__")).isNone && (q.2.2.2.names.lookup (nm "__classdict__")).isNone
/-- the global f is a def with these parameters, this body, this scope -/
structure FnAt (B : Bt) (f : Str) (q : Fn) : Prop where
  ex : ∃ a o fd, B.mg f = some (.ref a) ∧ B.h.get? a = some o ∧ o.data = .func fd ∧ fd.body = .stmts q.2.2.1 ∧ fd.scope = q.2.2.2 ∧ fd.globals = mainGlobals ∧ fd.builtins = builtinsNs ∧ fd.closure = [] ∧ B.h.CodeRec fd.code fd.qualname ∧
    ∀ s vals, Bs B s → vals.length = q.1.length → ∃ dv, RdL (fun _ => none) (q.2.1.map (·.2)) dv ∧ BindsTo s fd ⟨vals, []⟩ ((q.1 ++ q.2.1.map (·.1)).zip (vals ++ dv))
theorem bindL_lookup {k : Str → Option NameKind} {x : Str} (hx : k x = some .local) : ∀ (l : List (Str × Value)) (m : Str → Option Value), (l.map (·.1)).Nodup → bindL k l m x = match l.lookup x with | some v => some v | none => m x
  | [], m, _ => rfl
  | (y, v) :: r, m, nd => by
    rw [List.map_cons, List.nodup_cons] at nd
    unfold bindL
    rw [bindL_lookup hx r _ nd.2, List.lookup_cons]
    by_cases h : x = y
    · subst h
      have : r.lookup x = none := by
        cases e : r.lookup x with
        | none => rfl
        | some v' => exact absurd (List.mem_map.mpr ⟨_, lookup_mem e, rfl⟩) nd.1
      rw [this]
      simp [hx]
    · rw [beq_eq_false_iff_ne.mpr h]
      cases r.lookup x with
      | some v' => rfl
      | none =>
        simp only
        split
        · simp [h]
        · rfl
theorem bindC_lookup {k : Str → Option NameKind} {x : Str} (hx : k x = some .cell) : ∀ (l : List (Str × Value)) (m : Str → Option Value), (l.map (·.1)).Nodup → bindC k l m x = match l.lookup x with | some v => some v | none => m x
  | [], m, _ => rfl
  | (y, v) :: r, m, nd => by
    rw [List.map_cons, List.nodup_cons] at nd
    unfold bindC
    rw [bindC_lookup hx r _ nd.2, List.lookup_cons]
    by_cases h : x = y
    · subst h
      have : r.lookup x = none := by
        cases e : r.lookup x with
        | none => rfl
        | some v' => exact absurd (List.mem_map.mpr ⟨_, lookup_mem e, rfl⟩) nd.1
      rw [this]
      simp [hx]
    · rw [beq_eq_false_iff_ne.mpr h]
      cases r.lookup x with
      | some v' => rfl
      | none =>
        simp only
        split
        · rfl
        · simp [h]
theorem cellsFrom_names : ∀ (names : List (Str × NameKind)) (k : Nat) (acc : List (Str × Addr)), (names.map (·.1)).Nodup → (acc.map (·.1)).Nodup → (∀ x ∈ acc.map (·.1), x ∉ names.map (·.1)) →
    ((cellsFrom k names acc).map (·.1)).Nodup ∧ ∀ x, (x ∈ acc.map (·.1) ∨ (x, NameKind.cell) ∈ names) → x ∈ (cellsFrom k names acc).map (·.1)
  | [], k, acc, _, h, _ => ⟨h, fun x hx => by
      rcases hx with hx | hx
      · exact hx
      · cases hx⟩
  | (y, kind) :: r, k, acc, hn, ha, hd => by
    rw [List.map_cons, List.nodup_cons] at hn
    unfold cellsFrom
    split
    · rename_i hk
      obtain ⟨h1, h2⟩ := cellsFrom_names r (k + 1) ((y, k) :: acc) hn.2 (by rw [List.map_cons, List.nodup_cons]; exact ⟨fun m => hd y m (by simp), ha⟩) (fun x hx => by
        rw [List.map_cons] at hx
        rcases List.mem_cons.mp hx with rfl | hx
        · exact hn.1
        · exact fun m => hd x hx (by rw [List.map_cons]; exact List.mem_cons_of_mem _ m))
      refine ⟨h1, fun x hx => h2 x ?_⟩
      rcases hx with hx | hx
      · exact .inl (by rw [List.map_cons]; exact List.mem_cons_of_mem _ hx)
      · rcases List.mem_cons.mp hx with hx | hx
        · cases hx; exact .inl (by simp)
        · exact .inr hx
    · rename_i hk
      obtain ⟨h1, h2⟩ := cellsFrom_names r k acc hn.2 ha fun x hx m => hd x hx (by rw [List.map_cons]; exact List.mem_cons_of_mem _ m)
      refine ⟨h1, fun x hx => h2 x ?_⟩
      rcases hx with hx | hx
      · exact .inl hx
      · rcases List.mem_cons.mp hx with hx | hx
        · cases hx; simp at hk
        · exact .inr hx
theorem lookup_of_mem {α : Type} {x : Str} : ∀ {l : List (Str × α)}, x ∈ l.map (·.1) → ∃ c, l.lookup x = some c
  | [], h => by cases h
  | (y, c) :: r, h => by
    rw [List.lookup_cons]
    by_cases hx : x = y
    · subst hx; exact ⟨c, by simp⟩
    · rw [beq_eq_false_iff_ne.mpr hx]
      rw [List.map_cons] at h
      rcases List.mem_cons.mp h with h | h
      · exact absurd h hx
      · exact lookup_of_mem h
theorem zip_lookup {K : KM} {x : Str} {d : PyData} : ∀ {ns : List Str} {ds : List PyData} {vs : List Value}, RdL K ds vs → ns.length = ds.length → (ns.zip (ds.map Slot.sh)).lookup x = some (.sh d) → ∃ v, (ns.zip vs).lookup x = some v ∧ Rd K d v
  | [], _, _, _, _, h => by simp at h
  | y :: ns, [], _, _, hl, _ => by simp at hl
  | y :: ns, d' :: ds, vs, r, hl, h => by
    simp only [RdL] at r
    obtain ⟨v, vs', rfl, h1, h2⟩ := r
    simp only [List.map_cons, List.zip_cons_cons, List.lookup_cons] at h ⊢
    split at h
    · cases h; exact ⟨v, rfl, h1⟩
    · exact zip_lookup h2 (by simpa using hl) h
theorem zip_sh {x : Str} {sl : Slot} : ∀ {ns : List Str} {ds : List PyData}, (ns.zip (ds.map Slot.sh)).lookup x = some sl → ∃ d, sl = .sh d
  | [], _, h => by simp at h
  | y :: ns, [], h => by simp at h
  | y :: ns, d' :: ds, h => by
    simp only [List.map_cons, List.zip_cons_cons, List.lookup_cons] at h
    split at h
    · cases h; exact ⟨_, rfl⟩
    · exact zip_sh h
theorem zip_mem {x : Str} {d : Slot} : ∀ {ns : List Str} {ds : List Slot}, (ns.zip ds).lookup x = some d → x ∈ ns
  | [], _, h => by simp at h
  | y :: ns, [], h => by simp at h
  | y :: ns, d' :: ds, h => by
    simp only [List.zip_cons_cons, List.lookup_cons] at h
    split at h
    · rename_i hx; rw [eq_of_beq hx]; exact List.mem_cons_self ..
    · exact List.mem_cons_of_mem _ (zip_mem h)
theorem zip_app {α β : Type} : ∀ {a c : List α} {b d : List β}, a.length = b.length → (a ++ c).zip (b ++ d) = a.zip b ++ c.zip d
  | [], _, [], _, _ => rfl
  | [], _, _ :: _, _, h => by simp at h
  | _ :: _, _, [], _, h => by simp at h
  | x :: a, c, y :: b, d, h => by simp [zip_app (a := a) (b := b) (by simpa using h)]
section
variable {prog : Program} {w : World} {B : Bt} {A : Around} {hid own : List Addr} {s s₀ s' : Shared} {env : Env} {st st' : Sto} {n : Nat} {R : Ip} {P : Prims} {W : List Addr} {σ : Sig}
theorem call_fn_ok (H : SndX prog w B n R) (hm : Rm A (n + 1)) {f : Str} {q : Fn} (hq : FnAt B f q) (ho : okFn q = true) (hb : Bs B s) (hh : HidOk hid s) {ds : List PyData} {vs : List Value} {d : PyData} {a : Addr} (hr : RdL (hk hid s.heap) ds vs) (hl : q.1.length = ds.length)
    (x : R.exs q.2.2.2.names ((q.1.zip (ds.map .sh)) ++ q.2.1.map fun p => (p.1, .sh p.2)) q.2.2.1 = some (.ret d)) (ha : B.mg f = some (.ref a)) : PD prog w A hid s (call (.ref a) vs) d := fun Q E qq => by
  obtain ⟨a', o, fd, h1, h2, h3, h4, h5, h6, h7, h8, h9, hbind⟩ := hq.ex
  rw [ha] at h1; cases h1
  obtain ⟨dv, rdv, hbd⟩ := hbind s vs hb (by rw [hr.length, hl])
  simp only [okFn, Bool.and_eq_true, Bool.not_eq_true', beq_iff_eq, Option.isNone_iff_eq_none] at ho
  obtain ⟨⟨⟨⟨⟨⟨⟨⟨o1, o2⟩, o3⟩, o4⟩, o5⟩, o6⟩, o7⟩, o8⟩, o9⟩ := ho
  have nd1 := nodupS_ok o4
  have nd2 := nodupS_ok o5
  have hvl : (vs ++ dv).length = (q.1 ++ q.2.1.map (·.1)).length := by
    have := rdv.length
    simp only [List.length_append, List.length_map] at this ⊢
    rw [this, hr.length, hl]
  have hnames : (((q.1 ++ q.2.1.map (·.1)).zip (vs ++ dv)).map (·.1)) = q.1 ++ q.2.1.map (·.1) := List.map_fst_zip (by omega)
  have hst : ((q.1.zip (ds.map Slot.sh)) ++ q.2.1.map fun p => (p.1, Slot.sh p.2)) = (q.1 ++ q.2.1.map (·.1)).zip ((ds ++ q.2.1.map (·.2)).map Slot.sh) := by
    rw [List.map_append, zip_app (by simpa using hl)]
    congr 1
    generalize q.2.1 = l
    induction l with
    | nil => rfl
    | cons p r ih => simpa using ih
  rw [hst] at x
  have hcn := cellsFrom_names q.2.2.2.names (s.heap.objs.size + 1) [] nd1 List.nodup_nil (by simp)
  have hsome : ∀ y, q.2.2.2.names.lookup y = some .cell → ∃ c, (cellsFrom (s.heap.objs.size + 1) q.2.2.2.names []).lookup y = some c := fun y hy => lookup_of_mem (hcn.2 y (.inr (mem_of_lookup' hy)))
  refine wpAny_call (codeAny_call_function hm.room (hb a o h2) h3 (by rw [h5]; exact o2) (by rw [h5]; exact o3) h4 (h9.keeps fun b o e => hb b o e) (hbd _ _ _ _ ?_))
  rw [h8]
  refine wpAny_newFunctionEnv_cells (by rw [h5]; exact o1) (fun y hy => ?_) fun env he s1 X => ⟨(B.nl.keeps fun b o e => hb b o e).keeps X.toInCall.keep, codeAny_func ?_⟩
  · have hm1 : y.1 ∈ q.1 ++ q.2.1.map (·.1) := by rw [← hnames]; exact List.mem_map.mpr ⟨y, hy, rfl⟩
    have := List.all_eq_true.mp o6 y.1 hm1
    simp only [Bool.or_eq_true, beq_iff_eq] at this
    rw [h5]
    rcases this with h | h
    · exact .inl h
    · obtain ⟨c, hc⟩ := hsome y.1 h
      exact .inr ⟨h, by rw [hc]; rfl⟩
  · have e1 : env.scope = q.2.2.2 := by rw [he, ← h5]; rfl
    have e2 : env.cells = cellsFrom (s.heap.objs.size + 1) q.2.2.2.names [] := by rw [he, ← h5]; rfl
    have e3 : env.locals = s.heap.objs.size := by rw [he]; rfl
    have e4 : ∀ y, env.kindOf y = q.2.2.2.names.lookup y := fun y => by show env.scope.names.lookup y = _; rw [e1]
    have kp : Kp s s1 := by
      obtain ⟨h', tk, rfl⟩ := X.toInCall.same
      exact Kp.mk' X.toInCall.keep
    have F : FOk B env ((q.1 ++ q.2.1.map (·.1)).zip ((ds ++ q.2.1.map (·.2)).map Slot.sh)) hid [] s s1 :=
      { kp := kp
        base0 := hb
        hids := hh.keeps kp
        apo := by simp
        kind := by rw [e1]; exact o1
        gl := by rw [he]; exact h6
        bl := by rw [he]; exact h7
        nodbg := ⟨by rw [e4]; exact o8, by rw [e4]; exact o9⟩
        nofree := fun y hy => by
          rw [e4] at hy
          have := List.all_eq_true.mp o7 _ (mem_of_lookup' hy)
          simp at this
        L0 := by rw [e3]; exact get_size _
        ns := ⟨_, X.toInCall.ns⟩
        cells := fun y hy => by rw [e4] at hy; rw [e2]; exact hsome y hy
        cell := fun y c hc => ⟨Heap.get?_none_of_le (Nat.le_of_lt (by have := X.above y c (mem_of_lookup hc); rw [e3] at this; exact this)), _, X.cell y c hc⟩
        apart := fun y z c hy hz => name_of_addr X.apart (mem_of_lookup hy) (mem_of_lookup hz)
        owns := by simp
        slots := fun y sl hy => by
          obtain ⟨d', rfl⟩ := zip_sh hy
          have rr : RdL (hk hid s1.heap) (ds ++ q.2.1.map (·.2)) (vs ++ dv) := (hr.keeps kp).append (RdL.mono (fun a o _ e => by cases e) _ _ rdv)
          obtain ⟨v, hv, rv⟩ := zip_lookup rr (by simp [hl]) hy
          refine ⟨v, ?_, rv⟩
          have hyn := zip_mem hy
          have := List.all_eq_true.mp o6 y hyn
          simp only [Bool.or_eq_true, beq_iff_eq] at this
          rcases this with h | h
          · refine .inl ⟨by rw [e4]; exact h, _, X.toInCall.ns, ?_⟩
            rw [bindL_lookup (by rw [e4]; exact h) _ _ (by rw [hnames]; exact nd2), hv]
          · obtain ⟨c, hc⟩ := hsome y h
            refine .inr ⟨.inl (by rw [e4]; exact h), c, by rw [e2]; exact hc, ?_⟩
            have := X.cell y c (by rw [e2]; exact hc)
            rw [bindC_lookup (by rw [e4]; exact h) _ _ (by rw [hnames]; exact nd2), hv] at this
            exact this
        dist := fun y z es fs b _ hy _ _ _ => by obtain ⟨d', e⟩ := zip_sh hy; cases e
        nd := by rw [List.map_fst_zip (by simp [hl])]; exact nd2
        cnd := by rw [e2]; exact hcn.1 }
    rw [← e1] at x
    refine H.exs (hm.deeper env) F x fun fl s2 hp => ?_
    obtain ⟨v, rfl, r, fw, k2⟩ := hp
    exact qq v s2 k2 r
end
end Mine
/-! part 23 -/
set_option maxRecDepth 100000
namespace Mine
open PySem PySem.Calls PyProof.Rows PySem.W
theorem Rm.mono {A : Around} {n m : Nat} (h : Rm A m) (k : n ≤ m) : Rm A n := ⟨h.hd, by have := h.dp; omega, by have := h.un; omega⟩
/-- a call that is known by a theorem of its own -/
structure PrimOk (prog : Program) (w : World) (B : Bt) (f : Str) (ds : List PyData) (d : PyData) : Prop where
  fn : ∃ a o fd, B.mg f = some (.ref a) ∧ B.h.get? a = some o ∧ o.data = .func fd
  call : ∀ {A : Around} {hid : List Addr} {s : Shared} {a : Addr} {vs : List Value}, Rm A 8 → Bs B s → HidOk hid s → RdL (hk hid s.heap) ds vs → B.mg f = some (.ref a) → PD prog w A hid s (call (.ref a) vs) d
structure Knows (prog : Program) (w : World) (B : Bt) (P : Prims) : Prop where
  fns : ∀ f q, P.fn f = some q → FnAt B f q ∧ okFn q = true
  prims : ∀ f ds d, P.known f = true → P.prim f ds = some d → PrimOk prog w B f ds d
  sort : SortOk prog w P
section
variable {prog : Program} {w : World} {B : Bt} {P : Prims} {R : Ip} {n : Nat}
theorem snd_nil : SndX prog w B n nil where
  ev := fun _ _ h => by cases h
  tst := fun _ _ h => by cases h
  src := fun _ _ h => by cases h
  fnm := fun h => by cases h
  call := fun _ _ _ _ h => by cases h
  noset := fun _ _ _ _ _ => rfl
  nostar := fun _ _ _ _ => rfl
  used := fun _ _ h => by cases h
  exs := by intro A hid own s₀ s env st body o _ _ h; cases h
theorem snd_step (K : Knows prog w B P) (hn : 8 ≤ n) (H : SndX prog w B n R) : SndX prog w B (n + 1) (step P R) where
  ev := fun hm h x => ev_step K.sort H.toSndE hm.less h x
  tst := fun hm h x => tst_step H.toSndE hm.less h x
  src := fun hm h x => src_step H.toSndE hm.less h x
  fnm := fun {f ds d} x => by
    change callS P R f ds = some d at x
    unfold callS at x
    split at x
    · rename_i hk
      exact (K.prims f ds d hk x).fn
    · simp only [Option.bind_eq_some_iff] at x
      obtain ⟨q, hq, _⟩ := x
      obtain ⟨a, o, fd, h1, h2, h3, _⟩ := (K.fns f q hq).1.ex
      exact ⟨a, o, fd, h1, h2, h3⟩
  call := fun {A hid s f a ds vs d} hm hb hh hr x ha => by
    change callS P R f ds = some d at x
    unfold callS at x
    split at x
    · rename_i hk
      exact (K.prims f ds d hk x).call (hm.mono (by omega)) hb hh hr ha
    · simp only [Option.bind_eq_some_iff] at x
      obtain ⟨q, hq, x⟩ := x
      split at x
      · rename_i hl
        simp only [Option.bind_eq_some_iff] at x
        obtain ⟨o, eo, x⟩ := x
        cases o with
        | next st => cases x
        | ret d' =>
          simp only [Option.some.injEq] at x
          subst x
          exact call_fn_ok H hm (K.fns f q hq).1 (K.fns f q hq).2 hb hh hr hl eo ha
      · cases x
  noset := fun _ _ _ _ _ => rfl
  nostar := fun _ _ _ _ => rfl
  used := fun hm h x u Q E q => used_step (P := P) H.toSndE hm.less h x u Q E q
  exs := by intro A hid own s₀ s env st body o hm F x Q E q; exact exs_step H hm.less F x q
theorem snd_I (K : Knows prog w B P) : ∀ n, SndX prog w B (n + 8) (I P n)
  | 0 => snd_nil
  | n + 1 => snd_step K (by omega) (snd_I K n)
end
end Mine
/-! part 24 -/
set_option maxRecDepth 100000
namespace Mine
open PySem PySem.Calls PyProof.Rows PySem.W
open PySem.AutoSeq1 (wpAny_loadPart')
open PySem.MeetsSeq PySem.MeetsSeq2 PySem.MeetsSeq3 PySem.SeqRoads2 PySem.SeqAt
noncomputable def ltI : List PyData → List PyData → Option Bool
  | [], ys => some (!ys.isEmpty)
  | _ :: _, [] => some false
  | .int a :: r, .int b :: t => if a = b then ltI r t else some (decide (a < b))
  | _, _ => none
noncomputable def ltT : PyData → PyData → Option Bool
  | .tuple xs, .tuple ys => ltI xs ys
  | _, _ => none
noncomputable def ltR : List PyData → List PyData → Option Bool
  | [], ys => some (!ys.isEmpty)
  | _ :: _, [] => some false
  | a :: r, b :: t => if PyData.eqv a b then ltR r t else ltT a b
theorem rc_int {prog : Program} {w : World} {A : Around} {s : Shared} {a b : Int} {t u : Tok} {Q E : Value → Shared → Prop} (q : Q (.bool (decide (a < b))) s) : wpAny (model prog w) A (richCompare .Lt (.int a t) (.int b u)) Q E s :=
  PyProof.Rows.lt_int (w := w) q
theorem tuple_ltAt (l b : Addr) (items items2 : Array Value) (n n2 : Nat) (dd dd2 : Option Addr) (sl sl2 : Array (Option Value)) (c : Bool) :
    Meets (Builtin.«tuple.__lt__» ⟨[.ref l, .ref b], []⟩)
      (fun A R s => s.heap.get? l = some { cls := .type "tuple", dict := dd, data := .seq items n, slots := sl } ∧ s.heap.get? b = some { cls := .type "tuple", dict := dd2, data := .seq items2 n2, slots := sl2 } ∧
        (∃ K xs ys, RdL K xs items.toList ∧ RdL K ys items2.toList ∧ ltI xs ys = some c) ∧ R (.ok (.ret (.bool c))) s) :=
  .of_wp fun prog w A R s h => by
    obtain ⟨hp, g, d, tk, os⟩ := s; obtain ⟨hl, hb, ⟨K, xs, ys, hx, hy, hc⟩, h⟩ := h
    have f2 := AutoSeq1.sub_tuple_tuple
    have n1 : items.size = xs.length := by simpa using hx.length
    have n2 : items2.size = ys.length := by simpa using hy.length
    wp_walk using wpAny_loadPart' hl, wpAny_loadPart' hb, wpAny_forIn_list _ (fun rest b s' => b.1 = none ∧ s' = ⟨hp, g, d, tk, os⟩ ∧ ∃ xs' ys' vs' us', rest = vs'.zip us' ∧ RdL K xs' vs' ∧ RdL K ys' us' ∧ ltI xs' ys' = some c ∧ xs'.length + ys.length = ys'.length + xs.length) _
    case turn =>
      rintro ⟨y, x⟩ rest b s' ⟨hb', rfl, xs', ys', vs', us', hz, hx', hy', hc', hn⟩
      cases vs' with
      | nil => simp at hz
      | cons v vs' =>
        cases us' with
        | nil => simp at hz
        | cons u us' =>
          simp only [List.zip_cons_cons, List.cons.injEq, Prod.mk.injEq] at hz
          obtain ⟨⟨rfl, rfl⟩, rfl⟩ := hz
          cases xs' with
          | nil => simp [RdL] at hx'
          | cons dx xs' =>
            cases ys' with
            | nil => simp [RdL] at hy'
            | cons dy ys' =>
              simp only [RdL, List.cons.injEq] at hx' hy'
              obtain ⟨v1, r1, ⟨rfl, rfl⟩, h1, h2⟩ := hx'
              obtain ⟨u1, t1, ⟨rfl, rfl⟩, h3, h4⟩ := hy'
              cases dx with
              | int a =>
                cases dy with
                | int b =>
                  obtain ⟨t, rfl⟩ := rd_int h1
                  obtain ⟨u, rfl⟩ := rd_int h3
                  refine wpAny_bind (EqAt.int_int _ _ _ _ prog w _ _ ?_)
                  by_cases hab : a = b
                  · subst hab
                    simp only [ltI, if_true] at hc'
                    rw [beq_self_eq_true]
                    wp_walk
                    exact ⟨rfl, rfl, xs', ys', vs', us', rfl, h2, h4, hc', by simp only [List.length_cons] at hn; omega⟩
                  · simp only [ltI, if_neg hab, Option.some.injEq] at hc'
                    rw [beq_eq_false_iff_ne.mpr hab]
                    wp_walk using rc_int
                    refine ⟨_, rfl, ?_⟩
                    rw [hc']
                    exact h
                | _ => simp [ltI] at hc'
              | _ => simp [ltI] at hc'
    case fin =>
      rintro ⟨b1, b2⟩ s' ⟨hb', rfl, xs', ys', vs', us', hz, hx', hy', hc', hn⟩
      simp only at hb'
      subst hb'
      wp_walk
      have e1 := hx'.length
      have e2 := hy'.length
      have : c = decide (items.size < items2.size) := by
        rw [n1, n2]
        cases xs' with
        | nil =>
          simp only [ltI, Option.some.injEq] at hc'
          subst hc'
          cases ys' with
          | nil => simp only [List.length_nil] at hn; exact (decide_eq_false (by omega)).symm
          | cons => simp only [List.length_nil, List.length_cons] at hn; exact (decide_eq_true (by omega)).symm
        | cons =>
          cases ys' with
          | nil =>
            simp only [ltI, Option.some.injEq] at hc'
            subst hc'
            simp only [List.length_nil, List.length_cons] at hn
            exact (decide_eq_false (by omega)).symm
          | cons =>
            cases vs' with
            | nil => simp at e1
            | cons =>
              cases us' with
              | nil => simp at e2
              | cons => simp at hz
      subst this
      exact ⟨_, rfl, by simpa [Builtin.Tuple.tupleCompareSizes] using h⟩
    case h =>
      exact ⟨rfl, rfl, xs, ys, _, _, rfl, hx, hy, hc, by omega⟩
theorem rc_tup {prog : Program} {w : World} {A : Around} {s : Shared} {K : KM} (hK : ∀ a o, K a = some o → s.heap.get? a = some o) {xs ys : List PyData} {u v : Value} {c : Bool} (hu : A.units < cLine) (hx : Rd K (.tuple xs) u) (hy : Rd K (.tuple ys) v) (hc : ltI xs ys = some c) {Q E : Value → Shared → Prop}
    (q : Q (.bool c) s) : wpAny (model prog w) A (richCompare .Lt u v) Q E s := by
  obtain ⟨l, vs, n, rfl, hl, hv⟩ := rd_tuple hx
  obtain ⟨b, us, k, rfl, hb, hw⟩ := rd_tuple hy
  exact richCompare_meets_room ⟨_, hK _ _ hl, rfl⟩ ⟨_, hK _ _ hb, rfl⟩ PySem.F.slot_tuple_lt PySem.F.entry_tuple_lt (PySem.F.args_tuple_lt_2 _ _) (tuple_ltAt l b vs.toArray us.toArray n k none none #[] #[] c)
    ⟨hK _ _ hl, hK _ _ hb, ⟨K, xs, ys, by simpa using hv, by simpa using hw, hc⟩, by simp, q⟩ hu
end Mine
/-! part 25 -/
set_option maxRecDepth 100000
namespace Mine
open PySem PySem.Calls PyProof.Rows PySem.W
open PySem.AutoSeq1 (wpAny_loadPart')
open PySem.MeetsSeq PySem.MeetsSeq2 PySem.MeetsSeq3 PySem.SeqRoads2 PySem.SeqAt
theorem eqAt_rd {A : Around} {s : Shared} {K : KM} (hK : ∀ a o, K a = some o → s.heap.get? a = some o) {x y : PyData} {u v : Value} (hx : Rd K x u) (hy : Rd K y v) (sx : shaped' x = true) (sy : shaped' y = true) (hu : A.units + 64 < cLine) : EqAt A s u v (PyData.eqv x y) := by
  obtain ⟨as, ra⟩ := Rd.reads hK _ _ hx
  obtain ⟨bs, rb⟩ := Rd.reads hK _ _ hy
  exact SeqAt.eqAt_reads _ _ _ _ _ _ as bs ra rb (SeqAt.canLay_of_shaped sx) (SeqAt.canLay_of_shaped sy) (SeqAt.room_of_shaped sx hu)
theorem lt_loopAt (l b : Addr) (items items2 : Array Value) (n n2 : Nat) (dd dd2 : Option Addr) (sl sl2 : Array (Option Value)) (c : Bool) (k : Nat) :
    ∀ i : Nat, items.size - i = k → Meets (Builtin.«list.__eq__.loop» ⟨[.ref l, .ref b, rawInt i, rawInt 0], []⟩)
      (fun A R s => s.heap.get? l = some { cls := .type "list", dict := dd, data := .seq items n, slots := sl } ∧ s.heap.get? b = some { cls := .type "list", dict := dd2, data := .seq items2 n2, slots := sl2 } ∧
        A.units + 70 < cLine ∧ i ≤ items.size ∧ i ≤ items2.size ∧ (∃ xs ys, RdL (fun a => s.heap.get? a) xs (items.toList.drop i) ∧ RdL (fun a => s.heap.get? a) ys (items2.toList.drop i) ∧ xs.all shaped' = true ∧ ys.all shaped' = true ∧ ltR xs ys = some c) ∧
        R (.ok (.ret (.bool c))) s) := by
  induction k with
  | zero =>
    intro i hk prog w A R s h
    obtain ⟨hp, g, d, tk, os⟩ := s; obtain ⟨hl, hb, hu, hi, hi2, ⟨xs, ys, hx, hy, sx, sy, hc⟩, h⟩ := h
    wp_walk using wpAny_loadPart' hl, wpAny_loadPart' hb
    have hi1 : items[((i : Nat) : Int).toNat]? = none := by simp; omega
    have e0 : items.toList.drop i = [] := by simp; omega
    rw [e0] at hx
    have : xs = [] := List.length_eq_zero_iff.mp (by rw [← hx.length]; rfl)
    subst this
    simp only [ltR, Option.some.injEq] at hc
    have hc2 : c = decide (items.size < items2.size) := by
      rw [← hc]
      have := hy.length
      simp only [List.length_drop, Array.length_toList] at this
      cases ys with
      | nil => simp only [List.length_nil] at this; exact (decide_eq_false (by omega)).symm
      | cons => simp only [List.length_cons] at this; exact (decide_eq_true (by omega)).symm
    subst hc2
    rw [hi1]
    wp_walk using wpAny_loadPart' hl, wpAny_loadPart' hb
    exact h
  | succ k ih =>
    intro i hk prog w A R s h
    obtain ⟨hp, g, d, tk, os⟩ := s; obtain ⟨hl, hb, hu, hi, hi2, ⟨xs, ys, hx, hy, sx, sy, hc⟩, h⟩ := h
    have hlt : i < items.size := by omega
    have hi1 : items[((i : Nat) : Int).toNat]? = some items[i] := by simp [hlt]
    have hd1 : items.toList.drop i = items[i] :: items.toList.drop (i + 1) := by simp [List.drop_eq_getElem_cons, hlt]
    rw [hd1] at hx
    cases xs with
    | nil => simp [RdL] at hx
    | cons x xs =>
      simp only [RdL, List.cons.injEq] at hx
      obtain ⟨v1, r1, ⟨rfl, rfl⟩, h1, h2⟩ := hx
      cases ys with
      | nil =>
        simp only [RdL] at hy
        have hl2 : items2.size ≤ i := by
          have := congrArg List.length hy
          simp at this; omega
        have hi2' : items2[((i : Nat) : Int).toNat]? = none := by simp; omega
        simp only [ltR, Option.some.injEq] at hc
        subst hc
        wp_walk using wpAny_loadPart' hl, wpAny_loadPart' hb
        rw [hi1, hi2']
        wp_walk using wpAny_loadPart' hl, wpAny_loadPart' hb
        have : decide (items.size < items2.size) = false := decide_eq_false (by omega)
        show R (.ok (.ret (.bool (decide (items.size < items2.size))))) _
        rw [this]
        exact h
      | cons y ys =>
        have hlt2 : i < items2.size := by
          have := hy.length
          simp only [List.length_drop, Array.length_toList, List.length_cons] at this
          omega
        have hi2' : items2[((i : Nat) : Int).toNat]? = some items2[i] := by simp [hlt2]
        have hd2 : items2.toList.drop i = items2[i] :: items2.toList.drop (i + 1) := by simp [List.drop_eq_getElem_cons, hlt2]
        rw [hd2] at hy
        simp only [RdL, List.cons.injEq] at hy
        obtain ⟨u1, t1, ⟨rfl, rfl⟩, h3, h4⟩ := hy
        simp only [List.all_cons, Bool.and_eq_true] at sx sy
        have hcc : ((i : Int) + 1) = ((i + 1 : Nat) : Int) := by push_cast; rfl
        wp_walk using wpAny_loadPart' hl, wpAny_loadPart' hb
        rw [hi1, hi2']
        refine wpAny_bind (eqAt_rd (s := ⟨hp, g, d, tk, os⟩) (fun _ _ e => e) h1 h3 sx.1 sy.1 (by show A.units + 1 + 64 < _; omega) prog w _ _ ?_)
        cases he : PyData.eqv x y with
        | true =>
          simp only [ltR, he, if_true] at hc
          wp_walk
          rw [hcc]
          exact ⟨plainId_quiet plain_eq_loop _, codeAny_builtin entry_eq_loop (by
            rw [Around.under_plainId plain_eq_loop _]
            exact ih (i + 1) (by omega) prog w A R _ ⟨hl, hb, hu, by omega, by omega, ⟨xs, ys, h2, h4, sx.2, sy.2, hc⟩, h⟩)⟩
        | false =>
          simp only [ltR, he, Bool.false_eq_true, if_false] at hc
          cases x with
          | tuple tx =>
            cases y with
            | tuple ty =>
              simp only [ltT] at hc
              wp_walk using wpAny_loadPart' hl, wpAny_loadPart' hb
              rw [hi1, hi2']
              show wpAny _ _ (do let r ← richCompare .Lt items[i] items2[i]; ret r) _ _ _
              refine wpAny_bind (rc_tup (fun _ _ e => e) (by show A.units + 1 < _; omega) h1 h3 hc ?_)
              wp_walk
              exact h
            | _ => simp [ltT] at hc
          | _ => simp [ltT] at hc
theorem list_ltAt (l b : Addr) (items items2 : Array Value) (n n2 : Nat) (dd dd2 : Option Addr) (sl sl2 : Array (Option Value)) (c : Bool) :
    Meets (Builtin.«list.__lt__» ⟨[.ref l, .ref b], []⟩)
      (fun A R s => s.heap.get? l = some { cls := .type "list", dict := dd, data := .seq items n, slots := sl } ∧ s.heap.get? b = some { cls := .type "list", dict := dd2, data := .seq items2 n2, slots := sl2 } ∧
        A.units + 70 < cLine ∧ (∃ xs ys, RdL (fun a => s.heap.get? a) xs items.toList ∧ RdL (fun a => s.heap.get? a) ys items2.toList ∧ xs.all shaped' = true ∧ ys.all shaped' = true ∧ ltR xs ys = some c) ∧
        R (.ok (.ret (.bool c))) s) := by
  intro prog w A R s h
  obtain ⟨hp, g, d, tk, os⟩ := s; obtain ⟨hl, hb, hu, he, h⟩ := h
  have f3 := AutoSeq1.sub_list_list
  wp_walk using wpAny_loadPart' hl, wpAny_loadPart' hb
  exact ⟨plainId_quiet plain_eq_loop _, codeAny_builtin entry_eq_loop (by
    rw [Around.under_plainId plain_eq_loop _]
    exact lt_loopAt l b items items2 n n2 dd dd2 sl sl2 c _ 0 rfl prog w A R _ ⟨hl, hb, hu, Nat.zero_le _, Nat.zero_le _, he, h⟩)⟩
theorem key_lt {prog : Program} {w : World} {A : Around} {s : Shared} {K : KM} (hK : ∀ a o, K a = some o → s.heap.get? a = some o) {xs ys : List PyData} {u v : Value} {c : Bool} (hu : A.units + 72 < cLine) (hx : Rd K (.list xs) u) (hy : Rd K (.list ys) v) (sx : xs.all shaped' = true) (sy : ys.all shaped' = true)
    (hc : ltR xs ys = some c) {Q : Bool → Shared → Prop} {E : Value → Shared → Prop} (q : Q c s) : wpAny (model prog w) A (keyLt' oneType' u v) Q E s := by
  obtain ⟨l, vs, n, rfl, hl, hv⟩ := rd_list hx
  obtain ⟨b, us, k, rfl, hb, hw⟩ := rd_list hy
  rw [keyLt'_oneType, oneLt'_eq]
  simp only [if_true]
  refine wpAny_bind (wpAny_cRoomFor (by omega) ?_)
  refine wpAny_bind (wpAny_callSpecialIfBound?_slot (typeIs_list (hK _ _ hl)) PySem.F.slot_list_lt ?_)
  refine call_meets PySem.F.slot_list_lt (typeIs_list (hK _ _ hl)) PySem.F.entry_list_lt (PySem.F.args_list_lt_2 _ _) (list_ltAt l b vs.toArray us.toArray n k none none #[] #[] c)
    ⟨hK _ _ hl, hK _ _ hb, by omega, ⟨xs, ys, RdL.mono (fun a o _ e => hK a o e) _ _ (by simpa using hv), RdL.mono (fun a o _ e => hK a o e) _ _ (by simpa using hw), sx, sy, hc⟩, ?_⟩
  exact wpAny_truthy_bool q
end Mine
/-! part 26 -/
set_option maxRecDepth 100000
namespace Mine
open PySem PySem.Calls PyProof.Rows PySem.W
noncomputable def kasRun {α : Type} (cmp : Nat → Nat → Option Bool) : KasT α → Option α
  | .ret a => some a
  | .ask i j k => (cmp i j).bind fun b => kasRun cmp (k b)
noncomputable def cmpAt (xs : List PyData) (i j : Nat) : Option Bool := match xs.getD i .none, xs.getD j .none with
  | .list a, .list b => ltR a b
  | _, _ => none
noncomputable def rowOk : PyData → Bool
  | .list ys => ys.all shaped'
  | _ => false
/-- `sorted` of a list of lists of tuples of ints -/
noncomputable def sortRows (xs : List PyData) : Option (List PyData) :=
  if xs.length < 64 ∧ xs.all rowOk = true then
    if xs.length < 2 then some xs else (kasRun (cmpAt xs) (kas_sort xs.length)).map fun p => p.toList.map fun i => xs.getD i .none
  else none
section
variable {prog : Program} {w : World} {A : Around} {E : Value → Shared → Prop} {s : Shared}
theorem kas_run {α : Type} {cmp : Nat → Nat → Option Bool} {ask : Nat → Nat → (Bool → Shared → Prop) → Shared → Prop} (h : ∀ i j b C, cmp i j = some b → C b s → ask i j C s) : ∀ {t : KasT α} {p : α} {Q : α → Shared → Prop}, kasRun cmp t = some p → Q p s → t.kasWp ask Q s
  | .ret a, p, Q, e, q => by simp only [kasRun, Option.some.injEq] at e; subst e; exact q
  | .ask i j k, p, Q, e, q => by
    simp only [kasRun, Option.bind_eq_some_iff] at e
    obtain ⟨b, e1, e2⟩ := e
    exact h i j b _ e1 (kas_run h e2 q)
theorem RdL.getD {K : KM} {xs : List PyData} {vs : List Value} (h : RdL K xs vs) (i : Nat) : Rd K (xs.getD i .none) (vs.getD i .none) := by
  rw [List.getD_eq_getElem?_getD, List.getD_eq_getElem?_getD]
  cases e : xs[i]? with
  | some d =>
    obtain ⟨v, hv, hr⟩ := h.get e
    rw [hv]; exact hr
  | none =>
    have : vs[i]? = none := by
      rw [List.getElem?_eq_none_iff] at e ⊢
      rw [h.length]; exact e
    rw [this]
    simp [Rd]
theorem RdL.maps {K : KM} {xs : List PyData} {vs : List Value} (h : RdL K xs vs) : ∀ idx : List Nat, RdL K (idx.map fun i => xs.getD i .none) (idx.map fun i => vs.getD i .none)
  | [] => by simp [RdL]
  | i :: r => by simp only [List.map_cons, RdL]; exact ⟨_, _, rfl, h.getD i, h.maps r⟩
theorem looks_list {M : Model} {h : Heap} {l : Addr} {us : List Value} {c : Nat} (e : h.get? l = some (lObj us c)) : Looks M h (typeOf (.ref l)) (.type "list") :=
  fun A Q E s k q => wpAny_typeOf (T := "list") ⟨_, k _ _ e, rfl⟩ q
theorem my_sort {a : Addr} {vs : List Value} {n : Nat} {xs : List PyData} {ys : List PyData} {K : KM} {P : PySem.Fin → Shared → Prop} (hu : A.units + 72 < cLine) (ho : s.heap.get? a = some (seqObj "list" vs.toArray n)) (hK : ∀ b o, K b = some o → b ≠ a ∧ s.heap.get? b = some o) (hr : RdL K xs vs)
    (hs : sortRows xs = some ys) (h : ∀ out, RdL K ys out → P (.done (.ret .none)) { s with heap := sortedHeap s.heap a vs out.toArray }) :
    wpAny (model prog w) A (Builtin.«list.sort» ⟨[.ref a], []⟩) P E s := by
  unfold sortRows at hs
  split at hs
  rotate_left
  · cases hs
  rename_i hc
  have hlen := hr.length
  rw [list_sort_plain]
  have ha : a < s.heap.objs.size := Heap.lt_size ho
  refine wpAny_bind (listItems_at ho rfl ?_)
  refine wpAny_bind (listUpdate_at ho rfl ?_ (by rw [List.size_toArray, sizeLine_eq]; omega) (Nat.zero_le _))
  obtain ⟨e1, ho1⟩ : ∃ e1, (s.heap.update a (Obj.mapSeq fun _ => #[])).get? a = some (seqObj "list" #[] e1) := ⟨_, get?_update_seq ho (fun _ => #[])⟩
  refine wpAny_bind (seqEpoch_at ho1 rfl ?_)
  refine wpAny_bind (wpAny_newTuple ?_ (by show vs.length ≤ _; rw [sizeLine_eq]; omega))
  refine wpAny_bind (wpAny_newList ?_ (Nat.zero_le _))
  refine wpAny_holding ?_
  have ho6 : (((s.heap.update a (Obj.mapSeq fun _ => #[])).push (seqObj "tuple" vs.toArray 0)).push (seqObj "list" #[] 0)).get? a = some (seqObj "list" #[] e1) := by
    rw [Heap.get?_push_ne _ _ _ (by rw [size_push', Heap.size_update]; exact Nat.ne_of_lt (Nat.lt_succ_of_lt ha)), Heap.get?_push_ne _ _ _ (by rw [Heap.size_update]; exact Nat.ne_of_lt ha)]
    exact ho1
  have hK6 : ∀ b o, K b = some o → (((s.heap.update a (Obj.mapSeq fun _ => #[])).push (seqObj "tuple" vs.toArray 0)).push (seqObj "list" #[] 0)).get? b = some o := fun b o e => by
    obtain ⟨hne, hg⟩ := hK b o e
    have hb : b < s.heap.objs.size := Heap.lt_size hg
    rw [Heap.get?_push_ne _ _ _ (by rw [size_push', Heap.size_update]; exact Nat.ne_of_lt (Nat.lt_succ_of_lt hb)), Heap.get?_push_ne _ _ _ (by rw [Heap.size_update]; exact Nat.ne_of_lt hb), Heap.get?_update_other _ _ (Ne.symm hne)]
    exact hg
  show wpAny (model prog w) A _ P E { s with heap := ((s.heap.update a (Obj.mapSeq fun _ => #[])).push (seqObj "tuple" vs.toArray 0)).push (seqObj "list" #[] 0) }
  dsimp only
  have hsz : vs.toArray.size = vs.length := by simp
  by_cases h2 : vs.toArray.size < 2
  · rw [if_pos h2, if_pos h2]
    rw [if_pos (by omega)] at hs
    cases hs
    refine wpAny_bind (wpAny_pure ?_)
    rw [StateT.run_pure]
    refine wpAny_bind (wpAny_pure ?_)
    dsimp only
    refine wpAny_bind (seqEpoch_at ho6 rfl ?_)
    have hout : (arrOf (SortSt.mk' general' (vs.toArray.zip vs.toArray) #[] 7 none)).map (·.2) = vs.toArray := by
      show (pairsOf vs).map (·.2) = _
      apply Array.toList_inj.mp
      simp [pairsOf, List.map_zip_eq_zipWith, List.zipWith_self]
    rw [hout]
    refine wpAny_bind (listUpdate_at ho6 rfl ?_ (Nat.zero_le _) (by rw [List.size_toArray, sizeLine_eq]; omega))
    simp only [bne_self_eq_false, Bool.false_eq_true, if_false]
    exact wpAny_pure (h vs hr)
  · rw [if_neg h2, if_neg h2]
    rw [if_neg (by omega)] at hs
    simp only [Option.map_eq_some_iff] at hs
    obtain ⟨p0, hp0, rfl⟩ := hs
    have h2' : 2 ≤ vs.length := by omega
    have hrow : ∀ (i : Nat) (d : PyData), xs[i]? = some d → rowOk d = true := fun i d e => List.all_eq_true.mp hc.2 d (List.mem_of_getElem? e)
    refine wpAny_bind (kas_kind h2' (T := .type "list") (fun v hv => ?_) (by decide) (by decide) ?_)
    · obtain ⟨i, hi, rfl⟩ := List.getElem_of_mem hv
      have hxi : xs[i]? = some xs[i] := List.getElem?_eq_getElem (by omega)
      obtain ⟨v, hv', hrd⟩ := hr.get hxi
      have hrk := hrow i _ hxi
      rw [List.getElem?_eq_getElem hi] at hv'
      cases hv'
      cases hd : xs[i] with
      | list zs =>
        rw [hd] at hrd
        obtain ⟨l, us, c, e, hl, _⟩ := rd_list hrd
        rw [e]
        exact looks_list (hK6 _ _ hl)
      | _ => rw [hd] at hrk; simp [rowOk] at hrk
    · have est : SortSt.mk' oneType' (vs.toArray.zip vs.toArray) #[] 7 none = kas_st oneType' (pairsOf vs) (List.toArray (List.range vs.length)) := by
        have e := kas_range (pairsOf vs)
        rw [pairsOf_size] at e
        show SortSt.mk' oneType' (pairsOf vs) #[] 7 none = SortSt.mk' oneType' ((List.toArray (List.range vs.length)).map (kas_item (pairsOf vs))) #[] 7 none
        rw [e]
      have asks : (kas_sort vs.length).kasWp (kas_ask prog w A oneType' vs) (fun p s' => p = p0 ∧ s' = { s with heap := ((s.heap.update a (Obj.mapSeq fun _ => #[])).push (seqObj "tuple" vs.toArray 0)).push (seqObj "list" #[] 0) })
          { s with heap := ((s.heap.update a (Obj.mapSeq fun _ => #[])).push (seqObj "tuple" vs.toArray 0)).push (seqObj "list" #[] 0) } := by
        refine kas_run (cmp := cmpAt xs) (fun i j b C e q => ?_) (by rw [hlen]; exact hp0) ⟨rfl, rfl⟩
        unfold cmpAt at e
        unfold kas_ask
        split at e
        · rename_i x1 x2 e1 e2
          have r1 := hr.getD i
          have r2 := hr.getD j
          rw [e1] at r1
          rw [e2] at r2
          have ok : ∀ (i : Nat) (zs : List PyData), xs.getD i .none = .list zs → zs.all shaped' = true := fun i zs ez => by
            rw [List.getD_eq_getElem?_getD] at ez
            cases ex : xs[i]? with
            | none => rw [ex] at ez; cases ez
            | some d =>
              rw [ex] at ez
              simp only [Option.getD_some] at ez
              have := hrow i d ex
              rw [ez] at this
              exact this
          exact key_lt hK6 hu r1 r2 (ok i x1 e1) (ok j x2 e2) e q
        · cases e
      rw [kas_ask_eq] at asks
      have run := kas_runs (E := E) (Q := fun _ st' s' => arrOf st' = p0.map (kas_item (pairsOf vs)) ∧ p0.size = vs.length ∧ failedOf st' = none ∧ s' = { s with heap := ((s.heap.update a (Obj.mapSeq fun _ => #[])).push (seqObj "tuple" vs.toArray 0)).push (seqObj "list" #[] 0) })
        h2' (by omega) (fun p' st' s' a1 a2 a3 a4 => ⟨by rw [← a4.1]; exact a2, by rw [← a4.1]; exact a1, a3, a4.2⟩) asks
      rw [← est] at run
      refine wpAny_bind (wpAny_mono run ?_ fun _ _ e => e)
      rintro ⟨⟨⟩, st'⟩ s' ⟨har, hp, hf, rfl⟩
      dsimp only
      have hout : (arrOf st').map (·.2) = List.toArray (p0.toList.map fun i => vs.getD i Value.none) := by
        apply Array.toList_inj.mp
        rw [har, Array.map_map, Array.toList_map]
        exact List.map_congr_left fun i _ => by show (kas_item (pairsOf vs) i).2 = _; rw [kas_item_eq]
      have hsz2 : (List.toArray (p0.toList.map fun i => vs.getD i Value.none)).size = vs.length := by rw [List.size_toArray, List.length_map, Array.length_toList, hp]
      rw [hout]
      refine wpAny_bind (seqEpoch_at ho6 rfl ?_)
      refine wpAny_bind (listUpdate_at ho6 rfl ?_ (Nat.zero_le _) (Nat.le_trans (Nat.le_of_eq hsz2) (by rw [sizeLine_eq]; omega)))
      rw [hf]
      simp only [bne_self_eq_false, Bool.false_eq_true, if_false]
      exact wpAny_pure (h _ (hr.maps p0.toList))
theorem sort_ok (P : Prims) (hP : P.sortD = sortRows) : SortOk prog w P := by
  intro A hid s xs ys v n hm hh hr hs Q E q
  rw [hP] at hs
  obtain ⟨l, vs, c, rfl, hl, hv⟩ := rd_list hr
  have hlen : vs.length < 64 := by
    have := hv.length
    unfold sortRows at hs
    split at hs
    · rename_i hc; omega
    · cases hs
  refine Calls.call_function_entry kind_sorted plain_sorted entry_sorted (args_sorted1 _) ?_
  unfold Builtin.«sorted»
  refine wpAny_bind (m := checkCount "sorted" 1 1 _) (wpAny_pure ?_)
  refine wpAny_bind (collect_list ⟨_, hk_sub hl, rfl, _, rfl⟩ ?_ (by rw [sizeLine_eq]; omega))
  refine wpAny_bind (wpAny_newList ?_ (by rw [sizeLine_eq]; omega))
  have hsz : ((s.heap.push (seqObj "list" #[] 0)).update s.heap.objs.size (Obj.mapSeq (· ++ vs.toArray))).objs.size = s.heap.objs.size + 1 := by
    rw [Heap.size_update, size_push']
  have hoL : (((s.heap.push (seqObj "list" #[] 0)).update s.heap.objs.size (Obj.mapSeq (· ++ vs.toArray))).push (seqObj "list" vs.toArray 0)).get? (s.heap.objs.size + 1) = some (seqObj "list" vs.toArray 0) := by
    rw [← hsz]; exact Heap.get?_push_size _ rfl
  have keep : ∀ b o, s.heap.get? b = some o → (((s.heap.push (seqObj "list" #[] 0)).update s.heap.objs.size (Obj.mapSeq (· ++ vs.toArray))).push (seqObj "list" vs.toArray 0)).get? b = some o := fun b o q => by
    have hlt : b < s.heap.objs.size := Heap.lt_size q
    rw [Heap.get?_push_ne _ _ _ (by rw [hsz]; exact Nat.ne_of_lt (Nat.lt_succ_of_lt hlt)), Heap.get?_update_other _ _ (Ne.symm (Nat.ne_of_lt hlt)), Heap.get?_push_ne _ _ _ (Nat.ne_of_lt hlt)]
    exact q
  show wpAny _ _ _ _ _ { s with heap := ((s.heap.push (seqObj "list" #[] 0)).update s.heap.objs.size (Obj.mapSeq (· ++ vs.toArray))).push (seqObj "list" vs.toArray 0) }
  rw [hsz]
  refine wpAny_bind (wpAny_holding (wpAny_call_entry slot_list_sort ⟨_, hoL, rfl⟩ entry_list_sort (my_sort (K := hk hid s.heap) (by show A.units + 1 + 1 + 72 < _; have := hm.un; omega) hoL (fun b o e => ⟨Nat.ne_of_lt (Nat.lt_succ_of_lt (Heap.lt_size (hk_sub e))), keep b o (hk_sub e)⟩) hv hs fun out hout => ⟨_, rfl, ?_⟩) (args_list_sort _)))
  refine wpAny_pure ⟨_, rfl, ?_⟩
  have hb0 : ∀ b o, s.heap.get? b = some o → (sortedHeap (((s.heap.push (seqObj "list" #[] 0)).update s.heap.objs.size (Obj.mapSeq (· ++ vs.toArray))).push (seqObj "list" vs.toArray 0)) (s.heap.objs.size + 1) vs out.toArray).get? b = some o := fun b o e => by
    have hlt : b < s.heap.objs.size := Heap.lt_size e
    unfold sortedHeap
    rw [Heap.get?_update_other _ _ (Ne.symm (Nat.ne_of_lt (Nat.lt_succ_of_lt hlt)))]
    refine Heap.get?_push_of_some _ (Heap.get?_push_of_some _ ?_)
    rw [Heap.get?_update_other _ _ (Ne.symm (Nat.ne_of_lt (Nat.lt_succ_of_lt hlt)))]
    exact keep b o e
  have kp : Kp s { s with heap := sortedHeap (((s.heap.push (seqObj "list" #[] 0)).update s.heap.objs.size (Obj.mapSeq (· ++ vs.toArray))).push (seqObj "list" vs.toArray 0)) (s.heap.objs.size + 1) vs out.toArray, toks := s.toks } := Kp.mk' hb0
  refine q _ _ kp ?_
  simp only [Rd]
  have hnew : s.heap.objs.size + 1 ∉ hid := fun m => by
    obtain ⟨o, e⟩ := hh _ m
    exact absurd (Heap.lt_size e) (Nat.not_lt.mpr (Nat.le_succ _))
  have g1 : ∃ c2, (sortedHeap (((s.heap.push (seqObj "list" #[] 0)).update s.heap.objs.size (Obj.mapSeq (· ++ vs.toArray))).push (seqObj "list" vs.toArray 0)) (s.heap.objs.size + 1) vs out.toArray).get? (s.heap.objs.size + 1) = some (seqObj "list" out.toArray c2) := by
    unfold sortedHeap
    have : ((((((s.heap.push (seqObj "list" #[] 0)).update s.heap.objs.size (Obj.mapSeq (· ++ vs.toArray))).push (seqObj "list" vs.toArray 0)).update (s.heap.objs.size + 1) (Obj.mapSeq fun _ => #[])).push (seqObj "tuple" vs.toArray 0)).push (seqObj "list" #[] 0)).get? (s.heap.objs.size + 1) = some (seqObj "list" #[] _) :=
      Heap.get?_push_of_some _ (Heap.get?_push_of_some _ (get?_update_seq hoL fun _ => #[]))
    exact ⟨_, get?_update_seq this fun _ => out.toArray⟩
  obtain ⟨c2, g1⟩ := g1
  exact ⟨_, out, c2, rfl, hk_of hnew g1, hout.keeps kp⟩
end
end Mine
/-! part 27 -/
set_option maxRecDepth 100000
namespace Mine
open PySem PySem.Calls PyProof.Rows PySem.W PySem.Spec
section
variable {prog : Program} {w : World} {A : Around} {E : Value → Shared → Prop} {s : Shared} {I l : Addr} {i : Nat} {items : Array Value}
theorem next_item {x : Value} {Q : Value → Shared → Prop} (hit : s.heap.IsListIter I l i) (hl : s.heap.IsList l items) (hx : items[i]? = some x)
    (hQ : ∀ h', h'.IsListIter I l (i + 1) → Heap.SameBut I s.heap h' → Q x { s with heap := h' }) : wpAny (model prog w) A (call (.builtin "next") [.ref I]) Q E s := by
  obtain ⟨o, ho, hc, hd⟩ := id hit
  obtain ⟨ol, hol, _, nl, hdl⟩ := id hl
  refine call_function_entry (by decide +kernel) (by decide +kernel) kdk_entry_next (kdk_args_next _) ?_
  unfold Builtin.«next»
  refine wpAny_bind (m := someArgs "next" 1 2 _) (wpAny_of_eq (a := [Value.ref I]) (by first | rfl | kernel_rfl!) ?_)
  dsimp only
  refine wpAny_bind (wpAny_specialOf (name := Str.ofString "__next__") hit.typeIs slot_listiter_next.lookup ?_)
  refine wpAny_ite_split (fun hab => absurd hab (by decide)) (fun _ => ?_)
  refine wpAny_bind (wpAny_callSpecial?_slot (name := Str.ofString "__next__") hit.typeIs slot_listiter_next
    (wpAny_call_entry slot_listiter_next hit.typeIs entry_listiter_next ?_ (args_listiter_next _)))
  show wpAny _ _ (field (.ref I) 0 >>= _) _ _ s
  refine wpAny_bind (wpAny_field ho hd (x := .ref l) rfl ?_)
  show wpAny _ _ (if (Value.ref l == Value.none) = true then _ else _) _ _ s
  rw [if_neg (show ¬ ((Value.ref l == Value.none) = true) from Bool.false_ne_true)]
  show wpAny _ _ (field (.ref I) 1 >>= _) _ _ s
  refine wpAny_bind (wpAny_field ho hd (x := .int i 0) rfl ?_)
  show wpAny _ _ (seqItems? (.ref l) >>= _) _ _ s
  refine wpAny_bind (wpAny_seqItems hol hdl ?_)
  simp only [Int.toNat_natCast, hx]
  refine wpAny_bind (wpAny_setField ho hd (by simp) (wpAny_pure ⟨x, rfl, wpAny_pure ⟨_, rfl, hQ _ ?_ (Heap.SameBut.update ..)⟩⟩))
  exact ⟨_, Heap.get?_update_self _ ho (Obj.isFreed_of_fields (Obj.data_mapFields hd _)), (Obj.cls_mapFields ..).trans hc, by
    rw [Obj.data_mapFields hd]; simp [rawInt]⟩
/-- the state in which `next` raises -/
noncomputable def StopAt (I : Addr) (h h' : Heap) (e : Addr) : Prop :=
  Heap.ExtBut I h h' ∧ h.get? e = none ∧ ∃ o vs, h'.get? e = some o ∧ o.cls = .type "StopIteration" ∧ o.data = .fields vs ∧ vs[1]? = some .none
theorem next_end {Q : Value → Shared → Prop} (hh : A.handled = none) (hit : s.heap.IsListIter I l i) (hl : s.heap.IsList l items) (hx : items[i]? = none)
    (hE : ∀ h' e, StopAt I s.heap h' e → E (.ref e) { s with heap := h' }) : wpAny (model prog w) A (call (.builtin "next") [.ref I]) Q E s := by
  obtain ⟨o, ho, hc, hd⟩ := id hit
  obtain ⟨ol, hol, _, nl, hdl⟩ := id hl
  refine call_function_entry (by decide +kernel) (by decide +kernel) kdk_entry_next (kdk_args_next _) ?_
  unfold Builtin.«next»
  refine wpAny_bind (m := someArgs "next" 1 2 _) (wpAny_of_eq (a := [Value.ref I]) (by first | rfl | kernel_rfl!) ?_)
  dsimp only
  refine wpAny_bind (wpAny_specialOf (name := Str.ofString "__next__") hit.typeIs slot_listiter_next.lookup ?_)
  refine wpAny_ite_split (fun hab => absurd hab (by decide)) (fun _ => ?_)
  refine wpAny_bind (wpAny_callSpecial?_slot (name := Str.ofString "__next__") hit.typeIs slot_listiter_next
    (wpAny_call_entry slot_listiter_next hit.typeIs entry_listiter_next ?_ (args_listiter_next _)))
  show wpAny _ _ (field (.ref I) 0 >>= _) _ _ s
  refine wpAny_bind (wpAny_field ho hd (x := .ref l) rfl ?_)
  show wpAny _ _ (if (Value.ref l == Value.none) = true then _ else _) _ _ s
  rw [if_neg (show ¬ ((Value.ref l == Value.none) = true) from Bool.false_ne_true)]
  show wpAny _ _ (field (.ref I) 1 >>= _) _ _ s
  refine wpAny_bind (wpAny_field ho hd (x := .int i 0) rfl ?_)
  show wpAny _ _ (seqItems? (.ref l) >>= _) _ _ s
  refine wpAny_bind (wpAny_seqItems hol hdl ?_)
  simp only [Int.toNat_natCast, hx]
  refine wpAny_bind (wpAny_rule (wpAny_bind (wpAny_setField ho hd (by simp) ?_)))
  show wpAny _ _ (newExc (.type "StopIteration") [] >>= _) _ _ _
  refine wpAny_bind ?_
  simp only [newExc, newTuple]
  refine wpAny_bind (wpAny_newObj_type ?_ (by size_fits))
  refine wpAny_bind (m := firstArgMember _ _) (wpAny_of_eq (a := Value.none) (by first | rfl | (simp only [firstArgMember]; rfl)) ?_)
  refine wpAny_newObj_type ?_ (by size_fits)
  simp only [raiseNew]
  refine wpAny_bind (wpAny_handled ?_)
  rw [show A.in1.in1.handled = none from hh]
  refine wpAny_bind (wpAny_pure (wpAny_throw ?_))
  refine hE _ _ ⟨((Heap.SameBut.update ..).extBut.push _).push _, ?_, _, _, Heap.get?_push_size _ rfl, rfl, rfl, by first | rfl | simp⟩
  refine Heap.get?_none_of_le ?_
  rw [Heap.size_push, Heap.size_update]
  exact Nat.le_succ _
theorem iter_list {vs : List Value} {c : Nat} {Q : Value → Shared → Prop} (hg : s.heap.get? l = some (lObj vs c))
    (h : ∀ h', h'.IsListIter s.heap.objs.size l 0 → (∀ b o, s.heap.get? b = some o → h'.get? b = some o) → Q (.ref s.heap.objs.size) { s with heap := h' }) :
    wpAny (model prog w) A (call (.builtin "iter") [.ref l]) Q E s := by
  refine call_function_entry (by decide +kernel) (by decide +kernel) kdk_entry_iter (kdk_args_iter _) ?_
  unfold Builtin.«iter»
  refine wpAny_bind (m := someArgs "iter" 1 2 _) (wpAny_of_eq (a := [Value.ref l]) (by first | rfl | kernel_rfl!) ?_)
  show wpAny _ _ (pyIter (.ref l) >>= _) _ _ _
  refine wpAny_bind (wpAny_pyIter_list ⟨_, hg, rfl, _, rfl⟩ ?_)
  exact wpAny_pure ⟨_, rfl, h _ ⟨_, Heap.get?_push_size _ rfl, rfl, rfl⟩ fun b o e => Heap.get?_push_of_some _ e⟩
end
theorem or64 {a b : Int} (ha : 0 ≤ a) (hb : 0 ≤ b) (hb' : b < 64) : Builtin.bitOr (a * 64) b = a * 64 + b := by
  obtain ⟨m, rfl⟩ := Int.eq_ofNat_of_zero_le ha
  obtain ⟨n, rfl⟩ := Int.eq_ofNat_of_zero_le hb
  have hn : n < 64 := by omega
  have e1 : decide (0 ≤ Spec.bitNot ((m : Int) * 64)) = false := by
    refine decide_eq_false ?_
    show ¬ (0 ≤ -((m : Int) * 64) - 1)
    omega
  have e2 : decide (0 ≤ Spec.bitNot (n : Int)) = false := by
    refine decide_eq_false ?_
    show ¬ (0 ≤ -(n : Int) - 1)
    omega
  show Spec.bitOr ((m : Int) * 64) n = _
  unfold Spec.bitOr Spec.bitAnd
  rw [e1, e2]
  have b1 : Spec.bitNot (Spec.bitNot ((m : Int) * 64)) = (m : Int) * 64 := by show -(-((m : Int) * 64) - 1) - 1 = _; omega
  have b2 : Spec.bitNot (Spec.bitNot (n : Int)) = n := by show -(-(n : Int) - 1) - 1 = _; omega
  have b3 : ∀ z : Int, Spec.bitNot (Spec.bitNot z) = z := fun z => by show -(-z - 1) - 1 = _; omega
  dsimp only
  rw [b1, b2, b3]
  have t1 : ((m : Int) * 64).toNat = 2 ^ 6 * m := by omega
  have t2 : ((n : Int)).toNat = n := by omega
  rw [t1, t2, ← Nat.two_pow_add_eq_or_of_lt (by simpa using hn) m]
  omega
theorem and63 (a : Int) : Builtin.bitAnd a 63 = a % 64 := bitAnd_m6 a
theorem and64 (a : Int) : Builtin.bitAnd a 64 = (a / 64 % 2) * 64 := kbt_bit a 6
end Mine
/-! part 28 -/
set_option maxRecDepth 100000
namespace Mine
open PySem PySem.Calls PyProof.Rows PySem.W
section
variable {prog : Program} {w : World} {B : Bt} {A : Around} {hid own : List Addr} {s s₀ s' : Shared} {env : Env} {st st' : Sto} {n : Nat} {R : Ip} {P : Prims} {W : List Addr} {σ : Sig}
/-- a def is entered -/
theorem enter {f : Str} {q : Fn} (hroom : A.depth < recursionLimit) (hq : FnAt B f q) (ho : okFn q = true) (hb : Bs B s) (hh : HidOk hid s) {vs : List Value} {a : Addr} (hl : vs.length = q.1.length) (ha : B.mg f = some (.ref a)) {Q E : Value → Shared → Prop}
    (k : ∀ env s1 dv, Kp s s1 → env.scope = q.2.2.2 → env.frame = some env.locals → s.heap.get? env.locals = none → FOk B env [] hid [] s s1 → RdL (fun _ => none) (q.2.1.map (·.2)) dv → (∀ x v, ((q.1 ++ q.2.1.map (·.1)).zip (vs ++ dv)).lookup x = some v → NmAt env x v s1) →
      wpAny (model prog w) (A.deeper env) (execs q.2.2.1 env) (fun f s' => Q (match f with | .ret v => v | _ => .none) s')
        (fun e s' => wpAny (model prog w) (A.deeper env) (leaving env e) (fun _ s'' => E e s'') (fun e' s'' => E e' s'') s') s1) : wpAny (model prog w) A (call (.ref a) vs) Q E s := by
  obtain ⟨a', o, fd, h1, h2, h3, h4, h5, h6, h7, h8, h9, hbind⟩ := hq.ex
  rw [ha] at h1; cases h1
  obtain ⟨dv, rdv, hbd⟩ := hbind s vs hb hl
  simp only [okFn, Bool.and_eq_true, Bool.not_eq_true', beq_iff_eq, Option.isNone_iff_eq_none] at ho
  obtain ⟨⟨⟨⟨⟨⟨⟨⟨o1, o2⟩, o3⟩, o4⟩, o5⟩, o6⟩, o7⟩, o8⟩, o9⟩ := ho
  have nd1 := nodupS_ok o4
  have nd2 := nodupS_ok o5
  have hvl : (vs ++ dv).length = (q.1 ++ q.2.1.map (·.1)).length := by
    have := rdv.length
    simp only [List.length_append, List.length_map] at this ⊢
    rw [this, hl]
  have hnames : (((q.1 ++ q.2.1.map (·.1)).zip (vs ++ dv)).map (·.1)) = q.1 ++ q.2.1.map (·.1) := List.map_fst_zip (by omega)
  have hcn := cellsFrom_names q.2.2.2.names (s.heap.objs.size + 1) [] nd1 List.nodup_nil (by simp)
  have hsome : ∀ y, q.2.2.2.names.lookup y = some .cell → ∃ c, (cellsFrom (s.heap.objs.size + 1) q.2.2.2.names []).lookup y = some c := fun y hy => lookup_of_mem (hcn.2 y (.inr (mem_of_lookup' hy)))
  refine wpAny_call (codeAny_call_function hroom (hb a o h2) h3 (by rw [h5]; exact o2) (by rw [h5]; exact o3) h4 (h9.keeps fun b o e => hb b o e) (hbd _ _ _ _ ?_))
  rw [h8]
  refine wpAny_newFunctionEnv_cells (by rw [h5]; exact o1) (fun y hy => ?_) fun env he s1 X => ⟨(B.nl.keeps fun b o e => hb b o e).keeps X.toInCall.keep, codeAny_func ?_⟩
  · have hm1 : y.1 ∈ q.1 ++ q.2.1.map (·.1) := by rw [← hnames]; exact List.mem_map.mpr ⟨y, hy, rfl⟩
    have := List.all_eq_true.mp o6 y.1 hm1
    simp only [Bool.or_eq_true, beq_iff_eq] at this
    rw [h5]
    rcases this with h | h
    · exact .inl h
    · obtain ⟨c, hc⟩ := hsome y.1 h
      exact .inr ⟨h, by rw [hc]; rfl⟩
  · have e1 : env.scope = q.2.2.2 := by rw [he, ← h5]; rfl
    have e2 : env.cells = cellsFrom (s.heap.objs.size + 1) q.2.2.2.names [] := by rw [he, ← h5]; rfl
    have e3 : env.locals = s.heap.objs.size := by rw [he]; rfl
    have e4 : ∀ y, env.kindOf y = q.2.2.2.names.lookup y := fun y => by show env.scope.names.lookup y = _; rw [e1]
    have kp : Kp s s1 := by
      obtain ⟨h', tk, rfl⟩ := X.toInCall.same
      exact Kp.mk' X.toInCall.keep
    refine k env s1 dv kp e1 (by rw [he]; rfl) (by rw [e3]; exact get_size _)
      { kp := kp
        base0 := hb
        hids := hh.keeps kp
        apo := by simp
        kind := by rw [e1]; exact o1
        gl := by rw [he]; exact h6
        bl := by rw [he]; exact h7
        nodbg := ⟨by rw [e4]; exact o8, by rw [e4]; exact o9⟩
        nofree := fun y hy => by
          rw [e4] at hy
          have := List.all_eq_true.mp o7 _ (mem_of_lookup' hy)
          simp at this
        L0 := by rw [e3]; exact get_size _
        ns := ⟨_, X.toInCall.ns⟩
        cells := fun y hy => by rw [e4] at hy; rw [e2]; exact hsome y hy
        cell := fun y c hc => ⟨Heap.get?_none_of_le (Nat.le_of_lt (by have := X.above y c (mem_of_lookup hc); rw [e3] at this; exact this)), _, X.cell y c hc⟩
        apart := fun y z c hy hz => name_of_addr X.apart (mem_of_lookup hy) (mem_of_lookup hz)
        owns := by simp
        slots := fun y sl hy => by cases hy
        dist := fun y z es fs b _ hy _ _ _ => by cases hy
        nd := List.nodup_nil
        cnd := by rw [e2]; exact hcn.1 } rdv fun x v hv => ?_
    have hyn : x ∈ q.1 ++ q.2.1.map (·.1) := by rw [← hnames]; exact List.mem_map.mpr ⟨_, lookup_mem hv, rfl⟩
    have := List.all_eq_true.mp o6 x hyn
    simp only [Bool.or_eq_true, beq_iff_eq] at this
    rcases this with h | h
    · refine .inl ⟨by rw [e4]; exact h, _, X.toInCall.ns, ?_⟩
      rw [bindL_lookup (by rw [e4]; exact h) _ _ (by rw [hnames]; exact nd2), hv]
    · obtain ⟨c, hc⟩ := hsome x h
      refine .inr ⟨.inl (by rw [e4]; exact h), c, by rw [e2]; exact hc, ?_⟩
      have := X.cell x c (by rw [e2]; exact hc)
      rw [bindC_lookup (by rw [e4]; exact h) _ _ (by rw [hnames]; exact nd2), hv] at this
      exact this
/-- the frame's beginning may be taken to know less -/
theorem FOk.less (F : FOk B env st hid own s₀ s) {z : Shared} (k : Kp z s₀) (hb : Bs B z) : FOk B env st hid own z s :=
  { F with
    kp := k.trans F.kp
    base0 := hb
    L0 := none_kp k F.L0
    cell := fun x c e => let ⟨a, h⟩ := F.cell x c e; ⟨none_kp k a, h⟩
    owns := fun a ha => let ⟨h, r⟩ := F.owns a ha; ⟨none_kp k h, r⟩ }
noncomputable def hideS (I : Addr) (s : Shared) : Shared := { s with heap := s.heap.hide I }
theorem hideS_kp (I : Addr) (s : Shared) : Kp (hideS I s) s := ⟨fun e => Heap.of_hide e, rfl, id, id⟩
theorem hideS_get {I b : Addr} {o : Obj} {s : Shared} (h : b ≠ I) (e : s.heap.get? b = some o) : (hideS I s).heap.get? b = some o := (Heap.hide_ne s.heap h).trans e
theorem hideS_fw {I : Addr} {s s' : Shared} (k : Kp (hideS I s) s') : Fw [I] s s' := ⟨fun n e => k.get (hideS_get (by simpa using n) e), k.os, k.bare, k.gen⟩
theorem hideS_none (I : Addr) (s : Shared) : (hideS I s).heap.get? I = none := Heap.hide_self s.heap I
theorem nm_int (F : FOk B env st hid own s₀ s) {x : Str} {b : Int} {p : Pos} (hx : st.lookup x = some (.sh (.int b))) {Q E : Value → Shared → Prop} (q : ∀ t, NmAt env x (.int b t) s → Q (.int b t) s) : wpAny (model prog w) A (eval (.Name x p) env) Q E s := by
  obtain ⟨v, nv, h⟩ := F.slots x _ hx
  obtain ⟨t, rfl⟩ := rd_int (K := hk (own ++ hid) s.heap) h
  exact wpAny_Name (load_nm F.eall nv (q t nv)) (nv.dbg F.eall)
theorem ld_int (F : FOk B env st hid own s₀ s) {x : Str} {b : Int} (hx : st.lookup x = some (.sh (.int b))) {Q E : Value → Shared → Prop} (q : ∀ t, Q (.int b t) s) : wpAny (model prog w) A (loadName env x) Q E s := by
  obtain ⟨v, nv, h⟩ := F.slots x _ hx
  obtain ⟨t, rfl⟩ := rd_int (K := hk (own ++ hid) s.heap) h
  exact load_nm F.eall nv (q t)
/-- a call of a built-in by its name with one argument -/
theorem call_bi1 (h : EOk B env σ hid s) {f : Str} {p p' : Pos} {e : Expr} (g : env.kindOf f = some .globalImplicit) {id : String} (b : B.mg f = none ∧ B.mb f = some (.builtin id)) (hs : ∀ g p, e ≠ .Starred g p)
    {Q E : Value → Shared → Prop} (q : wpAny (model prog w) A (eval e env) (fun v s' => wpAny (model prog w) A (call (.builtin id) [v]) Q E s') E s) :
    wpAny (model prog w) A (eval (.Call (.Name f p) [e] [] p') env) Q E s := by
  rw [arm_eval_Call_Name']
  refine wpAny_bind (ev_builtin h g b ?_)
  rw [starEach_cons hs, backTo_cons]
  exact Calls.callWith_builtin rfl (evalArgs_plain (spliced_cons (wpAny_mono q (fun v s' h' => spliced_nil h') fun _ _ e => e)))
/-- the text's numbers, as `_parse_varint` reads them -/
noncomputable def parseV : Int → List Int → Option (Int × List Int)
  | _, [] => none
  | acc, b :: r => if (acc + b % 64).natAbs < 2 ^ 57 then (if b / 64 % 2 = 1 then parseV ((acc + b % 64) * 64) r else some (acc + b % 64, r)) else none
noncomputable def nextE (p1 p2 p3 : Pos) : Expr := .Call (.Name (nm "next") p1) [.Name (nm "iterator") p2] [] p3
noncomputable def lowE (p1 p2 p3 : Pos) (k : Nat) : Expr := .BinOp (.Name (nm "b") p1) .BitAnd (.Constant (.int 63) k p2) p3
structure It (s : Shared) (I l : Addr) (ns : List Int) (j : Nat) : Prop where
  it : ∃ vs c, s.heap.IsListIter I l j ∧ s.heap.get? l = some (lObj vs c) ∧ RdL (fun _ => none) (ns.map .int) vs
  ne : l ≠ I
theorem It.fw {I l : Addr} {ns : List Int} {j : Nat} (h : It s I l ns j) (k : ∀ b o, b = I ∨ b = l → s.heap.get? b = some o → s'.heap.get? b = some o) : It s' I l ns j := by
  obtain ⟨⟨vs, c, h1, h2, h3⟩, h4⟩ := h
  obtain ⟨o, ho, r⟩ := h1
  exact ⟨⟨vs, c, ⟨o, k _ _ (.inl rfl) ho, r⟩, k _ _ (.inr rfl) h2, h3⟩, h4⟩
theorem It.item {I l : Addr} {ns : List Int} {j : Nat} {b : Int} (h : It s I l ns j) (hb : ns[j]? = some b) {Q E : Value → Shared → Prop} (q : ∀ t s', Fw [I] s s' → It s' I l ns (j + 1) → Q (.int b t) s') : wpAny (model prog w) A (call (.builtin "next") [.ref I]) Q E s := by
  obtain ⟨⟨vs, c, h1, h2, h3⟩, h4⟩ := h
  obtain ⟨v, hv, hr⟩ := h3.get (i := j) (d := .int b) (by simp [hb])
  obtain ⟨t, rfl⟩ := rd_int hr
  refine next_item h1 ⟨_, h2, rfl, _, rfl⟩ (x := .int b t) (by simpa using hv) fun h' hit hs => ?_
  have fw : Fw [I] s { s with heap := h', toks := s.toks } := sameBut_fw hs
  exact q t _ fw ⟨⟨vs, c, hit, fw.get (by simpa using h4) h2, h3⟩, h4⟩
theorem It.drop {ns : List Int} {j : Nat} {b : Int} {r : List Int} (h : ns.drop j = b :: r) : ns[j]? = some b ∧ ns.drop (j + 1) = r := by
  have hlt : j < ns.length := by
    rcases Nat.lt_or_ge j ns.length with h' | h'
    · exact h'
    · rw [List.drop_of_length_le h'] at h; cases h
  rw [List.drop_eq_getElem_cons hlt] at h
  cases h
  exact ⟨List.getElem?_eq_getElem hlt, rfl⟩
/-- a place where the iterator alone may change -/
theorem FOk.itr {I : Addr} (F : FOk B env st [I] own s₀ s) (k : Fw [I] s s') (h0 : s₀.heap.get? I = none) (hl : ∃ o, s'.heap.get? I = some o) (hI : ∀ a, Plc env a → a ≠ I) : FOk B env st [I] own s₀ s' :=
  F.wr k (fun a ha => by rw [List.mem_singleton.mp ha]; exact h0) (fun a ha => by rw [List.mem_singleton.mp ha]; exact hl) (fun m => hI _ (.inl rfl) (List.mem_singleton.mp m)) (fun x c e m => hI _ (.inr ⟨x, e⟩) (List.mem_singleton.mp m)) (fun a ha m => F.apo a ha m) fun a ha => .inl ha
theorem nm_itr {I : Addr} {x : Str} {v : Value} (k : Fw [I] s s') (hI : ∀ a, Plc env a → a ≠ I) (nv : NmAt env x v s) : NmAt env x v s' := by
  rcases nv with ⟨a, m, b, d⟩ | ⟨a, c, b, o, d, f⟩
  · exact .inl ⟨a, m, b.at' fun o e => k.get (by simpa using hI _ (.inl rfl)) e, d⟩
  · exact .inr ⟨a, c, b, o, k.get (by simpa using hI _ (.inr ⟨x, b⟩)) d, f⟩
/-- what stays while a name is stored -/
structure StK (env : Env) (s s' : Shared) : Prop where
  keep : ∀ b o, ¬ Plc env b → s.heap.get? b = some o → s'.heap.get? b = some o
/-- a name is stored, another one stays -/
theorem store_keep (F : FOk B env st hid [] s₀ s) {x : Str} {v : Value} {d : PyData} (hx : storable env.scope.names x = true) (hr : Rd (hk hid s.heap) d v) {Q : Unit → Shared → Prop} {E : Value → Shared → Prop}
    (q : ∀ s', FOk B env (put st x (.sh d)) hid [] s₀ s' → StK env s s' → (∀ y u, y ≠ x → NmAt env y u s → NmAt env y u s') → Q () s') : wpAny (model prog w) A (storeName env x v) Q E s := by
  have hp : (env.scope.kind == .class || (env.scope.kind == .module && env.locals != env.globals)) = false := by rw [F.kind]; rfl
  have key : ∀ s' W, Fw W s s' → (∀ a ∈ W, Plc env a) → (∃ m, s'.heap.Ns env.locals m) → (∀ x c, env.cells.lookup x = some c → ∃ v, s'.heap.IsCell c v) → NmAt env x v s' → (∀ y u, y ≠ x → NmAt env y u s → NmAt env y u s') → Q () s' := by
    intro s' W fw hW ns' cell' hn ho
    refine q s' ?_ ⟨fun b o hb e => fw.get (fun m => hb (hW b m)) e⟩ ho
    refine F.upd fw hW ns' cell' (put_nd F.nd) (fun y sl' e => ?_) fun y z ds es a hyz ey ez ny nz => ?_
    · rw [put_lookup] at e
      split at e
      · rename_i hy; cases e; subst hy; exact ⟨v, hn, hr⟩
      · rename_i hy; obtain ⟨u, a, b⟩ := F.slots y sl' e; exact ⟨u, ho y u hy a, b⟩
    · rw [put_lookup] at ey
      split at ey
      · cases ey
      · obtain ⟨u, _, a', vs, c, _, h, _⟩ := F.slots y _ ey
        cases h
  simp only [storable, Bool.or_eq_true, beq_iff_eq] at hx
  rcases hx with hx | hx
  · have hx' : env.kindOf x = some .local := hx
    obtain ⟨m, hm⟩ := F.ns
    refine wpAny_storeName_local hx' hm (fun h' hn' hs' => ?_) hp
    have fw : Fw [env.locals] s { s with heap := h', toks := s.toks + 1 } := sameBut_fw hs'
    refine key _ _ fw (fun a ha => .inl (List.mem_singleton.mp ha)) ⟨_, hn'⟩ (fun y c e => ?_) (.inl ⟨hx', _, hn', by simp⟩) (fun y u hy nu => ?_)
    · obtain ⟨_, v, o, h1, h2⟩ := F.cell y c e
      exact ⟨v, o, fw.get (by simpa using F.L_cell e) h1, h2⟩
    · rcases nu with ⟨a, m', b, c⟩ | ⟨a, k, b, o, c, d⟩
      · have := ns_fun hm b
        subst this
        exact .inl ⟨a, _, hn', by simp [hy, c]⟩
      · exact .inr ⟨a, k, b, o, fw.get (by simpa using F.L_cell b) c, d⟩
  · have hx' : env.kindOf x = some .cell := hx
    obtain ⟨c, hc⟩ := F.cells x hx'
    obtain ⟨_, v₀, hv₀⟩ := F.cell x c hc
    refine wpAny_storeName_cell F.kind hx' hc hv₀ fun h' hn' hs' => ?_
    have fw : Fw [c] s { s with heap := h', toks := s.toks } := sameBut_fw hs'
    have hcL := F.L_cell hc
    refine key _ _ fw (fun a ha => .inr ⟨x, by rw [List.mem_singleton.mp ha]; exact hc⟩) ?_ (fun y c' e => ?_) (.inr ⟨.inl hx', c, hc, hn'⟩) (fun y u hy nu => ?_)
    · obtain ⟨m, hm⟩ := F.ns
      exact ⟨m, hm.sameBut hs' (Ne.symm hcL)⟩
    · by_cases h : c' = c
      · subst h; exact ⟨_, hn'⟩
      · obtain ⟨_, v, o, h1, h2⟩ := F.cell y c' e
        exact ⟨v, o, fw.get (by simpa using h) h1, h2⟩
    · rcases nu with ⟨a, m', b, d⟩ | ⟨a, k, b, o, d, f⟩
      · exact .inl ⟨a, m', b.sameBut hs' (Ne.symm hcL), d⟩
      · refine .inr ⟨a, k, b, o, fw.get ?_ d, f⟩
        rintro q
        rw [List.mem_singleton] at q
        subst q
        exact hy (F.apart y x k b hc)
/-- the def's frame while it reads -/
structure PAt (B : Bt) (env : Env) (s₀ : Shared) (I l : Addr) (ns : List Int) (st : Sto) (j : Nat) (s : Shared) : Prop where
  F : FOk B env st [I] [] s₀ s
  it : It s I l ns j
  nmI : NmAt env (nm "iterator") (.ref I) s
structure PCtx (B : Bt) (env : Env) (s₀ : Shared) (I l : Addr) : Prop where
  hI : ∀ a, Plc env a → a ≠ I ∧ a ≠ l
  I0 : s₀.heap.get? I = none
  next : B.mg (nm "next") = none ∧ B.mb (nm "next") = some (.builtin "next")
  knext : env.kindOf (nm "next") = some .globalImplicit
  kb : env.kindOf (nm "b") = some .local
  kv : env.kindOf (nm "val") = some .local
theorem PAt.kp {I l : Addr} {ns : List Int} {j : Nat} (p : PAt B env s₀ I l ns st j s) (k : Kp s s') : PAt B env s₀ I l ns st j s' :=
  ⟨p.F.keeps k, p.it.fw fun b o _ e => k.get e, p.nmI.kp k⟩
theorem sto_loc {x : Str} (h : env.kindOf x = some .local) : storable env.scope.names x = true := by
  have : env.scope.names.lookup x = some .local := h
  simp [storable, this]
/-- an int is stored -/
theorem PAt.store {I l : Addr} {ns : List Int} {j : Nat} (C : PCtx B env s₀ I l) (p : PAt B env s₀ I l ns st j s) {x : Str} {v : Int} {t : Tok} (hx : env.kindOf x = some .local) (hne : nm "iterator" ≠ x) {Q : Unit → Shared → Prop} {E : Value → Shared → Prop}
    (q : ∀ s', PAt B env s₀ I l ns (put st x (.sh (.int v))) j s' → Q () s') : wpAny (model prog w) A (storeName env x (.int v t)) Q E s :=
  store_keep p.F (sto_loc hx) (by simp [Rd]) fun s' F' k hn => q s' ⟨F', p.it.fw fun b o hb e => k.keep b o (fun h => by
    rcases hb with rfl | rfl
    · exact (C.hI _ h).1 rfl
    · exact (C.hI _ h).2 rfl) e, hn _ _ hne p.nmI⟩
/-- `next(iterator)` -/
theorem PAt.next {I l : Addr} {ns : List Int} {j : Nat} (C : PCtx B env s₀ I l) (p : PAt B env s₀ I l ns st j s) {b : Int} (hb : ns[j]? = some b) {p1 p2 p3 : Pos} {Q E : Value → Shared → Prop}
    (q : ∀ t s', PAt B env s₀ I l ns st (j + 1) s' → Q (.int b t) s') : wpAny (model prog w) A (eval (nextE p1 p2 p3) env) Q E s :=
  call_bi1 p.F.eall C.knext C.next (by rintro _ _ ⟨⟩) (wpAny_Name (load_nm p.F.eall p.nmI (p.it.item hb fun t s' fw it' => q t s' ⟨p.F.itr fw C.I0 (by obtain ⟨⟨vs, c, ⟨o, ho, _⟩, _⟩, _⟩ := it'; exact ⟨o, ho⟩) fun a h => (C.hI a h).1, it', nm_itr fw (fun a h => (C.hI a h).1) p.nmI⟩)) (p.nmI.dbg p.F.eall))
theorem PAt.low {I l : Addr} {ns : List Int} {j : Nat} (p : PAt B env s₀ I l ns st j s) {b : Int} (hb : st.lookup (nm "b") = some (.sh (.int b))) {p1 p2 p3 : Pos} {k : Nat} {Q E : Value → Shared → Prop}
    (q : ∀ t s', PAt B env s₀ I l ns st j s' → Q (.int (b % 64) t) s') : wpAny (model prog w) A (eval (lowE p1 p2 p3 k) env) Q E s :=
  wpAny_BinOp (nm_int p.F hb fun t nb => wpAny_Constant_int (PyProof.Rows.and_int (by rw [and63]; exact q _ _ (p.kp (Kp.tok.trans Kp.tok)))))
end
end Mine
/-! part 29 -/
set_option maxRecDepth 100000
namespace Mine
open PySem PySem.Calls PyProof.Rows PySem.W
section
variable {prog : Program} {w : World} {B : Bt} {A : Around} {hid own : List Addr} {s s₀ s' : Shared} {env : Env} {st st' : Sto} {n : Nat} {R : Ip} {P : Prims} {W : List Addr} {σ : Sig}
/-- a place for each place in the def's text -/
structure PPos where
  (a1 a2 a3 a4 a5 b1 b2 b3 b4 b5 c1 c2 c3 d1 d2 d3 e1 e2 e3 e4 e5 f1 f2 f3 f4 f5 g1 g2 g3 : Pos)
  (k1 k2 k3 k4 : Nat)
noncomputable def parseBody (p : PPos) : List Stmt :=
  [ .Assign [.Name (nm "b") p.a1] (nextE p.a2 p.a3 p.a4) p.a5,
    .Assign [.Name (nm "val") p.b1] (lowE p.b2 p.b3 p.b4 p.k1) p.b5,
    .While (.BinOp (.Name (nm "b") p.c1) .BitAnd (.Constant (.int 64) p.k2 p.c2) p.c3)
      [ .AugAssign (.Name (nm "val") p.d1) .LShift (.Constant (.int 6) p.k3 p.d2) p.d3,
        .Assign [.Name (nm "b") p.e1] (nextE p.e2 p.e3 p.e4) p.e5,
        .AugAssign (.Name (nm "val") p.f1) .BitOr (lowE p.f2 p.f3 p.f4 p.k4) p.f5 ] [] p.g1,
    .Return (some (.Name (nm "val") p.g2)) p.g3 ]
theorem nm_ne1 : nm "iterator" ≠ nm "b" := by decide
theorem nm_ne2 : nm "iterator" ≠ nm "val" := by decide
theorem nm_ne3 : nm "b" ≠ nm "val" := by decide
theorem parse_run {I l : Addr} {ns rest : List Int} {j : Nat} {v : Int} (C : PCtx B env s₀ I l) (p : PAt B env s₀ I l ns [] j s) (hp : parseV 0 (ns.drop j) = some (v, rest)) (ps : PPos) {Q : Flow → Shared → Prop} {E : Value → Shared → Prop}
    (q : ∀ t s' st' j', PAt B env s₀ I l ns st' j' s' → ns.drop j' = rest → Q (.ret (.int v t)) s') : wpAny (model prog w) A (execs (parseBody ps) env) Q E s := by
  cases hd : ns.drop j with
  | nil => rw [hd] at hp; cases hp
  | cons b r =>
    rw [hd] at hp
    obtain ⟨hb, hr⟩ := It.drop hd
    refine wpAny_execs_cons (wpAny_Assign_Name (p.next C hb fun t s1 p1 => p1.store C C.kb nm_ne1 fun s2 p2 => ?_))
    refine wpAny_execs_cons (wpAny_Assign_Name (p2.low (by rw [put_lookup, if_pos rfl]) fun t s3 p3 => p3.store C C.kv nm_ne2 fun s4 p4 => ?_))
    refine wpAny_execs_cons (wpAny_While (codeAny_whileLoop (fun k s5 => ∃ st5 j5 b5 v5, PAt B env s₀ I l ns st5 j5 s5 ∧ st5.lookup (nm "b") = some (.sh (.int b5)) ∧ st5.lookup (nm "val") = some (.sh (.int v5)) ∧ k = ns.length - j5 ∧ 0 ≤ v5 ∧ v5.natAbs < 2 ^ 57 ∧
      (if b5 / 64 % 2 = 1 then parseV (v5 * 64) (ns.drop j5) else some (v5, ns.drop j5)) = some (v, rest)) (fun k s5 hI => ?_) (ns.length - (j + 1)) ⟨_, j + 1, b, b % 64, p4, ?_, ?_, rfl, by omega, ?_, ?_⟩))
    · obtain ⟨st5, j5, b5, v5, p5, h1, h2, rfl, h3, h3', h4⟩ := hI
      have tst : ∀ (Q : Bool → Shared → Prop) (E : Value → Shared → Prop), (∀ s', PAt B env s₀ I l ns st5 j5 s' → Q (decide (b5 / 64 % 2 = 1)) s') → wpAny (model prog w) A (isTrue (.BinOp (.Name (nm "b") ps.c1) .BitAnd (.Constant (.int 64) ps.k2 ps.c2) ps.c3) env (eval (.BinOp (.Name (nm "b") ps.c1) .BitAnd (.Constant (.int 64) ps.k2 ps.c2) ps.c3) env)) Q E s5 := fun Q E q => by
        refine isTrue_plain (wpAny_BinOp (nm_int p5.F h1 fun t nb => wpAny_Constant_int (PyProof.Rows.and_int (PyProof.Rows.truthy_int ?_)))) rfl
        rw [and64]
        have : ((b5 / 64 % 2) * 64 != 0) = decide (b5 / 64 % 2 = 1) := by
          by_cases hb : b5 / 64 % 2 = 1
          · rw [hb]; rfl
          · have : b5 / 64 % 2 = 0 := by omega
            rw [this]; rfl
        rw [this]
        exact q _ (p5.kp (Kp.tok.trans Kp.tok))
      refine tst _ _ fun s6 p6 => ?_
      by_cases hbit : b5 / 64 % 2 = 1
      · rw [if_pos hbit] at h4
        rw [decide_eq_true hbit, if_pos rfl]
        cases hd5 : ns.drop j5 with
        | nil => rw [hd5] at h4; cases h4
        | cons b6 r6 =>
          rw [hd5] at h4
          obtain ⟨hb6, hr6⟩ := It.drop hd5
          have hj : j5 < ns.length := by
            rcases Nat.lt_or_ge j5 ns.length with h' | h'
            · exact h'
            · rw [List.drop_of_length_le h'] at hd5; cases hd5
          simp only [parseV] at h4
          split at h4
          rotate_left
          · cases h4
          rename_i hsm
          refine wpAny_execs_cons (wpAny_AugAssign_Name (ld_int p6.F h2 fun t => wpAny_Constant_int (ilshift_int_small (by decide) (by decide) (by omega) ?_)))
          have p7 := p6.kp ((Kp.tok (s := s6) (tk := s6.toks + 1)).trans (Kp.tok (tk := s6.toks + 1 + 1)))
          have e64 : v5 * 2 ^ (6 : Int).toNat = v5 * 64 := rfl
          rw [e64]
          refine p7.store C C.kv nm_ne2 fun s8 p8 => ?_
          refine wpAny_execs_cons (wpAny_Assign_Name (p8.next C hb6 fun t s9 p9 => p9.store C C.kb nm_ne1 fun s10 p10 => ?_))
          have hv10 : (put (put st5 (nm "val") (.sh (.int (v5 * 64)))) (nm "b") (.sh (.int b6))).lookup (nm "val") = some (.sh (.int (v5 * 64))) := by
            rw [put_lookup, if_neg (Ne.symm nm_ne3), put_lookup, if_pos rfl]
          refine wpAny_execs_cons (wpAny_AugAssign_Name (ld_int p10.F hv10 fun t => p10.low (by rw [put_lookup, if_pos rfl]) fun t2 s11 p11 => PyProof.Rows.ior_int ?_))
          rw [or64 (by omega) (by omega) (by omega)]
          have p12 := p11.kp (Kp.tok (s := s11) (tk := s11.toks + 1))
          refine p12.store C C.kv nm_ne2 fun s13 p13 => wpAny_execs_nil ⟨ns.length - (j5 + 1), by omega, _, j5 + 1, b6, v5 * 64 + b6 % 64, p13, ?_, ?_, rfl, by omega, hsm, ?_⟩
          · rw [put_lookup, if_neg nm_ne3, put_lookup, if_pos rfl]
          · rw [put_lookup, if_pos rfl]
          · rw [hr6]
            by_cases hb7 : b6 / 64 % 2 = 1
            · rw [if_pos hb7] at h4 ⊢; exact h4
            · rw [if_neg hb7] at h4 ⊢; exact h4
      · rw [if_neg hbit] at h4
        rw [decide_eq_false hbit, if_neg Bool.false_ne_true]
        cases h4
        refine wpAny_execs_nil (wpAny_execs_cons (wpAny_Return_some (nm_int p6.F h2 fun t nv => ?_)))
        exact q t s6 st5 j5 p6 rfl
    · rw [put_lookup, if_neg nm_ne3, put_lookup, if_pos rfl]
    · rw [put_lookup, if_pos rfl]
    · simp only [parseV] at hp
      split at hp
      · rename_i h; simpa using h
      · cases hp
    · simp only [parseV] at hp
      split at hp
      · rw [hr]
        simpa using hp
      · cases hp
end
end Mine
/-! part 30 -/
set_option maxRecDepth 100000
namespace Mine
open PySem PySem.Calls PyProof.Rows PySem.W
section
variable {prog : Program} {w : World} {B : Bt} {A : Around} {hid own : List Addr} {s s₀ s' : Shared} {env : Env} {st st' : Sto} {n : Nat} {R : Ip} {P : Prims} {W : List Addr} {σ : Sig}
theorem PAt.next_end {I l : Addr} {ns : List Int} {j : Nat} (C : PCtx B env s₀ I l) (p : PAt B env s₀ I l ns st j s) (hj : ns.length ≤ j) (hh : A.handled = none) {p1 p2 p3 : Pos} {Q E : Value → Shared → Prop}
    (q : ∀ h' e, StopAt I s.heap h' e → E (.ref e) { s with heap := h' }) : wpAny (model prog w) A (eval (nextE p1 p2 p3) env) Q E s := by
  obtain ⟨⟨vs, c, h1, h2, h3⟩, h4⟩ := p.it
  have hl := h3.length
  exact call_bi1 p.F.eall C.knext C.next (by rintro _ _ ⟨⟩) (wpAny_Name (load_nm p.F.eall p.nmI (Mine.next_end hh h1 ⟨_, h2, rfl, _, rfl⟩ (by simp only [List.length_map] at hl; simp; omega) q)) (p.nmI.dbg p.F.eall))
theorem parse_end {I l : Addr} {ns : List Int} {j : Nat} (C : PCtx B env s₀ I l) (p : PAt B env s₀ I l ns [] j s) (hj : ns.length ≤ j) (hh : A.handled = none) (ps : PPos) {Q : Flow → Shared → Prop} {E : Value → Shared → Prop}
    (q : ∀ h' e, StopAt I s.heap h' e → E (.ref e) { s with heap := h' }) : wpAny (model prog w) A (execs (parseBody ps) env) Q E s :=
  wpAny_execs_cons (wpAny_Assign_Name (p.next_end C hj hh q))
/-- what is known of the text's `_parse_varint` -/
structure PFn (B : Bt) (q : Fn) : Prop where
  at_ : FnAt B (nm "_parse_varint") q
  ok : okFn q = true
  params : q.1 = [nm "iterator"] ∧ q.2.1 = []
  body : ∃ ps, q.2.2.1 = parseBody ps
  knext : q.2.2.2.names.lookup (nm "next") = some .globalImplicit
  kb : q.2.2.2.names.lookup (nm "b") = some .local
  kv : q.2.2.2.names.lookup (nm "val") = some .local
  next : B.mg (nm "next") = none ∧ B.mb (nm "next") = some (.builtin "next")
theorem enter_p {q : Fn} (H : PFn B q) {I l a : Addr} {ns : List Int} {j : Nat} (hroom : A.depth < recursionLimit) (hb : Bs B s) (hBI : B.h.get? I = none) (it : It s I l ns j) (ha : B.mg (nm "_parse_varint") = some (.ref a)) {Q E : Value → Shared → Prop}
    (k : ∀ env s1, env.frame = some env.locals → env.scope.kind = .function → s.heap.get? env.locals = none → Kp s s1 → PCtx B env (hideS I s) I l → PAt B env (hideS I s) I l ns [] j s1 → ∃ ps, q.2.2.1 = parseBody ps ∧
      wpAny (model prog w) (A.deeper env) (execs (parseBody ps) env) (fun f s' => Q (match f with | .ret v => v | _ => .none) s')
        (fun e s' => wpAny (model prog w) (A.deeper env) (leaving env e) (fun _ s'' => E e s'') (fun e' s'' => E e' s'') s') s1) : wpAny (model prog w) A (call (.ref a) [.ref I]) Q E s := by
  have hlive : ∃ o, s.heap.get? I = some o := by obtain ⟨⟨vs, c, ⟨o, ho, _⟩, _⟩, _⟩ := it; exact ⟨o, ho⟩
  have hlive2 : ∃ o, s.heap.get? l = some o := by obtain ⟨⟨vs, c, _, h, _⟩, _⟩ := it; exact ⟨_, h⟩
  refine enter (hid := [I]) hroom H.at_ H.ok hb (fun a ha => by rw [List.mem_singleton.mp ha]; exact hlive) (by rw [H.params.1]; rfl) ha fun env s1 dv kp e1 e2 e3 F rdv hn => ?_
  have ek : ∀ y, env.kindOf y = q.2.2.2.names.lookup y := fun y => by show env.scope.names.lookup y = _; rw [e1]
  have F2 := F.less (hideS_kp I s) (fun b o e => hideS_get (fun q => by rw [q, hBI] at e; cases e) (hb b o e))
  have hIl : ∀ a, Plc env a → a ≠ I ∧ a ≠ l := fun a hp => by
    have h0 := F.plc_new hp
    constructor
    · intro q
      obtain ⟨o, e⟩ := hlive
      rw [← q, h0] at e; cases e
    · intro q
      obtain ⟨o, e⟩ := hlive2
      rw [← q, h0] at e; cases e
  have C : PCtx B env (hideS I s) I l := ⟨hIl, hideS_none I s, H.next, (by rw [ek]; exact H.knext), (by rw [ek]; exact H.kb), (by rw [ek]; exact H.kv)⟩
  have p : PAt B env (hideS I s) I l ns [] j s1 := ⟨F2, it.fw fun b o _ e => kp.get e, hn _ _ (by rw [H.params.1, H.params.2]; rfl)⟩
  obtain ⟨ps, hps, hw⟩ := k env s1 e2 F.kind e3 kp C p
  rw [hps]
  exact hw
theorem parse_call {q : Fn} (H : PFn B q) {I l a : Addr} {ns rest : List Int} {j : Nat} {v : Int} (hroom : A.depth < recursionLimit) (hb : Bs B s) (hBI : B.h.get? I = none) (it : It s I l ns j) (ha : B.mg (nm "_parse_varint") = some (.ref a)) (hp : parseV 0 (ns.drop j) = some (v, rest)) {Q E : Value → Shared → Prop}
    (k : ∀ t s' j', Fw [I] s s' → It s' I l ns j' → ns.drop j' = rest → Q (.int v t) s') : wpAny (model prog w) A (call (.ref a) [.ref I]) Q E s := by
  obtain ⟨ps, hps⟩ := H.body
  exact enter_p H hroom hb hBI it ha fun env s1 _ _ _ kp C p => ⟨ps, hps, parse_run C p hp ps fun t s' st' j' p' hd => k t s' j' (hideS_fw p'.F.kp) p'.it hd⟩
theorem hideAll_stay {l : List Addr} {h h' : Heap} (k : ∀ b o, b ∉ l → h.get? b = some o → h'.get? b = some o) : (hideAll h l).StaysIn h' := fun b o e => by
  by_cases hb : b ∈ l
  · rw [hideAll_none l hb] at e; cases e
  · exact k b o hb (of_hideAll l e)
/-- what is no heap -/
structure Rest (s s' : Shared) : Prop where
  os : s'.os = s.os
  bare : AllBare s.gens → AllBare s'.gens
  gen : ∀ {g : Nat} {x : GenState}, s.gens[g]? = some x → s'.gens[g]? = some x
theorem It.fields {I l : Addr} {ns : List Int} {j : Nat} (it : It s I l ns j) {L : Addr} {m : Str → Option Value} (h : s.heap.Ns L m) : L ≠ I := by
  rintro rfl
  obtain ⟨⟨vs, c, ⟨o, ho, _, hd⟩, _⟩, _⟩ := it
  obtain ⟨o', es, ep, h1, h2, _⟩ := h
  rw [ho] at h1; cases h1
  rw [hd] at h2; cases h2
/-- the call that finds the iterator at its end: the frames' objects are made ready, all else stays -/
theorem parse_call_end {q : Fn} (H : PFn B q) {I l a L₁ L₂ : Addr} {e₁ e₂ : Env} {m₁ m₂ : Str → Option Value} {ns : List Int} {j : Nat} (hroom : A.depth < recursionLimit) (hh : A.handled = none) (hfr : A.frames = some [e₁, e₂]) (hf₁ : e₁.frame = some L₁) (hf₂ : e₂.frame = some L₂) (hk₁ : e₁.scope.kind = .function) (hk₂ : e₂.scope.kind = .function)
    (hn₁ : s.heap.Ns L₁ m₁) (hn₂ : s.heap.Ns L₂ m₂) (hb : Bs B s) (hBI : B.h.get? I = none) (it : It s I l ns j) (ha : B.mg (nm "_parse_varint") = some (.ref a)) (hj : ns.length ≤ j) {Q E : Value → Shared → Prop}
    (k : ∀ e a0 s', Heap.FlyingW (hideAll s.heap [I, L₁, L₂]) [e₁, e₂] e (.type "StopIteration") a0 s'.heap → s.heap.UpToSlots s'.heap → Rest s s' → E (.ref e) s') : wpAny (model prog w) A (call (.ref a) [.ref I]) Q E s := by
  obtain ⟨ps, hps⟩ := H.body
  refine enter_p H hroom hb hBI it ha fun env s1 e2 e3 e4 kp C p => ⟨ps, hps, parse_end (A := A.deeper env) C p hj (show (A.deeper env).handled = none from hh) ps fun h' e hs => ?_⟩
  obtain ⟨hx, hnew, o, vs, he, hc, hd, h1⟩ := hs
  obtain ⟨mL, hL⟩ := p.F.ns
  have ns1 : ∀ {L m}, L ≠ I → s1.heap.Ns L m → h'.Ns L m := fun {L m} hne hn => hn.at' fun o e => hx L o hne e
  have n1 := hn₁.keeps (h' := s1.heap) fun b o e => kp.get e
  have n2 := hn₂.keeps (h' := s1.heap) fun b o e => kp.get e
  have hsz : 1 < vs.size := (Array.getElem?_eq_some_iff.mp h1).1
  have hset : ∀ {L m}, s.heap.Ns L m → L ∈ [I, L₁, L₂] → (hideAll s.heap [I, L₁, L₂]).get? L = none := fun _ hm => hideAll_none _ hm
  have hbl : (hideAll s.heap [I, L₁, L₂]).get? env.locals = none := by
    cases e' : (hideAll s.heap [I, L₁, L₂]).get? env.locals with
    | none => rfl
    | some o => have := of_hideAll _ e'; rw [e4] at this; cases this
  have hfun : h'.FunFrames (hideAll s.heap [I, L₁, L₂]) (env :: [e₁, e₂]) :=
    Heap.FunFrames.cons (by rw [e3]; decide) e2 (ns1 (C.hI _ (.inl rfl)).1 hL) hbl
      (Heap.FunFrames.cons (by rw [hk₁]; decide) hf₁ (ns1 (it.fields hn₁) n1) (hideAll_none _ (by simp)) (Heap.FunFrames.cons (by rw [hk₂]; decide) hf₂ (ns1 (it.fields hn₂) n2) (hideAll_none _ (by simp)) trivial))
  have hstay : (hideAll s.heap [I, L₁, L₂]).StaysIn h' := hideAll_stay fun b o hb e => hx b o (fun q => hb (by simp [q])) (kp.get e)
  have hbe : (hideAll s.heap [I, L₁, L₂]).get? e = none := by
    cases e' : (hideAll s.heap [I, L₁, L₂]).get? e with
    | none => rfl
    | some o => have := kp.get (of_hideAll _ e'); rw [hnew] at this; cases this
  refine wpAny_leaving_firstW (A := A.deeper env) (Around.frames_deeper hfr) hfun e2 he hstay hbe hd h1 (a0 := vs[0]) (by simp) fun h2 hL2 => ?_
  obtain ⟨k1, ⟨_, _, k2⟩, k3, k4⟩ := hL2
  rw [hc] at k3
  refine k e _ _ ⟨k1, hbe, k2, k3⟩ (fun b o hb hnf => ?_) ⟨kp.os, kp.bare, kp.gen⟩
  have hbI : b ≠ I := by
    rintro rfl
    obtain ⟨⟨vs', c, ⟨o', ho, _, hd'⟩, _⟩, _⟩ := it
    rw [ho] at hb; cases hb
    exact hnf _ hd'
  exact k4 b o (hx b o hbI (kp.get hb)) hnf
end
end Mine
/-! part 31 -/
set_option maxRecDepth 100000
namespace Mine
open PySem PySem.Calls PyProof.Rows PySem.W
structure RPos where
  (a1 a2 a3 a4 a5 a6 a7 a8 a9 b1 b2 b3 b4 b5 b6 b7 b8 b9 c1 c2 c3 c4 c5 : Pos)
  (k1 k2 k3 : Nat)
noncomputable def readBody (p : RPos) : List Stmt :=
  [ .Assign [.Tuple [.Name (nm "tape") p.a1, .Name (nm "numbers") p.a2] p.k1 p.a3] (.Tuple [.Call (.Name (nm "iter") p.a4) [.Name (nm "octets") p.a5] [] p.a6, .List [] p.a7] p.k2 p.a8) p.a9,
    .Try [ .While (.Constant (.bool true) p.k3 p.b1) [ .Expr (.Call (.Attribute (.Name (nm "numbers") p.b2) (nm "append") p.b3) [.Call (.Name (nm "_parse_varint") p.b4) [.Name (nm "tape") p.b5] [] p.b6] [] p.b7) p.b8 ] [] p.b9 ]
      [ .ExceptHandler (some (.Name (nm "StopIteration") p.c1)) none [ .Return (some (.Name (nm "numbers") p.c2)) p.c3 ] p.c4 ] [] [] p.c5 ]
noncomputable def readV : Nat → List Int → Option (List Int)
  | 0, _ => none
  | _ + 1, [] => some []
  | n + 1, b :: r => (parseV 0 (b :: r)).bind fun q => (readV n q.2).map (q.1 :: ·)
theorem readV_cons {n : Nat} {ns out : List Int} (h : readV n ns = some out) : (ns = [] ∧ out = []) ∨ ∃ m v rest o, parseV 0 ns = some (v, rest) ∧ readV m rest = some o ∧ out = v :: o ∧ ns ≠ [] := by
  cases n with
  | zero => cases h
  | succ n =>
    cases ns with
    | nil => simp [readV] at h; exact .inl ⟨rfl, h⟩
    | cons b r =>
      simp only [readV, Option.bind_eq_some_iff, Option.map_eq_some_iff] at h
      obtain ⟨q, h1, o, h2, h3⟩ := h
      exact .inr ⟨n, q.1, q.2, o, h1, h2, h3.symm, by simp⟩
section
variable {prog : Program} {w : World} {B : Bt} {A : Around} {hid own : List Addr} {s s₀ s' z : Shared} {env : Env} {st st' : Sto} {n : Nat} {R : Ip} {P : Prims} {W : List Addr} {σ : Sig}
structure RFn (B : Bt) (q : Fn) : Prop where
  at_ : FnAt B (nm "_law_read") q
  ok : okFn q = true
  params : q.1 = [nm "octets"] ∧ q.2.1 = []
  body : ∃ ps, q.2.2.1 = readBody ps ∧ (ps.b3.endLine == ps.b7.line) = true
  kiter : q.2.2.2.names.lookup (nm "iter") = some .globalImplicit
  kparse : q.2.2.2.names.lookup (nm "_parse_varint") = some .globalImplicit
  kstop : q.2.2.2.names.lookup (nm "StopIteration") = some .globalImplicit
  ktape : q.2.2.2.names.lookup (nm "tape") = some .local
  knum : q.2.2.2.names.lookup (nm "numbers") = some .local
  koct : q.2.2.2.names.lookup (nm "octets") = some .local
  iter : B.mg (nm "iter") = none ∧ B.mb (nm "iter") = some (.builtin "iter")
  stop : B.mg (nm "StopIteration") = none ∧ B.mb (nm "StopIteration") = some (.type "StopIteration")
theorem eok_fw (h : EOk B env [] [] s) (k : Fw W s s') (hB : ∀ a ∈ W, B.h.get? a = none) : EOk B env [] [] s' :=
  ⟨fun b o e => k.get (fun m => (by rw [hB b m] at e; cases e)) (h.base b o e), fun a ha => (by cases ha), h.kind, h.gl, h.bl, h.nodbg, h.cells, fun x d e => (by cases e)⟩
structure RSt (B : Bt) (z : Shared) (env : Env) (I N l : Addr) : Prop where
  hP : ∀ a, Plc env a → a ≠ I ∧ a ≠ l ∧ a ≠ N
  I0 : z.heap.get? I = none
  N0 : z.heap.get? N = none
  L0 : z.heap.get? env.locals = none
  base : Bs B z
  IN : I ≠ N
  lN : l ≠ N
  lI : l ≠ I
theorem RSt.bI {I N l : Addr} (S : RSt B z env I N l) : B.h.get? I = none := by
  cases e : B.h.get? I with
  | none => rfl
  | some o => have := S.base _ _ e; rw [S.I0] at this; cases this
theorem RSt.bN {I N l : Addr} (S : RSt B z env I N l) : B.h.get? N = none := by
  cases e : B.h.get? N with
  | none => rfl
  | some o => have := S.base _ _ e; rw [S.N0] at this; cases this
theorem RSt.bL {I N l : Addr} (S : RSt B z env I N l) : B.h.get? env.locals = none := by
  cases e : B.h.get? env.locals with
  | none => rfl
  | some o => have := S.base _ _ e; rw [S.L0] at this; cases this
structure RAt (B : Bt) (z : Shared) (env : Env) (I N l : Addr) (ns : List Int) (j : Nat) (done : List Int) (s : Shared) : Prop where
  eok : EOk B env [] [] s
  ns_ : ∃ m, s.heap.Ns env.locals m ∧ m (nm "tape") = some (.ref I) ∧ m (nm "numbers") = some (.ref N)
  it : It s I l ns j
  obj : ∃ us c, s.heap.get? N = some (lObj us c) ∧ RdL (fun _ => none) (done.map .int) us
  kp : Kp z s
theorem fw_kp {X : Addr} (h : Kp z s) (k : Fw [X] s s') (h0 : z.heap.get? X = none) : Kp z s' := ((h.fw [X]).trans k |>.drop fun a ha => .inr (by rw [List.mem_singleton.mp ha]; exact h0)).kp
theorem setFlight_held {M : Model} {A : Around} {E : Value → Shared → Prop} {base : Heap} {l : List Env} {e L : Addr} {cls a0 fl : Value} {Q : Unit → Shared → Prop} (hkb : base.StaysIn s.heap) (hen : base.get? e = none) (hl : s.heap.FunFrames base l) (ht : s.heap.TracedAtW base e cls a0 fl)
    (h : ∀ h', Heap.HeldW base l e cls a0 L h' → s.heap.UpToSlots h' → Q () { s with heap := h' }) : wpAny M A (setFlight (.ref e) (some L)) Q E s := by
  obtain ⟨oe, vs, T, oT, ts, he, hcls, hd, h1, hnT, hTe, hT, hdT, h3⟩ := ht
  have hsz3 : 3 < ts.size := (Array.getElem?_eq_some_iff.mp h3).1
  have other : ∀ b, b ≠ T → (s.heap.update T (Obj.mapFields (·.setIfInBounds 3 ((some L).elim Value.none fun f => rawInt f)))).get? b = s.heap.get? b :=
    fun b hb => Heap.get?_update_other _ _ (Ne.symm hb)
  have noRecord : ∀ b o, s.heap.get? b = some o → (∀ vs, o.data ≠ .fields vs) → b ≠ T := fun b o hb hnf q => by
    rw [q, hT] at hb; injection hb with hb; subst hb; exact hnf ts hdT
  unfold setFlight
  refine wpAny_bind (wpAny_field he hd h1 ?_)
  rw [if_pos (show (Value.ref T != Value.none) = true from by simp)]
  refine wpAny_setField hT hdT hsz3 (h _ ⟨fun b o hbo => (other b fun q => by rw [q, hnT] at hbo; cases hbo).trans (hkb b o hbo), hen,
    hl.of_keeps fun b o hb hnf => ⟨o, (other b (noRecord b o hb hnf)).trans hb, rfl⟩, ?_⟩ fun b o hb hnf => ⟨o.slots, (other b (noRecord b o hb hnf)).trans hb⟩)
  exact ⟨oe, vs, T, _, _, (other e (Ne.symm hTe)).trans he, hcls, hd, h1, hnT, hTe, Heap.get?_update_self _ hT (Obj.isFreed_of_fields (Obj.data_mapFields hdT _)), Obj.data_mapFields hdT _, by simp [hsz3]⟩
theorem came_back {A : Around} {E : Value → Shared → Prop} {base : Heap} {l : List Env} {e L : Addr} {cls a0 : Value} (hf : env.frame = some L) (hh : Heap.HeldW base l e cls a0 L s.heap)
    (h : ∀ h', Heap.HeldW base l e cls a0 L h' → s.heap.UpToSlots h' → E (.ref e) { s with heap := h' }) : cameBackBy (model prog w) A env E (.ref e) s := by
  obtain ⟨k1, k2, k3, k4⟩ := hh
  obtain ⟨oe, vs, T, oT, ts, he, hcls, hd, h1, r⟩ := id k4
  unfold cameBackBy
  refine wpAny_bind (wpAny_field he hd h1 ?_)
  rw [if_neg (show ¬ ((Value.ref T == Value.none) = true) from by simp)]
  rw [hf]
  first
    | exact setFlight_held k1 k2 k3 k4 h
    | exact wpAny_bind (wpAny_pure (setFlight_held k1 k2 k3 k4 h))
theorem stop_exc : isSubtype (.type "StopIteration") (.type "BaseException") = pure true := by rw [isSubtype_type]; kernel_rfl
theorem stop_meta : isSubtype (.type ((Manifest.find? "StopIteration").elim "type" fun x => x.metatype)) (.type "tuple") = pure false := by kernel_rfl
theorem stop_self : isSubtype (.type "StopIteration") (.type "StopIteration") = pure true := by rw [isSubtype_type]; kernel_rfl
end
end Mine
/-! part 32 -/
set_option maxRecDepth 100000
namespace Mine
open PySem PySem.Calls PyProof.Rows PySem.W
section
variable {prog : Program} {w : World} {B : Bt} {A : Around} {hid own : List Addr} {s s₀ s' z : Shared} {env : Env} {st st' : Sto} {n : Nat} {R : Ip} {P : Prims} {W : List Addr} {σ : Sig}
structure RKind (env : Env) : Prop where
  kparse : env.kindOf (nm "_parse_varint") = some .globalImplicit
  kstop : env.kindOf (nm "StopIteration") = some .globalImplicit
  ktape : env.kindOf (nm "tape") = some .local
  knum : env.kindOf (nm "numbers") = some .local
theorem RAt.tape {I N l : Addr} {ns : List Int} {j : Nat} {done : List Int} (r : RAt B z env I N l ns j done s) (K : RKind env) : NmAt env (nm "tape") (.ref I) s := by
  obtain ⟨m, h1, h2, h3⟩ := r.ns_; exact .inl ⟨K.ktape, m, h1, h2⟩
theorem RAt.nums {I N l : Addr} {ns : List Int} {j : Nat} {done : List Int} (r : RAt B z env I N l ns j done s) (K : RKind env) : NmAt env (nm "numbers") (.ref N) s := by
  obtain ⟨m, h1, h2, h3⟩ := r.ns_; exact .inl ⟨K.knum, m, h1, h3⟩
theorem RAt.fwI {I N l : Addr} {ns : List Int} {j j' : Nat} {done : List Int} (S : RSt B z env I N l) (r : RAt B z env I N l ns j done s) (k : Fw [I] s s') (it : It s' I l ns j') : RAt B z env I N l ns j' done s' where
  eok := eok_fw r.eok k fun a ha => by rw [List.mem_singleton.mp ha]; exact S.bI
  ns_ := by
    obtain ⟨m, h1, h2⟩ := r.ns_
    exact ⟨m, h1.at' fun o e => k.get (by simpa using (S.hP _ (.inl rfl)).1) e, h2⟩
  it := it
  obj := by
    obtain ⟨us, c, h1, h2⟩ := r.obj
    exact ⟨us, c, k.get (by simpa using Ne.symm S.IN) h1, h2⟩
  kp := fw_kp r.kp k S.I0
theorem RAt.fwN {I N l : Addr} {ns : List Int} {j : Nat} {done done' : List Int} {us : List Value} {c : Nat} (S : RSt B z env I N l) (r : RAt B z env I N l ns j done s) (k : Fw [N] s s') (hg : s'.heap.get? N = some (lObj us c)) (hr : RdL (fun _ => none) (done'.map .int) us) : RAt B z env I N l ns j done' s' where
  eok := eok_fw r.eok k fun a ha => by rw [List.mem_singleton.mp ha]; exact S.bN
  ns_ := by
    obtain ⟨m, h1, h2⟩ := r.ns_
    exact ⟨m, h1.at' fun o e => k.get (by simpa using (S.hP _ (.inl rfl)).2.2) e, h2⟩
  it := r.it.fw fun b o hb e => k.get (by
    rcases hb with rfl | rfl
    · simpa using S.IN
    · simpa using S.lN) e
  obj := ⟨us, c, hg, hr⟩
  kp := fw_kp r.kp k S.N0
theorem isTrue_true {p : Pos} {k : Nat} {Q : Bool → Shared → Prop} {E : Value → Shared → Prop} (q : Q true s) : wpAny (model prog w) A (isTrue (.Constant (.bool true) k p) env (eval (.Constant (.bool true) k p) env)) Q E s :=
  isTrue_plain (wpAny_Constant_bool (wpAny_truthy_bool q)) rfl
/-- the tail of the run: the exception is caught, the numbers are given back -/
theorem read_tail {I N l L : Addr} {ns : List Int} {j : Nat} {done : List Int} {law : Env} {mL : Str → Option Value} (S : RSt B z env I N l) (K : RKind env) (r : RAt B z env I N l ns j done s) (hstop : B.mg (nm "StopIteration") = none ∧ B.mb (nm "StopIteration") = some (.type "StopIteration"))
    (hf : env.frame = some env.locals) (hfr : A.frames = some [env, law]) (hnL : s.heap.Ns L mL) (hBL : B.h.get? L = none) (hNL : N ≠ L) (hzL : z.heap.Ns L mL)
    {e : Addr} {a0 : Value} (hfl : Heap.FlyingW (hideAll s.heap [I, env.locals, L]) [env, law] e (.type "StopIteration") a0 s'.heap) (hup : s.heap.UpToSlots s'.heap) (hrest : Rest s s')
    {p1 p2 p3 p4 : Pos} {Q : Flow → Shared → Prop} {E E₀ : Value → Shared → Prop}
    (q : ∀ us c s₂, Fw [L] z s₂ → s₂.heap.Ns L mL → s₂.heap.get? N = some (lObj us c) → RdL (fun _ => none) (done.map .int) us → Q (.ret (.ref N)) s₂) :
    wpAny (model prog w) A (noteFrame (.ref e) env) (fun _ s'' => cameBackBy (model prog w) A env (fun e s₁ => wpAny (model prog w) A (noteFrame e env) (fun _ s₂ => wpAny (model prog w) A (setFlight e none) (fun _ s₃ =>
      wpAny (model prog w) A (handleBy e env [.ExceptHandler (some (.Name (nm "StopIteration") p1)) none [.Return (some (.Name (nm "numbers") p2)) p3] p4]) Q E s₃) E s₂) E s₁) (.ref e) s'') E₀ s' := by
  refine wpAny_looks_onW hfr hf hfl fun h1 H1 u1 => ?_
  refine came_back hf H1 fun h2 H2 u2 => ?_
  refine wpAny_noteFrame_againW hf H2.2.2.2 ?_
  refine wpAny_landsW H2 fun h3 H3 u3 => ?_
  have u03 : s.heap.UpToSlots h3 := ((hup.trans u1).trans u2).trans u3
  have bs : ∀ {h : Heap}, (hideAll s.heap [I, env.locals, L]).StaysIn h → ∀ b o, b ∉ [I, env.locals, L] → s.heap.get? b = some o → h.get? b = some o := fun {h} hs b o hb e => hs b o (hideAll_get _ e hb)
  have eok : ∀ {s₂ : Shared}, (hideAll s.heap [I, env.locals, L]).StaysIn s₂.heap → s.heap.UpToSlots s₂.heap → EOk B env [] [] s₂ := fun {s₂} hs hu =>
    ⟨fun b o eb => bs hs b o (fun m => by
      simp only [List.mem_cons, List.not_mem_nil, or_false] at m
      rcases m with rfl | rfl | rfl
      · rw [S.bI] at eb; cases eb
      · rw [S.bL] at eb; cases eb
      · rw [hBL] at eb; cases eb) (r.eok.base b o eb), fun a ha => (by cases ha), r.eok.kind, r.eok.gl, r.eok.bl, r.eok.nodbg, r.eok.cells, fun x d e => (by cases e)⟩
  obtain ⟨ob, hob, hcls⟩ := H3.there
  refine wpAny_handleBy_builtin (X := "StopIteration") (T := "StopIteration") (b := true) stop_exc stop_meta stop_self (ev_builtin (eok H3.1 u03) K.kstop hstop ⟨rfl, ⟨ob, hob, hcls⟩, ?_⟩)
  rw [if_pos rfl]
  refine wpAny_setFlight_noneW H3.1 H3.2.2.1 H3.2.2.2.at fun h4 k1 k2 k3 k4 => ?_
  have u04 : s.heap.UpToSlots h4 := u03.trans fun b o hb hn => ⟨o.slots, k4 b o hb hn⟩
  obtain ⟨m, hm, hm1, hm2⟩ := r.ns_
  have hnum : NmAt env (nm "numbers") (.ref N) { s' with heap := h4 } := .inl ⟨K.knum, m, u04.ns hm, hm2⟩
  have eok4 : EOk B env [] [] { s' with heap := h4 } := eok k1 u04
  refine wpAny_execs_cons (wpAny_Return_some (wpAny_Name (load_nm eok4 hnum ?_) (hnum.dbg eok4)))
  obtain ⟨us, c, hg, hr⟩ := r.obj
  refine q us c _ ⟨fun {b o} hb e => bs k1 b o (fun m => ?_) (r.kp.get e), ?_, fun hb => hrest.bare (r.kp.bare hb), fun hg => hrest.gen (r.kp.gen hg)⟩ (u04.ns hnL) (bs k1 N _ (fun m => ?_) hg) hr
  · simp only [List.mem_cons, List.not_mem_nil, or_false] at m hb
    rcases m with rfl | rfl | rfl
    · rw [S.I0] at e; cases e
    · rw [S.L0] at e; cases e
    · exact hb rfl
  · exact hrest.os.trans r.kp.os
  · simp only [List.mem_cons, List.not_mem_nil, or_false] at m
    rcases m with rfl | rfl | rfl
    · exact S.IN rfl
    · exact (S.hP _ (.inl rfl)).2.2 rfl
    · exact hNL rfl
theorem read_loop {qp : Fn} (H : PFn B qp) {ap : Addr} (hap : B.mg (nm "_parse_varint") = some (.ref ap)) {I N l L : Addr} {ns : List Int} {out : List Int} {law : Env} {mL : Str → Option Value} (S : RSt B z env I N l) (K : RKind env)
    (hstop : B.mg (nm "StopIteration") = none ∧ B.mb (nm "StopIteration") = some (.type "StopIteration"))
    (hf : env.frame = some env.locals) (hk : env.scope.kind = .function) (hlf : law.frame = some L) (hlk : law.scope.kind = .function) (hfr : A.frames = some [env, law]) (hroom : A.depth < recursionLimit) (hh : A.handled = none) (hBL : B.h.get? L = none) (hNL : N ≠ L) (hzL : z.heap.Ns L mL)
    {k0 : Nat} (hout : readV k0 ns = some out) (hlen : ns.length ≤ 1000) (r0 : RAt B z env I N l ns 0 [] s)
    {b1 b2 b3 b4 b5 b6 b7 b8 b9 p1 p2 p3 p4 p5 : Pos} {k3 : Nat} (hln : (b3.endLine == b7.line) = true) {Q : Flow → Shared → Prop} {E : Value → Shared → Prop}
    (q : ∀ us c s₂, Fw [L] z s₂ → s₂.heap.Ns L mL → s₂.heap.get? N = some (lObj us c) → RdL (fun _ => none) (out.map .int) us → Q (.ret (.ref N)) s₂) :
    wpAny (model prog w) A (exec (.Try [ .While (.Constant (.bool true) k3 b1) [ .Expr (.Call (.Attribute (.Name (nm "numbers") b2) (nm "append") b3) [.Call (.Name (nm "_parse_varint") b4) [.Name (nm "tape") b5] [] b6] [] b7) b8 ] [] b9 ]
      [ .ExceptHandler (some (.Name (nm "StopIteration") p1)) none [ .Return (some (.Name (nm "numbers") p2)) p3 ] p4 ] [] [] p5) env) Q E s := by
  refine wpAny_Try_except (wpAny_execs_cons (wpAny_While (codeAny_whileLoop (fun k s1 => ∃ j done o m, RAt B z env I N l ns j done s1 ∧ readV m (ns.drop j) = some o ∧ out = done ++ o ∧ k = ns.length - j ∧ done.length ≤ j) (fun k s1 hI => ?_) ns.length ⟨0, [], out, k0, r0, by simpa using hout, by simp, by simp, by simp⟩)))
  obtain ⟨j, done, o, m, r, ho, hd, rfl, hdl⟩ := hI
  refine isTrue_true ?_
  rw [if_pos rfl]
  refine wpAny_execs_cons (expr_fun hk rfl ?_)
  have hnums := r.nums K
  obtain ⟨us, c, hg, hr⟩ := r.obj
  refine wpAny_Call_method (T := "list") (id := "list.append") rfl rfl hln PySem.F.plainAttrs_list PySem.F.slot_list_append PySem.F.type_list_append (wpAny_Name (load_nm r.eok hnums ⟨typeIs_list hg, fun b qq => ⟨_, (by cases qq; exact hg), rfl⟩, ?_⟩) (hnums.dbg r.eok))
  rw [starEach_cons (by rintro _ _ ⟨⟩), backTo_cons]
  refine Calls.callWith_builtin rfl (evalArgs_plain (spliced_cons ?_))
  rw [arm_eval_Call_Name']
  refine wpAny_bind (ev_global r.eok K.kparse hap ?_)
  obtain ⟨a', oo, fd, e1, e2, e3, _⟩ := H.at_.ex
  rw [hap] at e1
  cases e1
  rw [starEach_cons (by rintro _ _ ⟨⟩), backTo_cons]
  have htape := r.tape K
  refine Calls.callWith_function (evalArgs_plain (spliced_cons (wpAny_Name (load_nm r.eok htape (spliced_nil ⟨⟨r.eok.base _ _ e2, e3⟩, ?_⟩)) (htape.dbg r.eok))))
  show wpAny _ A (call (.ref ap) [.ref I]) _ _ s1
  rcases readV_cons ho with ⟨hnil, rfl⟩ | ⟨m', v, rest, o', hp, ho', rfl, hne⟩
  · -- the end
    have hj : ns.length ≤ j := by
      rcases Nat.lt_or_ge j ns.length with h | h
      · rw [List.drop_eq_getElem_cons h] at hnil; cases hnil
      · exact h
    obtain ⟨mE, hmE, _⟩ := r.ns_
    rw [List.append_nil] at hd
    subst hd
    refine parse_call_end H hroom hh hfr hf hlf hk hlk hmE (hzL.keeps fun b o e => r.kp.get e) r.eok.base S.bI r.it hap hj fun e a0 s2 hfl hup hrest => ?_
    exact read_tail S K r hstop hf hfr (hzL.keeps fun b o e => r.kp.get e) hBL hNL hzL hfl hup hrest q
  · refine parse_call H hroom r.eok.base S.bI r.it hap hp fun t s2 j' fw it' hd' => spliced_nil ?_
    have r2 := r.fwI S fw it'
    obtain ⟨us2, c2, hg2, hr2⟩ := r2.obj
    have hl2 := hr2.length
    have hjlt : j < ns.length := by
      rcases Nat.lt_or_ge j ns.length with h | h
      · exact h
      · rw [List.drop_of_length_le h] at hne; exact absurd rfl hne
    have hjj : j < j' := by
      have hlen' : rest.length < (ns.drop j).length := by
        clear hne ho' hd hr hg r r2 hr2 hg2 hl2 hd'
        generalize ns.drop j = xs at hp
        suffices h : ∀ (xs : List Int) (acc : Int), parseV acc xs = some (v, rest) → rest.length < xs.length from h xs 0 hp
        intro xs
        induction xs with
        | nil => intro acc h; cases h
        | cons b r ih =>
          intro acc h
          simp only [parseV] at h
          split at h
          · split at h
            · have := ih _ h; simp; omega
            · cases h; simp
          · cases h
      rw [← hd'] at hlen'
      simp only [List.length_drop] at hlen'
      omega
    refine append_call hg2 (by simp only [List.length_map] at hl2; omega) fun s3 fw3 hg3 => ⟨rfl, ?_⟩
    refine wpAny_execs_nil ⟨ns.length - j', by omega, j', done ++ [v], o', m', r2.fwN S fw3 hg3 (by rw [List.map_append]; exact hr2.append (by simp [RdL, Rd])), by rw [hd']; exact ho', by rw [hd]; simp, rfl, by simp; omega⟩
end
end Mine
/-! part 33 -/
set_option maxRecDepth 100000
namespace Mine
open PySem PySem.Calls PyProof.Rows PySem.W
section
variable {prog : Program} {w : World} {B : Bt} {A : Around} {hid own : List Addr} {s s₀ s' z : Shared} {env : Env} {st st' : Sto} {n : Nat} {R : Ip} {P : Prims} {W : List Addr} {σ : Sig}
theorem two_stores {x y : Str} {m : Str → Option Value} (hx : env.kindOf x = some .local) (hy : env.kindOf y = some .local) (hk : env.scope.kind = .function) (hm : s.heap.Ns env.locals m) (f g : Value → Sem Unit)
    (hf : ∀ (v : Value) (s : Shared) (Q : Unit → Shared → Prop) (E : Value → Shared → Prop), wpAny (model prog w) A (storeName env x v) Q E s → wpAny (model prog w) A (f v) Q E s)
    (hg : ∀ (v : Value) (s : Shared) (Q : Unit → Shared → Prop) (E : Value → Shared → Prop), wpAny (model prog w) A (storeName env y v) Q E s → wpAny (model prog w) A (g v) Q E s) {v u : Value} {Q : Unit → Shared → Prop} {E : Value → Shared → Prop}
    (q : ∀ s', Fw [env.locals] s s' → s'.heap.Ns env.locals (fun z => if z = y then some u else if z = x then some v else m z) → Q () s') : wpAny (model prog w) A (assignInOrder [f, g] [v, u]) Q E s := by
  have hp : (env.scope.kind == .class || (env.scope.kind == .module && env.locals != env.globals)) = false := by rw [hk]; rfl
  show wpAny _ A (do holding [u] (f v); do holding [] (g u); pure ()) _ _ _
  refine wpAny_bind (wpAny_holding (hf _ _ _ _ (wpAny_storeName_local hx hm (fun h1 hn1 hs1 => ?_) hp)))
  refine wpAny_bind (wpAny_holding (hg _ _ _ _ (wpAny_storeName_local hy hn1 (fun h2 hn2 hs2 => wpAny_pure ?_) hp)))
  exact q _ ((sameBut_fw (tk := s.toks + 1) hs1).trans (sameBut_fw (s := { s with heap := h1, toks := s.toks + 1 }) hs2)) hn2
theorem read_call {qp qr : Fn} (HP : PFn B qp) (HR : RFn B qr) {ap ar : Addr} (hap : B.mg (nm "_parse_varint") = some (.ref ap)) (har : B.mg (nm "_law_read") = some (.ref ar)) {l L : Addr} {vs : List Value} {c0 : Nat} {ns out : List Int} {law : Env} {mL : Str → Option Value}
    (hlf : law.frame = some L) (hlk : law.scope.kind = .function) (hfr : A.frames = some [law]) (hd : A.depth + 2 < recursionLimit) (hh : A.handled = none) (hb : Bs B s) (hBL : B.h.get? L = none) (hL : s.heap.Ns L mL)
    (hl : s.heap.get? l = some (lObj vs c0)) (hv : RdL (fun _ => none) (ns.map .int) vs) {k0 : Nat} (hout : readV k0 ns = some out) (hlen : ns.length ≤ 1000) {Q E : Value → Shared → Prop}
    (q : ∀ N us c s₂, Fw [L] s s₂ → s₂.heap.Ns L mL → s.heap.get? N = none → s₂.heap.get? N = some (lObj us c) → RdL (fun _ => none) (out.map .int) us → Q (.ref N) s₂) :
    wpAny (model prog w) A (call (.ref ar) [.ref l]) Q E s := by
  refine enter (hid := []) (by omega) HR.at_ HR.ok hb (fun a ha => by cases ha) (by rw [HR.params.1]; rfl) har fun env s1 dv kp e1 e2 e3 F rdv hn => ?_
  obtain ⟨ps, hps, hln⟩ := HR.body
  rw [hps]
  have ek : ∀ y, env.kindOf y = qr.2.2.2.names.lookup y := fun y => by show env.scope.names.lookup y = _; rw [e1]
  have K : RKind env := ⟨by rw [ek]; exact HR.kparse, by rw [ek]; exact HR.kstop, by rw [ek]; exact HR.ktape, by rw [ek]; exact HR.knum⟩
  have hoct : NmAt env (nm "octets") (.ref l) s1 := hn _ _ (by rw [HR.params.1, HR.params.2]; rfl)
  have eok1 : EOk B env [] [] s1 := F.eall
  have hl1 := kp.get hl
  have hge : nm "tape" ≠ nm "numbers" := by decide
  obtain ⟨m1, hm1⟩ := F.ns
  -- the value of the tuple
  have ev : ∀ (Q E : Value → Shared → Prop), (∀ I N T s2, Kp s1 s2 → s1.heap.get? I = none → s1.heap.get? N = none → I ≠ N → s2.heap.IsListIter I l 0 → s2.heap.get? N = some (lObj [] 0) → s2.heap.get? T = some (tObj [.ref I, .ref N] 0) → Q (.ref T) s2) →
      wpAny (model prog w) (A.deeper env) (eval (.Tuple [.Call (.Name (nm "iter") ps.a4) [.Name (nm "octets") ps.a5] [] ps.a6, .List [] ps.a7] ps.k2 ps.a8) env) Q E s1 := fun Q E q => by
    refine wpAny_Tuple ?_
    rw [starEach_cons (by rintro _ _ ⟨⟩), backTo_cons, starEach_cons (by rintro _ _ ⟨⟩), backTo_cons]
    refine spliced_cons (call_bi1 eok1 (by rw [ek]; exact HR.kiter) HR.iter (by rintro _ _ ⟨⟩) (wpAny_Name (load_nm eok1 hoct (iter_list hl1 fun h2 hit hk2 => ?_)) (hoct.dbg eok1)))
    refine spliced_cons (wpAny_List (spliced_nil ⟨Nat.zero_le _, spliced_nil ⟨by rw [sizeLine_big]; show 2 ≤ 16777216; omega, ?_⟩⟩))
    have hIl : s1.heap.objs.size < h2.objs.size := by obtain ⟨o, ho, _⟩ := hit; exact Heap.lt_size ho
    refine q s1.heap.objs.size h2.objs.size _ _ (Kp.mk' fun b o e => Heap.get?_push_of_some _ (Heap.get?_push_of_some _ (hk2 b o e))) (get_size _) (Heap.get?_none_of_le (Nat.le_of_lt hIl)) (Nat.ne_of_lt hIl) ?_ (Heap.get?_push_of_some _ (Heap.get?_push_size _ rfl)) (Heap.get?_push_size _ rfl)
    obtain ⟨o, ho, r⟩ := hit
    exact ⟨o, Heap.get?_push_of_some _ (Heap.get?_push_of_some _ ho), r⟩
  have fin : ∀ I N s2 s3 m3, Kp s1 s2 → s1.heap.get? I = none → s1.heap.get? N = none → I ≠ N → s2.heap.IsListIter I l 0 → s2.heap.get? N = some (lObj [] 0) → Fw [env.locals] s2 s3 → s3.heap.Ns env.locals m3 → m3 (nm "tape") = some (.ref I) → m3 (nm "numbers") = some (.ref N) →
      wpAny (model prog w) (A.deeper env) (execs [ .Try [ .While (.Constant (.bool true) ps.k3 ps.b1) [ .Expr (.Call (.Attribute (.Name (nm "numbers") ps.b2) (nm "append") ps.b3) [.Call (.Name (nm "_parse_varint") ps.b4) [.Name (nm "tape") ps.b5] [] ps.b6] [] ps.b7) ps.b8 ] [] ps.b9 ]
      [ .ExceptHandler (some (.Name (nm "StopIteration") ps.c1)) none [ .Return (some (.Name (nm "numbers") ps.c2)) ps.c3 ] ps.c4 ] [] [] ps.c5 ] env) (fun f s' => Q (match f with | .ret v => v | _ => .none) s')
        (fun e s' => wpAny (model prog w) (A.deeper env) (leaving env e) (fun _ s'' => E e s'') (fun e' s'' => E e' s'') s') s3 := by
    intro I N s2 s3 m3 k12 hI hN hIN hit hNo fw hm3 ht hnu
    have hP : ∀ a, Plc env a → a ≠ I ∧ a ≠ l ∧ a ≠ N := fun a ha => by
      have h0 := F.plc_new ha
      have h1 : ∃ o, s1.heap.get? a = some o := by
        rcases ha with rfl | ⟨x, hx⟩
        · exact F.L_live
        · obtain ⟨_, v, o, h, _⟩ := F.cell x a hx; exact ⟨o, h⟩
      obtain ⟨o, h1⟩ := h1
      exact ⟨fun q => (by rw [q, hI] at h1; cases h1), fun q => (by rw [q, hl] at h0; cases h0), fun q => (by rw [q, hN] at h1; cases h1)⟩
    have S : RSt B s env I N l := ⟨hP, none_kp kp hI, none_kp kp hN, e3, hb, hIN, fun q => (by rw [q, hN] at hl1; cases hl1), fun q => (by rw [q, hI] at hl1; cases hl1)⟩
    have hLL : L ≠ env.locals := fun q => by
      obtain ⟨o, es, ep, h, _⟩ := hL
      rw [q, e3] at h; cases h
    have keep : ∀ b o, b ≠ env.locals → s2.heap.get? b = some o → s3.heap.get? b = some o := fun b o hne e => fw.get (by simpa using hne) e
    have k13 : Kp s s3 := fw_kp (kp.trans k12) fw e3
    have r0 : RAt B s env I N l ns 0 [] s3 :=
      { eok := eok_fw (eok1.kp k12) fw fun a ha => by rw [List.mem_singleton.mp ha]; exact S.bL
        ns_ := ⟨m3, hm3, ht, hnu⟩
        it := ⟨⟨vs, c0, hit.at fun o e => keep _ _ (Ne.symm (hP _ (.inl rfl)).1) e, keep _ _ (Ne.symm (hP _ (.inl rfl)).2.1) (k12.get hl1), hv⟩, S.lI⟩
        obj := ⟨[], 0, keep _ _ (Ne.symm (hP _ (.inl rfl)).2.2) hNo, by simp [RdL]⟩
        kp := k13 }
    have hNL : N ≠ L := fun q => by
      obtain ⟨o, es, ep, h, _⟩ := hL
      rw [← q, S.N0] at h; cases h
    refine wpAny_execs_cons (read_loop HP hap S K HR.stop e2 F.kind hlf hlk (Around.frames_deeper hfr) (by show A.depth + 1 < _; omega) (show (A.deeper env).handled = none from hh) hBL hNL hL hout hlen r0 hln fun us c s4 fw4 n4 g4 r4 => ?_)
    exact q N us c s4 fw4 n4 S.N0 g4 r4
  obtain ⟨o, ho, hoo⟩ := swapped2 (env := env) (e := .Call (.Name (nm "iter") ps.a4) [.Name (nm "octets") ps.a5] [] ps.a6) (f := .List [] ps.a7) (px := ps.a1) (py := ps.a2) (tp := ps.a3) (vp := ps.a8) (c := ps.k1) (c' := ps.k2) F.kind hge (by rintro _ _ ⟨⟩) (by rintro _ _ ⟨⟩) rfl
  show wpAny _ _ (execs (_ :: _) env) _ _ _
  rcases hoo with rfl | rfl
  · refine wpAny_execs_cons (PyProof.Rows.Assign_Tuple (ev _ _ fun I N T s2 k12 hI hN hIN hit hNo hT => ?_) rfl ho)
    refine wpAny_assign_Tuple (show (A.deeper env).handled = none from hh) (items := #[.ref I, .ref N]) ⟨_, hT, rfl, _, rfl⟩ rfl rfl fun h' he => ?_
    have kx := ext_new (s := s2) he
    refine two_stores (x := nm "tape") (y := nm "numbers") K.ktape K.knum F.kind ((hm1.keeps fun b o e => k12.get e).keeps fun b o e => kx.get e) (assign (.Name (nm "tape") ps.a1) env) (assign (.Name (nm "numbers") ps.a2) env) (fun v s Q E h => PyProof.Rows.assign_Name h) (fun v s Q E h => PyProof.Rows.assign_Name h) fun s3 fw hm3 => ?_
    exact fin I N _ s3 _ (k12.trans kx) hI hN hIN (hit.at fun o e => kx.get e) (kx.get hNo) fw hm3 (by rw [if_neg hge, if_pos rfl]) (by rw [if_pos rfl])
  · refine wpAny_execs_cons (PyProof.Rows.Assign_Tuple_swapped (names := [nm "tape", nm "numbers"]) (ev _ _ fun I N T s2 k12 hI hN hIN hit hNo hT => ?_) rfl ho)
    refine unpackItems_tuple (items := #[.ref I, .ref N]) (show (A.deeper env).handled = none from hh) ⟨_, hT, rfl, _, rfl⟩ fun h' he => ?_
    have kx := ext_new (s := s2) he
    refine two_stores (x := nm "numbers") (y := nm "tape") K.knum K.ktape F.kind ((hm1.keeps fun b o e => k12.get e).keeps fun b o e => kx.get e) (fun v => bindName env (nm "numbers") v) (fun v => bindName env (nm "tape") v) (fun v s Q E h => wpAny_bindName h) (fun v s Q E h => wpAny_bindName h) fun s3 fw hm3 => ?_
    exact fin I N _ s3 _ (k12.trans kx) hI hN hIN (hit.at fun o e => kx.get e) (kx.get hNo) fw hm3 (by rw [if_pos rfl]) (by rw [if_neg (Ne.symm hge), if_pos rfl])
end
end Mine
/-! part 34 -/
set_option maxRecDepth 100000
namespace Mine
open PySem PySem.Calls PyProof.Rows PySem.W
section
variable {prog : Program} {w : World} {A : Around} {R : GenEnd} {Y : Protocol} {n : Nat} {s₀ : Shared} {c : Code} {fs : List Frame} {s : Shared} {env : Env} {K : Flow → Sem Fin} {H : Value → Sem Fin} {gd : Bool → Bool} {lv : List Value → List Value}
theorem sg_If {test : Expr} {body orelse : List Stmt} {pos : Pos} (h : wpAny (model prog w) (A.over c fs) (isTrue test env (eval test env)) (fun b s' => if b = true then Seg (model prog w) A R Y n s₀ c ((execs body env).wrap K H gd lv) fs s' else Seg (model prog w) A R Y n s₀ c ((execs orelse env).wrap K H gd lv) fs s')
    (fun x s' => Seg (model prog w) A R Y n s₀ c (H x) fs s') s) : Seg (model prog w) A R Y n s₀ c ((exec (.If test body orelse pos) env).wrap K H gd lv) fs s := by
  rw [exec_If]
  refine seg_bind_wrap (wpAny_standAt ?_)
  refine seg_bind_wrap (wpAny_mono h (fun b s' hb => ?_) fun _ _ x => x)
  cases b with
  | true => rw [if_pos rfl] at hb ⊢; exact hb
  | false => rw [if_neg Bool.false_ne_true] at hb ⊢; exact hb
theorem sg_For {target iter : Expr} {body orelse : List Stmt} {pos : Pos} (hs : ∀ x, foldedSetIterable iter env x = pure x)
    (h : wpAny (model prog w) (A.over c fs) (eval iter env) (fun x s₁ => wpAny (model prog w) (A.over c fs) (pyIter x) (fun it s₂ => ∀ p, Seg (model prog w) A R Y n s₀ (.forLoop target it body orelse env) ((model prog w).den (.forLoop target it body orelse env))
      (.ret (fun r => ((match r with | .ok f => (.pure f : Sem Flow) | .error e => .raise e).onRaise fun (x : Value) => do
        if (← field x 1) == Value.none then unsupported "frame.own-activation:exception-without-traceback"
        setFlight x env.frame).wrap K H gd lv) none (gd false) (lv []) c p [] :: fs) s₂) (fun x s' => Seg (model prog w) A R Y n s₀ c (H x) fs s') s₁) (fun x s' => Seg (model prog w) A R Y n s₀ c (H x) fs s') s) :
    Seg (model prog w) A R Y n s₀ c ((exec (.For target iter body orelse pos) env).wrap K H gd lv) fs s := by
  rw [exec_For]
  refine seg_bind_wrap (wpAny_standAt ?_)
  refine seg_bind_wrap (wpAny_mono h (fun x s₁ h₁ => ?_) fun _ _ x => x)
  refine seg_bind_wrap (wpAny_of_eq (hs x) ?_)
  refine seg_bind_wrap (wpAny_standAt ?_)
  refine seg_bind_wrap (wpAny_holding (wpAny_mono h₁ (fun it s₂ h₂ => ?_) fun _ _ x => x))
  exact seg_call h₂
/-- one turn of a loop inside a generator -/
theorem sg_turn {target : Expr} {it : Value} {body orelse : List Stmt}
    (h : wpAny (model prog w) (A.over (.forLoop target it body orelse env) fs) (pyNext it) (fun r s₁ => match r with
      | none => Seg (model prog w) A R Y n s₀ (.block orelse env) ((model prog w).den (.block orelse env)) fs s₁
      | some v => wpAny (model prog w) (A.over (.forLoop target it body orelse env) fs) (letOwnedTupleGo target it v) (fun _ s₂ => wpAny (model prog w) (A.over (.forLoop target it body orelse env) fs) (assign target env v) (fun _ s₃ =>
          Seg (model prog w) A R Y n s₀ (.forLoop target it body orelse env) ((execs body env).wrap (fun f => match f with
            | .next | .cont => .pure (.again (.forLoop target it body orelse env))
            | .brk => .pure (.done .next)
            | .ret v => .pure (.done (.ret v))) (fun e => (do noteFrame e env; theTreesLotGoes e : Sem Unit).wrap (fun _ => .raise e) .raise id id) id id) fs s₃)
          (fun _ _ => False) s₂) (fun _ _ => False) s₁) (fun _ _ => False) s) :
    Seg (model prog w) A R Y n s₀ (.forLoop target it body orelse env) ((model prog w).den (.forLoop target it body orelse env)) fs s := by
  show Seg _ A R Y n s₀ _ ((forTurn target it body orelse env).onRaise (fun x => do noteFrame x env; theTreesLotGoes x)) fs s
  unfold forTurn
  rw [Sem.onRaise_eq_wrap]
  refine seg_bind_wrap (wpAny_standAt ?_)
  refine seg_bind_wrap (wpAny_onRaise (wpAny_mono h (fun r s₁ h₁ => ?_) fun _ _ x => x.elim))
  cases r with
  | none => exact seg_again rfl h₁
  | some v =>
    refine seg_bind_wrap (wpAny_mono h₁ (fun _ s₂ h₂ => ?_) fun _ _ x => x.elim)
    refine seg_bind_wrap (wpAny_mono h₂ (fun _ s₃ h₃ => ?_) fun _ _ x => x.elim)
    rw [Sem.bind_eq_wrap', Sem.wrap_wrap]
    rw [Sem.wrap_congr (execs body env) _ _ (K' := fun f => match f with
            | .next | .cont => .pure (.again (.forLoop target it body orelse env))
            | .brk => .pure (.done .next)
            | .ret v => .pure (.done (.ret v))) (H' := (fun e => (do noteFrame e env; theTreesLotGoes e : Sem Unit).wrap (fun _ => .raise e) .raise id id))
        (fun f => by cases f <;> rfl)
        (fun e => by first | exact Sem.bind_eq_wrap _ _ | (show (do noteFrame e env; theTreesLotGoes e : Sem Unit).bind (fun _ => .raise e) = _; rw [Sem.bind_eq_wrap]))]
    exact h₃
end
end Mine
/-! part 35 -/
set_option maxRecDepth 100000
namespace Mine
open PySem PySem.Calls PyProof.Rows PySem.W
structure GPos where
  (a1 a2 a3 a4 a5 a6 b1 b2 b3 b4 b5 b6 b7 c1 c2 c3 c4 c5 c6 d1 d2 d3 d4 d5 e1 e2 : Pos)
  (k1 k2 k3 k4 k5 : Nat)
  (x1 x2 x3 : List Stmt)
noncomputable def genTgt (p : GPos) : Expr := .Tuple [.Name (nm "pos") p.b1, .Name (nm "ch") p.b2] p.k3 p.b3
noncomputable def genTurn (p : GPos) : List Stmt :=
  [ .If (.Name (nm "escape") p.c1) p.x1 [ .If (.Compare (.Name (nm "ch") p.c2) [.Eq] [.Constant (.str (nm "\\")) p.k4 p.c3] p.c4) p.x2 [ .Expr (.Yield (some (.Tuple [.Name (nm "pos") p.d1, .Name (nm "ch") p.d2] p.k5 p.d3)) p.d4) p.d5 ] p.c5 ] p.c6 ]
noncomputable def genLast (p : GPos) : List Stmt := [ .If (.Name (nm "escape") p.e1) p.x3 [] p.e2 ]
noncomputable def genBody (p : GPos) : List Stmt :=
  .Assign [.Name (nm "pos") p.a1] (.Constant (.int 0) p.k1 p.a2) p.a3 ::
  .Assign [.Name (nm "escape") p.a4] (.Constant (.bool false) p.k2 p.a5) p.a6 ::
  .For (genTgt p) (.Call (.Name (nm "enumerate") p.b4) [.Name (nm "addr") p.b5] [] p.b6) (genTurn p) [] p.b7 :: genLast p
noncomputable def gK1 : Flow → Sem PySem.Fin := fun f => .pure (.done (.ret (match f with | .ret v => v | _ => .none)))
noncomputable def gH1 (env : Env) : Value → Sem PySem.Fin := fun e => (leaving env e).wrap (fun _ => .raise e) .raise id id
noncomputable def gK2 (ps : GPos) (env : Env) : Flow → Sem PySem.Fin := fun f => match f with
  | Flow.next => (execs (genLast ps) env).wrap gK1 (gH1 env) id id
  | f => gK1 f
noncomputable def gFR (ps : GPos) (env : Env) (p : Pos) : Frame := .ret (fun r => ((match r with | .ok f => (.pure f : Sem Flow) | .error e => .raise e).onRaise fun (x : Value) => do
        if (← field x 1) == Value.none then unsupported "frame.own-activation:exception-without-traceback"
        setFlight x env.frame).wrap (gK2 ps env) (gH1 env) id id) none (id false) (id []) (.func (genBody ps) env) p []
noncomputable def Old (zg s₀ s : Shared) : Prop := ∃ W, Fw W s₀ s ∧ ∀ a ∈ W, zg.heap.get? a = none
theorem Old.refl (zg s : Shared) : Old zg s s := ⟨[], Fw.refl _ _, fun a h => by cases h⟩
theorem Old.step {zg s₀ s s' : Shared} {W : List Addr} (h : Old zg s₀ s) (k : Fw W s s') (hW : ∀ a ∈ W, zg.heap.get? a = none) : Old zg s₀ s' := by
  obtain ⟨V, h1, h2⟩ := h
  exact ⟨V ++ W, (h1.mono fun a ha => List.mem_append_left _ ha).trans (k.mono fun a ha => List.mem_append_right _ ha), fun a ha => by
    rcases List.mem_append.mp ha with h | h
    · exact h2 a h
    · exact hW a h⟩
noncomputable def gY (x : Str) (N : Nat) (zg : Shared) (Lc : Addr) : Protocol := fun m s₀ v s kap =>
  (∃ T i c u tt k, i + m + 1 = N ∧ v = .ref T ∧ s.heap.get? T = some (tObj [.int (i : Int) tt, .str ⟨#[c]⟩ u] k) ∧ x.cps[i]? = some c) ∧ Old zg s₀ s ∧
    ∀ s'' : Shared, (∀ b o, b ≠ Lc → s.heap.get? b = some o → s''.heap.get? b = some o) → kap (.send .none) s''
noncomputable def gR (zg : Shared) : GenEnd := fun n s₀ r s₁ => r = .ok (.ret .none) ∧ (n = 0 ∧ Old zg s₀ s₁)
structure GK (env : Env) : Prop where
  kind : env.scope.kind = .function
  co : env.scope.isCoroutine = false
  kpos : env.kindOf (nm "pos") = some .local
  kch : env.kindOf (nm "ch") = some .local
  kesc : env.kindOf (nm "escape") = some .local
  kaddr : env.kindOf (nm "addr") = some .local
  kenum : env.kindOf (nm "enumerate") = some .globalImplicit
/-- the generator's state at its i-th item -/
structure GI (zg : Shared) (env : Env) (Lc : Addr) (x : Str) (t : Tok) (e it : Addr) (i : Nat) (s : Shared) : Prop where
  ns : ∃ m, s.heap.Ns env.locals m ∧ m (nm "escape") = some (.bool false)
  en : ∃ old, IsEnum s.heap e it i old
  st : s.heap.IsStrIter it "str_ascii_iterator" x t i
  ne : e ≠ it ∧ env.locals ≠ e ∧ env.locals ≠ it
  old : zg.heap.get? env.locals = none ∧ zg.heap.get? e = none ∧ zg.heap.get? it = none
  lc : env.locals ≠ Lc ∧ e ≠ Lc ∧ it ≠ Lc
theorem GI.keep {zg s s' : Shared} {env : Env} {Lc : Addr} {x : Str} {t : Tok} {e it : Addr} {i : Nat} (g : GI zg env Lc x t e it i s) (k : ∀ b o, b ≠ Lc → s.heap.get? b = some o → s'.heap.get? b = some o) : GI zg env Lc x t e it i s' := by
  obtain ⟨⟨m, h1, h2⟩, ⟨old, h3⟩, h4, h5, h6, h7⟩ := g
  exact ⟨⟨m, h1.at' fun o e => k _ o h7.1 e, h2⟩, ⟨old, k _ _ h7.2.1 h3⟩, (let ⟨o, ho, r⟩ := h4; ⟨o, k _ _ h7.2.2 ho, r⟩), h5, h6, h7⟩
section
variable {prog : Program} {w : World} {A : Around} {s₀ s zg : Shared} {env : Env}
theorem ld_loc {M : Model} {x : Str} {v : Value} {m : Str → Option Value} (hk : env.scope.kind = .function) (hl : env.kindOf x = some .local) (hn : s.heap.Ns env.locals m) (hv : m x = some v) (hd : (x == ("__debug__" : Str)) = false) {p : Pos} {Q E : Value → Shared → Prop} (q : Q v s) :
    wpAny M A (eval (.Name x p) env) Q E s := wpAny_Name (wpAny_loadName_local hk hl hn hv q) hd
theorem sg_leaf0 {R : GenEnd} {Y : Protocol} {n : Nat} {c₁ : Code} {p₁ : Pos} {kp : List Value} {k : Result → Sem PySem.Fin} {h : Option Value} {g : Bool} {l : List Value} {fs : List Frame} (hk : Seg (model prog w) A R Y n s₀ c₁ (k (.ok .next)) fs s) :
    Seg (model prog w) A R Y n s₀ (.block [] env) ((model prog w).den (.block [] env)) (.ret k h g l c₁ p₁ kp :: fs) s :=
  seg_leaf (.ok .next) hk
theorem gen_loop {x : Str} {t : Tok} {N : Nat} {Lc e it : Addr} {ps : GPos} (K : GK env) (hN : N = x.cps.size) (hch : ∀ (i c : Nat), x.cps[i]? = some c → c ≠ 92) (hh : A.handled = none) (p : Pos) :
    ∀ k i s₀ s, N = i + k → GI zg env Lc x t e it i s → Old zg s₀ s →
      Seg (model prog w) A (gR zg) (gY x N zg Lc) k s₀ (.forLoop (genTgt ps) (.ref e) (genTurn ps) [] env) ((model prog w).den (.forLoop (genTgt ps) (.ref e) (genTurn ps) [] env))
        [gFR ps env p] s := by
  have hh2 : (A.over (.forLoop (genTgt ps) (.ref e) (genTurn ps) [] env) [gFR ps env p]).handled = none := hh
  intro k
  induction k with
  | zero =>
    intro i s₀ s hi g ho
    have W := WalksT.enumerateD (prog := prog) (w := w) (A := A.over (.forLoop (genTgt ps) (.ref e) (genTurn ps) [] env) [gFR ps env p]) (Draws.strAscii (A := (A.over (.forLoop (genTgt ps) (.ref e) (genTurn ps) [] env) [gFR ps env p]).in1) hh2 it x t) e g.ne.1 (by simpa using g.ne.1) (List.mem_singleton.mpr rfl)
    refine sg_turn (W.done _ _ _ ⟨(by obtain ⟨old, h⟩ := g.en; exact ⟨old, by have : i = x.cps.size := by omega
                                                                              rw [this] at h; exact h⟩), (by have : i = x.cps.size := by omega
                                                                                                             have h := g.st; rw [this] at h; exact h)⟩ fun h' tk hk => ?_)
    dsimp only
    refine sg_leaf0 ?_
    show Seg _ A _ _ _ _ _ ((execs (genLast ps) env).wrap _ _ _ _) [] _
    obtain ⟨m, hm, hm2⟩ := g.ns
    have hm' : h'.Ns env.locals m := hm.at' fun o eo => hk _ o (by simp [g.ne.2.1, g.ne.2.2]) eo
    refine seg_execs_cons (sg_If (isTrue_plain (ld_loc K.kind K.kesc hm' hm2 (by decide) (wpAny_truthy_bool ?_)) rfl))
    rw [if_neg Bool.false_ne_true]
    refine seg_execs_nil ?_
    refine seg_execs_nil ?_
    refine seg_end (.ok (.ret .none)) ⟨rfl, rfl, ho.step (W := [e, it]) (ext_fw fun b o hb eo => hk b o hb eo) fun a ha => ?_⟩
    rcases List.mem_cons.mp ha with rfl | ha
    · exact g.old.2.1
    · rw [List.mem_singleton.mp ha]; exact g.old.2.2
  | succ k ih =>
    intro i s₀ s hi g ho
    have W := WalksT.enumerateD (prog := prog) (w := w) (A := A.over (.forLoop (genTgt ps) (.ref e) (genTurn ps) [] env) [gFR ps env p]) (Draws.strAscii (A := (A.over (.forLoop (genTgt ps) (.ref e) (genTurn ps) [] env) [gFR ps env p]).in1) hh2 it x t) e g.ne.1 (by simpa using g.ne.1) (List.mem_singleton.mpr rfl)
    refine sg_turn (W.item i _ _ _ (by omega) ⟨g.en, g.st⟩ fun T vals h1 tk hv hT ht hmid hk1 => ?_)
    dsimp only
    refine W.go _ _ _ i T _ _ _ hmid fun h2 hst2 hk2 => ?_
    obtain ⟨tt, xv, ⟨c, u, hc, rfl⟩, rfl⟩ := hv
    have hTw := W.apart i T _ hmid
    obtain ⟨m, hm, hm2⟩ := g.ns
    have hLw : env.locals ∉ [e, it] := by simp [g.ne.2.1, g.ne.2.2]
    have hmm : h2.Ns env.locals m := (hm.at' fun o eo => hk1 _ o hLw eo).at' fun o eo => hk2 _ o hLw eo
    have ht2 : h2.IsTuple T #[.int i tt, .str ⟨#[c]⟩ u] := by
      obtain ⟨o, ho', r⟩ := ht
      exact ⟨o, hk2 _ _ hTw ho', r⟩
    refine wpAny_assign_Tuple hh2 (items := #[.int i tt, .str ⟨#[c]⟩ u]) ht2 rfl rfl fun h3 he3 => ?_
    have kx : Kp { s with heap := h2, toks := tk } { s with heap := h3, toks := tk } := ext_new (s := { s with heap := h2, toks := tk }) he3
    refine two_stores (x := nm "pos") (y := nm "ch") K.kpos K.kch K.kind (hmm.keeps fun b o e => kx.get e) (assign (.Name (nm "pos") ps.b1) env) (assign (.Name (nm "ch") ps.b2) env) (fun v s Q E h => PyProof.Rows.assign_Name h) (fun v s Q E h => PyProof.Rows.assign_Name h) fun s4 fw4 hm4 => ?_
    have hW : ∀ a ∈ [env.locals, e, it], zg.heap.get? a = none := fun a ha => by
      simp only [List.mem_cons, List.not_mem_nil, or_false] at ha
      rcases ha with rfl | rfl | rfl
      · exact g.old.1
      · exact g.old.2.1
      · exact g.old.2.2
    have f02 : Fw [env.locals, e, it] s { s with heap := h2, toks := tk } := ext_fw fun b o hb eo => hk2 b o (fun q => hb (List.mem_cons_of_mem _ q)) (hk1 b o (fun q => hb (List.mem_cons_of_mem _ q)) eo)
    have f04 : Fw [env.locals, e, it] s s4 := (f02.trans (kx.fw _)).trans (fw4.mono fun a ha => by rw [List.mem_singleton.mp ha]; exact List.mem_cons_self ..)
    have k24 : ∀ b o, b ≠ env.locals → h2.get? b = some o → s4.heap.get? b = some o := fun b o hb eo => fw4.get (by simpa using hb) (kx.get eo)
    have g4 : GI zg env Lc x t e it (i + 1) s4 := by
      obtain ⟨⟨old, ho'⟩, hs'⟩ := hst2
      refine ⟨⟨_, hm4, ?_⟩, ⟨old, k24 _ _ (Ne.symm g.ne.2.1) ho'⟩, (let ⟨o, h, r⟩ := hs'; ⟨o, k24 _ _ (Ne.symm g.ne.2.2) h, r⟩), g.ne, g.old, g.lc⟩
      rw [if_neg (by decide), if_neg (by decide)]
      exact hm2
    refine seg_execs_cons (sg_If (isTrue_plain (ld_loc K.kind K.kesc hm4 (by rw [if_neg (by decide), if_neg (by decide)]; exact hm2) (by decide) (wpAny_truthy_bool ?_)) rfl))
    rw [if_neg Bool.false_ne_true]
    refine seg_execs_cons (sg_If (wpAny_isTrue_Compare1 (ld_loc K.kind K.kch hm4 (by rw [if_pos rfl]) (by decide) (wpAny_Constant_str (PyProof.Rows.eq_str (wpAny_truthy_bool ?_)))) rfl))
    have hne : ((⟨#[c]⟩ : Str) == nm "\\") = false := by
      have := hch i c hc
      have h92 : nm "\\" = ⟨#[92]⟩ := rfl
      rw [h92, beq_eq_false_iff_ne]
      intro q
      injection q with q
      have hc92 : [c] = [92] := congrArg Array.toList q
      injection hc92 with hc92
      exact this hc92
    rw [hne, if_neg Bool.false_ne_true]
    have hm5 : ({ s4 with toks := s4.toks + 1 } : Shared).heap.Ns env.locals (fun z => if z = nm "ch" then some (.str ⟨#[c]⟩ u) else if z = nm "pos" then some (.int i tt) else m z) := hm4
    refine seg_execs_cons (seg_Expr_Yield rfl rfl rfl (wpAny_Tuple ?_) K.co (by simp [interactive, K.kind]))
    rw [starEach_cons (by rintro _ _ ⟨⟩), backTo_cons, starEach_cons (by rintro _ _ ⟨⟩), backTo_cons]
    refine spliced_cons (ld_loc K.kind K.kpos hm5 (by rw [if_neg (by decide), if_pos rfl]) (by decide) (spliced_cons (ld_loc K.kind K.kch hm5 (by rw [if_pos rfl]) (by decide) (spliced_nil ⟨by rw [sizeLine_big]; show 2 ≤ 16777216; omega, ?_⟩))))
    intro kap hkap
    have kp5 : Kp s4 { s4 with heap := s4.heap.push (tObj [.int i tt, .str ⟨#[c]⟩ u] 0), toks := s4.toks + 1 } := Kp.push _
    refine ⟨⟨_, i, c, u, tt, 0, by omega, rfl, Heap.get?_push_size _ rfl, hc⟩, (ho.step f04 hW).step (kp5.fw []) (fun a ha => by cases ha), fun s'' hs'' => hkap .none s'' ?_⟩
    dsimp only
    refine seg_execs_nil ?_
    refine seg_execs_nil ?_
    refine seg_execs_nil ?_
    refine seg_again rfl ?_
    exact ih (i + 1) s'' s'' (by omega) (g4.keep fun b o hb eo => hs'' b o hb (kp5.get eo)) (Old.refl _ _)
end
end Mine
/-! part 36 -/
set_option maxRecDepth 100000
namespace Mine
open PySem PySem.Calls PyProof.Rows PySem.W
section
variable {prog : Program} {w : World} {A : Around} {B : Bt} {s₀ s zg : Shared} {env : Env} {E : Value → Shared → Prop}
theorem sto_loc1 {x : Str} {v : Value} {m : Str → Option Value} (hk : env.scope.kind = .function) (hx : env.kindOf x = some .local) (hm : s.heap.Ns env.locals m) {M : Model} {Q : Unit → Shared → Prop}
    (q : ∀ s', Fw [env.locals] s s' → s'.heap.Ns env.locals (fun z => if z = x then some v else m z) → Q () s') : wpAny M A (storeName env x v) Q E s := by
  have hp : (env.scope.kind == .class || (env.scope.kind == .module && env.locals != env.globals)) = false := by rw [hk]; rfl
  exact wpAny_storeName_local hx hm (fun h1 hn1 hs1 => q _ (sameBut_fw hs1) hn1) hp
theorem gen_start {x : Str} {t : Tok} {Lc : Addr} {ps : GPos} {m : Str → Option Value} (K : GK env) (hasc : strIterType x = "str_ascii_iterator") (hch : ∀ (i c : Nat), x.cps[i]? = some c → c ≠ 92) (hh : A.handled = none)
    (eok : EOk B env [] [] s) (hns : s.heap.Ns env.locals m) (ha : m (nm "addr") = some (.str x t)) (hdom : ∀ b, s.heap.get? b = none → zg.heap.get? b = none) (hz : zg.heap.get? env.locals = none) (hL : ∃ o, s.heap.get? Lc = some o) (hLn : env.locals ≠ Lc) (hBL : B.h.get? env.locals = none) (ho : Old zg s₀ s) :
    Seg (model prog w) A (gR zg) (gY x x.cps.size zg Lc) x.cps.size s₀ (.func (genBody ps) env) ((model prog w).den (.func (genBody ps) env)) [] s := by
  refine seg_func ?_
  show Seg _ A _ _ _ _ _ ((execs (_ :: _) env).wrap gK1 (gH1 env) id id) [] s
  have hhA : (A.over (.func (genBody ps) env) []).handled = none := hh
  have hBs : ∀ {s s' : Shared}, EOk B env [] [] s → Fw [env.locals] s s' → EOk B env [] [] s' := fun h k => eok_fw h k fun a ha => by rw [List.mem_singleton.mp ha]; exact hBL
  refine seg_execs_cons (seg_wrap (wpAny_Assign_Name (wpAny_Constant_int (sto_loc1 (s := { s with toks := s.toks + 1 }) K.kind K.kpos hns fun s1 f1 n1 => ?_))))
  refine seg_execs_cons (seg_wrap (wpAny_Assign_Name (wpAny_Constant_bool (sto_loc1 K.kind K.kesc n1 fun s2 f2 n2 => ?_))))
  have eok2 : EOk B env [] [] s2 := hBs (hBs (eok.kp (Kp.tok (tk := s.toks + 1))) f1) f2
  have f02 : Fw [env.locals] s s2 := ((Kp.tok (s := s) (tk := s.toks + 1)).fw _ |>.trans f1).trans f2
  have dom2 : ∀ b, s2.heap.get? b = none → s.heap.get? b = none := fun b hb => by
    by_cases h : b = env.locals
    · subst h
      obtain ⟨o, es, ep, h, _⟩ := n2
      rw [hb] at h; cases h
    · cases e : s.heap.get? b with
      | none => rfl
      | some o => rw [f02.get (by simpa using h) e] at hb; cases hb
  dsimp only
  refine seg_execs_cons (sg_For (fun _ => rfl) ?_)
  rw [arm_eval_Call_Name']
  refine wpAny_bind (ev_builtin eok2 K.kenum B.enumerate ?_)
  refine PyProof.Rows.callWith_type rfl ?_
  rw [starEach_cons (by rintro _ _ ⟨⟩), backTo_cons]
  refine evalArgs_plain (spliced_cons (ld_loc K.kind K.kaddr n2 (by rw [if_neg (by decide), if_neg (by decide)]; exact ha) (by decide) (spliced_nil ?_)))
  refine call_enumerate_str fun h3 he hit hsz hk3 => ?_
  rw [hasc] at hit
  refine wpAny_pyIter_enum he fun p => ?_
  have hLs2 : ∃ o, s2.heap.get? env.locals = some o := by obtain ⟨o, es, ep, h, _⟩ := n2; exact ⟨o, h⟩
  have fr : ∀ b, s2.heap.objs.size ≤ b → s2.heap.get? b = none := fun b hb => Heap.get?_none_of_le hb
  obtain ⟨oL, hoL⟩ := hLs2
  obtain ⟨oc, hoc⟩ := hL
  have hLc2 : ∃ o, s2.heap.get? Lc = some o := ⟨oc, f02.get (by simpa using Ne.symm hLn) hoc⟩
  obtain ⟨oc2, hoc2⟩ := hLc2
  have l1 := Heap.lt_size hoL
  have l2 := Heap.lt_size hoc2
  have g : GI zg env Lc x t (s2.heap.objs.size + 1) s2.heap.objs.size 0 { s2 with heap := h3 } :=
    { ns := ⟨_, n2.keeps hk3, by rw [if_pos rfl]⟩
      en := ⟨.none, he⟩
      st := hit
      ne := ⟨Nat.succ_ne_self _, Nat.ne_of_lt (Nat.lt_succ_of_lt l1), Nat.ne_of_lt l1⟩
      old := ⟨hz, hdom _ (dom2 _ (fr _ (Nat.le_succ _))), hdom _ (dom2 _ (fr _ (Nat.le_refl _)))⟩
      lc := ⟨hLn, Ne.symm (Nat.ne_of_lt (Nat.lt_succ_of_lt l2)), Ne.symm (Nat.ne_of_lt l2)⟩ }
  have ho3 : Old zg s₀ { s2 with heap := h3 } := (ho.step f02 fun a ha => by rw [List.mem_singleton.mp ha]; exact hz).step (W := []) ((Kp.mk' (s := s2) (tk := s2.toks) hk3).fw []) fun a ha => by cases ha
  exact gen_loop K rfl hch hh p _ 0 s₀ _ (by omega) g ho3
/-- what is known of the text's generator -/
structure GFn (B : Bt) (q : Fn) : Prop where
  at_ : FnAt B (nm "_iter_escaped_chars") q
  kind : q.2.2.2.kind = .function
  co : q.2.2.2.isCoroutine = false
  gen : q.2.2.2.isGenerator = true
  cells : ∀ y ∈ q.2.2.2.names, y.2 ≠ .cell
  nofree : ∀ y ∈ q.2.2.2.names, y.2 ≠ .free
  dbg : q.2.2.2.names.lookup (nm "__debug__") = none ∧ q.2.2.2.names.lookup (nm "__classdict__") = none
  params : q.1 = [nm "addr"] ∧ q.2.1 = []
  body : ∃ ps, q.2.2.1 = genBody ps
  kpos : q.2.2.2.names.lookup (nm "pos") = some .local
  kch : q.2.2.2.names.lookup (nm "ch") = some .local
  kesc : q.2.2.2.names.lookup (nm "escape") = some .local
  kaddr : q.2.2.2.names.lookup (nm "addr") = some .local
  kenum : q.2.2.2.names.lookup (nm "enumerate") = some .globalImplicit
theorem gen_call {q : Fn} (H : GFn B q) {a : Addr} {x : Str} {t : Tok} (hroom : A.depth < recursionLimit) (hb : Bs B s) (ha : B.mg (nm "_iter_escaped_chars") = some (.ref a)) {Q : Value → Shared → Prop}
    (k : ∀ env ps m G s', GK env → EOk B env [] [] s' → (∀ b o, s.heap.get? b = some o → s'.heap.get? b = some o) → s'.os = s.os → s'.gens = s.gens.push (.fresh (.func (genBody ps) env)) → s.heap.get? env.locals = none → s.heap.get? G = none → env.locals ≠ G →
      s'.heap.Ns env.locals m → m (nm "addr") = some (.str x t) → s'.heap.IsGen G s.gens.size → Q (.ref G) s') : wpAny (model prog w) A (call (.ref a) [.str x t]) Q E s := by
  obtain ⟨a', o, fd, h1, h2, h3, h4, h5, h6, h7, h8, h9, hbind⟩ := H.at_.ex
  rw [ha] at h1; cases h1
  obtain ⟨dv, rdv, hbd⟩ := hbind s [.str x t] hb (by rw [H.params.1]; rfl)
  obtain ⟨ps, hps⟩ := H.body
  rw [H.params.1, H.params.2] at hbd
  refine wpAny_call (codeAny_call_generator hroom (hb a o h2) h3 (by rw [h5]; exact H.co) (by rw [h5]; exact H.gen) h4 (h9.keeps fun b o e => hb b o e) (hbd _ _ _ _ ?_))
  rw [h8]
  refine wpAny_newFunctionEnv (by rw [h5]; exact H.cells) (fun y hy => ?_) (fun h' hn' hs' => ⟨(B.nl.keeps fun b o e => hb b o e).fresh _ hs', ?_⟩) (by rw [h5]; exact H.kind)
  · have : y = (nm "addr", Value.str x t) := by
      have : ([nm "addr"] ++ ([] : List (Str × PyData)).map (·.1)).zip ([Value.str x t] ++ dv) = [(nm "addr", Value.str x t)] := by cases dv <;> rfl
      rw [this] at hy
      exact List.mem_singleton.mp hy
    subst this
    rw [h5]; exact H.kaddr
  · have hz : ([nm "addr"] ++ ([] : List (Str × PyData)).map (·.1)).zip ([Value.str x t] ++ dv) = [(nm "addr", Value.str x t)] := by cases dv <;> rfl
    have keep : ∀ b o, s.heap.get? b = some o → h'.get? b = some o := fun b o e => hs'.extBut b o (Nat.ne_of_lt (Heap.lt_size e)) (Heap.get?_push_of_some _ e)
    have hsz : h'.objs.size = s.heap.objs.size + 1 := by rw [hs'.1, Heap.size_push]
    have ek : ∀ y, fd.scope.names.lookup y = q.2.2.2.names.lookup y := fun y => by rw [h5]
    rw [hps]
    refine k _ ps _ h'.objs.size _ ⟨?_, ?_, ?_, ?_, ?_, ?_, ?_⟩ ⟨?_, ?_, ?_, ?_, ?_, ?_, ?_, ?_⟩ (fun b o e => Heap.get?_push_of_some _ (keep b o e)) rfl rfl (get_size _) (Heap.get?_none_of_le (by rw [hsz]; exact Nat.le_succ _)) ?_ (hn'.keeps fun b o e => Heap.get?_push_of_some _ e) ?_ ⟨_, _, _, Heap.get?_push_size _ rfl, rfl, rfl, rfl⟩
    · show fd.scope.kind = _; rw [h5]; exact H.kind
    · show fd.scope.isCoroutine = _; rw [h5]; exact H.co
    · exact (ek _).trans H.kpos
    · exact (ek _).trans H.kch
    · exact (ek _).trans H.kesc
    · exact (ek _).trans H.kaddr
    · exact (ek _).trans H.kenum
    · exact fun b o e => Heap.get?_push_of_some _ (keep b o (hb b o e))
    · exact fun a ha => by cases ha
    · show fd.scope.kind = _; rw [h5]; exact H.kind
    · exact h6
    · exact h7
    · exact ⟨(ek _).trans H.dbg.1, (ek _).trans H.dbg.2⟩
    · intro y hy
      exfalso
      have e1 : fd.scope.names.lookup y = some .cell ∨ fd.scope.names.lookup y = some .free := hy
      rw [ek] at e1
      rcases e1 with e1 | e1
      · exact H.cells _ (mem_of_lookup' e1) rfl
      · exact H.nofree _ (mem_of_lookup' e1) rfl
    · exact fun x d e => by cases e
    · show s.heap.objs.size ≠ h'.objs.size
      rw [hsz]; exact Nat.ne_of_lt (Nat.lt_succ_self _)
    · show (List.reverse _).lookup _ = _
      rw [hz]
      rfl
theorem gnext {a : Addr} {g n : Nat} {gs : GenState} {P : Nat → Shared → Shared → Prop} {Y : Protocol} {Q : Option Value → Shared → Prop} (hh : A.handled = none)
    (hl : s.heap.NoLimit) (hroom : A.depth < recursionLimit) (hg : s.heap.IsGen a g) (hgs : s.gens[g]? = some gs)
    (hgo : gs.Goes (model prog w) A.in1 (fun n s₀ r s₁ => r = .ok (.ret .none) ∧ P n s₀ s₁) Y n (.send .none) (s.setGen g .running))
    (hY : ∀ v s₁ gs', gs'.bare = true → Y (n - 1) (s.setGen g .running) v s₁ (fun r' s'' => match n with
        | 0 => False
        | m + 1 => gs'.Goes (model prog w) A.in1 (fun n s₀ r s₁ => r = .ok (.ret .none) ∧ P n s₀ s₁) Y m r' s'') → Q (some v) (s₁.setGen g gs'))
    (hP : ∀ s₁, P n (s.setGen g .running) s₁ → ∀ h', (∀ b o, s₁.heap.get? b = some o → h'.get? b = some o) → Q none { s₁.setGen g .finished with heap := h' }) :
    wpAny (model prog w) A (pyNext (.ref a)) Q E s := by
  unfold pyNext
  refine wpAny_bind (wpAny_attempt (wpAny_callSpecial?_slot (name := Str.ofString "__next__") hg.typeIs slot_gen_next
    (wpAny_call_entry slot_gen_next hg.typeIs entry_gen_next ?_ (args_gen_next _))))
  show wpAny _ A.in1 (Builtin.Generator.genWake (.ref a) (.send .none)) _ _ s
  unfold Builtin.Generator.genWake
  refine wpAny_bind (wpAny_holding (wpAny_genNumber hg (wpAny_bind (wpAny_genState hgs ?_))))
  cases gs with
  | running => exact hgo.elim
  | finished => exact hgo.elim
  | _ =>
    refine wpAny_bind (wpAny_roomToWake hl hroom ?_)
    show wpAny _ A.in1 (.resume g (.send .none) [] _) _ _ s
    refine wpAny_resumeQ hgs hgo (fun x s₁ hx => ?_) (fun v s₁ gs' hb hv => ?_)
    · obtain ⟨rfl, hp⟩ := hx
      show wpAny _ A.in1 (newExc (.type "StopIteration") [] >>= _) _ _ _
      refine wpAny_bind ?_
      simp only [newExc, newTuple]
      refine wpAny_bind (wpAny_newObj_type ?_ (by size_fits))
      refine wpAny_bind (m := firstArgMember _ _) (wpAny_of_eq (a := Value.none) (by first | rfl | (simp only [firstArgMember]; rfl)) ?_)
      refine wpAny_newObj_type ?_ (by size_fits)
      simp only [raiseNew]
      refine wpAny_bind (wpAny_bind (wpAny_handled ?_))
      first | rw [show A.in1.handled = none from hh] | rw [hh]
      refine wpAny_throw ?_
      refine wpAny_bind (wpAny_isInstance (T := "StopIteration") (b := true) ⟨_, Heap.get?_push_size _ rfl, rfl⟩ isSubtype_stop ?_)
      exact wpAny_pure (hP s₁ hp _ fun b o hb => Heap.get?_push_of_some _ (Heap.get?_push_of_some _ hb))
    · exact wpAny_pure ⟨v, rfl, wpAny_pure (hY v s₁ gs' hb hv)⟩
end
end Mine
/-! part 37 -/
set_option maxRecDepth 100000
namespace Mine
open PySem PySem.Calls PyProof.Rows PySem.W
structure CPos where
  (a1 a2 a3 a4 a5 b1 b2 b3 c1 c2 c3 c4 c5 c6 c7 d1 d2 d3 d4 d5 d6 e1 e2 e3 e4 f1 f2 f3 g1 g2 g3 g4 g5 h1 h2 h3 h4 h5 : Pos)
  (k1 k2 k3 k4 k5 k6 k7 k8 k9 : Nat)
  (c0 : Pos)
noncomputable def chkTgt (p : CPos) : Expr := .Tuple [.Name (nm "pos") p.c1, .Name (nm "ch") p.c2] p.k2 p.c3
noncomputable def chkTurn (p : CPos) : List Stmt :=
  [ .If (.Compare (.Name (nm "ch") p.d1) [.Eq] [.Constant (.str (nm "(")) p.k3 p.d2] p.d3) [ .AugAssign (.Name (nm "opens") p.d4) .Add (.Constant (.int 1) p.k4 p.d5) p.d6 ]
    [ .If (.Compare (.Name (nm "ch") p.e1) [.Eq] [.Constant (.str (nm ")")) p.k5 p.e2] p.e3)
      [ .AugAssign (.Name (nm "opens") p.f1) .Sub (.Constant (.int 1) p.k6 p.f2) p.f3,
        .If (.Compare (.Name (nm "opens") p.g1) [.Lt] [.Constant (.int 0) p.k7 p.g2] p.g3) [ .Return (some (.Constant (.bool false) p.k8 p.g4)) p.g5 ] [] p.h1 ] [] p.e4 ] p.h2 ]
noncomputable def chkBody (p : CPos) : List Stmt :=
  .Assign [.Name (nm "addr") p.a1] (.Call (.Name (nm "_strip_quoted_realnames") p.a2) [.Name (nm "addr") p.a3] [] p.a4) p.a5 ::
  .Assign [.Name (nm "opens") p.b1] (.Constant (.int 0) p.k1 p.b2) p.b3 ::
  .For (chkTgt p) (.Call (.Name (nm "_iter_escaped_chars") p.c4) [.Name (nm "addr") p.c5] [] p.c6) (chkTurn p) [] p.c7 ::
  .Return (some (.Compare (.Name (nm "opens") p.h3) [.Eq] [.Constant (.int 0) p.k9 p.h4] p.h5)) p.c0 :: []
noncomputable def bal : List Nat → Int → Bool
  | [], n => n == 0
  | c :: r, n => if c = 40 then bal r (n + 1) else if c = 41 then (if n - 1 < 0 then false else bal r (n - 1)) else bal r n
section
variable {prog : Program} {w : World} {A : Around} {B : Bt} {s₀ s zg z : Shared} {env : Env} {E : Value → Shared → Prop}
structure CK (env : Env) : Prop where
  kind : env.scope.kind = .function
  kpos : env.kindOf (nm "pos") = some .local
  kch : env.kindOf (nm "ch") = some .local
  kop : env.kindOf (nm "opens") = some .local
  kaddr : env.kindOf (nm "addr") = some .local
structure CI (prog : Program) (w : World) (A : Around) (B : Bt) (z zg : Shared) (env : Env) (G : Addr) (g : Nat) (x : Str) (i : Nat) (n : Int) (s : Shared) : Prop where
  ns : ∃ m t, s.heap.Ns env.locals m ∧ m (nm "opens") = some (.int n t)
  gen : s.heap.IsGen G g
  gs : ∃ gs, s.gens[g]? = some gs ∧ ∀ s'' : Shared, (∀ b o, b ≠ env.locals → s.heap.get? b = some o → s''.heap.get? b = some o) → (∃ o, s''.heap.get? env.locals = some o) → gs.Goes (model prog w) A.in1 (gR zg) (gY x x.cps.size zg env.locals) (x.cps.size - i) (.send .none) s''
  kp : Kp z s
structure CStat (B : Bt) (z zg : Shared) (env : Env) (G : Addr) (g : Nat) : Prop where
  zz : ∀ b o, z.heap.get? b = some o → ∃ o', zg.heap.get? b = some o'
  zL : ∃ o, zg.heap.get? env.locals = some o
  zG : ∃ o, zg.heap.get? G = some o
  zg_ : z.gens.size ≤ g
  L0 : z.heap.get? env.locals = none
  base : Bs B z
  GL : G ≠ env.locals
theorem setGen_bare {gs : GenState} {g : Nat} (h : AllBare s.gens) (hb : gs.bare = true) : AllBare (s.setGen g gs).gens := by
  intro y hy
  obtain ⟨k, hk, rfl⟩ := Array.getElem_of_mem hy
  by_cases hg : k = g
  · subst hg
    have : (s.setGen k gs).gens[k] = gs := by simp [Shared.setGen]
    rw [this]; exact hb
  · have h1 : (s.setGen g gs).gens[k]? = some ((s.setGen g gs).gens[k]) := Array.getElem?_eq_getElem hk
    rw [(GenOnly.setGen s g gs).2 k hg] at h1
    exact h _ (Array.mem_of_getElem? h1)
theorem setGen_ne {gs : GenState} {g k : Nat} {y : GenState} (h : k ≠ g) (e : s.gens[k]? = some y) : (s.setGen g gs).gens[k]? = some y := by
  rw [(GenOnly.setGen s g gs).2 k h]; exact e
/-- a run of the generator, seen from its user -/
theorem ran {G : Addr} {g : Nat} {s₁ : Shared} {gs' : GenState} {h' : Heap} (S : CStat B z zg env G g) (kp : Kp z s) (ho : Old zg (s.setGen g .running) s₁) (hb : gs'.bare = true) (hk : ∀ b o, s₁.heap.get? b = some o → h'.get? b = some o) :
    Kp z { s₁.setGen g gs' with heap := h' } ∧ ∀ b o, (∃ o', zg.heap.get? b = some o') → s.heap.get? b = some o → h'.get? b = some o := by
  obtain ⟨W, fw, hW⟩ := ho
  have keep : ∀ b o, (∃ o', zg.heap.get? b = some o') → s.heap.get? b = some o → h'.get? b = some o := fun b o hz e => hk b o (fw.get (fun m => by
    obtain ⟨o', hz⟩ := hz
    rw [hW b m] at hz; cases hz) e)
  refine ⟨⟨fun {b o} e => keep b o (S.zz b o e) (kp.get e), fw.os.trans kp.os, fun h => setGen_bare (fw.bare (setGen_bare (kp.bare h) rfl)) hb, fun {k y} e => ?_⟩, keep⟩
  have hk : k < z.gens.size := by
    rcases Nat.lt_or_ge k z.gens.size with h | h
    · exact h
    · rw [Array.getElem?_eq_none h] at e; cases e
  have hne : k ≠ g := fun q => by have := S.zg_; omega
  exact setGen_ne hne (fw.gen (setGen_ne hne (kp.gen e)))
theorem CI.next {G : Addr} {g : Nat} {x : Str} {i : Nat} {n : Int} (S : CStat B z zg env G g) (c : CI prog w A B z zg env G g x i n s) (hh : A.handled = none) (hroom : A.depth < recursionLimit) {Q : Option Value → Shared → Prop}
    (hI : i < x.cps.size → ∀ T ch tt u k s', x.cps[i]? = some ch → s'.heap.get? T = some (tObj [.int (i : Int) tt, .str ⟨#[ch]⟩ u] k) → CI prog w A B z zg env G g x (i + 1) n s' → Q (some (.ref T)) s')
    (hE : x.cps.size ≤ i → ∀ s', Kp z s' → (∃ m t, s'.heap.Ns env.locals m ∧ m (nm "opens") = some (.int n t)) → Q none s') : wpAny (model prog w) A (pyNext (.ref G)) Q E s := by
  obtain ⟨gs, hgs, hgo⟩ := c.gs
  have nl : s.heap.NoLimit := B.nl.keeps fun b o e => c.kp.get (S.base b o e)
  obtain ⟨m, t, hm, hm2⟩ := c.ns
  have hgo' := hgo (s.setGen g .running) (fun b o _ e => e) (by obtain ⟨o, es, ep, h, _⟩ := hm; exact ⟨o, h⟩)
  refine gnext (P := fun n s₀ s₁ => n = 0 ∧ Old zg s₀ s₁) (n := x.cps.size - i) hh nl hroom c.gen hgs hgo' (fun v s₁ gs' hb hY => ?_) fun s₁ hP h' hk => ?_
  · obtain ⟨⟨T, i', ch, u, tt, k, hi, rfl, hT, hx⟩, ho, hkap⟩ := hY
    by_cases hlt : i < x.cps.size
    · have hi' : i' = i := by omega
      subst hi'
      obtain ⟨kp, keep⟩ := ran S c.kp ho hb (h' := s₁.heap) fun b o e => e
      refine hI hlt T ch tt u k _ hx hT ⟨⟨m, t, hm.at' fun o e => keep _ o S.zL e, hm2⟩, (let ⟨o, a, b, h, r⟩ := c.gen; ⟨o, a, b, keep _ _ S.zG h, r⟩), ⟨gs', ?_, fun s'' hs'' _ => ?_⟩, kp⟩
      · obtain ⟨W, fw, _⟩ := ho
        exact setGen_self (gs := .running) (fw.gen (setGen_self hgs))
      · have hmm : x.cps.size - i' = (x.cps.size - (i' + 1)) + 1 := by omega
        rw [hmm] at hkap
        exact hkap s'' hs''
    · have h0 : x.cps.size - i = 0 := by omega
      rw [h0] at hkap
      exact (hkap s₁ fun b o _ e => e).elim
  · obtain ⟨hn, ho⟩ := hP
    obtain ⟨kp, keep⟩ := ran S c.kp ho (gs' := .finished) rfl hk
    exact hE (by omega) _ kp ⟨m, t, hm.at' fun o e => keep _ o S.zL e, hm2⟩
end
end Mine
/-! part 38 -/
set_option maxRecDepth 100000
namespace Mine
open PySem PySem.Calls PyProof.Rows PySem.W
section
variable {prog : Program} {w : World} {A : Around} {B : Bt} {s₀ s zg z : Shared} {env : Env} {E : Value → Shared → Prop}
theorem CI.move {G : Addr} {g : Nat} {x : Str} {i : Nat} {n n' : Int} {s' : Shared} {t : Tok} {m : Str → Option Value} (S : CStat B z zg env G g) (c : CI prog w A B z zg env G g x i n s) (k : Fw [env.locals] s s') (hg : s'.gens = s.gens) (hm : s'.heap.Ns env.locals m) (ho : m (nm "opens") = some (.int n' t)) :
    CI prog w A B z zg env G g x i n' s' where
  ns := ⟨m, t, hm, ho⟩
  gen := by
    obtain ⟨o, a, b, h, r⟩ := c.gen
    exact ⟨o, a, b, k.get (by simpa using S.GL) h, r⟩
  gs := by
    obtain ⟨gs, h1, h2⟩ := c.gs
    exact ⟨gs, by rw [hg]; exact h1, fun s'' h hl => h2 s'' (fun b o hb e => h b o hb (k.get (by simpa using hb) e)) hl⟩
  kp := fw_kp c.kp k S.L0
/-- a store of a local, with all that is no heap as it was -/
theorem sto_g {M : Model} {x : Str} {v : Value} {m : Str → Option Value} (hk : env.scope.kind = .function) (hx : env.kindOf x = some .local) (hm : s.heap.Ns env.locals m) {Q : Unit → Shared → Prop}
    (q : ∀ s', Fw [env.locals] s s' → s'.gens = s.gens → s'.heap.Ns env.locals (fun z => if z = x then some v else m z) → Q () s') : wpAny M A (storeName env x v) Q E s := by
  have hp : (env.scope.kind == .class || (env.scope.kind == .module && env.locals != env.globals)) = false := by rw [hk]; rfl
  exact wpAny_storeName_local hx hm (fun h1 hn1 hs1 => q _ (sameBut_fw hs1) rfl hn1) hp
theorem two_g {M : Model} {x y : Str} {m : Str → Option Value} (hx : env.kindOf x = some .local) (hy : env.kindOf y = some .local) (hk : env.scope.kind = .function) (hm : s.heap.Ns env.locals m) (p q' : Pos) {v u : Value} {Q : Unit → Shared → Prop}
    (q : ∀ s', Fw [env.locals] s s' → s'.gens = s.gens → s'.heap.Ns env.locals (fun z => if z = y then some u else if z = x then some v else m z) → Q () s') : wpAny M A (assignInOrder [assign (.Name x p) env, assign (.Name y q') env] [v, u]) Q E s := by
  show wpAny _ A (do holding [u] (assign (.Name x p) env v); do holding [] (assign (.Name y q') env u); pure ()) _ _ _
  refine wpAny_bind (wpAny_holding (PyProof.Rows.assign_Name (sto_g hk hx hm fun s1 f1 g1 n1 => ?_)))
  refine wpAny_bind (wpAny_holding (PyProof.Rows.assign_Name (sto_g hk hy n1 fun s2 f2 g2 n2 => wpAny_pure ?_)))
  exact q s2 (f1.trans f2) (g2.trans g1) n2
theorem eq_one {c d : Nat} : ((⟨#[c]⟩ : Str) == ⟨#[d]⟩) = decide (c = d) := by
  by_cases h : c = d
  · subst h; simp
  · rw [decide_eq_false h, beq_eq_false_iff_ne]
    intro q
    injection q with q
    have hq : [c] = [d] := congrArg Array.toList q
    injection hq with hq
    exact h hq
theorem chk_loop {x : Str} {ps : CPos} {b : Bool} (K : CK env) (hh : A.handled = none) (hroom : A.depth < recursionLimit) (hbal : bal x.cps.toList 0 = b) {Q : Flow → Shared → Prop}
    (q : ∀ s', Kp z s' → Q (.ret (.bool b)) s') (hs : ∀ v, foldedSetIterable (.Call (.Name (nm "_iter_escaped_chars") ps.c4) [.Name (nm "addr") ps.c5] [] ps.c6) env v = pure v)
    (hev : ∀ (Q E : Value → Shared → Prop), (∀ G g s zg, CStat B z zg env G g → CI prog w A B z zg env G g x 0 0 s → Q (.ref G) s) → wpAny (model prog w) A (eval (.Call (.Name (nm "_iter_escaped_chars") ps.c4) [.Name (nm "addr") ps.c5] [] ps.c6) env) Q E s₀) :
    wpAny (model prog w) A (execs (.For (chkTgt ps) (.Call (.Name (nm "_iter_escaped_chars") ps.c4) [.Name (nm "addr") ps.c5] [] ps.c6) (chkTurn ps) [] ps.c7 :: .Return (some (.Compare (.Name (nm "opens") ps.h3) [.Eq] [.Constant (.int 0) ps.k9 ps.h4] ps.h5)) ps.c0 :: []) env) Q E s₀ := by
  refine wpAny_execs_cons (wpAny_For (hev _ _ fun G g s zg S c0 => wpAny_pyIter_gen c0.gen ?_) hs)
  refine codeAny_forLoop_any (fun k s1 => ∃ i n, CI prog w A B z zg env G g x i n s1 ∧ bal (x.cps.toList.drop i) n = b ∧ k = x.cps.size - i) (fun k s1 hI => ?_) x.cps.size ⟨0, 0, c0, by simpa using hbal, rfl⟩
  obtain ⟨i, n, c, hb, rfl⟩ := hI
  refine c.next S hh hroom (fun hlt T ch tt u kk s2 hx hT c2 => ?_) fun hge s2 kp2 hns => ?_
  · dsimp only
    obtain ⟨oG, nmG, qnG, hoG, hcG, hdG, hslG⟩ := c2.gen
    refine letgo_plain hoG hcG hdG rfl ?_
    refine wpAny_assign_Tuple hh (items := #[.int (i : Int) tt, .str ⟨#[ch]⟩ u]) ⟨_, hT, rfl, _, rfl⟩ rfl rfl fun h3 he3 => ?_
    have kx : Kp s2 { s2 with heap := h3, toks := s2.toks } := ext_new he3
    obtain ⟨m, t, hm, hm2⟩ := c2.ns
    refine two_g K.kpos K.kch K.kind (hm.keeps fun b o e => kx.get e) ps.c1 ps.c2 fun s4 f4 g4 n4 => ?_
    have f24 : Fw [env.locals] s2 s4 := (kx.fw _).trans f4
    have c4 : CI prog w A B z zg env G g x (i + 1) n s4 := c2.move S f24 g4 n4 (by rw [if_neg (by decide), if_neg (by decide)]; exact hm2)
    have hd : x.cps.toList.drop i = ch :: x.cps.toList.drop (i + 1) := by
      have hl : i < x.cps.toList.length := by simpa using hlt
      rw [List.drop_eq_getElem_cons hl]
      congr 1
      have : x.cps[i]? = some x.cps[i] := Array.getElem?_eq_getElem hlt
      rw [this] at hx
      simpa using (Option.some.inj hx)
    rw [hd] at hb
    simp only [bal] at hb
    have hch4 : (fun z => if z = nm "ch" then some (Value.str ⟨#[ch]⟩ u) else if z = nm "pos" then some (Value.int (i : Int) tt) else m z) (nm "ch") = some (.str ⟨#[ch]⟩ u) := by simp
    have hop4 : (fun z => if z = nm "ch" then some (Value.str ⟨#[ch]⟩ u) else if z = nm "pos" then some (Value.int (i : Int) tt) else m z) (nm "opens") = some (.int n t) := by
      simp only []
      rw [if_neg (by decide), if_neg (by decide)]; exact hm2
    generalize (fun z => if z = nm "ch" then some (Value.str ⟨#[ch]⟩ u) else if z = nm "pos" then some (Value.int (i : Int) tt) else m z) = m4 at n4 hch4 hop4
    have h40 : nm "(" = ⟨#[40]⟩ := rfl
    have h41 : nm ")" = ⟨#[41]⟩ := rfl
    have tok : ∀ {s : Shared} {tk : Nat}, Fw [env.locals] s { s with toks := tk } := fun {s tk} => (Kp.tok).fw _
    refine wpAny_execs_cons (wpAny_If (wpAny_isTrue_Compare1 (ld_loc K.kind K.kch n4 hch4 (by decide) (wpAny_Constant_str (PyProof.Rows.eq_str (wpAny_truthy_bool ?_)))) rfl))
    rw [h40, eq_one]
    by_cases h1 : ch = 40
    · rw [decide_eq_true h1, if_pos rfl]
      rw [if_pos h1] at hb
      refine wpAny_execs_cons (wpAny_AugAssign_Name (wpAny_loadName_local K.kind K.kop (s := { s4 with toks := s4.toks + 1 }) n4 hop4 (wpAny_Constant_int (PyProof.Rows.iadd_int (sto_g K.kind K.kop (s := { s4 with toks := s4.toks + 1 + 1 + 1 }) n4 fun s5 f5 g5 n5 => ?_)))))
      refine wpAny_execs_nil (wpAny_execs_nil ⟨_, ?_, i + 1, n + 1, c4.move S (tok.trans f5) g5 n5 (by rw [if_pos rfl]), hb, rfl⟩)
      omega
    · rw [decide_eq_false h1, if_neg Bool.false_ne_true]
      rw [if_neg h1] at hb
      refine wpAny_execs_cons (wpAny_If (wpAny_isTrue_Compare1 (ld_loc K.kind K.kch (s := { s4 with toks := s4.toks + 1 }) n4 hch4 (by decide) (wpAny_Constant_str (PyProof.Rows.eq_str (wpAny_truthy_bool ?_)))) rfl))
      rw [h41, eq_one]
      by_cases h2 : ch = 41
      · rw [decide_eq_true h2, if_pos rfl]
        rw [if_pos h2] at hb
        refine wpAny_execs_cons (wpAny_AugAssign_Name (wpAny_loadName_local K.kind K.kop (s := { s4 with toks := s4.toks + 1 + 1 }) n4 hop4 (wpAny_Constant_int (PyProof.Rows.isub_int (sto_g K.kind K.kop (s := { s4 with toks := s4.toks + 1 + 1 + 1 + 1 }) n4 fun s5 f5 g5 n5 => ?_)))))
        have c5 : CI prog w A B z zg env G g x (i + 1) (n - 1) s5 := c4.move S (tok.trans f5) g5 n5 (by rw [if_pos rfl])
        refine wpAny_execs_cons (wpAny_If (wpAny_isTrue_Compare1 (ld_loc K.kind K.kop n5 (by rw [if_pos rfl]) (by decide) (wpAny_Constant_int (PyProof.Rows.lt_int (wpAny_truthy_bool ?_)))) rfl))
        by_cases h3 : n - 1 < 0
        · rw [decide_eq_true h3, if_pos rfl]
          rw [if_pos h3] at hb
          subst hb
          exact wpAny_execs_cons (wpAny_Return_some (wpAny_Constant_bool (q _ (c5.kp.trans Kp.tok))))
        · rw [decide_eq_false h3, if_neg Bool.false_ne_true]
          rw [if_neg h3] at hb
          refine wpAny_execs_nil (wpAny_execs_nil (wpAny_execs_nil (wpAny_execs_nil ⟨_, ?_, i + 1, n - 1, c5.move S tok rfl n5 (by rw [if_pos rfl]), hb, rfl⟩)))
          omega
      · rw [decide_eq_false h2, if_neg Bool.false_ne_true]
        rw [if_neg h2] at hb
        refine wpAny_execs_nil (wpAny_execs_nil (wpAny_execs_nil ⟨_, ?_, i + 1, n, c4.move S tok rfl n4 hop4, hb, rfl⟩))
        omega
  · dsimp only
    obtain ⟨m, t, hm, hm2⟩ := hns
    have hd : x.cps.toList.drop i = [] := by simp; omega
    rw [hd] at hb
    simp only [bal] at hb
    subst hb
    refine wpAny_execs_nil (wpAny_execs_cons (wpAny_Return_some (wpAny_Compare1 (ld_loc K.kind K.kop hm hm2 (by decide) (wpAny_Constant_int (PyProof.Rows.eq_int ?_))))))
    exact q _ (kp2.trans Kp.tok)
structure SPos where
  (a1 a2 a3 a4 a5 a6 : Pos)
  (k1 : Nat)
  (rest : List Stmt)
noncomputable def stripBody (p : SPos) : List Stmt :=
  .If (.Compare (.Constant (.str (nm "\"")) p.k1 p.a1) [.NotIn] [.Name (nm "addr") p.a2] p.a3) [.Return (some (.Name (nm "addr") p.a4)) p.a5] [] p.a6 :: p.rest
structure SFn (B : Bt) (q : Fn) : Prop where
  at_ : FnAt B (nm "_strip_quoted_realnames") q
  ok : okFn q = true
  params : q.1 = [nm "addr"] ∧ q.2.1 = []
  body : ∃ ps, q.2.2.1 = stripBody ps
theorem strip_call {q : Fn} (H : SFn B q) {a : Addr} {x : Str} {t : Tok} (hroom : A.depth < recursionLimit) (hb : Bs B s) (ha : B.mg (nm "_strip_quoted_realnames") = some (.ref a)) (hx : (Builtin.Str.occurrences x (nm "\"") 0 x.length 1).isEmpty = true) {Q : Value → Shared → Prop}
    (k : ∀ s', Kp s s' → Q (.str x t) s') : wpAny (model prog w) A (call (.ref a) [.str x t]) Q E s := by
  refine enter (hid := []) hroom H.at_ H.ok hb (fun a ha => by cases ha) (by rw [H.params.1]; rfl) ha fun env s1 dv kp e1 e2 e3 F rdv hn => ?_
  obtain ⟨ps, hps⟩ := H.body
  rw [hps]
  have ha1 : NmAt env (nm "addr") (.str x t) s1 := hn _ _ (by rw [H.params.1, H.params.2]; rfl)
  have kt : Kp s1 { s1 with toks := s1.toks + 1 } := Kp.tok
  refine wpAny_execs_cons (wpAny_If (wpAny_isTrue_Compare1 (wpAny_Constant_str (wpAny_Name (load_nm (F.keeps kt).eall (ha1.kp kt) (PySem.P.notIn_str (wpAny_truthy_bool ?_))) (ha1.dbg F.eall))) rfl))
  rw [hx]
  rw [if_pos (show (!!true) = true from rfl)]
  exact wpAny_execs_cons (wpAny_Return_some (wpAny_Name (load_nm (F.keeps kt).eall (ha1.kp kt) (k _ (kp.trans kt))) (ha1.dbg F.eall)))
end
end Mine
/-! part 39 -/
set_option maxRecDepth 100000
namespace Mine
open PySem PySem.Calls PyProof.Rows PySem.W
structure CFn (B : Bt) (q : Fn) : Prop where
  at_ : FnAt B (nm "_check_parenthesis") q
  ok : okFn q = true
  params : q.1 = [nm "addr"] ∧ q.2.1 = []
  body : ∃ ps, q.2.2.1 = chkBody ps
  kpos : q.2.2.2.names.lookup (nm "pos") = some .local
  kch : q.2.2.2.names.lookup (nm "ch") = some .local
  kop : q.2.2.2.names.lookup (nm "opens") = some .local
  kaddr : q.2.2.2.names.lookup (nm "addr") = some .local
  kstrip : q.2.2.2.names.lookup (nm "_strip_quoted_realnames") = some .globalImplicit
  kiter : q.2.2.2.names.lookup (nm "_iter_escaped_chars") = some .globalImplicit
noncomputable def plainTxt (x : Str) : Bool := (Builtin.Str.occurrences x (nm "\"") 0 x.length 1).isEmpty && (strIterType x == "str_ascii_iterator") && x.cps.toList.all fun c => c != 92
section
variable {prog : Program} {w : World} {A : Around} {B : Bt} {s₀ s zg z : Shared} {env : Env} {E : Value → Shared → Prop}
theorem call_fn1 (eok : EOk B env [] [] s) {f : Str} {p p2 p3 : Pos} {y : Str} {v : Value} {q : Fn} {a : Addr} (hq : FnAt B f q) (ha : B.mg f = some (.ref a)) (g : env.kindOf f = some .globalImplicit) (ny : NmAt env y v s) {Q : Value → Shared → Prop}
    (h : wpAny (model prog w) A (call (.ref a) [v]) Q E s) : wpAny (model prog w) A (eval (.Call (.Name f p) [.Name y p2] [] p3) env) Q E s := by
  obtain ⟨a', o, fd, h1, h2, h3, _⟩ := hq.ex
  rw [ha] at h1; cases h1
  rw [arm_eval_Call_Name']
  refine wpAny_bind (ev_global eok g ha ?_)
  rw [starEach_cons (by rintro _ _ ⟨⟩), backTo_cons]
  exact Calls.callWith_function (evalArgs_plain (spliced_cons (wpAny_Name (load_nm eok ny (spliced_nil ⟨⟨eok.base _ _ h2, h3⟩, h⟩)) (ny.dbg eok))))
theorem chk_call {qc qg qs : Fn} (HC : CFn B qc) (HG : GFn B qg) (HS : SFn B qs) {ac ag as_ : Addr} (hac : B.mg (nm "_check_parenthesis") = some (.ref ac)) (hag : B.mg (nm "_iter_escaped_chars") = some (.ref ag)) (has : B.mg (nm "_strip_quoted_realnames") = some (.ref as_))
    {x : Str} {t : Tok} {b : Bool} (hp : plainTxt x = true) (hbal : bal x.cps.toList 0 = b) (hm : Rm A 8) (hb : Bs B s) {Q : Value → Shared → Prop} (k : ∀ s', Kp s s' → Q (.bool b) s') : wpAny (model prog w) A (call (.ref ac) [.str x t]) Q E s := by
  simp only [plainTxt, Bool.and_eq_true, beq_iff_eq] at hp
  obtain ⟨⟨hp1, hp2⟩, hp3⟩ := hp
  have hd := hm.dp
  have hch : ∀ (i c : Nat), x.cps[i]? = some c → c ≠ 92 := fun i c e => by
    have := List.all_eq_true.mp hp3 c (by rw [Array.mem_toList_iff]; exact Array.mem_of_getElem? e)
    simpa using this
  refine enter (hid := []) (by omega) HC.at_ HC.ok hb (fun a ha => by cases ha) (by rw [HC.params.1]; rfl) hac fun env s1 dv kp e1 e2 e3 F rdv hn => ?_
  obtain ⟨ps, hps⟩ := HC.body
  rw [hps]
  have ek : ∀ y, env.kindOf y = qc.2.2.2.names.lookup y := fun y => by show env.scope.names.lookup y = _; rw [e1]
  have K : CK env := ⟨F.kind, by rw [ek]; exact HC.kpos, by rw [ek]; exact HC.kch, by rw [ek]; exact HC.kop, by rw [ek]; exact HC.kaddr⟩
  have ha1 : NmAt env (nm "addr") (.str x t) s1 := hn _ _ (by rw [HC.params.1, HC.params.2]; rfl)
  have hhd : (A.deeper env).handled = none := hm.hd
  have hroom2 : (A.deeper env).depth < recursionLimit := by show A.depth + 1 < _; omega
  show wpAny _ _ (execs (_ :: _) env) _ _ _
  have bL : ∀ a ∈ [env.locals], B.h.get? a = none := fun a ha => by rw [List.mem_singleton.mp ha]; exact F.new0 e3
  refine wpAny_execs_cons (wpAny_Assign_Name (call_fn1 F.eall HS.at_ has (by rw [ek]; exact HC.kstrip) ha1 (strip_call HS hroom2 F.base has hp1 fun s2 k2 => ?_)))
  obtain ⟨m1, hm1⟩ := F.ns
  have eok2 : EOk B env [] [] s2 := F.eall.kp k2
  refine sto_g K.kind K.kaddr (hm1.keeps fun b o e => k2.get e) fun s3 f3 g3 n3 => ?_
  have eok3 := eok_fw eok2 f3 bL
  refine wpAny_execs_cons (wpAny_Assign_Name (wpAny_Constant_int (sto_g (s := { s3 with toks := s3.toks + 1 }) K.kind K.kop n3 fun s4 f4 g4 n4 => ?_)))
  have f34 : Fw [env.locals] s3 s4 := ((Kp.tok (s := s3) (tk := s3.toks + 1)).fw _).trans f4
  have eok4 := eok_fw eok3 f34 bL
  have k04 : Kp s s4 := fw_kp (fw_kp (kp.trans k2) f3 e3) f34 e3
  have hL4 : s4.heap.Ns env.locals _ := n4
  have ha4 : NmAt env (nm "addr") (.str x t) s4 := .inl ⟨K.kaddr, _, n4, by show (if nm "addr" = nm "opens" then _ else if nm "addr" = nm "addr" then _ else _) = _; rw [if_neg (by decide), if_pos rfl]⟩
  -- the generator is made
  have key : ∀ (Q E : Value → Shared → Prop), (∀ G g s5 zg, CStat B s zg env G g → CI prog w (A.deeper env) B s zg env G g x 0 0 s5 → Q (.ref G) s5) → wpAny (model prog w) (A.deeper env) (eval (.Call (.Name (nm "_iter_escaped_chars") ps.c4) [.Name (nm "addr") ps.c5] [] ps.c6) env) Q E s4 := fun Q E q => by
    refine call_fn1 eok4 HG.at_ hag (by rw [ek]; exact HC.kiter) ha4 (gen_call HG hroom2 eok4.base hag fun genv gps mg G s5 GKg eokg keep hos hgens hC0 hG0 hCG hnC haC hIG => ?_)
    have hLs4 : ∃ o, s4.heap.get? env.locals = some o := by obtain ⟨o, es, ep, h, _⟩ := n4; exact ⟨o, h⟩
    obtain ⟨oL, hoL⟩ := hLs4
    have hCL : genv.locals ≠ env.locals := fun q => by rw [q, hoL] at hC0; cases hC0
    have hGL : G ≠ env.locals := fun q => by rw [q, hoL] at hG0; cases hG0
    have live5 : ∀ b o, s4.heap.get? b = some o → b ≠ genv.locals := fun b o e q => by rw [q, hC0] at e; cases e
    have hz : ∀ b o, b ≠ genv.locals → s5.heap.get? b = some o → (hideS genv.locals s5).heap.get? b = some o := fun b o hb e => hideS_get hb e
    have hGo : ∃ o, s5.heap.get? G = some o := by obtain ⟨o, _, _, h, _⟩ := hIG; exact ⟨o, h⟩
    obtain ⟨oG, hoG⟩ := hGo
    have hBC : B.h.get? genv.locals = none := by
      cases e : B.h.get? genv.locals with
      | none => rfl
      | some o => have := eok4.base _ _ e; rw [hC0] at this; cases this
    have hgs : s5.gens[s4.gens.size]? = some (.fresh (.func (genBody gps) genv)) := by rw [hgens]; simp
    have hszg : s.gens.size ≤ s4.gens.size := by
      rcases Nat.lt_or_ge s4.gens.size s.gens.size with h | h
      · have h2 : s.gens[s4.gens.size]? = some s.gens[s4.gens.size] := Array.getElem?_eq_getElem h
        have h3 := k04.gen h2
        rw [Array.getElem?_eq_none (Nat.le_refl _)] at h3; cases h3
      · exact h
    refine q G s4.gens.size s5 (hideS genv.locals s5)
      { zz := fun b o e => ⟨o, hz b o (live5 b o (k04.get e)) (keep b o (k04.get e))⟩
        zL := ⟨oL, hz _ _ (Ne.symm hCL) (keep _ _ hoL)⟩
        zG := ⟨oG, hz _ _ (Ne.symm hCG) hoG⟩
        zg_ := hszg
        L0 := e3
        base := hb
        GL := hGL }
      { ns := ⟨_, _, n4.keeps keep, by rw [if_pos rfl]⟩
        gen := hIG
        gs := ⟨_, hgs, fun s'' hs'' hLl => ⟨rfl, ?_⟩⟩
        kp := ⟨fun {b o} e => keep b o (k04.get e), hos.trans k04.os, fun h => by rw [hgens]; exact (k04.bare h).push rfl, fun {k y} e => by
          rw [hgens]
          have := k04.gen e
          have hk : k < s4.gens.size := by
            rcases Nat.lt_or_ge k s4.gens.size with h | h
            · exact h
            · rw [Array.getElem?_eq_none h] at this; cases this
          rw [Array.getElem?_push_lt hk, ← Array.getElem?_eq_getElem hk]; exact this⟩ }
    -- the first waking
    have hnC'' : s''.heap.Ns genv.locals mg := hnC.at' fun o e => hs'' _ o hCL e
    have eok'' : EOk B genv [] [] s'' := ⟨fun b o e => hs'' b o (fun q => by
      have := F.new0 e3
      rw [q, this] at e; cases e) (eokg.base b o e), fun a ha => (by cases ha), eokg.kind, eokg.gl, eokg.bl, eokg.nodbg, eokg.cells, fun x d e => (by cases e)⟩
    have dom5 : ∀ b, s5.heap.get? b = none → (hideS genv.locals s5).heap.get? b = none := fun b e => none_kp (hideS_kp genv.locals s5) e
    exact gen_start GKg hp2 hch (A := (A.deeper env).in1) hm.hd eok'' hnC'' haC (fun b e => by
      by_cases hbL : b = env.locals
      · obtain ⟨o, h⟩ := hLl
        rw [hbL, h] at e; cases e
      · refine dom5 b ?_
        cases e5 : s5.heap.get? b with
        | none => rfl
        | some o => rw [hs'' b o hbL e5] at e; cases e) (hideS_none _ _) hLl hCL hBC (Old.refl _ _)
  exact chk_loop K hhd hroom2 hbal (fun s' kp' => k s' kp') (fun _ => rfl) key
theorem chk_prim {qc qg qs : Fn} (HC : CFn B qc) (HG : GFn B qg) (HS : SFn B qs) {ac ag as_ : Addr} (hac : B.mg (nm "_check_parenthesis") = some (.ref ac)) (hag : B.mg (nm "_iter_escaped_chars") = some (.ref ag)) (has : B.mg (nm "_strip_quoted_realnames") = some (.ref as_))
    {x : Str} (hp : plainTxt x = true) : PrimOk prog w B (nm "_check_parenthesis") [.str x] (.bool (bal x.cps.toList 0)) where
  fn := by
    obtain ⟨a, o, fd, h1, h2, h3, _⟩ := HC.at_.ex
    exact ⟨a, o, fd, h1, h2, h3⟩
  call := fun {A hid s a vs} hm hb hh hr ha Q E q => by
    rw [hac] at ha; cases ha
    simp only [RdL] at hr
    obtain ⟨v, r, rfl, h1, rfl⟩ := hr
    obtain ⟨t, rfl⟩ := rd_str h1
    exact chk_call HC HG HS hac hag has hp rfl hm hb fun s' k => q _ s' k (by simp [Rd])
end
end Mine
/-! part 40 -/
set_option maxRecDepth 1000000
set_option maxHeartbeats 4000000
namespace Mine
open PySem PySem.Calls PyProof.Rows PySem.W
noncomputable def prog0 : List Stmt := PySem.Challenge.pw_wj0021_01.main.body
noncomputable def fnOf0 (f : Str) : Option Fn := prog0.findSome? fun st => match st with
  | .FunctionDef n ps b _ _ _ sc _ _ _ =>
    if n == f then
      match f == nm "bisect_right" || f == nm "bisect_left" with
      | true => some ([nm "a", nm "x"], [(nm "lo", .int 0), (nm "hi", .none), (nm "key", .none)], b, sc)
      | false => some (ps.args.map (·.arg), [], b, sc)
    else none
  | _ => none
noncomputable def q0 : Fn := ([], [], [], { kind := .function, names := [], isGenerator := false, isCoroutine := false })
noncomputable def qOf (f : Str) : Fn := (fnOf0 f).getD q0
noncomputable def oneP (x : Str) (p : Pos) : Arguments := { posonlyargs := [], args := [{ arg := x, annotation := none, pos := p }], vararg := none, kwonlyargs := [], kw_defaults := [], kwarg := none, defaults := [] }
noncomputable def argsOf (f : Str) : Arguments := (prog0.findSome? fun st => match st with
  | .FunctionDef n ps _ _ _ _ _ _ _ _ => if n == f then some ps else none
  | _ => none).getD (oneP f default)
/-! what is looked at when the top has run -/
noncomputable def dictAt (h : Heap) (a : Addr) : Option (Array DictEntry) := (h.get? a).bind fun o => match o.data with
  | .dict es _ => some es
  | _ => none
noncomputable def funcAt (h : Heap) (v : Option Value) : Option FuncData := match v with
  | some (.ref a) => (h.get? a).bind fun o => match o.data with
    | .func fd => some fd
    | _ => none
  | _ => none
noncomputable def codeAt (h : Heap) (v : Value) (q : Str) : Bool := match v with
  | .ref a => match h.get? a with
    | some o => match o.data with
      | .fields vs => match (vs[1]? : Option Value) with
        | some (.str x _) => x == q
        | _ => false
      | _ => false
    | none => false
  | _ => false
noncomputable def seqAt (h : Heap) (v : Value) : Option (Array Value) := match v with
  | .ref a => (h.get? a).bind fun o => match o.data with
    | .seq vs _ => some vs
    | _ => none
  | _ => none
noncomputable def kwAt (h : Heap) (v : Value) : Option (List (Value × Value)) := match v with
  | .ref a => (dictAt h a).map fun es => es.toList.map fun e => (e.key, e.val)
  | _ => none
abbrev FnSeen := Arguments × FuncBody × Scope × Addr × Addr × List (Str × Addr) × Bool
noncomputable def fnSeen (h : Heap) (fd : FuncData) : FnSeen := (fd.params, fd.body, fd.scope, fd.globals, fd.builtins, fd.closure, codeAt h fd.code fd.qualname)
noncomputable def defs12 : List Str := ["_iter_escaped_chars", "_strip_quoted_realnames", "_check_parenthesis", "_pre_parse_validation", "_parse_varint", "_law_ring", "_law_text", "_law_read", "_law_figures", "_law_ways", "_law_longest", "law"].map nm
noncomputable def free10 : List Str := ["len", "sum", "sorted", "int", "list", "range", "enumerate", "next", "iter", "StopIteration"].map nm
abbrev Seen := Option (List Bool × List (Option (FnSeen × Value × Value)) × Option (FnSeen × Value × Value) × List (Option (FnSeen × Option (Array Value) × Option (List (Value × Value)))))
noncomputable def plainAt (h : Heap) (es : Array DictEntry) (f : Str) : Option (FnSeen × Value × Value) := (funcAt h (nsFind es f)).map fun fd => (fnSeen h fd, fd.defaults, fd.kwdefaults)
noncomputable def bisAt (h : Heap) (es : Array DictEntry) (f : Str) : Option (FnSeen × Option (Array Value) × Option (List (Value × Value))) := (funcAt h (nsFind es f)).map fun fd => (fnSeen h fd, seqAt h fd.defaults, kwAt h fd.kwdefaults)
noncomputable def obs (s : Shared) : Seen := (dictAt s.heap mainGlobals).map fun es => (free10.map fun x => (nsFind es x).isNone, defs12.map (plainAt s.heap es), plainAt s.heap es (nm "_law_told"), [bisAt s.heap es (nm "bisect_right"), bisAt s.heap es (nm "bisect_left")])
noncomputable def seenX (f : Str) : FnSeen := (argsOf f, .stmts (qOf f).2.2.1, (qOf f).2.2.2, mainGlobals, builtinsNs, [], true)
noncomputable def plainX (f : Str) : Option (FnSeen × Value × Value) := some (seenX f, .none, .none)
noncomputable def bisX (f : Str) (t u : Tok) : Option (FnSeen × Option (Array Value) × Option (List (Value × Value))) := some (seenX f, some #[.int 0 t, .none], some [(.str (nm "key") u, .none)])
noncomputable def val (w : World) : Seen := some (free10.map fun _ => true, defs12.map plainX, plainX (nm "_law_told"), [bisX (nm "bisect_right") 232 233, bisX (nm "bisect_left") 246 247])
/-- a def of the text stands under its name -/
structure FnCore (h : Heap) (es : Array DictEntry) (f : Str) (a : Addr) (fd : FuncData) : Prop where
  nm_ : nsFind es f = some (.ref a)
  at_ : ∃ o, h.get? a = some o ∧ o.data = .func fd
  params : fd.params = argsOf f
  body : fd.body = .stmts (qOf f).2.2.1
  scope : fd.scope = (qOf f).2.2.2
  globals : fd.globals = mainGlobals
  builtins : fd.builtins = builtinsNs
  closure : fd.closure = []
  code : h.CodeRec fd.code fd.qualname
structure Says (h : Heap) : Prop where
  ex : ∃ o es ep, h.get? mainGlobals = some o ∧ o.data = .dict es ep ∧ (∀ x ∈ free10, nsFind es x = none) ∧ (∀ f ∈ nm "_law_told" :: defs12, ∃ a fd, FnCore h es f a fd ∧ fd.defaults = .none ∧ fd.kwdefaults = .none) ∧
    ∀ f ∈ [nm "bisect_right", nm "bisect_left"], ∃ a fd d k od ok n ep t u hs, FnCore h es f a fd ∧ fd.defaults = .ref d ∧ h.get? d = some od ∧ od.data = .seq #[.int 0 t, .none] n ∧ fd.kwdefaults = .ref k ∧ h.get? k = some ok ∧ ok.data = .dict #[⟨hs, .str (nm "key") u, .none⟩] ep
theorem dictAt_spec {h : Heap} {a : Addr} {es : Array DictEntry} (e : dictAt h a = some es) : ∃ o ep, h.get? a = some o ∧ o.data = .dict es ep := by
  unfold dictAt at e
  obtain ⟨o, h1, h2⟩ := Option.bind_eq_some_iff.mp e
  split at h2
  · rename_i es' ep hd; cases h2; exact ⟨o, ep, h1, hd⟩
  · cases h2
theorem funcAt_spec {h : Heap} {v : Option Value} {fd : FuncData} (e : funcAt h v = some fd) : ∃ a o, v = some (.ref a) ∧ h.get? a = some o ∧ o.data = .func fd := by
  unfold funcAt at e
  split at e
  · obtain ⟨o, h1, h2⟩ := Option.bind_eq_some_iff.mp e
    split at h2
    · rename_i hd; cases h2; exact ⟨_, o, rfl, h1, hd⟩
    · cases h2
  · cases e
theorem codeAt_spec {h : Heap} {v : Value} {q : Str} (e : codeAt h v q = true) : h.CodeRec v q := by
  unfold codeAt at e
  split at e
  · split at e
    · rename_i o ho
      split at e
      · rename_i vs hd
        split at e
        · rename_i x t hv; exact ⟨_, o, vs, t, rfl, ho, hd, by rw [hv, eq_of_beq e]⟩
        · cases e
      · cases e
    · cases e
  · cases e
theorem seqAt_spec {h : Heap} {v : Value} {vs : Array Value} (e : seqAt h v = some vs) : ∃ a o n, v = .ref a ∧ h.get? a = some o ∧ o.data = .seq vs n := by
  unfold seqAt at e
  split at e
  · obtain ⟨o, h1, h2⟩ := Option.bind_eq_some_iff.mp e
    split at h2
    · rename_i n hd; cases h2; exact ⟨_, o, n, rfl, h1, hd⟩
    · cases h2
  · cases e
theorem core_of {h : Heap} {es : Array DictEntry} {f : Str} {fd : FuncData} (e : funcAt h (nsFind es f) = some fd) (k : fnSeen h fd = seenX f) : ∃ a, FnCore h es f a fd := by
  obtain ⟨a, o, h1, h2, h3⟩ := funcAt_spec e
  simp only [fnSeen, seenX, Prod.mk.injEq] at k
  obtain ⟨k1, k2, k3, k4, k5, k6, k7⟩ := k
  exact ⟨a, h1, ⟨o, h2, h3⟩, k1, k2, k3, k4, k5, k6, codeAt_spec k7⟩
theorem says_of (w : World) (s : Shared) (e : obs s = val w) : Says s.heap := by
  obtain ⟨es, h1, h2⟩ := Option.map_eq_some_iff.mp e
  obtain ⟨o, ep, h3, h4⟩ := dictAt_spec h1
  simp only [Prod.mk.injEq] at h2
  obtain ⟨k1, k2, k3, k4⟩ := h2
  have pl : ∀ f, plainAt s.heap es f = plainX f → ∃ a fd, FnCore s.heap es f a fd ∧ fd.defaults = .none ∧ fd.kwdefaults = .none := fun f hf => by
    obtain ⟨fd, h5, h6⟩ := Option.map_eq_some_iff.mp hf
    simp only [Prod.mk.injEq] at h6
    obtain ⟨a, c⟩ := core_of h5 h6.1
    exact ⟨a, fd, c, h6.2.1, h6.2.2⟩
  have bi : ∀ f t u, bisAt s.heap es f = bisX f t u → ∃ a fd d k od ok n ep t u hs, FnCore s.heap es f a fd ∧ fd.defaults = .ref d ∧ s.heap.get? d = some od ∧ od.data = .seq #[.int 0 t, .none] n ∧ fd.kwdefaults = .ref k ∧ s.heap.get? k = some ok ∧ ok.data = .dict #[⟨hs, .str (nm "key") u, .none⟩] ep := fun f t u hf => by
    obtain ⟨fd, h5, h6⟩ := Option.map_eq_some_iff.mp hf
    simp only [Prod.mk.injEq] at h6
    obtain ⟨a, c⟩ := core_of h5 h6.1
    obtain ⟨d, od, n, e1, e2, e3⟩ := seqAt_spec h6.2.1
    have h7 := h6.2.2
    unfold kwAt at h7
    split at h7
    · rename_i k hk
      obtain ⟨es', h8, h9⟩ := Option.map_eq_some_iff.mp h7
      obtain ⟨ok, ep, e4, e5⟩ := dictAt_spec h8
      obtain ⟨e, r, h10, h11, h12⟩ := List.map_eq_cons_iff.mp h9
      obtain rfl := List.map_eq_nil_iff.mp h12
      obtain ⟨hs, ky, vl⟩ := e
      simp only [Prod.mk.injEq] at h11
      obtain ⟨rfl, rfl⟩ := h11
      have h13 : es' = #[⟨hs, .str (nm "key") u, .none⟩] := Array.toList_inj.mp h10
      subst h13
      exact ⟨a, fd, d, k, od, ok, n, ep, t, u, hs, c, e1, e2, e3, hk, e4, e5⟩
    · cases h7
  refine ⟨o, es, ep, h3, h4, fun x hx => ?_, fun f hf => ?_, fun f hf => ?_⟩
  · exact Option.isNone_iff_eq_none.mp (List.map_inj_left.mp k1 x hx)
  · rcases List.mem_cons.mp hf with rfl | hf
    · exact pl _ k3
    · exact pl f (List.map_inj_left.mp k2 f hf)
  · simp only [List.cons.injEq, and_true] at k4
    rcases List.mem_cons.mp hf with rfl | hf
    · exact bi _ _ _ k4.1
    · rw [List.mem_singleton.mp hf]; exact bi _ _ _ k4.2
theorem FnCore.keeps {h h' : Heap} {es : Array DictEntry} {f : Str} {a : Addr} {fd : FuncData} (c : FnCore h es f a fd) (k : ∀ b o, h.get? b = some o → h'.get? b = some o) : FnCore h' es f a fd :=
  { c with at_ := let ⟨o, h1, h2⟩ := c.at_; ⟨o, k _ _ h1, h2⟩, code := c.code.keeps k }
theorem says_keeps (w : World) (h h' : Heap) (s : Says h) (k : ∀ b o, h.get? b = some o → h'.get? b = some o) : Says h' := by
  obtain ⟨o, es, ep, h1, h2, h3, h4, h5⟩ := s.ex
  refine ⟨o, es, ep, k _ _ h1, h2, h3, fun f hf => ?_, fun f hf => ?_⟩
  · obtain ⟨a, fd, c, d⟩ := h4 f hf
    exact ⟨a, fd, c.keeps k, d⟩
  · obtain ⟨a, fd, d, q, od, ok, n, ep, t, u, hs, c, e1, e2, e3, e4, e5, e6⟩ := h5 f hf
    exact ⟨a, fd, d, q, od, ok, n, ep, t, u, hs, c.keeps k, e1, k _ _ e2, e3, e4, k _ _ e5, e6⟩
noncomputable def myHook : Hook := ⟨Seen, obs, val, fun _ h => Says h, says_of, says_keeps⟩
noncomputable def View : Program := view PySem.Challenge.pw_wj0021_01 [1, 2, 3, 4, 9, 11, 12, 13, 14, 15, 16, 17, 18]
noncomputable def Loose : List Str := [nm "bisect_right", nm "bisect_left"]
theorem looks_ : looksOpen PySem.Challenge.pw_wj0021_01 = true := by decide +kernel
theorem said_ : PySem.Challenge.rw_wj0021_01.wellSaid = true := by
  unfold OpenLaw.wellSaid OpenRow.wellSaid OpenRow.partSaid
  rw [show looksOpen PySem.Challenge.rw_wj0021_01.row.prog = true from looks_]
  decide +kernel
theorem promised_ : PySem.Challenge.rw_wj0021_01.row.toRowW.promised := ⟨[.list []], by decide +kernel, by decide +kernel⟩
theorem left_ : LeftO PySem.Challenge.pw_wj0021_01 View Loose (fun s => xlAt View [] s && recOk [] s) myHook.obs myHook.val 1148 := by
  intro w
  kernel_rfl
end Mine
/-! part 41 -/
set_option maxRecDepth 1000000
set_option maxHeartbeats 4000000
namespace Mine
open PySem PySem.Calls PyProof.Rows PySem.W
noncomputable def fnsL : List (Str × Fn) := [(nm "_pre_parse_validation", qOf (nm "_pre_parse_validation")), (nm "bisect_right", qOf (nm "bisect_right")), (nm "bisect_left", qOf (nm "bisect_left")), (nm "_law_ring", qOf (nm "_law_ring")), (nm "_law_text", qOf (nm "_law_text")), (nm "_law_figures", qOf (nm "_law_figures")), (nm "_law_ways", qOf (nm "_law_ways")), (nm "_law_longest", qOf (nm "_law_longest")), (nm "_law_told", qOf (nm "_law_told"))]
noncomputable def primD (ds : List PyData) : Option PyData := match ds with
  | [.str x] => if plainTxt x then some (.bool (bal x.cps.toList 0)) else none
  | _ => none
noncomputable def P0 : Prims where
  fn f := fnsL.lookup f
  prim f ds := primD ds
  known f := f == nm "_check_parenthesis"
  sortD := sortRows
section
variable {mb : Str → Option Value}
theorem mb_len (bu : ∀ x : Str, x ≠ "__name__" → mb x = bootBuiltins x) : mb (nm "len") = some (.builtin "len") := (bu _ (by decide)).trans (by decide +kernel)
theorem mb_sum (bu : ∀ x : Str, x ≠ "__name__" → mb x = bootBuiltins x) : mb (nm "sum") = some (.builtin "sum") := (bu _ (by decide)).trans (by decide +kernel)
theorem mb_sorted (bu : ∀ x : Str, x ≠ "__name__" → mb x = bootBuiltins x) : mb (nm "sorted") = some (.builtin "sorted") := (bu _ (by decide)).trans (by decide +kernel)
theorem mb_int (bu : ∀ x : Str, x ≠ "__name__" → mb x = bootBuiltins x) : mb (nm "int") = some (.type "int") := (bu _ (by decide)).trans (by decide +kernel)
theorem mb_list (bu : ∀ x : Str, x ≠ "__name__" → mb x = bootBuiltins x) : mb (nm "list") = some (.type "list") := (bu _ (by decide)).trans (by decide +kernel)
theorem mb_range (bu : ∀ x : Str, x ≠ "__name__" → mb x = bootBuiltins x) : mb (nm "range") = some (.type "range") := (bu _ (by decide)).trans (by decide +kernel)
theorem mb_enumerate (bu : ∀ x : Str, x ≠ "__name__" → mb x = bootBuiltins x) : mb (nm "enumerate") = some (.type "enumerate") := (bu _ (by decide)).trans (by decide +kernel)
theorem mb_next (bu : ∀ x : Str, x ≠ "__name__" → mb x = bootBuiltins x) : mb (nm "next") = some (.builtin "next") := (bu _ (by decide)).trans (by decide +kernel)
theorem mb_iter (bu : ∀ x : Str, x ≠ "__name__" → mb x = bootBuiltins x) : mb (nm "iter") = some (.builtin "iter") := (bu _ (by decide)).trans (by decide +kernel)
theorem mb_StopIteration (bu : ∀ x : Str, x ≠ "__name__" → mb x = bootBuiltins x) : mb (nm "StopIteration") = some (.type "StopIteration") := (bu _ (by decide)).trans (by decide +kernel)
end
structure Known (B : Bt) : Prop where
  pl : ∀ f ∈ nm "_law_told" :: defs12, FnAt B f (qOf f)
  bi : ∀ f ∈ [nm "bisect_right", nm "bisect_left"], FnAt B f (qOf f)
  no : ∀ x ∈ free10, B.mg x = none
  bu : ∀ x : Str, x ≠ "__name__" → B.mb x = bootBuiltins x
/-- how a def without defaults binds -/
noncomputable def Binds (f : Str) (k : Nat) : Prop := ∀ (n q : Str) (bd : FuncBody) (sc : Scope) (gl : Addr) (cl : List (Str × Addr)) (dc pm : Value) (an : Option Addr) (co ct : Value) (bt : Addr) (vals : List Value), vals.length = k →
  bindArgs { name := n, qualname := q, params := argsOf f, body := bd, scope := sc, globals := gl, closure := cl, defaults := .none, kwdefaults := .none, doc := dc, pyModule := pm, annotations := an, code := co, closureTuple := ct, builtins := bt } ⟨vals, []⟩ = pure ((qOf f).1.zip vals)
theorem fn_plain {h : Heap} {es : Array DictEntry} {f : Str} {a : Addr} {fd : FuncData} (c : FnCore h es f a fd) (hd : fd.defaults = .none) (hk : fd.kwdefaults = .none) (hb : Binds f (qOf f).1.length) (h2 : (qOf f).2.1 = []) {B : Bt} (eh : B.h = h) (em : B.mg f = nsFind es f) : FnAt B f (qOf f) := by
  obtain ⟨o, h3, h4⟩ := c.at_
  refine ⟨⟨a, o, fd, by rw [em]; exact c.nm_, by rw [eh]; exact h3, h4, c.body, c.scope, c.globals, c.builtins, c.closure, by rw [eh]; exact c.code, fun s vals _ hl => ⟨[], by rw [h2]; simp only [List.map_nil, RdL], ?_⟩⟩⟩
  have hp := c.params
  clear c h4
  obtain ⟨n, q, pa, bd, sc, gl, cl, de, kd, dc, pm, an, co, ct, bt⟩ := fd
  obtain rfl : pa = _ := hp
  obtain rfl : de = _ := hd
  obtain rfl : kd = _ := hk
  rw [h2, List.map_nil, List.append_nil, List.append_nil]
  exact BindsTo.of_eq (hb n q bd sc gl cl dc pm an co ct bt vals hl)
theorem binds_1 {f : Str} (h : ∀ (n q : Str) (bd : FuncBody) (sc : Scope) (gl : Addr) (cl : List (Str × Addr)) (dc pm : Value) (an : Option Addr) (co ct : Value) (bt : Addr) (v : Value), 
  bindArgs { name := n, qualname := q, params := argsOf f, body := bd, scope := sc, globals := gl, closure := cl, defaults := .none, kwdefaults := .none, doc := dc, pyModule := pm, annotations := an, code := co, closureTuple := ct, builtins := bt } ⟨[v], []⟩ = pure ((qOf f).1.zip [v])) : Binds f 1 := by
  intro n q bd sc gl cl dc pm an co ct bt vals hl
  match vals, hl with
  | [v], _ => exact h n q bd sc gl cl dc pm an co ct bt v
theorem binds_told : Binds (nm "_law_told") 2 := by
  intro n q bd sc gl cl dc pm an co ct bt vals hl
  match vals, hl with
  | [v, u], _ => kernel_rfl!
theorem all12 : ∀ f ∈ defs12, Binds f 1 ∧ (qOf f).1.length = 1 ∧ (qOf f).2.1 = [] := by
  simp only [defs12, List.map_cons, List.map_nil, List.forall_mem_cons]
  refine ⟨?_, ?_, ?_, ?_, ?_, ?_, ?_, ?_, ?_, ?_, ?_, ?_, nofun⟩ <;>
  exact ⟨binds_1 (by intros; kernel_rfl!), by rfl, by rfl⟩
theorem fn_bis {h : Heap} {es : Array DictEntry} {f : Str} {a : Addr} {fd : FuncData} {d k : Addr} {od ok : Obj} {n ep : Nat} {t u : Tok} {hs : Int} (hf : f = nm "bisect_right" ∨ f = nm "bisect_left") (c : FnCore h es f a fd) (hd : fd.defaults = .ref d) (h1 : h.get? d = some od) (h2 : od.data = .seq #[.int 0 t, .none] n) (hk : fd.kwdefaults = .ref k) (h3 : h.get? k = some ok) (h4 : ok.data = .dict #[⟨hs, .str (nm "key") u, .none⟩] ep) {B : Bt} (eh : B.h = h) (em : B.mg f = nsFind es f) : FnAt B f (qOf f) := by
  obtain ⟨o, h5, h6⟩ := c.at_
  refine ⟨⟨a, o, fd, by rw [em]; exact c.nm_, by rw [eh]; exact h5, h6, c.body, c.scope, c.globals, c.builtins, c.closure, by rw [eh]; exact c.code, fun s vals hb hl => ⟨[.int 0 t, .none, .none], ?_, ?_⟩⟩⟩
  · rcases hf with rfl | rfl <;>
    · show RdL _ [PyData.int 0, PyData.none, PyData.none] _
      simp only [RdL, Rd]
      exact ⟨_, _, rfl, ⟨_, rfl⟩, _, _, rfl, rfl, _, _, rfl, rfl, rfl⟩
  have ht := hb _ _ (by rw [eh]; exact h1)
  have hkk := hb _ _ (by rw [eh]; exact h3)
  have hp := c.params
  clear c h6 hb
  obtain ⟨n', q, pa, bd, sc, gl, cl, de, kd, dc, pm, an, co, ct, bt⟩ := fd
  obtain rfl : pa = _ := hp
  obtain rfl : de = _ := hd
  obtain rfl : kd = _ := hk
  intro M A E Q hq
  rcases hf with rfl | rfl <;>
  · match vals, hl with
    | [v, w], _ =>
      show wpAny M A (seqItems? (.ref d) >>= _) Q E s
      refine wpAny_bind (wpAny_seqItems ht h2 ?_)
      show wpAny M A (((nsGet k (nm "key") >>= _) >>= _) >>= _) Q E s
      refine wpAny_bind (wpAny_bind (wpAny_bind (wpAny_nsGet (m := nsFind _) ⟨_, _, _, hkk, h4, ?_, fun _ => rfl⟩ ?_)))
      · intro e he
        obtain rfl := List.mem_singleton.mp (Array.mem_toList_iff.mpr he)
        exact ⟨_, _, rfl⟩
      · first | exact wpAny_pure (wpAny_pure hq) | exact wpAny_pure (wpAny_pure (wpAny_pure hq)) | exact wpAny_pure (wpAny_pure (wpAny_pure (wpAny_pure hq)))
theorem known_of {B : Bt} (S : Says B.h) (bu : ∀ x : Str, x ≠ "__name__" → B.mb x = bootBuiltins x) : Known B := by
  obtain ⟨o, es, ep, h1, h2, h3, h4, h5⟩ := S.ex
  have hm : ∀ x, B.mg x = nsFind es x := fun x => by
    obtain ⟨o', es', ep', e1, e2, _, e3⟩ := B.g
    rw [h1] at e1; cases e1
    rw [h2] at e2; cases e2
    exact (e3 x).symm
  refine ⟨fun f hf => ?_, fun f hf => ?_, fun x hx => (hm x).trans (h3 x hx), bu⟩
  · obtain ⟨a, fd, c, hd, hk⟩ := h4 f hf
    rcases List.mem_cons.mp hf with rfl | hf
    · exact fn_plain c hd hk binds_told rfl rfl (hm _)
    · obtain ⟨b1, b2, b3⟩ := all12 f hf
      exact fn_plain c hd hk (by rw [b2]; exact b1) b3 rfl (hm _)
  · obtain ⟨a, fd, d, q, od, ok, n, ep, t, u, hs, c, e1, e2, e3, e4, e5, e6⟩ := h5 f hf
    refine fn_bis ?_ c e1 e2 e3 e4 e5 e6 rfl (hm _)
    simpa using hf
section
variable {B : Bt}
theorem hP (K : Known B) : PFn B (qOf (nm "_parse_varint")) where
  at_ := K.pl (nm "_parse_varint") (by decide)
  ok := by decide +kernel
  params := ⟨rfl, rfl⟩
  body := ⟨⟨_, _, _, _, _, _, _, _, _, _, _, _, _, _, _, _, _, _, _, _, _, _, _, _, _, _, _, _, _, _, _, _, _⟩, rfl⟩
  knext := by decide +kernel
  kb := by decide +kernel
  kv := by decide +kernel
  next := ⟨K.no _ (by decide), mb_next K.bu⟩
theorem hR (K : Known B) : RFn B (qOf (nm "_law_read")) where
  at_ := K.pl (nm "_law_read") (by decide)
  ok := by decide +kernel
  params := ⟨rfl, rfl⟩
  body := ⟨⟨_, _, _, _, _, _, _, _, _, _, _, _, _, _, _, _, _, _, _, _, _, _, _, _, _, _⟩, rfl, rfl⟩
  kiter := by decide +kernel
  kparse := by decide +kernel
  kstop := by decide +kernel
  ktape := by decide +kernel
  knum := by decide +kernel
  koct := by decide +kernel
  iter := ⟨K.no _ (by decide), mb_iter K.bu⟩
  stop := ⟨K.no _ (by decide), mb_StopIteration K.bu⟩
theorem hG (K : Known B) : GFn B (qOf (nm "_iter_escaped_chars")) where
  at_ := K.pl (nm "_iter_escaped_chars") (by decide)
  kind := by decide +kernel
  co := by decide +kernel
  gen := by decide +kernel
  cells := by decide +kernel
  nofree := by decide +kernel
  dbg := by decide +kernel
  params := ⟨rfl, rfl⟩
  body := ⟨⟨_, _, _, _, _, _, _, _, _, _, _, _, _, _, _, _, _, _, _, _, _, _, _, _, _, _, _, _, _, _, _, _, _, _⟩, rfl⟩
  kpos := by decide +kernel
  kch := by decide +kernel
  kesc := by decide +kernel
  kaddr := by decide +kernel
  kenum := by decide +kernel
theorem hS (K : Known B) : SFn B (qOf (nm "_strip_quoted_realnames")) where
  at_ := K.pl (nm "_strip_quoted_realnames") (by decide)
  ok := by decide +kernel
  params := ⟨rfl, rfl⟩
  body := ⟨⟨_, _, _, _, _, _, _, _⟩, rfl⟩
theorem hC (K : Known B) : CFn B (qOf (nm "_check_parenthesis")) where
  at_ := K.pl (nm "_check_parenthesis") (by decide)
  ok := by decide +kernel
  params := ⟨rfl, rfl⟩
  body := ⟨⟨_, _, _, _, _, _, _, _, _, _, _, _, _, _, _, _, _, _, _, _, _, _, _, _, _, _, _, _, _, _, _, _, _, _, _, _, _, _, _, _, _, _, _, _, _, _, _, _⟩, rfl⟩
  kpos := by decide +kernel
  kch := by decide +kernel
  kop := by decide +kernel
  kaddr := by decide +kernel
  kstrip := by decide +kernel
  kiter := by decide +kernel
theorem knows {prog : Program} {w : World} (K : Known B) : Knows prog w B P0 where
  fns := fun f q e => by
    have hm := lookup_mem (show fnsL.lookup f = some q from e)
    simp only [fnsL, List.mem_cons, List.not_mem_nil, or_false] at hm
    rcases hm with hm | hm | hm | hm | hm | hm | hm | hm | hm <;> cases hm
    · exact ⟨K.pl _ (by decide), by decide +kernel⟩
    · exact ⟨K.bi _ (by decide), by decide +kernel⟩
    · exact ⟨K.bi _ (by decide), by decide +kernel⟩
    · exact ⟨K.pl _ (by decide), by decide +kernel⟩
    · exact ⟨K.pl _ (by decide), by decide +kernel⟩
    · exact ⟨K.pl _ (by decide), by decide +kernel⟩
    · exact ⟨K.pl _ (by decide), by decide +kernel⟩
    · exact ⟨K.pl _ (by decide), by decide +kernel⟩
    · exact ⟨K.pl _ (by decide), by decide +kernel⟩
  prims := fun f ds d hk hp => by
    have hf : f = nm "_check_parenthesis" := eq_of_beq hk
    subst hf
    replace hp : primD ds = some d := hp
    unfold primD at hp
    split at hp
    · split at hp
      · rename_i x hpl
        cases hp
        obtain ⟨_, _, _, a1, _⟩ := (hC K).at_.ex
        obtain ⟨_, _, _, a2, _⟩ := (hG K).at_.ex
        obtain ⟨_, _, _, a3, _⟩ := (hS K).at_.ex
        exact chk_prim (hC K) (hG K) (hS K) a1 a2 a3 hpl
      · cases hp
    · cases hp
  sort := sort_ok P0 rfl
end
end Mine
/-! part 42 -/
set_option maxRecDepth 1000000
set_option maxHeartbeats 4000000
namespace Mine
open PySem PySem.Calls PyProof.Rows PySem.W
noncomputable def lawQ : Fn := qOf (nm "law")
noncomputable def lawNames : Sc := lawQ.2.2.2.names
noncomputable def lawPre : List Stmt := lawQ.2.2.1.take 7
noncomputable def lawPost : List Stmt := lawQ.2.2.1.drop 8
noncomputable def lawArg : Expr := match (lawQ.2.2.1[7]? : Option Stmt) with
  | some (Stmt.Assign _ (Expr.Call _ [a] _ _) _) => a
  | _ => .Constant .none 0 default
theorem law_body : ∃ p1 p2 p3 p4, lawQ.2.2.1 = lawPre ++ .Assign [.Name (nm "numbers") p1] (.Call (.Name (nm "_law_read") p2) [lawArg] [] p3) p4 :: lawPost := ⟨_, _, _, _, rfl⟩
noncomputable def LV : Nat := 25
noncomputable def intsD (ns : List Int) : PyData := .list (ns.map .int)
/-- the law's answer, reckoned over plain data -/
noncomputable def PlainLaw (ns : List Int) : Prop := ∃ st1 octs numbers k0, (I P0 LV).exs lawNames [(nm "script", .sh (intsD ns))] lawPre = some (.next st1) ∧ (I P0 LV).ev lawNames (shσ st1) lawArg = some (intsD octs) ∧ readV k0 octs = some numbers ∧ octs.length ≤ 1000 ∧
  (I P0 LV).exs lawNames (put st1 (nm "numbers") (.sh (intsD numbers))) lawPost = some (.ret (.bool true))
section
variable {prog : Program} {w : World} {B : Bt} {P : Params} {A : Around} {hid own : List Addr} {s s₀ s' : Shared} {env : Env} {st : Sto} {E : Value → Shared → Prop}
theorem execs_app_eq (env : Env) : ∀ (a b : List Stmt), execs (a ++ b) env = (do match ← execs a env with | .next => execs b env | f => pure f)
  | [], b => by
    show execs b env = (pure Flow.next >>= _)
    rw [pure_bind]
  | c :: a, b => by
    rw [List.cons_append, execs_cons, execs_cons, bind_assoc]
    congr 1
    funext f
    cases f with
    | next => exact execs_app_eq env a b
    | _ => rw [pure_bind]
theorem execs_app {M : Model} {a b : List Stmt} {Q : Flow → Shared → Prop} (h : wpAny M A (execs a env) (fun f s' => match f with | .next => wpAny M A (execs b env) Q E s' | f => Q f s') E s) : wpAny M A (execs (a ++ b) env) Q E s := by
  rw [execs_app_eq]
  refine wpAny_bind (wpAny_mono h (fun f s' h' => ?_) fun _ _ x => x)
  cases f with
  | next => exact h'
  | _ => exact wpAny_pure h'
theorem FOk.addSh (F : FOk B env st hid own s₀ s) {x : Str} {v : Value} {d : PyData} (hn : NmAt env x v s) (hr : Rd (hk (own ++ hid) s.heap) d v) : FOk B env (put st x (.sh d)) hid own s₀ s :=
  { F with
    slots := fun y sl e => by
      rw [put_lookup] at e
      split at e
      · rename_i hy; cases e; subst hy; exact ⟨v, hn, hr⟩
      · exact F.slots y sl e
    dist := fun y z ds es a hyz hy hz ny nz => by
      rw [put_lookup] at hy hz
      split at hy
      · cases hy
      · split at hz
        · cases hz
        · exact F.dist y z ds es a hyz hy hz ny nz
    nd := put_nd F.nd }
end
end Mine
/-! part 43 -/
set_option maxRecDepth 1000000
set_option maxHeartbeats 4000000
namespace Mine
open PySem PySem.Calls PyProof.Rows PySem.W
theorem immL_ints : ∀ ns : List Int, immL (ns.map PyData.int) = true
  | [] => rfl
  | n :: r => by simp only [List.map_cons, immL, List.all_cons, Bool.and_eq_true]; exact ⟨rfl, immL_ints r⟩
section
variable {prog : Program} {w : World} {B : Bt} {A : Around} {hid own : List Addr} {s s₀ s' : Shared} {env : Env} {st : Sto} {E : Value → Shared → Prop}
theorem law_run (K : Known B) {al : Addr} (hal : B.mg (nm "law") = some (.ref al)) (hfr : A.frames = some []) (hh : A.handled = none) (hd : A.depth + 100 < recursionLimit) (hu : A.units + 1000 < cLine) (hb : Bs B s) {l : Addr} {vs : List Value} {c : Nat} {ns : List Int} (hl : s.heap.get? l = some (lObj vs c)) (hv : RdL (fun _ => none) (ns.map .int) vs)
    (pl : PlainLaw ns) {Q : Value → Shared → Prop} (q : ∀ s', Kp s s' → Q (.bool true) s') : wpAny (model prog w) A (call (.ref al) [.ref l]) Q E s := by
  obtain ⟨st1, octs, numbers, k0, h1, h2, h3, h4, h5⟩ := pl
  have H := snd_I (prog := prog) (w := w) (knows K) LV
  have hQ := K.pl (nm "law") (by decide)
  refine enter (hid := []) (q := lawQ) (by omega) hQ (by decide +kernel) hb (fun a ha => by cases ha) rfl hal fun env s1 dv kp e1 e2 e3 F rdv hn => ?_
  have en : env.scope.names = lawNames := by rw [e1]; rfl
  obtain ⟨p1, p2, p3, p4, hbody⟩ := law_body
  rw [hbody]
  have hm : Rm (A.deeper env) (LV + 8) := ⟨hh, by show A.depth + 1 + 33 < _; omega, by simp only [Around.deeper_units]; show A.units + 3 + 16 * 33 + 100 < _; omega⟩
  have hsc : NmAt env (nm "script") (.ref l) s1 := hn _ _ rfl
  have hr1 : Rd (hk ([] ++ []) s1.heap) (intsD ns) (.ref l) := by
    show Rd _ (.list _) _
    simp only [Rd]
    exact ⟨l, vs, c, rfl, hk_of (by simp) (kp.get hl), hv.immL (immL_ints ns)⟩
  have F1 : FOk B env (put [] (nm "script") (.sh (intsD ns))) [] [] s s1 := F.addSh hsc hr1
  have F1' : FOk B env [(nm "script", .sh (intsD ns))] [] [] s s1 := F1
  refine execs_app (H.exs hm F1' (by rw [en]; exact h1) fun f s2 hp => ?_)
  obtain ⟨rfl, own1, g⟩ := hp
  have F2 := g.F
  refine wpAny_execs_cons (wpAny_Assign_Name ?_)
  -- the argument and the call
  have HR := hR K
  obtain ⟨ar, o, fd, har, ha2, ha3, _⟩ := HR.at_.ex
  obtain ⟨ap, _, _, hap, _⟩ := (hP K).at_.ex
  have kread : env.kindOf (nm "_law_read") = some .globalImplicit := by
    show env.scope.names.lookup _ = _
    rw [en]; decide +kernel
  rw [arm_eval_Call_Name']
  refine wpAny_bind (ev_global F2.eall kread har ?_)
  have hstar : ∀ f p, lawArg ≠ .Starred f p := H.toSndE.notStar (sc := lawNames) h2
  rw [starEach_cons hstar, backTo_cons]
  refine Calls.callWith_function (evalArgs_plain (spliced_cons (H.ev hm F2.esh (by rw [en]; exact h2) _ _ fun v s3 k3 r3 => spliced_nil ⟨⟨k3.get (F2.base _ _ ha2), ha3⟩, ?_⟩)))
  obtain ⟨lo, ovs, oc, rfl, hlo, hov⟩ := rd_list r3
  have F3 := F2.keeps k3
  obtain ⟨mL, hmL⟩ := F3.ns
  have bL : B.h.get? env.locals = none := F.new0 e3
  show wpAny _ _ (call (.ref ar) [.ref lo]) _ _ s3
  refine read_call (hP K) HR hap har (A := A.deeper env) (law := env) (L := env.locals) e2 F3.kind (Around.frames_deeper hfr) (by show A.depth + 1 + 2 < _; omega) hh F3.base bL hmL (hk_sub hlo) (hov.immL (immL_ints octs)) h3 h4 fun N us cN s4 fw4 nL4 hN0 hN hus => ?_
  -- the frame behind the call
  have hNown : N ∉ own1 ++ [] := fun m => by
    rw [List.append_nil] at m
    obtain ⟨_, us', c', e⟩ := F3.owns N m
    rw [hN0] at e; cases e
  have nm4 : ∀ {y : Str} {u : Value}, NmAt env y u s3 → NmAt env y u s4 := fun {y u} nu => by
    rcases nu with ⟨a, m, b, d⟩ | ⟨a, c, b, o, d, f⟩
    · have := ns_fun hmL b
      subst this
      exact .inl ⟨a, _, nL4, d⟩
    · exact .inr ⟨a, c, b, o, fw4.get (by simpa using F3.L_cell b) d, f⟩
  have back : ∀ {y : Str} {u : Value} {sl : Slot}, st1.lookup y = some sl → NmAt env y u s4 → NmAt env y u s3 := fun {y u sl} e nu => by
    obtain ⟨u', a, _⟩ := F3.slots y _ e
    have := nu.fun (nm4 a)
    subst this
    exact a
  have F4 : FOk B env st1 [] own1 s s4 := F3.upd fw4 (fun a ha => .inl (List.mem_singleton.mp ha)) ⟨_, nL4⟩ (fun y c e => by
      obtain ⟨_, v, o, h1, h2⟩ := F3.cell y c e
      exact ⟨v, o, fw4.get (by simpa using F3.L_cell e) h1, h2⟩) F3.nd (fun y sl e => by
      obtain ⟨u, a, b⟩ := F3.slots y sl e
      exact ⟨u, nm4 a, b⟩) fun y z ds es a hyz hy hz ny nz => F3.dist y z ds es a hyz hy hz (back hy ny) (back hz nz)
  have hsto : storable env.scope.names (nm "numbers") = true := by rw [en]; decide +kernel
  have hr4 : SlotV own1 [] (.sh (intsD numbers)) (.ref N) s4 := by
    show Rd _ (.list _) _
    simp only [Rd]
    exact ⟨N, us, cN, rfl, hk_of hNown hN, hus.immL (immL_ints numbers)⟩
  refine store_nm F4 hsto hr4 (fun ds e => by cases e) fun s5 g5 _ _ _ => ?_
  dsimp only
  refine H.exs hm g5.F (by rw [en]; exact h5) fun f s6 hp6 => ?_
  obtain ⟨v, rfl, hv6, _, kp6⟩ := hp6
  have : v = .bool true := by simpa only [Rd] using hv6
  subst this
  exact q s6 kp6
end
end Mine
/-! part 44 -/
set_option maxRecDepth 1000000
set_option maxHeartbeats 4000000
namespace Mine
open PySem PySem.Calls PyProof.Rows PySem.W
section
variable {P : Prims} {n : Nat} {sc : Sc} {σ : Sig} {st st' : Sto}
theorem E_bin {l r : Expr} {op : Operator} {p : Pos} {a b d : PyData} (hl : (I P n).ev sc σ l = some a) (hr : (I P n).ev sc σ r = some b) (h : binD op a b = some d := by rfl) : (I P (n + 1)).ev sc σ (.BinOp l op r p) = some d := by
  show ((I P n).ev sc σ l).bind _ = _
  rw [hl]; show ((I P n).ev sc σ r).bind _ = _
  rw [hr]; exact h
theorem E_name {x : Str} {p : Pos} {d : PyData} (h : σ.lookup x = some d := by rfl) : (I P (n + 1)).ev sc σ (.Name x p) = some d := h
theorem E_const {c : Const} {k : Nat} {p : Pos} {d : PyData} (h : constD c = some d := by rfl) : (I P (n + 1)).ev sc σ (.Constant c k p) = some d := h
theorem E_cmp {l r : Expr} {op : CmpOp} {p : Pos} {a b : PyData} {c : Bool} (hl : (I P n).ev sc σ l = some a) (hr : (I P n).ev sc σ r = some b) (h : cmpD op a b = some c := by rfl) : (I P (n + 1)).ev sc σ (.Compare l [op] [r] p) = some (.bool c) := by
  show ((I P n).ev sc σ l).bind _ = _
  rw [hl]; show ((I P n).ev sc σ r).bind _ = _
  rw [hr]; show (cmpD op a b).map _ = _
  rw [h]; rfl
theorem T_cmp {l r : Expr} {op : CmpOp} {p : Pos} {a b : PyData} {c : Bool} (hl : (I P n).ev sc σ l = some a) (hr : (I P n).ev sc σ r = some b) (h : cmpD op a b = some c := by rfl) : (I P (n + 1)).tst sc σ (.Compare l [op] [r] p) = some c := by
  show ((I P n).ev sc σ l).bind _ = _
  rw [hl]; show ((I P n).ev sc σ r).bind _ = _
  rw [hr]; exact h
theorem T_not {x : Expr} {p : Pos} {c : Bool} (h : (I P n).tst sc σ x = some c) : (I P (n + 1)).tst sc σ (.UnaryOp .Not x p) = some (!c) := by
  show ((I P n).tst sc σ x).map _ = _
  rw [h]; rfl
theorem T_or_f {x y : Expr} {p : Pos} {c : Bool} (h : (I P n).tst sc σ x = some false) (h2 : (I P n).tst sc σ y = some c) : (I P (n + 1)).tst sc σ (.BoolOp .Or [x, y] p) = some c := by
  show ((I P n).tst sc σ x).bind _ = _
  rw [h]; exact h2
theorem T_call {f : Expr} {as : List Expr} {ks : List Keyword} {p : Pos} {c : Bool} (h : (I P n).ev sc σ (.Call f as ks p) = some (.bool c)) : (I P (n + 1)).tst sc σ (.Call f as ks p) = some c := by
  show ((I P n).ev sc σ (.Call f as ks p)).bind _ = _
  rw [h]; rfl
theorem E_ifexp {t a b : Expr} {p : Pos} {c : Bool} {d : PyData} (h : (I P n).tst sc σ t = some c) (h2 : cond c ((I P n).ev sc σ a) ((I P n).ev sc σ b) = some d) : (I P (n + 1)).ev sc σ (.IfExp t a b p) = some d := by
  show ((I P n).tst sc σ t).bind _ = _
  rw [h]; cases c <;> exact h2
theorem E_and {x y : Expr} {p : Pos} {d : PyData} (h : (I P n).ev sc σ x = some (.bool true)) (h2 : (I P n).ev sc σ y = some d) : (I P (n + 1)).ev sc σ (.BoolOp .And [x, y] p) = some d := by
  show ((I P n).ev sc σ x).bind _ = _
  rw [h]; exact h2
theorem mapO1 {f : Expr → Option PyData} {a : Expr} {d : PyData} (h : f a = some d) : mapO f [a] = some [d] := by simp [mapO, h]
theorem mapO2 {f : Expr → Option PyData} {a b : Expr} {d e : PyData} (h : f a = some d) (k : f b = some e) : mapO f [a, b] = some [d, e] := by simp [mapO, h, k]
theorem E_tuple2 {a b : Expr} {k : Nat} {p : Pos} {d e : PyData} (h : (I P n).ev sc σ a = some d) (h2 : (I P n).ev sc σ b = some e) : (I P (n + 1)).ev sc σ (.Tuple [a, b] k p) = some (.tuple [d, e]) := by
  show (if few 2 then (mapO ((I P n).ev sc σ) [a, b]).map PyData.tuple else none) = _
  rw [mapO2 h h2]; rfl
theorem E_list1 {a : Expr} {p : Pos} {d : PyData} (h : (I P n).ev sc σ a = some d) : (I P (n + 1)).ev sc σ (.List [a] p) = some (.list [d]) := by
  show (if few 1 then (mapO ((I P n).ev sc σ) [a]).map PyData.list else none) = _
  rw [mapO1 h]; rfl
theorem E_sub {v i : Expr} {p : Pos} {xs : List PyData} {k : Int} {d : PyData} (hv : (I P n).ev sc σ v = some (.list xs)) (hi : (I P n).ev sc σ i = some (.int k)) (hf : few xs.length = true := by rfl) (h : idxD xs k = some d := by rfl) (ns : vSlice i = none := by rfl) : (I P (n + 1)).ev sc σ (.Subscript v i p) = some d := by
  show evSub (I P n) sc σ v i = _
  unfold evSub
  rw [ns]
  show ((I P n).ev sc σ v).bind _ = _
  rw [hv]
  show ((I P n).ev sc σ i).bind _ = _
  rw [hi]
  show (if few xs.length then idxD xs k else none) = _
  rw [if_pos hf]; exact h
theorem E_slice {v : Expr} {lo hi so : Option Expr} {q p : Pos} {d r : PyData} {a b c : Option PyData} {a' b' c' : Option Int} (hv : (I P n).ev sc σ v = some d) (h1 : optO ((I P n).ev sc σ) lo = some a) (h2 : optO ((I P n).ev sc σ) hi = some b) (h3 : optO ((I P n).ev sc σ) so = some c) (k1 : partD a = some a') (k2 : partD b = some b') (k3 : partD c = some c') (h : subD d a' b' c' = some r) : (I P (n + 1)).ev sc σ (.Subscript v (.Slice lo hi so q) p) = some r := by
  show ((I P n).ev sc σ v).bind _ = _
  rw [hv]
  show (optO ((I P n).ev sc σ) lo).bind _ = _
  rw [h1]
  show (optO ((I P n).ev sc σ) hi).bind _ = _
  rw [h2]
  show (optO ((I P n).ev sc σ) so).bind _ = _
  rw [h3]
  show (partD a).bind _ = _
  rw [k1]
  show (partD b).bind _ = _
  rw [k2]
  show (partD c).bind _ = _
  rw [k3]
  exact h
theorem E_call {f : Str} {p q : Pos} {as : List Expr} {ds : List PyData} {d : PyData} (g : glob sc σ f = true) (nl : isNm f "list" = false) (ne : as.isEmpty = false) (nb : bfnNames.find? (isNm f) = none) (ha : mapO ((I P n).ev sc σ) as = some ds) (h : (I P n).call f ds = some d) : (I P (n + 1)).ev sc σ (.Call (.Name f p) as [] q) = some d := by
  show (if (!glob sc σ f) = true then none else if isNm f "list" = true then _ else if as.isEmpty = true then none else (mapO ((I P n).ev sc σ) as).bind fun ds => match bfnNames.find? (isNm f) with
      | some n => bfn P n ds
      | none => (I P n).call f ds) = _
  rw [g, nl, ne, ha, nb]
  exact h
theorem E_bfn {f : Str} {p q : Pos} {as : List Expr} {ds : List PyData} {d : PyData} {b : String} (g : glob sc σ f = true) (nl : isNm f "list" = false) (ne : as.isEmpty = false) (nb : bfnNames.find? (isNm f) = some b) (ha : mapO ((I P n).ev sc σ) as = some ds) (h : bfn P b ds = some d) : (I P (n + 1)).ev sc σ (.Call (.Name f p) as [] q) = some d := by
  show (if (!glob sc σ f) = true then none else if isNm f "list" = true then _ else if as.isEmpty = true then none else (mapO ((I P n).ev sc σ) as).bind fun ds => match bfnNames.find? (isNm f) with
      | some n => bfn P n ds
      | none => (I P n).call f ds) = _
  rw [g, nl, ne, ha, nb]
  exact h
theorem E_comp {elt tgt iter : Expr} {ifs : List Expr} {s : Scope} {p : Pos} {b : Bool} {ds xs : List PyData} (hs : okScope s = true) (hf : freesIn sc s = true) (hi : (I P n).src sc σ iter = some (b, ds)) (ht : fitT b tgt = true) (hl : few ds.length = true)
    (h : compGo (I P n) (relabelN s.names sc) (frees s σ) tgt ifs elt ds = some xs) : (I P (n + 1)).ev sc σ (.ListComp elt [⟨tgt, iter, ifs, 0⟩] s p) = some (.list xs) := by
  show (if (okScope s && freesIn sc s && (0 : Int) == 0) = true then ((I P n).src sc σ iter).bind fun items =>
      if (fitT items.1 tgt && few items.2.length) = true then (compGo (I P n) (relabelN s.names sc) (frees s σ) tgt ifs elt items.2).map PyData.list else none
    else none) = _
  rw [hs, hf, hi]
  show (if (fitT b tgt && few ds.length) = true then (compGo (I P n) (relabelN s.names sc) (frees s σ) tgt ifs elt ds).map PyData.list else none) = _
  rw [ht, hl, h]
  rfl
theorem S_ev {e : Expr} {xs : List PyData} (h : (I P n).ev sc σ e = some (.list xs)) (nc : vNCall e = none := by rfl) : (I P (n + 1)).src sc σ e = some (false, xs) := by
  show srcS (I P n) sc σ e = _
  unfold srcS
  rw [nc]
  show ((I P n).ev sc σ e).bind _ = _
  rw [h]; rfl
theorem S_call {f : Str} {p q : Pos} {as : List Expr} {xs : List PyData} (h : (I P n).ev sc σ (.Call (.Name f p) as [] q) = some (.list xs)) (n1 : isNm f "range" = false) (n2 : isNm f "enumerate" = false) : (I P (n + 1)).src sc σ (.Call (.Name f p) as [] q) = some (false, xs) := by
  show (if (glob sc σ f && isNm f "range") = true then _ else if (glob sc σ f && isNm f "enumerate") = true then _ else srcD (I P n) sc σ (.Call (.Name f p) as [] q)) = _
  rw [n1, n2, Bool.and_false]
  show ((I P n).ev sc σ (.Call (.Name f p) as [] q)).bind _ = _
  rw [h]; rfl
theorem S_range {f : Str} {p q : Pos} {as : List Expr} {ds xs : List PyData} (g : (glob sc σ f && isNm f "range") = true) (ha : mapO ((I P n).ev sc σ) as = some ds) (h : rangeD ds = some xs) : (I P (n + 1)).src sc σ (.Call (.Name f p) as [] q) = some (false, xs) := by
  show (if (glob sc σ f && isNm f "range") = true then ((mapO ((I P n).ev sc σ) as).bind rangeD).map fun x => (false, x) else _) = _
  rw [if_pos g, ha]
  show (rangeD ds).map _ = _
  rw [h]; rfl
theorem S_enum {f : Str} {p q : Pos} {e : Expr} {xs : List PyData} (n1 : isNm f "range" = false) (g : (glob sc σ f && isNm f "enumerate") = true) (h : (I P n).ev sc σ e = some (.list xs)) (hl : few xs.length = true) : (I P (n + 1)).src sc σ (.Call (.Name f p) [e] [] q) = some (true, xs.zipIdx.map fun p => .tuple [.int p.2, p.1]) := by
  show (if (glob sc σ f && isNm f "range") = true then _ else if (glob sc σ f && isNm f "enumerate") = true then srcEnum (I P n) sc σ [e] else _) = _
  rw [n1, Bool.and_false, g]
  show ((I P n).ev sc σ e).bind _ = _
  rw [h]
  show (if few xs.length = true then _ else _) = _
  rw [if_pos hl]
theorem comp_map {R : Ip} {x : Str} {p : Pos} {elt : Expr} {f : PyData → PyData} (hx : sc.lookup x = some .local) : ∀ {ds : List PyData}, (∀ d ∈ ds, R.ev sc ((x, d) :: σ) elt = some (f d)) → compGo R sc σ (.Name x p) [] elt ds = some (ds.map f)
  | [], _ => rfl
  | d :: ds, h => by
    show (if (sc.lookup x == some NameKind.local) = true then some [(x, d)] else none).bind _ = _
    rw [hx, if_pos (by rfl)]
    show (R.ev sc ((x, d) :: σ) elt).bind _ = _
    rw [h d (by simp)]
    show (compGo R sc σ (.Name x p) [] elt ds).bind _ = _
    rw [comp_map hx fun e he => h e (by simp [he])]
    rfl
theorem comp_filter {R : Ip} {x : Str} {p : Pos} {elt c : Expr} {f : PyData → PyData} {t : PyData → Bool} (hx : sc.lookup x = some .local) : ∀ {ds : List PyData}, (∀ d ∈ ds, R.tst sc ((x, d) :: σ) c = some (t d)) → (∀ d ∈ ds, t d = true → R.ev sc ((x, d) :: σ) elt = some (f d)) → compGo R sc σ (.Name x p) [c] elt ds = some ((ds.filter t).map f)
  | [], _, _ => rfl
  | d :: ds, h, k => by
    have ih := comp_filter (p := p) (ds := ds) hx (fun e he => h e (by simp [he])) (fun e he => k e (by simp [he]))
    show (if (sc.lookup x == some NameKind.local) = true then some [(x, d)] else none).bind _ = _
    rw [hx, if_pos (by rfl)]
    show (tests R sc ((x, d) :: σ) [c]).bind _ = _
    show ((R.tst sc ((x, d) :: σ) c).bind _).bind _ = _
    rw [h d (by simp)]
    cases ht : t d with
    | true =>
      show (R.ev sc ((x, d) :: σ) elt).bind _ = _
      rw [k d (by simp) ht]
      show (compGo R sc σ (.Name x p) [c] elt ds).bind _ = _
      rw [ih, List.filter_cons, if_pos ht]
      rfl
    | false =>
      show compGo R sc σ (.Name x p) [c] elt ds = _
      rw [ih, List.filter_cons, if_neg (by simp [ht])]
theorem comp_map2 {R : Ip} {x y : Str} {k : Nat} {p q r : Pos} {elt : Expr} {f : PyData → PyData → PyData} (hx : (sc.lookup x == some .local && sc.lookup y == some .local && x != y) = true) : ∀ {ds : List (PyData × PyData)}, (∀ d ∈ ds, R.ev sc ((y, d.2) :: (x, d.1) :: σ) elt = some (f d.1 d.2)) → compGo R sc σ (.Tuple [.Name x p, .Name y q] k r) [] elt (ds.map fun d => .tuple [d.1, d.2]) = some (ds.map fun d => f d.1 d.2)
  | [], _ => rfl
  | d :: ds, h => by
    show (if (sc.lookup x == some NameKind.local && sc.lookup y == some NameKind.local && x != y) = true then some [(y, d.2), (x, d.1)] else none).bind _ = _
    rw [hx, if_pos (by rfl)]
    show (R.ev sc ((y, d.2) :: (x, d.1) :: σ) elt).bind _ = _
    rw [h d (by simp)]
    show (compGo R sc σ _ [] elt (ds.map fun d => .tuple [d.1, d.2])).bind _ = _
    rw [comp_map2 hx fun e he => h e (by simp [he])]
    rfl
theorem X_cons {R : Ip} {s : Stmt} {r : List Stmt} {o : Out} (h : exSt R sc st s = some (.next st')) (k : exsS R sc st' r = some o) : exsS R sc st (s :: r) = some o := by
  show (exSt R sc st s).bind _ = _
  rw [h]; exact k
theorem X_ret {R : Ip} {s : Stmt} {r : List Stmt} {d : PyData} (h : exSt R sc st s = some (.ret d)) : exsS R sc st (s :: r) = some (.ret d) := by
  show (exSt R sc st s).bind _ = _
  rw [h]; rfl
theorem x_return {R : Ip} {e : Expr} {p : Pos} {d : PyData} (h : R.ev sc (allσ st) e = some d) : exSt R sc st (.Return (some e) p) = some (.ret d) := by
  show (R.ev sc (allσ st) e).map _ = _
  rw [h]; rfl
theorem x_if {R : Ip} {t : Expr} {a b : List Stmt} {p : Pos} {c : Bool} {o : Out} (h : R.tst sc (allσ st) t = some c) (k : cond c (R.exs sc st a) (R.exs sc st b) = some o) : exSt R sc st (.If t a b p) = some o := by
  show (R.tst sc (allσ st) t).bind _ = _
  rw [h]; cases c <;> exact k
theorem evM_sh {R : Ip} {e : Expr} {d : PyData} (h : R.ev sc (shσ st) e = some d) : evM R sc st e = some (d, st) := by
  unfold evM; rw [h]
theorem evM_im {R : Ip} {e : Expr} {d : PyData} (n : R.ev sc (shσ st) e = none) (h : R.ev sc (allσ st) e = some d) (i : imm d = true) : evM R sc st e = some (d, st) := by
  unfold evM; rw [n]; show (match R.ev sc (allσ st) e with | some d => if imm d = true then some (d, st) else some (d, frz st) | none => none) = _
  rw [h]; show (if imm d = true then _ else _) = _
  rw [if_pos i]
theorem evM_fz {R : Ip} {e : Expr} {d : PyData} (n : R.ev sc (shσ st) e = none) (h : R.ev sc (allσ st) e = some d) (i : imm d = false) : evM R sc st e = some (d, frz st) := by
  unfold evM; rw [n]; show (match R.ev sc (allσ st) e with | some d => if imm d = true then some (d, st) else some (d, frz st) | none => none) = _
  rw [h]; show (if imm d = true then _ else _) = _
  rw [i]; rfl
/-- no display, no call of a call -/
noncomputable def evSl (e : Expr) : Bool := (vList e).isNone && (vLR e).isNone
theorem slot_ev {R : Ip} {e : Expr} {d : PyData} (h : evM R sc st e = some (d, st')) (hs : evSl e = true := by rfl) : slotM R sc st e = some (.sh d, st') := by
  have hs := Bool.and_eq_true_iff.mp hs
  unfold slotM
  rw [Option.isNone_iff_eq_none.mp hs.1, Option.isNone_iff_eq_none.mp hs.2]
  show (evM R sc st e).map _ = _
  rw [h]; rfl
theorem x_assign {R : Ip} {x : Str} {p q : Pos} {e : Expr} {sl : Slot} (hs : storable sc x = true) (nc : noComp e = true) (h : slotM R sc st e = some (sl, st')) : exSt R sc st (.Assign [.Name x p] e q) = some (.next (put st' x sl)) := by
  show (if (storable sc x && noComp e) = true then (slotM R sc st e).bind fun p => some (Out.next (put p.2 x p.1)) else none) = _
  rw [hs, nc, h]; rfl
/-- a name takes a shared value -/
theorem x_sh {R : Ip} {x : Str} {p q : Pos} {e : Expr} {d : PyData} (hs : storable sc x = true) (nc : noComp e = true) (es : evSl e = true) (h : R.ev sc (shσ st) e = some d) : exSt R sc st (.Assign [.Name x p] e q) = some (.next (put st x (.sh d))) :=
  x_assign hs nc (slot_ev (evM_sh h) es)
theorem x_for {R : Ip} {tgt iter : Expr} {body : List Stmt} {p : Pos} {b : Bool} {ds : List PyData} {o : Out} (hi : R.src sc (shσ st) iter = some (b, ds)) (ht : fitT b tgt = true) (hl : few ds.length = true) (h : forGo R sc tgt body st ds = some o) : exSt R sc st (.For tgt iter body [] p) = some o := by
  show (R.src sc (shσ st) iter).bind _ = _
  rw [hi]
  show (if (fitT b tgt && few ds.length) = true then forGo R sc tgt body st ds else none) = _
  rw [ht, hl]; exact h
theorem x_while {R : Ip} {t : Expr} {body : List Stmt} {p : Pos} {o : Out} (h : whileGo R sc t body 100 st = some o) : exSt R sc st (.While t body [] p) = some o := h
theorem while_f {R : Ip} {t : Expr} {body : List Stmt} {k : Nat} (h : R.tst sc (allσ st) t = some false) : whileGo R sc t body (k + 1) st = some (.next st) := by
  show (R.tst sc (allσ st) t).bind _ = _
  rw [h]; rfl
theorem while_t {R : Ip} {t : Expr} {body : List Stmt} {k : Nat} {o : Out} (h : R.tst sc (allσ st) t = some true) (h2 : R.exs sc st body = some (.next st')) (h3 : whileGo R sc t body k st' = some o) : whileGo R sc t body (k + 1) st = some o := by
  show (R.tst sc (allσ st) t).bind _ = _
  rw [h]
  show (R.exs sc st body).bind _ = _
  rw [h2]; exact h3
theorem C_fn {f : Str} {ds : List PyData} {q : Fn} {d : PyData} (hk : P.known f = false) (hq : P.fn f = some q) (hl : q.1.length = ds.length) (h : (I P n).exs q.2.2.2.names ((q.1.zip (ds.map .sh)) ++ q.2.1.map fun p => (p.1, .sh p.2)) q.2.2.1 = some (.ret d)) : (I P (n + 1)).call f ds = some d := by
  show (if P.known f = true then P.prim f ds else (P.fn f).bind fun q => if q.1.length = ds.length then ((I P n).exs q.2.2.2.names ((q.1.zip (ds.map .sh)) ++ q.2.1.map fun p => (p.1, .sh p.2)) q.2.2.1).bind fun o => match o with
    | .ret d => some d
    | .next _ => none
  else none) = _
  rw [hk, hq]
  show (if q.1.length = ds.length then _ else none) = _
  rw [if_pos hl, h]
  rfl
end
end Mine
/-! part 45 -/
set_option maxRecDepth 1000000
set_option maxHeartbeats 4000000
namespace Mine
open PySem PySem.Calls PyProof.Rows PySem.W
section
variable {P : Prims} {n : Nat} {sc : Sc} {σ : Sig} {st st' st2 : Sto}
theorem E_join {sep : Str} {k : Nat} {p1 ap p : Pos} {m : Str} {e : Expr} {xs : List PyData} {ts : List Str} (g : (isNm m "join" && sep.length == 0 && ap.endLine == p.line) = true) (h : (I P n).ev sc σ e = some (.list xs)) (hl : few xs.length = true) (ht : strsD xs = some ts) (hf : few ((ts.map (·.length)).sum + ts.length) = true) :
    (I P (n + 1)).ev sc σ (.Call (.Attribute (.Constant (.str sep) k p1) m ap) [e] [] p) = some (.str (Str.join sep ts)) := by
  show (if (isNm m "join" && sep.length == 0 && ap.endLine == p.line) = true then _ else none) = _
  rw [if_pos g]
  show ((I P n).ev sc σ e).bind _ = _
  rw [h]
  show (if few xs.length = true then (strsD xs).bind fun ts => if few ((ts.map (·.length)).sum + ts.length) then some (PyData.str (Str.join sep ts)) else none else none) = _
  rw [if_pos hl, ht]
  show (if few ((ts.map (·.length)).sum + ts.length) = true then _ else _) = _
  rw [if_pos hf]
theorem E_count {x m : Str} {q ap p : Pos} {e : Expr} {xs : List PyData} {d : PyData} (g : (isNm m "count" && ap.endLine == p.line) = true) (hx : σ.lookup x = some (.list xs)) (h : (I P n).ev sc σ e = some d) (hs : (few xs.length && xs.all shaped' && shaped' d) = true) :
    (I P (n + 1)).ev sc σ (.Call (.Attribute (.Name x q) m ap) [e] [] p) = some (.int (xs.countP fun y => PyData.eqv y d)) := by
  show (if (isNm m "count" && ap.endLine == p.line) = true then _ else none) = _
  rw [if_pos g]
  show (σ.lookup x).bind _ = _
  rw [hx]
  show ((I P n).ev sc σ e).bind _ = _
  rw [h]
  show (if (few xs.length && xs.all shaped' && shaped' d) = true then _ else _) = _
  rw [if_pos hs]
theorem E_neg {x : Expr} {p : Pos} {i : Int} (h : (I P n).ev sc σ x = some (.int i)) : (I P (n + 1)).ev sc σ (.UnaryOp .USub x p) = some (.int (-i)) := by
  show ((I P n).ev sc σ x).bind _ = _
  rw [h]; rfl
theorem E_listrange {f g : Str} {p q r t : Pos} {bs : List Expr} {ds xs : List PyData} (gf : glob sc σ f = true) (nf : isNm f "list" = true) (gg : (glob sc σ g && isNm g "range") = true) (hb : mapO ((I P n).ev sc σ) bs = some ds) (hr : rangeD ds = some xs) :
    (I P (n + 1)).ev sc σ (.Call (.Name f p) [.Call (.Name g q) bs [] r] [] t) = some (.list xs) := by
  show (if (!glob sc σ f) = true then none else if isNm f "list" = true then evLR (I P n) sc σ [.Call (.Name g q) bs [] r] else _) = _
  rw [gf, nf]
  show (if (glob sc σ g && isNm g "range") = true then (mapO ((I P n).ev sc σ) bs).bind fun ds => (rangeD ds).map PyData.list else none) = _
  rw [gg, hb]
  show (rangeD ds).map _ = _
  rw [hr]; rfl
theorem E_comp2 {elt i1 i2 : Expr} {x y : Str} {s : Scope} {p q r : Pos} {b : Bool} {ds xs : List PyData} (hs : (okScope s && freesIn sc s && x != y && notSetE i2) = true) (hi : (I P n).src sc σ i1 = some (b, ds)) (ht : fitT b (.Name x p) = true) (hl : few ds.length = true)
    (h : compGo2 (I P n) (relabelN s.names sc) (frees s σ) x y p q i2 elt ds = some xs) : (I P (n + 1)).ev sc σ (.ListComp elt [⟨.Name x p, i1, [], 0⟩, ⟨.Name y q, i2, [], 0⟩] s r) = some (.list xs) := by
  show (if (okScope s && freesIn sc s && x != y && notSetE i2 && (0 : Int) == 0 && (0 : Int) == 0 && ([] : List Expr).isEmpty && ([] : List Expr).isEmpty) = true then ((I P n).src sc σ i1).bind fun items =>
      if (fitT items.1 (.Name x p) && few items.2.length) = true then (compGo2 (I P n) (relabelN s.names sc) (frees s σ) x y p q i2 elt items.2).map PyData.list else none
    else none) = _
  rw [hs, hi]
  show (if (fitT b (.Name x p) && few ds.length) = true then (compGo2 (I P n) (relabelN s.names sc) (frees s σ) x y p q i2 elt ds).map PyData.list else none) = _
  rw [ht, hl, h]
  rfl
theorem x_append {R : Ip} {x m : Str} {q ap p r : Pos} {e : Expr} {ds : List PyData} {d : PyData} (hx : st.lookup x = some (.ow ds)) (hl : few ds.length = true) (h : R.ev sc (shσ st) e = some d) (g : (isNm m "append" && ap.endLine == p.line) = true) (ne : vMeth e = none := by rfl) :
    exSt R sc st (.Expr (.Call (.Attribute (.Name x q) m ap) [e] [] p) r) = some (.next (put st x (.ow (ds ++ [d])))) := by
  show (if (isNm m "append" && ap.endLine == p.line) = true then (match vMeth e with
      | some q => if (isNm q.2.1 "pop" && x != q.1 && q.2.2.1) = true then exPop R sc st x q.1 q.2.2.2 else none
      | none => exApp R sc st x e) else none) = _
  rw [if_pos g, ne]
  show ((st.lookup x).bind vOw).bind _ = _
  rw [hx]
  show (if few ds.length = true then (match R.ev sc (shσ st) e with
        | some d => some (Out.next (put st x (.ow (ds ++ [d]))))
        | none => (R.ev sc (allσ st) e).bind fun d => if imm d then some (Out.next (put st x (.ow (ds ++ [d])))) else none) else none) = _
  rw [if_pos hl, h]
theorem x_appendpop {R : Ip} {x y m m2 : Str} {q ap p r q2 ap2 p2 : Pos} {e : Expr} {ds es : List PyData} {d : PyData} {k : Int} (g : (isNm m "append" && ap.endLine == p.line) = true) (g2 : (isNm m2 "pop" && x != y && ap2.endLine == p2.line) = true) (hx : st.lookup x = some (.ow ds)) (hy : st.lookup y = some (.ow es)) (h : R.ev sc (allσ st) e = some (.int k)) (hk : 0 ≤ k) (h1 : few ds.length = true) (h2 : few es.length = true) (hd : es[k.toNat]? = some d) (hi : imm d = true) :
    exSt R sc st (.Expr (.Call (.Attribute (.Name x q) m ap) [.Call (.Attribute (.Name y q2) m2 ap2) [e] [] p2] [] p) r) = some (.next (put (put st y (.ow (es.eraseIdx k.toNat))) x (.ow (ds ++ [d])))) := by
  show (if (isNm m "append" && ap.endLine == p.line) = true then (if (isNm m2 "pop" && x != y && ap2.endLine == p2.line) = true then exPop R sc st x y [e] else none) else none) = _
  rw [if_pos g, if_pos g2]
  show ((st.lookup x).bind vOw).bind _ = _
  rw [hx]
  show ((st.lookup y).bind vOw).bind _ = _
  rw [hy]
  show (R.ev sc (allσ st) e).bind _ = _
  rw [h]
  show (if 0 ≤ k ∧ few ds.length = true ∧ few es.length = true then _ else _) = _
  rw [if_pos ⟨hk, h1, h2⟩, hd]
  show (if imm d = true then _ else _) = _
  rw [if_pos hi]
theorem x_insert0 {R : Ip} {x m : Str} {q ap p r p0 : Pos} {k0 : Nat} {e : Expr} {ds : List PyData} {d : PyData} (g : (isNm m "insert" && ap.endLine == p.line) = true) (hx : st.lookup x = some (.ow ds)) (hl : few ds.length = true) (h : R.ev sc (allσ st) e = some d) (hi : imm d = true) :
    exSt R sc st (.Expr (.Call (.Attribute (.Name x q) m ap) [.Constant (.int 0) k0 p0, e] [] p) r) = some (.next (put st x (.ow (d :: ds)))) := by
  show (if (isNm m "insert" && ap.endLine == p.line && (some (0 : Int) == some 0)) = true then exIns R sc st x e else none) = _
  rw [g]
  show ((st.lookup x).bind vOw).bind _ = _
  rw [hx]
  show (if few ds.length = true then (R.ev sc (allσ st) e).bind fun d => if imm d then some (Out.next (put st x (.ow (d :: ds)))) else none else none) = _
  rw [if_pos hl, h]
  show (if imm d = true then _ else _) = _
  rw [if_pos hi]
theorem slot_own {R : Ip} {es : List Expr} {p : Pos} {ds : List PyData} (h : mapO (R.ev sc (allσ st)) es = some ds) (hi : (immL ds && few ds.length) = true) : slotM R sc st (.List es p) = some (.ow ds, st) := by
  show (mapO (R.ev sc (allσ st)) es).bind _ = _
  rw [h]
  show (if (immL ds && few ds.length) = true then _ else _) = _
  rw [if_pos hi]
theorem slot_listsh {R : Ip} {es : List Expr} {p : Pos} {ds : List PyData} {d : PyData} (h : mapO (R.ev sc (allσ st)) es = some ds) (hi : (immL ds && few ds.length) = false) (k : evM R sc st (.List es p) = some (d, st')) : slotM R sc st (.List es p) = some (.sh d, st') := by
  show (mapO (R.ev sc (allσ st)) es).bind _ = _
  rw [h]
  show (if (immL ds && few ds.length) = true then _ else (evM R sc st (.List es p)).map _) = _
  rw [hi, k]; rfl
theorem x_assign2 {R : Ip} {x y : Str} {p1 p2 p3 p4 q : Pos} {k k' : Nat} {e f : Expr} {sl sl2 : Slot} (g : (storable sc x && storable sc y && x != y && unfolded [e, f]) = true) (h : slotM R sc st e = some (sl, st')) (h2 : slotM R sc st' f = some (sl2, st2)) :
    exSt R sc st (.Assign [.Tuple [.Name x p1, .Name y p2] k p3] (.Tuple [e, f] k' p4) q) = some (.next (put (put st2 x sl) y sl2)) := by
  show (if (storable sc x && storable sc y && x != y && unfolded [e, f]) = true then (slotM R sc st e).bind _ else none) = _
  rw [if_pos g, h]
  show (slotM R sc st' f).bind _ = _
  rw [h2]; rfl
/-- a loop, with the number of turns told -/
theorem for_ind {R : Ip} {tgt : Expr} {body : List Stmt} {α : Type} {Inv : Nat → α → Sto → Prop} {f : α → PyData → α} : ∀ {ds : List PyData} {i : Nat} {a : α} {st : Sto}, (∀ j a st d, i ≤ j → ds[j - i]? = some d → Inv j a st → ∃ b st', bindT sc tgt d = some b ∧ R.exs sc (b.foldr (fun p st => put st p.1 (.sh p.2)) st) body = some (.next st') ∧ Inv (j + 1) (f a d) st') → Inv i a st →
    ∃ st', forGo R sc tgt body st ds = some (.next st') ∧ Inv (i + ds.length) (ds.foldl f a) st'
  | [], i, a, st, _, v => ⟨st, rfl, v⟩
  | d :: ds, i, a, st, h, v => by
    obtain ⟨b, st1, h1, h2, h3⟩ := h i a st d (Nat.le_refl _) (by simp) v
    obtain ⟨st2, h4, h5⟩ := for_ind (ds := ds) (i := i + 1) (fun j a st e hj he hv => h j a st e (by omega) (by rw [show j - i = (j - (i + 1)) + 1 by omega, List.getElem?_cons_succ]; exact he) hv) h3
    refine ⟨st2, ?_, by rw [List.length_cons, List.foldl_cons, show i + (ds.length + 1) = i + 1 + ds.length by omega]; exact h5⟩
    show (bindT sc tgt d).bind _ = _
    rw [h1]
    show (R.exs sc _ body).bind _ = _
    rw [h2]
    exact h4
end
/-! the text of octets -/
noncomputable def opn (o : Int) : Bool := Int.fmod (Int.fdiv o 64) 2 == 1
noncomputable def one (b : Bool) : Str := if b then nm "(" else nm ")"
theorem strsD_map (ts : List Str) : strsD (ts.map PyData.str) = some ts := by
  induction ts with
  | nil => rfl
  | cons a r ih => show (strsD (r.map PyData.str)).map _ = _; rw [ih]; rfl
theorem few_of {k : Nat} (h : k ≤ 100000) : few k = true := by simp [few, h]
theorem text_ev {n : Nat} (os : List Int) (hl : os.length ≤ 64) : (I P0 (n + 10)).call (nm "_law_text") [intsD os] = some (.str (Str.join (nm "") (os.map fun o => one (opn o)))) := by
  have hone : ∀ b, (one b).length = 1 := by intro b; cases b <;> rfl
  refine C_fn (q := qOf (nm "_law_text")) (by kernel_rfl!) (by kernel_rfl!) rfl ?_
  refine X_ret (x_return ?_)
  refine E_join (xs := (os.map PyData.int).map fun d => .str (match d with | .int o => one (opn o) | _ => nm "")) (ts := os.map fun o => one (opn o)) (by rfl) (E_comp (ds := os.map PyData.int) (by kernel_rfl!) (by kernel_rfl!) (S_ev E_name) rfl ?_ (comp_map rfl fun d hd => ?_)) ?_ ?_ ?_
  · exact few_of (by rw [List.length_map]; omega)
  · obtain ⟨o, _, rfl⟩ := List.mem_map.mp hd
    refine E_ifexp (c := opn o) (T_cmp (E_bin (E_bin E_name E_const) E_const) E_const) ?_
    show _ = some (PyData.str (one (opn o)))
    generalize opn o = b
    cases b <;> rfl
  · exact few_of (by rw [List.length_map, List.length_map]; omega)
  · rw [List.map_map]
    exact (congrArg strsD (by rw [List.map_map]; rfl)).trans (strsD_map (os.map fun o => one (opn o)))
  · refine few_of ?_
    have : (List.map (·.length) (os.map fun o => one (opn o))).sum = os.length := by
      clear hl
      induction os with
      | nil => rfl
      | cons a r ih => simp only [List.map_cons, List.sum_cons, List.length_cons, hone]; omega
    rw [this, List.length_map]; omega
end Mine
/-! part 46 -/
set_option maxRecDepth 1000000
set_option maxHeartbeats 4000000
namespace Mine
open PySem PySem.Calls PyProof.Rows PySem.W
/-- a block that ends by its last statement -/
noncomputable def Ends (R : Ip) (sc : Sc) (st : Sto) (body : List Stmt) (Q : Sto → Prop) : Prop := ∃ st', exsS R sc st body = some (.next st') ∧ Q st'
/-- a block that returns -/
noncomputable def Rets (R : Ip) (sc : Sc) (st : Sto) (body : List Stmt) (d : PyData) : Prop := exsS R sc st body = some (.ret d)
section
variable {P : Prims} {n : Nat} {sc : Sc} {σ : Sig} {st st' st2 : Sto} {R : Ip} {s : Stmt} {r : List Stmt} {Q : Sto → Prop} {d : PyData}
theorem N_cons (h : exSt R sc st s = some (.next st')) (k : Ends R sc st' r Q) : Ends R sc st (s :: r) Q := by
  obtain ⟨st2, h1, h2⟩ := k
  exact ⟨st2, X_cons h h1, h2⟩
theorem N_nil (h : Q st) : Ends R sc st [] Q := ⟨st, rfl, h⟩
theorem R_cons (h : exSt R sc st s = some (.next st')) (k : Rets R sc st' r d) : Rets R sc st (s :: r) d := X_cons h k
theorem R_ret {e : Expr} {p : Pos} (h : R.ev sc (allσ st) e = some d) : Rets R sc st (.Return (some e) p :: r) d := X_ret (x_return h)
theorem N_if {t : Expr} {a b : List Stmt} {p : Pos} {c : Bool} (h : (I P (n + 1)).tst sc (allσ st) t = some c) (k : Ends (I P n) sc st (cond c a b) fun st' => Ends (I P (n + 1)) sc st' r Q) : Ends (I P (n + 1)) sc st (.If t a b p :: r) Q := by
  obtain ⟨st1, h1, st2, h2, h3⟩ := k
  refine ⟨st2, X_cons (x_if h ?_) h2, h3⟩
  cases c <;> exact h1
theorem R_if {t : Expr} {a b : List Stmt} {p : Pos} {c : Bool} (h : (I P (n + 1)).tst sc (allσ st) t = some c) (k : Ends (I P n) sc st (cond c a b) fun st' => Rets (I P (n + 1)) sc st' r d) : Rets (I P (n + 1)) sc st (.If t a b p :: r) d := by
  obtain ⟨st1, h1, h2⟩ := k
  refine X_cons (x_if h ?_) h2
  cases c <;> exact h1
section
variable {tgt iter : Expr} {body : List Stmt} {p : Pos} {b : Bool} {ds : List PyData} {α : Type} {Inv : Nat → α → Sto → Prop} {f : α → PyData → α} {a : α}
theorem for_ends (hi : (I P (n + 1)).src sc (shσ st) iter = some (b, ds)) (ht : fitT b tgt = true) (hl : few ds.length = true)
    (h : ∀ j a st d, ds[j]? = some d → Inv j a st → ∃ b, bindT sc tgt d = some b ∧ Ends (I P n) sc (b.foldr (fun p st => put st p.1 (.sh p.2)) st) body (Inv (j + 1) (f a d))) (h0 : Inv 0 a st) :
    ∃ st', exSt (I P (n + 1)) sc st (.For tgt iter body [] p) = some (.next st') ∧ Inv ds.length (ds.foldl f a) st' := by
  obtain ⟨st', h1, h2⟩ := for_ind (R := I P (n + 1)) (sc := sc) (tgt := tgt) (body := body) (ds := ds) (i := 0) (Inv := Inv) (f := f) (fun j a st d _ hd hv => by
    obtain ⟨b, e1, st', e2, e3⟩ := h j a st d hd hv
    exact ⟨b, st', e1, e2, e3⟩) h0
  exact ⟨st', x_for hi ht hl h1, by simpa using h2⟩
theorem R_for (hi : (I P (n + 1)).src sc (shσ st) iter = some (b, ds)) (ht : fitT b tgt = true) (hl : few ds.length = true)
    (h : ∀ j a st d, ds[j]? = some d → Inv j a st → ∃ b, bindT sc tgt d = some b ∧ Ends (I P n) sc (b.foldr (fun p st => put st p.1 (.sh p.2)) st) body (Inv (j + 1) (f a d))) (h0 : Inv 0 a st)
    (k : ∀ st', Inv ds.length (ds.foldl f a) st' → Rets (I P (n + 1)) sc st' r d) : Rets (I P (n + 1)) sc st (.For tgt iter body [] p :: r) d := by
  obtain ⟨st', h1, h2⟩ := for_ends hi ht hl h h0
  exact X_cons h1 (k _ h2)
theorem N_for (hi : (I P (n + 1)).src sc (shσ st) iter = some (b, ds)) (ht : fitT b tgt = true) (hl : few ds.length = true)
    (h : ∀ j a st d, ds[j]? = some d → Inv j a st → ∃ b, bindT sc tgt d = some b ∧ Ends (I P n) sc (b.foldr (fun p st => put st p.1 (.sh p.2)) st) body (Inv (j + 1) (f a d))) (h0 : Inv 0 a st)
    (k : ∀ st', Inv ds.length (ds.foldl f a) st' → Ends (I P (n + 1)) sc st' r Q) : Ends (I P (n + 1)) sc st (.For tgt iter body [] p :: r) Q := by
  obtain ⟨st', h1, h2⟩ := for_ends hi ht hl h h0
  exact N_cons h1 (k _ h2)
end
/-- a while's turns -/
noncomputable def loopN {α : Type} (cont : α → Bool) (nxt : α → α) : Nat → α → Option α
  | 0, _ => none
  | k + 1, a => if cont a = true then loopN cont nxt k (nxt a) else some a
section
variable {t : Expr} {body : List Stmt} {p : Pos} {α : Type} {Inv : α → Sto → Prop} {cont : α → Bool} {nxt : α → α}
theorem while_sim (h1 : ∀ a st, Inv a st → (I P (n + 1)).tst sc (allσ st) t = some (cont a)) (h2 : ∀ a st, Inv a st → cont a = true → Ends (I P n) sc st body (Inv (nxt a))) : ∀ {k : Nat} {a a' : α} {st : Sto}, loopN cont nxt k a = some a' → Inv a st → ∃ st', whileGo (I P (n + 1)) sc t body k st = some (.next st') ∧ Inv a' st' ∧ cont a' = false
  | 0, a, a', st, e, _ => by cases e
  | k + 1, a, a', st, e, v => by
    unfold loopN at e
    cases hc : cont a with
    | false =>
      rw [hc] at e; cases e
      exact ⟨st, while_f (by rw [h1 a st v, hc]), v, hc⟩
    | true =>
      rw [hc, if_pos rfl] at e
      obtain ⟨st1, e1, v1⟩ := h2 a st v hc
      obtain ⟨st2, e2, v2⟩ := while_sim h1 h2 e v1
      exact ⟨st2, while_t (by rw [h1 a st v, hc]) e1 e2, v2⟩
theorem R_while {a a' : α} (h1 : ∀ a st, Inv a st → (I P (n + 1)).tst sc (allσ st) t = some (cont a)) (h2 : ∀ a st, Inv a st → cont a = true → Ends (I P n) sc st body (Inv (nxt a))) (e : loopN cont nxt 100 a = some a') (v : Inv a st) (k : ∀ st', Inv a' st' → cont a' = false → Rets (I P (n + 1)) sc st' r d) : Rets (I P (n + 1)) sc st (.While t body [] p :: r) d := by
  obtain ⟨st', e1, v', c'⟩ := while_sim h1 h2 e v
  exact X_cons (x_while e1) (k st' v' c')
theorem N_while {a a' : α} (h1 : ∀ a st, Inv a st → (I P (n + 1)).tst sc (allσ st) t = some (cont a)) (h2 : ∀ a st, Inv a st → cont a = true → Ends (I P n) sc st body (Inv (nxt a))) (e : loopN cont nxt 100 a = some a') (v : Inv a st) (k : ∀ st', Inv a' st' → cont a' = false → Ends (I P (n + 1)) sc st' r Q) : Ends (I P (n + 1)) sc st (.While t body [] p :: r) Q := by
  obtain ⟨st', e1, v', c'⟩ := while_sim h1 h2 e v
  exact N_cons (x_while e1) (k st' v' c')
end
theorem C_rets {f : Str} {ds : List PyData} {q : Fn} (hk : P.known f = false) (hq : P.fn f = some q) (hl : q.1.length = ds.length) (h : Rets (I P n) q.2.2.2.names ((q.1.zip (ds.map .sh)) ++ q.2.1.map fun p => (p.1, .sh p.2)) q.2.2.1 d) : (I P (n + 2)).call f ds = some d := C_fn hk hq hl h
theorem C_known {f : Str} {ds : List PyData} (hk : P.known f = true) (h : P.prim f ds = some d) : (I P (n + 1)).call f ds = some d := by
  show (if P.known f = true then P.prim f ds else _) = _
  rw [if_pos hk]; exact h
end
/-! `_pre_parse_validation` -/
noncomputable def bad : Str := nm "('', '')"
noncomputable def chk (x : Str) : Str := if bal x.cps.toList 0 then x else bad
theorem foldl_snoc {α β : Type} (f : α → β) : ∀ (l : List α) (a : List β), l.foldl (fun a x => a ++ [f x]) a = a ++ l.map f
  | [], a => by simp
  | x :: l, a => by simp [foldl_snoc f l]
theorem pre_ev {n : Nat} (xs : List Str) (hl : xs.length ≤ 64) (hp : ∀ x ∈ xs, plainTxt x = true) : (I P0 (n + 12)).call (nm "_pre_parse_validation") [.list (xs.map .str)] = some (.list (xs.map fun x => .str (chk x))) := by
  refine C_rets (q := qOf (nm "_pre_parse_validation")) (by kernel_rfl!) (by kernel_rfl!) rfl ?_
  refine R_cons (x_assign rfl rfl (slot_own rfl rfl)) ?_
  refine R_for (α := List PyData) (a := []) (f := fun a d => a ++ [match d with | .str x => .str (chk x) | d => d]) (Inv := fun i a st => a.length = i ∧ (st = [(nm "accepted_values", .ow a), (nm "email_header_fields", .sh (.list (xs.map .str)))] ∨ ∃ v, st = [(nm "accepted_values", .ow a), (nm "v", .sh v), (nm "email_header_fields", .sh (.list (xs.map .str)))])) (S_ev E_name) rfl (few_of (by rw [List.length_map]; omega)) (fun j a st d hd hv => ?_) ⟨rfl, .inl rfl⟩ (fun st' hv => ?_)
  · obtain ⟨hj, hv⟩ := hv
    have hj2 := (List.getElem?_eq_some_iff.mp hd).1
    rw [List.length_map] at hj2
    rw [List.getElem?_map, Option.map_eq_some_iff] at hd
    obtain ⟨x, hx, rfl⟩ := hd
    have hpx := hp x (List.mem_of_getElem? hx)
    have hcall : ∀ m, (I P0 (m + 1)).call (nm "_check_parenthesis") [.str x] = some (.bool (bal x.cps.toList 0)) := fun m => C_known rfl (by
      show (if plainTxt x = true then _ else _) = _
      rw [if_pos hpx])
    refine ⟨_, rfl, ?_⟩
    cases hb : bal x.cps.toList 0 with
    | true =>
      rw [hb] at hcall
      have hc : chk x = x := by unfold chk; rw [if_pos hb]
      rcases hv with rfl | ⟨v, rfl⟩ <;>
      · refine N_if (T_not (T_call (E_call rfl rfl rfl rfl (mapO1 E_name) (hcall _)))) (N_nil ?_)
        refine N_cons (x_append (ds := a) rfl (few_of (by omega)) E_name (by rfl)) (N_nil ⟨by simp [hj], .inr ⟨.str x, ?_⟩⟩)
        show _ = [(nm "accepted_values", Slot.ow (a ++ [.str (chk x)])), _, _]
        rw [hc]; rfl
    | false =>
      rw [hb] at hcall
      have hc : chk x = bad := by unfold chk; rw [hb]; rfl
      rcases hv with rfl | ⟨v, rfl⟩ <;>
      · refine N_if (T_not (T_call (E_call rfl rfl rfl rfl (mapO1 E_name) (hcall _)))) (N_cons (x_sh rfl rfl rfl E_const) (N_nil ?_))
        refine N_cons (x_append (ds := a) rfl (few_of (by omega)) E_name (by rfl)) (N_nil ⟨by simp [hj], .inr ⟨.str bad, ?_⟩⟩)
        show _ = [(nm "accepted_values", Slot.ow (a ++ [.str (chk x)])), _, _]
        rw [hc]; rfl
  · obtain ⟨_, hv⟩ := hv
    rw [foldl_snoc, List.nil_append, List.map_map] at hv
    rcases hv with rfl | ⟨v, rfl⟩ <;> exact R_ret E_name
end Mine
/-! part 47 -/
set_option maxRecDepth 1000000
set_option maxHeartbeats 4000000
namespace Mine
open PySem PySem.Calls PyProof.Rows PySem.W
noncomputable def Nd (st : Sto) : Prop := (st.map (·.1)).Nodup
section
variable {st : Sto} {x y : Str} {sl : Slot} {d : PyData} {ds : List PyData} {o : Option Slot} {sc : Sc}
theorem lk_same : (put st x sl).lookup x = some sl := by rw [put_lookup, if_pos rfl]
theorem lk_ne (h : y ≠ x) (k : st.lookup y = o) : (put st x sl).lookup y = o := by rw [put_lookup, if_neg h]; exact k
theorem sh_lk : ∀ {st : Sto}, st.lookup x = some (.sh d) → (shσ st).lookup x = some d
  | (y, sl) :: st, h => by
    rw [List.lookup_cons] at h
    split at h
    · rename_i hb
      cases h
      show List.lookup x ((y, d) :: shσ st) = _
      rw [List.lookup_cons, hb]
    · rename_i hb
      cases sl with
      | sh e =>
        show List.lookup x ((y, e) :: shσ st) = _
        rw [List.lookup_cons, hb]
        exact sh_lk h
      | ow e => exact (sh_lk (st := st) h : (shσ st).lookup x = _)
theorem sh_none : ∀ {st : Sto}, st.lookup x = none → (shσ st).lookup x = none
  | [], _ => rfl
  | (y, sl) :: st, h => by
    rw [List.lookup_cons] at h
    split at h
    · cases h
    · rename_i hb
      cases sl with
      | sh e =>
        show List.lookup x ((y, e) :: shσ st) = _
        rw [List.lookup_cons, hb]
        exact sh_none h
      | ow e => exact (sh_none (st := st) h : (shσ st).lookup x = _)
theorem al_ow : ∀ {st : Sto}, st.lookup x = some (.ow ds) → (allσ st).lookup x = some (.list ds)
  | (y, sl) :: st, h => by
    rw [List.lookup_cons] at h
    split at h
    · rename_i hb
      cases h
      show List.lookup x ((y, .list ds) :: allσ st) = _
      rw [List.lookup_cons, hb]
    · rename_i hb
      cases sl with
      | sh e =>
        show List.lookup x ((y, e) :: allσ st) = _
        rw [List.lookup_cons, hb]
        exact al_ow h
      | ow e =>
        show List.lookup x ((y, .list e) :: allσ st) = _
        rw [List.lookup_cons, hb]
        exact al_ow h
theorem al_sh : ∀ {st : Sto}, st.lookup x = some (.sh d) → (allσ st).lookup x = some d
  | (y, sl) :: st, h => by
    rw [List.lookup_cons] at h
    split at h
    · rename_i hb
      cases h
      show List.lookup x ((y, d) :: allσ st) = _
      rw [List.lookup_cons, hb]
    · rename_i hb
      cases sl with
      | sh e =>
        show List.lookup x ((y, e) :: allσ st) = _
        rw [List.lookup_cons, hb]
        exact al_sh h
      | ow e =>
        show List.lookup x ((y, .list e) :: allσ st) = _
        rw [List.lookup_cons, hb]
        exact al_sh h
theorem fz_sh : ∀ {st : Sto}, st.lookup x = some (.sh d) → (frz st).lookup x = some (.sh d)
  | (y, sl) :: st, h => by
    rw [List.lookup_cons] at h
    split at h
    · rename_i hb
      cases h
      show List.lookup x ((y, .sh d) :: frz st) = _
      rw [List.lookup_cons, hb]
    · rename_i hb
      cases sl with
      | sh e =>
        show List.lookup x ((y, .sh e) :: frz st) = _
        rw [List.lookup_cons, hb]
        exact fz_sh h
      | ow e =>
        show List.lookup x ((y, .sh (.list e)) :: frz st) = _
        rw [List.lookup_cons, hb]
        exact fz_sh h
theorem fz_none : ∀ {st : Sto}, st.lookup x = none → (frz st).lookup x = none
  | [], _ => rfl
  | (y, sl) :: st, h => by
    rw [List.lookup_cons] at h
    split at h
    · cases h
    · rename_i hb
      cases sl with
      | sh e =>
        show List.lookup x ((y, .sh e) :: frz st) = _
        rw [List.lookup_cons, hb]
        exact fz_none h
      | ow e =>
        show List.lookup x ((y, .sh (.list e)) :: frz st) = _
        rw [List.lookup_cons, hb]
        exact fz_none h
theorem sh_ow (hn : Nd st) (h : st.lookup x = some (.ow ds)) : (shσ st).lookup x = none := by
  cases e : (shσ st).lookup x with
  | none => rfl
  | some d => rw [shσ_lookup hn e] at h; cases h
theorem glob_sh (h1 : sc.lookup x = some .globalImplicit) (h : st.lookup x = none) : glob sc (shσ st) x = true := by
  unfold glob; rw [h1, sh_none h]; rfl
theorem Nd.put (h : Nd st) : Nd (Mine.put st x sl) := put_nd h
theorem Nd.frz (h : Nd st) : Nd (Mine.frz st) := by unfold Nd; rw [frz_names]; exact h
end
/-! the bisections -/
abbrev ltP (a : Int × Int) : Bool := decide (a.1 < a.2)
noncomputable def midP (a : Int × Int) : Int := (a.1 + a.2).fdiv 2
noncomputable def nxtR (xs : List Int) (x : Int) (a : Int × Int) : Int × Int := if x < xs.getD (midP a).toNat 0 then (a.1, midP a) else (midP a + 1, a.2)
noncomputable def nxtL (xs : List Int) (x : Int) (a : Int × Int) : Int × Int := if xs.getD (midP a).toNat 0 < x then (midP a + 1, a.2) else (a.1, midP a)
theorem midP_in {a : Int × Int} (h : a.1 < a.2) : a.1 ≤ midP a ∧ midP a < a.2 := by
  unfold midP
  rw [Int.fdiv_eq_ediv_of_nonneg _ (by omega)]
  omega
theorem idx_mid {xs : List Int} {a : Int × Int} (h : a.1 < a.2) (h0 : 0 ≤ a.1) (h1 : a.2 ≤ xs.length) : idxD (xs.map .int) (midP a) = some (.int (xs.getD (midP a).toNat 0)) := by
  have := midP_in h
  unfold idxD
  rw [if_pos (by omega), List.getElem?_map, List.getD_eq_getElem?_getD, List.getElem?_eq_getElem (by omega)]
  rfl
structure BiS (xs : List Int) (x : Int) (a : Int × Int) (st : Sto) : Prop where
  b0 : 0 ≤ a.1
  b1 : a.2 ≤ xs.length
  b2 : a.1 ≤ a.2
  lo : st.lookup (nm "lo") = some (.sh (.int a.1))
  hi : st.lookup (nm "hi") = some (.sh (.int a.2))
  la : st.lookup (nm "a") = some (.sh (intsD xs))
  lx : st.lookup (nm "x") = some (.sh (.int x))
theorem BiS.to_hi {xs : List Int} {x : Int} {a : Int × Int} {st : Sto} {m : PyData} (v : BiS xs x a st) (hc : a.1 < a.2) : BiS xs x (a.1, midP a) (put (put st (nm "mid") (.sh m)) (nm "hi") (.sh (.int (midP a)))) := by
  have := v.b1
  have hm := midP_in hc
  exact ⟨v.b0, by show midP a ≤ _; omega, hm.1, lk_ne (by decide) (lk_ne (by decide) v.lo), lk_same, lk_ne (by decide) (lk_ne (by decide) v.la), lk_ne (by decide) (lk_ne (by decide) v.lx)⟩
theorem BiS.to_lo {xs : List Int} {x : Int} {a : Int × Int} {st : Sto} {m : PyData} (v : BiS xs x a st) (hc : a.1 < a.2) : BiS xs x (midP a + 1, a.2) (put (put st (nm "mid") (.sh m)) (nm "lo") (.sh (.int (midP a + 1)))) := by
  have h0 := v.b0
  have hm := midP_in hc
  exact ⟨by show 0 ≤ midP a + 1; omega, v.b1, by show midP a + 1 ≤ a.2; omega, lk_same, lk_ne (by decide) (lk_ne (by decide) v.hi), lk_ne (by decide) (lk_ne (by decide) v.la), lk_ne (by decide) (lk_ne (by decide) v.lx)⟩
theorem bi_ends {k : Nat} : ∀ {xs : List Int} {nxt : Int × Int → Int × Int} (hn : ∀ a, a.1 < a.2 → (nxt a = (a.1, midP a) ∨ nxt a = (midP a + 1, a.2))) {a : Int × Int}, (a.2 - a.1).toNat < k → 0 ≤ a.1 → a.1 ≤ a.2 → a.2 ≤ xs.length → ∃ r : Nat, loopN ltP nxt k a = some ((r : Int), (r : Int)) ∧ r ≤ xs.length := by
  induction k with
  | zero => intro _ _ _ _ h; omega
  | succ k ih =>
    intro xs nxt hn a h h0 h1 h2
    unfold loopN
    by_cases hc : a.1 < a.2
    · have := midP_in hc
      rw [if_pos (by simpa using hc)]
      rcases hn a hc with e | e <;> rw [e]
      · exact ih hn (a := (a.1, midP a)) (by dsimp only; omega) h0 (by dsimp only; omega) (by dsimp only; omega)
      · exact ih hn (a := (midP a + 1, a.2)) (by dsimp only; omega) (by dsimp only; omega) (by dsimp only; omega) h2
    · rw [if_neg (by simpa using hc)]
      refine ⟨a.1.toNat, ?_, by omega⟩
      have e1 : ((a.1.toNat : Nat) : Int) = a.1 := by omega
      have e2 : a.2 = a.1 := by omega
      rw [e1]
      exact congrArg some (Prod.ext rfl e2)
noncomputable def biR (xs : List Int) (x : Int) : Option (Int × Int) := loopN ltP (nxtR xs x) 100 (0, xs.length)
noncomputable def biL (xs : List Int) (x : Int) : Option (Int × Int) := loopN ltP (nxtL xs x) 100 (0, xs.length)
theorem nxtL_or (xs : List Int) (x : Int) (a : Int × Int) : nxtL xs x a = (a.1, midP a) ∨ nxtL xs x a = (midP a + 1, a.2) := by unfold nxtL; split <;> simp
theorem biL_ends {xs : List Int} (x : Int) (h : xs.length < 100) : ∃ r : Nat, biL xs x = some ((r : Int), (r : Int)) ∧ r ≤ xs.length := bi_ends (fun a _ => nxtL_or xs x a) (by dsimp only; omega) (by simp) (by simp) (by simp)
theorem len_ev (xs : List Int) (h : few (xs.map PyData.int).length = true) : bfn P0 "len" [.list (xs.map PyData.int)] = some (.int xs.length) := by
  show (if few (xs.map PyData.int).length = true then some (PyData.int ((xs.map PyData.int).length : Nat)) else none) = _
  rw [if_pos h, List.length_map]
theorem bisR_ev {n : Nat} (xs : List Int) (x : Int) (hl : xs.length < 100) {lo hi : Int} (e : biR xs x = some (lo, hi)) : (I P0 (n + 8)).call (nm "bisect_right") [intsD xs, .int x] = some (.int lo) := by
  have hfew : few (xs.map PyData.int).length = true := few_of (by rw [List.length_map]; omega)
  refine C_rets (q := qOf (nm "bisect_right")) (by kernel_rfl!) (by kernel_rfl!) rfl ?_
  refine R_if (c := false) (T_cmp (a := .int 0) (b := .int 0) E_name E_const) (N_nil ?_)
  refine R_if (c := true) (T_cmp (a := .none) (b := .none) E_name E_const) (N_cons (x_sh (d := .int xs.length) rfl rfl rfl (E_bfn (b := "len") rfl rfl rfl rfl (mapO1 E_name) (len_ev xs hfew))) (N_nil ?_))
  refine R_if (c := true) (T_cmp (a := .none) (b := .none) E_name E_const) ?_
  refine N_while (Inv := BiS xs x) (cont := ltP) (nxt := nxtR xs x) (a := (0, xs.length)) (a' := (lo, hi)) (fun a st v => T_cmp (E_name (al_sh v.lo)) (E_name (al_sh v.hi))) (fun a st v hc => ?_) e ⟨Int.le_refl _, Int.le_refl _, Int.natCast_nonneg _, rfl, rfl, rfl, rfl⟩ (fun st' v c => N_nil (R_ret (E_name (al_sh v.lo))))
  have hc : a.1 < a.2 := of_decide_eq_true hc
  have hi := idx_mid hc v.b0 v.b1
  refine N_cons (x_sh rfl rfl rfl (E_bin (E_bin (E_name (sh_lk v.lo)) (E_name (sh_lk v.hi))) E_const)) ?_
  refine N_if (c := decide (x < xs.getD (midP a).toNat 0)) (T_cmp (E_name (al_sh (lk_ne (by decide) v.lx))) (E_sub (E_name (al_sh (lk_ne (by decide) v.la))) (E_name (al_sh lk_same)) hfew hi)) ?_
  by_cases hx : x < xs.getD (midP a).toNat 0
  · rw [decide_eq_true hx, show nxtR xs x a = (a.1, midP a) from if_pos hx]
    exact N_cons (x_sh rfl rfl rfl (E_name (sh_lk lk_same))) (N_nil (N_nil (v.to_hi hc)))
  · rw [decide_eq_false hx, show nxtR xs x a = (midP a + 1, a.2) from if_neg hx]
    exact N_cons (x_sh rfl rfl rfl (E_bin (E_name (sh_lk lk_same)) E_const)) (N_nil (N_nil (v.to_lo hc)))
theorem bisL_ev {n : Nat} (xs : List Int) (x : Int) (hl : xs.length < 100) {lo hi : Int} (e : biL xs x = some (lo, hi)) : (I P0 (n + 8)).call (nm "bisect_left") [intsD xs, .int x] = some (.int lo) := by
  have hfew : few (xs.map PyData.int).length = true := few_of (by rw [List.length_map]; omega)
  refine C_rets (q := qOf (nm "bisect_left")) (by kernel_rfl!) (by kernel_rfl!) rfl ?_
  refine R_if (c := false) (T_cmp (a := .int 0) (b := .int 0) E_name E_const) (N_nil ?_)
  refine R_if (c := true) (T_cmp (a := .none) (b := .none) E_name E_const) (N_cons (x_sh (d := .int xs.length) rfl rfl rfl (E_bfn (b := "len") rfl rfl rfl rfl (mapO1 E_name) (len_ev xs hfew))) (N_nil ?_))
  refine R_if (c := true) (T_cmp (a := .none) (b := .none) E_name E_const) ?_
  refine N_while (Inv := BiS xs x) (cont := ltP) (nxt := nxtL xs x) (a := (0, xs.length)) (a' := (lo, hi)) (fun a st v => T_cmp (E_name (al_sh v.lo)) (E_name (al_sh v.hi))) (fun a st v hc => ?_) e ⟨Int.le_refl _, Int.le_refl _, Int.natCast_nonneg _, rfl, rfl, rfl, rfl⟩ (fun st' v c => N_nil (R_ret (E_name (al_sh v.lo))))
  have hc : a.1 < a.2 := of_decide_eq_true hc
  have hi := idx_mid hc v.b0 v.b1
  refine N_cons (x_sh rfl rfl rfl (E_bin (E_bin (E_name (sh_lk v.lo)) (E_name (sh_lk v.hi))) E_const)) ?_
  refine N_if (c := decide (xs.getD (midP a).toNat 0 < x)) (T_cmp (E_sub (E_name (al_sh (lk_ne (by decide) v.la))) (E_name (al_sh lk_same)) hfew hi) (E_name (al_sh (lk_ne (by decide) v.lx)))) ?_
  by_cases hx : xs.getD (midP a).toNat 0 < x
  · rw [decide_eq_true hx, show nxtL xs x a = (midP a + 1, a.2) from if_pos hx]
    exact N_cons (x_sh rfl rfl rfl (E_bin (E_name (sh_lk lk_same)) E_const)) (N_nil (N_nil (v.to_lo hc)))
  · rw [decide_eq_false hx, show nxtL xs x a = (a.1, midP a) from if_neg hx]
    exact N_cons (x_sh rfl rfl rfl (E_name (sh_lk lk_same))) (N_nil (N_nil (v.to_hi hc)))
/-! `_law_figures` -/
noncomputable def nxtF (a : Int × List Int) : Int × List Int := (a.1.fdiv 64, (a.1.fdiv 64).fmod 64 :: a.2)
noncomputable def moreF (a : Int × List Int) : Bool := decide (64 ≤ a.1)
theorem figures_ev {n : Nat} (x : Int) {v : Int} {fs : List Int} (e : loopN moreF nxtF 100 (x, [x.fmod 64]) = some (v, fs)) (hx : 0 ≤ x) (hx2 : x < 64 ^ 10) : (I P0 (n + 12)).call (nm "_law_figures") [.int x] = some (intsD fs) := by
  refine C_rets (q := qOf (nm "_law_figures")) (by kernel_rfl!) (by kernel_rfl!) rfl ?_
  refine R_cons (x_assign rfl rfl (slot_own (mapO1 (E_bin E_name E_const)) rfl)) ?_
  refine R_while (Inv := fun a st => (∃ m : Nat, a.2.length + m = 11 ∧ 0 ≤ a.1 ∧ a.1 < 64 ^ m) ∧ st = [(nm "figures", .ow (a.2.map .int)), (nm "number", .sh (.int a.1))]) (cont := moreF) (nxt := nxtF) (a := (x, [x.fmod 64])) (a' := (v, fs)) (fun a st v => ?_) (fun a st v hc => ?_) e ⟨⟨10, by simp, hx, hx2⟩, rfl⟩ (fun st' v c => ?_)
  · obtain ⟨_, rfl⟩ := v
    exact T_cmp E_name E_const
  · obtain ⟨⟨m, hl, h0, h1⟩, rfl⟩ := v
    have hc : 64 ≤ a.1 := by simpa [moreF] using hc
    refine N_cons (x_sh rfl rfl rfl (E_bin E_name E_const)) (N_cons (x_insert0 (ds := a.2.map .int) (by rfl) rfl (few_of (by rw [List.length_map]; omega)) (E_bin E_name E_const) (by rfl)) (N_nil ⟨?_, ?_⟩))
    · obtain ⟨m, rfl⟩ : ∃ k, m = k + 1 := by
        cases m with
        | zero => simp at h1; omega
        | succ k => exact ⟨k, rfl⟩
      refine ⟨m, by simp only [nxtF, List.length_cons]; omega, ?_, ?_⟩
      · simp only [nxtF]; rw [Int.fdiv_eq_ediv_of_nonneg _ (by omega)]; omega
      · simp only [nxtF]; rw [Int.fdiv_eq_ediv_of_nonneg _ (by omega)]
        rw [Int.pow_succ] at h1
        omega
    · rfl
  · obtain ⟨_, rfl⟩ := v
    exact R_ret E_name
end Mine
/-! part 48 -/
set_option maxRecDepth 1000000
set_option maxHeartbeats 4000000
namespace Mine
open PySem PySem.Calls PyProof.Rows PySem.W
section
variable {P : Prims} {n : Nat} {sc : Sc} {σ : Sig} {st st' st2 : Sto} {R : Ip}
theorem slot_range {f g : Str} {p q r t : Pos} {bs : List Expr} {ds xs : List PyData} (h : (glob sc (allσ st) f && isNm f "list" && glob sc (allσ st) g && isNm g "range") = true) (hb : mapO (R.ev sc (allσ st)) bs = some ds) (hr : rangeD ds = some xs) :
    slotM R sc st (.Call (.Name f p) [.Call (.Name g q) bs [] r] [] t) = some (.ow xs, st) := by
  show (if (glob sc (allσ st) f && isNm f "list" && glob sc (allσ st) g && isNm g "range") = true then
      (mapO (R.ev sc (allσ st)) bs).bind fun ds => (rangeD ds).map fun xs => (Slot.ow xs, st)
    else _) = _
  rw [if_pos h, hb]
  show (rangeD ds).map _ = _
  rw [hr]; rfl
theorem x_assign3 {x y z : Str} {p1 p2 p3 p4 p5 q : Pos} {k k' : Nat} {e f g : Expr} {sl sl2 sl3 : Slot} {st3 : Sto} (c : (storable sc x && storable sc y && storable sc z && x != y && x != z && y != z && unfolded [e, f, g]) = true) (h : slotM R sc st e = some (sl, st')) (h2 : slotM R sc st' f = some (sl2, st2)) (h3 : slotM R sc st2 g = some (sl3, st3)) :
    exSt R sc st (.Assign [.Tuple [.Name x p1, .Name y p2, .Name z p5] k p3] (.Tuple [e, f, g] k' p4) q) = some (.next (put (put (put st3 x sl) y sl2) z sl3)) := by
  show (if (storable sc x && storable sc y && storable sc z && x != y && x != z && y != z && unfolded [e, f, g]) = true then (slotM R sc st e).bind _ else none) = _
  rw [if_pos c, h]
  show (slotM R sc st' f).bind _ = _
  rw [h2]
  show (slotM R sc st2 g).bind _ = _
  rw [h3]; rfl
end
theorem inInts_map (i : Int) : ∀ xs : List Int, inInts i (xs.map .int) = some (xs.contains i)
  | [] => rfl
  | j :: r => by
    show (inInts i (r.map .int)).map _ = _
    rw [inInts_map i r]
    show some ((j == i) || r.contains i) = _
    rw [List.contains_cons, show (j == i) = (i == j) from by rw [Bool.eq_iff_iff, beq_iff_eq, beq_iff_eq]; exact eq_comm]
/-! `_law_ring` -/
noncomputable def popStep (a : List Int × List Int) (d : Int) : List Int × List Int := (a.1.eraseIdx (d.fmod a.1.length).toNat, a.2 ++ [a.1.getD (d.fmod a.1.length).toNat 0])
noncomputable def nine : List Int := [0, 1, 2, 3, 4, 5, 6, 7, 8]
noncomputable def openedOf (draws : List Int) : List Int := (draws.foldl popStep (nine, [])).2
noncomputable def shownAt (draws : List Int) (i : Int) : Int := (draws.getD (i.fmod 4).toNat 0).fdiv 9 + i
noncomputable def figAt (draws opened : List Int) (i : Int) : Int := bif opened.contains i then 65 + (shownAt draws i).fmod 63 else (shownAt draws i).fmod 64
noncomputable def octAt (draws opened : List Int) (i : Int) : Int := figAt draws opened i + 128 * ((shownAt draws i).fdiv 64).fmod 2
noncomputable def ringOf (draws : List Int) : List Int := nine.map (octAt draws (openedOf draws))
theorem foldl_ints {α : Type} (f : α → Int → α) : ∀ (l : List Int) (a : α), (l.map PyData.int).foldl (fun a d => match d with | .int i => f a i | _ => a) a = l.foldl f a
  | [], _ => rfl
  | x :: l, a => foldl_ints f l (f a x)
theorem map_erase {α β : Type} (f : α → β) : ∀ (l : List α) (k : Nat), (l.eraseIdx k).map f = (l.map f).eraseIdx k
  | [], _ => rfl
  | _ :: _, 0 => rfl
  | x :: l, k + 1 => by simp [List.eraseIdx_cons_succ, map_erase f l k]
theorem nine_get {j : Nat} {d : PyData} (h : (nine.map PyData.int)[j]? = some d) : d = .int (j : Int) ∧ j < 9 := by
  have hj := (List.getElem?_eq_some_iff.mp h).1
  simp only [nine, List.length_map, List.length_cons, List.length_nil] at hj
  refine ⟨?_, by omega⟩
  match j, hj, h with
  | 0, _, h => cases h; rfl
  | 1, _, h => cases h; rfl
  | 2, _, h => cases h; rfl
  | 3, _, h => cases h; rfl
  | 4, _, h => cases h; rfl
  | 5, _, h => cases h; rfl
  | 6, _, h => cases h; rfl
  | 7, _, h => cases h; rfl
  | 8, _, h => cases h; rfl
section
variable {P : Prims} {n : Nat} {sc : Sc} {σ : Sig}
theorem E_ifexp_n {t a b : Expr} {p : Pos} (h : (I P n).tst sc σ t = none) : (I P (n + 1)).ev sc σ (.IfExp t a b p) = none := by
  show ((I P n).tst sc σ t).bind _ = _
  rw [h]; rfl
theorem T_cmp_n {l r : Expr} {op : CmpOp} {p : Pos} {a : PyData} (hl : (I P n).ev sc σ l = some a) (hr : (I P n).ev sc σ r = none) : (I P (n + 1)).tst sc σ (.Compare l [op] [r] p) = none := by
  show ((I P n).ev sc σ l).bind _ = _
  rw [hl]; show ((I P n).ev sc σ r).bind _ = _
  rw [hr]; rfl
theorem E_name_n {x : Str} {p : Pos} (h : σ.lookup x = none) : (I P (n + 1)).ev sc σ (.Name x p) = none := h
end
structure RiS (draws : List Int) (i : Nat) (a : List Int × List Int) (st : Sto) : Prop where
  nd : Nd st
  l1 : a.1.length + i = 9
  l2 : a.2.length = i
  ln : st.lookup (nm "len") = none
  rg : st.lookup (nm "range") = none
  oc : st.lookup (nm "octets") = some (.ow [])
  op : st.lookup (nm "opened") = some (.ow (a.2.map .int))
  fr : st.lookup (nm "free") = some (.ow (a.1.map .int))
  dr : st.lookup (nm "draws") = some (.sh (intsD draws))
structure RoS (draws op : List Int) (i : Nat) (a : List Int) (st : Sto) : Prop where
  nd : Nd st
  la : a.length = i
  oc : st.lookup (nm "octets") = some (.ow (a.map .int))
  op : st.lookup (nm "opened") = some (.ow (op.map .int))
  dr : st.lookup (nm "draws") = some (.sh (intsD draws))
theorem al_none {x : Str} : ∀ {st : Sto}, st.lookup x = none → (allσ st).lookup x = none
  | [], _ => rfl
  | (y, sl) :: st, h => by
    rw [List.lookup_cons] at h
    split at h
    · cases h
    · rename_i hb
      cases sl with
      | sh e =>
        show List.lookup x ((y, e) :: allσ st) = _
        rw [List.lookup_cons, hb]
        exact al_none h
      | ow e =>
        show List.lookup x ((y, .list e) :: allσ st) = _
        rw [List.lookup_cons, hb]
        exact al_none h
theorem glob_al {st : Sto} {sc : Sc} {x : Str} (h1 : sc.lookup x = some .globalImplicit) (h : st.lookup x = none) : glob sc (allσ st) x = true := by
  unfold glob; rw [h1, al_none h]; rfl
theorem ring_ev {n : Nat} (draws : List Int) (h4 : draws.length = 4) (hd0 : ∀ d ∈ draws, 0 ≤ d) : (I P0 (n + 16)).call (nm "_law_ring") [intsD draws] = some (intsD (ringOf draws)) := by
  have hfew : few (draws.map PyData.int).length = true := few_of (by rw [List.length_map]; omega)
  refine C_rets (q := qOf (nm "_law_ring")) (by kernel_rfl!) (by kernel_rfl!) rfl ?_
  refine R_cons (x_assign3 (by rfl) (slot_range (by rfl) (mapO1 E_const) (by rfl)) (slot_own rfl rfl) (slot_own rfl rfl)) ?_
  refine R_for (α := List Int × List Int) (a := (nine, [])) (f := fun a d => match d with | .int i => popStep a i | _ => a) (Inv := RiS draws) (S_ev E_name) rfl hfew (fun j a st d hd v => ?_)
    ⟨(by decide +kernel : ([nm "octets", nm "opened", nm "free", nm "draws"] : List Str).Nodup), rfl, rfl, rfl, rfl, rfl, rfl, rfl, rfl⟩ (fun st' v => ?_)
  · have e1 := v.l1
    have e2 := v.l2
    have hj2 := (List.getElem?_eq_some_iff.mp hd).1
    rw [List.length_map] at hj2
    rw [List.getElem?_map, Option.map_eq_some_iff] at hd
    obtain ⟨i, hi, rfl⟩ := hd
    have hi0 := hd0 i (List.mem_of_getElem? hi)
    have hm := Int.fmod_lt_of_pos i (show (0 : Int) < (a.1.length : Int) by omega)
    have hm0 := Int.fmod_nonneg (b := (a.1.length : Int)) hi0 (by omega)
    have hk : (i.fmod a.1.length).toNat < a.1.length := by omega
    have hbin : binD .Mod (.int i) (.int a.1.length) = some (.int (i.fmod a.1.length)) := by
      show (if (a.1.length : Int) = 0 then none else some _) = _
      rw [if_neg (by omega)]
    have hget : (a.1.map PyData.int)[(i.fmod a.1.length).toNat]? = some (.int (a.1.getD (i.fmod a.1.length).toNat 0)) := by
      rw [List.getElem?_map, List.getD_eq_getElem?_getD, List.getElem?_eq_getElem hk]; rfl
    have f1 : few (a.1.map PyData.int).length = true := few_of (by rw [List.length_map]; omega)
    have f2 : few (a.2.map PyData.int).length = true := few_of (by rw [List.length_map]; omega)
    refine ⟨_, rfl, ?_⟩
    dsimp only [List.foldr_cons, List.foldr_nil]
    refine N_cons (x_appendpop (by rfl) (by rfl) (lk_ne (by decide) v.op) (lk_ne (by decide) v.fr) (E_bin (E_name (al_sh lk_same)) (E_bfn (b := "len") (glob_al (by rfl) (lk_ne (by decide) v.ln)) rfl rfl rfl (mapO1 (E_name (al_ow (lk_ne (by decide) v.fr)))) (len_ev a.1 f1)) hbin) hm0 f2 f1 hget rfl) (N_nil
      ⟨v.nd.put.put.put, by show (a.1.eraseIdx _).length + (j + 1) = 9; rw [List.length_eraseIdx, if_pos hk]; omega, by show (a.2 ++ [_]).length = j + 1; rw [List.length_append, e2]; rfl, lk_ne (by decide) (lk_ne (by decide) (lk_ne (by decide) v.ln)), lk_ne (by decide) (lk_ne (by decide) (lk_ne (by decide) v.rg)), lk_ne (by decide) (lk_ne (by decide) (lk_ne (by decide) v.oc)), ?_, ?_, lk_ne (by decide) (lk_ne (by decide) (lk_ne (by decide) v.dr))⟩)
    · refine lk_same.trans ?_
      show _ = some (Slot.ow ((a.2 ++ [_]).map PyData.int))
      rw [List.map_append]; rfl
    · refine (lk_ne (by decide) lk_same).trans ?_
      show _ = some (Slot.ow ((a.1.eraseIdx _).map PyData.int))
      rw [map_erase]
  · have v' : RiS draws 4 (draws.foldl popStep (nine, [])) st' := by
      have := v
      rw [foldl_ints, List.length_map, h4] at this
      exact this
    rw [show ringOf draws = nine.map (octAt draws (openedOf draws)) from rfl]
    have hop := v'.op
    rw [show (draws.foldl popStep (nine, [])).2 = openedOf draws from rfl] at hop
    generalize openedOf draws = op at *
    refine R_for (α := List Int) (a := []) (f := fun a d => match d with | .int i => a ++ [octAt draws op i] | _ => a) (ds := nine.map .int) (Inv := RoS draws op) (S_range (Bool.and_eq_true_iff.mpr ⟨glob_sh (by rfl) v'.rg, rfl⟩) (mapO1 E_const) rfl) rfl rfl (fun j a st d hd v => ?_) ⟨v'.nd, rfl, v'.oc, hop, v'.dr⟩ (fun st' v => ?_)
    · obtain ⟨rfl, hj⟩ := nine_get hd
      have ha := v.la
      have hm4 : (j : Int).fmod 4 = ((j % 4 : Nat) : Int) := by rw [Int.fmod_eq_emod_of_nonneg _ (by omega)]; omega
      have hidx : idxD (draws.map .int) ((j : Int).fmod 4) = some (.int (draws.getD ((j : Int).fmod 4).toNat 0)) := by
        rw [hm4]
        unfold idxD
        rw [if_pos (by omega), List.getElem?_map, List.getD_eq_getElem?_getD, List.getElem?_eq_getElem (by omega)]
        rfl
      have hin : cmpD .In (.int j) (.list (op.map .int)) = some (op.contains (j : Int)) := inInts_map _ _
      refine ⟨_, rfl, ?_⟩
      dsimp only [List.foldr_cons, List.foldr_nil]
      refine N_cons (x_sh rfl rfl rfl (E_bin (E_bin (E_sub (E_name (sh_lk (lk_ne (by decide) v.dr))) (E_bin (E_name (sh_lk lk_same)) E_const) hfew hidx) E_const) (E_name (sh_lk lk_same)))) ?_
      refine N_cons (x_assign rfl rfl (slot_ev (evM_im (d := .int (figAt draws op j)) (E_ifexp_n (T_cmp_n (E_name (sh_lk (lk_ne (by decide) lk_same))) (E_name_n (sh_ow v.nd.put.put (lk_ne (by decide) (lk_ne (by decide) v.op)))))) (E_ifexp (T_cmp (E_name (al_sh (lk_ne (by decide) lk_same))) (E_name (al_ow (lk_ne (by decide) (lk_ne (by decide) v.op)))) hin) ?_) rfl))) ?_
      · unfold figAt
        have hsh := al_sh (x := nm "shown") (st := put (put st (nm "place") (.sh (.int (j : Int)))) (nm "shown") (.sh (.int (shownAt draws j)))) lk_same
        cases op.contains (j : Int)
        · exact E_bin (E_name hsh) E_const
        · exact E_bin E_const (E_bin (E_name hsh) E_const)
      refine N_cons (x_append (ds := a.map .int) (lk_ne (by decide) (lk_ne (by decide) (lk_ne (by decide) v.oc))) (few_of (by rw [List.length_map]; omega)) (E_bin (E_name (sh_lk lk_same)) (E_bin E_const (E_bin (E_bin (E_name (sh_lk (lk_ne (by decide) lk_same))) E_const) E_const))) (by rfl)) (N_nil
        ⟨v.nd.put.put.put.put, by show (a ++ [_]).length = j + 1; rw [List.length_append, ha]; rfl, ?_, lk_ne (by decide) (lk_ne (by decide) (lk_ne (by decide) (lk_ne (by decide) v.op))), lk_ne (by decide) (lk_ne (by decide) (lk_ne (by decide) (lk_ne (by decide) v.dr)))⟩)
      refine lk_same.trans ?_
      show _ = some (Slot.ow ((a ++ [octAt draws op j]).map .int))
      rw [List.map_append]
      rfl
    · have h := v.oc
      rw [foldl_ints (fun a i => a ++ [octAt draws op i]), foldl_snoc, List.nil_append] at h
      exact R_ret (E_name (al_ow h))
end Mine
/-! part 49 -/
set_option maxRecDepth 1000000
set_option maxHeartbeats 4000000
namespace Mine
open PySem PySem.Calls PyProof.Rows PySem.W
theorem slice_take {xs : List PyData} (k : Nat) : sliceD xs none (some (k : Int)) none = some (.list (xs.take k)) := by
  unfold sliceD
  simp only [Option.elim, clipAt_nat, List.drop_zero, Nat.sub_zero]
  congr 2
  by_cases h : k ≤ xs.length
  · rw [Nat.min_eq_left h]
  · rw [Nat.min_eq_right (by omega), List.take_of_length_le (Nat.le_refl _), List.take_of_length_le (by omega)]
theorem slice_drop {xs : List PyData} (k : Nat) : sliceD xs (some (k : Int)) none none = some (.list (xs.drop k)) := by
  unfold sliceD
  simp only [Option.elim, clipAt_nat]
  congr 2
  by_cases h : k ≤ xs.length
  · rw [Nat.min_eq_left h, List.take_of_length_le (by rw [List.length_drop]; omega)]
  · rw [Nat.min_eq_right (by omega)]
    simp; omega
section
variable {P : Prims} {n : Nat} {sc : Sc} {σ : Sig}
/-- `v[:k]` -/
theorem E_take {v e : Expr} {p q : Pos} {xs : List PyData} (k : Nat) (hv : (I P n).ev sc σ v = some (.list xs)) (hk : (I P n).ev sc σ e = some (.int (k : Int))) (hf : few xs.length = true) : (I P (n + 1)).ev sc σ (.Subscript v (.Slice none (some e) none q) p) = some (.list (xs.take k)) := by
  refine E_slice (a := none) (b := some (.int k)) (c := none) (a' := none) (b' := some (k : Int)) (c' := none) hv rfl (by show ((I P n).ev sc σ e).map some = _; rw [hk]; rfl) rfl rfl rfl rfl ?_
  show (if few xs.length = true then sliceD xs none (some (k : Int)) none else none) = _
  rw [if_pos hf, slice_take]
/-- `v[k:]` -/
theorem E_drop {v e : Expr} {p q : Pos} {xs : List PyData} (k : Nat) (hv : (I P n).ev sc σ v = some (.list xs)) (hk : (I P n).ev sc σ e = some (.int (k : Int))) (hf : few xs.length = true) : (I P (n + 1)).ev sc σ (.Subscript v (.Slice (some e) none none q) p) = some (.list (xs.drop k)) := by
  refine E_slice (a := some (.int k)) (b := none) (c := none) (a' := some (k : Int)) (b' := none) (c' := none) hv (by show ((I P n).ev sc σ e).map some = _; rw [hk]; rfl) rfl rfl rfl rfl rfl ?_
  show (if few xs.length = true then sliceD xs (some (k : Int)) none none else none) = _
  rw [if_pos hf, slice_drop]
theorem bin_add {xs ys : List PyData} (h : xs.length + ys.length ≤ 100000) : binD .Add (.list xs) (.list ys) = some (.list (xs ++ ys)) := by
  show (if few (xs.length + ys.length) = true then some _ else none) = _
  rw [if_pos (few_of h)]
end
noncomputable def onInt {α : Type} (f : α → Int → α) (a : α) : PyData → α
  | .int i => f a i
  | _ => a
theorem foldl_onInt {α : Type} (f : α → Int → α) : ∀ (l : List Int) (a : α), (l.map PyData.int).foldl (onInt f) a = l.foldl f a
  | [], _ => rfl
  | x :: l, a => foldl_onInt f l (f a x)
/-! `_law_longest` -/
noncomputable def topAt (tops : List Int) (x : Int) : Nat := match biL tops x with | some (lo, _) => lo.toNat | none => 0
noncomputable def topStep (tops : List Int) (x : Int) : List Int := tops.take (topAt tops x) ++ [x] ++ tops.drop (topAt tops x + 1)
noncomputable def longestOf (row : List Int) : Int := (row.foldl topStep []).length
theorem topAt_ev {n : Nat} (tops : List Int) (x : Int) (h : tops.length < 100) : (I P0 (n + 8)).call (nm "bisect_left") [intsD tops, .int x] = some (.int (topAt tops x)) := by
  obtain ⟨r, e, _⟩ := biL_ends x h
  have : topAt tops x = r := by unfold topAt; rw [e]; rfl
  rw [this]
  exact bisL_ev tops x h e
theorem topStep_len (tops : List Int) (x : Int) : (topStep tops x).length ≤ tops.length + 1 := by
  unfold topStep
  simp only [List.length_append, List.length_take, List.length_drop, List.length_cons, List.length_nil]
  omega
theorem longest_ev {n : Nat} (row : List Int) (hl : row.length < 90) : (I P0 (n + 12)).call (nm "_law_longest") [intsD row] = some (.int (longestOf row)) := by
  refine C_rets (q := qOf (nm "_law_longest")) (by kernel_rfl!) (by kernel_rfl!) rfl ?_
  refine R_cons (x_assign rfl rfl (slot_own rfl rfl)) ?_
  refine R_for (α := List Int) (a := []) (f := onInt topStep) (ds := row.map .int)
    (Inv := fun i a st => a.length ≤ i ∧ ((a = [] ∧ st = [(nm "tops", .ow []), (nm "row", .sh (intsD row))]) ∨ ∃ v p, st = [(nm "tops", .sh (intsD a)), (nm "place", .sh p), (nm "number", .sh v), (nm "row", .sh (intsD row))])) (S_ev E_name) rfl (few_of (by rw [List.length_map]; omega)) (fun j a st d hd hv => ?_) ⟨by simp, .inl ⟨rfl, rfl⟩⟩ (fun st' hv => ?_)
  · obtain ⟨ha, hv⟩ := hv
    have hj2 := (List.getElem?_eq_some_iff.mp hd).1
    rw [List.length_map] at hj2
    rw [List.getElem?_map, Option.map_eq_some_iff] at hd
    obtain ⟨x, _, rfl⟩ := hd
    have hlen := topStep_len a x
    have hfew : few (a.map PyData.int).length = true := few_of (by rw [List.length_map]; omega)
    refine ⟨_, rfl, ?_⟩
    have hmap : (a.map PyData.int).take (topAt a x) ++ [.int x] ++ (a.map PyData.int).drop (topAt a x + 1) = (topStep a x).map PyData.int := by
      unfold topStep
      rw [List.map_append, List.map_append, List.map_take, List.map_drop]; rfl
    have b1 : binD .Add (.list ((a.map PyData.int).take (topAt a x))) (.list [.int x]) = some (.list ((a.map PyData.int).take (topAt a x) ++ [.int x])) := bin_add (by simp; omega)
    have b2 : binD .Add (.list ((a.map PyData.int).take (topAt a x) ++ [.int x])) (.list ((a.map PyData.int).drop (topAt a x + 1))) = some (intsD (topStep a x)) := by
      rw [bin_add (by simp; omega), hmap]; rfl
    have hadd : binD .Add (.int (topAt a x)) (.int 1) = some (.int ((topAt a x + 1 : Nat) : Int)) := rfl
    rcases hv with ⟨rfl, rfl⟩ | ⟨v, p, rfl⟩
    · refine N_cons (x_assign rfl rfl (slot_ev (evM_im (by rfl) (E_call rfl rfl rfl rfl (mapO2 E_name E_name) (topAt_ev [] x (by simp))) rfl))) ?_
      refine N_cons (x_assign rfl rfl (slot_ev (evM_fz (by rfl) (E_bin (E_bin (E_take (topAt [] x) E_name E_name hfew) (E_list1 E_name) b1) (E_drop (topAt [] x + 1) E_name (E_bin E_name E_const hadd) hfew) b2) rfl))) (N_nil ⟨by show (topStep _ x).length ≤ j + 1; omega, .inr ⟨.int x, .int (topAt [] x), rfl⟩⟩)
    · refine N_cons (x_sh rfl rfl rfl (E_call rfl rfl rfl rfl (mapO2 E_name E_name) (topAt_ev a x (by omega)))) ?_
      refine N_cons (x_sh rfl rfl rfl (E_bin (E_bin (E_take (topAt a x) E_name E_name hfew) (E_list1 E_name) b1) (E_drop (topAt a x + 1) E_name (E_bin E_name E_const hadd) hfew) b2)) (N_nil ⟨by show (topStep _ x).length ≤ j + 1; omega, .inr ⟨.int x, .int (topAt a x), rfl⟩⟩)
  · obtain ⟨hle, hv⟩ := hv
    rw [foldl_onInt] at hv hle
    rw [List.length_map] at hle
    have hlen : ∀ k, bfn P0 "len" [intsD k] = if k.length ≤ 100000 then some (.int k.length) else none := by
      intro k
      show (if few (k.map PyData.int).length = true then some _ else none) = _
      rw [List.length_map]; unfold few; simp
    rcases hv with ⟨he, rfl⟩ | ⟨v, p, rfl⟩
    · refine R_ret (E_bfn (b := "len") rfl rfl rfl rfl (mapO1 (d := intsD []) E_name) ?_)
      unfold longestOf
      rw [he]; rfl
    · refine R_ret (E_bfn (b := "len") rfl rfl rfl rfl (mapO1 (d := intsD (row.foldl topStep [])) E_name) ?_)
      rw [hlen, if_pos (by omega)]; rfl
/-! `_law_told` -/
noncomputable def standOf (way : List Int) (place : Nat) (begun : Int) : List Int := (way.drop place).filter fun o => decide (o < begun)
noncomputable def pairOf (stand : List Int) : PyData := .tuple [.int (longestOf stand), .int (longestOf (stand.map fun o => -o))]
noncomputable def toldStep (way : List Int) (a : List PyData × Int) : PyData → List PyData × Int
  | .tuple [.int p, .int r] => if r > 0 then (a.1 ++ [pairOf (standOf way p.toNat (a.2 + r))], a.2 + r) else (a.1, a.2 + r)
  | _ => a
noncomputable def enumD (xs : List Int) : List PyData := (xs.map PyData.int).zipIdx.map fun p => .tuple [.int p.2, p.1]
noncomputable def toldOf (way runs : List Int) : List PyData := ((enumD runs).foldl (toldStep way) ([], 0)).1
theorem enumD_get {xs : List Int} {j : Nat} {d : PyData} (h : (enumD xs)[j]? = some d) : ∃ r, xs[j]? = some r ∧ d = .tuple [.int (j : Int), .int r] := by
  unfold enumD at h
  rw [List.getElem?_map, Option.map_eq_some_iff] at h
  obtain ⟨p, h1, rfl⟩ := h
  rw [List.getElem?_zipIdx, Option.map_eq_some_iff] at h1
  obtain ⟨e, h2, rfl⟩ := h1
  rw [List.getElem?_map, Option.map_eq_some_iff] at h2
  obtain ⟨r, h3, rfl⟩ := h2
  exact ⟨r, h3, by simp⟩
theorem enumD_len (xs : List Int) : (enumD xs).length = xs.length := by simp [enumD]
theorem fr_lk {sc : Scope} {x : Str} {d : PyData} (hx : sc.names.lookup x = some .free) : ∀ {σ : Sig}, σ.lookup x = some d → (frees sc σ).lookup x = some d
  | (y, e) :: σ, h => by
    rw [List.lookup_cons] at h
    show List.lookup x (List.filter (fun p => sc.names.lookup p.1 == some NameKind.free) ((y, e) :: σ)) = _
    split at h
    · rename_i hb
      cases h
      have hy := eq_of_beq hb
      subst hy
      rw [List.filter_cons, if_pos (by show (sc.names.lookup x == some NameKind.free) = true; rw [hx]; rfl), List.lookup_cons, hb]
    · rename_i hb
      have ih := fr_lk (sc := sc) hx (σ := σ) h
      rw [List.filter_cons]
      split
      · rw [List.lookup_cons, hb]; exact ih
      · exact ih
structure ToS (way : List Int) (i : Nat) (a : List PyData × Int) (st : Sto) : Prop where
  len : a.1.length ≤ i
  lo : st.lookup (nm "_law_longest") = none
  be : st.lookup (nm "begun") = some (.sh (.int a.2))
  to : st.lookup (nm "told") = some (.ow a.1)
  wa : st.lookup (nm "way") = some (.sh (intsD way))
theorem told_ev {n : Nat} (way runs : List Int) (hw : way.length < 90) (hr : runs.length < 90) : (I P0 (n + 18)).call (nm "_law_told") [intsD way, intsD runs] = some (.list (toldOf way runs)) := by
  have hfw : few (way.map PyData.int).length = true := few_of (by rw [List.length_map]; omega)
  have hfr : few (runs.map PyData.int).length = true := few_of (by rw [List.length_map]; omega)
  have hfe : few (enumD runs).length = true := few_of (by rw [enumD_len]; omega)
  refine C_rets (q := qOf (nm "_law_told")) (by kernel_rfl!) (by kernel_rfl!) rfl ?_
  refine R_cons (x_assign2 (by rfl) (slot_own rfl rfl) (slot_ev (evM_sh E_const))) ?_
  refine R_for (α := List PyData × Int) (a := ([], 0)) (f := toldStep way) (ds := enumD runs) (Inv := ToS way)
    (S_enum rfl (by rfl) E_name hfr) rfl hfe (fun j a st d hd v => ?_) ⟨Nat.le_refl _, rfl, rfl, rfl, rfl⟩ (fun st' v => R_ret (E_name (al_ow v.to)))
  have hj2 := (List.getElem?_eq_some_iff.mp hd).1
  rw [enumD_len] at hj2
  obtain ⟨r, _, rfl⟩ := enumD_get hd
  have ha := v.len
  refine ⟨_, rfl, ?_⟩
  dsimp only [List.foldr_cons, List.foldr_nil]
  refine N_cons (x_sh rfl rfl rfl (E_bin (E_name (sh_lk (lk_ne (by decide) (lk_ne (by decide) v.be)))) (E_name (sh_lk lk_same)))) ?_
  refine N_if (c := decide (0 < r)) (T_cmp (E_name (al_sh (lk_ne (by decide) lk_same))) E_const) ?_
  by_cases h0 : 0 < r
  · have hstl : (standOf way j (a.2 + r)).length < 90 := by
      have := List.length_filter_le (fun o => decide (o < a.2 + r)) (way.drop j)
      rw [List.length_drop] at this
      unfold standOf; omega
    rw [decide_eq_true h0, show toldStep way a (.tuple [.int (j : Int), .int r]) = (a.1 ++ [pairOf (standOf way j (a.2 + r))], a.2 + r) from if_pos h0]
    generalize hst : standOf way j (a.2 + r) = stand at hstl
    have hcomp : ((way.map PyData.int).drop j).filter (fun d => match d with | .int o => decide (o < a.2 + r) | _ => false) = stand.map PyData.int := by
      rw [← hst]; unfold standOf
      rw [← List.map_drop, List.filter_map]; rfl
    have hfd : few ((way.map PyData.int).drop j).length = true := few_of (by rw [List.length_drop, List.length_map]; omega)
    have hfs : few (stand.map PyData.int).length = true := few_of (by rw [List.length_map]; omega)
    refine N_cons (x_sh (d := intsD stand) rfl rfl rfl ?_) (N_cons (x_append (ds := a.1) (d := pairOf stand) (lk_ne (by decide) (lk_ne (by decide) (lk_ne (by decide) (lk_ne (by decide) v.to)))) (few_of (by omega)) ?_ (by rfl)) (N_nil (N_nil
      ⟨by rw [List.length_append]; exact Nat.succ_le_succ ha, lk_ne (by decide) (lk_ne (by decide) (lk_ne (by decide) (lk_ne (by decide) (lk_ne (by decide) v.lo)))), lk_ne (by decide) (lk_ne (by decide) lk_same), lk_same, lk_ne (by decide) (lk_ne (by decide) (lk_ne (by decide) (lk_ne (by decide) (lk_ne (by decide) v.wa))))⟩)))
    · unfold intsD
      rw [← hcomp, ← List.map_id (List.filter _ _)]
      refine E_comp (by kernel_rfl!) (by kernel_rfl!) (S_ev (E_drop j (E_name (sh_lk (lk_ne (by decide) (lk_ne (by decide) (lk_ne (by decide) v.wa))))) (E_name (sh_lk (lk_ne (by decide) (lk_ne (by decide) lk_same)))) hfw)) rfl hfd (comp_filter rfl (fun d hd => ?_) fun d hd ht => E_name)
      rw [← List.map_drop] at hd
      obtain ⟨o, _, rfl⟩ := List.mem_map.mp hd
      exact T_cmp E_name (E_name (fr_lk rfl (sh_lk lk_same)))
    · have hg := glob_sh (sc := (qOf (nm "_law_told")).2.2.2.names) (x := nm "_law_longest") (by rfl) (lk_ne (sl := .sh (intsD stand)) (x := nm "standing") (by decide) (lk_ne (sl := .sh (.int (a.2 + r))) (x := nm "begun") (by decide) (lk_ne (sl := .sh (.int r)) (x := nm "run") (by decide) (lk_ne (sl := .sh (.int (j : Int))) (x := nm "place") (by decide) v.lo))))
      refine E_tuple2 (E_call hg rfl rfl rfl (mapO1 (d := intsD stand) (E_name (sh_lk lk_same))) (longest_ev stand hstl)) (E_call hg rfl rfl rfl (mapO1 (d := intsD (stand.map fun o => -o)) ?_) (longest_ev _ (by rw [List.length_map]; exact hstl)))
      have hneg : intsD (stand.map fun o => -o) = .list ((stand.map PyData.int).map fun d => match d with | .int o => .int (-o) | d => d) := by
        unfold intsD; rw [List.map_map, List.map_map]; rfl
      rw [hneg]
      refine E_comp (by kernel_rfl!) (by kernel_rfl!) (S_ev (E_name (d := intsD stand) (sh_lk lk_same))) rfl hfs (comp_map rfl fun d hd => ?_)
      obtain ⟨o, _, rfl⟩ := List.mem_map.mp hd
      exact E_neg E_name
  · rw [decide_eq_false h0, show toldStep way a (.tuple [.int (j : Int), .int r]) = (a.1, a.2 + r) from if_neg h0]
    exact N_nil (N_nil ⟨Nat.le_succ_of_le ha, lk_ne (by decide) (lk_ne (by decide) (lk_ne (by decide) v.lo)), lk_same, lk_ne (by decide) (lk_ne (by decide) (lk_ne (by decide) v.to)), lk_ne (by decide) (lk_ne (by decide) (lk_ne (by decide) v.wa))⟩)
end Mine
/-! part 50 -/
set_option maxRecDepth 1000000
set_option maxHeartbeats 4000000
namespace Mine
open PySem PySem.Calls PyProof.Rows PySem.W
/-! `_law_ways` -/
noncomputable def rangeI (b r : Int) : List Int := (List.range (b + r - b).toNat).map fun (k : Nat) => b + (k : Int)
noncomputable def turnOf (stand wy : List Int) (k : Nat) : List Int × List Int := (stand.take k ++ stand.drop (k + 1), wy ++ [stand.getD k 0])
noncomputable def turnsOf (b r : Int) (p : List Int × List Int) : List (List Int × List Int) := (List.range (p.1 ++ rangeI b r).length).map (turnOf (p.1 ++ rangeI b r) p.2)
noncomputable def stepW (a : List (List Int × List Int) × Int) (r : Int) : List (List Int × List Int) × Int := (a.1.flatMap (turnsOf a.2 r), a.2 + r)
noncomputable def wAt (runs : List Int) (j : Nat) : List (List Int × List Int) × Int := (runs.take j).foldl stepW ([([], [])], 0)
noncomputable def waysOf (runs : List Int) : List (List Int) := (wAt runs runs.length).1.map (·.2)
noncomputable def wayD (p : List Int × List Int) : PyData := .tuple [intsD p.1, intsD p.2]
noncomputable def okW (a : List (List Int × List Int) × Int) : Bool := decide (a.1.length ≤ 100) && decide (0 ≤ a.2) && decide (a.2 ≤ 1000) && a.1.all fun p => decide (p.1.length ≤ 100) && decide (p.2.length ≤ 100)
noncomputable def okRuns (runs : List Int) : Bool := decide (runs.length ≤ 64) && (runs.all fun r => decide (0 ≤ r) && decide (r ≤ 64)) && (List.range (runs.length + 1)).all fun j => okW (wAt runs j)
theorem wAt_succ {runs : List Int} {j : Nat} {r : Int} (h : runs[j]? = some r) : wAt runs (j + 1) = stepW (wAt runs j) r := by
  unfold wAt
  rw [List.take_add_one, h, List.foldl_append]
  rfl
theorem ways_ev {n : Nat} (runs : List Int) (hok : okRuns runs = true) : (I P0 (n + 20)).call (nm "_law_ways") [intsD runs] = some (.list ((waysOf runs).map intsD)) := by
  simp only [okRuns, Bool.and_eq_true, decide_eq_true_eq, List.all_eq_true, List.mem_range] at hok
  obtain ⟨⟨hlen, hrun⟩, hw⟩ := hok
  have hW : ∀ j, j ≤ runs.length → (wAt runs j).1.length ≤ 100 ∧ 0 ≤ (wAt runs j).2 ∧ (wAt runs j).2 ≤ 1000 ∧ ∀ p ∈ (wAt runs j).1, p.1.length ≤ 100 ∧ p.2.length ≤ 100 := fun j hj => by
    have := hw j (by omega)
    simp only [okW, Bool.and_eq_true, decide_eq_true_eq, List.all_eq_true] at this
    obtain ⟨⟨⟨h1, h2⟩, h3⟩, h4⟩ := this
    exact ⟨h1, h2, h3, h4⟩
  clear hw
  have hfr : few (runs.map PyData.int).length = true := few_of (by rw [List.length_map]; omega)
  refine C_rets (q := qOf (nm "_law_ways")) (by kernel_rfl!) (by kernel_rfl!) rfl ?_
  refine R_cons (x_assign2 (by rfl) (slot_listsh (ds := [.tuple [.list [], .list []]]) (by rfl) rfl (evM_sh (by rfl))) (slot_ev (evM_sh E_const))) ?_
  refine R_for (α := Unit) (a := ()) (f := fun _ _ => ()) (ds := runs.map .int)
    (Inv := fun j _ st => Nd st ∧ st.lookup (nm "list") = none ∧ st.lookup (nm "range") = none ∧ st.lookup (nm "enumerate") = none ∧ st.lookup (nm "ways") = some (.sh (.list ((wAt runs j).1.map wayD))) ∧ st.lookup (nm "begun") = some (.sh (.int (wAt runs j).2)))
    (S_ev E_name) rfl hfr (fun j _ st d hd hv => ?_) ⟨(by decide +kernel : ([nm "begun", nm "ways", nm "runs"] : List Str).Nodup), by rfl, by rfl, by rfl, by rfl, by rfl⟩ (fun st' hv => ?_)
  · obtain ⟨nd, n1, n2, n3, hways, hbegun⟩ := hv
    have hj2 := (List.getElem?_eq_some_iff.mp hd).1
    rw [List.length_map] at hj2
    rw [List.getElem?_map, Option.map_eq_some_iff] at hd
    obtain ⟨r, hr, rfl⟩ := hd
    obtain ⟨w1, w2, w3, w4⟩ := hW j (by omega)
    have hr64 := hrun r (List.mem_of_getElem? hr)
    have hsucc := wAt_succ hr
    rw [hsucc]
    unfold stepW
    clear hsucc hW
    generalize wAt runs j = a at *
    obtain ⟨ws, b⟩ := a
    dsimp only at w1 w2 w3 w4 hways hbegun ⊢
    refine ⟨_, rfl, ?_⟩
    dsimp only [List.foldr_cons, List.foldr_nil]
    refine N_cons (x_assign rfl rfl (slot_own rfl rfl)) ?_
    refine N_for (α := Unit) (a := ()) (f := fun _ _ => ()) (ds := ws.map wayD)
      (Inv := fun i _ st => Nd st ∧ st.lookup (nm "list") = none ∧ st.lookup (nm "range") = none ∧ st.lookup (nm "enumerate") = none ∧ st.lookup (nm "begun") = some (.sh (.int b)) ∧ st.lookup (nm "run") = some (.sh (.int r)) ∧
        ((ws.take i).flatMap (turnsOf b r)).length ≤ i * 164 ∧ st.lookup (nm "further") = some (.ow (((ws.take i).flatMap (turnsOf b r)).map wayD)))
      (S_ev (E_name (sh_lk (lk_ne (by decide) (lk_ne (by decide) hways))))) rfl (few_of (by rw [List.length_map]; omega)) (fun i _ st1 d hd hv => ?_) ⟨nd.put.put, lk_ne (by decide) (lk_ne (by decide) n1), lk_ne (by decide) (lk_ne (by decide) n2), lk_ne (by decide) (lk_ne (by decide) n3), lk_ne (by decide) (lk_ne (by decide) hbegun), lk_ne (by decide) lk_same, by simp, lk_same⟩ (fun st1 hv => ?_)
    · obtain ⟨nd1, m1, m2, m3, mb, mr, ml, mf⟩ := hv
      have hi2 := (List.getElem?_eq_some_iff.mp hd).1
      rw [List.length_map] at hi2
      rw [List.getElem?_map, Option.map_eq_some_iff] at hd
      obtain ⟨p, hp, rfl⟩ := hd
      obtain ⟨p1, p2⟩ := w4 p (List.mem_of_getElem? hp)
      refine ⟨_, rfl, ?_⟩
      dsimp only [List.foldr_cons, List.foldr_nil]
      have hrl : (rangeI b r).length ≤ 64 := by unfold rangeI; rw [List.length_map, List.length_range]; omega
      have hsl : (p.1 ++ rangeI b r).length ≤ 164 := by rw [List.length_append]; omega
      have hrange : rangeD [.int b, .int (b + r)] = some ((rangeI b r).map .int) := by
        show (if b ≤ b + r ∧ b + r - b ≤ 64 ∧ b.natAbs < 2 ^ 40 then some _ else none) = _
        rw [if_pos (by omega)]
        unfold rangeI
        rw [List.map_map]; rfl
      have hadd : binD .Add (intsD p.1) (.list ((rangeI b r).map .int)) = some (intsD (p.1 ++ rangeI b r)) := by
        show binD .Add (.list (p.1.map .int)) _ = _
        rw [bin_add (by rw [List.length_map, List.length_map]; omega), ← List.map_append]; rfl
      have hstep : (ws.take (i + 1)).flatMap (turnsOf b r) = (ws.take i).flatMap (turnsOf b r) ++ turnsOf b r p := by
        rw [List.take_add_one, hp, List.flatMap_append]; simp
      refine N_cons (x_sh rfl rfl rfl (E_bin (E_name (sh_lk (lk_ne (by decide) lk_same))) (E_listrange (glob_sh rfl (lk_ne (by decide) (lk_ne (by decide) m1))) rfl (Bool.and_eq_true_iff.mpr ⟨glob_sh rfl (lk_ne (by decide) (lk_ne (by decide) m2)), rfl⟩) (mapO2 (E_name (sh_lk (lk_ne (by decide) (lk_ne (by decide) mb)))) (E_bin (E_name (sh_lk (lk_ne (by decide) (lk_ne (by decide) mb)))) (E_name (sh_lk (lk_ne (by decide) (lk_ne (by decide) mr)))))) hrange) hadd)) ?_
      have hT : ∀ k, k < (p.1 ++ rangeI b r).length → ((List.range (k + 1)).map (turnOf (p.1 ++ rangeI b r) p.2)) = ((List.range k).map (turnOf (p.1 ++ rangeI b r) p.2)) ++ [turnOf (p.1 ++ rangeI b r) p.2 k] := fun k _ => by
        rw [List.range_succ, List.map_append]; rfl
      have hall : turnsOf b r p = (List.range (p.1 ++ rangeI b r).length).map (turnOf (p.1 ++ rangeI b r) p.2) := rfl
      rw [hstep, hall]
      generalize hacc : (ws.take i).flatMap (turnsOf b r) = acc at *
      generalize p.1 ++ rangeI b r = stand at *
      have hfs : few (stand.map PyData.int).length = true := few_of (by rw [List.length_map]; omega)
      refine N_for (α := Unit) (a := ()) (f := fun _ _ => ()) (ds := enumD stand)
        (Inv := fun k _ st => Nd st ∧ st.lookup (nm "list") = none ∧ st.lookup (nm "range") = none ∧ st.lookup (nm "enumerate") = none ∧ st.lookup (nm "begun") = some (.sh (.int b)) ∧ st.lookup (nm "run") = some (.sh (.int r)) ∧
          st.lookup (nm "standing") = some (.sh (intsD stand)) ∧ st.lookup (nm "way") = some (.sh (intsD p.2)) ∧ st.lookup (nm "further") = some (.ow ((acc ++ (List.range k).map (turnOf stand p.2)).map wayD)))
        (S_enum rfl (Bool.and_eq_true_iff.mpr ⟨glob_sh rfl (lk_ne (by decide) (lk_ne (by decide) (lk_ne (by decide) m3))), rfl⟩) (E_name (sh_lk lk_same)) hfs) rfl (few_of (by rw [enumD_len]; omega)) (fun k _ st2 d hd hv => ?_)
        ⟨nd1.put.put.put, lk_ne (by decide) (lk_ne (by decide) (lk_ne (by decide) m1)), lk_ne (by decide) (lk_ne (by decide) (lk_ne (by decide) m2)), lk_ne (by decide) (lk_ne (by decide) (lk_ne (by decide) m3)), lk_ne (by decide) (lk_ne (by decide) (lk_ne (by decide) mb)), lk_ne (by decide) (lk_ne (by decide) (lk_ne (by decide) mr)), lk_same, lk_ne (by decide) lk_same, lk_ne (by decide) (lk_ne (by decide) (lk_ne (by decide) (by simpa using mf)))⟩ (fun st2 hv => ?_)
      · obtain ⟨nd2, k1, k2, k3, kb, kr, ks, kw, kf⟩ := hv
        have hk2 := (List.getElem?_eq_some_iff.mp hd).1
        rw [enumD_len] at hk2
        obtain ⟨o, ho, rfl⟩ := enumD_get hd
        have hgo : stand.getD k 0 = o := by rw [List.getD_eq_getElem?_getD, ho]; rfl
        refine ⟨_, rfl, ?_⟩
        dsimp only [List.foldr_cons, List.foldr_nil]
        have hadd1 : binD .Add (.list ((stand.map PyData.int).take k)) (.list ((stand.map PyData.int).drop (k + 1))) = some (intsD (stand.take k ++ stand.drop (k + 1))) := by
          rw [bin_add (by simp; omega)]
          unfold intsD
          rw [List.map_append, List.map_take, List.map_drop]
        have hadd2 : binD .Add (intsD p.2) (.list [.int o]) = some (intsD (p.2 ++ [o])) := by
          show binD .Add (.list (p.2.map .int)) _ = _
          rw [bin_add (by simp; omega)]
          unfold intsD
          rw [List.map_append]; rfl
        have hint : binD .Add (.int (k : Int)) (.int 1) = some (.int ((k + 1 : Nat) : Int)) := rfl
        refine N_cons (x_append (d := wayD (turnOf stand p.2 k)) (lk_ne (by decide) (lk_ne (by decide) kf)) (few_of (by simp; omega)) ?_ (by rfl)) (N_nil ⟨nd2.put.put.put, lk_ne (by decide) (lk_ne (by decide) (lk_ne (by decide) k1)), lk_ne (by decide) (lk_ne (by decide) (lk_ne (by decide) k2)), lk_ne (by decide) (lk_ne (by decide) (lk_ne (by decide) k3)), lk_ne (by decide) (lk_ne (by decide) (lk_ne (by decide) kb)), lk_ne (by decide) (lk_ne (by decide) (lk_ne (by decide) kr)), lk_ne (by decide) (lk_ne (by decide) (lk_ne (by decide) ks)), lk_ne (by decide) (lk_ne (by decide) (lk_ne (by decide) kw)), ?_⟩)
        · unfold turnOf
          rw [hgo]
          exact E_tuple2 (E_bin (E_take k (E_name (sh_lk (lk_ne (by decide) (lk_ne (by decide) ks)))) (E_name (sh_lk (lk_ne (by decide) lk_same))) hfs) (E_drop (k + 1) (E_name (sh_lk (lk_ne (by decide) (lk_ne (by decide) ks)))) (E_bin (E_name (sh_lk (lk_ne (by decide) lk_same))) E_const hint) hfs) hadd1) (E_bin (E_name (sh_lk (lk_ne (by decide) (lk_ne (by decide) kw)))) (E_list1 (E_name (sh_lk lk_same))) hadd2)
        · rw [hT k hk2, ← List.append_assoc]
          refine lk_same.trans ?_
          simp only [List.map_append, List.map_cons, List.map_nil]
      · obtain ⟨nd2, k1, k2, k3, kb, kr, ks, kw, kf⟩ := hv
        rw [enumD_len] at kf
        refine N_nil ⟨nd2, k1, k2, k3, kb, kr, ?_, kf⟩
        rw [List.length_append, List.length_map, List.length_range]; omega
    · obtain ⟨nd1, m1, m2, m3, mb, mr, ml, mf⟩ := hv
      rw [List.length_map, List.take_length] at mf
      refine N_cons (x_assign2 (by rfl) (slot_ev (evM_fz (sh_ow nd1 mf) (E_name (al_ow mf)) rfl)) (slot_ev (evM_sh (E_bin (E_name (sh_lk (fz_sh mb))) (E_name (sh_lk (fz_sh mr))))))) (N_nil ⟨nd1.frz.put.put, lk_ne (by decide) (lk_ne (by decide) (fz_none m1)), lk_ne (by decide) (lk_ne (by decide) (fz_none m2)), lk_ne (by decide) (lk_ne (by decide) (fz_none m3)), lk_ne (by decide) lk_same, lk_same⟩)
  · obtain ⟨nd, n1, n2, n3, hways, hbegun⟩ := hv
    rw [List.length_map] at hways hbegun
    have hfin : (waysOf runs).map intsD = ((wAt runs runs.length).1.map fun p => (intsD p.1, intsD p.2)).map fun d => d.2 := by
      unfold waysOf; rw [List.map_map, List.map_map]; rfl
    have hl := (hW runs.length (Nat.le_refl _)).1
    refine R_ret ?_
    rw [hfin]
    have hds : (wAt runs runs.length).1.map wayD = ((wAt runs runs.length).1.map fun p => (intsD p.1, intsD p.2)).map fun d => .tuple [d.1, d.2] := by
      rw [List.map_map]; rfl
    rw [hds] at hways
    refine E_comp (by kernel_rfl!) (by kernel_rfl!) (S_ev (E_name (al_sh hways))) rfl (few_of (by simp; omega)) ?_
    exact comp_map2 (f := fun _ d => d) (by kernel_rfl!) fun d hd => E_name
end Mine
/-! part 51 -/
set_option maxRecDepth 1000000
set_option maxHeartbeats 4000000
namespace Mine
open PySem PySem.Calls PyProof.Rows PySem.W
/-! texts of brackets -/
noncomputable def code (b : Bool) : Nat := if b then 40 else 41
noncomputable def brk (bs : List Bool) : Str := ⟨(bs.map code).toArray⟩
theorem one_brk (b : Bool) : one b = brk [b] := by cases b <;> decide +kernel
theorem brk_app (a b : List Bool) : brk a ++ brk b = brk (a ++ b) := by
  show (⟨(a.map code).toArray ++ (b.map code).toArray⟩ : Str) = ⟨((a ++ b).map code).toArray⟩
  rw [List.map_append]; simp
theorem app_empty (a : Str) : a ++ nm "" = a := by
  show (⟨a.cps ++ #[]⟩ : Str) = a
  simp
theorem join_cons (a : Str) : ∀ (r : List Str), Str.join (nm "") (a :: r) = a ++ Str.join (nm "") r
  | [] => by
    show a = a ++ nm ""
    rw [app_empty]
  | b :: r => by
    show a ++ nm "" ++ Str.join (nm "") (b :: r) = _
    rw [app_empty]
theorem join_brk : ∀ bs : List Bool, Str.join (nm "") (bs.map one) = brk bs
  | [] => rfl
  | b :: r => by
    rw [List.map_cons, join_cons, join_brk r, one_brk, brk_app]; rfl
theorem brk_list (bs : List Bool) : (brk bs).cps.toList = bs.map code := by unfold brk; simp
theorem brk_len (bs : List Bool) : (brk bs).length = bs.length := by
  show (bs.map code).toArray.size = _
  simp
theorem code_or (b : Bool) : code b = 40 ∨ code b = 41 := by cases b <;> simp [code]
theorem brk_mem {bs : List Bool} {c : Nat} (h : c ∈ (brk bs).cps.toList) : c = 40 ∨ c = 41 := by
  rw [brk_list, List.mem_map] at h
  obtain ⟨b, _, rfl⟩ := h
  exact code_or b
theorem plain_brk (bs : List Bool) : plainTxt (brk bs) = true := by
  unfold plainTxt
  have h1 := PySem.StrLaws.found_one (brk bs) 34
  have h2 : decide (34 ∈ (brk bs).cps.toList) = false := by
    rw [decide_eq_false_iff_not]
    intro h
    rcases brk_mem h with h | h <;> omega
  rw [h2] at h1
  have e : nm "\"" = (⟨#[34]⟩ : Str) := by decide +kernel
  rw [e]
  have h3 : (Builtin.Str.occurrences (brk bs) ⟨#[34]⟩ 0 (brk bs).length 1).isEmpty = true := by
    revert h1
    generalize (Builtin.Str.occurrences (brk bs) ⟨#[34]⟩ 0 (brk bs).length 1).isEmpty = b
    cases b <;> simp
  rw [h3]
  have h4 : strIterType (brk bs) = "str_ascii_iterator" := by
    unfold strIterType
    rw [if_pos]
    rw [← Array.all_toList, List.all_eq_true]
    intro c hc
    rcases brk_mem hc with h | h <;> simp [h]
  rw [h4]
  have h5 : ((brk bs).cps.toList.all fun c => c != 92) = true := by
    rw [List.all_eq_true]
    intro c hc
    rcases brk_mem hc with h | h <;> simp [h]
  rw [h5]
  rfl
theorem ok_brk (bs : List Bool) : PyData.strOk (brk bs) = true := by
  unfold PyData.strOk
  rw [← Array.all_toList, List.all_eq_true]
  intro c hc
  rcases brk_mem hc with h | h <;> simp [h]
theorem bad_brk (bs : List Bool) : (bad == brk bs) = false := by
  rw [beq_eq_false_iff_ne]
  intro h
  have h1 : 39 ∈ bad.cps.toList := by decide +kernel
  rw [h] at h1
  rcases brk_mem h1 with h | h <;> omega
theorem cut_brk (bs : List Bool) (h : bs ≠ []) : Txt.slice (brk bs) none (some (-1)) = brk bs.dropLast := by
  have hl : 1 ≤ bs.length := by cases bs with | nil => exact absurd rfl h | cons => simp
  have hi : Builtin.Str.strSliceIndices none (some (-1)) 1 (brk bs).length = (List.range (bs.length - 1)).map (0 + ·) := by
    rw [brk_len, PySem.StrLaws.sliceIdx_neg_hi none bs.length (by omega) (by omega)]
    have e : ((-1 : Int) + (bs.length : Int)) = ((bs.length - 1 : Nat) : Int) := by omega
    rw [e]
    unfold Builtin.Str.strSliceIndices
    dsimp only
    simp only [show ((1 : Int) > 0) = True from by simp, if_true, show ¬ (((bs.length - 1 : Nat) : Int) < 0) from by omega, if_false]
    have e2 : max (0 : Int) (min ((bs.length - 1 : Nat) : Int) (bs.length : Int)) = ((bs.length - 1 : Nat) : Int) := by omega
    rw [e2]
    exact sliceRange_one 0 (bs.length - 1)
  unfold Txt.slice
  rw [hi, if_neg (by rw [brk_len]; simp; omega), pick_run, brk_list, List.drop_zero, ← List.map_take, ← List.dropLast_eq_take]
  rfl
/-! the kept texts -/
noncomputable def good (bs : List Bool) : Bool := bal (bs.map code) 0
theorem chk_brk (bs : List Bool) : chk (brk bs) = if good bs then brk bs else bad := by
  unfold chk good
  rw [brk_list]
theorem kept_eq (bs : List Bool) : (chk (brk bs) == brk bs) = good bs := by
  rw [chk_brk]
  cases good bs
  · exact bad_brk bs
  · simp
/-! lists of texts -/
theorem strs_lay : ∀ xs : List Str, (∀ x ∈ xs, PyData.strOk x = true) → PyData.canLayAll0 (xs.map PyData.str) = true
  | [], _ => rfl
  | x :: r, h => by
    show (PyData.strOk x && PyData.canLayAll0 (r.map PyData.str)) = true
    rw [h x (by simp), strs_lay r fun y hy => h y (by simp [hy])]; rfl
theorem strs_depth : ∀ xs : List Str, PyData.depthAll (xs.map PyData.str) = 0
  | [] => rfl
  | x :: r => by
    show max 0 (PyData.depthAll (r.map PyData.str)) = 0
    rw [strs_depth r]; rfl
theorem strs_shaped {xs : List Str} (h : ∀ x ∈ xs, PyData.strOk x = true) : shaped' (.list (xs.map .str)) = true := by
  show (PyData.canLayAll0 (xs.map PyData.str) && decide (PyData.depthAll (xs.map PyData.str) + 1 ≤ 64)) = true
  rw [strs_lay xs h, strs_depth]; rfl
theorem ints_lay : ∀ xs : List Int, PyData.canLayAll0 (xs.map PyData.int) = true
  | [] => rfl
  | x :: r => by
    show (true && PyData.canLayAll0 (r.map PyData.int)) = true
    rw [ints_lay r]; rfl
theorem ints_depth : ∀ xs : List Int, PyData.depthAll (xs.map PyData.int) = 0
  | [] => rfl
  | x :: r => by
    show max 0 (PyData.depthAll (r.map PyData.int)) = 0
    rw [ints_depth r]; rfl
theorem ints_shaped (xs : List Int) : shaped' (intsD xs) = true := by
  show (PyData.canLayAll0 (xs.map PyData.int) && decide (PyData.depthAll (xs.map PyData.int) + 1 ≤ 64)) = true
  rw [ints_lay xs, ints_depth]; rfl
theorem ne_self {xs : List PyData} (h : shaped' (.list xs) = true) : cmpD .NotEq (.list xs) (.list xs) = some false := by
  show (if (shaped' (.list xs) && shaped' (.list xs)) = true then some (!PyData.eqv (.list xs) (.list xs)) else none) = _
  rw [h, SeqAt.eqv_refl _ (SeqAt.canLay_of_shaped h)]; rfl
/-! the ring's patterns -/
noncomputable def rot {α : Type} (k : Nat) (l : List α) : List α := l.drop k ++ l.take k
noncomputable def cut {α : Type} (k : Nat) (l : List α) : List α := (rot k l).dropLast
noncomputable def runsB : List Bool → Nat → List Int
  | [], _ => []
  | true :: r, c => runsB r (c + 1)
  | false :: r, c => (c : Int) :: runsB r 0
noncomputable def words : List (List Bool) := [[4,0,0,0],[3,1,0,0],[3,0,1,0],[3,0,0,1],[2,2,0,0],[2,1,1,0],[2,1,0,1],[2,0,2,0],[2,0,1,1],[1,3,0,0],[1,2,1,0],[1,2,0,1],[1,1,2,0],[1,1,1,1]].map fun (r : List Nat) => r.flatMap fun k => List.replicate k true ++ [false]
noncomputable def keepers (bs : List Bool) : List Nat := (List.range 9).filter fun k => good (cut k bs)
noncomputable def patOk (bs : List Bool) : Bool := match keepers bs with
  | [k] => words.contains (cut k bs) && (List.range 9).all fun j => !good (cut j bs).dropLast
  | _ => false
noncomputable def bools : Nat → List (List Bool)
  | 0 => [[]]
  | n + 1 => (bools n).flatMap fun b => [true :: b, false :: b]
theorem mem_bools : ∀ bs : List Bool, bs ∈ bools bs.length
  | [] => by simp [bools]
  | b :: r => by
    simp only [List.length_cons, bools, List.mem_flatMap]
    exact ⟨r, mem_bools r, by cases b <;> simp⟩
theorem pats_ok : ((bools 9).all fun bs => !(bs.countP id == 4) || patOk bs) = true := by decide +kernel
theorem pat_ok {bs : List Bool} (h : bs.length = 9) (h2 : bs.countP id = 4) : patOk bs = true := by
  have h3 := List.all_eq_true.mp pats_ok bs (h ▸ mem_bools bs)
  rw [h2] at h3
  exact h3
end Mine
/-! part 52 -/
set_option maxRecDepth 1000000
set_option maxHeartbeats 4000000
namespace Mine
open PySem PySem.Calls PyProof.Rows PySem.W
/-! the ring: which places open -/
theorem erase_perm : ∀ {l : List Int} {k : Nat} (h : k < l.length), (l[k] :: l.eraseIdx k).Perm l
  | x :: l, 0, _ => .refl _
  | x :: l, k + 1, h => by
    have h' : k < l.length := by simpa using h
    show (l[k] :: x :: l.eraseIdx k).Perm (x :: l)
    exact (List.Perm.swap x l[k] _).trans ((erase_perm h').cons x)
theorem pop_perm {a : List Int × List Int} {x : Int} (h : 0 < a.1.length) (hx : 0 ≤ x) : (popStep a x).1.length + 1 = a.1.length ∧ (popStep a x).2.length = a.2.length + 1 ∧ ((popStep a x).1 ++ (popStep a x).2).Perm (a.1 ++ a.2) := by
  have h1 := Int.fmod_lt_of_pos x (show (0 : Int) < (a.1.length : Int) by omega)
  have h2 := Int.fmod_nonneg (b := (a.1.length : Int)) hx (by omega)
  have hk : (x.fmod a.1.length).toNat < a.1.length := by omega
  unfold popStep
  dsimp only
  generalize (x.fmod a.1.length).toNat = k at hk
  refine ⟨by rw [List.length_eraseIdx, if_pos hk]; omega, by simp, ?_⟩
  have hg : a.1.getD k 0 = a.1[k] := by rw [List.getD_eq_getElem?_getD, List.getElem?_eq_getElem hk]; rfl
  rw [hg]
  have p := erase_perm hk
  refine List.Perm.trans ?_ (p.append_right a.2)
  rw [← List.append_assoc]
  refine (List.perm_append_comm (l₁ := a.1.eraseIdx k ++ a.2) (l₂ := [a.1[k]])).trans ?_
  simp
theorem opened_ok {draws : List Int} (h4 : draws.length = 4) (h0 : ∀ d ∈ draws, 0 ≤ d) : (nine.map (openedOf draws).contains).countP id = 4 := by
  have key : ∃ fr : List Int, (openedOf draws).length = 4 ∧ (fr ++ openedOf draws).Perm nine := by
    match draws, h4, h0 with
    | [d0, d1, d2, d3], _, h0 =>
      obtain ⟨l1, m1, p1⟩ := pop_perm (a := (nine, [])) (x := d0) (by decide) (h0 d0 (by simp))
      have l0 : (nine, ([] : List Int)).1.length = 9 := rfl
      have m0 : (nine, ([] : List Int)).2.length = 0 := rfl
      obtain ⟨l2, m2, p2⟩ := pop_perm (a := popStep (nine, []) d0) (x := d1) (by omega) (h0 d1 (by simp))
      obtain ⟨l3, m3, p3⟩ := pop_perm (a := popStep (popStep (nine, []) d0) d1) (x := d2) (by omega) (h0 d2 (by simp))
      obtain ⟨l4, m4, p4⟩ := pop_perm (a := popStep (popStep (popStep (nine, []) d0) d1) d2) (x := d3) (by omega) (h0 d3 (by simp))
      refine ⟨(popStep (popStep (popStep (popStep (nine, []) d0) d1) d2) d3).1, ?_, ?_⟩
      · show (popStep (popStep (popStep (popStep (nine, []) d0) d1) d2) d3).2.length = 4
        omega
      · have := ((p4.trans p3).trans p2).trans p1
        exact this.trans (by simp)
  obtain ⟨fr, hl, hp⟩ := key
  have hnd : (fr ++ openedOf draws).Nodup := hp.nodup_iff.mpr (by decide)
  rw [List.countP_map, ← hp.countP_eq, List.countP_append]
  have e1 : fr.countP (id ∘ (openedOf draws).contains) = 0 := by
    rw [List.countP_eq_zero]
    intro x hx hc
    have hm : x ∈ openedOf draws := by simpa using hc
    exact (List.nodup_append.mp hnd).2.2 x hx x hm rfl
  have e2 : (openedOf draws).countP (id ∘ (openedOf draws).contains) = (openedOf draws).length := by
    rw [List.countP_eq_length]
    intro x hx
    simpa using hx
  rw [e1, e2, hl]
theorem shown_nn {draws : List Int} (h0 : ∀ d ∈ draws, 0 ≤ d) {i : Int} (hi : 0 ≤ i) : 0 ≤ shownAt draws i := by
  unfold shownAt
  have : 0 ≤ draws.getD (i.fmod 4).toNat 0 := by
    rw [List.getD_eq_getElem?_getD]
    cases h : draws[(i.fmod 4).toNat]? with
    | none => simp
    | some d => exact h0 d (List.mem_of_getElem? h)
  rw [Int.fdiv_eq_ediv_of_nonneg _ (by omega)]
  omega
/-- an octet: from 0 to 255; where it opens, its figure is not 0 -/
noncomputable def octOk (o : Int) : Prop := 0 ≤ o ∧ o < 256 ∧ (opn o = true → 1 ≤ o % 64)
theorem opn_iff (o : Int) : opn o = decide (o / 64 % 2 = 1) := by
  unfold opn
  rw [Int.fdiv_eq_ediv_of_nonneg _ (by omega), Int.fmod_eq_emod_of_nonneg _ (by omega), Bool.eq_iff_iff]
  simp
theorem oct_opn {draws op : List Int} (h0 : ∀ d ∈ draws, 0 ≤ d) {i : Int} (hi : 0 ≤ i) : opn (octAt draws op i) = op.contains i ∧ octOk (octAt draws op i) := by
  have hs := shown_nn h0 hi
  have key : opn (octAt draws op i) = op.contains i ∧ 0 ≤ octAt draws op i ∧ octAt draws op i < 256 ∧ (op.contains i = true → 1 ≤ octAt draws op i % 64) := by
    rw [opn_iff]
    unfold octAt figAt
    generalize shownAt draws i = s at hs
    rw [Int.fdiv_eq_ediv_of_nonneg _ (by omega), Int.fmod_eq_emod_of_nonneg _ (by omega), Int.fmod_eq_emod_of_nonneg _ (by omega), Int.fmod_eq_emod_of_nonneg _ (by omega)]
    cases op.contains i
    · refine ⟨?_, ?_, ?_, by simp⟩
      · rw [decide_eq_false_iff_not]; simp only [cond_false]; omega
      · simp only [cond_false]; omega
      · simp only [cond_false]; omega
    · refine ⟨?_, ?_, ?_, fun _ => ?_⟩
      · rw [decide_eq_true_iff]; simp only [cond_true]; omega
      · simp only [cond_true]; omega
      · simp only [cond_true]; omega
      · simp only [cond_true]; omega
  refine ⟨key.1, key.2.1, key.2.2.1, fun h => key.2.2.2 ?_⟩
  rw [← key.1]; exact h
theorem ring_map {draws : List Int} (h0 : ∀ d ∈ draws, 0 ≤ d) : (ringOf draws).map opn = nine.map (openedOf draws).contains := by
  unfold ringOf
  rw [List.map_map]
  refine List.map_congr_left fun i hi => ?_
  have : 0 ≤ i := by simp only [nine, List.mem_cons, List.not_mem_nil, or_false] at hi; omega
  exact (oct_opn h0 this).1
theorem ring_oct {draws : List Int} (h0 : ∀ d ∈ draws, 0 ≤ d) : ∀ o ∈ ringOf draws, octOk o := by
  intro o ho
  obtain ⟨i, hi, rfl⟩ := List.mem_map.mp ho
  have : 0 ≤ i := by simp only [nine, List.mem_cons, List.not_mem_nil, or_false] at hi; omega
  exact (oct_opn h0 this).2
theorem ring_len (draws : List Int) : (ringOf draws).length = 9 := by unfold ringOf; rw [List.length_map]; rfl
theorem ring_pat {draws : List Int} (h4 : draws.length = 4) (h0 : ∀ d ∈ draws, 0 ≤ d) : patOk ((ringOf draws).map opn) = true :=
  pat_ok (by rw [List.length_map, ring_len]) (by rw [ring_map h0]; exact opened_ok h4 h0)
/-! groups: brackets that open, and the one that closes -/
abbrev Grp := List Int × Int
noncomputable def grpOk (g : Grp) : Prop := (∀ o ∈ g.1, opn o = true ∧ octOk o) ∧ opn g.2 = false ∧ octOk g.2
noncomputable def flat (gs : List Grp) : List Int := gs.flatMap fun g => g.1 ++ [g.2]
theorem groups_of : ∀ (octs pre : List Int), (∀ o ∈ pre, opn o = true ∧ octOk o) → (∀ o ∈ octs, octOk o) → (∀ o, octs.getLast? = some o → opn o = false) → (octs = [] → pre = []) →
    ∃ gs, pre ++ octs = flat gs ∧ runsB (octs.map opn) pre.length = gs.map (fun g => (g.1.length : Int)) ∧ ∀ g ∈ gs, grpOk g
  | [], pre, _, _, _, h => by
    rw [h rfl]
    exact ⟨[], rfl, rfl, by simp⟩
  | o :: r, pre, hp, ho, hl, _ => by
    have hr : ∀ o', r.getLast? = some o' → opn o' = false := fun o' e => hl o' (by
      cases r with
      | nil => cases e
      | cons a b => rw [List.getLast?_cons_cons]; exact e)
    cases hc : opn o with
    | false =>
      obtain ⟨gs, e1, e2, e3⟩ := groups_of r [] (by simp) (fun x hx => ho x (by simp [hx])) hr (fun _ => rfl)
      refine ⟨(pre, o) :: gs, ?_, ?_, ?_⟩
      · show _ = (pre ++ [o]) ++ flat gs
        rw [← e1]; simp
      · rw [List.map_cons, hc]
        show (pre.length : Int) :: runsB (r.map opn) 0 = _
        rw [show (0 : Nat) = ([] : List Int).length from rfl, e2]; rfl
      · intro g hg
        rcases List.mem_cons.mp hg with rfl | hg
        · exact ⟨hp, hc, ho o (by simp)⟩
        · exact e3 g hg
    | true =>
      have hne : r ≠ [] := by
        rintro rfl
        have := hl o rfl
        rw [hc] at this; cases this
      obtain ⟨gs, e1, e2, e3⟩ := groups_of r (pre ++ [o]) (fun x hx => by
        rcases List.mem_append.mp hx with hx | hx
        · exact hp x hx
        · rw [List.mem_singleton.mp hx]; exact ⟨hc, ho o (by simp)⟩) (fun x hx => ho x (by simp [hx])) hr (fun e => absurd e hne)
      refine ⟨gs, ?_, ?_, e3⟩
      · rw [← e1]; simp
      · rw [List.map_cons, hc]
        show runsB (r.map opn) (pre.length + 1) = _
        rw [← e2]; simp
/-! the number of a group -/
noncomputable def valF (os : List Int) (acc : Int) : Int := os.foldl (fun v o => (v + o % 64) * 64) acc
noncomputable def value (g : Grp) : Int := valF g.1 0 + g.2 % 64
theorem opn_t {o : Int} (h : opn o = true) : o / 64 % 2 = 1 := by rw [opn_iff] at h; exact of_decide_eq_true h
theorem opn_f {o : Int} (h : opn o = false) : ¬ o / 64 % 2 = 1 := by rw [opn_iff] at h; exact of_decide_eq_false h
theorem parse_ok {c : Int} {rest : List Int} (hc : opn c = false) : ∀ (os : List Int) (acc : Int) (m : Nat), 0 ≤ acc → acc + 64 ≤ 64 ^ (m + 1) → m + os.length ≤ 8 → (∀ o ∈ os, opn o = true) → parseV acc (os ++ c :: rest) = some (valF os acc + c % 64, rest)
  | [], acc, m, h0, h1, h2, _ => by
    have hp : (64 : Int) ^ (m + 1) ≤ 64 ^ 9 := by
      have := Nat.pow_le_pow_right (n := 64) (by omega) (show m + 1 ≤ 9 by simp at h2; omega)
      exact_mod_cast this
    show (if (acc + c % 64).natAbs < 2 ^ 57 then (if c / 64 % 2 = 1 then _ else some (acc + c % 64, rest)) else none) = _
    rw [if_pos (by omega), if_neg (opn_f hc)]; rfl
  | o :: os, acc, m, h0, h1, h2, h => by
    have hp : (64 : Int) ^ (m + 1) ≤ 64 ^ 9 := by
      have := Nat.pow_le_pow_right (n := 64) (by omega) (show m + 1 ≤ 9 by simp at h2; omega)
      exact_mod_cast this
    show (if (acc + o % 64).natAbs < 2 ^ 57 then (if o / 64 % 2 = 1 then parseV ((acc + o % 64) * 64) (os ++ c :: rest) else _) else none) = _
    rw [if_pos (by omega), if_pos (opn_t (h o (by simp))), parse_ok hc os ((acc + o % 64) * 64) (m + 1) (by omega) (by rw [Int.pow_succ (64 : Int) (m + 1)]; omega) (by simp at h2; omega) fun x hx => h x (by simp [hx])]
    rfl
theorem readV_ne {n : Nat} {l : List Int} (h : l ≠ []) : readV (n + 1) l = (parseV 0 l).bind fun q => (readV n q.2).map (q.1 :: ·) := by
  cases l with
  | nil => exact absurd rfl h
  | cons b r => rfl
theorem read_groups : ∀ gs : List Grp, (∀ g ∈ gs, grpOk g ∧ g.1.length ≤ 4) → readV (gs.length + 1) (flat gs) = some (gs.map value)
  | [], _ => rfl
  | g :: gs, h => by
    obtain ⟨⟨h1, h2, _⟩, h4⟩ := h g (by simp)
    have hf : flat (g :: gs) = g.1 ++ g.2 :: flat gs := by
      show (g.1 ++ [g.2]) ++ flat gs = _
      simp
    rw [hf, List.length_cons, readV_ne (by simp), parse_ok h2 g.1 0 0 (by omega) (by omega) (by omega) fun o ho => (h1 o ho).1]
    show (readV (gs.length + 1) (flat gs)).map _ = _
    rw [read_groups gs fun x hx => h x (by simp [hx])]
    rfl
/-! what is asked of a group's number -/
noncomputable def pows : List Int := [64, 4096, 262144, 16777216]
theorem loop_t {α : Type} {cont : α → Bool} {nxt : α → α} {k : Nat} {a : α} (h : cont a = true) : loopN cont nxt (k + 1) a = loopN cont nxt k (nxt a) := by
  show (if cont a = true then _ else _) = _
  rw [if_pos h]
theorem loop_f {α : Type} {cont : α → Bool} {nxt : α → α} {k : Nat} {a : α} (h : cont a = false) : loopN cont nxt (k + 1) a = some a := by
  show (if cont a = true then _ else _) = _
  rw [h]; rfl
theorem nx_t {x : Int} {a b : Int} {y : Int} {m : Int} (hm : midP (a, b) = m) (hy : pows.getD m.toNat 0 = y) (h : x < y) : nxtR pows x (a, b) = (a, m) := by
  unfold nxtR; rw [hm, hy, if_pos h]
theorem nx_f {x : Int} {a b : Int} {y : Int} {m : Int} (hm : midP (a, b) = m) (hy : pows.getD m.toNat 0 = y) (h : ¬ x < y) : nxtR pows x (a, b) = (m + 1, b) := by
  unfold nxtR; rw [hm, hy, if_neg h]
theorem pow_len {x : Int} {k : Nat} (hk : k ≤ 4) (h1 : k = 0 ∨ 64 ^ k ≤ x) (h2 : x < 64 ^ (k + 1)) : biR pows x = some ((k : Int), (k : Int)) := by
  show loopN ltP (nxtR pows x) 100 (0, 4) = _
  match k, hk with
  | 0, _ =>
    rw [loop_t rfl, nx_t (m := 2) (y := 262144) rfl rfl (by omega), loop_t rfl, nx_t (m := 1) (y := 4096) rfl rfl (by omega), loop_t rfl, nx_t (m := 0) (y := 64) rfl rfl (by omega), loop_f rfl]; rfl
  | 1, _ =>
    rw [loop_t rfl, nx_t (m := 2) (y := 262144) rfl rfl (by omega), loop_t rfl, nx_t (m := 1) (y := 4096) rfl rfl (by omega), loop_t rfl, nx_f (m := 0) (y := 64) rfl rfl (by omega), loop_f rfl]; rfl
  | 2, _ =>
    rw [loop_t rfl, nx_t (m := 2) (y := 262144) rfl rfl (by omega), loop_t rfl, nx_f (m := 1) (y := 4096) rfl rfl (by omega), loop_f rfl]; rfl
  | 3, _ =>
    rw [loop_t rfl, nx_f (m := 2) (y := 262144) rfl rfl (by omega), loop_t rfl, nx_t (m := 3) (y := 16777216) rfl rfl (by omega), loop_f rfl]; rfl
  | 4, _ =>
    rw [loop_t rfl, nx_f (m := 2) (y := 262144) rfl rfl (by omega), loop_t rfl, nx_f (m := 3) (y := 16777216) rfl rfl (by omega), loop_f rfl]; rfl
theorem fig_t {q f : Int} {l : List Int} {k : Nat} (hq : 1 ≤ q) (h0 : 0 ≤ f) (h1 : f < 64) : loopN moreF nxtF (k + 1) (q * 64 + f, l) = loopN moreF nxtF k (q, q.fmod 64 :: l) := by
  rw [loop_t (by unfold moreF; rw [decide_eq_true_iff]; omega)]
  unfold nxtF
  dsimp only
  rw [Int.fdiv_eq_ediv_of_nonneg _ (by omega), show (q * 64 + f) / 64 = q by omega]
theorem fig_f {f : Int} {l : List Int} {k : Nat} (h1 : f < 64) : loopN moreF nxtF (k + 1) (f, l) = some (f, l) := loop_f (by unfold moreF; rw [decide_eq_false_iff_not]; dsimp only; omega)
theorem mod_t {q f : Int} (h0 : 0 ≤ f) (h1 : f < 64) : (q * 64 + f).fmod 64 = f := by
  rw [Int.fmod_eq_emod_of_nonneg _ (by omega)]; omega
structure GrpFacts (g : Grp) : Prop where
  nn : 0 ≤ value g
  lt : value g < 64 ^ 10
  len : biR pows (value g) = some ((g.1.length : Int), (g.1.length : Int))
  figs : ∃ q, loopN moreF nxtF 100 (value g, [(value g).fmod 64]) = some (q, (g.1 ++ [g.2]).map (· % 64))
/-- the octets' value without the last factor -/
noncomputable def valP (os : List Int) : Int := os.foldl (fun v o => v * 64 + o % 64) 0
theorem val_P : ∀ os : List Int, valF os 0 = valP os * 64
  | os => by
    have key : ∀ (os : List Int) (a b : Int), a = b * 64 → os.foldl (fun v o => (v + o % 64) * 64) a = os.foldl (fun v o => v * 64 + o % 64) b * 64 := by
      intro os
      induction os with
      | nil => intro a b h; exact h
      | cons o os ih => intro a b h; exact ih _ _ (by rw [h])
    exact key os 0 0 rfl
theorem valP_snoc (os : List Int) (o : Int) : valP (os ++ [o]) = valP os * 64 + o % 64 := by
  unfold valP; rw [List.foldl_append]; rfl
theorem snoc_ind {p : List Int → Prop} (h0 : p []) (h1 : ∀ l o, p l → p (l ++ [o])) (l : List Int) : p l := by
  have : ∀ n (l : List Int), l.length = n → p l := by
    intro n
    induction n with
    | zero => intro l h; rw [List.length_eq_zero_iff.mp h]; exact h0
    | succ n ih =>
      intro l h
      have hne : l ≠ [] := by rintro rfl; cases h
      rw [← List.dropLast_concat_getLast hne]
      exact h1 _ _ (ih _ (by rw [List.length_dropLast, h]; rfl))
  exact this _ l rfl
/-- bounds of the value, and its figures -/
theorem valP_facts : ∀ os : List Int, (∀ o ∈ os, 1 ≤ o % 64) → 0 ≤ valP os ∧ valP os < 64 ^ os.length ∧ (os ≠ [] → 64 ^ (os.length - 1) ≤ valP os) ∧ ∀ k l, os.length ≤ k → os ≠ [] → ∃ q, loopN moreF nxtF k (valP os, (valP os).fmod 64 :: l) = some (q, os.map (· % 64) ++ l) := by
  refine snoc_ind ?_ fun os o ih h => ?_
  · intro _
    exact ⟨by decide, by decide, fun h => absurd rfl h, fun _ _ _ h => absurd rfl h⟩
  · obtain ⟨h0, h1, h2, h3⟩ := ih fun x hx => h x (List.mem_append_left _ hx)
    have ho := h o (List.mem_append_right _ (List.mem_singleton.mpr rfl))
    have ho2 := Int.emod_lt_of_pos o (show (0 : Int) < 64 by decide)
    rw [valP_snoc, List.length_append, List.length_singleton, Int.pow_succ]
    refine ⟨by omega, by omega, fun _ => ?_, fun k l hk _ => ?_⟩
    · rw [Nat.add_sub_cancel]
      cases os with
      | nil => show (1 : Int) ≤ _; omega
      | cons a r =>
        have := h2 (by simp)
        rw [List.length_cons, Nat.add_sub_cancel] at this
        rw [List.length_cons, Int.pow_succ]; omega
    · obtain ⟨k, rfl⟩ : ∃ j, k = j + 1 := ⟨k - 1, by omega⟩
      rw [mod_t (by omega) ho2, List.map_append]
      cases os with
      | nil => exact ⟨_, fig_f (by show (0 : Int) * 64 + o % 64 < 64; omega)⟩
      | cons a r =>
        have hq : 1 ≤ valP (a :: r) := by
          have := h2 (by simp)
          have hp : (0 : Int) < 64 ^ ((a :: r).length - 1) := Int.pow_pos (by decide)
          omega
        rw [fig_t hq (by omega) ho2]
        obtain ⟨q, e⟩ := h3 k (o % 64 :: l) (by omega) (by simp)
        exact ⟨q, by rw [e]; simp⟩
theorem grp_facts {g : Grp} (h : grpOk g) (h4 : g.1.length ≤ 4) : GrpFacts g := by
  obtain ⟨os, c⟩ := g
  obtain ⟨h1, h2, h3⟩ := h
  dsimp only at h1 h2 h3 h4
  obtain ⟨b0, b1, b2, b3⟩ := valP_facts os fun o ho => (h1 o ho).2.2.2 (h1 o ho).1
  have e : value (os, c) = valP os * 64 + c % 64 := by unfold value; rw [val_P]
  have c0 := Int.emod_nonneg c (show (64 : Int) ≠ 0 by decide)
  have c1 := Int.emod_lt_of_pos c (show (0 : Int) < 64 by decide)
  have hp : (64 : Int) ^ os.length ≤ 64 ^ 4 := by
    have := Nat.pow_le_pow_right (n := 64) (by decide) h4
    exact_mod_cast this
  refine ⟨by rw [e]; omega, by rw [e]; omega, ?_, ?_⟩
  · rw [e]
    refine pow_len h4 ?_ (by rw [Int.pow_succ]; dsimp only; omega)
    cases os with
    | nil => exact .inl rfl
    | cons a r =>
      have := b2 (by simp)
      rw [List.length_cons, Nat.add_sub_cancel] at this
      refine .inr ?_
      dsimp only
      rw [List.length_cons, Int.pow_succ]; omega
  · rw [e, mod_t c0 c1]
    dsimp only
    rw [List.map_append]
    cases os with
    | nil => exact ⟨_, fig_f (by show (0 : Int) * 64 + c % 64 < 64; omega)⟩
    | cons a r =>
      have hq : 1 ≤ valP (a :: r) := by
        have := b2 (by simp)
        have hp : (0 : Int) < 64 ^ ((a :: r).length - 1) := Int.pow_pos (by decide)
        omega
      rw [fig_t hq c0 c1]
      exact b3 99 [c % 64] (by omega) (by simp)
end Mine
/-! part 53 -/
set_option maxRecDepth 1000000
set_option maxHeartbeats 4000000
namespace Mine
open PySem PySem.Calls PyProof.Rows PySem.W
section
variable {P : Prims} {n : Nat} {sc : Sc} {σ : Sig} {R : Ip}
theorem comp_mapL {β : Type} {x : Str} {p : Pos} {elt : Expr} {inj g : β → PyData} (hx : sc.lookup x = some .local) : ∀ {l : List β}, (∀ b ∈ l, R.ev sc ((x, inj b) :: σ) elt = some (g b)) → compGo R sc σ (.Name x p) [] elt (l.map inj) = some (l.map g)
  | [], _ => rfl
  | b :: l, h => by
    show (if (sc.lookup x == some NameKind.local) = true then some [(x, inj b)] else none).bind _ = _
    rw [hx, if_pos (by rfl)]
    show (R.ev sc ((x, inj b) :: σ) elt).bind _ = _
    rw [h b (by simp)]
    show (compGo R sc σ (.Name x p) [] elt (l.map inj)).bind _ = _
    rw [comp_mapL hx fun e he => h e (by simp [he])]
    rfl
theorem comp_filterL {β : Type} {x : Str} {p : Pos} {elt c : Expr} {inj g : β → PyData} {t : β → Bool} (hx : sc.lookup x = some .local) : ∀ {l : List β}, (∀ b ∈ l, R.tst sc ((x, inj b) :: σ) c = some (t b)) → (∀ b ∈ l, t b = true → R.ev sc ((x, inj b) :: σ) elt = some (g b)) → compGo R sc σ (.Name x p) [c] elt (l.map inj) = some ((l.filter t).map g)
  | [], _, _ => rfl
  | d :: ds, h, k => by
    have ih := comp_filterL (p := p) (l := ds) hx (fun e he => h e (by simp [he])) (fun e he => k e (by simp [he]))
    show (if (sc.lookup x == some NameKind.local) = true then some [(x, inj d)] else none).bind _ = _
    rw [hx, if_pos (by rfl)]
    show ((R.tst sc ((x, inj d) :: σ) c).bind _).bind _ = _
    rw [h d (by simp)]
    cases ht : t d with
    | true =>
      show (R.ev sc ((x, inj d) :: σ) elt).bind _ = _
      rw [k d (by simp) ht]
      show (compGo R sc σ (.Name x p) [c] elt (ds.map inj)).bind _ = _
      rw [ih, List.filter_cons, if_pos ht]
      rfl
    | false =>
      show compGo R sc σ (.Name x p) [c] elt (ds.map inj) = _
      rw [ih, List.filter_cons, if_neg (by simp [ht])]
theorem slice_init {xs : List PyData} (h : xs ≠ []) : sliceD xs none (some (-1)) none = some (.list xs.dropLast) := by
  unfold sliceD
  have hl : 1 ≤ xs.length := by cases xs with | nil => exact absurd rfl h | cons => simp
  have e : clipAt xs.length (-1) = xs.length - 1 := by
    unfold clipAt
    rw [if_pos (by omega)]
    omega
  simp only [Option.elim, e, List.drop_zero, Nat.sub_zero]
  rw [List.dropLast_eq_take]
/-- `v[:-1]` -/
theorem E_init {v e : Expr} {p q : Pos} {xs : List PyData} (hv : (I P n).ev sc σ v = some (.list xs)) (hk : (I P n).ev sc σ e = some (.int (-1))) (hf : few xs.length = true) (hne : xs ≠ []) : (I P (n + 1)).ev sc σ (.Subscript v (.Slice none (some e) none q) p) = some (.list xs.dropLast) := by
  refine E_slice (a := none) (b := some (.int (-1))) (c := none) (a' := none) (b' := some (-1)) (c' := none) hv rfl (by show ((I P n).ev sc σ e).map some = _; rw [hk]; rfl) rfl rfl rfl rfl ?_
  show (if few xs.length = true then sliceD xs none (some (-1)) none else none) = _
  rw [if_pos hf, slice_init hne]
theorem E_initS {v e : Expr} {p q : Pos} {x : Str} (hv : (I P n).ev sc σ v = some (.str x)) (hk : (I P n).ev sc σ e = some (.int (-1))) (hf : few x.length = true) : (I P (n + 1)).ev sc σ (.Subscript v (.Slice none (some e) none q) p) = some (.str (Txt.slice x none (some (-1)))) := by
  refine E_slice (a := none) (b := some (.int (-1))) (c := none) (a' := none) (b' := some (-1)) (c' := none) hv rfl (by show ((I P n).ev sc σ e).map some = _; rw [hk]; rfl) rfl rfl rfl rfl ?_
  show (if few x.length = true then some _ else none) = _
  rw [if_pos hf]
end
/-! sums of cells -/
noncomputable def cellOk (y : PyData) : Prop := ∃ c : Int, y = .int c ∧ 0 ≤ c ∧ c < 1000000
theorem sum_ex : ∀ ys : List PyData, (∀ y ∈ ys, cellOk y) → ∃ S : Int, 0 ≤ S ∧ sumD ys = some S
  | [], _ => ⟨0, by omega, rfl⟩
  | y :: ys, h => by
    obtain ⟨c, rfl, h0, h1⟩ := h y (by simp)
    obtain ⟨S, hS, e⟩ := sum_ex ys fun z hz => h z (by simp [hz])
    refine ⟨c + S, by omega, ?_⟩
    show (if c.natAbs < 2 ^ 40 then (sumD ys).map (c + ·) else none) = _
    rw [if_pos (by omega), e]; rfl
noncomputable def quarter (xs : List PyData) (p : Int) : List PyData := (sliceRange (sliceBounds (some p) none (some 4) xs.length).1 (sliceBounds (some p) none (some 4) xs.length).2.1 (sliceBounds (some p) none (some 4) xs.length).2.2).filterMap (xs[·]?)
theorem quarter_len (xs : List PyData) (p : Int) (h : xs.length ≤ 12) : (quarter xs p).length ≤ 100 := by
  refine Nat.le_trans (List.length_filterMap_le _ _) ?_
  unfold sliceRange sliceBounds
  simp only [Option.getD_some, show ((4 : Int) > 0) = True from by simp, if_true, List.length_map, List.length_range]
  split <;> omega
theorem quarter_mem {xs : List PyData} {p : Int} {y : PyData} (h : y ∈ quarter xs p) : y ∈ xs := by
  unfold quarter at h
  obtain ⟨k, _, e⟩ := List.mem_filterMap.mp h
  exact List.mem_of_getElem? e
noncomputable def sumAt (xs : List PyData) (p : Int) : Int := (sumD (quarter xs p)).getD 0
theorem sumAt_ok {xs : List PyData} (p : Int) (hc : ∀ y ∈ xs, cellOk y) (h : xs.length ≤ 12) : 0 ≤ sumAt xs p ∧ bfn P0 "sum" [.list (quarter xs p)] = some (.int (sumAt xs p)) := by
  obtain ⟨S, h0, e⟩ := sum_ex (quarter xs p) fun y hy => hc y (quarter_mem hy)
  have : sumAt xs p = S := by unfold sumAt; rw [e]; rfl
  rw [this]
  refine ⟨h0, ?_⟩
  show (if few (quarter xs p).length = true then (sumD (quarter xs p)).map PyData.int else none) = _
  rw [if_pos (few_of (by have := quarter_len xs p h; omega)), e]; rfl
theorem E_quarter {P : Prims} {n : Nat} {sc : Sc} {σ : Sig} {v lo so : Expr} {p q : Pos} {xs : List PyData} {i : Int} (hv : (I P n).ev sc σ v = some (.list xs)) (h1 : (I P n).ev sc σ lo = some (.int i)) (h2 : (I P n).ev sc σ so = some (.int 4)) (hf : few xs.length = true) : (I P (n + 1)).ev sc σ (.Subscript v (.Slice (some lo) none (some so) q) p) = some (.list (quarter xs i)) := by
  refine E_slice (a := some (.int i)) (b := none) (c := some (.int 4)) (a' := some i) (b' := none) (c' := some 4) hv (by show ((I P n).ev sc σ lo).map some = _; rw [h1]; rfl) rfl (by show ((I P n).ev sc σ so).map some = _; rw [h2]; rfl) rfl rfl rfl ?_
  show (if few xs.length = true then sliceD xs (some i) none (some 4) else none) = _
  rw [if_pos hf]
  unfold sliceD
  show (if (0 : Int) < 4 then some _ else none) = _
  rw [if_pos (by decide)]; rfl
/-! the law's first half -/
noncomputable def cellsD (ns : List Int) : List PyData := (ns.take 12).map fun i => .int (i.fmod 1000000)
theorem cells_ok (ns : List Int) : (cellsD ns).length ≤ 12 ∧ ∀ y ∈ cellsD ns, cellOk y := by
  constructor
  · unfold cellsD; rw [List.length_map, List.length_take]; omega
  · intro y hy
    obtain ⟨i, _, rfl⟩ := List.mem_map.mp hy
    refine ⟨_, rfl, ?_⟩
    rw [Int.fmod_eq_emod_of_nonneg _ (by omega)]
    omega
noncomputable def drawsOf (ns : List Int) : List Int := [635 + sumAt (cellsD ns) 0, 41 + sumAt (cellsD ns) 1, 146 + sumAt (cellsD ns) 2, 604 + sumAt (cellsD ns) 3]
theorem draws_nn (ns : List Int) : ∀ d ∈ drawsOf ns, 0 ≤ d := by
  obtain ⟨h1, h2⟩ := cells_ok ns
  have := (sumAt_ok 0 h2 h1).1
  have := (sumAt_ok 1 h2 h1).1
  have := (sumAt_ok 2 h2 h1).1
  have := (sumAt_ok 3 h2 h1).1
  intro d hd
  simp only [drawsOf, List.mem_cons, List.not_mem_nil, or_false] at hd
  omega
noncomputable def strsP (xs : List Str) : PyData := .list (xs.map .str)
noncomputable def ringsD (os : List Int) : PyData := .list ((List.range 9).map fun k => intsD (rot k os))
noncomputable def textsS (bs : List Bool) : List Str := (List.range 9).map fun k => brk (cut k bs)
noncomputable def shortS (bs : List Bool) : List Str := (List.range 9).map fun k => brk (cut k bs).dropLast
noncomputable def keptS (bs : List Bool) : List Str := (textsS bs ++ shortS bs).map chk
noncomputable def st1 (ns : List Int) (os : List Int) (k : Nat) : Sto := [(nm "taken", .sh (.list [.int k])), (nm "kept", .sh (strsP (keptS (os.map opn)))), (nm "texts", .sh (strsP (textsS (os.map opn)))), (nm "rings", .sh (ringsD os)), (nm "octets", .sh (intsD os)), (nm "cells", .sh (.list (cellsD ns))), (nm "script", .sh (intsD ns))]
theorem rot_len {α : Type} (k : Nat) (l : List α) : (rot k l).length = l.length := by
  unfold rot; rw [List.length_append, List.length_drop, List.length_take]; omega
theorem rot_map {α β : Type} (f : α → β) (k : Nat) (l : List α) : (rot k l).map f = rot k (l.map f) := by
  unfold rot; rw [List.map_append, List.map_drop, List.map_take]
theorem cut_map {α β : Type} (f : α → β) (k : Nat) (l : List α) : (cut k l).map f = cut k (l.map f) := by
  unfold cut; rw [← rot_map, List.map_dropLast]
theorem cut_len {α : Type} (k : Nat) (l : List α) : (cut k l).length = l.length - 1 := by
  unfold cut; rw [List.length_dropLast, rot_len]
theorem ne_len {α : Type} {l : List α} (h : 0 < l.length) : l ≠ [] := by rintro rfl; simp at h
theorem kept_rows {bs : List Bool} {k : Nat} (hk : keepers bs = [k]) (hs : ∀ j < 9, good (cut j bs).dropLast = false) : keptS bs = (List.range 18).map fun j => if j == k then brk (cut j bs) else bad := by
  have hgood : ∀ j < 9, good (cut j bs) = (j == k) := fun j hj => by
    have h1 : j ∈ keepers bs ↔ good (cut j bs) = true := by unfold keepers; rw [List.mem_filter, List.mem_range]; simp [hj]
    rw [hk, List.mem_singleton] at h1
    cases hg : good (cut j bs) with
    | true => rw [h1.mpr hg]; simp
    | false =>
      symm; rw [beq_eq_false_iff_ne]
      intro e
      rw [h1.mp e] at hg; cases hg
  have hk9 : k < 9 := by
    have : k ∈ keepers bs := by rw [hk]; simp
    unfold keepers at this
    exact List.mem_range.mp (List.mem_filter.mp this).1
  unfold keptS textsS shortS
  rw [show List.range 18 = List.range 9 ++ (List.range 9).map (9 + ·) from rfl, List.map_append, List.map_append, List.map_map, List.map_map, List.map_map]
  congr 1
  · refine List.map_congr_left fun j hj => ?_
    have hj := List.mem_range.mp hj
    show chk (brk (cut j bs)) = _
    rw [chk_brk, hgood j hj]
  · refine List.map_congr_left fun j hj => ?_
    have hj := List.mem_range.mp hj
    show chk (brk (cut j bs).dropLast) = if (9 + j == k) = true then _ else _
    rw [chk_brk, hs j hj, if_neg (by simp), if_neg (by simp; omega)]
theorem pre_ok {ns : List Int} (hl : ns.length ≤ 63) {os : List Int} (ho : os = ringOf (drawsOf ns)) {k : Nat} (hk : keepers (os.map opn) = [k]) (hs : ∀ j < 9, good (cut j (os.map opn)).dropLast = false) :
    Ends (I P0 24) lawNames [(nm "script", .sh (intsD ns))] lawPre fun st => st = st1 ns os k := by
  have hol : os.length = 9 := by rw [ho, ring_len]
  obtain ⟨hc1, hc2⟩ := cells_ok ns
  -- cells
  refine N_cons (x_sh (d := .list (cellsD ns)) rfl rfl rfl (E_comp (by kernel_rfl!) (by kernel_rfl!) (S_ev (E_take 12 E_name E_const (few_of (by rw [List.length_map]; omega)))) rfl (few_of (by simp; omega)) ?_)) ?_
  · rw [← List.map_take]
    exact comp_mapL (g := fun (i : Int) => .int (i.fmod 1000000)) rfl fun i _ => E_bin (E_bfn (b := "int") (by rfl) rfl rfl rfl (mapO1 E_name) rfl) (E_bin E_const E_const)
  -- octets
  have hfc : few (cellsD ns).length = true := few_of (by omega)
  refine N_cons (x_sh (d := intsD os) rfl rfl rfl (E_call rfl rfl rfl rfl (mapO1 (d := intsD (drawsOf ns)) (E_comp (by kernel_rfl!) (by kernel_rfl!) (S_enum (xs := [.int 635, .int 41, .int 146, .int 604]) rfl (by rfl) (by rfl) rfl) rfl rfl ?_)) ?_)) ?_
  · refine comp_map2 (ds := [(.int 0, .int 635), (.int 1, .int 41), (.int 2, .int 146), (.int 3, .int 604)]) (f := fun p q => match p, q with | .int i, .int a => .int (a + sumAt (cellsD ns) i) | _, _ => .none) (by kernel_rfl!) fun d hd => ?_
    simp only [List.mem_cons, List.not_mem_nil, or_false] at hd
    rcases hd with rfl | rfl | rfl | rfl <;>
    exact E_bin E_name (E_bfn (b := "sum") (by rfl) rfl rfl rfl (mapO1 (E_quarter (E_name (d := .list (cellsD ns))) E_name E_const hfc)) (sumAt_ok _ hc2 hc1).2)
  · rw [ho]; exact ring_ev _ rfl (draws_nn ns)
  -- rings
  have hfo : few (os.map PyData.int).length = true := few_of (by rw [List.length_map]; omega)
  refine N_cons (x_sh (d := ringsD os) rfl rfl rfl (E_comp (by kernel_rfl!) (by kernel_rfl!) (S_range (by rfl) (mapO1 E_const) (by rfl)) rfl rfl (comp_mapL (l := List.range 9) (inj := fun (k : Nat) => .int k) (g := fun k => intsD (rot k os)) rfl fun j hj => ?_))) ?_
  · have hadd : binD .Add (.list ((os.map PyData.int).drop j)) (.list ((os.map PyData.int).take j)) = some (intsD (rot j os)) := by
      rw [bin_add (by simp; omega), ← List.map_drop, ← List.map_take, ← List.map_append]; rfl
    exact E_bin (E_drop j E_name E_name hfo) (E_take j E_name E_name hfo) hadd
  -- texts
  refine N_cons (x_sh (d := strsP (textsS (os.map opn))) rfl rfl rfl ?_) ?_
  · have e : strsP (textsS (os.map opn)) = .list ((List.range 9).map fun k => .str (brk (cut k (os.map opn)))) := by
      unfold strsP textsS; rw [List.map_map]; rfl
    rw [e]
    refine E_comp (by kernel_rfl!) (by kernel_rfl!) (S_ev (E_name (d := ringsD os))) rfl rfl (comp_mapL (l := List.range 9) (inj := fun (k : Nat) => intsD (rot k os)) rfl fun j hj => ?_)
    refine E_call rfl rfl rfl rfl (mapO1 (d := intsD (cut j os)) ?_) ?_
    · have e2 : intsD (cut j os) = .list ((rot j os).map PyData.int).dropLast := by unfold intsD cut; rw [List.map_dropLast]
      rw [e2]
      exact E_init (E_name (d := intsD (rot j os))) (E_neg E_const) (few_of (by rw [List.length_map, rot_len]; omega)) (ne_len (by rw [List.length_map, rot_len]; omega))
    · have ht := text_ev (n := 12) (cut j os) (by rw [cut_len]; omega)
      have e3 : (cut j os).map (fun o => one (opn o)) = (cut j (os.map opn)).map one := by rw [← cut_map, List.map_map]; rfl
      rw [e3, join_brk] at ht
      exact ht
  -- kept
  have hst : few ((textsS (os.map opn)).map PyData.str).length = true := rfl
  refine N_cons (x_sh (d := strsP (keptS (os.map opn))) rfl rfl rfl (E_call rfl rfl rfl rfl (mapO1 (d := strsP (textsS (os.map opn) ++ shortS (os.map opn))) ?_) ?_)) ?_
  · refine E_bin (b := strsP (shortS (os.map opn))) (E_name (d := strsP (textsS (os.map opn)))) ?_ ?_
    · have e : strsP (shortS (os.map opn)) = .list ((List.range 9).map fun k => .str (brk (cut k (os.map opn)).dropLast)) := by
        unfold strsP shortS; rw [List.map_map]; rfl
      rw [e]
      have e2 : (textsS (os.map opn)).map PyData.str = (List.range 9).map fun k => .str (brk (cut k (os.map opn))) := by
        unfold textsS; rw [List.map_map]; rfl
      refine E_comp (by kernel_rfl!) (by kernel_rfl!) (S_ev (E_name (d := strsP (textsS (os.map opn))))) rfl hst ?_
      rw [e2]
      refine comp_mapL rfl fun j hj => ?_
      rw [← cut_brk _ (ne_len (by rw [cut_len, List.length_map]; omega))]
      exact E_initS E_name (E_neg E_const) (few_of (by rw [brk_len, cut_len, List.length_map]; omega))
    · unfold strsP
      rw [bin_add (by simp [textsS, shortS]), List.map_append]
  · have := pre_ev (n := 11) (textsS (os.map opn) ++ shortS (os.map opn)) (by simp [textsS, shortS]) (fun x hx => by
      rcases List.mem_append.mp hx with hx | hx <;>
      · obtain ⟨j, _, rfl⟩ := List.mem_map.mp hx
        exact plain_brk _)
    have e3 : (keptS (os.map opn)).map PyData.str = (textsS (os.map opn) ++ shortS (os.map opn)).map fun x => .str (chk x) := by
      unfold keptS; rw [List.map_map]; rfl
    show _ = some (PyData.list ((keptS (os.map opn)).map PyData.str))
    rw [e3]
    exact this
  -- taken
  have hk18 : few ((keptS (os.map opn)).map PyData.str).length = true := rfl
  refine N_cons (x_sh (d := .list [.int k]) rfl rfl rfl ?_) ?_
  · have e : [PyData.int k] = ((List.range 9).filter fun k => good (cut k (os.map opn))).map fun (k : Nat) => .int k := by
      show _ = (keepers (os.map opn)).map _
      rw [hk]; rfl
    rw [e]
    refine E_comp (by kernel_rfl!) (by kernel_rfl!) (S_range (by rfl) (mapO1 E_const) (by rfl)) rfl rfl (comp_filterL (l := List.range 9) (inj := fun (k : Nat) => .int k) rfl (fun j hj => ?_) fun j _ _ => E_name)
    have hj9 := List.mem_range.mp hj
    have i1 : idxD ((keptS (os.map opn)).map PyData.str) (j : Int) = some (.str (chk (brk (cut j (os.map opn))))) := by
      unfold idxD keptS textsS
      rw [if_pos (by omega), Int.toNat_natCast, List.map_map, List.map_append, List.getElem?_append_left (by simpa using hj9), List.map_map, List.getElem?_map, List.getElem?_range hj9]
      rfl
    have i2 : idxD ((textsS (os.map opn)).map PyData.str) (j : Int) = some (.str (brk (cut j (os.map opn)))) := by
      unfold idxD textsS
      rw [if_pos (by omega), Int.toNat_natCast, List.map_map, List.getElem?_map, List.getElem?_range hj9]
      rfl
    rw [← kept_eq]
    exact T_cmp (E_sub (E_name (d := strsP (keptS (os.map opn)))) E_name hk18 i1) (E_sub (E_name (d := strsP (textsS (os.map opn)))) E_name hst i2)
  -- the test
  have hrow := kept_rows hk hs
  have hshape : shaped' (strsP (keptS (os.map opn))) = true := strs_shaped fun x hx => by
    rw [hrow] at hx
    obtain ⟨j, _, rfl⟩ := List.mem_map.mp hx
    split
    · exact ok_brk _
    · decide +kernel
  refine N_if (c := false) (T_or_f (T_cmp (a := .int 1) (E_bfn (b := "len") (by rfl) rfl rfl rfl (mapO1 (E_name (d := .list [.int k]))) rfl) E_const) (T_cmp (a := strsP (keptS (os.map opn))) (b := strsP (keptS (os.map opn))) E_name ?_ (ne_self hshape))) (N_nil (N_nil rfl))
  have e : strsP (keptS (os.map opn)) = .list ((List.range 18).map fun j => .str (if j == k then brk (cut j (os.map opn)) else bad)) := by
    unfold strsP; rw [hrow, List.map_map]; rfl
  rw [e]
  refine E_comp (by kernel_rfl!) (by kernel_rfl!) (S_range (by rfl) (mapO1 E_const) (by rfl)) rfl rfl (comp_mapL (l := List.range 18) (inj := fun (k : Nat) => .int k) rfl fun j hj => ?_)
  have hin : cmpD .In (.int j) (.list [.int k]) = some (j == k) := by
    show some (((k : Int) == (j : Int)) || false) = _
    rw [Bool.or_false]
    congr 1
    rw [Bool.eq_iff_iff, beq_iff_eq, beq_iff_eq]; omega
  refine E_ifexp (T_cmp E_name (E_name (d := .list [.int k])) hin) ?_
  have hk9 : k < 9 := by
    have : k ∈ keepers (os.map opn) := by rw [hk]; simp
    unfold keepers at this
    exact List.mem_range.mp (List.mem_filter.mp this).1
  cases hjk : j == k with
  | false => exact E_const
  | true =>
    have : j = k := by simpa using hjk
    subst this
    have i2 : idxD ((textsS (os.map opn)).map PyData.str) (j : Int) = some (.str (brk (cut j (os.map opn)))) := by
      unfold idxD textsS
      rw [if_pos (by omega), Int.toNat_natCast, List.map_map, List.getElem?_map, List.getElem?_range hk9]
      rfl
    exact E_sub (E_name (d := strsP (textsS (os.map opn)))) E_name hst i2
end Mine
/-! part 54 -/
set_option maxRecDepth 1000000
set_option maxHeartbeats 4000000
namespace Mine
open PySem PySem.Calls PyProof.Rows PySem.W
/-! the ways' rows -/
noncomputable def rowsOf (runs : List Int) : List PyData := (waysOf runs).map fun w => .list (toldOf w runs)
noncomputable def turnP : PyData → PyData
  | .tuple [a, b] => .tuple [b, a]
  | d => d
noncomputable def turnR (runs : List Int) (w : List Int) : PyData := .list ((toldOf w runs).map turnP)
noncomputable def turnedOf (runs : List Int) : List PyData := (waysOf runs).map (turnR runs)
noncomputable def nestT : PyData → Bool
  | .tuple [_, .int r] => decide (0 < r)
  | _ => false
noncomputable def nestG (runs : List Int) : PyData → PyData
  | .tuple [.int p, .int r] => .tuple [.int 1, .int ((runs.take (p.toNat + 1)).sum - p)]
  | d => d
noncomputable def nestedOf (runs : List Int) : PyData := .list (((enumD runs).filter nestT).map (nestG runs))
noncomputable def isPair : PyData → Bool
  | .tuple [_, _] => true
  | _ => false
noncomputable def sortOk (runs : List Int) : Bool := match sortRows (rowsOf runs), sortRows (turnedOf runs) with
  | some a, some b => shaped' (.list a) && shaped' (.list b) && PyData.eqv (.list a) (.list b)
  | _, _ => false
noncomputable def countOk (runs : List Int) : Bool := (rowsOf runs).all shaped' && shaped' (nestedOf runs) && ((rowsOf runs).countP (fun y => PyData.eqv y (nestedOf runs)) == 1)
noncomputable def waysOk (runs : List Int) : Bool := okRuns runs && decide ((waysOf runs).length ≤ 100) && (waysOf runs).all fun w => decide (w.length < 90) && decide ((toldOf w runs).length ≤ 100) && (toldOf w runs).all isPair
noncomputable def seg (r : Int) : Str := Txt.mul (nm "(") r ++ nm ")"
noncomputable def segsOk (w : List Bool) : Bool := (Str.join (nm "") ((runsB w 0).map seg) == brk w) && few ((((runsB w 0).map seg).map (·.length)).sum + ((runsB w 0).map seg).length)
noncomputable def fourOk (w : List Bool) : Bool := ((runsB w 0).all fun r => decide (0 ≤ r) && decide (r ≤ 4)) && decide ((runsB w 0).length ≤ 8) && (w.getLast? == some false)
theorem f1 : (words.all fun w => fourOk w) = true := by decide +kernel
theorem f2 : (words.all fun w => segsOk w) = true := by decide +kernel
theorem f3 : (words.all fun w => waysOk (runsB w 0)) = true := by decide +kernel
theorem f4 : (words.all fun w => countOk (runsB w 0)) = true := by decide +kernel
theorem f5 : (words.all fun w => sortOk (runsB w 0)) = true := by decide +kernel
end Mine
/-! part 55 -/
set_option maxRecDepth 1000000
set_option maxHeartbeats 4000000
namespace Mine
open PySem PySem.Calls PyProof.Rows PySem.W
section
variable {P : Prims} {n : Nat} {sc : Sc} {σ : Sig} {R : Ip}
theorem comp_map2M {x y : Str} {k : Nat} {p q r : Pos} {elt : Expr} {g : PyData → PyData} (hx : (sc.lookup x == some .local && sc.lookup y == some .local && x != y) = true) : ∀ {ds : List PyData}, (∀ d ∈ ds, ∃ a b, d = .tuple [a, b] ∧ R.ev sc ((y, b) :: (x, a) :: σ) elt = some (g d)) → compGo R sc σ (.Tuple [.Name x p, .Name y q] k r) [] elt ds = some (ds.map g)
  | [], _ => rfl
  | d :: ds, h => by
    have ih := comp_map2M (p := p) (q := q) (k := k) (r := r) (ds := ds) hx fun e he => h e (by simp [he])
    obtain ⟨a, b, rfl, e⟩ := h d (by simp)
    show (if (sc.lookup x == some NameKind.local && sc.lookup y == some NameKind.local && x != y) = true then some [(y, b), (x, a)] else none).bind _ = _
    rw [hx, if_pos (by rfl)]
    show (R.ev sc ((y, b) :: (x, a) :: σ) elt).bind _ = _
    rw [e]
    show (compGo R sc σ _ [] elt ds).bind _ = _
    rw [ih]
    rfl
theorem comp_filter2M {x y : Str} {k : Nat} {p q r : Pos} {elt c : Expr} {g : PyData → PyData} {t : PyData → Bool} (hx : (sc.lookup x == some .local && sc.lookup y == some .local && x != y) = true) : ∀ {ds : List PyData}, (∀ d ∈ ds, ∃ a b, d = .tuple [a, b] ∧ R.tst sc ((y, b) :: (x, a) :: σ) c = some (t d) ∧ R.ev sc ((y, b) :: (x, a) :: σ) elt = some (g d)) → compGo R sc σ (.Tuple [.Name x p, .Name y q] k r) [c] elt ds = some ((ds.filter t).map g)
  | [], _ => rfl
  | d :: ds, h => by
    have ih := comp_filter2M (p := p) (q := q) (k := k) (r := r) (ds := ds) hx fun e he => h e (by simp [he])
    obtain ⟨a, b, rfl, e1, e2⟩ := h d (by simp)
    show (if (sc.lookup x == some NameKind.local && sc.lookup y == some NameKind.local && x != y) = true then some [(y, b), (x, a)] else none).bind _ = _
    rw [hx, if_pos (by rfl)]
    show ((R.tst sc ((y, b) :: (x, a) :: σ) c).bind _).bind _ = _
    rw [e1]
    cases ht : t (.tuple [a, b]) with
    | true =>
      show (R.ev sc ((y, b) :: (x, a) :: σ) elt).bind _ = _
      rw [e2]
      show (compGo R sc σ _ [c] elt ds).bind _ = _
      rw [ih, List.filter_cons, if_pos ht]
      rfl
    | false =>
      show compGo R sc σ _ [c] elt ds = _
      rw [ih, List.filter_cons, if_neg (by simp [ht])]
theorem comp2_mapL {β : Type} {x y : Str} {p q : Pos} {it2 elt : Expr} {inj : β → PyData} {g : β → List PyData} (hx : sc.lookup x = some .local) (hy : fitT false (.Name y q) = true) : ∀ {l : List β}, (∀ b ∈ l, ∃ items, R.src sc ((x, inj b) :: σ) it2 = some (false, items) ∧ few items.length = true ∧ compGo R sc ((x, inj b) :: σ) (.Name y q) [] elt items = some (g b)) → few (l.flatMap g).length = true →
    compGo2 R sc σ x y p q it2 elt (l.map inj) = some (l.flatMap g)
  | [], _, _ => rfl
  | d :: ds, h, hf => by
    obtain ⟨items, h1, h2, h3⟩ := h d (by simp)
    have hfr : few (ds.flatMap g).length = true := by
      simp only [few, decide_eq_true_eq, List.flatMap_cons, List.length_append] at hf ⊢; omega
    have ih := comp2_mapL (p := p) hx hy (fun e he => h e (by simp [he])) hfr
    show (if (sc.lookup x == some NameKind.local) = true then some [(x, inj d)] else none).bind _ = _
    rw [hx, if_pos (by rfl)]
    show (R.src sc ((x, inj d) :: σ) it2).bind _ = _
    rw [h1]
    show (if (fitT false (.Name y q) && few items.length) = true then (compGo R sc ((x, inj d) :: σ) (.Name y q) [] elt items).bind fun xs => (compGo2 R sc σ x y p q it2 elt (ds.map inj)).bind fun r => if few (xs.length + r.length) then some (xs ++ r) else none else none) = _
    rw [hy, h2, h3]
    show (compGo2 R sc σ x y p q it2 elt (ds.map inj)).bind _ = _
    rw [ih]
    show (if few ((g d).length + (ds.flatMap g).length) = true then _ else _) = _
    rw [if_pos (by rw [← List.length_append, ← List.flatMap_cons]; exact hf)]
    rfl
end
theorem sum_runs : ∀ l : List Int, (∀ r ∈ l, 0 ≤ r ∧ r ≤ 4) → sumD (l.map .int) = some l.sum
  | [], _ => rfl
  | r :: l, h => by
    have := h r (by simp)
    show (if r.natAbs < 2 ^ 40 then (sumD (l.map .int)).map (r + ·) else none) = _
    rw [if_pos (by omega), sum_runs l fun x hx => h x (by simp [hx]), List.sum_cons]; rfl
theorem arg_ok {ns os : List Int} {k : Nat} (hk : k < 9) (hol : os.length = 9) : (I P0 25).ev lawNames (shσ (st1 ns os k)) lawArg = some (intsD (cut k os)) := by
  have e2 : intsD (cut k os) = .list ((rot k os).map PyData.int).dropLast := by unfold intsD cut; rw [List.map_dropLast]
  have i2 : idxD ((List.range 9).map fun k => intsD (rot k os)) (k : Int) = some (intsD (rot k os)) := by
    unfold idxD
    rw [if_pos (by omega), Int.toNat_natCast, List.getElem?_map, List.getElem?_range hk]
    rfl
  rw [e2]
  exact E_init (E_sub (E_name (d := ringsD os)) (E_sub (E_name (d := .list [.int k])) E_const rfl rfl) rfl i2) (E_neg E_const) (few_of (by rw [List.length_map, rot_len]; omega)) (ne_len (by rw [List.length_map, rot_len]; omega))
theorem seg_len {r : Int} (h : 0 ≤ r ∧ r ≤ 4) : few ((Txt.mul (nm "(") r).length + (nm ")").length) = true := by
  have : r = 0 ∨ r = 1 ∨ r = 2 ∨ r = 3 ∨ r = 4 := by omega
  rcases this with rfl | rfl | rfl | rfl | rfl <;> decide +kernel
theorem post_ok {ns os : List Int} {k : Nat} {gs : List Grp} {runs : List Int} (hk : k < 9) (hol : os.length = 9) (hflat : cut k os = flat gs) (hg : ∀ g ∈ gs, grpOk g ∧ g.1.length ≤ 4) (hruns : gs.map (fun g => (g.1.length : Int)) = runs)
    (hr4 : ∀ r ∈ runs, 0 ≤ r ∧ r ≤ 4) (hr8 : runs.length ≤ 8) (hseg : Str.join (nm "") (runs.map seg) = brk (cut k (os.map opn))) (hseg2 : few (((runs.map seg).map (·.length)).sum + (runs.map seg).length) = true)
    (hw : waysOk runs = true) (hc : countOk runs = true) (hs : sortOk runs = true) :
    Rets (I P0 24) lawNames (put (st1 ns os k) (nm "numbers") (.sh (intsD (gs.map value)))) lawPost (.bool true) := by
  have hgl : gs.length ≤ 8 := by rw [← hruns, List.length_map] at hr8; exact hr8
  have hnum : intsD (gs.map value) = .list (gs.map fun g => .int (value g)) := by unfold intsD; rw [List.map_map]; rfl
  have hfg : few (gs.map fun g => PyData.int (value g)).length = true := few_of (by rw [List.length_map]; omega)
  have hfr : few (runs.map PyData.int).length = true := few_of (by rw [List.length_map]; omega)
  have hcl : (cut k os).length = 8 := by rw [cut_len, hol]
  -- runs
  refine R_cons (x_sh (d := intsD runs) rfl rfl rfl ?_) ?_
  · have e : intsD runs = .list (gs.map fun g => .int (g.1.length : Int)) := by rw [← hruns]; unfold intsD; rw [List.map_map]; rfl
    rw [e]
    refine E_comp (by kernel_rfl!) (by kernel_rfl!) (S_ev (E_name (d := intsD (gs.map value)))) rfl (few_of (by simp; omega)) ?_
    rw [List.map_map]
    exact comp_mapL (inj := fun g => PyData.int (value g)) rfl fun g hgm => E_call (by rfl) rfl rfl rfl (mapO2 (d := intsD pows) (by rfl) E_name) (bisR_ev pows (value g) (by decide) (grp_facts (hg g hgm).1 (hg g hgm).2).len)
  -- figures
  refine R_cons (x_sh (d := intsD ((cut k os).map (· % 64))) rfl rfl rfl ?_) ?_
  · have e : intsD ((cut k os).map (· % 64)) = .list (gs.flatMap fun g => ((g.1 ++ [g.2]).map (· % 64)).map .int) := by
      rw [hflat]; unfold intsD flat
      rw [List.map_flatMap, List.map_flatMap]
    have hlen : (gs.flatMap fun g => ((g.1 ++ [g.2]).map (· % 64)).map PyData.int).length = 8 := by
      rw [← PyData.list.inj e, List.length_map, List.length_map, hcl]
    rw [e]
    refine E_comp2 (by kernel_rfl!) (S_ev (E_name (d := intsD (gs.map value)))) rfl (few_of (by simp; omega)) ?_
    rw [List.map_map]
    refine comp2_mapL (inj := fun g => PyData.int (value g)) rfl rfl (fun g hgm => ?_) (few_of (by rw [hlen]; omega))
    have F := grp_facts (hg g hgm).1 (hg g hgm).2
    obtain ⟨q, hq⟩ := F.figs
    refine ⟨((g.1 ++ [g.2]).map (· % 64)).map .int, S_call (E_call (by rfl) rfl rfl rfl (mapO1 E_name) (figures_ev (value g) hq F.nn F.lt)) rfl rfl, few_of (by have := (hg g hgm).2; simp; omega), ?_⟩
    exact comp_mapL (inj := PyData.int) (g := PyData.int) rfl fun i _ => E_name
  -- the figures are the octets' own
  refine R_if (c := false) (T_cmp (a := intsD ((cut k os).map (· % 64))) (b := intsD ((cut k os).map (· % 64))) E_name ?_ (ne_self (ints_shaped _))) (N_nil ?_)
  · have e2 : intsD (cut k os) = .list ((rot k os).map PyData.int).dropLast := by unfold intsD cut; rw [List.map_dropLast]
    have i2 : idxD ((List.range 9).map fun k => intsD (rot k os)) (k : Int) = some (intsD (rot k os)) := by
      unfold idxD
      rw [if_pos (by omega), Int.toNat_natCast, List.getElem?_map, List.getElem?_range hk]
      rfl
    have e3 : intsD ((cut k os).map (· % 64)) = .list ((cut k os).map fun o => .int (o % 64)) := by unfold intsD; rw [List.map_map]; rfl
    rw [e3]
    refine E_comp (ds := (cut k os).map PyData.int) (by kernel_rfl!) (by kernel_rfl!) (S_ev ?_) rfl (few_of (by rw [List.length_map]; omega)) (comp_mapL (inj := PyData.int) rfl fun o _ => E_bin E_name E_const ?_)
    · show _ = some (intsD (cut k os))
      rw [e2]
      exact E_init (E_sub (E_name (d := ringsD os)) (E_sub (E_name (d := .list [.int k])) E_const rfl rfl) rfl i2) (E_neg E_const) (few_of (by rw [List.length_map, rot_len]; omega)) (ne_len (by rw [List.length_map, rot_len]; omega))
    · show some (PyData.int (o.fmod 64)) = _
      rw [Int.fmod_eq_emod_of_nonneg _ (by omega)]
  -- the text is the numbers' own
  have hst : few ((textsS (os.map opn)).map PyData.str).length = true := rfl
  have i3 : idxD ((textsS (os.map opn)).map PyData.str) (k : Int) = some (.str (brk (cut k (os.map opn)))) := by
    unfold idxD textsS
    rw [if_pos (by omega), Int.toNat_natCast, List.map_map, List.getElem?_map, List.getElem?_range hk]
    rfl
  have hne : cmpD .NotEq (.str (brk (cut k (os.map opn)))) (.str (brk (cut k (os.map opn)))) = some false := by
    show some (_ != _) = _
    rw [bne_self_eq_false]
  refine R_if (c := false) (T_cmp (a := .str (brk (cut k (os.map opn)))) (b := .str (brk (cut k (os.map opn)))) ?_ (E_sub (E_name (d := strsP (textsS (os.map opn)))) (E_sub (E_name (d := .list [.int k])) E_const rfl rfl) hst i3) hne) (N_nil ?_)
  · rw [← hseg]
    refine E_join (xs := runs.map fun r => .str (seg r)) (ts := runs.map seg) (by rfl) (E_comp (by kernel_rfl!) (by kernel_rfl!) (S_ev (E_name (d := intsD runs))) rfl hfr (comp_mapL (inj := PyData.int) rfl fun r hr => ?_)) (few_of (by rw [List.length_map]; omega)) ?_ hseg2
    · have h4 := hr4 r hr
      have hm : binD .Mult (.str (nm "(")) (.int r) = some (.str (Txt.mul (nm "(") r)) := by
        show (if (nm "(").length ≤ 1 ∧ 0 ≤ r ∧ r < 100 then some _ else none) = _
        rw [if_pos ⟨by decide +kernel, by omega, by omega⟩]
      have ha : binD .Add (.str (Txt.mul (nm "(") r)) (.str (nm ")")) = some (.str (seg r)) := by
        show (if few ((Txt.mul (nm "(") r).length + (nm ")").length) = true then some _ else none) = _
        rw [if_pos (seg_len h4)]; rfl
      exact E_bin (E_bin (a := .str (nm "(")) E_const E_name hm) (E_const (d := .str (nm ")"))) ha
    · have e5 : (runs.map fun r => PyData.str (seg r)) = (runs.map seg).map PyData.str := by rw [List.map_map]; rfl
      rw [e5]
      exact strsD_map _
  -- the ways
  simp only [waysOk, Bool.and_eq_true, decide_eq_true_eq, List.all_eq_true] at hw
  obtain ⟨⟨hok, hwl⟩, hwa⟩ := hw
  refine R_cons (x_sh (d := .list (rowsOf runs)) rfl rfl rfl (E_comp (by kernel_rfl!) (by kernel_rfl!) (S_call (E_call (by rfl) rfl rfl rfl (mapO1 (d := intsD runs) E_name) (ways_ev runs hok)) rfl rfl) rfl (few_of (by rw [List.length_map]; omega)) (comp_mapL (l := waysOf runs) (inj := intsD) rfl fun w hwm => E_call (by rfl) rfl rfl rfl (mapO2 (d := intsD w) (e := intsD runs) E_name E_name) (told_ev w runs (hwa w hwm).1.1 (by omega))))) ?_
  refine R_cons (x_sh (d := .list (turnedOf runs)) rfl rfl rfl (E_comp (ds := rowsOf runs) (by kernel_rfl!) (by kernel_rfl!) (S_ev E_name) rfl (few_of (by unfold rowsOf; rw [List.length_map]; omega)) (comp_mapL (l := waysOf runs) (inj := fun w => .list (toldOf w runs)) rfl fun w hwm => E_comp (ds := toldOf w runs) (by kernel_rfl!) (by kernel_rfl!) (S_ev E_name) rfl (few_of (by have := (hwa w hwm).1.2; omega)) (comp_map2M (g := turnP) (by kernel_rfl!) fun d hd => ?_)))) ?_
  · have hp := (hwa w hwm).2 d hd
    unfold isPair at hp
    split at hp
    · exact ⟨_, _, rfl, E_tuple2 E_name E_name⟩
    · cases hp
  refine R_cons (x_sh (d := nestedOf runs) rfl rfl rfl (E_comp (ds := enumD runs) (by kernel_rfl!) (by kernel_rfl!) (S_enum (xs := runs.map PyData.int) rfl (by rfl) E_name hfr) rfl (few_of (by rw [enumD_len]; omega)) (comp_filter2M (t := nestT) (g := nestG runs) (by kernel_rfl!) fun d hd => ?_))) ?_
  · obtain ⟨j, hj⟩ := List.mem_iff_getElem?.mp hd
    obtain ⟨r, hr, rfl⟩ := enumD_get hj
    refine ⟨_, _, rfl, T_cmp E_name E_const, E_tuple2 E_const (E_bin (a := .int (runs.take (j + 1)).sum) (E_bfn (b := "sum") (by rfl) rfl rfl rfl (mapO1 (E_take (j + 1) (E_name (d := intsD runs)) (E_bin E_name E_const) hfr)) ?_) E_name)⟩
    show (if few ((runs.map PyData.int).take (j + 1)).length = true then (sumD ((runs.map PyData.int).take (j + 1))).map PyData.int else none) = _
    rw [if_pos (few_of (by simp; omega)), ← List.map_take, sum_runs _ fun x hx => hr4 x (List.mem_of_mem_take hx)]; rfl
  -- the answer
  simp only [countOk, Bool.and_eq_true, beq_iff_eq] at hc
  obtain ⟨⟨hc1, hc2⟩, hc3⟩ := hc
  unfold sortOk at hs
  split at hs
  · rename_i a b ha hb
    simp only [Bool.and_eq_true] at hs
    obtain ⟨⟨hs1, hs2⟩, hs3⟩ := hs
    have hcnt : cmpD .Eq (.int ((rowsOf runs).countP fun y => PyData.eqv y (nestedOf runs) : Nat)) (.int 1) = some true := by
      rw [hc3]; rfl
    have hc4 : (few (rowsOf runs).length && (rowsOf runs).all shaped' && shaped' (nestedOf runs)) = true := by
      rw [few_of (by unfold rowsOf; rw [List.length_map]; omega), hc1, hc2]; rfl
    refine R_ret (E_and (E_cmp (E_count (xs := rowsOf runs) (d := nestedOf runs) (by rfl) (by rfl) E_name hc4) E_const hcnt) (E_cmp (a := .list a) (b := .list b) (E_bfn (b := "sorted") (by rfl) rfl rfl rfl (mapO1 (d := .list (rowsOf runs)) E_name) ?_) (E_bfn (b := "sorted") (by rfl) rfl rfl rfl (mapO1 (d := .list (turnedOf runs)) E_name) ?_) ?_))
    · show (sortRows (rowsOf runs)).map PyData.list = _
      rw [ha]; rfl
    · show (sortRows (turnedOf runs)).map PyData.list = _
      rw [hb]; rfl
    · show (if (shaped' (.list a) && shaped' (.list b)) = true then some (PyData.eqv (.list a) (.list b)) else none) = _
      rw [hs1, hs2, hs3]; rfl
  · cases hs
end Mine
/-! part 56 -/
set_option maxRecDepth 1000000
set_option maxHeartbeats 4000000
namespace Mine
open PySem PySem.Calls PyProof.Rows PySem.W
theorem cut_mem {α : Type} {k : Nat} {l : List α} {x : α} (h : x ∈ cut k l) : x ∈ l := by
  unfold cut rot at h
  have := List.dropLast_subset _ h
  rcases List.mem_append.mp this with h | h
  · exact List.mem_of_mem_drop h
  · exact List.mem_of_mem_take h
theorem plain_law {ns : List Int} (hl : ns.length ≤ 63) : PlainLaw ns := by
  have h0 := draws_nn ns
  have hpat := ring_pat (draws := drawsOf ns) rfl h0
  have hoct := ring_oct h0
  have hol := ring_len (drawsOf ns)
  generalize ho : ringOf (drawsOf ns) = os at hpat hoct hol
  unfold patOk at hpat
  split at hpat
  · rename_i k hk
    rw [Bool.and_eq_true, List.contains_iff_mem] at hpat
    obtain ⟨hword, hshort⟩ := hpat
    have hs : ∀ j < 9, good (cut j (os.map opn)).dropLast = false := fun j hj => by
      have := List.all_eq_true.mp hshort j (List.mem_range.mpr hj)
      simpa using this
    have hk9 : k < 9 := by
      have : k ∈ keepers (os.map opn) := by rw [hk]; simp
      unfold keepers at this
      exact List.mem_range.mp (List.mem_filter.mp this).1
    obtain ⟨st, e1, rfl⟩ := pre_ok hl ho.symm hk hs
    have g1 := List.all_eq_true.mp f1 _ hword
    have g2 := List.all_eq_true.mp f2 _ hword
    have g3 := List.all_eq_true.mp f3 _ hword
    have g4 := List.all_eq_true.mp f4 _ hword
    have g5 := List.all_eq_true.mp f5 _ hword
    simp only [fourOk, Bool.and_eq_true, decide_eq_true_eq, List.all_eq_true, beq_iff_eq] at g1
    obtain ⟨⟨hr4, hr8⟩, hlast⟩ := g1
    simp only [segsOk, Bool.and_eq_true, beq_iff_eq] at g2
    obtain ⟨hseg, hseg2⟩ := g2
    rw [← cut_map] at hlast hr4 hr8 hseg hseg2 g3 g4 g5
    obtain ⟨gs, hflat, hruns, hgs⟩ := groups_of (cut k os) [] (by simp) (fun o h => hoct o (cut_mem h)) (fun o h => by
      rw [List.getLast?_map, h] at hlast
      simpa using hlast) (fun _ => rfl)
    rw [List.nil_append] at hflat
    rw [List.length_nil] at hruns
    rw [hruns] at hr4 hr8 hseg hseg2 g3 g4 g5
    have hg : ∀ g ∈ gs, grpOk g ∧ g.1.length ≤ 4 := fun g h => ⟨hgs g h, by
      have := (hr4 (g.1.length : Int) (List.mem_map.mpr ⟨g, h, rfl⟩)).2
      omega⟩
    refine ⟨st1 ns os k, cut k os, gs.map value, gs.length + 1, e1, arg_ok hk9 hol, by rw [hflat]; exact read_groups gs hg, by rw [cut_len, hol]; omega, ?_⟩
    exact post_ok hk9 hol hflat hg rfl hr4 hr8 (by rw [hseg, cut_map]) hseg2 g3 g4 g5
  · cases hpat
end Mine
/-! part 57 -/
set_option maxRecDepth 1000000
set_option maxHeartbeats 4000000
namespace Mine
open PySem PySem.Calls PyProof.Rows PySem.W
theorem ints_well {w : Params} {h : Heap} : ∀ {ns : List Int} {vs : List Value}, WellAll w h vs ((ns.map PyData.int).map ofPy) → RdL (fun _ => none) (ns.map .int) vs
  | [], _, .nil => by simp only [List.map_nil, RdL]
  | n :: ns, v :: vs, r => by
    cases r with
    | cons a b =>
      simp only [List.map_cons, RdL]
      refine ⟨_, _, rfl, ?_, ints_well b⟩
      cases a
      simp only [Rd]
      exact ⟨_, rfl⟩
theorem list_well {w : Params} {h : Heap} {l : Addr} {ns : List Int} (W : Well w h (.ref l) (ofPy (.list (ns.map .int)))) : ∃ vs, h.get? l = some (lObj vs 0) ∧ RdL (fun _ => none) (ns.map .int) vs := by
  have e : ofPy (.list (ns.map .int)) = .list ((ns.map PyData.int).map ofPy) := by
    show WData.list (ofPys _) = _
    rw [ofPys_eq]
  rw [e] at W
  cases W with
  | list h1 h2 => exact ⟨_, h1, ints_well h2⟩
theorem btOf {p : Program} {loose : List Str} {mean : ExcName → Option Value} {mg mb : Str → Option Value} {h : Heap} (T : Top p loose mean mg mb h) (S : Says h) : ∃ B : Bt, B.h = h ∧ B.mg = mg ∧ B.mb = mb ∧ Known B := by
  have hno : ∀ x ∈ free10, mg x = none := fun x hx => by
    obtain ⟨o, es, ep, h1, h2, h3, _⟩ := S.ex
    obtain ⟨o', es', ep', e1, e2, _, e3⟩ := T.g
    rw [h1] at e1; cases e1
    rw [h2] at e2; cases e2
    exact (e3 x).symm.trans (h3 x hx)
  exact ⟨⟨h, mg, mb, T.g, T.b, T.nolimit, ⟨hno _ (by decide), mb_len T.builtins⟩, ⟨hno _ (by decide), mb_sum T.builtins⟩, ⟨hno _ (by decide), mb_sorted T.builtins⟩, ⟨hno _ (by decide), mb_int T.builtins⟩, ⟨hno _ (by decide), mb_list T.builtins⟩, ⟨hno _ (by decide), mb_range T.builtins⟩, ⟨hno _ (by decide), mb_enumerate T.builtins⟩⟩, rfl, rfl, rfl, known_of S T.builtins⟩
end Mine
open PySem PySem.W PyProof.Rows Mine
theorem PySem.Challenge.cw_wj0021_01_holds : PySem.Challenge.rw_wj0021_01.Holds := by
  refine holds_law said_ fun said => ?_
  refine holds_open (q := View) (loose := Loose) (Xt := fun s => xlAt View [] s && recOk [] s) (XP := XL View []) (Yf := myHook.obs) (Ya := myHook.val) (YP := myHook.says) (N := 1148) left_ myHook.of myHook.keeps (fun s e => xl_of s (Bool.and_eq_true_iff.mp e).1) XL.keeps
    (by rfl) (by rfl) (by rfl) (fun s e => recFacts_of (Bool.and_eq_true_iff.mp e).2) (by rfl) (by assumption) (by decide +kernel) ⟨rfl, rfl, rfl, rfl, rfl, by decide +kernel⟩ promised_ ?hc
  case hc =>
    intro w s₀ s₁ mg mb G Y fa o pm cd doc dV kV ho hd1 hcd hD hmg hg args vals as hpre hlay hrd hwl hlo
    clear hcd hD hd1
    refine Ground.open G ?_
    intro T B D TE TW
    clear B D TE TW
    obtain ⟨Bt, eh, eg, eb, K⟩ := btOf T Y
    wrow_args hpre hlay hrd hwl hlo
    rename_i hW _ _ _ hlen _
    obtain ⟨vs, hl, hv⟩ := list_well hW
    refine law_run K (by rw [eg]; exact hmg) rfl rfl (by decide +kernel) (by decide +kernel) (fun b o e => by rw [eh] at e; exact e) hl hv (plain_law (by omega)) fun s' kp => ?_
    exact ⟨.inl ⟨.bool true, .bool true, [], rfl, fun _ => rfl, .bool true, by kernel_rfl!, fun _ => ⟨List.nodup_nil, fun a h => by cases h⟩⟩, .of_keep fun b o e => kp.get e, kp.os, kp.bare (.of_eq hg)⟩
