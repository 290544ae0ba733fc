import PyProof.Rows.All
import Wide.All
import OpenK.AllK
import Wide.FinOn
import PySem.Challenge.RW_nb0270_01
set_option Elab.async false
set_option linter.all false
set_option linter.unusedSectionVars false
set_option maxRecDepth 100000
namespace Mine
section
open PySem PySem.W PyProof.Rows
/-! Hd0 -/
/-! the given text in pieces, each drawn out of the row by whnf; o_law looks at the pieces (its twin of the whole text is quadratic) -/
def stAt (i : Nat) : Stmt := PySem.Challenge.pw_nb0270_01.main.body.getD i default
noncomputable def withBody : Stmt → List Stmt → Stmt
  | .FunctionDef a b _ c d e f g h i, x => .FunctionDef a b x c d e f g h i
  | .ClassDef a b c _ d e f g h i j, x => .ClassDef a b c x d e f g h i j
  | s, _ => s
noncomputable def innOf : Stmt → List Stmt
  | .FunctionDef _ _ b _ _ _ _ _ _ _ => b
  | .ClassDef _ _ _ b _ _ _ _ _ _ _ => b
  | _ => []
noncomputable def inAt (i j : Nat) : Stmt := (innOf (stAt i)).getD j default
noncomputable def sP0 : Stmt := by
  refine (?f : (x : Stmt) → stAt 0 = x → Stmt) ?x ?h
  case h => conv => lhs; whnf; (try simp (maxSteps := 100000000) only [Str.ofString_eq_byList, Str.ofStringByList, String.reduceToList, List.map_cons, List.map_nil, Char.reduceToNat])
  case f => exact fun x _ => x
noncomputable def sP1 : Stmt := by
  refine (?f : (x : Stmt) → stAt 1 = x → Stmt) ?x ?h
  case h => conv => lhs; whnf; (try simp (maxSteps := 100000000) only [Str.ofString_eq_byList, Str.ofStringByList, String.reduceToList, List.map_cons, List.map_nil, Char.reduceToNat])
  case f => exact fun x _ => x
noncomputable def sP2 : Stmt := by
  refine (?f : (x : Stmt) → stAt 2 = x → Stmt) ?x ?h
  case h => conv => lhs; whnf; (try simp (maxSteps := 100000000) only [Str.ofString_eq_byList, Str.ofStringByList, String.reduceToList, List.map_cons, List.map_nil, Char.reduceToNat])
  case f => exact fun x _ => x
noncomputable def sP3 : Stmt := by
  refine (?f : (x : Stmt) → stAt 3 = x → Stmt) ?x ?h
  case h => conv => lhs; whnf; (try simp (maxSteps := 100000000) only [Str.ofString_eq_byList, Str.ofStringByList, String.reduceToList, List.map_cons, List.map_nil, Char.reduceToNat])
  case f => exact fun x _ => x
noncomputable def sP4 : Stmt := by
  refine (?f : (x : Stmt) → stAt 4 = x → Stmt) ?x ?h
  case h => conv => lhs; whnf; (try simp (maxSteps := 100000000) only [Str.ofString_eq_byList, Str.ofStringByList, String.reduceToList, List.map_cons, List.map_nil, Char.reduceToNat])
  case f => exact fun x _ => x
noncomputable def sP5 : Stmt := by
  refine (?f : (x : Stmt) → stAt 5 = x → Stmt) ?x ?h
  case h => conv => lhs; whnf; (try simp (maxSteps := 100000000) only [Str.ofString_eq_byList, Str.ofStringByList, String.reduceToList, List.map_cons, List.map_nil, Char.reduceToNat])
  case f => exact fun x _ => x
noncomputable def sP6 : Stmt := by
  refine (?f : (x : Stmt) → stAt 6 = x → Stmt) ?x ?h
  case h => conv => lhs; whnf; (try simp (maxSteps := 100000000) only [Str.ofString_eq_byList, Str.ofStringByList, String.reduceToList, List.map_cons, List.map_nil, Char.reduceToNat])
  case f => exact fun x _ => x
noncomputable def sP7 : Stmt := by
  refine (?f : (x : Stmt) → stAt 7 = x → Stmt) ?x ?h
  case h => conv => lhs; whnf; (try simp (maxSteps := 100000000) only [Str.ofString_eq_byList, Str.ofStringByList, String.reduceToList, List.map_cons, List.map_nil, Char.reduceToNat])
  case f => exact fun x _ => x
noncomputable def sP8 : Stmt := by
  refine (?f : (x : Stmt) → stAt 8 = x → Stmt) ?x ?h
  case h => conv => lhs; whnf; (try simp (maxSteps := 100000000) only [Str.ofString_eq_byList, Str.ofStringByList, String.reduceToList, List.map_cons, List.map_nil, Char.reduceToNat])
  case f => exact fun x _ => x
noncomputable def sP9 : Stmt := by
  refine (?f : (x : Stmt) → stAt 9 = x → Stmt) ?x ?h
  case h => conv => lhs; whnf; (try simp (maxSteps := 100000000) only [Str.ofString_eq_byList, Str.ofStringByList, String.reduceToList, List.map_cons, List.map_nil, Char.reduceToNat])
  case f => exact fun x _ => x
noncomputable def sP10 : Stmt := by
  refine (?f : (x : Stmt) → stAt 10 = x → Stmt) ?x ?h
  case h => conv => lhs; whnf; (try simp (maxSteps := 100000000) only [Str.ofString_eq_byList, Str.ofStringByList, String.reduceToList, List.map_cons, List.map_nil, Char.reduceToNat])
  case f => exact fun x _ => x
noncomputable def sP11 : Stmt := by
  refine (?f : (x : Stmt) → stAt 11 = x → Stmt) ?x ?h
  case h => conv => lhs; whnf; (try simp (maxSteps := 100000000) only [Str.ofString_eq_byList, Str.ofStringByList, String.reduceToList, List.map_cons, List.map_nil, Char.reduceToNat])
  case f => exact fun x _ => x
noncomputable def sP12 : Stmt := by
  refine (?f : (x : Stmt) → stAt 12 = x → Stmt) ?x ?h
  case h => conv => lhs; whnf; (try simp (maxSteps := 100000000) only [Str.ofString_eq_byList, Str.ofStringByList, String.reduceToList, List.map_cons, List.map_nil, Char.reduceToNat])
  case f => exact fun x _ => x
noncomputable def sP13 : Stmt := by
  refine (?f : (x : Stmt) → stAt 13 = x → Stmt) ?x ?h
  case h => conv => lhs; whnf; (try simp (maxSteps := 100000000) only [Str.ofString_eq_byList, Str.ofStringByList, String.reduceToList, List.map_cons, List.map_nil, Char.reduceToNat])
  case f => exact fun x _ => x
noncomputable def sP14 : Stmt := by
  refine (?f : (x : Stmt) → stAt 14 = x → Stmt) ?x ?h
  case h => conv => lhs; whnf; (try simp (maxSteps := 100000000) only [Str.ofString_eq_byList, Str.ofStringByList, String.reduceToList, List.map_cons, List.map_nil, Char.reduceToNat])
  case f => exact fun x _ => x
noncomputable def sP15 : Stmt := by
  refine (?f : (x : Stmt) → stAt 15 = x → Stmt) ?x ?h
  case h => conv => lhs; whnf; (try simp (maxSteps := 100000000) only [Str.ofString_eq_byList, Str.ofStringByList, String.reduceToList, List.map_cons, List.map_nil, Char.reduceToNat])
  case f => exact fun x _ => x
noncomputable def sP16 : Stmt := by
  refine (?f : (x : Stmt) → stAt 16 = x → Stmt) ?x ?h
  case h => conv => lhs; whnf; (try simp (maxSteps := 100000000) only [Str.ofString_eq_byList, Str.ofStringByList, String.reduceToList, List.map_cons, List.map_nil, Char.reduceToNat])
  case f => exact fun x _ => x
noncomputable def sP17 : Stmt := by
  refine (?f : (x : Stmt) → stAt 17 = x → Stmt) ?x ?h
  case h => conv => lhs; whnf; (try simp (maxSteps := 100000000) only [Str.ofString_eq_byList, Str.ofStringByList, String.reduceToList, List.map_cons, List.map_nil, Char.reduceToNat])
  case f => exact fun x _ => x
noncomputable def sP18 : Stmt := by
  refine (?f : (x : Stmt) → stAt 18 = x → Stmt) ?x ?h
  case h => conv => lhs; whnf; (try simp (maxSteps := 100000000) only [Str.ofString_eq_byList, Str.ofStringByList, String.reduceToList, List.map_cons, List.map_nil, Char.reduceToNat])
  case f => exact fun x _ => x
noncomputable def sP19 : Stmt := by
  refine (?f : (x : Stmt) → stAt 19 = x → Stmt) ?x ?h
  case h => conv => lhs; whnf; (try simp (maxSteps := 100000000) only [Str.ofString_eq_byList, Str.ofStringByList, String.reduceToList, List.map_cons, List.map_nil, Char.reduceToNat])
  case f => exact fun x _ => x
noncomputable def sP20 : Stmt := by
  refine (?f : (x : Stmt) → stAt 20 = x → Stmt) ?x ?h
  case h => conv => lhs; whnf; (try simp (maxSteps := 100000000) only [Str.ofString_eq_byList, Str.ofStringByList, String.reduceToList, List.map_cons, List.map_nil, Char.reduceToNat])
  case f => exact fun x _ => x
noncomputable def sP21 : Stmt := by
  refine (?f : (x : Stmt) → stAt 21 = x → Stmt) ?x ?h
  case h => conv => lhs; whnf; (try simp (maxSteps := 100000000) only [Str.ofString_eq_byList, Str.ofStringByList, String.reduceToList, List.map_cons, List.map_nil, Char.reduceToNat])
  case f => exact fun x _ => x
noncomputable def sP22 : Stmt := by
  refine (?f : (x : Stmt) → stAt 22 = x → Stmt) ?x ?h
  case h => conv => lhs; whnf; (try simp (maxSteps := 100000000) only [Str.ofString_eq_byList, Str.ofStringByList, String.reduceToList, List.map_cons, List.map_nil, Char.reduceToNat])
  case f => exact fun x _ => x
noncomputable def sP23 : Stmt := by
  refine (?f : (x : Stmt) → stAt 23 = x → Stmt) ?x ?h
  case h => conv => lhs; whnf; (try simp (maxSteps := 100000000) only [Str.ofString_eq_byList, Str.ofStringByList, String.reduceToList, List.map_cons, List.map_nil, Char.reduceToNat])
  case f => exact fun x _ => x
noncomputable def sP24 : Stmt := by
  refine (?f : (x : Stmt) → stAt 24 = x → Stmt) ?x ?h
  case h => conv => lhs; whnf; (try simp (maxSteps := 100000000) only [Str.ofString_eq_byList, Str.ofStringByList, String.reduceToList, List.map_cons, List.map_nil, Char.reduceToNat])
  case f => exact fun x _ => x
noncomputable def sP25 : Stmt := by
  refine (?f : (x : Stmt) → stAt 25 = x → Stmt) ?x ?h
  case h => conv => lhs; whnf; (try simp (maxSteps := 100000000) only [Str.ofString_eq_byList, Str.ofStringByList, String.reduceToList, List.map_cons, List.map_nil, Char.reduceToNat])
  case f => exact fun x _ => x
noncomputable def sP26 : Stmt := by
  refine (?f : (x : Stmt) → stAt 26 = x → Stmt) ?x ?h
  case h => conv => lhs; whnf; (try simp (maxSteps := 100000000) only [Str.ofString_eq_byList, Str.ofStringByList, String.reduceToList, List.map_cons, List.map_nil, Char.reduceToNat])
  case f => exact fun x _ => x
noncomputable def scP : Scope := by
  refine (?f : (x : Scope) → PySem.Challenge.pw_nb0270_01.main.scope = x → Scope) ?x ?h
  case h => conv => lhs; whnf; (try simp (maxSteps := 100000000) only [Str.ofString_eq_byList, Str.ofStringByList, String.reduceToList, List.map_cons, List.map_nil, Char.reduceToNat])
  case f => exact fun x _ => x
noncomputable def gvP : Given := by
  refine (?f : (x : Given) → PySem.Challenge.pw_nb0270_01.given = x → Given) ?x ?h
  case h => conv => lhs; whnf; (try simp (maxSteps := 100000000) only [Str.ofString_eq_byList, Str.ofStringByList, String.reduceToList, List.map_cons, List.map_nil, Char.reduceToNat])
  case f => exact fun x _ => x
noncomputable def flP : PySem.Str := by
  refine (?f : (x : PySem.Str) → PySem.Challenge.pw_nb0270_01.main.file = x → PySem.Str) ?x ?h
  case h => conv => lhs; whnf; (try simp (maxSteps := 100000000) only [Str.ofString_eq_byList, Str.ofStringByList, String.reduceToList, List.map_cons, List.map_nil, Char.reduceToNat])
  case f => exact fun x _ => x
noncomputable def abP : List PySem.Str := by
  refine (?f : (x : List PySem.Str) → PySem.Challenge.rw_nb0270_01.about = x → List PySem.Str) ?x ?h
  case h => conv => lhs; whnf; (try simp (maxSteps := 100000000) only [Str.ofString_eq_byList, Str.ofStringByList, String.reduceToList, List.map_cons, List.map_nil, Char.reduceToNat])
  case f => exact fun x _ => x
noncomputable def nmP : PySem.Str := by
  refine (?f : (x : PySem.Str) → PySem.Challenge.rw_nb0270_01.name = x → PySem.Str) ?x ?h
  case h => conv => lhs; whnf; (try simp (maxSteps := 100000000) only [Str.ofString_eq_byList, Str.ofStringByList, String.reduceToList, List.map_cons, List.map_nil, Char.reduceToNat])
  case f => exact fun x _ => x
noncomputable def pwP : Program := { main := { body := [sP0, sP1, sP2, sP3, sP4, sP5, sP6, sP7, sP8, sP9, sP10, sP11, sP12, sP13, sP14, sP15, sP16, sP17, sP18, sP19, sP20, sP21, sP22, sP23, sP24, sP25, sP26], scope := scP, futureAnnotations := false, file := flP, more := [] }, modules := [], parses := [], absent := [], harvested := [], given := gvP }
noncomputable def rwP : OpenLaw := { prog := pwP, name := nmP, about := abP, foot := 4, most := some 63, bound := none, writes := false }
theorem rwP_eq : PySem.Challenge.rw_nb0270_01 = rwP := by kernel_rfl
set_option maxHeartbeats 8000000 in
theorem lookP (h : rwP.row.wellSaid = true → rwP.row.Holds) : rwP.Holds := by
  o_law
  exact h (by assumption)
theorem look_law (h : PySem.Challenge.rw_nb0270_01.row.wellSaid = true → PySem.Challenge.rw_nb0270_01.row.Holds) : PySem.Challenge.rw_nb0270_01.Holds := by
  rw [rwP_eq] at h ⊢
  exact lookP h
/-! Hd2 -/

/-! the top's run, on a tree -/
noncomputable def toT? : List Obj → BT → Nat → Option BT
  | [], t, _ => some t
  | o :: r, t, n => match ((t.ins n o).get n).isSome with
    | true => toT? r (t.ins n o) (n + 1)
    | false => none
theorem toT_abs (life : Life) : ∀ (l : List Obj) (t t' : BT) (n : Nat) (pre : List Obj), toT? l t n = some t' → absHeap t n life = ⟨pre.toArray, life⟩ → absHeap t' (n + l.length) life = ⟨(pre ++ l).toArray, life⟩
  | [], t, t', n, pre, h, e => by
    cases h
    simpa using e
  | o :: r, t, t', n, pre, h, e => by
    unfold toT? at h
    cases g : ((t.ins n o).get n).isSome with
    | false => rw [g] at h; cases h
    | true =>
      rw [g] at h
      have q := toT_abs life r (t.ins n o) t' (n + 1) (pre ++ [o]) h (by rw [absHeap_ins g, e]; simp [Heap.push])
      have e1 : n + (o :: r).length = n + 1 + r.length := by simp; omega
      rw [e1, q]; simp
theorem toT_of {s : Shared} {t : BT} (h : toT? s.heap.objs.toList .nil 0 = some t) : SharedT.abs ⟨t, s.heap.objs.size, s.heap.life, s.gens, s.drawn, s.toks, s.os⟩ = s := by
  have q := toT_abs s.heap.life _ _ _ 0 [] h rfl
  obtain ⟨⟨⟨l⟩, life⟩, g, d, k, os⟩ := s
  unfold SharedT.abs
  simp only [Nat.zero_add, List.nil_append] at q
  have e : (⟨l⟩ : Array Obj).size = l.length := rfl
  simp only [e]
  rw [q]
theorem top_of_seg {tb : String → Option Builtin} {p : Program} {w : World} {n₀ : Nat} {ann : Option Value} : ∀ {N : Nat} {s s' : Shared} {t : Thread} {f : Flow} {c : Code} {q : Pos},
    segRun tb p w n₀ ann 0 N s t = some (f, s', c, q) → topRun tb p w n₀ ann N s t = some s'
  | 0, _, _, _, _, _, _, h => by cases h
  | N + 1, s, s', t, f, c, q, h => by
    unfold segRun at h
    unfold topRun
    have ht : through t = (endAt 0 t).isSome := by
      obtain ⟨cur, code, pos, stack⟩ := t
      unfold through endAt
      cases stack with
      | nil => cases cur <;> (try rfl); rename_i x; cases x <;> rfl
      | cons a l => cases cur <;> rfl
    rw [ht]
    cases he : endAt 0 t with
    | some x => rw [he] at h; cases h; rfl
    | none =>
      rw [he] at h
      show (match stepOk n₀ ann t with | false => none | true => _) = _
      cases hk : stepOk n₀ ann t with
      | false => rw [hk] at h; cases h
      | true =>
        rw [hk] at h
        cases hs : step (denote tb) p w s t with
        | halt o s1 => rw [hs] at h; cases h
        | go s1 t1 => rw [hs] at h; exact top_of_seg h
noncomputable def endsT (tb : String → Option Builtin) (p : Program) (w : World) (N : Nat) : Option Shared :=
  ((importEnds tb (opening p) w N (start (opening p)).1 (start (opening p)).2).bind (fenceModules? p)).bind fun s₀ =>
    match s₀.heap.isNs mainGlobals && s₀.gens.size == 0 with
    | true => (toT? s₀.heap.objs.toList .nil 0).bind fun t =>
        (segRunT tb p w s₀.heap.objs.size (s₀.heap.nsMap mainGlobals "__annotations__") 0 N ⟨t, s₀.heap.objs.size, s₀.heap.life, s₀.gens, s₀.drawn, s₀.toks, s₀.os⟩ (topStub p)).bind fun x =>
          match staticsOk (importedModules p.main.body) s₀.heap x.2.1.abs.heap && namesBound p x.2.1.abs.heap && gensDone x.2.1.abs && laidKept s₀.heap x.2.1.abs.heap with
          | true => some x.2.1.abs
          | false => none
    | false => none
theorem endsT_of {tb : String → Option Builtin} {p : Program} {w : World} {N : Nat} {s : Shared} (h : endsT tb p w N = some s) : openEnds tb p w N = some s := by
  unfold endsT at h
  unfold openEnds fencedOpening
  obtain ⟨s₀, h1, h2⟩ := Option.bind_eq_some_iff.mp h
  rw [h1]
  show topFrom tb p w N s₀ = some s
  unfold topFrom
  cases hg : (s₀.heap.isNs mainGlobals && s₀.gens.size == 0) with
  | false => rw [hg] at h2; cases h2
  | true =>
    rw [hg] at h2
    obtain ⟨t, h3, h4⟩ := Option.bind_eq_some_iff.mp h2
    obtain ⟨x, h5, h6⟩ := Option.bind_eq_some_iff.mp h4
    have r := top_of_seg (segRun_of h5)
    rw [toT_of h3] at r
    show Option.bind (topRun tb p w _ _ N s₀ (topStub p)) _ = some s
    rw [r]
    exact h6
theorem left_of {p q : Program} {loose : List Str} {Xt : Shared → Bool} {α : Type} {Yf : Shared → α} {Ya : World → α} {N : Nat}
    (h : ∀ w, (endsT treeTable p w N).map (fun s => (openSeen q loose (importedModules p.main.body) Xt true s, Yf s)) = some (openGood q loose, Ya w)) : LeftO p q loose Xt Yf Ya N := fun w => by
  obtain ⟨s, a, b⟩ := Option.map_eq_some_iff.mp (h w)
  rw [endsT_of a]
  exact congrArg some b
open PySem.W.Fast in
noncomputable def endsQ (p : Program) (w : World) (N : Nat) : Option Shared :=
  ((tw10274390034422433532 tw14364793385576792824 (opening p) w N (start (opening p)).1 (start (opening p)).2).bind (fenceModules? p)).bind fun s₀ =>
    match s₀.heap.isNs mainGlobals && s₀.gens.size == 0 with
    | true => (toT? s₀.heap.objs.toList .nil 0).bind fun t =>
        (tw10110043849684766642 tw14364793385576792824 p w s₀.heap.objs.size (s₀.heap.nsMap mainGlobals "__annotations__") 0 N ⟨t, s₀.heap.objs.size, s₀.heap.life, s₀.gens, s₀.drawn, s₀.toks, s₀.os⟩ (topStub p)).bind fun x =>
          match staticsOk (importedModules p.main.body) s₀.heap x.2.1.abs.heap && namesBound p x.2.1.abs.heap && gensDone x.2.1.abs && laidKept s₀.heap x.2.1.abs.heap with
          | true => some x.2.1.abs
          | false => none
    | false => none
theorem endsQ_eq (p : Program) (w : World) (N : Nat) : endsT treeTable p w N = endsQ p w N := by
  unfold endsT endsQ
  rw [PySem.W.Fast.te10274390034422433532, PySem.W.Fast.te10110043849684766642, PySem.W.Fast.te14364793385576792824]
def see (s : SharedT) (a : Nat) : Option Obj := match Nat.blt a s.n with
  | true => alive ((s.tree.get a).getD default)
  | false => none
theorem see_eq (s : SharedT) (a : Nat) : see s a = s.abs.heap.get? a := by
  unfold see SharedT.abs Heap.get?
  rw [absHeap_at]
  by_cases h : a < s.n
  · rw [if_pos h, show Nat.blt a s.n = true from by simpa using h]
    generalize (s.tree.get a).getD default = o
    obtain ⟨c, d, dt, sl⟩ := o
    cases dt <;> rfl
  · rw [if_neg h, show Nat.blt a s.n = false from Bool.eq_false_iff.mpr fun e => h (Nat.le_of_ble_eq_true e)]
open PySem.W.Fast in
noncomputable def endsP (as : List Nat) (p : Program) (w : World) (N : Nat) : Option (Shared × List (Option Obj)) :=
  ((tw10274390034422433532 tw14364793385576792824 (opening p) w N (start (opening p)).1 (start (opening p)).2).bind (fenceModules? p)).bind fun s₀ =>
    match s₀.heap.isNs mainGlobals && s₀.gens.size == 0 with
    | true => (toT? s₀.heap.objs.toList .nil 0).bind fun t =>
        (tw10110043849684766642 tw14364793385576792824 p w s₀.heap.objs.size (s₀.heap.nsMap mainGlobals "__annotations__") 0 N ⟨t, s₀.heap.objs.size, s₀.heap.life, s₀.gens, s₀.drawn, s₀.toks, s₀.os⟩ (topStub p)).bind fun x =>
          match staticsOk (importedModules p.main.body) s₀.heap x.2.1.abs.heap && namesBound p x.2.1.abs.heap && gensDone x.2.1.abs && laidKept s₀.heap x.2.1.abs.heap with
          | true => some (x.2.1.abs, as.map (see x.2.1))
          | false => none
    | false => none
theorem endsP_of {as : List Nat} {p : Program} {w : World} {N : Nat} {y : Shared × List (Option Obj)} (h : endsP as p w N = some y) : endsQ p w N = some y.1 ∧ y.2 = as.map y.1.heap.get? := by
  unfold endsP at h
  unfold endsQ
  obtain ⟨s₀, h1, h2⟩ := Option.bind_eq_some_iff.mp h
  rw [h1]
  rw [Option.bind_some]
  cases hg : (s₀.heap.isNs mainGlobals && s₀.gens.size == 0) with
  | false => rw [hg] at h2; cases h2
  | true =>
    rw [hg] at h2
    obtain ⟨t, h3, h4⟩ := Option.bind_eq_some_iff.mp h2
    obtain ⟨x, h5, h6⟩ := Option.bind_eq_some_iff.mp h4
    dsimp only
    rw [h3, Option.bind_some, h5, Option.bind_some]
    cases hz : (staticsOk (importedModules p.main.body) s₀.heap x.2.1.abs.heap && namesBound p x.2.1.abs.heap && gensDone x.2.1.abs && laidKept s₀.heap x.2.1.abs.heap) with
    | false => rw [hz] at h6; cases h6
    | true =>
      rw [hz] at h6
      cases h6
      refine ⟨rfl, List.map_congr_left fun a _ => see_eq _ a⟩
theorem left_by {p q : Program} {loose : List Str} {Xt : Shared → Bool} {as : List Nat} {Ya : World → List (Option Obj)} {N : Nat}
    (h : ∀ w, (endsP as p w N).map (fun x => (PySem.W.Fast.tw4187177175401517315 q loose (importedModules p.main.body) Xt true x.1, x.2)) = some (openGood q loose, Ya w)) : LeftO p q loose Xt (fun s => as.map s.heap.get?) Ya N := left_of fun w => by
  obtain ⟨y, a, b⟩ := Option.map_eq_some_iff.mp (h w)
  obtain ⟨c, d⟩ := endsP_of a
  rw [endsQ_eq, c, PySem.W.Fast.te4187177175401517315]
  rw [d] at b
  exact congrArg some b
/-! Hd3 -/
def q : Program := view PySem.Challenge.pw_nb0270_01 [0, 26]
def loose : List Str := [Str.ofString "_wall", Str.ofString "Int2AP", Str.ofString "_whence", Str.ofString "_index", Str.ofString "UnsupportedOperation", Str.ofString "IOBase", Str.ofString "BufferedIOBase", Str.ofString "TextIOBase", Str.ofString "BytesIO", Str.ofString "StringIO", Str.ofString "_kind", Str.ofString "_fspath", Str.ofString "_check_arg_types", Str.ofString "isabs", Str.ofString "join", Str.ofString "dirname", Str.ofString "shlex", Str.ofString "_law_ways", Str.ofString "_law_sums", Str.ofString "_law_told"]
section
local macro_rules | `(tactic| o_head (kHook $k $a $e)) => `(tactic| exact False.elim (by assumption))
/-! the written part, whole, and what the walk needs of it -/
theorem mkK (hf : False) : PySem.Challenge.rw_nb0270_01.Holds := by
  (refine holds_law (False.elim hf) fun said => ?_)
  k_head
noncomputable def K2 (P : Params) : Frag :=
  (fun (o2 : Obj) (_ : List.lookup 2 (Mine.mkK.heap_1 P) = some o2) (o3 : Obj) (_ : List.lookup 3 (Mine.mkK.heap_1 P) = some o3) (o45 : Obj) (_ : List.lookup 45 (Mine.mkK.heap_1 P) = some o45) (o46 : Obj) (_ : List.lookup 46 (Mine.mkK.heap_1 P) = some o46) (o59 : Obj) (_ : List.lookup 59 (Mine.mkK.heap_1 P) = some o59) (o60 : Obj) (_ : List.lookup 60 (Mine.mkK.heap_1 P) = some o60) (o86 : Obj) (_ : List.lookup 86 (Mine.mkK.heap_1 P) = some o86) (o87 : Obj) (_ : List.lookup 87 (Mine.mkK.heap_1 P) = some o87) (o89 : Obj) (_ : List.lookup 89 (Mine.mkK.heap_1 P) = some o89) (o90 : Obj) (_ : List.lookup 90 (Mine.mkK.heap_1 P) = some o90) (o91 : Obj) (_ : List.lookup 91 (Mine.mkK.heap_1 P) = some o91) (o92 : Obj) (_ : List.lookup 92 (Mine.mkK.heap_1 P) = some o92) (o93 : Obj) (_ : List.lookup 93 (Mine.mkK.heap_1 P) = some o93) (o116 : Obj) (_ : List.lookup 116 (Mine.mkK.heap_1 P) = some o116) (o117 : Obj) (_ : List.lookup 117 (Mine.mkK.heap_1 P) = some o117) (o347 : Obj) (_ : List.lookup 347 (Mine.mkK.heap_1 P) = some o347) (o357 : Obj) (_ : List.lookup 357 (Mine.mkK.heap_1 P) = some o357) (o363 : Obj) (_ : List.lookup 363 (Mine.mkK.heap_1 P) = some o363) (o364 : Obj) (_ : List.lookup 364 (Mine.mkK.heap_1 P) = some o364) (o370 : Obj) (_ : List.lookup 370 (Mine.mkK.heap_1 P) = some o370) (o371 : Obj) (_ : List.lookup 371 (Mine.mkK.heap_1 P) = some o371) (o377 : Obj) (_ : List.lookup 377 (Mine.mkK.heap_1 P) = some o377) (o378 : Obj) (_ : List.lookup 378 (Mine.mkK.heap_1 P) = some o378) (o533 : Obj) (_ : List.lookup 533 (Mine.mkK.heap_1 P) = some o533) (o539 : Obj) (_ : List.lookup 539 (Mine.mkK.heap_1 P) = some o539) (o540 : Obj) (_ : List.lookup 540 (Mine.mkK.heap_1 P) = some o540) (o593 : Obj) (_ : List.lookup 593 (Mine.mkK.heap_1 P) = some o593) (o594 : Obj) (_ : List.lookup 594 (Mine.mkK.heap_1 P) = some o594) (o646 : Obj) (_ : List.lookup 646 (Mine.mkK.heap_1 P) = some o646) (o652 : Obj) (_ : List.lookup 652 (Mine.mkK.heap_1 P) = some o652) (o653 : Obj) (_ : List.lookup 653 (Mine.mkK.heap_1 P) = some o653) (o659 : Obj) (_ : List.lookup 659 (Mine.mkK.heap_1 P) = some o659) (o660 : Obj) (_ : List.lookup 660 (Mine.mkK.heap_1 P) = some o660) (o661 : Obj) (_ : List.lookup 661 (Mine.mkK.heap_1 P) = some o661) (o689 : Obj) (_ : List.lookup 689 (Mine.mkK.heap_1 P) = some o689) (o690 : Obj) (_ : List.lookup 690 (Mine.mkK.heap_1 P) = some o690) (o696 : Obj) (_ : List.lookup 696 (Mine.mkK.heap_1 P) = some o696) (o697 : Obj) (_ : List.lookup 697 (Mine.mkK.heap_1 P) = some o697) (o718 : Obj) (_ : List.lookup 718 (Mine.mkK.heap_1 P) = some o718) (o719 : Obj) (_ : List.lookup 719 (Mine.mkK.heap_1 P) = some o719) (o725 : Obj) (_ : List.lookup 725 (Mine.mkK.heap_1 P) = some o725) (o726 : Obj) (_ : List.lookup 726 (Mine.mkK.heap_1 P) = some o726) (o728 : Obj) (_ : List.lookup 728 (Mine.mkK.heap_1 P) = some o728) (o729 : Obj) (_ : List.lookup 729 (Mine.mkK.heap_1 P) = some o729) (o730 : Obj) (_ : List.lookup 730 (Mine.mkK.heap_1 P) = some o730) (o731 : Obj) (_ : List.lookup 731 (Mine.mkK.heap_1 P) = some o731) (o739 : Obj) (_ : List.lookup 739 (Mine.mkK.heap_1 P) = some o739) (o740 : Obj) (_ : List.lookup 740 (Mine.mkK.heap_1 P) = some o740) (o744 : Obj) (_ : List.lookup 744 (Mine.mkK.heap_1 P) = some o744) (o745 : Obj) (_ : List.lookup 745 (Mine.mkK.heap_1 P) = some o745) (o749 : Obj) (_ : List.lookup 749 (Mine.mkK.heap_1 P) = some o749) (o750 : Obj) (_ : List.lookup 750 (Mine.mkK.heap_1 P) = some o750) (o754 : Obj) (_ : List.lookup 754 (Mine.mkK.heap_1 P) = some o754) (o755 : Obj) (_ : List.lookup 755 (Mine.mkK.heap_1 P) = some o755) => ((nat_lit 2, o2) :: (nat_lit 3, o3) :: (nat_lit 45, o45) :: (nat_lit 46, o46) :: (nat_lit 59, o59) :: (nat_lit 60, o60) :: (nat_lit 86, o86) :: (nat_lit 87, o87) :: (nat_lit 89, o89) :: (nat_lit 90, o90) :: (nat_lit 91, o91) :: (nat_lit 92, o92) :: (nat_lit 93, o93) :: (nat_lit 116, o116) :: (nat_lit 117, o117) :: (nat_lit 347, o347) :: (nat_lit 357, o357) :: (nat_lit 363, o363) :: (nat_lit 364, o364) :: (nat_lit 370, o370) :: (nat_lit 371, o371) :: (nat_lit 377, o377) :: (nat_lit 378, o378) :: (nat_lit 533, o533) :: (nat_lit 539, o539) :: (nat_lit 540, o540) :: (nat_lit 593, o593) :: (nat_lit 594, o594) :: (nat_lit 646, o646) :: (nat_lit 652, o652) :: (nat_lit 653, o653) :: (nat_lit 659, o659) :: (nat_lit 660, o660) :: (nat_lit 661, o661) :: (nat_lit 689, o689) :: (nat_lit 690, o690) :: (nat_lit 696, o696) :: (nat_lit 697, o697) :: (nat_lit 718, o718) :: (nat_lit 719, o719) :: (nat_lit 725, o725) :: (nat_lit 726, o726) :: (nat_lit 728, o728) :: (nat_lit 729, o729) :: (nat_lit 730, o730) :: (nat_lit 731, o731) :: (nat_lit 739, o739) :: (nat_lit 740, o740) :: (nat_lit 744, o744) :: (nat_lit 745, o745) :: (nat_lit 749, o749) :: (nat_lit 750, o750) :: (nat_lit 754, o754) :: (nat_lit 755, o755) :: [] : Frag))
   _ (by k_is) _ (by k_is) _ (by k_is) _ (by k_is) _ (by k_is) _ (by k_is) _ (by k_is) _ (by k_is) _ (by k_is) _ (by k_is) _ (by k_is) _ (by k_is) _ (by k_is) _ (by k_is) _ (by k_is) _ (by k_is) _ (by k_is) _ (by k_is) _ (by k_is) _ (by k_is) _ (by k_is) _ (by k_is) _ (by k_is) _ (by k_is) _ (by k_is) _ (by k_is) _ (by k_is) _ (by k_is) _ (by k_is) _ (by k_is) _ (by k_is) _ (by k_is) _ (by k_is) _ (by k_is) _ (by k_is) _ (by k_is) _ (by k_is) _ (by k_is) _ (by k_is) _ (by k_is) _ (by k_is) _ (by k_is) _ (by k_is) _ (by k_is) _ (by k_is) _ (by k_is) _ (by k_is) _ (by k_is) _ (by k_is) _ (by k_is) _ (by k_is) _ (by k_is) _ (by k_is) _ (by k_is)
def as2 : List Nat := 2 :: 3 :: 45 :: 46 :: 59 :: 60 :: 86 :: 87 :: 89 :: 90 :: 91 :: 92 :: 93 :: 116 :: 117 :: 347 :: 357 :: 363 :: 364 :: 370 :: 371 :: 377 :: 378 :: 533 :: 539 :: 540 :: 593 :: 594 :: 646 :: 652 :: 653 :: 659 :: 660 :: 661 :: 689 :: 690 :: 696 :: 697 :: 718 :: 719 :: 725 :: 726 :: 728 :: 729 :: 730 :: 731 :: 739 :: 740 :: 744 :: 745 :: 749 :: 750 :: 754 :: 755 :: []

set_option maxHeartbeats 8000000 in
theorem top2 : ∀ w, (endsP as2 PySem.Challenge.rw_nb0270_01.row.prog w 9900).map (fun x => (PySem.W.Fast.tw4187177175401517315 Mine.q Mine.loose (importedModules PySem.Challenge.rw_nb0270_01.row.prog.main.body) (fun s => xlAt Mine.q [] s && recOk [] s) true x.1, x.2)) = some (openGood q loose, (K2 w.params).map fun p => some p.2) := fun w => by kernel_rfl
theorem K2as : ∀ P, as2 = (K2 P).map (·.1) := fun _ => by kernel_rfl
section
local macro_rules | `(tactic| k_head) => `(tactic| (
  refine holds_open (q := Mine.q) (loose := Mine.loose) (Xt := fun s => xlAt Mine.q [] s && recOk [] s) (XP := XL Mine.q []) (Yf := fun s => List.map (s.heap.get?) as2) (Ya := fun w => (K2 w.params).map fun p => some p.2) (YP := Hook.says (kHook K2 as2 K2as)) (N := 9900) (left_by top2) (InK.of K2as) InK.keeps (fun s e => xl_of s (Bool.and_eq_true_iff.mp e).1) XL.keeps (by rfl) (by rfl) (by rfl) (fun s e => recFacts_of (Bool.and_eq_true_iff.mp e).2) (by rfl) (by assumption) (by decide +kernel) ⟨rfl, rfl, rfl, rfl, rfl, by decide +kernel⟩ ?hw ?hc))
section
local macro_rules | `(tactic| o_law) => `(tactic| refine look_law fun said => ?_)
set_option maxHeartbeats 8000000 in
open_top hd for PySem.Challenge.rw_nb0270_01
end
end
end
end
section
open PySem PySem.W PySem.Spec PySem.Calls PyProof.Rows
/-! X1 -/
local macro_rules | `(tactic| k_room) => `(tactic| ktr_room)
local macro_rules | `(tactic| walk_at $s:str) => `(tactic| k_extra $s)
local macro_rules | `(tactic| k_all) => `(tactic| assumption)
/-! pieces of the given text, drawn out of the row -/
def bodyOf : Stmt → List Stmt
  | .FunctionDef _ _ b _ _ _ _ _ _ _ => b
  | .ClassDef _ _ _ b _ _ _ _ _ _ _ => b
  | .While _ b _ _ => b
  | .For _ _ b _ _ => b
  | _ => []
def scopeOf : Stmt → Scope
  | .FunctionDef _ _ _ _ _ _ sc _ _ _ => sc
  | _ => default
def testOf : Stmt → PySem.Expr
  | .While t _ _ _ => t
  | _ => default
def piece (i j : Nat) : Stmt := (bodyOf (PySem.Challenge.pw_nb0270_01.main.body.getD i default)).getD j default
@[reducible] noncomputable def rtBody : {x : List Stmt // bodyOf (piece 21 6) = x} := by
  refine ⟨?_, ?_⟩
  rotate_left
  · conv => lhs; whnf
@[reducible] noncomputable def rtScope : {x : Scope // scopeOf (piece 21 6) = x} := by
  refine ⟨?_, ?_⟩
  rotate_left
  · conv => lhs; whnf
@[reducible] noncomputable def rtLoop : {x : List Stmt // bodyOf (rtBody.1.getD 2 default) = x} := by
  refine ⟨?_, ?_⟩
  rotate_left
  · conv => lhs; whnf
@[reducible] noncomputable def rtTest : {x : PySem.Expr // testOf (rtBody.1.getD 2 default) = x} := by
  refine ⟨?_, ?_⟩
  rotate_left
  · conv => lhs; whnf
/-! D1 -/

/-! deque -/
abbrev deqObj (xs : List Value) (n : Int) : Obj := { cls := .type "collections.deque", data := .fields (.none :: .int n 0 :: xs).toArray }
theorem deq_plain : PlainAttrs "collections.deque" :=
  ⟨⟨"collections.deque.__getattribute__", by rw [typeLookup_type, builtinLookup_eq_fast]; kernel_rfl, by decide +kernel⟩, by rw [typeLookup_type, builtinLookup_eq_fast]; kernel_rfl⟩
theorem deq_noBool : typeLookup (.type "collections.deque") "__bool__" = pure none := by rw [typeLookup_type, builtinLookup_eq_fast]; kernel_rfl
theorem deq_slot_len : Slot "collections.deque" "__len__" "collections.deque.__len__" :=
  .of (owner := "collections.deque") (n := "__len__") (by rw [typeLookup_type, builtinLookup_eq_fast]; kernel_rfl) (by decide +kernel) (by decide +kernel) (by decide +kernel)
    (by first | exact .inl (by decide +kernel) | exact .inr (by decide +kernel)) (by rw [isSubtype_type]; kernel_rfl)
theorem deq_slot_pop : Slot "collections.deque" "pop" "collections.deque.pop" :=
  .of (owner := "collections.deque") (n := "pop") (by rw [typeLookup_type, builtinLookup_eq_fast]; kernel_rfl) (by decide +kernel) (by decide +kernel) (by decide +kernel)
    (by first | exact .inl (by decide +kernel) | exact .inr (by decide +kernel)) (by rw [isSubtype_type]; kernel_rfl)
theorem deq_slot_append : Slot "collections.deque" "append" "collections.deque.append" :=
  .of (owner := "collections.deque") (n := "append") (by rw [typeLookup_type, builtinLookup_eq_fast]; kernel_rfl) (by decide +kernel) (by decide +kernel) (by decide +kernel)
    (by first | exact .inl (by decide +kernel) | exact .inr (by decide +kernel)) (by rw [isSubtype_type]; kernel_rfl)
theorem deq_type_pop : typeOf (.builtin "collections.deque.pop") = pure (.type "method_descriptor") := by show builtinType _ = _; rw [builtinType_eq_fast]; kernel_rfl
theorem deq_type_append : typeOf (.builtin "collections.deque.append") = pure (.type "method_descriptor") := by show builtinType _ = _; rw [builtinType_eq_fast]; kernel_rfl
theorem deq_entry_pop : entryFor table "collections.deque.pop" = some Builtin.«collections.deque.pop» := entryFor_of_tree (by kernel_rfl)
theorem deq_entry_append : entryFor table "collections.deque.append" = some Builtin.«collections.deque.append» := entryFor_of_tree (by kernel_rfl)
theorem deq_entry_len : entryFor table "collections.deque.__len__" = some Builtin.«collections.deque.__len__» := entryFor_of_tree (by kernel_rfl)
theorem deq_args_pop (a : Value) : argsOk "collections.deque.pop" ⟨[a], []⟩ := by
  unfold argsOk
  first | kernel_rfl | (show (match Manifest.signature? _ with | _ => _); kernel_rfl)
theorem deq_args_append (a b : Value) : argsOk "collections.deque.append" ⟨[a, b], []⟩ := by
  unfold argsOk
  kernel_rfl
theorem deq_args_len (a : Value) : argsOk "collections.deque.__len__" ⟨[a], []⟩ := by
  unfold argsOk
  kernel_rfl
/-! D2 -/
section
variable {prog : Program} {w : World} {A : Around} {E : Value → Shared → Prop} {s : Shared} {h₀ h : Heap} {L D : Addr} {m : Str → Option Value} {news news' : List (Addr × Obj)} {xs : List Value} {n : Int}
theorem deq_len_body {Q : Value → Shared → Prop} (hl : s.heap.get? D = some (deqObj xs n)) (hfit : (xs.length : Int) < 2 ^ 63)
    (h : Q (.int xs.length (s.toks + 1)) { s with toks := s.toks + 1 + 1 }) : wpAny (model prog w) A (Builtin.«len» ⟨[.ref D], []⟩) (fun fin s' => ∃ r, fin = .done (.ret r) ∧ Q r s') E s := by
  have hT : s.TypeIs (.ref D) "collections.deque" := ⟨_, hl, rfl⟩
  unfold Builtin.«len»
  refine wpAny_bind (m := oneArg "len" _) (wpAny_pure ?_)
  refine wpAny_bind (m := callSpecial? (.ref D) (Str.ofString "__len__")) (wpAny_callSpecial?_slot (name := Str.ofString "__len__") hT deq_slot_len
    (wpAny_call_entry deq_slot_len hT deq_entry_len ?_ (deq_args_len _)))
  · show wpAny _ _ (do retInt (← Builtin.Deque.size (.ref D))) _ _ s
    unfold Builtin.Deque.size
    refine wpAny_bind (wpAny_bind (wpAny_fieldsOf hl rfl ?_))
    have e : (((.none :: .int n 0 :: xs).toArray : Array Value).size - 2 : Nat) = xs.length := by simp
    rw [e]
    refine wpAny_pure (wpAny_bind (wpAny_mkInt (wpAny_pure ⟨_, rfl, ?_⟩)))
    refine wpAny_bind (wpAny_holding (wpAny_pure ?_))
    refine wpAny_bind (wpAny_letGo ?_)
    show wpAny _ _ (if ((xs.length : Nat) : Int) < 0 then _ else _) _ _ _
    rw [if_neg (by omega)]
    show wpAny _ _ (if ((xs.length : Nat) : Int) ≥ 2 ^ 63 then _ else _) _ _ _
    rw [if_neg (by omega)]
    exact wpAny_bind (wpAny_mkInt (wpAny_pure ⟨_, rfl, h⟩))
theorem deq_truthy {Q : Bool → Shared → Prop} (hl : s.heap.get? D = some (deqObj xs n)) (hfit : (xs.length : Int) < 2 ^ 63)
    (h : Q (!xs.isEmpty) { s with toks := s.toks + 1 + 1 }) : wpAny (model prog w) A (truthy (.ref D)) Q E s := by
  have hT : s.TypeIs (.ref D) "collections.deque" := ⟨_, hl, rfl⟩
  have hne : ((xs.length : Int) != 0) = !xs.isEmpty := by
    cases xs with
    | nil => rfl
    | cons a l => exact bne_iff_ne.mpr (by simp only [List.length_cons]; omega)
  have key : wpAny (model prog w) A (runValue (.builtin "len" ⟨[.ref D], []⟩)) (fun r s' => r = .int xs.length (s.toks + 1) ∧ Q (!xs.isEmpty) s') E s := by
    refine wpAny_runValue (codeAny_builtin entry_len ?_)
    rw [Around.under_plainId plain_len _]
    exact wpAny_mono (deq_len_body (Q := fun r s' => r = .int xs.length (s.toks + 1) ∧ Q (!xs.isEmpty) s') hl hfit ⟨rfl, h⟩)
      (fun fin s' h' => by obtain ⟨r, rfl, hq⟩ := h'; exact hq) fun _ _ e => e
  unfold truthy
  first
    | refine wpAny_bind (wpAny_callSpecial?_none (name := Str.ofString "__bool__") hT deq_noBool ?_)
    | refine wpAny_bind (wpAny_pure (wpAny_bind (wpAny_callSpecial?_none (name := Str.ofString "__bool__") hT deq_noBool ?_)))
  first
    | refine wpAny_bind (wpAny_specialOf (name := Str.ofString "__len__") hT deq_slot_len.lookup ?_)
    | refine wpAny_bind (wpAny_pure (wpAny_bind (wpAny_specialOf (name := Str.ofString "__len__") hT deq_slot_len.lookup ?_)))
  first
    | exact wpAny_bind (wpAny_mono key (fun r s' h' => by obtain ⟨rfl, hq⟩ := h'; exact wpAny_pure (hne ▸ hq)) fun _ _ e => e)
    | exact wpAny_bind (wpAny_pure (wpAny_bind (wpAny_mono key (fun r s' h' => by obtain ⟨rfl, hq⟩ := h'; exact wpAny_pure (hne ▸ hq)) fun _ _ e => e)))
theorem deq_method {name : Str} {id : String} {pl : Sem Bool} {Q : Value × List Value → Shared → Prop} (N : News h₀ L s.heap news) (hm : (D, deqObj xs n) ∈ news) (slot : Slot "collections.deque" name id) (hty : typeOf (.builtin id) = pure (.type "method_descriptor"))
    (h : Q (.builtin id, [.ref D]) s) : wpAny (model prog w) A (getMethod (.ref D) name pl) Q E s :=
  getMethod_builtin ⟨_, (N _ hm).1, rfl⟩ deq_plain slot hty (fun a e => by cases e; exact ⟨_, (N _ hm).1, rfl⟩) h
theorem deq_set {f : Array Value → Array Value} {ys : List Value} {k : Int} (F : Fr h₀ L h m) (N : News h₀ L h news) (U : Upd D (deqObj xs n) (deqObj ys k) news news') (e : f (.none :: .int n 0 :: xs).toArray = (.none :: .int k 0 :: ys).toArray) :
    Fr h₀ L (h.update D (Obj.mapFields f)) m ∧ News h₀ L (h.update D (Obj.mapFields f)) news' := by
  obtain ⟨pre, post, rfl, rfl, a, b⟩ := U.split
  exact news_upd F N a b (by show Obj.mapFields f (deqObj xs n) = deqObj ys k; simp only [Obj.mapFields]; rw [e]) rfl
theorem deq_mem {o o' : Obj} (U : Upd D o o' news news') : (D, o) ∈ news := by
  obtain ⟨pre, post, rfl, rfl, a, b⟩ := U.split
  simp
theorem deq_mem2 {o o' : Obj} (U : Upd D o o' news news') : (D, o') ∈ news' := by
  obtain ⟨pre, post, rfl, rfl, a, b⟩ := U.split
  simp
theorem deq_append {v : Value} {Q : Value → Shared → Prop} (F : Fr h₀ L s.heap m) (N : News h₀ L s.heap news) (U : Upd D (deqObj xs n) (deqObj (xs ++ [v]) (n + 1)) news news') (hz : xs.length ≤ 1000)
    (h : ∀ h', Fr h₀ L h' m → News h₀ L h' news' → Q .none { s with heap := h' }) : wpAny (model prog w) A (call (.builtin "collections.deque.append") [.ref D, v]) Q E s := by
  have hl := (N _ (deq_mem U)).1
  have hT : s.TypeIs (.ref D) "collections.deque" := ⟨_, hl, rfl⟩
  refine wpAny_call_entry deq_slot_append hT deq_entry_append ?_ (deq_args_append _ _)
  unfold Builtin.«collections.deque.append»
  refine wpAny_bind (m := selfAndOne "deque.append" _) (wpAny_pure ?_)
  refine wpAny_bind ?_
  have ch : wpAny (model prog w) A.in1 (Builtin.Deque.change (.ref D) (·.push v)) (fun _ s' => ∃ h', Fr h₀ L h' m ∧ News h₀ L h' news' ∧ s' = { s with heap := h' }) (fun e s' => E e s') s := by
    unfold Builtin.Deque.change Builtin.Deque.state
    refine wpAny_bind (wpAny_bind (wpAny_field hl rfl (i := 1) (x := .int n 0) rfl (wpAny_pure ?_)))
    refine wpAny_updateFields hl rfl ?_ ?_
    · obtain ⟨f1, n1⟩ := deq_set (f := fun vs => #[vs.getD 0 .none, rawInt (n + 1)] ++ (vs.extract 2 vs.size).push v) F N U (by simp [rawInt, List.take_of_length_le])
      exact ⟨_, f1, n1, rfl⟩
    · show (#[Value.none, rawInt (n + 1)] ++ (((Value.none :: .int n 0 :: xs).toArray.extract 2 (Value.none :: .int n 0 :: xs).toArray.size).push v)).size ≤ sizeLine + 3
      simp [sizeLine]
      omega
  unfold Builtin.Deque.pushRight
  refine wpAny_bind (wpAny_mono ch (fun _ s' h' => ?_) fun _ _ e => e)
  obtain ⟨h1, f1, n1, rfl⟩ := h'
  have hl2 := (n1 _ (deq_mem2 U)).1
  unfold Builtin.Deque.maxlen
  refine wpAny_bind (wpAny_bind (wpAny_field hl2 rfl (i := 0) (x := .none) rfl (wpAny_pure (wpAny_pure ?_))))
  exact wpAny_pure ⟨_, rfl, h _ f1 n1⟩
theorem deq_pop {y : Value} {Q : Value → Shared → Prop} (F : Fr h₀ L s.heap m) (N : News h₀ L s.heap news) (U : Upd D (deqObj (xs ++ [y]) n) (deqObj xs (n + 1)) news news') (hz : xs.length ≤ 1000)
    (h : ∀ h', Fr h₀ L h' m → News h₀ L h' news' → Q y { s with heap := h' }) : wpAny (model prog w) A (call (.builtin "collections.deque.pop") [.ref D]) Q E s := by
  have hl := (N _ (deq_mem U)).1
  have hT : s.TypeIs (.ref D) "collections.deque" := ⟨_, hl, rfl⟩
  refine wpAny_call_entry deq_slot_pop hT deq_entry_pop ?_ (deq_args_pop _)
  unfold Builtin.«collections.deque.pop»
  refine wpAny_bind (m := selfOnly "deque.pop" _) (wpAny_pure ?_)
  unfold Builtin.Deque.items
  refine wpAny_bind (wpAny_bind (wpAny_fieldsOf hl rfl (wpAny_pure ?_)))
  have e : ((.none :: .int n 0 :: (xs ++ [y])).toArray : Array Value).extract 2 ((.none :: .int n 0 :: (xs ++ [y])).toArray : Array Value).size = (xs ++ [y]).toArray := by simp [List.take_of_length_le]
  rw [e]
  have e2 : ((xs ++ [y]).toArray : Array Value).back? = some y := by simp
  rw [e2]
  dsimp only
  refine wpAny_bind ?_
  have ch : wpAny (model prog w) A.in1 (Builtin.Deque.change (.ref D) (·.pop)) (fun _ s' => ∃ h', Fr h₀ L h' m ∧ News h₀ L h' news' ∧ s' = { s with heap := h' }) (fun e s' => E e s') s := by
    unfold Builtin.Deque.change Builtin.Deque.state
    refine wpAny_bind (wpAny_bind (wpAny_field hl rfl (i := 1) (x := .int n 0) rfl (wpAny_pure ?_)))
    refine wpAny_updateFields hl rfl ?_ ?_
    · obtain ⟨f1, n1⟩ := deq_set (f := fun vs => #[vs.getD 0 .none, rawInt (n + 1)] ++ (vs.extract 2 vs.size).pop) F N U (by simp [rawInt, List.take_of_length_le])
      exact ⟨_, f1, n1, rfl⟩
    · show (#[Value.none, rawInt (n + 1)] ++ (((Value.none :: .int n 0 :: (xs ++ [y])).toArray.extract 2 (Value.none :: .int n 0 :: (xs ++ [y])).toArray.size).pop)).size ≤ sizeLine + 3
      simp [sizeLine]
      omega
  refine wpAny_mono ch (fun _ s' h' => ?_) fun _ _ e => e
  obtain ⟨h1, f1, n1, rfl⟩ := h'
  exact wpAny_pure ⟨_, rfl, h _ f1 n1⟩
end
/-! C2 -/
abbrev sioD (a : Nat → Int) (t : Nat → Tok) (B : Str) (P : Int) (tp : Tok) : List DictEntry := [⟨a 0, .str "_StringIO__newline" (t 0), .str "\n" (t 1)⟩, ⟨a 1, .str "_StringIO__buf" (t 2), .str B (t 3)⟩, ⟨a 2, .str "_StringIO__pos" (t 4), .int P tp⟩]
theorem ln_C2_1 : True := by
  k_with_none
  k_with "enterM" => (refine wpAny_call ?_; refine' code_def ?k1 ?k2 ?k3 ?k4 ?k5 ?kA ?kF ?kK ?k6 ?k7 ?k8 ?k9 ?kB ?_ ?c2 ?c3 ?c4 ?c5; (case kA => exact rfl); (case kF => exact rfl); (case kK => assumption); (case k1 => k_asm); (case k2 => k_asm); (case k3 => k_asm); (case k4 => k_asm); (case k5 => k_asm); (case k6 => k_is); (case k7 => k_is); (case k8 => ktr_room); (case k9 => first | exact BindsTo.of_eq rfl | exact binds_K (by k_in) rfl (by k_is) rfl rfl rfl); (case c5 => decide); (case kB => exact locs rfl); (case c2 => exact rfl); (case c3 => exact rfl); (case c4 => exact rfl); k_whole; intro g' L' h' FG' F' N' B' X' T'; (try dsimp only); (try k_lift B'); (try k_fold))
  trivial
abbrev Ctx (w : World) (p : Program) (loose : List Str) (mean : ExcName → Option Value) (mg mb : Str → Option Value) (f : Addr) (vs : List Value) (own : List (Addr × Obj)) (post : (Value → Shared → Prop) → Heap → Addr → (Str → Option Value) → Shared → Prop) : Prop :=
  ∀ (dp un : Nat) (gd : Option (List Code)) (cn : Str) (cs : Scope) (a : Addr) (ccd : Value) (cl : List (Str × Addr)) (outer : List Env) (A₀ : Around) (base h₀ : Heap) (L : Addr) (m : Str → Option Value) (s : Shared) (Q E : Value → Shared → Prop),
    Below A₀ base outer h₀ → Fr h₀ L s.heap m → (K2 w.params).In h₀ → News h₀ L s.heap own → Top p loose mean mg mb h₀ → cs.kind = .function →
    dp + 20 < recursionLimit → un + 160 < cLine → post Q h₀ L m s →
    wpAny (model PySem.Challenge.rw_nb0270_01.row.prog w) (ktrTop dp un gd cn cs L a ccd cl outer) (call (.ref f) vs) Q E s
section
variable (w : World) (p : Program) (loose : List Str) (mean : ExcName → Option Value) (mg mb : Str → Option Value)
set_option maxHeartbeats 1000000 in
theorem read_chr (y dy : Nat) (rest : List (Addr × Obj)) (a : Nat → Int) (t : Nat → Tok) (B : Str) (P : Int) (tp t7 : Tok) (hP : 0 ≤ P) (hP2 : P + 1 ≤ B.length) (hB : B.length ≤ 100) (hy : dy < y) (hr : ∀ p ∈ rest, p.1 ≠ dy) (C : Str) (hC : Txt.slice B (some P) (some (P + 1)) = C) :
  Ctx w p loose mean mg mb 540 [.ref y, .int 1 t7] ((y, instObj 594 dy) :: (dy, dictOf (sioD a t B P tp) 3) :: rest) fun Q h₀ L m s =>
    ∀ h' tk' t8 t9, Fr h₀ L h' m → News h₀ L h' ((y, instObj 594 dy) :: (dy, dictOf (sioD a t B (P + 1) t9) 3) :: rest) → Q (.str C t8) { s with heap := h', toks := tk' } := by
  unfold Ctx
  k_fill
  intros
  rename_i hret
  try dsimp only at hret
  k_dflt (walk_at "enterM")
  k_steps
  · subst hC
    exact hret _ _ _ _ (by k_asm) (by k_asm)
  · have e : (B.length : Int) = P + 1 := by omega
    subst hC
    rw [← e] at hret
    exact hret _ _ _ _ (by k_asm) (by k_asm)
set_option maxHeartbeats 1000000 in
theorem read_eof (y dy : Nat) (rest : List (Addr × Obj)) (a : Nat → Int) (t : Nat → Tok) (B : Str) (P : Int) (tp t7 : Tok) (hP : P = (B.length : Int)) (hB : B.length ≤ 100) (hy : dy < y) :
  Ctx w p loose mean mg mb 540 [.ref y, .int 1 t7] ((y, instObj 594 dy) :: (dy, dictOf (sioD a t B P tp) 3) :: rest) fun Q h₀ L m s =>
    ∀ h' tk' t8, Fr h₀ L h' m → News h₀ L h' ((y, instObj 594 dy) :: (dy, dictOf (sioD a t B P tp) 3) :: rest) → Q (.str (Str.ofString "") t8) { s with heap := h', toks := tk' } := by
  unfold Ctx
  k_fill
  intros
  rename_i hret
  k_dflt (walk_at "enterM")
  k_steps
  exact hret _ _ _ (by k_asm) (by k_asm)
end
theorem ln_C2_z : True := by
  k_with_none
  trivial
/-! R1 -/
abbrev SS (l : List Nat) : Str := ⟨l.toArray⟩
abbrev lexD (a : Nat → Int) (t v : Nat → Tok) (y q1 q2 q3 : Addr) (b : Bool) (eo : Value) (WC PL : Str) (st tk : Value) : List DictEntry := [
 ⟨a 0, .str "instream" (t 0), .ref y⟩, ⟨a 1, .str "infile" (t 1), .none⟩, ⟨a 2, .str "posix" (t 2), .bool b⟩, ⟨a 3, .str "eof" (t 3), eo⟩,
 ⟨a 4, .str "commenters" (t 4), .str "#" (v 4)⟩, ⟨a 5, .str "wordchars" (t 5), .str WC (v 5)⟩, ⟨a 6, .str "whitespace" (t 6), .str " \t\r\n" (v 6)⟩, ⟨a 7, .str "whitespace_split" (t 7), .bool false⟩,
 ⟨a 8, .str "quotes" (t 8), .str "'\"" (v 8)⟩, ⟨a 9, .str "escape" (t 9), .str "\\" (v 9)⟩, ⟨a 10, .str "escapedquotes" (t 10), .str "\"" (v 10)⟩, ⟨a 11, .str "state" (t 11), st⟩,
 ⟨a 12, .str "pushback" (t 12), .ref q1⟩, ⟨a 13, .str "lineno" (t 13), .int 1 (v 13)⟩, ⟨a 14, .str "debug" (t 14), .int 0 (v 14)⟩, ⟨a 15, .str "token" (t 15), tk⟩,
 ⟨a 16, .str "filestack" (t 16), .ref q2⟩, ⟨a 17, .str "source" (t 17), .none⟩, ⟨a 18, .str "_punctuation_chars" (t 18), .str PL (v 18)⟩, ⟨a 19, .str "_pushback_chars" (t 19), .ref q3⟩]
abbrev lexL (a : Nat → Int) (t v : Nat → Tok) (a' : Nat → Int) (t' : Nat → Tok) (lx dx y dy q1 q2 q3 : Nat) (rest : List (Addr × Obj)) (b : Bool) (eo : Value) (WC PL B : Str) (P : Int) (tp : Tok) (st tk : Value) (pb : List Value) (n3 : Int) : List (Addr × Obj) :=
  (lx, instObj 729 dx) :: (dx, dictOf (lexD a t v y q1 q2 q3 b eo WC PL st tk) 20) :: (y, instObj 594 dy) :: (dy, dictOf (sioD a' t' B P tp) 3) :: (q1, deqObj [] 0) :: (q2, deqObj [] 0) :: (q3, deqObj pb n3) :: rest
structure Apart (rest : List (Addr × Obj)) (dx dy q3 : Nat) : Prop where
  x : ∀ z ∈ rest, z.1 ≠ dx
  y : ∀ z ∈ rest, z.1 ≠ dy
  q : ∀ z ∈ rest, z.1 ≠ q3
theorem news_sub {h₀ h : Heap} {L : Addr} {x y : List (Addr × Obj)} (hs : ∀ p ∈ x, p ∈ y) (N : News h₀ L h y) : News h₀ L h x := fun p hp => N p (hs p hp)
section
variable {prog : Program} {w : World} {A : Around} {E : Value → Shared → Prop} {s : Shared} {c : Nat} {l : List Nat} {x : Str} {t u : Tok} {b : Bool}
theorem in_chr {Q : Value → Shared → Prop} (hc : decide (c ∈ x.cps.toList) = b) (h : Q (.bool b) s) : wpAny (model prog w) A (compareOp .In (.str (SS [c]) u) (.str x t)) Q E s := by
  refine in_str ?_
  have e := PySem.StrLaws.found_one x c
  rw [show (SS [c] : Str) = ⟨#[c]⟩ from rfl, e, hc]
  exact h
theorem notin_lit (hx : (x.cps.toList.all fun d => decide (d < 65) || decide (77 < d)) = true) (h1 : 65 ≤ c) (h2 : c ≤ 77) : decide (c ∈ x.cps.toList) = false := by
  refine decide_eq_false fun hm => ?_
  have := List.all_eq_true.mp hx c hm
  simp only [Bool.or_eq_true, decide_eq_true_eq] at this
  omega
theorem eq_chr {Q : Value → Shared → Prop} (hx : ((SS [c] : Str) == x) = b) (h : Q (.bool b) s) : wpAny (model prog w) A (compareOp .Eq (.str (SS [c]) u) (.str x t)) Q E s := by
  refine PyProof.Rows.eq_str ?_
  rw [hx]
  exact h
theorem chr_ne_lit (hx : (x.cps.toList.all fun d => decide (d < 65) || decide (77 < d)) = true) (h1 : 65 ≤ c) (h2 : c ≤ 77) : ((SS [c] : Str) == x) = false := by
  refine beq_eq_false_iff_ne.mpr fun e => ?_
  have := List.all_eq_true.mp hx c (by rw [← e]; exact .head _)
  simp only [Bool.or_eq_true, decide_eq_true_eq] at this
  omega
theorem truthy_chr {Q : Bool → Shared → Prop} (h : ∀ tk, Q true { s with toks := tk }) : wpAny (model prog w) A (truthy (.str (SS [c]) t)) Q E s := by
  refine PySem.P.truthy_str (by show ¬ ((1 : Nat) : Int) ≥ 2 ^ 63; decide) ?_
  exact h _
theorem in_lit {y : Str} {Q : Value → Shared → Prop} (hb : (!(Builtin.Str.occurrences x y 0 x.length 1).isEmpty) = b) (h : Q (.bool b) s) : wpAny (model prog w) A (compareOp .In (.str y u) (.str x t)) Q E s := by
  refine in_str ?_
  rw [hb]
  exact h
theorem eq_lit {y : Str} {Q : Value → Shared → Prop} (hb : (y == x) = b) (h : Q (.bool b) s) : wpAny (model prog w) A (compareOp .Eq (.str y u) (.str x t)) Q E s := by
  refine PyProof.Rows.eq_str ?_
  rw [hb]
  exact h
end
section
variable (w : World) (p : Program) (loose : List Str) (mean : ExcName → Option Value) (mg mb : Str → Option Value)
variable (a : Nat → Int) (t v : Nat → Tok) (a' : Nat → Int) (t' : Nat → Tok) (lx dx y dy q1 q2 q3 : Nat) (rest : List (Addr × Obj)) (b : Bool) (eo : Value) (WC PL B : Str) (P : Int) (tp t7 : Tok) (st tk : Value) (pb : List Value) (n3 : Int)
theorem readL_eof (hP : P = (B.length : Int)) (hB : B.length ≤ 100) (o3 : dy < y) :
  Ctx w p loose mean mg mb 540 [.ref y, .int 1 t7] (lexL a t v a' t' lx dx y dy q1 q2 q3 rest b eo WC PL B P tp st tk pb n3) fun Q h₀ L m s =>
    ∀ h' tk' t8, Fr h₀ L h' m → News h₀ L h' (lexL a t v a' t' lx dx y dy q1 q2 q3 rest b eo WC PL B P tp st tk pb n3) → Q (.str (Str.ofString "") t8) { s with heap := h', toks := tk' } := by
  unfold Ctx
  intro dp un gd cn cs ad ccd cl outer A₀ base h₀ L m s Q E hBe hF hX hN hT hk hd hu hret
  refine read_eof w p loose mean mg mb y dy ((lx, instObj 729 dx) :: (dx, dictOf (lexD a t v y q1 q2 q3 b eo WC PL st tk) 20) :: (q1, deqObj [] 0) :: (q2, deqObj [] 0) :: (q3, deqObj pb n3) :: rest) a' t' B P tp t7 hP hB o3 _ _ _ _ _ _ _ _ _ _ _ _ _ _ _ _ _ hBe hF hX (news_sub (fun q hq => ?_) hN) hT hk hd hu fun h' tk' t8 F' N' => hret h' tk' t8 F' (news_sub (fun q hq => ?_) N')
  all_goals (simp only [lexL, List.mem_cons, List.not_mem_nil, or_false] at hq ⊢; grind)
theorem readL_chr (hP : 0 ≤ P) (hP2 : P + 1 ≤ B.length) (hB : B.length ≤ 100) (o1 : dx < lx) (o2 : lx < dy) (o3 : dy < y) (o4 : y < q1) (o5 : q1 < q2) (o6 : q2 < q3) (o7 : Apart rest dx dy q3) (C : Str) (hC : Txt.slice B (some P) (some (P + 1)) = C) :
  Ctx w p loose mean mg mb 540 [.ref y, .int 1 t7] (lexL a t v a' t' lx dx y dy q1 q2 q3 rest b eo WC PL B P tp st tk pb n3) fun Q h₀ L m s =>
    ∀ h' tk' t8 t9, Fr h₀ L h' m → News h₀ L h' (lexL a t v a' t' lx dx y dy q1 q2 q3 rest b eo WC PL B (P + 1) t9 st tk pb n3) → Q (.str C t8) { s with heap := h', toks := tk' } := by
  unfold Ctx
  intro dp un gd cn cs ad ccd cl outer A₀ base h₀ L m s Q E hBe hF hX hN hT hk hd hu hret
  refine read_chr w p loose mean mg mb y dy ((lx, instObj 729 dx) :: (dx, dictOf (lexD a t v y q1 q2 q3 b eo WC PL st tk) 20) :: (q1, deqObj [] 0) :: (q2, deqObj [] 0) :: (q3, deqObj pb n3) :: rest) a' t' B P tp t7 hP hP2 hB o3 ?_ C hC _ _ _ _ _ _ _ _ _ _ _ _ _ _ _ _ _ hBe hF hX (news_sub (fun q hq => ?_) hN) hT hk hd hu fun h' tk' t8 t9 F' N' => hret h' tk' t8 t9 F' (news_sub (fun q hq => ?_) N')
  · intro q hq
    simp only [List.mem_cons, List.not_mem_nil, or_false] at hq
    rcases hq with rfl | rfl | rfl | rfl | rfl | hq <;> first | exact o7.y _ hq | (show (_ : Nat) ≠ _; omega)
  all_goals (simp only [lexL, List.mem_cons, List.not_mem_nil, or_false] at hq ⊢; grind)
end
local macro_rules | `(tactic| k_all) => `(tactic| first | assumption | exact Apart.x (by assumption) | exact Apart.y (by assumption) | exact Apart.q (by assumption))
/-! T1 -/
theorem drop_facts {B : Str} {P : Int} {c : Nat} {r : List Nat} (hP : 0 ≤ P) (hr : B.cps.toList.drop P.toNat = c :: r) : P + 1 ≤ B.length ∧ B.cps.toList.drop (P + 1).toNat = r ∧ B.cps.toList[P.toNat]? = some c := by
  have hl := congrArg List.length hr
  rw [List.length_drop] at hl
  have e : B.length = B.cps.toList.length := by simp [Str.length]
  refine ⟨?_, ?_, ?_⟩
  · rw [e]; simp at hl ⊢; omega
  · have : (P + 1).toNat = P.toNat + 1 := by omega
    rw [this, ← List.drop_drop, hr]; rfl
  · rw [← List.head?_drop, hr]; rfl
theorem drop_nil {B : Str} {P : Int} (hP : 0 ≤ P) (hP2 : P ≤ B.length) (hr : B.cps.toList.drop P.toNat = []) : P = (B.length : Int) := by
  have hl := congrArg List.length hr
  rw [List.length_drop] at hl
  have e : B.length = B.cps.toList.length := by simp [Str.length]
  rw [e] at hP2 ⊢; simp at hl hP2 ⊢; omega
theorem slice_at {B : Str} {P : Int} {c : Nat} {r : List Nat} (hP : 0 ≤ P) (hr : B.cps.toList.drop P.toNat = c :: r) : Txt.slice B (some P) (some (P + 1)) = SS [c] := by
  obtain ⟨h1, _, h3⟩ := drop_facts hP hr
  have hi : Builtin.Str.strSliceIndices (some P) (some (P + 1)) 1 B.length = [P.toNat] := by
    unfold Builtin.Str.strSliceIndices
    have e1 : (if P < 0 then P + (B.length : Int) else P) = P := if_neg (by omega)
    have e2 : (if P + 1 < 0 then P + 1 + (B.length : Int) else P + 1) = P + 1 := if_neg (by omega)
    have e3 : max 0 (min P (B.length : Int)) = P := by omega
    have e4 : max 0 (min (P + 1) (B.length : Int)) = P + 1 := by omega
    show sliceRange (if (1 : Int) > 0 then max 0 (min (if P < 0 then P + (B.length : Int) else P) (B.length : Int)) else _) (if (1 : Int) > 0 then max 0 (min (if P + 1 < 0 then P + 1 + (B.length : Int) else P + 1) (B.length : Int)) else _) 1 = _
    simp only [show (1 : Int) > 0 from by decide, if_true, e1, e2, e3, e4]
    unfold sliceRange
    have e5 : (if (1 : Int) > 0 then (if P < P + 1 then (P + 1 - P + 1 - 1) / 1 else 0) else (if P > P + 1 then (P - (P + 1) - 1 - 1) / (-1) else 0)) = 1 := by
      rw [if_pos (by decide), if_pos (by omega)]; simp; omega
    simp only [e5]
    simp
  unfold Txt.slice
  rw [hi]
  by_cases hb : ((1 : Int) == 1 && ([P.toNat] : List Nat).length == B.length) = true
  · rw [if_pos hb]
    have hl : B.length = 1 := by have := hb; simp at this; omega
    have hP0 : P.toNat = 0 := by omega
    rw [hP0] at h3
    obtain ⟨⟨l⟩⟩ := B
    cases l with
    | nil => simp at h3
    | cons d l =>
      have : l = [] := by
        have : (d :: l).length = 1 := hl
        cases l with
        | nil => rfl
        | cons _ _ => simp at this
      subst this
      simp at h3
      subst h3
      rfl
  · rw [if_neg hb]
    have h4 : B.cps[P.toNat]? = some c := by rw [← Array.getElem?_toList]; exact h3
    simp [List.filterMap, h4]
/-! L3 -/
abbrev mRT (nc : Option Value) (te : Tok) (lx : Addr) : Str → Option Value := fun y => if y = "nextchar" then nc else if y = "escapedstate" then some (.str " " te) else if y = "quoted" then some (.bool false) else List.lookup y [(("self" : Str), Value.ref lx)]
theorem news_tail {h₀ h : Heap} {L : Addr} {x : Addr × Obj} {y : List (Addr × Obj)} (N : News h₀ L h (x :: y)) : News h₀ L h y := fun p hp => N p (.tail _ hp)
theorem mRT_set (v : Value) (nc : Option Value) (te : Tok) (lx : Addr) : (fun y => if y = (Str.ofString "nextchar") then some v else mRT nc te lx y) = mRT (some v) te lx := by
  funext y
  unfold mRT
  by_cases h : y = Str.ofString "nextchar" <;> simp [h]
theorem fr_set {g h : Heap} {L : Addr} {v : Value} {nc : Option Value} {te : Tok} {lx : Addr} (F : Fr g L h (fun y => if y = (Str.ofString "nextchar") then some v else mRT nc te lx y)) : Fr g L h (mRT (some v) te lx) := mRT_set v nc te lx ▸ F
noncomputable abbrev rtEnv (L : Addr) : Env := envOf "shlex.read_token" rtScope.1 L 697 (.ref 696)
section
variable {prog : Program} {w : World} {A : Around} {E : Value → Shared → Prop} {s : Shared} {X : Str} {t : Tok}
theorem truthy_pos {Q : Bool → Shared → Prop} (h0 : 0 < X.length) (h1 : X.length ≤ 300) (h : ∀ tk, Q true { s with toks := tk }) : wpAny (model prog w) A (truthy (.str X t)) Q E s := by
  refine PySem.P.truthy_str (by omega) ?_
  have e : ((X.length : Int) != 0) = true := bne_iff_ne.mpr (by omega)
  rw [e]
  exact h _
theorem iadd_sz {X : Str} {c : Nat} (h : X.length ≤ 300) : X.length + (SS [c]).length ≤ sizeLine := by
  show X.length + 1 ≤ 2 ^ 24
  omega
theorem sapp_len (X : Str) (c : Nat) : (X ++ SS [c]).length = X.length + 1 := by
  rw [Str.length_append]; rfl
theorem sapp_assoc (X : Str) (c : Nat) (u : List Nat) : X ++ SS [c] ++ SS u = X ++ SS (c :: u) := by
  obtain ⟨⟨l⟩⟩ := X
  show (⟨(⟨l⟩ ++ #[c]) ++ u.toArray⟩ : Str) = ⟨⟨l⟩ ++ (c :: u).toArray⟩
  simp
theorem sapp_nil (X : Str) : X ++ SS [] = X := by
  obtain ⟨⟨l⟩⟩ := X
  show (⟨⟨l⟩ ++ ([] : List Nat).toArray⟩ : Str) = ⟨⟨l⟩⟩
  simp
end
def PostR (R : Shared → Prop) (Q : Flow → Shared → Prop) (f : Flow) (s : Shared) : Prop := match f with
  | .next => R s
  | .cont => R s
  | .brk => Q .next s
  | .ret v => Q (.ret v) s
theorem whl_turnR {prog : Program} {w : World} {A : Around} {E : Value → Shared → Prop} {s : Shared} {env : Env} {test : PySem.Expr} {body orelse : List Stmt} {Q : Flow → Shared → Prop} {k : Nat} {R : Shared → Prop} (hE : PassesOwn (model prog w) A env E)
    (hR : ∀ s', R s' → WhlRest prog w A E env test body orelse Q k s')
    (h : wpAny (model prog w) A (isTrue test env (eval test env)) (fun b s₂ => WhlIf b (wpAny (model prog w) A (execs body env) (PostR R Q) E s₂) (wpAny (model prog w) A (execs orelse env) Q E s₂)) E s) :
    WhlRest prog w A E env test body orelse Q (k + 1) s := by
  refine whl_turn hE (wpAny_mono h (fun b s₂ hb => ?_) fun _ _ e => e)
  unfold WhlIf at hb ⊢
  split at hb
  · rename_i e
    rw [if_pos e]
    refine wpAny_mono hb (fun f s' hf => ?_) fun _ _ e => e
    cases f with
    | next => exact hR _ hf
    | cont => exact hR _ hf
    | brk => exact hf
    | ret v => exact hf
  · rename_i e
    rw [if_neg e]
    exact hb
theorem ln_L3_1 : True := by
  k_with_none
  k_with "truthy ref" => (k_here; refine' deq_truthy ?l ?f ?_; (case l => exact News.get (by k_asm) (by k_mem)); (case f => decide))
  k_with "truthy str" => ((with_reducible show wpAny _ _ (truthy (Value.str (SS [_]) _)) _ _ _); refine truthy_chr ?_; intro tk9)
  k_with "truthy str" => (refine truthy_pos (by assumption) (by omega) ?_; intro tk9)
  k_with "compareOp In str str" => ((with_reducible show wpAny _ _ (compareOp _ (Value.str (Str.ofString _) _) (Value.str (Str.ofString _) _)) _ _ _); first | refine in_lit (b := false) (by decide +kernel) ?_ | refine in_lit (b := true) (by decide +kernel) ?_)
  k_with "compareOp Eq str str" => ((with_reducible show wpAny _ _ (compareOp _ (Value.str (Str.ofString _) _) (Value.str (Str.ofString _) _)) _ _ _); first | refine eq_lit (b := false) (by decide +kernel) ?_ | refine eq_lit (b := true) (by decide +kernel) ?_)
  k_with "compareOp In str str" => ((with_reducible show wpAny _ _ (compareOp _ (Value.str (SS [_]) _) _) _ _ _); first | refine in_chr (b := false) (notin_lit (by decide +kernel) (by assumption) (by assumption)) ?_ | refine in_chr (by assumption) ?_)
  k_with "compareOp Eq str str" => ((with_reducible show wpAny _ _ (compareOp _ (Value.str (SS [_]) _) _) _ _ _); refine eq_chr (b := false) (chr_ne_lit (by decide +kernel) (by assumption) (by assumption)) ?_)
  k_with "inplaceOp Add str str" => ((with_reducible show wpAny _ _ (inplaceOp _ (Value.str _ _) (Value.str (SS [_]) _)) _ _ _); refine PyProof.Rows.iadd_str ?_ (iadd_sz (by omega)); intro t11 tk11)
  k_with "getMethod ref" => (k_here; (with_reducible show wpAny _ _ (getMethod (Value.ref _) (PySem.Str.ofString "append") _) _ _ _); k_dflt (refine' deq_method ?N ?m deq_slot_append deq_type_append ?_; (case N => k_asm); (case m => k_mem)))
  k_with "call builtin:collections.deque.append" => (k_here; k_dflt (refine' deq_append ?F ?N ?U ?z ?_; (case F => k_asm); (case N => k_asm); (case U => k_upd); (case z => decide)); intro h' F' N')
  k_with "call ref" => ((with_reducible show wpAny _ _ (call (Value.ref 540) [Value.ref _, Value.int 1 _]) _ _ _); k_dflt (refine' readL_eof _ _ _ _ _ _ _ _ _ _ _ _ _ _ _ _ _ _ _ _ _ _ _ _ _ _ _ _ _ _ _ ?hP ?hB ?hy _ _ _ _ _ _ _ _ _ _ _ _ _ _ _ _ _ ?k1 ?k2 ?k3 ?k4 ?k5 ?kK ?kd ?ku ?_; (case k4 => k_asm); (case hP => assumption); (case hB => assumption); (case hy => assumption); (case k1 => k_asm); (case k2 => k_asm); (case k3 => k_asm); (case k5 => k_asm); (case kK => first | exact rfl | assumption); (case kd => ktr_room); (case ku => ktr_units)); intro h9 tk9 t9 F9 N9)
  k_with "call ref" => ((with_reducible show wpAny _ _ (call (Value.ref 540) [Value.ref _, Value.int 1 _]) _ _ _); k_dflt (refine' readL_chr _ _ _ _ _ _ _ _ _ _ _ _ _ _ _ _ _ _ _ _ _ _ _ _ _ _ _ _ _ _ _ ?hP ?hP2 ?hB ?o1 ?o2 ?o3 ?o4 ?o5 ?o6 ?o7 _ ?hC _ _ _ _ _ _ _ _ _ _ _ _ _ _ _ _ _ ?k1 ?k2 ?k3 ?k4 ?k5 ?kK ?kd ?ku ?_; (case k4 => k_asm); (case hP => assumption); (case hP2 => assumption); (case hB => assumption); (case o1 => assumption); (case o2 => assumption); (case o3 => assumption); (case o4 => assumption); (case o5 => assumption); (case o6 => assumption); (case o7 => assumption); (case hC => assumption); (case k1 => k_asm); (case k2 => k_asm); (case k3 => k_asm); (case k5 => k_asm); (case kK => first | exact rfl | assumption); (case kd => ktr_room); (case ku => ktr_units)); intro h9 tk9 t9 t10 F9 N9)
  trivial
section
variable (w : World) (p : Program) (loose : List Str) (mean : ExcName → Option Value) (mg mb : Str → Option Value)
variable (a : Nat → Int) (t v : Nat → Tok) (a' : Nat → Int) (t' : Nat → Tok) (lx dx y dy q1 q2 q3 : Nat) (rest : List (Addr × Obj)) (b : Bool) (eo : Value) (WC B : Str) (pc : Nat) (te : Tok) (n3 : Int)
   (hB : B.length ≤ 100) (o1 : dx < lx) (o2 : lx < dy) (o3 : dy < y) (o4 : y < q1) (o5 : q1 < q2) (o6 : q2 < q3) (o7 : Apart rest dx dy q3)
   (dp un : Nat) (gd : Option (List Code)) (cn : Str) (cs : Scope) (ad : Addr) (ccd : Value) (cl : List (Str × Addr)) (outer : List Env) (base g : Heap) (L L' : Addr) (E : Value → Shared → Prop) (Q : Flow → Shared → Prop) (R : Shared → Prop)
   (hBe : Below (ktrTop dp un gd cn cs L ad ccd cl outer) base (envX cn cs L ad ccd cl :: outer) g) (hX : (K2 w.params).In g) (hT : Top p loose mean mg mb g) (hdp : dp + 40 < recursionLimit) (hun : un + 320 < cLine)
abbrev TurnGoal (w : World) (A : Around) (L' : Addr) (Q : Flow → Shared → Prop) (R : Shared → Prop) (E : Value → Shared → Prop) (s : Shared) : Prop :=
  wpAny (model PySem.Challenge.rw_nb0270_01.row.prog w) A (isTrue rtTest.1 (rtEnv L') (eval rtTest.1 (rtEnv L'))) (fun b s₂ => WhlIf b (wpAny (model PySem.Challenge.rw_nb0270_01.row.prog w) A (execs rtLoop.1 (rtEnv L')) (PostR R Q) E s₂) (wpAny (model PySem.Challenge.rw_nb0270_01.row.prog w) A (execs [] (rtEnv L')) Q E s₂)) E s
set_option maxHeartbeats 500000 in
include hB o1 o2 o3 o4 o5 o6 o7 hBe hX hT hdp hun in
theorem turnA_eof (nc : Option Value) (P : Int) (tp : Tok) (X : Str) (tx ts : Tok) (s : Shared) (hF : Fr g L' s.heap (mRT nc te lx)) (hN : News g L' s.heap (lexL a t v a' t' lx dx y dy q1 q2 q3 rest b eo WC (SS [pc]) B P tp (.str "a" ts) (.str X tx) [] n3)) (hP : P = (B.length : Int))
    (H1 : ∀ h' tk' nc', Fr g L' h' (mRT nc' te lx) → News g L' h' (lexL a t v a' t' lx dx y dy q1 q2 q3 rest b eo WC (SS [pc]) B P tp .none (.str X tx) [] n3) → Q .next { s with heap := h', toks := tk' }) :
    TurnGoal w ((ktrTop dp un gd cn cs L ad ccd cl outer).deeper (rtEnv L')) L' Q R E s := by
  revert hX
  unfold TurnGoal
  k_fill
  intro hX
  k_steps
  dsimp only [PostR]
  exact H1 _ _ _ (fr_set (by k_asm)) (by first | k_asm | exact news_tail (by k_asm))
set_option maxHeartbeats 1000000 in
include hB o1 o2 o3 o4 o5 o6 o7 hBe hX hT hdp hun in
theorem turnA_chr (nc : Option Value) (P : Int) (tp : Tok) (X : Str) (tx ts : Tok) (s : Shared) (hF : Fr g L' s.heap (mRT nc te lx)) (hN : News g L' s.heap (lexL a t v a' t' lx dx y dy q1 q2 q3 rest b eo WC (SS [pc]) B P tp (.str "a" ts) (.str X tx) [] n3))
    (c : Nat) (hP0 : 0 ≤ P) (hP2 : P + 1 ≤ B.length) (hC : Txt.slice B (some P) (some (P + 1)) = SS [c]) (hc1 : 65 ≤ c) (hc2 : c ≤ 77) (hw : decide (c ∈ WC.cps.toList) = decide (c ≠ pc)) (hX0 : 0 < X.length) (hX1 : X.length ≤ 200)
    (H1 : c ≠ pc → ∀ h' tk' nc' tp' tx', Fr g L' h' (mRT nc' te lx) → News g L' h' (lexL a t v a' t' lx dx y dy q1 q2 q3 rest b eo WC (SS [pc]) B (P + 1) tp' (.str "a" ts) (.str (X ++ SS [c]) tx') [] n3) → R { s with heap := h', toks := tk' })
    (H2 : c = pc → ∀ h' tk' nc' tp' ts' tc, Fr g L' h' (mRT nc' te lx) → News g L' h' (lexL a t v a' t' lx dx y dy q1 q2 q3 rest b eo WC (SS [pc]) B (P + 1) tp' (.str " " ts') (.str X tx) [.str (SS [c]) tc] (n3 + 1)) → Q .next { s with heap := h', toks := tk' }) :
    TurnGoal w ((ktrTop dp un gd cn cs L ad ccd cl outer).deeper (rtEnv L')) L' Q R E s := by
  revert hX
  unfold TurnGoal
  k_fill
  intro hX
  k_steps
  all_goals dsimp only [PostR]
  all_goals first
    | exact H1 (by omega) _ _ _ _ _ (fr_set (by k_asm)) (by first | k_asm | exact news_tail (by k_asm))
    | exact H2 (by omega) _ _ _ _ _ _ (fr_set (by k_asm)) (by first | k_asm | exact news_tail (by k_asm))
end
theorem ln_L3_z : True := by
  k_with_none
  trivial
/-! L4 -/
theorem notin_chr {prog : Program} {w : World} {A : Around} {E : Value → Shared → Prop} {s : Shared} {c : Nat} {x : Str} {t u : Tok} {b : Bool} {Q : Value → Shared → Prop} (hc : decide (c ∈ x.cps.toList) = b) (h : Q (.bool (!b)) s) : wpAny (model prog w) A (compareOp .NotIn (.str (SS [c]) u) (.str x t)) Q E s := by
  refine notIn_str ?_
  have e3 : (!(Builtin.Str.occurrences x (SS [c]) 0 x.length 1).isEmpty) = b := by rw [show (SS [c] : Str) = ⟨#[c]⟩ from rfl, PySem.StrLaws.found_one x c, hc]
  rw [e3]
  exact h
theorem ln_L4_1 : True := by
  k_with_none
  k_with "truthy ref" => (k_here; refine' deq_truthy ?l ?f ?_; (case l => exact News.get (by k_asm) (by k_mem)); (case f => decide))
  k_with "truthy str" => ((with_reducible show wpAny _ _ (truthy (Value.str (SS [_]) _)) _ _ _); refine truthy_chr ?_; intro tk9)
  k_with "truthy str" => (refine truthy_pos (by assumption) (by omega) ?_; intro tk9)
  k_with "compareOp In str str" => ((with_reducible show wpAny _ _ (compareOp _ (Value.str (Str.ofString _) _) (Value.str (Str.ofString _) _)) _ _ _); first | refine in_lit (b := false) (by decide +kernel) ?_ | refine in_lit (b := true) (by decide +kernel) ?_)
  k_with "compareOp NotIn str str" => ((with_reducible show wpAny _ _ (compareOp _ (Value.str (SS [_]) _) _) _ _ _); refine notin_chr (b := false) (notin_lit (by decide +kernel) (by assumption) (by assumption)) ?_)
  k_with "compareOp Eq str str" => ((with_reducible show wpAny _ _ (compareOp _ (Value.str (Str.ofString _) _) (Value.str (Str.ofString _) _)) _ _ _); first | refine eq_lit (b := false) (by decide +kernel) ?_ | refine eq_lit (b := true) (by decide +kernel) ?_)
  k_with "compareOp In str str" => ((with_reducible show wpAny _ _ (compareOp _ (Value.str (SS [_]) _) _) _ _ _); first | refine in_chr (b := false) (notin_lit (by decide +kernel) (by assumption) (by assumption)) ?_ | refine in_chr (by assumption) ?_)
  k_with "compareOp Eq str str" => ((with_reducible show wpAny _ _ (compareOp _ (Value.str (SS [_]) _) _) _ _ _); refine eq_chr (b := false) (chr_ne_lit (by decide +kernel) (by assumption) (by assumption)) ?_)
  k_with "inplaceOp Add str str" => ((with_reducible show wpAny _ _ (inplaceOp _ (Value.str _ _) (Value.str (SS [_]) _)) _ _ _); refine PyProof.Rows.iadd_str ?_ (iadd_sz (by omega)); intro t11 tk11)
  k_with "getMethod ref" => (k_here; (with_reducible show wpAny _ _ (getMethod (Value.ref _) (PySem.Str.ofString "append") _) _ _ _); k_dflt (refine' deq_method ?N ?m deq_slot_append deq_type_append ?_; (case N => k_asm); (case m => k_mem)))
  k_with "getMethod ref" => (k_here; (with_reducible show wpAny _ _ (getMethod (Value.ref _) (PySem.Str.ofString "pop") _) _ _ _); k_dflt (refine' deq_method ?N ?m deq_slot_pop deq_type_pop ?_; (case N => k_asm); (case m => k_mem)))
  k_with "call builtin:collections.deque.pop" => (k_here; k_dflt (refine' deq_pop (xs := []) ?F ?N ?U ?z ?_; (case F => k_asm); (case N => k_asm); (case U => k_upd); (case z => decide)); intro h' F' N')
  k_with "call builtin:collections.deque.append" => (k_here; k_dflt (refine' deq_append ?F ?N ?U ?z ?_; (case F => k_asm); (case N => k_asm); (case U => k_upd); (case z => decide)); intro h' F' N')
  k_with "call ref" => ((with_reducible show wpAny _ _ (call (Value.ref 540) [Value.ref _, Value.int 1 _]) _ _ _); k_dflt (refine' readL_eof _ _ _ _ _ _ _ _ _ _ _ _ _ _ _ _ _ _ _ _ _ _ _ _ _ _ _ _ _ _ _ ?hP ?hB ?hy _ _ _ _ _ _ _ _ _ _ _ _ _ _ _ _ _ ?k1 ?k2 ?k3 ?k4 ?k5 ?kK ?kd ?ku ?_; (case k4 => k_asm); (case hP => assumption); (case hB => assumption); (case hy => assumption); (case k1 => k_asm); (case k2 => k_asm); (case k3 => k_asm); (case k5 => k_asm); (case kK => first | exact rfl | assumption); (case kd => ktr_room); (case ku => ktr_units)); intro h9 tk9 t9 F9 N9)
  k_with "call ref" => ((with_reducible show wpAny _ _ (call (Value.ref 540) [Value.ref _, Value.int 1 _]) _ _ _); k_dflt (refine' readL_chr _ _ _ _ _ _ _ _ _ _ _ _ _ _ _ _ _ _ _ _ _ _ _ _ _ _ _ _ _ _ _ ?hP ?hP2 ?hB ?o1 ?o2 ?o3 ?o4 ?o5 ?o6 ?o7 _ ?hC _ _ _ _ _ _ _ _ _ _ _ _ _ _ _ _ _ ?k1 ?k2 ?k3 ?k4 ?k5 ?kK ?kd ?ku ?_; (case k4 => k_asm); (case hP => assumption); (case hP2 => assumption); (case hB => assumption); (case o1 => assumption); (case o2 => assumption); (case o3 => assumption); (case o4 => assumption); (case o5 => assumption); (case o6 => assumption); (case o7 => assumption); (case hC => assumption); (case k1 => k_asm); (case k2 => k_asm); (case k3 => k_asm); (case k5 => k_asm); (case kK => first | exact rfl | assumption); (case kd => ktr_room); (case ku => ktr_units)); intro h9 tk9 t9 t10 F9 N9)
  trivial
section
variable (w : World) (p : Program) (loose : List Str) (mean : ExcName → Option Value) (mg mb : Str → Option Value)
variable (a : Nat → Int) (t v : Nat → Tok) (a' : Nat → Int) (t' : Nat → Tok) (lx dx y dy q1 q2 q3 : Nat) (rest : List (Addr × Obj)) (b : Bool) (eo : Value) (WC B : Str) (pc : Nat) (te : Tok) (n3 : Int)
   (hB : B.length ≤ 100) (o1 : dx < lx) (o2 : lx < dy) (o3 : dy < y) (o4 : y < q1) (o5 : q1 < q2) (o6 : q2 < q3) (o7 : Apart rest dx dy q3)
   (dp un : Nat) (gd : Option (List Code)) (cn : Str) (cs : Scope) (ad : Addr) (ccd : Value) (cl : List (Str × Addr)) (outer : List Env) (base g : Heap) (L L' : Addr) (E : Value → Shared → Prop) (Q : Flow → Shared → Prop) (R : Shared → Prop)
   (hBe : Below (ktrTop dp un gd cn cs L ad ccd cl outer) base (envX cn cs L ad ccd cl :: outer) g) (hX : (K2 w.params).In g) (hT : Top p loose mean mg mb g) (hdp : dp + 40 < recursionLimit) (hun : un + 320 < cLine)
set_option maxHeartbeats 1000000 in
include hB o1 o2 o3 o4 o5 o6 o7 hBe hX hT hdp hun in
theorem turnC_eof (nc : Option Value) (P : Int) (tp : Tok) (X : Str) (tx ts : Tok) (s : Shared) (hF : Fr g L' s.heap (mRT nc te lx)) (hN : News g L' s.heap (lexL a t v a' t' lx dx y dy q1 q2 q3 rest b eo WC (SS [pc]) B P tp (.str "c" ts) (.str X tx) [] n3)) (hP : P = (B.length : Int))
    (H1 : ∀ h' tk' nc', Fr g L' h' (mRT nc' te lx) → News g L' h' (lexL a t v a' t' lx dx y dy q1 q2 q3 rest b eo WC (SS [pc]) B P tp .none (.str X tx) [] n3) → Q .next { s with heap := h', toks := tk' }) :
    TurnGoal w ((ktrTop dp un gd cn cs L ad ccd cl outer).deeper (rtEnv L')) L' Q R E s := by
  revert hX
  unfold TurnGoal
  k_fill
  intro hX
  k_steps
  all_goals dsimp only [PostR]
  exact H1 _ _ _ (fr_set (by k_asm)) (by first | k_asm | exact news_tail (by k_asm))
set_option maxHeartbeats 1000000 in
include hB o1 o2 o3 o4 o5 o6 o7 hBe hX hT hdp hun in
theorem turnC_chr (nc : Option Value) (P : Int) (tp : Tok) (X : Str) (tx ts : Tok) (s : Shared) (hF : Fr g L' s.heap (mRT nc te lx)) (hN : News g L' s.heap (lexL a t v a' t' lx dx y dy q1 q2 q3 rest b eo WC (SS [pc]) B P tp (.str "c" ts) (.str X tx) [] n3))
    (c : Nat) (hP0 : 0 ≤ P) (hP2 : P + 1 ≤ B.length) (hC : Txt.slice B (some P) (some (P + 1)) = SS [c]) (hc1 : 65 ≤ c) (hc2 : c ≤ 77) (hw : decide (c ∈ WC.cps.toList) = decide (c ≠ pc)) (hpp : decide (c ∈ (SS [pc]).cps.toList) = decide (c = pc)) (hX0 : 0 < X.length) (hX1 : X.length ≤ 200)
    (H1 : c = pc → ∀ h' tk' nc' tp' tx', Fr g L' h' (mRT nc' te lx) → News g L' h' (lexL a t v a' t' lx dx y dy q1 q2 q3 rest b eo WC (SS [pc]) B (P + 1) tp' (.str "c" ts) (.str (X ++ SS [c]) tx') [] n3) → R { s with heap := h', toks := tk' })
    (H2 : c ≠ pc → ∀ h' tk' nc' tp' ts' tc, Fr g L' h' (mRT nc' te lx) → News g L' h' (lexL a t v a' t' lx dx y dy q1 q2 q3 rest b eo WC (SS [pc]) B (P + 1) tp' (.str " " ts') (.str X tx) [.str (SS [c]) tc] (n3 + 1)) → Q .next { s with heap := h', toks := tk' }) :
    TurnGoal w ((ktrTop dp un gd cn cs L ad ccd cl outer).deeper (rtEnv L')) L' Q R E s := by
  revert hX
  unfold TurnGoal
  k_fill
  intro hX
  k_steps
  all_goals dsimp only [PostR]
  all_goals first
    | exact H1 (by omega) _ _ _ _ _ (fr_set (by k_asm)) (by first | k_asm | exact news_tail (by k_asm))
    | exact H2 (by omega) _ _ _ _ _ _ (fr_set (by k_asm)) (by first | k_asm | exact news_tail (by k_asm))
set_option maxHeartbeats 1000000 in
include hB o1 o2 o3 o4 o5 o6 o7 hBe hX hT hdp hun in
theorem turnS_eof (nc : Option Value) (P : Int) (tp : Tok) (tk : Value) (ts : Tok) (s : Shared) (hF : Fr g L' s.heap (mRT nc te lx)) (hN : News g L' s.heap (lexL a t v a' t' lx dx y dy q1 q2 q3 rest b eo WC (SS [pc]) B P tp (.str " " ts) tk [] n3)) (hP : P = (B.length : Int))
    (H1 : ∀ h' tk' nc', Fr g L' h' (mRT nc' te lx) → News g L' h' (lexL a t v a' t' lx dx y dy q1 q2 q3 rest b eo WC (SS [pc]) B P tp .none tk [] n3) → Q .next { s with heap := h', toks := tk' }) :
    TurnGoal w ((ktrTop dp un gd cn cs L ad ccd cl outer).deeper (rtEnv L')) L' Q R E s := by
  revert hX
  unfold TurnGoal
  k_fill
  intro hX
  k_steps
  all_goals dsimp only [PostR]
  exact H1 _ _ _ (fr_set (by k_asm)) (by first | k_asm | exact news_tail (by k_asm))
set_option maxHeartbeats 1000000 in
include hB o1 o2 o3 o4 o5 o6 o7 hBe hX hT hdp hun in
theorem turnS_chr (nc : Option Value) (P : Int) (tp : Tok) (tk : Value) (ts : Tok) (s : Shared) (hF : Fr g L' s.heap (mRT nc te lx)) (hN : News g L' s.heap (lexL a t v a' t' lx dx y dy q1 q2 q3 rest b eo WC (SS [pc]) B P tp (.str " " ts) tk [] n3))
    (c : Nat) (hP0 : 0 ≤ P) (hP2 : P + 1 ≤ B.length) (hC : Txt.slice B (some P) (some (P + 1)) = SS [c]) (hc1 : 65 ≤ c) (hc2 : c ≤ 77) (hw : decide (c ∈ WC.cps.toList) = decide (c ≠ pc)) (hpp : decide (c ∈ (SS [pc]).cps.toList) = decide (c = pc))
    (H1 : c ≠ pc → ∀ h' tk' nc' tp' tx' ts', Fr g L' h' (mRT nc' te lx) → News g L' h' (lexL a t v a' t' lx dx y dy q1 q2 q3 rest b eo WC (SS [pc]) B (P + 1) tp' (.str "a" ts') (.str (SS [c]) tx') [] n3) → R { s with heap := h', toks := tk' })
    (H2 : c = pc → ∀ h' tk' nc' tp' tx' ts', Fr g L' h' (mRT nc' te lx) → News g L' h' (lexL a t v a' t' lx dx y dy q1 q2 q3 rest b eo WC (SS [pc]) B (P + 1) tp' (.str "c" ts') (.str (SS [c]) tx') [] n3) → R { s with heap := h', toks := tk' }) :
    TurnGoal w ((ktrTop dp un gd cn cs L ad ccd cl outer).deeper (rtEnv L')) L' Q R E s := by
  revert hX
  unfold TurnGoal
  k_fill
  intro hX
  k_steps
  all_goals dsimp only [PostR]
  all_goals first
    | exact H1 (by omega) _ _ _ _ _ _ (fr_set (by k_asm)) (by first | k_asm | exact news_tail (by k_asm))
    | exact H2 (by omega) _ _ _ _ _ _ (fr_set (by k_asm)) (by first | k_asm | exact news_tail (by k_asm))
end
theorem ln_L4_z : True := by
  k_with_none
  trivial
/-! L5 -/
theorem deq_truthy_nil {prog : Program} {w : World} {A : Around} {E : Value → Shared → Prop} {s : Shared} {D : Addr} {n : Int} {Q : Bool → Shared → Prop} (hl : s.heap.get? D = some (deqObj [] n)) (h : Q false { s with toks := s.toks + 1 + 1 }) : wpAny (model prog w) A (truthy (.ref D)) Q E s :=
  deq_truthy hl (by decide) h
theorem deq_truthy_one {prog : Program} {w : World} {A : Around} {E : Value → Shared → Prop} {s : Shared} {D : Addr} {n : Int} {y : Value} {Q : Bool → Shared → Prop} (hl : s.heap.get? D = some (deqObj [y] n)) (h : Q true { s with toks := s.toks + 1 + 1 }) : wpAny (model prog w) A (truthy (.ref D)) Q E s :=
  deq_truthy hl (by show ((1 : Nat) : Int) < 2 ^ 63; decide) h
theorem ln_L5_1 : True := by
  k_with_none
  k_with "truthy ref" => (k_here; first | (refine' deq_truthy_nil ?l ?_; (case l => exact News.get (by k_asm) (by k_mem))) | (refine' deq_truthy_one ?l ?_; (case l => exact News.get (by k_asm) (by k_mem))))
  k_with "truthy str" => ((with_reducible show wpAny _ _ (truthy (Value.str (SS [_]) _)) _ _ _); refine truthy_chr ?_; intro tk9)
  k_with "truthy str" => (refine truthy_pos (by assumption) (by omega) ?_; intro tk9)
  k_with "compareOp In str str" => ((with_reducible show wpAny _ _ (compareOp _ (Value.str (Str.ofString _) _) (Value.str (Str.ofString _) _)) _ _ _); first | refine in_lit (b := false) (by decide +kernel) ?_ | refine in_lit (b := true) (by decide +kernel) ?_)
  k_with "compareOp NotIn str str" => ((with_reducible show wpAny _ _ (compareOp _ (Value.str (SS [_]) _) _) _ _ _); refine notin_chr (b := false) (notin_lit (by decide +kernel) (by assumption) (by assumption)) ?_)
  k_with "compareOp Eq str str" => ((with_reducible show wpAny _ _ (compareOp _ (Value.str (Str.ofString _) _) (Value.str (Str.ofString _) _)) _ _ _); first | refine eq_lit (b := false) (by decide +kernel) ?_ | refine eq_lit (b := true) (by decide +kernel) ?_)
  k_with "compareOp In str str" => ((with_reducible show wpAny _ _ (compareOp _ (Value.str (SS [_]) _) _) _ _ _); first | refine in_chr (b := false) (notin_lit (by decide +kernel) (by assumption) (by assumption)) ?_ | refine in_chr (by assumption) ?_)
  k_with "compareOp Eq str str" => ((with_reducible show wpAny _ _ (compareOp _ (Value.str (SS [_]) _) _) _ _ _); refine eq_chr (b := false) (chr_ne_lit (by decide +kernel) (by assumption) (by assumption)) ?_)
  k_with "inplaceOp Add str str" => ((with_reducible show wpAny _ _ (inplaceOp _ (Value.str _ _) (Value.str (SS [_]) _)) _ _ _); refine PyProof.Rows.iadd_str ?_ (iadd_sz (by omega)); intro t11 tk11)
  k_with "getMethod ref" => (k_here; (with_reducible show wpAny _ _ (getMethod (Value.ref _) (PySem.Str.ofString "append") _) _ _ _); k_dflt (refine' deq_method ?N ?m deq_slot_append deq_type_append ?_; (case N => k_asm); (case m => k_mem)))
  k_with "getMethod ref" => (k_here; (with_reducible show wpAny _ _ (getMethod (Value.ref _) (PySem.Str.ofString "pop") _) _ _ _); k_dflt (refine' deq_method ?N ?m deq_slot_pop deq_type_pop ?_; (case N => k_asm); (case m => k_mem)))
  k_with "call builtin:collections.deque.pop" => (k_here; k_dflt (refine' deq_pop (xs := []) ?F ?N ?U ?z ?_; (case F => k_asm); (case N => k_asm); (case U => k_upd); (case z => decide)); intro h' F' N')
  k_with "call builtin:collections.deque.append" => (k_here; k_dflt (refine' deq_append ?F ?N ?U ?z ?_; (case F => k_asm); (case N => k_asm); (case U => k_upd); (case z => decide)); intro h' F' N')
  k_with "call ref" => ((with_reducible show wpAny _ _ (call (Value.ref 540) [Value.ref _, Value.int 1 _]) _ _ _); k_dflt (refine' readL_eof _ _ _ _ _ _ _ _ _ _ _ _ _ _ _ _ _ _ _ _ _ _ _ _ _ _ _ _ _ _ _ ?hP ?hB ?hy _ _ _ _ _ _ _ _ _ _ _ _ _ _ _ _ _ ?k1 ?k2 ?k3 ?k4 ?k5 ?kK ?kd ?ku ?_; (case k4 => k_asm); (case hP => assumption); (case hB => assumption); (case hy => assumption); (case k1 => k_asm); (case k2 => k_asm); (case k3 => k_asm); (case k5 => k_asm); (case kK => first | exact rfl | assumption); (case kd => ktr_room); (case ku => ktr_units)); intro h9 tk9 t9 F9 N9)
  k_with "call ref" => ((with_reducible show wpAny _ _ (call (Value.ref 540) [Value.ref _, Value.int 1 _]) _ _ _); k_dflt (refine' readL_chr _ _ _ _ _ _ _ _ _ _ _ _ _ _ _ _ _ _ _ _ _ _ _ _ _ _ _ _ _ _ _ ?hP ?hP2 ?hB ?o1 ?o2 ?o3 ?o4 ?o5 ?o6 ?o7 _ ?hC _ _ _ _ _ _ _ _ _ _ _ _ _ _ _ _ _ ?k1 ?k2 ?k3 ?k4 ?k5 ?kK ?kd ?ku ?_; (case k4 => k_asm); (case hP => assumption); (case hP2 => assumption); (case hB => assumption); (case o1 => assumption); (case o2 => assumption); (case o3 => assumption); (case o4 => assumption); (case o5 => assumption); (case o6 => assumption); (case o7 => assumption); (case hC => assumption); (case k1 => k_asm); (case k2 => k_asm); (case k3 => k_asm); (case k5 => k_asm); (case kK => first | exact rfl | assumption); (case kd => ktr_room); (case ku => ktr_units)); intro h9 tk9 t9 t10 F9 N9)
  trivial
section
variable (w : World) (p : Program) (loose : List Str) (mean : ExcName → Option Value) (mg mb : Str → Option Value)
variable (a : Nat → Int) (t v : Nat → Tok) (a' : Nat → Int) (t' : Nat → Tok) (lx dx y dy q1 q2 q3 : Nat) (rest : List (Addr × Obj)) (b : Bool) (eo : Value) (WC B : Str) (pc : Nat) (te : Tok) (n3 : Int)
   (hB : B.length ≤ 100) (o1 : dx < lx) (o2 : lx < dy) (o3 : dy < y) (o4 : y < q1) (o5 : q1 < q2) (o6 : q2 < q3) (o7 : Apart rest dx dy q3)
   (dp un : Nat) (gd : Option (List Code)) (cn : Str) (cs : Scope) (ad : Addr) (ccd : Value) (cl : List (Str × Addr)) (outer : List Env) (base g : Heap) (L L' : Addr) (E : Value → Shared → Prop) (Q : Flow → Shared → Prop) (R : Shared → Prop)
   (hBe : Below (ktrTop dp un gd cn cs L ad ccd cl outer) base (envX cn cs L ad ccd cl :: outer) g) (hX : (K2 w.params).In g) (hT : Top p loose mean mg mb g) (hdp : dp + 40 < recursionLimit) (hun : un + 320 < cLine)
set_option maxHeartbeats 400000 in
include hB o1 o2 o3 o4 o5 o6 o7 hBe hX hT hdp hun in
theorem turnS_pb (nc : Option Value) (P : Int) (tp : Tok) (tk : Value) (ts tc : Tok) (c : Nat) (s : Shared) (hF : Fr g L' s.heap (mRT nc te lx)) (hN : News g L' s.heap (lexL a t v a' t' lx dx y dy q1 q2 q3 rest b eo WC (SS [pc]) B P tp (.str " " ts) tk [.str (SS [c]) tc] n3))
    (hc1 : 65 ≤ c) (hc2 : c ≤ 77) (hw : decide (c ∈ WC.cps.toList) = decide (c ≠ pc)) (hpp : decide (c ∈ (SS [pc]).cps.toList) = decide (c = pc))
    (H1 : c ≠ pc → ∀ h' tk' nc' tx' ts', Fr g L' h' (mRT nc' te lx) → News g L' h' (lexL a t v a' t' lx dx y dy q1 q2 q3 rest b eo WC (SS [pc]) B P tp (.str "a" ts') (.str (SS [c]) tx') [] (n3 + 1)) → R { s with heap := h', toks := tk' })
    (H2 : c = pc → ∀ h' tk' nc' tx' ts', Fr g L' h' (mRT nc' te lx) → News g L' h' (lexL a t v a' t' lx dx y dy q1 q2 q3 rest b eo WC (SS [pc]) B P tp (.str "c" ts') (.str (SS [c]) tx') [] (n3 + 1)) → R { s with heap := h', toks := tk' }) :
    TurnGoal w ((ktrTop dp un gd cn cs L ad ccd cl outer).deeper (rtEnv L')) L' Q R E s := by
  revert hX
  unfold TurnGoal
  k_fill
  intro hX
  k_steps
  all_goals dsimp only [PostR]
  all_goals first
    | exact H1 (by omega) _ _ _ _ _ (fr_set (by k_asm)) (by first | k_asm | exact news_tail (by k_asm))
    | exact H2 (by omega) _ _ _ _ _ (fr_set (by k_asm)) (by first | k_asm | exact news_tail (by k_asm))
set_option maxHeartbeats 400000 in
include hB o1 o2 o3 o4 o5 o6 o7 hBe hX hT hdp hun in
theorem turnN (nc : Option Value) (P : Int) (tp : Tok) (tk : Value) (s : Shared) (hF : Fr g L' s.heap (mRT nc te lx)) (hN : News g L' s.heap (lexL a t v a' t' lx dx y dy q1 q2 q3 rest b eo WC (SS [pc]) B P tp .none tk [] n3)) (hP : P = (B.length : Int))
    (H1 : ∀ h' tk' nc' tx', Fr g L' h' (mRT nc' te lx) → News g L' h' (lexL a t v a' t' lx dx y dy q1 q2 q3 rest b eo WC (SS [pc]) B P tp .none (.str (Str.ofString "") tx') [] n3) → Q .next { s with heap := h', toks := tk' }) :
    TurnGoal w ((ktrTop dp un gd cn cs L ad ccd cl outer).deeper (rtEnv L')) L' Q R E s := by
  revert hX
  unfold TurnGoal
  k_fill
  intro hX
  k_steps
  all_goals dsimp only [PostR]
  exact H1 _ _ _ _ (fr_set (by k_asm)) (by first | k_asm | exact news_tail (by k_asm))
end
theorem ln_L5_z : True := by
  k_with_none
  trivial
/-! L6 -/
section
variable (w : World) (p : Program) (loose : List Str) (mean : ExcName → Option Value) (mg mb : Str → Option Value)
variable (a : Nat → Int) (t v : Nat → Tok) (a' : Nat → Int) (t' : Nat → Tok) (lx dx y dy q1 q2 q3 : Nat) (rest : List (Addr × Obj)) (b : Bool) (eo : Value) (WC B : Str) (pc : Nat) (te : Tok) (n3 : Int)
   (hB : B.length ≤ 100) (o1 : dx < lx) (o2 : lx < dy) (o3 : dy < y) (o4 : y < q1) (o5 : q1 < q2) (o6 : q2 < q3) (o7 : Apart rest dx dy q3)
   (dp un : Nat) (gd : Option (List Code)) (cn : Str) (cs : Scope) (ad : Addr) (ccd : Value) (cl : List (Str × Addr)) (outer : List Env) (base g : Heap) (L L' : Addr) (E : Value → Shared → Prop) (Q : Flow → Shared → Prop)
   (hBe : Below (ktrTop dp un gd cn cs L ad ccd cl outer) base (envX cn cs L ad ccd cl :: outer) g) (hX : (K2 w.params).In g) (hT : Top p loose mean mg mb g) (hdp : dp + 40 < recursionLimit) (hun : un + 320 < cLine)
   (hE : PassesOwn (model PySem.Challenge.rw_nb0270_01.row.prog w) ((ktrTop dp un gd cn cs L ad ccd cl outer).deeper (rtEnv L')) (rtEnv L') E)
   (hWC : ∀ c, 65 ≤ c → c ≤ 77 → decide (c ∈ WC.cps.toList) = decide (c ≠ pc))
include hB o1 o2 o3 o4 o5 o6 o7 hBe hX hT hdp hun hE hWC in
theorem loopA : ∀ (r : List Nat) (nc : Option Value) (P : Int) (tp : Tok) (X : Str) (tx ts : Tok) (s : Shared),
     Fr g L' s.heap (mRT nc te lx) → News g L' s.heap (lexL a t v a' t' lx dx y dy q1 q2 q3 rest b eo WC (SS [pc]) B P tp (.str "a" ts) (.str X tx) [] n3) → 0 ≤ P → P ≤ B.length → B.cps.toList.drop P.toNat = r → (∀ c ∈ r, 65 ≤ c ∧ c ≤ 77) → 0 < X.length → X.length + r.length ≤ 200 →
     ((∀ c ∈ r, c ≠ pc) → ∀ h' tk' nc' tp' tx', Fr g L' h' (mRT nc' te lx) → News g L' h' (lexL a t v a' t' lx dx y dy q1 q2 q3 rest b eo WC (SS [pc]) B B.length tp' .none (.str (X ++ SS r) tx') [] n3) → Q .next { s with heap := h', toks := tk' }) →
     (∀ u c r', r = u ++ c :: r' → (∀ c ∈ u, c ≠ pc) → c = pc → ∀ h' tk' nc' tp' tx' ts' tc, Fr g L' h' (mRT nc' te lx) → News g L' h' (lexL a t v a' t' lx dx y dy q1 q2 q3 rest b eo WC (SS [pc]) B (P + u.length + 1) tp' (.str " " ts') (.str (X ++ SS u) tx') [.str (SS [c]) tc] (n3 + 1)) → Q .next { s with heap := h', toks := tk' }) →
     WhlRest PySem.Challenge.rw_nb0270_01.row.prog w ((ktrTop dp un gd cn cs L ad ccd cl outer).deeper (rtEnv L')) E (rtEnv L') rtTest.1 rtLoop.1 [] Q 1 s := by
  intro r
  induction r with
  | nil =>
    intro nc P tp X tx ts s hF hN hP0 hP1 hr hlet hX0 hX1 H1 H2
    have hP' : P = (B.length : Int) := drop_nil hP0 hP1 hr
    refine whl_turnR hE (R := fun _ => False) (fun _ h => h.elim) (turnA_eof w p loose mean mg mb a t v a' t' lx dx y dy q1 q2 q3 rest b eo WC B pc te n3 hB o1 o2 o3 o4 o5 o6 o7 dp un gd cn cs ad ccd cl outer base g L L' E Q _ hBe hX hT hdp hun nc P tp X tx ts s hF hN hP' fun h' tk' nc' F' N' => ?_)
    subst hP'
    refine H1 (fun _ h => nomatch h) h' tk' nc' tp tx F' ?_
    rw [sapp_nil]
    exact N'
  | cons c r ih =>
    intro nc P tp X tx ts s hF hN hP0 hP1 hr hlet hX0 hX1 H1 H2
    obtain ⟨hP2, hr2, _⟩ := drop_facts hP0 hr
    have hC := slice_at hP0 hr
    obtain ⟨hc1, hc2⟩ := hlet c (.head _)
    have hw := hWC c hc1 hc2
    have hpp : decide (c ∈ (SS [pc]).cps.toList) = decide (c = pc) := by
      have : (SS [pc]).cps.toList = [pc] := rfl
      rw [this]
      simp
    simp only [List.length_cons] at hX1
    refine whl_turnR hE (R := WhlRest PySem.Challenge.rw_nb0270_01.row.prog w ((ktrTop dp un gd cn cs L ad ccd cl outer).deeper (rtEnv L')) E (rtEnv L') rtTest.1 rtLoop.1 [] Q 0) (fun _ h => h) (turnA_chr w p loose mean mg mb a t v a' t' lx dx y dy q1 q2 q3 rest b eo WC B pc te n3 hB o1 o2 o3 o4 o5 o6 o7 dp un gd cn cs ad ccd cl outer base g L L' E Q _ hBe hX hT hdp hun nc P tp X tx ts s hF hN c hP0 hP2 hC hc1 hc2 hw  hX0 (by omega) (fun hcp h' tk' nc' tp' tx' F' N' => ?_) (fun hcp h' tk' nc' tp' ts' tc F' N' => ?_))
    · refine ih nc' (P + 1) tp' (X ++ SS [c]) tx' ts { s with heap := h', toks := tk' } F' N' (by omega) hP2 hr2 (fun d hd => hlet d (.tail _ hd)) (by rw [sapp_len]; omega) (by rw [sapp_len]; omega) (fun hall h' tk' nc' tp' tx' F' N' => ?_) (fun u d r' e hu hd h' tk' nc' tp' tx' ts' tc F' N' => ?_)
      · refine H1 (fun d hd => ?_) h' tk' nc' tp' tx' F' ?_
        · rcases List.mem_cons.mp hd with rfl | hd
          · exact hcp
          · exact hall d hd
        · rw [sapp_assoc] at N'
          exact N'
      · refine H2 (c :: u) d r' (by rw [e]; rfl) (fun d' hd' => ?_) hd h' tk' nc' tp' tx' ts' tc F' ?_
        · rcases List.mem_cons.mp hd' with rfl | hd'
          · exact hcp
          · exact hu d' hd'
        · rw [sapp_assoc] at N'
          have e2 : P + ((c :: u).length : Nat) + 1 = P + 1 + (u.length : Nat) + 1 := by simp only [List.length_cons]; omega
          rw [e2]
          exact N'
    · refine H2 [] c r rfl (fun _ h => nomatch h) hcp h' tk' nc' tp' tx ts' tc F' ?_
      have e2 : P + (([] : List Nat).length : Nat) + 1 = P + 1 := by simp
      rw [e2, sapp_nil]
      exact N'
include hB o1 o2 o3 o4 o5 o6 o7 hBe hX hT hdp hun hE hWC in
theorem loopC : ∀ (r : List Nat) (nc : Option Value) (P : Int) (tp : Tok) (X : Str) (tx ts : Tok) (s : Shared),
     Fr g L' s.heap (mRT nc te lx) → News g L' s.heap (lexL a t v a' t' lx dx y dy q1 q2 q3 rest b eo WC (SS [pc]) B P tp (.str "c" ts) (.str X tx) [] n3) → 0 ≤ P → P ≤ B.length → B.cps.toList.drop P.toNat = r → (∀ c ∈ r, 65 ≤ c ∧ c ≤ 77) → 0 < X.length → X.length + r.length ≤ 200 →
     ((∀ c ∈ r, c = pc) → ∀ h' tk' nc' tp' tx', Fr g L' h' (mRT nc' te lx) → News g L' h' (lexL a t v a' t' lx dx y dy q1 q2 q3 rest b eo WC (SS [pc]) B B.length tp' .none (.str (X ++ SS r) tx') [] n3) → Q .next { s with heap := h', toks := tk' }) →
     (∀ u c r', r = u ++ c :: r' → (∀ c ∈ u, c = pc) → c ≠ pc → ∀ h' tk' nc' tp' tx' ts' tc, Fr g L' h' (mRT nc' te lx) → News g L' h' (lexL a t v a' t' lx dx y dy q1 q2 q3 rest b eo WC (SS [pc]) B (P + u.length + 1) tp' (.str " " ts') (.str (X ++ SS u) tx') [.str (SS [c]) tc] (n3 + 1)) → Q .next { s with heap := h', toks := tk' }) →
     WhlRest PySem.Challenge.rw_nb0270_01.row.prog w ((ktrTop dp un gd cn cs L ad ccd cl outer).deeper (rtEnv L')) E (rtEnv L') rtTest.1 rtLoop.1 [] Q 1 s := by
  intro r
  induction r with
  | nil =>
    intro nc P tp X tx ts s hF hN hP0 hP1 hr hlet hX0 hX1 H1 H2
    have hP' : P = (B.length : Int) := drop_nil hP0 hP1 hr
    refine whl_turnR hE (R := fun _ => False) (fun _ h => h.elim) (turnC_eof w p loose mean mg mb a t v a' t' lx dx y dy q1 q2 q3 rest b eo WC B pc te n3 hB o1 o2 o3 o4 o5 o6 o7 dp un gd cn cs ad ccd cl outer base g L L' E Q _ hBe hX hT hdp hun nc P tp X tx ts s hF hN hP' fun h' tk' nc' F' N' => ?_)
    subst hP'
    refine H1 (fun _ h => nomatch h) h' tk' nc' tp tx F' ?_
    rw [sapp_nil]
    exact N'
  | cons c r ih =>
    intro nc P tp X tx ts s hF hN hP0 hP1 hr hlet hX0 hX1 H1 H2
    obtain ⟨hP2, hr2, _⟩ := drop_facts hP0 hr
    have hC := slice_at hP0 hr
    obtain ⟨hc1, hc2⟩ := hlet c (.head _)
    have hw := hWC c hc1 hc2
    have hpp : decide (c ∈ (SS [pc]).cps.toList) = decide (c = pc) := by
      have : (SS [pc]).cps.toList = [pc] := rfl
      rw [this]
      simp
    simp only [List.length_cons] at hX1
    refine whl_turnR hE (R := WhlRest PySem.Challenge.rw_nb0270_01.row.prog w ((ktrTop dp un gd cn cs L ad ccd cl outer).deeper (rtEnv L')) E (rtEnv L') rtTest.1 rtLoop.1 [] Q 0) (fun _ h => h) (turnC_chr w p loose mean mg mb a t v a' t' lx dx y dy q1 q2 q3 rest b eo WC B pc te n3 hB o1 o2 o3 o4 o5 o6 o7 dp un gd cn cs ad ccd cl outer base g L L' E Q _ hBe hX hT hdp hun nc P tp X tx ts s hF hN c hP0 hP2 hC hc1 hc2 hw hpp hX0 (by omega) (fun hcp h' tk' nc' tp' tx' F' N' => ?_) (fun hcp h' tk' nc' tp' ts' tc F' N' => ?_))
    · refine ih nc' (P + 1) tp' (X ++ SS [c]) tx' ts { s with heap := h', toks := tk' } F' N' (by omega) hP2 hr2 (fun d hd => hlet d (.tail _ hd)) (by rw [sapp_len]; omega) (by rw [sapp_len]; omega) (fun hall h' tk' nc' tp' tx' F' N' => ?_) (fun u d r' e hu hd h' tk' nc' tp' tx' ts' tc F' N' => ?_)
      · refine H1 (fun d hd => ?_) h' tk' nc' tp' tx' F' ?_
        · rcases List.mem_cons.mp hd with rfl | hd
          · exact hcp
          · exact hall d hd
        · rw [sapp_assoc] at N'
          exact N'
      · refine H2 (c :: u) d r' (by rw [e]; rfl) (fun d' hd' => ?_) hd h' tk' nc' tp' tx' ts' tc F' ?_
        · rcases List.mem_cons.mp hd' with rfl | hd'
          · exact hcp
          · exact hu d' hd'
        · rw [sapp_assoc] at N'
          have e2 : P + ((c :: u).length : Nat) + 1 = P + 1 + (u.length : Nat) + 1 := by simp only [List.length_cons]; omega
          rw [e2]
          exact N'
    · refine H2 [] c r rfl (fun _ h => nomatch h) hcp h' tk' nc' tp' tx ts' tc F' ?_
      have e2 : P + (([] : List Nat).length : Nat) + 1 = P + 1 := by simp
      rw [e2, sapp_nil]
      exact N'
end
/-! L7 -/
def Out (pc : Nat) (B : Str) (n : Int) (c : Nat) (r : List Nat) (P : Int) (u : List Nat) (P' : Int) (st' : Value) (pb' : List Value) (n' : Int) : Prop :=
  ((∀ d ∈ r, (d = pc ↔ c = pc)) ∧ u = r ∧ P' = B.length ∧ st' = .none ∧ pb' = [] ∧ n' = n) ∨
  (∃ d r' ts tc, r = u ++ d :: r' ∧ (∀ e ∈ u, (e = pc ↔ c = pc)) ∧ ¬ (d = pc ↔ c = pc) ∧ P' = P + u.length + 1 ∧ st' = .str " " ts ∧ pb' = [.str (SS [d]) tc] ∧ n' = n + 1)
section
variable (w : World) (p : Program) (loose : List Str) (mean : ExcName → Option Value) (mg mb : Str → Option Value)
variable (a : Nat → Int) (t v : Nat → Tok) (a' : Nat → Int) (t' : Nat → Tok) (lx dx y dy q1 q2 q3 : Nat) (rest : List (Addr × Obj)) (b : Bool) (eo : Value) (WC B : Str) (pc : Nat) (te : Tok) (n3 : Int)
   (hB : B.length ≤ 100) (o1 : dx < lx) (o2 : lx < dy) (o3 : dy < y) (o4 : y < q1) (o5 : q1 < q2) (o6 : q2 < q3) (o7 : Apart rest dx dy q3)
   (dp un : Nat) (gd : Option (List Code)) (cn : Str) (cs : Scope) (ad : Addr) (ccd : Value) (cl : List (Str × Addr)) (outer : List Env) (base g : Heap) (L L' : Addr) (E : Value → Shared → Prop) (Q : Flow → Shared → Prop)
   (hBe : Below (ktrTop dp un gd cn cs L ad ccd cl outer) base (envX cn cs L ad ccd cl :: outer) g) (hX : (K2 w.params).In g) (hT : Top p loose mean mg mb g) (hdp : dp + 40 < recursionLimit) (hun : un + 320 < cLine)
   (hE : PassesOwn (model PySem.Challenge.rw_nb0270_01.row.prog w) ((ktrTop dp un gd cn cs L ad ccd cl outer).deeper (rtEnv L')) (rtEnv L') E)
   (hWC : ∀ c, 65 ≤ c → c ≤ 77 → decide (c ∈ WC.cps.toList) = decide (c ≠ pc))
include hB o1 o2 o3 o4 o5 o6 o7 hBe hX hT hdp hun hE hWC in
theorem rtloop_pb (nc : Option Value) (P : Int) (tp : Tok) (tk : Value) (ts tc : Tok) (c : Nat) (r : List Nat) (s : Shared) (hF : Fr g L' s.heap (mRT nc te lx)) (hN : News g L' s.heap (lexL a t v a' t' lx dx y dy q1 q2 q3 rest b eo WC (SS [pc]) B P tp (.str " " ts) tk [.str (SS [c]) tc] n3))
    (hQ0 : 0 ≤ P) (hQ1 : P ≤ B.length) (hr' : B.cps.toList.drop P.toNat = r) (hlet : ∀ d ∈ c :: r, 65 ≤ d ∧ d ≤ 77) (hl : r.length ≤ 100)
    (Htail : ∀ h' tk' nc' u P' tp' st' tz pb' n', Out pc B (n3 + 1) c r P u P' st' pb' n' → Fr g L' h' (mRT nc' te lx) → News g L' h' (lexL a t v a' t' lx dx y dy q1 q2 q3 rest b eo WC (SS [pc]) B P' tp' st' (.str (SS [c] ++ SS u) tz) pb' n') → Q .next { s with heap := h', toks := tk' }) :
    WhlRest PySem.Challenge.rw_nb0270_01.row.prog w ((ktrTop dp un gd cn cs L ad ccd cl outer).deeper (rtEnv L')) E (rtEnv L') rtTest.1 rtLoop.1 [] Q 1 s := by
  obtain ⟨hc1, hc2⟩ := hlet c (.head _)
  have hw := hWC c hc1 hc2
  have hpp : decide (c ∈ (SS [pc]).cps.toList) = decide (c = pc) := by
    have : (SS [pc]).cps.toList = [pc] := rfl
    rw [this]
    simp
  refine whl_turnR hE (fun _ h => h) (turnS_pb w p loose mean mg mb a t v a' t' lx dx y dy q1 q2 q3 rest b eo WC B pc te n3 hB o1 o2 o3 o4 o5 o6 o7 dp un gd cn cs ad ccd cl outer base g L L' E Q _ hBe hX hT hdp hun nc P tp tk ts tc c s hF hN hc1 hc2 hw hpp (fun hcp h' tk' nc' tx' ts' F' N' => ?_) (fun hcp h' tk' nc' tx' ts' F' N' => ?_))
  · refine loopA w p loose mean mg mb a t v a' t' lx dx y dy q1 q2 q3 rest b eo WC B pc te (n3 + 1) hB o1 o2 o3 o4 o5 o6 o7 dp un gd cn cs ad ccd cl outer base g L L' E Q hBe hX hT hdp hun hE hWC r nc' P tp (SS [c]) tx' ts' { s with heap := h', toks := tk' } F' N' hQ0 hQ1 hr' (fun d hd => hlet d (.tail _ hd)) Nat.zero_lt_one (by show 1 + r.length ≤ 200; omega) (fun hall h' tk' nc' tp' tx' F' N' => Htail h' tk' nc' r _ tp' _ tx' _ _ (.inl ⟨fun d hd => ⟨fun e => absurd e (hall d hd), fun e => absurd e hcp⟩, rfl, rfl, rfl, rfl, rfl⟩) F' N') (fun u d r' e hu hd h' tk' nc' tp' tx' ts' tc F' N' => Htail h' tk' nc' u _ tp' _ tx' _ _ (.inr ⟨d, r', ts', tc, e, fun d' hd' => ⟨fun e => absurd e (hu d' hd'), fun e => absurd e hcp⟩, fun q => hcp (q.mp hd), rfl, rfl, rfl, rfl⟩) F' N')
  · refine loopC w p loose mean mg mb a t v a' t' lx dx y dy q1 q2 q3 rest b eo WC B pc te (n3 + 1) hB o1 o2 o3 o4 o5 o6 o7 dp un gd cn cs ad ccd cl outer base g L L' E Q hBe hX hT hdp hun hE hWC r nc' P tp (SS [c]) tx' ts' { s with heap := h', toks := tk' } F' N' hQ0 hQ1 hr' (fun d hd => hlet d (.tail _ hd)) Nat.zero_lt_one (by show 1 + r.length ≤ 200; omega) (fun hall h' tk' nc' tp' tx' F' N' => Htail h' tk' nc' r _ tp' _ tx' _ _ (.inl ⟨fun d hd => ⟨fun _ => hcp, fun _ => hall d hd⟩, rfl, rfl, rfl, rfl, rfl⟩) F' N') (fun u d r' e hu hd h' tk' nc' tp' tx' ts' tc F' N' => Htail h' tk' nc' u _ tp' _ tx' _ _ (.inr ⟨d, r', ts', tc, e, fun d' hd' => ⟨fun _ => hcp, fun _ => hu d' hd'⟩, fun q => hd (q.mpr hcp), rfl, rfl, rfl, rfl⟩) F' N')
include hB o1 o2 o3 o4 o5 o6 o7 hBe hX hT hdp hun hE hWC in
theorem rtloop_st (nc : Option Value) (P : Int) (tp : Tok) (tk : Value) (ts : Tok) (c : Nat) (r : List Nat) (s : Shared) (hF : Fr g L' s.heap (mRT nc te lx)) (hN : News g L' s.heap (lexL a t v a' t' lx dx y dy q1 q2 q3 rest b eo WC (SS [pc]) B P tp (.str " " ts) tk [] n3))
    (hP0 : 0 ≤ P) (hr : B.cps.toList.drop P.toNat = c :: r) (hlet : ∀ d ∈ c :: r, 65 ≤ d ∧ d ≤ 77) (hl : r.length ≤ 100)
    (Htail : ∀ h' tk' nc' u P' tp' st' tz pb' n', Out pc B n3 c r (P + 1) u P' st' pb' n' → Fr g L' h' (mRT nc' te lx) → News g L' h' (lexL a t v a' t' lx dx y dy q1 q2 q3 rest b eo WC (SS [pc]) B P' tp' st' (.str (SS [c] ++ SS u) tz) pb' n') → Q .next { s with heap := h', toks := tk' }) :
    WhlRest PySem.Challenge.rw_nb0270_01.row.prog w ((ktrTop dp un gd cn cs L ad ccd cl outer).deeper (rtEnv L')) E (rtEnv L') rtTest.1 rtLoop.1 [] Q 1 s := by
  obtain ⟨hc1, hc2⟩ := hlet c (.head _)
  have hw := hWC c hc1 hc2
  have hpp : decide (c ∈ (SS [pc]).cps.toList) = decide (c = pc) := by
    have : (SS [pc]).cps.toList = [pc] := rfl
    rw [this]
    simp
  obtain ⟨hP2, hr', _⟩ := drop_facts hP0 hr
  have hC := slice_at hP0 hr
  have hQ0 : 0 ≤ P + 1 := by omega
  have hQ1 := hP2
  refine whl_turnR hE (fun _ h => h) (turnS_chr w p loose mean mg mb a t v a' t' lx dx y dy q1 q2 q3 rest b eo WC B pc te n3 hB o1 o2 o3 o4 o5 o6 o7 dp un gd cn cs ad ccd cl outer base g L L' E Q _ hBe hX hT hdp hun nc P tp tk ts s hF hN c hP0 hP2 hC hc1 hc2 hw hpp (fun hcp h' tk' nc' tp' tx' ts' F' N' => ?_) (fun hcp h' tk' nc' tp' tx' ts' F' N' => ?_))
  · refine loopA w p loose mean mg mb a t v a' t' lx dx y dy q1 q2 q3 rest b eo WC B pc te n3 hB o1 o2 o3 o4 o5 o6 o7 dp un gd cn cs ad ccd cl outer base g L L' E Q hBe hX hT hdp hun hE hWC r nc' (P + 1) tp' (SS [c]) tx' ts' { s with heap := h', toks := tk' } F' N' hQ0 hQ1 hr' (fun d hd => hlet d (.tail _ hd)) Nat.zero_lt_one (by show 1 + r.length ≤ 200; omega) (fun hall h' tk' nc' tp' tx' F' N' => Htail h' tk' nc' r _ tp' _ tx' _ _ (.inl ⟨fun d hd => ⟨fun e => absurd e (hall d hd), fun e => absurd e hcp⟩, rfl, rfl, rfl, rfl, rfl⟩) F' N') (fun u d r' e hu hd h' tk' nc' tp' tx' ts' tc F' N' => Htail h' tk' nc' u _ tp' _ tx' _ _ (.inr ⟨d, r', ts', tc, e, fun d' hd' => ⟨fun e => absurd e (hu d' hd'), fun e => absurd e hcp⟩, fun q => hcp (q.mp hd), rfl, rfl, rfl, rfl⟩) F' N')
  · refine loopC w p loose mean mg mb a t v a' t' lx dx y dy q1 q2 q3 rest b eo WC B pc te n3 hB o1 o2 o3 o4 o5 o6 o7 dp un gd cn cs ad ccd cl outer base g L L' E Q hBe hX hT hdp hun hE hWC r nc' (P + 1) tp' (SS [c]) tx' ts' { s with heap := h', toks := tk' } F' N' hQ0 hQ1 hr' (fun d hd => hlet d (.tail _ hd)) Nat.zero_lt_one (by show 1 + r.length ≤ 200; omega) (fun hall h' tk' nc' tp' tx' F' N' => Htail h' tk' nc' r _ tp' _ tx' _ _ (.inl ⟨fun d hd => ⟨fun _ => hcp, fun _ => hall d hd⟩, rfl, rfl, rfl, rfl, rfl⟩) F' N') (fun u d r' e hu hd h' tk' nc' tp' tx' ts' tc F' N' => Htail h' tk' nc' u _ tp' _ tx' _ _ (.inr ⟨d, r', ts', tc, e, fun d' hd' => ⟨fun _ => hcp, fun _ => hu d' hd'⟩, fun q => hd (q.mpr hcp), rfl, rfl, rfl, rfl⟩) F' N')
end
/-! RT -/
abbrev CtxN (d u : Nat) (w : World) (p : Program) (loose : List Str) (mean : ExcName → Option Value) (mg mb : Str → Option Value) (f : Addr) (vs : List Value) (own : List (Addr × Obj)) (post : (Value → Shared → Prop) → Heap → Addr → (Str → Option Value) → Shared → Prop) : Prop :=
  ∀ (dp un : Nat) (gd : Option (List Code)) (cn : Str) (cs : Scope) (a : Addr) (ccd : Value) (cl : List (Str × Addr)) (outer : List Env) (A₀ : Around) (base h₀ : Heap) (L : Addr) (m : Str → Option Value) (s : Shared) (Q E : Value → Shared → Prop),
    Below A₀ base outer h₀ → Fr h₀ L s.heap m → (K2 w.params).In h₀ → News h₀ L s.heap own → Top p loose mean mg mb h₀ → cs.kind = .function →
    dp + d < recursionLimit → un + u < cLine → post Q h₀ L m s →
    wpAny (model PySem.Challenge.rw_nb0270_01.row.prog w) (ktrTop dp un gd cn cs L a ccd cl outer) (call (.ref f) vs) Q E s
def MyLoop (P : Prop) : Prop := P
theorem my_start {prog : Program} {w : World} {A : Around} {E : Value → Shared → Prop} {s : Shared} {env : Env} {test : PySem.Expr} {body orelse : List Stmt} {Q : Flow → Shared → Prop} {pos : Pos} (h : MyLoop (WhlRest prog w A E env test body orelse Q 1 s)) : wpAny (model prog w) A (exec (.While test body orelse pos) env) Q E s := whl_start 1 h
theorem fr_start {g h : Heap} {L : Addr} {te : Tok} {lx : Addr} {l : List (Str × Value)} (F : Fr g L h (fun y => if y = (Str.ofString "escapedstate") then some (.str " " te) else if y = (Str.ofString "quoted") then some (.bool false) else List.lookup y l)) (e : l = [(("self" : Str), Value.ref lx)]) : Fr g L h (mRT none te lx) := by
  subst e
  have q : (fun y => if y = (Str.ofString "escapedstate") then some (.str " " te) else if y = (Str.ofString "quoted") then some (.bool false) else List.lookup y [(("self" : Str), Value.ref lx)]) = mRT none te lx := by
    funext y
    unfold mRT
    by_cases h : y = Str.ofString "nextchar"
    · subst h
      rw [if_pos rfl, if_neg (by decide +kernel), if_neg (by decide +kernel)]
      rfl
    · rw [if_neg h]
  rw [← q]
  exact F
theorem ne_empty {Z : Str} (h : 0 < Z.length) : (Z == Str.ofString "") = false := by
  refine beq_eq_false_iff_ne.mpr fun e => ?_
  rw [e] at h
  exact absurd h (by decide +kernel)
theorem ln_RT_1 : True := by
  k_with_none
  k_with "truthy ref" => (k_here; first | (refine' deq_truthy_nil ?l ?_; (case l => exact News.get (by k_asm) (by k_mem))) | (refine' deq_truthy_one ?l ?_; (case l => exact News.get (by k_asm) (by k_mem))))
  k_with "truthy str" => ((with_reducible show wpAny _ _ (truthy (Value.str (SS [_]) _)) _ _ _); refine truthy_chr ?_; intro tk9)
  k_with "truthy str" => (refine truthy_pos (by assumption) (by omega) ?_; intro tk9)
  k_with "compareOp In str str" => ((with_reducible show wpAny _ _ (compareOp _ (Value.str (Str.ofString _) _) (Value.str (Str.ofString _) _)) _ _ _); first | refine in_lit (b := false) (by decide +kernel) ?_ | refine in_lit (b := true) (by decide +kernel) ?_)
  k_with "compareOp NotIn str str" => ((with_reducible show wpAny _ _ (compareOp _ (Value.str (SS [_]) _) _) _ _ _); refine notin_chr (b := false) (notin_lit (by decide +kernel) (by assumption) (by assumption)) ?_)
  k_with "compareOp Eq str str" => ((with_reducible show wpAny _ _ (compareOp _ (Value.str (Str.ofString _) _) (Value.str (Str.ofString _) _)) _ _ _); first | refine eq_lit (b := false) (by decide +kernel) ?_ | refine eq_lit (b := true) (by decide +kernel) ?_)
  k_with "compareOp In str str" => ((with_reducible show wpAny _ _ (compareOp _ (Value.str (SS [_]) _) _) _ _ _); first | refine in_chr (b := false) (notin_lit (by decide +kernel) (by assumption) (by assumption)) ?_ | refine in_chr (by assumption) ?_)
  k_with "compareOp Eq str str" => ((with_reducible show wpAny _ _ (compareOp _ (Value.str (SS [_]) _) _) _ _ _); refine eq_chr (b := false) (chr_ne_lit (by decide +kernel) (by assumption) (by assumption)) ?_)
  k_with "inplaceOp Add str str" => ((with_reducible show wpAny _ _ (inplaceOp _ (Value.str _ _) (Value.str (SS [_]) _)) _ _ _); refine PyProof.Rows.iadd_str ?_ (iadd_sz (by omega)); intro t11 tk11)
  k_with "getMethod ref" => (k_here; (with_reducible show wpAny _ _ (getMethod (Value.ref _) (PySem.Str.ofString "append") _) _ _ _); k_dflt (refine' deq_method ?N ?m deq_slot_append deq_type_append ?_; (case N => k_asm); (case m => k_mem)))
  k_with "getMethod ref" => (k_here; (with_reducible show wpAny _ _ (getMethod (Value.ref _) (PySem.Str.ofString "pop") _) _ _ _); k_dflt (refine' deq_method ?N ?m deq_slot_pop deq_type_pop ?_; (case N => k_asm); (case m => k_mem)))
  k_with "call builtin:collections.deque.pop" => (k_here; k_dflt (refine' deq_pop (xs := []) ?F ?N ?U ?z ?_; (case F => k_asm); (case N => k_asm); (case U => k_upd); (case z => decide)); intro h' F' N')
  k_with "call builtin:collections.deque.append" => (k_here; k_dflt (refine' deq_append ?F ?N ?U ?z ?_; (case F => k_asm); (case N => k_asm); (case U => k_upd); (case z => decide)); intro h' F' N')
  k_with "call ref" => ((with_reducible show wpAny _ _ (call (Value.ref 540) [Value.ref _, Value.int 1 _]) _ _ _); k_dflt (refine' readL_eof _ _ _ _ _ _ _ _ _ _ _ _ _ _ _ _ _ _ _ _ _ _ _ _ _ _ _ _ _ _ _ ?hP ?hB ?hy _ _ _ _ _ _ _ _ _ _ _ _ _ _ _ _ _ ?k1 ?k2 ?k3 ?k4 ?k5 ?kK ?kd ?ku ?_; (case k4 => k_asm); (case hP => assumption); (case hB => assumption); (case hy => assumption); (case k1 => k_asm); (case k2 => k_asm); (case k3 => k_asm); (case k5 => k_asm); (case kK => first | exact rfl | assumption); (case kd => ktr_room); (case ku => ktr_units)); intro h9 tk9 t9 F9 N9)
  k_with "call ref" => ((with_reducible show wpAny _ _ (call (Value.ref 540) [Value.ref _, Value.int 1 _]) _ _ _); k_dflt (refine' readL_chr _ _ _ _ _ _ _ _ _ _ _ _ _ _ _ _ _ _ _ _ _ _ _ _ _ _ _ _ _ _ _ ?hP ?hP2 ?hB ?o1 ?o2 ?o3 ?o4 ?o5 ?o6 ?o7 _ ?hC _ _ _ _ _ _ _ _ _ _ _ _ _ _ _ _ _ ?k1 ?k2 ?k3 ?k4 ?k5 ?kK ?kd ?ku ?_; (case k4 => k_asm); (case hP => assumption); (case hP2 => assumption); (case hB => assumption); (case o1 => assumption); (case o2 => assumption); (case o3 => assumption); (case o4 => assumption); (case o5 => assumption); (case o6 => assumption); (case o7 => assumption); (case hC => assumption); (case k1 => k_asm); (case k2 => k_asm); (case k3 => k_asm); (case k5 => k_asm); (case kK => first | exact rfl | assumption); (case kd => ktr_room); (case ku => ktr_units)); intro h9 tk9 t9 t10 F9 N9)
  k_with "enterM" => (refine wpAny_call ?_; refine' code_def ?k1 ?k2 ?k3 ?k4 ?k5 ?kA ?kF ?kK ?k6 ?k7 ?k8 ?k9 ?kB ?_ ?c2 ?c3 ?c4 ?c5; (case kA => exact rfl); (case kF => exact rfl); (case kK => assumption); (case k1 => k_asm); (case k2 => k_asm); (case k3 => k_asm); (case k4 => k_asm); (case k5 => k_asm); (case k6 => k_is); (case k7 => k_is); (case k8 => ktr_room); (case k9 => first | exact BindsTo.of_eq rfl | exact binds_K (by k_in) rfl (by k_is) rfl rfl rfl); (case c5 => decide); (case kB => exact locs rfl); (case c2 => exact rfl); (case c3 => exact rfl); (case c4 => exact rfl); k_whole; intro g' L' h' FG' F' N' B' X' T'; (try dsimp only); (try k_lift B'); (try k_fold))
  k_with "exec While" => (refine my_start ?_)
  k_with "compareOp Eq str str" => (refine eq_lit (b := false) (ne_empty (by assumption)) ?_)
  trivial
section
variable (w : World) (p : Program) (loose : List Str) (mean : ExcName → Option Value) (mg mb : Str → Option Value)
variable (a : Nat → Int) (t v : Nat → Tok) (a' : Nat → Int) (t' : Nat → Tok) (lx dx y dy q1 q2 q3 : Nat) (rest : List (Addr × Obj)) (b : Bool) (eo : Value) (WC B : Str) (pc : Nat) (n3 : Int)
   (hB : B.length ≤ 100) (o1 : dx < lx) (o2 : lx < dy) (o3 : dy < y) (o4 : y < q1) (o5 : q1 < q2) (o6 : q2 < q3) (o7 : Apart rest dx dy q3) (hWC : ∀ c, 65 ≤ c → c ≤ 77 → decide (c ∈ WC.cps.toList) = decide (c ≠ pc))
set_option maxHeartbeats 1000000 in
include hB o1 o2 o3 o4 o5 o6 o7 hWC in
theorem rt_pb (P : Int) (tp : Tok) (ts tc tx : Tok) (c : Nat) (r : List Nat) (hP0 : 0 ≤ P) (hP1 : P ≤ B.length) (hr : B.cps.toList.drop P.toNat = r) (hlet : ∀ d ∈ c :: r, 65 ≤ d ∧ d ≤ 77) (hl : r.length ≤ 100) :
  CtxN 60 480 w p loose mean mg mb 697 [.ref lx] (lexL a t v a' t' lx dx y dy q1 q2 q3 rest b eo WC (SS [pc]) B P tp (.str " " ts) (.str (Str.ofString "") tx) [.str (SS [c]) tc] n3) fun Q h₀ L m s =>
    ∀ h' tk' u P' tp' st' tx' pb' n' t8, Out pc B (n3 + 1) c r P u P' st' pb' n' → Fr h₀ L h' m → News h₀ L h' (lexL a t v a' t' lx dx y dy q1 q2 q3 rest b eo WC (SS [pc]) B P' tp' st' (.str (Str.ofString "") tx') pb' n') → Q (.str (SS [c] ++ SS u) t8) { s with heap := h', toks := tk' } := by
  unfold CtxN
  k_fill
  intros
  rename_i hret
  k_dflt (walk_at "enterM")
  k_steps
  unfold MyLoop
  refine' rtloop_pb w p loose mean mg mb a t v a' t' lx dx y dy q1 q2 q3 rest b eo WC B pc _ n3 hB o1 o2 o3 o4 o5 o6 o7 _ _ _ _ _ _ _ _ _ _ _ _ _ _ _ ?b1 ?b2 ?b3 ?b4 ?b5 ?hE hWC none P tp _ ts tc c r _ (fr_start ?f ?fe) ?n hP0 hP1 hr hlet hl ?tail
  case b1 => k_asm
  case b2 => k_asm
  case b3 => k_asm
  case f => k_asm
  case fe => rfl
  case n => k_asm
  case b4 => omega
  case b5 => omega
  case hE => first | passes_own | with_unfolding_all passes_own
  case tail =>
    intro h' tk' nc' u P' tp' st' tz pb' n' ho F' N'
    have hz : 0 < (SS [c] ++ SS u).length := by rw [Str.length_append]; show 0 < 1 + _; omega
    k_steps
    all_goals exact hret _ _ _ _ _ _ _ _ _ _ ho (by k_asm) (by k_asm)
set_option maxHeartbeats 1000000 in
include hB o1 o2 o3 o4 o5 o6 o7 hWC in
theorem rt_st (P : Int) (tp : Tok) (ts tx : Tok) (c : Nat) (r : List Nat) (hP0 : 0 ≤ P) (hr : B.cps.toList.drop P.toNat = c :: r) (hlet : ∀ d ∈ c :: r, 65 ≤ d ∧ d ≤ 77) (hl : r.length ≤ 100) :
  CtxN 60 480 w p loose mean mg mb 697 [.ref lx] (lexL a t v a' t' lx dx y dy q1 q2 q3 rest b eo WC (SS [pc]) B P tp (.str " " ts) (.str (Str.ofString "") tx) [] n3) fun Q h₀ L m s =>
    ∀ h' tk' u P' tp' st' tx' pb' n' t8, Out pc B n3 c r (P + 1) u P' st' pb' n' → Fr h₀ L h' m → News h₀ L h' (lexL a t v a' t' lx dx y dy q1 q2 q3 rest b eo WC (SS [pc]) B P' tp' st' (.str (Str.ofString "") tx') pb' n') → Q (.str (SS [c] ++ SS u) t8) { s with heap := h', toks := tk' } := by
  unfold CtxN
  k_fill
  intros
  rename_i hret
  k_dflt (walk_at "enterM")
  k_steps
  unfold MyLoop
  refine' rtloop_st w p loose mean mg mb a t v a' t' lx dx y dy q1 q2 q3 rest b eo WC B pc _ n3 hB o1 o2 o3 o4 o5 o6 o7 _ _ _ _ _ _ _ _ _ _ _ _ _ _ _ ?b1 ?b2 ?b3 ?b4 ?b5 ?hE hWC none P tp _ ts c r _ (fr_start ?f ?fe) ?n hP0 hr hlet hl ?tail
  case b1 => k_asm
  case b2 => k_asm
  case b3 => k_asm
  case f => k_asm
  case fe => rfl
  case n => k_asm
  case b4 => omega
  case b5 => omega
  case hE => first | passes_own | with_unfolding_all passes_own
  case tail =>
    intro h' tk' nc' u P' tp' st' tz pb' n' ho F' N'
    have hz : 0 < (SS [c] ++ SS u).length := by rw [Str.length_append]; show 0 < 1 + _; omega
    k_steps
    all_goals exact hret _ _ _ _ _ _ _ _ _ _ ho (by k_asm) (by k_asm)
set_option maxHeartbeats 1000000 in
include hB o1 o2 o3 o4 o5 o6 o7 in
theorem rt_eof (P : Int) (tp : Tok) (ts tx : Tok) (hP : P = (B.length : Int)) :
  CtxN 60 480 w p loose mean mg mb 697 [.ref lx] (lexL a t v a' t' lx dx y dy q1 q2 q3 rest b eo WC (SS [pc]) B P tp (.str " " ts) (.str (Str.ofString "") tx) [] n3) fun Q h₀ L m s =>
    ∀ h' tk' tx' t8, Fr h₀ L h' m → News h₀ L h' (lexL a t v a' t' lx dx y dy q1 q2 q3 rest b eo WC (SS [pc]) B P tp .none (.str (Str.ofString "") tx') [] n3) → Q (if b = true then .none else .str (Str.ofString "") t8) { s with heap := h', toks := tk' } := by
  cases b
  all_goals (
    unfold CtxN
    k_fill
    intros
    rename_i hret
    k_dflt (walk_at "enterM")
    k_steps
    unfold MyLoop)
  all_goals (refine' whl_turnR ?hE (R := fun _ => False) (fun _ h => h.elim) (turnS_eof w p loose mean mg mb a t v a' t' lx dx y dy q1 q2 q3 rest _ eo WC B pc _ n3 hB o1 o2 o3 o4 o5 o6 o7 _ _ _ _ _ _ _ _ _ _ _ _ _ _ _ _ ?b1 ?b2 ?b3 ?b4 ?b5 none P tp _ ts _ (fr_start ?f ?fe) ?n hP ?tail); (case b1 => k_asm); (case b2 => k_asm); (case b3 => k_asm); (case f => k_asm); (case fe => rfl); (case n => k_asm); (case b4 => omega); (case b5 => omega); (case hE => first | passes_own | with_unfolding_all passes_own); (case tail => intro h' tk' nc' F' N'; k_steps; first | exact hret _ _ _ 0 (by k_asm) (by k_asm) | exact hret _ _ _ _ (by k_asm) (by k_asm)))
set_option maxHeartbeats 1000000 in
include hB o1 o2 o3 o4 o5 o6 o7 in
theorem rt_none (P : Int) (tp : Tok) (tx : Tok) (hP : P = (B.length : Int)) :
  CtxN 60 480 w p loose mean mg mb 697 [.ref lx] (lexL a t v a' t' lx dx y dy q1 q2 q3 rest b eo WC (SS [pc]) B P tp .none (.str (Str.ofString "") tx) [] n3) fun Q h₀ L m s =>
    ∀ h' tk' tx' t8, Fr h₀ L h' m → News h₀ L h' (lexL a t v a' t' lx dx y dy q1 q2 q3 rest b eo WC (SS [pc]) B P tp .none (.str (Str.ofString "") tx') [] n3) → Q (if b = true then .none else .str (Str.ofString "") t8) { s with heap := h', toks := tk' } := by
  cases b
  all_goals (
    unfold CtxN
    k_fill
    intros
    rename_i hret
    k_dflt (walk_at "enterM")
    k_steps
    unfold MyLoop)
  all_goals (refine' whl_turnR ?hE (R := fun _ => False) (fun _ h => h.elim) (turnN w p loose mean mg mb a t v a' t' lx dx y dy q1 q2 q3 rest _ eo WC B pc _ n3 hB o1 o2 o3 o4 o5 o6 o7 _ _ _ _ _ _ _ _ _ _ _ _ _ _ _ _ ?b1 ?b2 ?b3 ?b4 ?b5 none P tp _ _ (fr_start ?f ?fe) ?n hP ?tail); (case b1 => k_asm); (case b2 => k_asm); (case b3 => k_asm); (case f => k_asm); (case fe => rfl); (case n => k_asm); (case b4 => omega); (case b5 => omega); (case hE => first | passes_own | with_unfolding_all passes_own); (case tail => intro h' tk' nc' tx9 F' N'; k_steps; first | exact hret _ _ _ 0 (by k_asm) (by k_asm) | exact hret _ _ _ _ (by k_asm) (by k_asm)))
end
theorem ln_RT_z : True := by
  k_with_none
  trivial
/-! G1 -/
/-- the lexer's state: what is still to come -/
inductive LS (B : Str) : Int → Value → List Value → List Nat → Prop where
  | pb {P : Int} {ts tc : Tok} {c : Nat} {r : List Nat} : 0 ≤ P → P ≤ B.length → B.cps.toList.drop P.toNat = r → LS B P (.str " " ts) [.str (SS [c]) tc] (c :: r)
  | st {P : Int} {ts : Tok} {r : List Nat} : 0 ≤ P → P ≤ B.length → B.cps.toList.drop P.toNat = r → LS B P (.str " " ts) [] r
  | done {P : Int} : P = B.length → LS B P .none [] []
def same (pc c d : Nat) : Bool := (d == pc) == (c == pc)
def tokU (pc c : Nat) (r : List Nat) : List Nat := r.takeWhile (same pc c)
def restU (pc c : Nat) (r : List Nat) : List Nat := r.dropWhile (same pc c)
theorem same_iff {pc c d : Nat} : same pc c d = true ↔ (d = pc ↔ c = pc) := by
  show (decide (d = pc) == decide (c = pc)) = true ↔ _
  by_cases h1 : d = pc <;> by_cases h2 : c = pc <;> simp [h1, h2]
theorem take_all {p : Nat → Bool} : ∀ {l : List Nat}, (∀ d ∈ l, p d = true) → l.takeWhile p = l ∧ l.dropWhile p = []
  | [], _ => ⟨rfl, rfl⟩
  | d :: l, h => by
    obtain ⟨a, b⟩ := take_all (l := l) fun e he => h e (.tail _ he)
    have hd := h d (.head _)
    simp [List.takeWhile_cons, List.dropWhile_cons, hd, a, b]
theorem take_to {p : Nat → Bool} {d : Nat} {r : List Nat} (hd : p d = false) : ∀ {u : List Nat}, (∀ e ∈ u, p e = true) → (u ++ d :: r).takeWhile p = u ∧ (u ++ d :: r).dropWhile p = d :: r
  | [], _ => by simp [List.takeWhile_cons, List.dropWhile_cons, hd]
  | e :: u, h => by
    obtain ⟨a, b⟩ := take_to (r := r) hd (u := u) fun e' he => h e' (.tail _ he)
    have he := h e (.head _)
    simp [List.takeWhile_cons, List.dropWhile_cons, he, a, b]
theorem out_ls {pc : Nat} {B : Str} {n : Int} {c : Nat} {r : List Nat} {P : Int} {u : List Nat} {P' : Int} {st' : Value} {pb' : List Value} {n' : Int} (hP0 : 0 ≤ P) (hP1 : P ≤ B.length) (hr : B.cps.toList.drop P.toNat = r) (o : Out pc B n c r P u P' st' pb' n') :
    u = tokU pc c r ∧ LS B P' st' pb' (restU pc c r) := by
  rcases o with ⟨h1, rfl, rfl, rfl, rfl, _⟩ | ⟨d, r', ts, tc, e, h1, h2, rfl, rfl, rfl, _⟩
  · obtain ⟨a, b⟩ := take_all (p := same pc c) (l := u) fun d hd => same_iff.mpr (h1 d hd)
    refine ⟨a.symm, ?_⟩
    unfold restU
    rw [b]
    exact .done rfl
  · have hd : same pc c d = false := by
      cases q : same pc c d with
      | false => rfl
      | true => exact absurd (same_iff.mp q) h2
    obtain ⟨a, b⟩ := take_to (p := same pc c) (r := r') hd (u := u) fun e' he => same_iff.mpr (h1 e' he)
    rw [e]
    refine ⟨a.symm, ?_⟩
    unfold restU
    rw [b]
    have hl : (P + u.length + 1).toNat = P.toNat + (u.length + 1) := by omega
    have hdr : B.cps.toList.drop (P + u.length + 1).toNat = r' := by
      rw [hl, ← List.drop_drop, hr, e]
      simp
    refine .pb (by omega) ?_ hdr
    have hlen := congrArg List.length hr
    rw [List.length_drop, e] at hlen
    have eb : B.length = B.cps.toList.length := by simp [Str.length]
    simp at hlen
    rw [eb]
    simp
    omega
theorem ss_app (c : Nat) (u : List Nat) : SS [c] ++ SS u = SS (c :: u) := by
  show (⟨#[c] ++ u.toArray⟩ : Str) = ⟨(c :: u).toArray⟩
  simp
section
variable (w : World) (p : Program) (loose : List Str) (mean : ExcName → Option Value) (mg mb : Str → Option Value)
variable (a : Nat → Int) (t v : Nat → Tok) (a' : Nat → Int) (t' : Nat → Tok) (lx dx y dy q1 q2 q3 : Nat) (rest : List (Addr × Obj)) (b : Bool) (eo : Value) (WC B : Str) (pc : Nat) (n3 : Int)
   (hB : B.length ≤ 100) (o1 : dx < lx) (o2 : lx < dy) (o3 : dy < y) (o4 : y < q1) (o5 : q1 < q2) (o6 : q2 < q3) (o7 : Apart rest dx dy q3) (hWC : ∀ c, 65 ≤ c → c ≤ 77 → decide (c ∈ WC.cps.toList) = decide (c ≠ pc))
include hB o1 o2 o3 o4 o5 o6 o7 hWC in
theorem rt_tok (P : Int) (tp tx : Tok) (st : Value) (pb : List Value) (c : Nat) (r : List Nat) (hs : LS B P st pb (c :: r)) (hlet : ∀ d ∈ c :: r, 65 ≤ d ∧ d ≤ 77) (hl : r.length ≤ 100) :
  CtxN 60 480 w p loose mean mg mb 697 [.ref lx] (lexL a t v a' t' lx dx y dy q1 q2 q3 rest b eo WC (SS [pc]) B P tp st (.str (Str.ofString "") tx) pb n3) fun Q h₀ L m s =>
    ∀ h' tk' P' tp' st' tx' pb' n' t8, LS B P' st' pb' (restU pc c r) → Fr h₀ L h' m → News h₀ L h' (lexL a t v a' t' lx dx y dy q1 q2 q3 rest b eo WC (SS [pc]) B P' tp' st' (.str (Str.ofString "") tx') pb' n') → Q (.str (SS (c :: tokU pc c r)) t8) { s with heap := h', toks := tk' } := by
  unfold CtxN
  intro dp un gd cn cs ad ccd cl outer A₀ base h₀ L m s Q E hBe hF hX hN hT hk hd hu hret
  cases hs with
  | pb h0 h1 h2 =>
    refine rt_pb w p loose mean mg mb a t v a' t' lx dx y dy q1 q2 q3 rest b eo WC B pc n3 hB o1 o2 o3 o4 o5 o6 o7 hWC P tp _ _ tx c r h0 h1 h2 hlet hl dp un gd cn cs ad ccd cl outer A₀ base h₀ L m s Q E hBe hF hX hN hT hk hd hu fun h' tk' u P' tp' st' tx' pb' n' t8 ho F' N' => ?_
    obtain ⟨rfl, hls⟩ := out_ls h0 h1 h2 ho
    rw [ss_app]
    exact hret h' tk' P' tp' st' tx' pb' n' t8 hls F' N'
  | st h0 h1 h2 =>
    obtain ⟨g1, g2, _⟩ := drop_facts h0 h2
    refine rt_st w p loose mean mg mb a t v a' t' lx dx y dy q1 q2 q3 rest b eo WC B pc n3 hB o1 o2 o3 o4 o5 o6 o7 hWC P tp _ tx c r h0 h2 hlet hl dp un gd cn cs ad ccd cl outer A₀ base h₀ L m s Q E hBe hF hX hN hT hk hd hu fun h' tk' u P' tp' st' tx' pb' n' t8 ho F' N' => ?_
    obtain ⟨rfl, hls⟩ := out_ls (by omega) g1 g2 ho
    rw [ss_app]
    exact hret h' tk' P' tp' st' tx' pb' n' t8 hls F' N'
include hB o1 o2 o3 o4 o5 o6 o7 in
theorem rt_end (P : Int) (tp tx : Tok) (st : Value) (pb : List Value) (hs : LS B P st pb []) :
  CtxN 60 480 w p loose mean mg mb 697 [.ref lx] (lexL a t v a' t' lx dx y dy q1 q2 q3 rest b eo WC (SS [pc]) B P tp st (.str (Str.ofString "") tx) pb n3) fun Q h₀ L m s =>
    ∀ h' tk' tx' t8, LS B P .none [] [] → Fr h₀ L h' m → News h₀ L h' (lexL a t v a' t' lx dx y dy q1 q2 q3 rest b eo WC (SS [pc]) B P tp .none (.str (Str.ofString "") tx') [] n3) → Q (if b = true then .none else .str (Str.ofString "") t8) { s with heap := h', toks := tk' } := by
  unfold CtxN
  intro dp un gd cn cs ad ccd cl outer A₀ base h₀ L m s Q E hBe hF hX hN hT hk hd hu hret
  cases hs with
  | st h0 h1 h2 =>
    have hP := drop_nil h0 h1 h2
    exact rt_eof w p loose mean mg mb a t v a' t' lx dx y dy q1 q2 q3 rest b eo WC B pc n3 hB o1 o2 o3 o4 o5 o6 o7 P tp _ tx hP dp un gd cn cs ad ccd cl outer A₀ base h₀ L m s Q E hBe hF hX hN hT hk hd hu fun h' tk' tx' t8 F' N' => hret h' tk' tx' t8 (.done hP) F' N'
  | done hP =>
    exact rt_none w p loose mean mg mb a t v a' t' lx dx y dy q1 q2 q3 rest b eo WC B pc n3 hB o1 o2 o3 o4 o5 o6 o7 P tp tx hP dp un gd cn cs ad ccd cl outer A₀ base h₀ L m s Q E hBe hF hX hN hT hk hd hu fun h' tk' tx' t8 F' N' => hret h' tk' tx' t8 (.done hP) F' N'
end
/-! G2 -/
abbrev eoV (b : Bool) (te : Tok) : Value := if b = true then .none else .str (Str.ofString "") te
theorem ne_empty' {c : Nat} {u : List Nat} : (SS (c :: u) == Str.ofString "") = false := ne_empty (by show 0 < (c :: u).length; simp)
theorem ns_append {h₀ h : Heap} {L : Addr} {x : List (Addr × Obj)} (N : News h₀ L h x) : News h₀ L h (x ++ []) := by rw [List.append_nil]; exact N
theorem ln_G2_1 : True := by
  k_with_none
  k_with "truthy ref" => (k_here; first | (refine' deq_truthy_nil ?l ?_; (case l => exact News.get (by k_asm) (by k_mem))) | (refine' deq_truthy_one ?l ?_; (case l => exact News.get (by k_asm) (by k_mem))))
  k_with "truthy str" => ((with_reducible show wpAny _ _ (truthy (Value.str (SS [_]) _)) _ _ _); refine truthy_chr ?_; intro tk9)
  k_with "truthy str" => (refine truthy_pos (by assumption) (by omega) ?_; intro tk9)
  k_with "compareOp In str str" => ((with_reducible show wpAny _ _ (compareOp _ (Value.str (Str.ofString _) _) (Value.str (Str.ofString _) _)) _ _ _); first | refine in_lit (b := false) (by decide +kernel) ?_ | refine in_lit (b := true) (by decide +kernel) ?_)
  k_with "compareOp NotIn str str" => ((with_reducible show wpAny _ _ (compareOp _ (Value.str (SS [_]) _) _) _ _ _); refine notin_chr (b := false) (notin_lit (by decide +kernel) (by assumption) (by assumption)) ?_)
  k_with "compareOp Eq str str" => ((with_reducible show wpAny _ _ (compareOp _ (Value.str (Str.ofString _) _) (Value.str (Str.ofString _) _)) _ _ _); first | refine eq_lit (b := false) (by decide +kernel) ?_ | refine eq_lit (b := true) (by decide +kernel) ?_)
  k_with "compareOp In str str" => ((with_reducible show wpAny _ _ (compareOp _ (Value.str (SS [_]) _) _) _ _ _); first | refine in_chr (b := false) (notin_lit (by decide +kernel) (by assumption) (by assumption)) ?_ | refine in_chr (by assumption) ?_)
  k_with "compareOp Eq str str" => ((with_reducible show wpAny _ _ (compareOp _ (Value.str (SS [_]) _) _) _ _ _); refine eq_chr (b := false) (chr_ne_lit (by decide +kernel) (by assumption) (by assumption)) ?_)
  k_with "inplaceOp Add str str" => ((with_reducible show wpAny _ _ (inplaceOp _ (Value.str _ _) (Value.str (SS [_]) _)) _ _ _); refine PyProof.Rows.iadd_str ?_ (iadd_sz (by omega)); intro t11 tk11)
  k_with "getMethod ref" => (k_here; (with_reducible show wpAny _ _ (getMethod (Value.ref _) (PySem.Str.ofString "append") _) _ _ _); k_dflt (refine' deq_method ?N ?m deq_slot_append deq_type_append ?_; (case N => k_asm); (case m => k_mem)))
  k_with "getMethod ref" => (k_here; (with_reducible show wpAny _ _ (getMethod (Value.ref _) (PySem.Str.ofString "pop") _) _ _ _); k_dflt (refine' deq_method ?N ?m deq_slot_pop deq_type_pop ?_; (case N => k_asm); (case m => k_mem)))
  k_with "call builtin:collections.deque.pop" => (k_here; k_dflt (refine' deq_pop (xs := []) ?F ?N ?U ?z ?_; (case F => k_asm); (case N => k_asm); (case U => k_upd); (case z => decide)); intro h' F' N')
  k_with "call builtin:collections.deque.append" => (k_here; k_dflt (refine' deq_append ?F ?N ?U ?z ?_; (case F => k_asm); (case N => k_asm); (case U => k_upd); (case z => decide)); intro h' F' N')
  k_with "enterM" => (refine wpAny_call ?_; refine' code_def ?k1 ?k2 ?k3 ?k4 ?k5 ?kA ?kF ?kK ?k6 ?k7 ?k8 ?k9 ?kB ?_ ?c2 ?c3 ?c4 ?c5; (case kA => exact rfl); (case kF => exact rfl); (case kK => assumption); (case k1 => k_asm); (case k2 => k_asm); (case k3 => k_asm); (case k4 => k_asm); (case k5 => k_asm); (case k6 => k_is); (case k7 => k_is); (case k8 => ktr_room); (case k9 => first | exact BindsTo.of_eq rfl | exact binds_K (by k_in) rfl (by k_is) rfl rfl rfl); (case c5 => decide); (case kB => exact locs rfl); (case c2 => exact rfl); (case c3 => exact rfl); (case c4 => exact rfl); k_whole; intro g' L' h' FG' F' N' B' X' T'; (try dsimp only); (try k_lift B'); (try k_fold))
  k_with "compareOp Eq str str" => ((with_reducible show wpAny _ _ (compareOp _ (Value.str (SS (_ :: _)) _) _) _ _ _); refine eq_lit (b := false) ne_empty' ?_)
  k_with "call ref" => ((with_reducible show wpAny _ _ (call (Value.ref 697) _) _ _ _); k_dflt (refine' rt_tok _ _ _ _ _ _ _ _ _ _ _ _ _ _ _ _ _ _ _ _ _ _ _ _ _ ?hB ?o1 ?o2 ?o3 ?o4 ?o5 ?o6 ?o7 ?hWC _ _ _ _ _ _ _ ?hs ?hlet ?hl _ _ _ _ _ _ _ _ _ _ _ _ _ _ _ _ _ ?k1 ?k2 ?k3 ?k4 ?k5 ?kK ?kd ?ku ?_; (case k4 => k_asm); (case hs => assumption); (case hlet => assumption); (case hl => assumption); (case hWC => assumption); (case hB => assumption); (case o1 => assumption); (case o2 => assumption); (case o3 => assumption); (case o4 => assumption); (case o5 => assumption); (case o6 => assumption); (case o7 => assumption); (case k1 => k_asm); (case k2 => k_asm); (case k3 => k_asm); (case k5 => k_asm); (case kK => first | exact rfl | assumption); (case kd => ktr_room); (case ku => ktr_units)); intro h9 tk9 P9 tp9 st9 tx9 pb9 n9 t9 hs9 F9 N9)
  k_with "call ref" => ((with_reducible show wpAny _ _ (call (Value.ref 697) _) _ _ _); k_dflt (refine' rt_end _ _ _ _ _ _ _ _ _ _ _ _ _ _ _ _ _ _ _ _ _ _ _ _ _ ?hB ?o1 ?o2 ?o3 ?o4 ?o5 ?o6 ?o7 _ _ _ _ _ ?hs _ _ _ _ _ _ _ _ _ _ _ _ _ _ _ _ _ ?k1 ?k2 ?k3 ?k4 ?k5 ?kK ?kd ?ku ?_; (case k4 => k_asm); (case hs => assumption); (case hB => assumption); (case o1 => assumption); (case o2 => assumption); (case o3 => assumption); (case o4 => assumption); (case o5 => assumption); (case o6 => assumption); (case o7 => assumption); (case k1 => k_asm); (case k2 => k_asm); (case k3 => k_asm); (case k5 => k_asm); (case kK => first | exact rfl | assumption); (case kd => ktr_room); (case ku => ktr_units)); intro h9 tk9 tx9 t9 hs9 F9 N9; (try dsimp only [Bool.false_eq_true, if_false, if_true]); (try simp only [Bool.false_eq_true, if_false, if_true]))
  trivial
section
variable (w : World) (p : Program) (loose : List Str) (mean : ExcName → Option Value) (mg mb : Str → Option Value)
variable (a : Nat → Int) (t v : Nat → Tok) (a' : Nat → Int) (t' : Nat → Tok) (lx dx y dy q1 q2 q3 : Nat) (rest : List (Addr × Obj)) (te : Tok) (WC B : Str) (pc : Nat) (n3 : Int)
   (hB : B.length ≤ 100) (o1 : dx < lx) (o2 : lx < dy) (o3 : dy < y) (o4 : y < q1) (o5 : q1 < q2) (o6 : q2 < q3) (o7 : Apart rest dx dy q3) (hWC : ∀ c, 65 ≤ c → c ≤ 77 → decide (c ∈ WC.cps.toList) = decide (c ≠ pc))
set_option maxHeartbeats 1000000 in
include hB o1 o2 o3 o4 o5 o6 o7 hWC in
theorem gt_tok (b : Bool) (P : Int) (tp tx : Tok) (st : Value) (pb : List Value) (c : Nat) (r : List Nat) (hs : LS B P st pb (c :: r)) (hlet : ∀ d ∈ c :: r, 65 ≤ d ∧ d ≤ 77) (hl : r.length ≤ 100) :
  CtxN 80 640 w p loose mean mg mb 690 [.ref lx] (lexL a t v a' t' lx dx y dy q1 q2 q3 rest b (eoV b te) WC (SS [pc]) B P tp st (.str (Str.ofString "") tx) pb n3) fun Q h₀ L m s =>
    ∀ h' tk' P' tp' st' tx' pb' n' t8, LS B P' st' pb' (restU pc c r) → Fr h₀ L h' m → News h₀ L h' (lexL a t v a' t' lx dx y dy q1 q2 q3 rest b (eoV b te) WC (SS [pc]) B P' tp' st' (.str (Str.ofString "") tx') pb' n') → Q (.str (SS (c :: tokU pc c r)) t8) { s with heap := h', toks := tk' } := by
  cases b
  all_goals (
    simp only [eoV, Bool.false_eq_true, if_false, if_true]
    unfold CtxN
    k_fill
    intros
    rename_i hret
    k_dflt (walk_at "enterM")
    k_steps)
  all_goals exact hret _ _ _ _ _ _ _ _ _ (by assumption) (by k_asm) (by k_asm)
set_option maxHeartbeats 1000000 in
include hB o1 o2 o3 o4 o5 o6 o7 in
theorem gt_end (b : Bool) (P : Int) (tp tx : Tok) (st : Value) (pb : List Value) (hs : LS B P st pb []) :
  CtxN 80 640 w p loose mean mg mb 690 [.ref lx] (lexL a t v a' t' lx dx y dy q1 q2 q3 rest b (eoV b te) WC (SS [pc]) B P tp st (.str (Str.ofString "") tx) pb n3) fun Q h₀ L m s =>
    ∀ h' tk' tx', LS B P .none [] [] → Fr h₀ L h' m → News h₀ L h' (lexL a t v a' t' lx dx y dy q1 q2 q3 rest b (eoV b te) WC (SS [pc]) B P tp .none (.str (Str.ofString "") tx') [] n3) → Q (eoV b te) { s with heap := h', toks := tk' } := by
  cases b
  all_goals (
    simp only [eoV, Bool.false_eq_true, if_false, if_true]
    unfold CtxN
    k_fill
    intros
    rename_i hret
    k_dflt (walk_at "enterM")
    k_steps)
  all_goals first | exact hret _ _ _ (by assumption) (by k_asm) (by k_asm)
end
theorem ln_G2_z : True := by
  k_with_none
  trivial
/-! G3 -/
abbrev CtxE (d u : Nat) (w : World) (p : Program) (loose : List Str) (mean : ExcName → Option Value) (mg mb : Str → Option Value) (f : Addr) (vs : List Value) (own : List (Addr × Obj)) (post : (Value → Shared → Prop) → Heap → List Env → Heap → Addr → (Str → Option Value) → Shared → Prop) : Prop :=
  ∀ (dp un : Nat) (gd : Option (List Code)) (cn : Str) (cs : Scope) (a : Addr) (ccd : Value) (cl : List (Str × Addr)) (outer : List Env) (A₀ : Around) (base h₀ : Heap) (L : Addr) (m : Str → Option Value) (s : Shared) (Q E : Value → Shared → Prop),
    Below A₀ base outer h₀ → Fr h₀ L s.heap m → (K2 w.params).In h₀ → News h₀ L s.heap own → Top p loose mean mg mb h₀ → cs.kind = .function →
    dp + d < recursionLimit → un + u < cLine → post E base (envX cn cs L a ccd cl :: outer) h₀ L m s →
    wpAny (model PySem.Challenge.rw_nb0270_01.row.prog w) (ktrTop dp un gd cn cs L a ccd cl outer) (call (.ref f) vs) Q E s
theorem ln_G3_1 : True := by
  k_with_none
  k_with "truthy ref" => (k_here; first | (refine' deq_truthy_nil ?l ?_; (case l => exact News.get (by k_asm) (by k_mem))) | (refine' deq_truthy_one ?l ?_; (case l => exact News.get (by k_asm) (by k_mem))))
  k_with "truthy str" => ((with_reducible show wpAny _ _ (truthy (Value.str (SS [_]) _)) _ _ _); refine truthy_chr ?_; intro tk9)
  k_with "truthy str" => (refine truthy_pos (by assumption) (by omega) ?_; intro tk9)
  k_with "compareOp In str str" => ((with_reducible show wpAny _ _ (compareOp _ (Value.str (Str.ofString _) _) (Value.str (Str.ofString _) _)) _ _ _); first | refine in_lit (b := false) (by decide +kernel) ?_ | refine in_lit (b := true) (by decide +kernel) ?_)
  k_with "compareOp NotIn str str" => ((with_reducible show wpAny _ _ (compareOp _ (Value.str (SS [_]) _) _) _ _ _); refine notin_chr (b := false) (notin_lit (by decide +kernel) (by assumption) (by assumption)) ?_)
  k_with "compareOp Eq str str" => ((with_reducible show wpAny _ _ (compareOp _ (Value.str (Str.ofString _) _) (Value.str (Str.ofString _) _)) _ _ _); first | refine eq_lit (b := false) (by decide +kernel) ?_ | refine eq_lit (b := true) (by decide +kernel) ?_)
  k_with "compareOp In str str" => ((with_reducible show wpAny _ _ (compareOp _ (Value.str (SS [_]) _) _) _ _ _); first | refine in_chr (b := false) (notin_lit (by decide +kernel) (by assumption) (by assumption)) ?_ | refine in_chr (by assumption) ?_)
  k_with "compareOp Eq str str" => ((with_reducible show wpAny _ _ (compareOp _ (Value.str (SS [_]) _) _) _ _ _); refine eq_chr (b := false) (chr_ne_lit (by decide +kernel) (by assumption) (by assumption)) ?_)
  k_with "inplaceOp Add str str" => ((with_reducible show wpAny _ _ (inplaceOp _ (Value.str _ _) (Value.str (SS [_]) _)) _ _ _); refine PyProof.Rows.iadd_str ?_ (iadd_sz (by omega)); intro t11 tk11)
  k_with "getMethod ref" => (k_here; (with_reducible show wpAny _ _ (getMethod (Value.ref _) (PySem.Str.ofString "append") _) _ _ _); k_dflt (refine' deq_method ?N ?m deq_slot_append deq_type_append ?_; (case N => k_asm); (case m => k_mem)))
  k_with "getMethod ref" => (k_here; (with_reducible show wpAny _ _ (getMethod (Value.ref _) (PySem.Str.ofString "pop") _) _ _ _); k_dflt (refine' deq_method ?N ?m deq_slot_pop deq_type_pop ?_; (case N => k_asm); (case m => k_mem)))
  k_with "call builtin:collections.deque.pop" => (k_here; k_dflt (refine' deq_pop (xs := []) ?F ?N ?U ?z ?_; (case F => k_asm); (case N => k_asm); (case U => k_upd); (case z => decide)); intro h' F' N')
  k_with "call builtin:collections.deque.append" => (k_here; k_dflt (refine' deq_append ?F ?N ?U ?z ?_; (case F => k_asm); (case N => k_asm); (case U => k_upd); (case z => decide)); intro h' F' N')
  k_with "enterM" => (refine wpAny_call ?_; refine' code_def ?k1 ?k2 ?k3 ?k4 ?k5 ?kA ?kF ?kK ?k6 ?k7 ?k8 ?k9 ?kB ?_ ?c2 ?c3 ?c4 ?c5; (case kA => exact rfl); (case kF => exact rfl); (case kK => assumption); (case k1 => k_asm); (case k2 => k_asm); (case k3 => k_asm); (case k4 => k_asm); (case k5 => k_asm); (case k6 => k_is); (case k7 => k_is); (case k8 => ktr_room); (case k9 => first | exact BindsTo.of_eq rfl | exact binds_K (by k_in) rfl (by k_is) rfl rfl rfl); (case c5 => decide); (case kB => exact locs rfl); (case c2 => exact rfl); (case c3 => exact rfl); (case c4 => exact rfl); k_whole; intro g' L' h' FG' F' N' B' X' T'; (try dsimp only); (try k_lift B'); (try k_fold))
  k_with "compareOp Eq str str" => ((with_reducible show wpAny _ _ (compareOp _ (Value.str (SS (_ :: _)) _) _) _ _ _); refine eq_lit (b := false) ne_empty' ?_)
  k_with "call ref" => ((with_reducible show wpAny _ _ (call (Value.ref 690) _) _ _ _); k_dflt (refine' gt_tok _ _ _ _ _ _ _ _ _ _ _ _ _ _ _ _ _ _ _ _ _ _ _ _ ?hB ?o1 ?o2 ?o3 ?o4 ?o5 ?o6 ?o7 ?hWC _ _ _ _ _ _ _ _ ?hs ?hlet ?hl _ _ _ _ _ _ _ _ _ _ _ _ _ _ _ _ _ ?k1 ?k2 ?k3 ?k4 ?k5 ?kK ?kd ?ku ?_; (case k4 => k_asm); (case hs => assumption); (case hlet => assumption); (case hl => assumption); (case hWC => assumption); (case hB => assumption); (case o1 => assumption); (case o2 => assumption); (case o3 => assumption); (case o4 => assumption); (case o5 => assumption); (case o6 => assumption); (case o7 => assumption); (case k1 => k_asm); (case k2 => k_asm); (case k3 => k_asm); (case k5 => k_asm); (case kK => first | exact rfl | assumption); (case kd => ktr_room); (case ku => ktr_units)); intro h9 tk9 P9 tp9 st9 tx9 pb9 n9 t9 hs9 F9 N9)
  k_with "call ref" => ((with_reducible show wpAny _ _ (call (Value.ref 690) _) _ _ _); k_dflt (refine' gt_end _ _ _ _ _ _ _ _ _ _ _ _ _ _ _ _ _ _ _ _ _ _ _ _ ?hB ?o1 ?o2 ?o3 ?o4 ?o5 ?o6 ?o7 _ _ _ _ _ _ ?hs _ _ _ _ _ _ _ _ _ _ _ _ _ _ _ _ _ ?k1 ?k2 ?k3 ?k4 ?k5 ?kK ?kd ?ku ?_; (case k4 => k_asm); (case hs => assumption); (case hB => assumption); (case o1 => assumption); (case o2 => assumption); (case o3 => assumption); (case o4 => assumption); (case o5 => assumption); (case o6 => assumption); (case o7 => assumption); (case k1 => k_asm); (case k2 => k_asm); (case k3 => k_asm); (case k5 => k_asm); (case kK => first | exact rfl | assumption); (case kd => ktr_room); (case ku => ktr_units)); intro h9 tk9 tx9 hs9 F9 N9)
  trivial
section
variable (w : World) (p : Program) (loose : List Str) (mean : ExcName → Option Value) (mg mb : Str → Option Value)
variable (a : Nat → Int) (t v : Nat → Tok) (a' : Nat → Int) (t' : Nat → Tok) (lx dx y dy q1 q2 q3 : Nat) (rest : List (Addr × Obj)) (te : Tok) (WC B : Str) (pc : Nat) (n3 : Int)
   (hB : B.length ≤ 100) (o1 : dx < lx) (o2 : lx < dy) (o3 : dy < y) (o4 : y < q1) (o5 : q1 < q2) (o6 : q2 < q3) (o7 : Apart rest dx dy q3) (hWC : ∀ c, 65 ≤ c → c ≤ 77 → decide (c ∈ WC.cps.toList) = decide (c ≠ pc))
set_option maxHeartbeats 1000000 in
include hB o1 o2 o3 o4 o5 o6 o7 hWC in
theorem nx_tok (b : Bool) (P : Int) (tp tx : Tok) (st : Value) (pb : List Value) (c : Nat) (r : List Nat) (hs : LS B P st pb (c :: r)) (hlet : ∀ d ∈ c :: r, 65 ≤ d ∧ d ≤ 77) (hl : r.length ≤ 100) :
  CtxN 100 800 w p loose mean mg mb 726 [.ref lx] (lexL a t v a' t' lx dx y dy q1 q2 q3 rest b (eoV b te) WC (SS [pc]) B P tp st (.str (Str.ofString "") tx) pb n3) fun Q h₀ L m s =>
    ∀ h' tk' P' tp' st' tx' pb' n' t8, LS B P' st' pb' (restU pc c r) → Fr h₀ L h' m → News h₀ L h' (lexL a t v a' t' lx dx y dy q1 q2 q3 rest b (eoV b te) WC (SS [pc]) B P' tp' st' (.str (Str.ofString "") tx') pb' n') → Q (.str (SS (c :: tokU pc c r)) t8) { s with heap := h', toks := tk' } := by
  cases b
  all_goals (
    unfold CtxN
    k_fill
    intros
    rename_i hret
    k_dflt (walk_at "enterM")
    k_steps
    (try simp only [eoV, Bool.false_eq_true, if_false, if_true] at *)
    k_steps)
  all_goals first | exact hret _ _ _ _ _ _ _ _ _ (by assumption) (by k_asm) (by k_asm)
set_option maxHeartbeats 1000000 in
include hB o1 o2 o3 o4 o5 o6 o7 in
theorem nx_end (b : Bool) (P : Int) (tp tx : Tok) (st : Value) (pb : List Value) (hs : LS B P st pb []) :
  CtxE 100 800 w p loose mean mg mb 726 [.ref lx] (lexL a t v a' t' lx dx y dy q1 q2 q3 rest b (eoV b te) WC (SS [pc]) B P tp st (.str (Str.ofString "") tx) pb n3) fun E base frames h₀ L m s =>
    ∀ h' tk' e t9 tx' g', LS B P .none [] [] → RaisedK base frames e (.type "StopIteration") t9 [] (lexL a t v a' t' lx dx y dy q1 q2 q3 rest b (eoV b te) WC (SS [pc]) B P tp .none (.str (Str.ofString "") tx') [] n3) h' → g'.UpToSlots h' → Fr h₀ L g' m → E (.ref e) { s with heap := h', toks := tk' } := by
  cases b
  all_goals (
    unfold CtxE
    k_fill
    intros
    rename_i hret
    k_dflt (walk_at "enterM")
    k_steps
    (try simp only [eoV, Bool.false_eq_true, if_false, if_true] at *)
    k_steps)
  all_goals exact hret _ _ _ _ _ _ (by assumption) (by assumption) (by assumption) (by assumption)
end
theorem ln_G3_z : True := by
  k_with_none
  trivial
/-! I1 -/
def pieceT (i : Nat) : Stmt := PySem.Challenge.pw_nb0270_01.main.body.getD i default
@[reducible] noncomputable def iaBody : {x : List Stmt // bodyOf (pieceT 3) = x} := by
  refine ⟨?_, ?_⟩
  rotate_left
  · conv => lhs; whnf
@[reducible] noncomputable def iaScope : {x : Scope // scopeOf (pieceT 3) = x} := by
  refine ⟨?_, ?_⟩
  rotate_left
  · conv => lhs; whnf
@[reducible] noncomputable def iaLoop : {x : List Stmt // bodyOf (iaBody.1.getD 3 default) = x} := by
  refine ⟨?_, ?_⟩
  rotate_left
  · conv => lhs; whnf
@[reducible] noncomputable def iaTest : {x : PySem.Expr // testOf (iaBody.1.getD 3 default) = x} := by
  refine ⟨?_, ?_⟩
  rotate_left
  · conv => lhs; whnf
noncomputable abbrev iaEnv (L : Addr) : Env := envOf "Int2AP" iaScope.1 L 46 (.ref 45)
abbrev mIA (md : Option Value) (N V A9 : Value) : Str → Option Value := fun y => if y = "mod" then md else if y = "num" then some N else if y = "val" then some V else if y = "AP" then some A9 else none
theorem ia_set {g h : Heap} {L : Addr} {md : Option Value} {N V A9 N' M' V' : Value} (F : Fr g L h (fun y => if y = (Str.ofString "val") then some V' else if y = (Str.ofString "mod") then some M' else if y = (Str.ofString "num") then some N' else mIA md N V A9 y)) : Fr g L h (mIA (some M') N' V' A9) := by
  have e : (fun y => if y = (Str.ofString "val") then some V' else if y = (Str.ofString "mod") then some M' else if y = (Str.ofString "num") then some N' else mIA md N V A9 y) = mIA (some M') N' V' A9 := by
    funext y
    unfold mIA
    by_cases h1 : y = Str.ofString "val"
    · subst h1
      rw [if_pos rfl, if_neg (by decide +kernel), if_neg (by decide +kernel), if_pos rfl]
    · by_cases h2 : y = Str.ofString "mod"
      · simp [h1, h2]
        subst h2
        intro h
        exact absurd h (by decide +kernel)
      · by_cases h3 : y = Str.ofString "num" <;> simp [h1, h2, h3]
        · subst h3
          intro h
          exact absurd h (by decide +kernel)
  rw [← e]
  exact F
abbrev apB : Array UInt8 := #[65, 66, 67, 68, 69, 70, 71, 72, 73, 74, 75, 76, 77, 78, 79, 80]
theorem ap_all : ∀ k : Fin 16, KBy.whole apB (some (k.val : Int)) (some ((k.val : Int) + 1)) = false ∧ KBy.picked apB (some (k.val : Int)) (some ((k.val : Int) + 1)) = #[65 + UInt8.ofNat k.val] := by decide +kernel
theorem ap_at {M : Int} (h0 : 0 ≤ M) (h1 : M < 16) : KBy.whole apB (some M) (some (M + 1)) = false ∧ KBy.picked apB (some M) (some (M + 1)) = #[65 + UInt8.ofNat M.toNat] := by
  obtain ⟨k, rfl⟩ := Int.eq_ofNat_of_zero_le h0
  exact ap_all ⟨k, by omega⟩
theorem ap_slice {prog : Program} {w : World} {A : Around} {E : Value → Shared → Prop} {s : Shared} {h₀ : Heap} {L : Addr} {m : Str → Option Value} {news : List (Addr × Obj)} {t u1 u2 : Tok} {M : Int} {value slice : PySem.Expr} {Q : Value → Shared → Prop} (hF : Fr h₀ L s.heap m) (hN : News h₀ L s.heap news) (h0 : 0 ≤ M) (h1 : M < 16)
    (h : ∀ h' t' k, Fr h₀ L h' m → News h₀ L h' news → Q (.bytes #[65 + UInt8.ofNat M.toNat] t') { s with heap := h', toks := k })
    (hs : subscripted slice false (.bytes apB t) (.ref s.heap.objs.size) = operate [.ref s.heap.objs.size, .bytes apB t] (getItem (.bytes apB t) (.ref s.heap.objs.size)) := by with_unfolding_all rfl)
    (ht : ∀ r, letTemporaryGo value (.bytes apB t) r = pure () := by intro _; with_unfolding_all rfl) :
    wpAny (model prog w) A (subscriptTail value slice (.bytes apB t) (.ref s.heap.objs.size)) Q E { s with heap := s.heap.push { cls := .type "slice", data := .fields #[.int M u1, .int (M + 1) u2, .none] } } := by
  obtain ⟨a, b⟩ := ap_at h0 h1
  refine KBy.slice_N hF hN (by constructor) (by constructor) a (by rw [b]; show 1 ≤ 16777216; decide) (fun h' t' k F N => ?_) hs ht
  rw [b]
  exact h h' t' k F N
theorem news_tl {h₀ h : Heap} {L : Addr} {x : Addr × Obj} {y : List (Addr × Obj)} (N : News h₀ L h (x :: y)) : News h₀ L h y := fun p hp => N p (List.mem_cons_of_mem _ hp)
theorem ap_sz {V : Array UInt8} {x : UInt8} (h : V.size ≤ 20) : (#[x] : Array UInt8).size + V.size ≤ 16777216 := by
  show 1 + V.size ≤ 16777216
  omega
theorem ln_I1_1 : True := by
  k_with_none
  k_with "binaryOp Add bytes bytes" => (refine KBy.add_bytes (ap_sz (by assumption)) ?_; intro t9 k9)
  k_with "subscriptTail" => ((with_reducible show wpAny _ _ (subscriptTail _ (Expr.Slice _ _ none _) (Value.bytes _ _) (Value.ref _)) _ _ _); (with_reducible rename Fr _ _ _ _ => F'); (with_reducible rename News _ _ _ _ => N'); k_dflt (refine ap_slice (s := ⟨_, _, _, _, _⟩) F' N' (by assumption) (by assumption) ?_); intro h9 t9 k9 F9 N9)
  trivial
section
variable (w : World) (p : Program) (loose : List Str) (mean : ExcName → Option Value) (mg mb : Str → Option Value)
variable (dp un : Nat) (gd : Option (List Code)) (cn : Str) (cs : Scope) (ad : Addr) (ccd : Value) (cl : List (Str × Addr)) (outer : List Env) (base g : Heap) (L L' : Addr) (E : Value → Shared → Prop) (Q : Flow → Shared → Prop) (R : Shared → Prop)
   (hBe : Below (ktrTop dp un gd cn cs L ad ccd cl outer) base (envX cn cs L ad ccd cl :: outer) g) (hX : (K2 w.params).In g) (hT : Top p loose mean mg mb g) (hdp : dp + 40 < recursionLimit) (hun : un + 320 < cLine)
set_option maxHeartbeats 400000 in
include hBe hX hT hdp hun in
theorem turnI (own : List (Addr × Obj)) (md : Option Value) (N : Int) (V : Array UInt8) (tn tv ta : Tok) (s : Shared) (hN0 : 0 < N) (hN1 : N < 16 ^ 8) (hV : V.size ≤ 20) (hF : Fr g L' s.heap (mIA md (.int N tn) (.bytes V tv) (.bytes apB ta))) (hN : News g L' s.heap own)
    (H : ∀ h' tk' md' tn' tv', Fr g L' h' (mIA md' (.int (N.fdiv 16) tn') (.bytes (#[65 + UInt8.ofNat (N.fmod 16).toNat] ++ V) tv') (.bytes apB ta)) → News g L' h' own → R { s with heap := h', toks := tk' }) :
    wpAny (model PySem.Challenge.rw_nb0270_01.row.prog w) ((ktrTop dp un gd cn cs L ad ccd cl outer).deeper (iaEnv L')) (isTrue iaTest.1 (iaEnv L') (eval iaTest.1 (iaEnv L'))) (fun b s₂ => WhlIf b (wpAny (model PySem.Challenge.rw_nb0270_01.row.prog w) ((ktrTop dp un gd cn cs L ad ccd cl outer).deeper (iaEnv L')) (execs iaLoop.1 (iaEnv L')) (PostR R Q) E s₂) (wpAny (model PySem.Challenge.rw_nb0270_01.row.prog w) ((ktrTop dp un gd cn cs L ad ccd cl outer).deeper (iaEnv L')) (execs [] (iaEnv L')) Q E s₂)) E s := by
  revert hX
  k_fill
  intro hX
  k_steps
  refine WhlIf.yes (bne_iff_ne.mpr (by omega)) ?_
  have hm0 : 0 ≤ N.fmod 16 := Int.fmod_nonneg (by omega) (by decide)
  have hm1 : N.fmod 16 < 16 := Int.fmod_lt_of_pos _ (by decide)
  k_steps
  dsimp only [PostR]
  refine H _ _ _ _ _ (ia_set (by k_asm)) (news_tl (by assumption))
end
theorem ln_I1_z : True := by
  k_with_none
  trivial
/-! I2 -/
noncomputable def apW : Nat → Nat → Array UInt8 → Array UInt8
  | 0, _, V => V
  | f + 1, N, V => if N = 0 then V else apW f (N / 16) (#[65 + UInt8.ofNat (N % 16)] ++ V)
section
variable (w : World) (p : Program) (loose : List Str) (mean : ExcName → Option Value) (mg mb : Str → Option Value)
variable (dp un : Nat) (gd : Option (List Code)) (cn : Str) (cs : Scope) (ad : Addr) (ccd : Value) (cl : List (Str × Addr)) (outer : List Env) (base g : Heap) (L L' : Addr) (E : Value → Shared → Prop) (Q : Flow → Shared → Prop) (R : Shared → Prop)
   (hBe : Below (ktrTop dp un gd cn cs L ad ccd cl outer) base (envX cn cs L ad ccd cl :: outer) g) (hX : (K2 w.params).In g) (hT : Top p loose mean mg mb g) (hdp : dp + 40 < recursionLimit) (hun : un + 320 < cLine)
set_option maxHeartbeats 400000 in
include hBe hX hT hdp hun in
theorem turnI0 (own : List (Addr × Obj)) (md : Option Value) (V : Array UInt8) (tn tv ta : Tok) (s : Shared) (hF : Fr g L' s.heap (mIA md (.int 0 tn) (.bytes V tv) (.bytes apB ta))) (hN : News g L' s.heap own)
    (H : ∀ h' tk', Fr g L' h' (mIA md (.int 0 tn) (.bytes V tv) (.bytes apB ta)) → News g L' h' own → Q .next { s with heap := h', toks := tk' }) :
    wpAny (model PySem.Challenge.rw_nb0270_01.row.prog w) ((ktrTop dp un gd cn cs L ad ccd cl outer).deeper (iaEnv L')) (isTrue iaTest.1 (iaEnv L') (eval iaTest.1 (iaEnv L'))) (fun b s₂ => WhlIf b (wpAny (model PySem.Challenge.rw_nb0270_01.row.prog w) ((ktrTop dp un gd cn cs L ad ccd cl outer).deeper (iaEnv L')) (execs iaLoop.1 (iaEnv L')) (PostR R Q) E s₂) (wpAny (model PySem.Challenge.rw_nb0270_01.row.prog w) ((ktrTop dp un gd cn cs L ad ccd cl outer).deeper (iaEnv L')) (execs [] (iaEnv L')) Q E s₂)) E s := by
  revert hX
  k_fill
  intro hX
  k_steps
  exact H _ _ (by k_asm) (by k_asm)
variable (hE : PassesOwn (model PySem.Challenge.rw_nb0270_01.row.prog w) ((ktrTop dp un gd cn cs L ad ccd cl outer).deeper (iaEnv L')) (iaEnv L') E)
include hBe hX hT hdp hun hE in
theorem loopI (own : List (Addr × Obj)) : ∀ (f N : Nat) (md : Option Value) (V : Array UInt8) (tn tv ta : Tok) (s : Shared), N < 16 ^ f → N < 16 ^ 8 → V.size + f ≤ 20 →
    Fr g L' s.heap (mIA md (.int (N : Int) tn) (.bytes V tv) (.bytes apB ta)) → News g L' s.heap own →
    (∀ h' tk' md' tn' tv', Fr g L' h' (mIA md' (.int 0 tn') (.bytes (apW f N V) tv') (.bytes apB ta)) → News g L' h' own → Q .next { s with heap := h', toks := tk' }) →
    WhlRest PySem.Challenge.rw_nb0270_01.row.prog w ((ktrTop dp un gd cn cs L ad ccd cl outer).deeper (iaEnv L')) E (iaEnv L') iaTest.1 iaLoop.1 [] Q 1 s := by
  intro f
  induction f with
  | zero =>
    intro N md V tn tv ta s h1 h2 h3 hF hN H
    have : N = 0 := by simpa using h1
    subst this
    exact whl_turnR hE (R := fun _ => False) (fun _ h => h.elim) (turnI0 w p loose mean mg mb dp un gd cn cs ad ccd cl outer base g L L' E Q _ hBe hX hT hdp hun own md V tn tv ta s hF hN fun h' tk' F' N' => H h' tk' md tn tv F' N')
  | succ f ih =>
    intro N md V tn tv ta s h1 h2 h3 hF hN H
    by_cases h0 : N = 0
    · subst h0
      exact whl_turnR hE (R := fun _ => False) (fun _ h => h.elim) (turnI0 w p loose mean mg mb dp un gd cn cs ad ccd cl outer base g L L' E Q _ hBe hX hT hdp hun own md V tn tv ta s hF hN fun h' tk' F' N' => H h' tk' md tn tv F' N')
    · have e1 : (N : Int).fdiv 16 = ((N / 16 : Nat) : Int) := by
        rw [Int.fdiv_eq_ediv_of_nonneg _ (by decide)]; rfl
      have e2 : ((N : Int).fmod 16).toNat = N % 16 := by
        rw [Int.fmod_eq_emod_of_nonneg _ (by decide)]; omega
      have hp : 16 ^ (f + 1) = 16 ^ f * 16 := Nat.pow_succ ..
      have q1 : N / 16 < 16 ^ f := by
        rw [Nat.div_lt_iff_lt_mul (by decide)]; omega
      have q8 : (N : Int) < 16 ^ 8 := by
        have : (16 : Int) ^ 8 = ((16 ^ 8 : Nat) : Int) := by decide
        rw [this]; omega
      refine whl_turnR hE (R := WhlRest PySem.Challenge.rw_nb0270_01.row.prog w ((ktrTop dp un gd cn cs L ad ccd cl outer).deeper (iaEnv L')) E (iaEnv L') iaTest.1 iaLoop.1 [] Q 0) (fun _ h => h) (turnI w p loose mean mg mb dp un gd cn cs ad ccd cl outer base g L L' E Q _ hBe hX hT hdp hun own md N V tn tv ta s (by omega) q8 (by omega) hF hN fun h' tk' md' tn' tv' F' N' => ?_)
      rw [e1, e2] at F'
      refine ih (N / 16) md' (#[65 + UInt8.ofNat (N % 16)] ++ V) tn' tv' ta { s with heap := h', toks := tk' } q1 (by omega) (by simp; omega) F' N' fun h' tk' md' tn' tv' F' N' => H h' tk' md' tn' tv' ?_ N'
      have e3 : apW (f + 1) N V = apW f (N / 16) (#[65 + UInt8.ofNat (N % 16)] ++ V) := by
        show (if N = 0 then V else _) = _
        rw [if_neg h0]
      rw [e3]
      exact F'
end
/-! I3 -/
theorem ia_start {g h : Heap} {L : Addr} {X : Int} {u0 ta tv : Tok} {l : List (Str × Value)} {v : Value} (F : Fr g L h (fun y => if y = (Str.ofString "num") then some (.int (if X < 0 then -X else X) u0) else if y = (Str.ofString "AP") then some (.bytes apB ta) else if y = (Str.ofString "val") then some (.bytes #[] tv) else List.lookup y l)) (e : l = [(("num" : Str), v)]) : Fr g L h (mIA none (.int (X.natAbs : Int) u0) (.bytes #[] tv) (.bytes apB ta)) := by
  subst e
  have e0 : (if X < 0 then -X else X) = (X.natAbs : Int) := by split <;> omega
  rw [e0] at F
  have q : (fun y => if y = (Str.ofString "num") then some (.int (X.natAbs : Int) u0) else if y = (Str.ofString "AP") then some (.bytes apB ta) else if y = (Str.ofString "val") then some (.bytes #[] tv) else List.lookup y [(("num" : Str), v)]) = mIA none (.int (X.natAbs : Int) u0) (.bytes #[] tv) (.bytes apB ta) := by
    funext y
    unfold mIA
    by_cases h0 : y = Str.ofString "mod"
    · subst h0
      rw [if_pos rfl, if_neg (by decide +kernel), if_neg (by decide +kernel), if_neg (by decide +kernel)]
      rfl
    · rw [if_neg h0]
      by_cases h1 : y = Str.ofString "num"
      · subst h1; rw [if_pos rfl, if_pos rfl]
      · rw [if_neg h1, if_neg h1]
        by_cases h2 : y = Str.ofString "val"
        · subst h2; rw [if_pos rfl, if_pos rfl, if_neg (by decide +kernel)]
        · rw [if_neg h2, if_neg h2]
          by_cases h3 : y = Str.ofString "AP"
          · rw [if_pos h3, if_pos h3]
          · rw [if_neg h3, if_neg h3]
            show (match y == Str.ofString "num" with | true => some v | false => none) = none
            have : (y == Str.ofString "num") = false := by simpa using h1
            rw [this]
  rw [← q]
  exact F
theorem ln_I3_1 : True := by
  k_with_none
  k_with "enterM" => (refine wpAny_call ?_; refine' code_def ?k1 ?k2 ?k3 ?k4 ?k5 ?kA ?kF ?kK ?k6 ?k7 ?k8 ?k9 ?kB ?_ ?c2 ?c3 ?c4 ?c5; (case kA => exact rfl); (case kF => exact rfl); (case kK => assumption); (case k1 => k_asm); (case k2 => k_asm); (case k3 => k_asm); (case k4 => k_asm); (case k5 => k_asm); (case k6 => k_is); (case k7 => k_is); (case k8 => ktr_room); (case k9 => first | exact BindsTo.of_eq rfl | exact binds_K (by k_in) rfl (by k_is) rfl rfl rfl); (case c5 => decide); (case kB => exact locs rfl); (case c2 => exact rfl); (case c3 => exact rfl); (case c4 => exact rfl); k_whole; intro g' L' h' FG' F' N' B' X' T'; (try dsimp only); (try k_lift B'); (try k_fold))
  k_with "exec While" => (refine my_start ?_)
  trivial
section
variable (w : World) (p : Program) (loose : List Str) (mean : ExcName → Option Value) (mg mb : Str → Option Value)
set_option maxHeartbeats 1000000 in
theorem ia_call (X : Int) (tx : Tok) (hX1 : X.natAbs < 16 ^ 8) (own : List (Addr × Obj)) :
  CtxN 60 480 w p loose mean mg mb 46 [.int X tx] own fun Q h₀ L m s =>
    ∀ h' tk' t8, Fr h₀ L h' m → News h₀ L h' own → Q (.bytes (apW 8 X.natAbs #[]) t8) { s with heap := h', toks := tk' } := by
  unfold CtxN
  k_fill
  intros
  rename_i hret
  k_dflt (walk_at "enterM")
  k_steps
  unfold MyLoop
  refine' loopI w p loose mean mg mb _ _ _ _ _ _ _ _ _ _ _ _ _ _ _ ?b1 ?b2 ?b3 ?b4 ?b5 ?hE own 8 X.natAbs none #[] _ _ _ _ hX1 hX1 (by decide) (ia_start ?f ?fe) ?n ?tail
  case b1 => k_asm
  case b2 => k_asm
  case b3 => k_asm
  case f => k_asm
  case fe => rfl
  case n => k_asm
  case b4 => omega
  case b5 => omega
  case hE => first | passes_own | with_unfolding_all passes_own
  case tail =>
    intro h' tk' md' tn' tv' F' N'
    k_steps
    all_goals exact hret _ _ _ (by k_asm) (by k_asm)
end
theorem ln_I3_z : True := by
  k_with_none
  trivial
/-! CX -/
abbrev CtxW (d u : Nat) (w : World) (p : Program) (loose : List Str) (mean : ExcName → Option Value) (mg mb : Str → Option Value) (f : Addr) (vs : List Value) (own : List (Addr × Obj)) (post : (Value → Shared → Prop) → Heap → Addr → (Str → Option Value) → Shared → Prop) : Prop :=
  ∀ (dp un : Nat) (gd : Option (List Code)) (cn : Str) (cs : Scope) (a : Addr) (ccd : Value) (cl : List (Str × Addr)) (outer : List Env) (A₀ : Around) (base h₀ : Heap) (L : Addr) (m : Str → Option Value) (s : Shared) (Q E : Value → Shared → Prop),
    Below A₀ base outer h₀ → Fr h₀ L s.heap m → (K2 w.params).In h₀ → News h₀ L s.heap own → Top p loose mean mg mb h₀ → cs.kind = .function →
    dp + d < recursionLimit → un + u < cLine → post Q h₀ L m s →
    wpAny (model PySem.Challenge.rw_nb0270_01.row.prog w) (ktrTop dp un gd cn cs L a ccd cl outer) (call (.ref f) vs) Q E s
/-! W1 -/
abbrev waysF (n m : Int) : Int := (List.foldl (fun (σ : Int × Unit) k => ((σ.fst * (m + k)).fdiv k, ())) (1, ()) (rangeInts 1 1 (n + 1 - 1).toNat)).fst
theorem ln_W1_1 : True := by
  k_with_none
  k_with "enterM" => (refine wpAny_call ?_; refine' code_def ?k1 ?k2 ?k3 ?k4 ?k5 ?kA ?kF ?kK ?k6 ?k7 ?k8 ?k9 ?kB ?_ ?c2 ?c3 ?c4 ?c5; (case kA => exact rfl); (case kF => exact rfl); (case kK => assumption); (case k1 => k_asm); (case k2 => k_asm); (case k3 => k_asm); (case k4 => k_asm); (case k5 => k_asm); (case k6 => k_is); (case k7 => k_is); (case k8 => ktr_room); (case k9 => first | exact BindsTo.of_eq rfl | exact binds_K (by k_in) rfl (by k_is) rfl rfl rfl); (case c5 => decide); (case kB => exact locs rfl); (case c2 => exact rfl); (case c3 => exact rfl); (case c4 => exact rfl); k_whole; intro g' L' h' FG' F' N' B' X' T'; (try dsimp only); (try k_lift B'); (try k_fold))
  trivial
section
variable (w : World) (p : Program) (loose : List Str) (mean : ExcName → Option Value) (mg mb : Str → Option Value)
set_option maxHeartbeats 1000000 in
theorem ways_call (n m : Int) (tn tm : Tok) (hn0 : 0 ≤ n) (hn1 : n < 64) (hm0 : 0 ≤ m) (hm1 : m < 64) (own : List (Addr × Obj)) :
  CtxW 20 160 w p loose mean mg mb 740 [.int n tn, .int m tm] own fun Q h₀ L mm s =>
    ∀ h' tk' t8, Fr h₀ L h' mm → News h₀ L h' own → Q (.int (waysF n m) t8) { s with heap := h', toks := tk' } := by
  unfold CtxW
  k_fill
  intros
  rename_i hret
  k_dflt (walk_at "enterM")
  k_steps
  all_goals exact hret _ _ _ (by k_asm) (by first | k_asm | (refine' cb_drop ?cbN ?cbS; (case cbN => assumption); (case cbS => kcj_all)))
end
theorem ln_W1_z : True := by
  k_with_none
  trivial
/-! W2 -/
def trimI (l : List Int) : List Int := (l.reverse.dropWhile (· == 0)).reverse
theorem trimI_snoc (l : List Int) (x : Int) : trimI (l ++ [x]) = if x = 0 then trimI l else l ++ [x] := by
  unfold trimI
  rw [List.reverse_append]
  show (List.dropWhile _ (x :: l.reverse)).reverse = _
  rw [List.dropWhile_cons]
  by_cases h : x = 0
  · simp [h]
  · simp [h]
theorem trimI_last {l : List Int} (h : 0 < l.length) : trimI l = if l.getLastD 0 = 0 then trimI l.dropLast else l := by
  have hne : l ≠ [] := List.ne_nil_of_length_pos h
  have e := List.dropLast_concat_getLast hne
  have e2 : l.getLastD 0 = l.getLast hne := by
    rw [List.getLastD_eq_getLast?, List.getLast?_eq_getLast hne]; rfl
  rw [e2]
  conv => lhs; rw [← e]
  rw [trimI_snoc, e]
theorem getD_last (l : List Int) : l.getD (-1 + (l.length : Int)).toNat 0 = l.getLastD 0 := by
  rw [show (-1 + (l.length : Int)).toNat = l.length - 1 by omega, List.getLastD_eq_getLast?, List.getLast?_eq_getElem?, List.getD_eq_getElem?_getD]
abbrev digsI (n m pp : Int) : List Int := (rangeKs 0 ((6 : Int) - 0).toNat).map fun k' => (n.fdiv (pp ^ k'.toNat)).fmod pp + (m.fdiv (pp ^ k'.toNat)).fmod pp
theorem pow_p {prog : Program} {w : World} {A : Around} {E : Value → Shared → Prop} {s : Shared} {a n : Int} {t u : Tok} {Q : Value → Shared → Prop} (h1 : 2 ≤ a) (h2 : a ≤ 16) (hn : 0 ≤ n) (hn2 : n ≤ 100)
    (h : Q (.int (a ^ n.toNat) s.toks) { s with toks := s.toks + 1 }) : wpAny (model prog w) A (binaryOp .Pow (.int a t) (.int n u)) Q E s := by
  exact pow_int_small hn (by omega) (by omega) h
theorem ln_W2_1 : True := by
  k_with_none
  k_with "binaryOp Pow int int" => (refine pow_p (by omega) (by omega) (by omega) (by omega) ?_)
  trivial
theorem fdiv_p {prog : Program} {w : World} {A : Around} {E : Value → Shared → Prop} {s : Shared} {a c : Int} {n : Nat} {t u : Tok} {Q : Value → Shared → Prop} (h1 : 2 ≤ a) (h2 : a ≤ 16) (hn : n ≤ 100) (h : Q (.int (c.fdiv (a ^ n)) s.toks) { s with toks := s.toks + 1 }) : wpAny (model prog w) A (binaryOp .FloorDiv (.int c t) (.int (a ^ n) u)) Q E s := by
  have h0 : 0 < a ^ n := Int.pow_pos (by omega)
  refine floordiv_int (by omega) h (.inl (PyProof.noPylong_of_log2 ?_))
  have e : (a ^ n).natAbs = a.natAbs ^ n := Int.natAbs_pow a n
  have hl : a.natAbs ^ n ≤ 16 ^ 100 := Nat.le_trans (Nat.pow_le_pow_left (by omega) n) (Nat.pow_le_pow_right (by decide) hn)
  rw [e, Nat.log2_lt (by have : 0 < a.natAbs ^ n := Nat.pow_pos (by omega); omega)]
  exact Nat.lt_of_le_of_lt hl (by decide +kernel)
theorem ln_W2_2 : True := by
  k_with_none
  k_with "binaryOp Pow int int" => (refine pow_p (by omega) (by omega) (by omega) (by omega) ?_)
  k_with "binaryOp FloorDiv int int" => ((with_reducible show wpAny _ _ (binaryOp _ (Value.int _ _) (Value.int (_ ^ _) _)) _ _ _); refine fdiv_p (by omega) (by omega) (by omega) ?_)
  k_with "enterM" => (refine wpAny_call ?_; refine' code_def ?k1 ?k2 ?k3 ?k4 ?k5 ?kA ?kF ?kK ?k6 ?k7 ?k8 ?k9 ?kB ?_ ?c2 ?c3 ?c4 ?c5; (case kA => exact rfl); (case kF => exact rfl); (case kK => assumption); (case k1 => k_asm); (case k2 => k_asm); (case k3 => k_asm); (case k4 => k_asm); (case k5 => k_asm); (case k6 => k_is); (case k7 => k_is); (case k8 => ktr_room); (case k9 => first | exact BindsTo.of_eq rfl | exact binds_K (by k_in) rfl (by k_is) rfl rfl rfl); (case c5 => decide); (case kB => exact locs rfl); (case c2 => exact rfl); (case c3 => exact rfl); (case c4 => exact rfl); k_whole; intro g' L' h' FG' F' N' B' X' T'; (try dsimp only); (try k_lift B'); (try k_fold))
  k_with "enterC" => (refine wpAny_call ?_; refine' code_defC ?k1 ?k2 ?k3 ?k4 ?k5 ?kA ?kF ?kK ?k6 ?k7 ?k8 ?k9 ?kB ?kD ?_ ?c2 ?c3 ?c4; (case kA => exact rfl); (case kF => exact rfl); (case kK => assumption); (case k1 => k_asm); (case k2 => k_asm); (case k3 => k_asm); (case k4 => k_asm); (case k5 => k_asm); (case k6 => k_is); (case k7 => k_is); (case k8 => ktr_room); (case k9 => first | exact BindsTo.of_eq rfl | exact binds_K (by k_in) rfl (by k_is) rfl rfl rfl); (case kB => exact rfl); (case kD => decide +kernel); (case c2 => exact rfl); (case c3 => exact rfl); (case c4 => exact rfl); k_whole; intro g' L' h' tk' cells' FG' F' N' Y' B' X' T' l1; (try k_lt l1); k_cells Y'; (try simp only [List.cons_append, List.nil_append] at N'); (try dsimp only); (try k_lift B'); (try k_fold))
  k_with "exec While" => (refine my_start ?_)
  trivial
@[reducible] noncomputable def suBody : {x : List Stmt // bodyOf (pieceT 24) = x} := by
  refine ⟨?_, ?_⟩
  rotate_left
  · conv => lhs; whnf
@[reducible] noncomputable def suScope : {x : Scope // scopeOf (pieceT 24) = x} := by
  refine ⟨?_, ?_⟩
  rotate_left
  · conv => lhs; whnf
@[reducible] noncomputable def suLoop : {x : List Stmt // bodyOf (suBody.1.getD 1 default) = x} := by
  refine ⟨?_, ?_⟩
  rotate_left
  · conv => lhs; whnf
@[reducible] noncomputable def suTest : {x : PySem.Expr // testOf (suBody.1.getD 1 default) = x} := by
  refine ⟨?_, ?_⟩
  rotate_left
  · conv => lhs; whnf
noncomputable abbrev suEnv (L : Addr) : Env := envOfC "_law_sums" suScope.1 L 745 (.ref 744)
theorem ln_W2_3 : True := by
  k_with_none
  k_with "binaryOp Pow int int" => (refine pow_p (by omega) (by omega) (by omega) (by omega) ?_)
  k_with "binaryOp FloorDiv int int" => ((with_reducible show wpAny _ _ (binaryOp _ (Value.int _ _) (Value.int (_ ^ _) _)) _ _ _); refine fdiv_p (by omega) (by omega) (by omega) ?_)
  k_with "enterM" => (refine wpAny_call ?_; refine' code_def ?k1 ?k2 ?k3 ?k4 ?k5 ?kA ?kF ?kK ?k6 ?k7 ?k8 ?k9 ?kB ?_ ?c2 ?c3 ?c4 ?c5; (case kA => exact rfl); (case kF => exact rfl); (case kK => assumption); (case k1 => k_asm); (case k2 => k_asm); (case k3 => k_asm); (case k4 => k_asm); (case k5 => k_asm); (case k6 => k_is); (case k7 => k_is); (case k8 => ktr_room); (case k9 => first | exact BindsTo.of_eq rfl | exact binds_K (by k_in) rfl (by k_is) rfl rfl rfl); (case c5 => decide); (case kB => exact locs rfl); (case c2 => exact rfl); (case c3 => exact rfl); (case c4 => exact rfl); k_whole; intro g' L' h' FG' F' N' B' X' T'; (try dsimp only); (try k_lift B'); (try k_fold))
  k_with "enterC" => (refine wpAny_call ?_; refine' code_defC ?k1 ?k2 ?k3 ?k4 ?k5 ?kA ?kF ?kK ?k6 ?k7 ?k8 ?k9 ?kB ?kD ?_ ?c2 ?c3 ?c4; (case kA => exact rfl); (case kF => exact rfl); (case kK => assumption); (case k1 => k_asm); (case k2 => k_asm); (case k3 => k_asm); (case k4 => k_asm); (case k5 => k_asm); (case k6 => k_is); (case k7 => k_is); (case k8 => ktr_room); (case k9 => first | exact BindsTo.of_eq rfl | exact binds_K (by k_in) rfl (by k_is) rfl rfl rfl); (case kB => exact rfl); (case kD => decide +kernel); (case c2 => exact rfl); (case c3 => exact rfl); (case c4 => exact rfl); k_whole; intro g' L' h' tk' cells' FG' F' N' Y' B' X' T' l1; (try k_lt l1); k_cells Y'; (try simp only [List.cons_append, List.nil_append] at N'); (try dsimp only); (try k_lift B'); (try k_fold))
  k_with "exec While" => (refine my_start ?_)
  k_with "eval Name" => (k_here; k_dflt (refine' nameX_L ?F ?v ?_ ?a ?b; (case F => k_asm); (case a => rfl); (case b => rfl); (case v => assumption); k_whole))
  k_with "subscriptTail" => (k_here; (with_reducible show wpAny _ _ (subscriptTail _ _ (Value.ref _) (Value.int (-1) _)) _ _ _); k_dflt (refine' item_list_ints_neg ?l ?i ?a ?b ?c ?_; (case l => is_list); (case i => assumption); (case a => decide); (case b => omega); (case c => decide)); intro t9)
  trivial
section
variable (w : World) (p : Program) (loose : List Str) (mean : ExcName → Option Value) (mg mb : Str → Option Value)
variable (dp un : Nat) (gd : Option (List Code)) (cn : Str) (cs : Scope) (ad : Addr) (ccd : Value) (cl : List (Str × Addr)) (outer : List Env) (base g : Heap) (L L' : Addr) (E : Value → Shared → Prop) (Q : Flow → Shared → Prop) (R : Shared → Prop)
   (hBe : Below (ktrTop dp un gd cn cs L ad ccd cl outer) base (envX cn cs L ad ccd cl :: outer) g) (hX : (K2 w.params).In g) (hT : Top p loose mean mg mb g) (hdp : dp + 20 < recursionLimit) (hun : un + 160 < cLine)
set_option maxHeartbeats 400000 in
include hBe hX hT hdp hun in
theorem turnSu (own : List (Addr × Obj)) (D : Nat) (nn : Nat) (mm : Str → Option Value) (hm : mm (Str.ofString "sums") = some (.ref D)) (us : List Value) (l : List Int) (s : Shared) (hI : IntsAre us l) (hl0 : 0 < l.length) (hl6 : l.length ≤ 6) (ho : ∀ z ∈ own, z.1 ≠ D)
    (hF : Fr g L' s.heap mm) (hN : News g L' s.heap ((D, listOf us.toArray nn) :: own))
    (H1 : l.getLastD 0 = 0 → ∀ h' tk' us', IntsAre us' l.dropLast → Fr g L' h' mm → News g L' h' ((D, listOf us'.toArray (nn + 1)) :: own) → R { s with heap := h', toks := tk' })
    (H2 : l.getLastD 0 ≠ 0 → ∀ h' tk', Fr g L' h' mm → News g L' h' ((D, listOf us.toArray nn) :: own) → Q .next { s with heap := h', toks := tk' }) :
    wpAny (model PySem.Challenge.rw_nb0270_01.row.prog w) ((ktrTop dp un gd cn cs L ad ccd cl outer).deeper (suEnv L')) (isTrue suTest.1 (suEnv L') (eval suTest.1 (suEnv L'))) (fun b s₂ => WhlIf b (wpAny (model PySem.Challenge.rw_nb0270_01.row.prog w) ((ktrTop dp un gd cn cs L ad ccd cl outer).deeper (suEnv L')) (execs suLoop.1 (suEnv L')) (PostR R Q) E s₂) (wpAny (model PySem.Challenge.rw_nb0270_01.row.prog w) ((ktrTop dp un gd cn cs L ad ccd cl outer).deeper (suEnv L')) (execs [] (suEnv L')) Q E s₂)) E s := by
  have hlen := hI.length
  revert hX
  k_fill
  intro hX
  k_steps
  · exact absurd (of_decide_eq_true (by assumption)) (List.ne_nil_of_length_pos hl0)
  · dsimp only [PostR]
    exact H1 (by rw [← getD_last]; assumption) _ _ _ (by assumption) (by k_asm) (news_tl (by assumption))
  · exact H2 (by rw [← getD_last]; assumption) _ _ (by k_asm) (news_tl (by assumption))
set_option maxHeartbeats 400000 in
include hBe hX hT hdp hun in
theorem turnSu0 (own : List (Addr × Obj)) (D : Nat) (nn : Nat) (mm : Str → Option Value) (hm : mm (Str.ofString "sums") = some (.ref D)) (us : List Value) (s : Shared) (hI : IntsAre us [])
    (hF : Fr g L' s.heap mm) (hN : News g L' s.heap ((D, listOf us.toArray nn) :: own))
    (H2 : ∀ h' tk', Fr g L' h' mm → News g L' h' ((D, listOf us.toArray nn) :: own) → Q .next { s with heap := h', toks := tk' }) :
    wpAny (model PySem.Challenge.rw_nb0270_01.row.prog w) ((ktrTop dp un gd cn cs L ad ccd cl outer).deeper (suEnv L')) (isTrue suTest.1 (suEnv L') (eval suTest.1 (suEnv L'))) (fun b s₂ => WhlIf b (wpAny (model PySem.Challenge.rw_nb0270_01.row.prog w) ((ktrTop dp un gd cn cs L ad ccd cl outer).deeper (suEnv L')) (execs suLoop.1 (suEnv L')) (PostR R Q) E s₂) (wpAny (model PySem.Challenge.rw_nb0270_01.row.prog w) ((ktrTop dp un gd cn cs L ad ccd cl outer).deeper (suEnv L')) (execs [] (suEnv L')) Q E s₂)) E s := by
  cases hI
  revert hX
  k_fill
  intro hX
  k_steps
  exact H2 _ _ (by k_asm) (news_tl (by assumption))
variable (hE : PassesOwn (model PySem.Challenge.rw_nb0270_01.row.prog w) ((ktrTop dp un gd cn cs L ad ccd cl outer).deeper (suEnv L')) (suEnv L') E)
include hBe hX hT hdp hun hE in
theorem loopSu (own : List (Addr × Obj)) (D : Nat) (mm : Str → Option Value) (hm : mm (Str.ofString "sums") = some (.ref D)) (ho : ∀ z ∈ own, z.1 ≠ D) : ∀ (f : Nat) (nn : Nat) (us : List Value) (l : List Int) (s : Shared), l.length = f → l.length ≤ 6 → IntsAre us l →
    Fr g L' s.heap mm → News g L' s.heap ((D, listOf us.toArray nn) :: own) →
    (∀ h' tk' us' nn', IntsAre us' (trimI l) → Fr g L' h' mm → News g L' h' ((D, listOf us'.toArray nn') :: own) → Q .next { s with heap := h', toks := tk' }) →
    WhlRest PySem.Challenge.rw_nb0270_01.row.prog w ((ktrTop dp un gd cn cs L ad ccd cl outer).deeper (suEnv L')) E (suEnv L') suTest.1 suLoop.1 [] Q 1 s := by
  intro f
  induction f with
  | zero =>
    intro nn us l s h1 h2 hI hF hN H
    have : l = [] := List.length_eq_zero_iff.mp h1
    subst this
    exact whl_turnR hE (R := fun _ => False) (fun _ h => h.elim) (turnSu0 w p loose mean mg mb dp un gd cn cs ad ccd cl outer base g L L' E Q _ hBe hX hT hdp hun own D nn mm hm us s hI hF hN fun h' tk' F' N' => H h' tk' us nn hI F' N')
  | succ f ih =>
    intro nn us l s h1 h2 hI hF hN H
    refine whl_turnR hE (R := WhlRest PySem.Challenge.rw_nb0270_01.row.prog w ((ktrTop dp un gd cn cs L ad ccd cl outer).deeper (suEnv L')) E (suEnv L') suTest.1 suLoop.1 [] Q 0) (fun _ h => h) (turnSu w p loose mean mg mb dp un gd cn cs ad ccd cl outer base g L L' E Q _ hBe hX hT hdp hun own D nn mm hm us l s hI (by omega) h2 ho hF hN (fun hz h' tk' us' I' F' N' => ?_) (fun hz h' tk' F' N' => ?_))
    · refine ih (nn + 1) us' l.dropLast { s with heap := h', toks := tk' } (by simp; omega) (by simp; omega) I' F' N' fun h' tk' us' nn' I' F' N' => H h' tk' us' nn' ?_ F' N'
      rw [trimI_last (by omega), if_pos hz]
      exact I'
    · refine H h' tk' us nn ?_ F' N'
      rw [trimI_last (by omega), if_neg hz]
      exact hI
end
theorem off_all {D : Addr} : ∀ {l : List (Addr × Obj)}, LCg.Off1 D l → ∀ z ∈ l, z.1 ≠ D
  | [], _, _, h => by cases h
  | p :: r, o, z, h => by
    rcases List.mem_cons.mp h with rfl | h
    · exact o.1
    · exact off_all o.2 z h
theorem ln_W2_4 : True := by
  k_with_none
  k_with "binaryOp Pow int int" => (refine pow_p (by omega) (by omega) (by omega) (by omega) ?_)
  k_with "binaryOp FloorDiv int int" => ((with_reducible show wpAny _ _ (binaryOp _ (Value.int _ _) (Value.int (_ ^ _) _)) _ _ _); refine fdiv_p (by omega) (by omega) (by omega) ?_)
  k_with "enterM" => (refine wpAny_call ?_; refine' code_def ?k1 ?k2 ?k3 ?k4 ?k5 ?kA ?kF ?kK ?k6 ?k7 ?k8 ?k9 ?kB ?_ ?c2 ?c3 ?c4 ?c5; (case kA => exact rfl); (case kF => exact rfl); (case kK => assumption); (case k1 => k_asm); (case k2 => k_asm); (case k3 => k_asm); (case k4 => k_asm); (case k5 => k_asm); (case k6 => k_is); (case k7 => k_is); (case k8 => ktr_room); (case k9 => first | exact BindsTo.of_eq rfl | exact binds_K (by k_in) rfl (by k_is) rfl rfl rfl); (case c5 => decide); (case kB => exact locs rfl); (case c2 => exact rfl); (case c3 => exact rfl); (case c4 => exact rfl); k_whole; intro g' L' h' FG' F' N' B' X' T'; (try dsimp only); (try k_lift B'); (try k_fold))
  k_with "enterC" => (refine wpAny_call ?_; refine' code_defC ?k1 ?k2 ?k3 ?k4 ?k5 ?kA ?kF ?kK ?k6 ?k7 ?k8 ?k9 ?kB ?kD ?_ ?c2 ?c3 ?c4; (case kA => exact rfl); (case kF => exact rfl); (case kK => assumption); (case k1 => k_asm); (case k2 => k_asm); (case k3 => k_asm); (case k4 => k_asm); (case k5 => k_asm); (case k6 => k_is); (case k7 => k_is); (case k8 => ktr_room); (case k9 => first | exact BindsTo.of_eq rfl | exact binds_K (by k_in) rfl (by k_is) rfl rfl rfl); (case kB => exact rfl); (case kD => decide +kernel); (case c2 => exact rfl); (case c3 => exact rfl); (case c4 => exact rfl); k_whole; intro g' L' h' tk' cells' FG' F' N' Y' B' X' T' l1; (try k_lt l1); k_cells Y'; (try simp only [List.cons_append, List.nil_append] at N'); (try dsimp only); (try k_lift B'); (try k_fold))
  k_with "exec While" => (refine my_start ?_)
  k_with "eval Name" => (k_here; k_dflt (refine' nameX_L ?F ?v ?_ ?a ?b; (case F => k_asm); (case a => rfl); (case b => rfl); (case v => assumption); k_whole))
  k_with "subscriptTail" => (k_here; (with_reducible show wpAny _ _ (subscriptTail _ _ (Value.ref _) (Value.int (-1) _)) _ _ _); k_dflt (refine' item_list_ints_neg ?l ?i ?a ?b ?c ?_; (case l => is_list); (case i => assumption); (case a => decide); (case b => omega); (case c => decide)); intro t9)
  k_with "exec While" => (refine my_start ?_)
  trivial
section
variable (w : World) (p : Program) (loose : List Str) (mean : ExcName → Option Value) (mg mb : Str → Option Value)
set_option maxHeartbeats 1000000 in
theorem sums_call (n m pp : Int) (tn tm tp : Tok) (hn0 : 0 ≤ n) (hn1 : n < 64) (hm0 : 0 ≤ m) (hm1 : m < 64) (hp0 : 2 ≤ pp) (hp1 : pp ≤ 7) (own : List (Addr × Obj)) :
  CtxW 40 320 w p loose mean mg mb 745 [.int n tn, .int m tm, .int pp tp] own fun Q h₀ L mm s =>
    ∀ h' tk' l nn ys, IntsAre ys (trimI (digsI n m pp)) → (∀ z ∈ own, z.1 ≠ l) → Fr h₀ L h' mm → News h₀ L h' ((l, listOf ys.toArray nn) :: own) → Q (.ref l) { s with heap := h', toks := tk' } := by
  unfold CtxW
  k_fill
  intros
  rename_i hret
  k_dflt (walk_at "enterC")
  k_steps
  unfold MyLoop
  rename_i hoff
  refine' loopSu w p loose mean mg mb _ _ _ _ _ _ _ _ _ _ _ _ _ _ _ ?b1 ?b2 ?b3 ?b4 ?b5 ?hE _ _ _ ?hm ?ho _ _ _ _ _ rfl ?hl ?hi ?f ?n ?tail
  case b1 => k_asm
  case b2 => k_asm
  case b3 => k_asm
  case f => k_asm
  case n => k_asm
  case b4 => omega
  case b5 => omega
  case hm => rfl
  case hi => assumption
  case hl => rw [List.length_map, rangeKs_length]; decide
  case ho => exact off_all (l := (_, _) :: (_, _) :: (_, _) :: _) hoff
  case hE => first | passes_own | with_unfolding_all passes_own
  case tail =>
    intro h' tk' ys' nn' I' F' N'
    k_steps
    all_goals exact hret _ _ _ _ _ I' (off_all hoff.2.2.2) (by k_asm) (by refine' cb_drop ?cbN ?cbS; (case cbN => assumption); (case cbS => kcj_all))
end
theorem ln_W2_z : True := by
  k_with_none
  trivial
/-! TK -/
/-! lists of texts, none empty -/
abbrev TK := Nat × List Nat × Tok
abbrev tkV (x : TK) : Value := .str (SS (x.1 :: x.2.1)) x.2.2
abbrev tkVs (l : List TK) : List Value := l.map tkV
def tkAt (l : List TK) (k : Int) : TK := l.getD k.toNat (65, [], 0)
theorem tkAt_get {l : List TK} {k : Int} (h0 : 0 ≤ k) (h1 : k < (l.length : Int)) : (tkVs l).toArray[k.toNat]? = some (tkV (tkAt l k)) := by
  have h : k.toNat < l.length := by omega
  unfold tkAt
  rw [List.getD_eq_getElem?_getD]
  simp [h]
section
variable {prog : Program} {w : World} {A : Around} {E : Value → Shared → Prop} {s : Shared} {T : Addr} {l : List TK}
theorem len_tok {Q : Value → Shared → Prop} (hl : s.heap.IsList T (tkVs l).toArray) (h6 : l.length ≤ 100) (h : ∀ t tk, Q (.int (l.length : Int) t) { s with toks := tk }) : wpAny (model prog w) A (call (.builtin "len") [.ref T]) Q E s := by
  have e : (tkVs l).toArray.size = l.length := by simp
  refine len_list hl (by rw [e]; omega) ?_
  rw [e]
  exact h _ _
theorem item_tok {value slice : PySem.Expr} {k : Int} {u : Tok} {Q : Value → Shared → Prop} (hl : s.heap.IsList T (tkVs l).toArray) (h0 : 0 ≤ k) (h1 : k < (l.length : Int)) (h6 : l.length ≤ 100) (h : Q (.str (SS ((tkAt l k).1 :: (tkAt l k).2.1)) (tkAt l k).2.2) s)
    (hs : subscripted slice false (.ref T) (.int k u) = operate [.ref T, .int k u] (getItem (.ref T) (.int k u)) := by with_unfolding_all rfl) (hg : ∀ r, letTemporaryGo value (.ref T) r = pure () := by intro _; with_unfolding_all rfl) :
    wpAny (model prog w) A (subscriptTail value slice (.ref T) (.int k u)) Q E s :=
  item_list hl h0 (by omega) (tkAt_get h0 h1) h hs hg
theorem slice_first {c : Nat} {r : List Nat} : Txt.slice (SS (c :: r)) none (some 1) = SS [c] := by
  have hi : Builtin.Str.strSliceIndices none (some 1) 1 (SS (c :: r)).length = [0] := by
    unfold Builtin.Str.strSliceIndices
    have e1 : (((SS (c :: r)).length : Nat) : Int) = (r.length : Int) + 1 := by simp [Str.length]
    show sliceRange (if (1 : Int) > 0 then (0 : Int) else _) (if (1 : Int) > 0 then max 0 (min (if (1 : Int) < 0 then 1 + ((SS (c :: r)).length : Int) else 1) ((SS (c :: r)).length : Int)) else _) 1 = _
    rw [e1]
    have e2 : max 0 (min (if (1 : Int) < 0 then 1 + ((r.length : Int) + 1) else 1) ((r.length : Int) + 1)) = 1 := by
      rw [if_neg (by decide)]; omega
    rw [if_pos (by decide), if_pos (by decide), e2]
    decide
  unfold Txt.slice
  rw [hi]
  by_cases hb : ((1 : Int) == 1 && ([0] : List Nat).length == (SS (c :: r)).length) = true
  · rw [if_pos hb]
    have hl : r = [] := by
      have : 1 = r.length + 1 := by simpa [Str.length] using hb
      exact List.length_eq_zero_iff.mp (by omega)
    rw [hl]
  · rw [if_neg hb]
    rfl
theorem ne_chr {c d : Nat} {t u : Tok} {Q : Value → Shared → Prop} (h : Q (.bool (c != d)) s) : wpAny (model prog w) A (compareOp .NotEq (.str (SS [c]) t) (.str (SS [d]) u)) Q E s := by
  refine PyProof.Rows.ne_str ?_
  have e : ((SS [c] : Str) != SS [d]) = (c != d) := by
    rw [Bool.eq_iff_iff, bne_iff_ne, bne_iff_ne]
    exact ⟨fun h e => h (e ▸ rfl), fun h e => h (by injection e with e; injection e with e; injection e)⟩
  rw [e]
  exact h
theorem eq_chr2 {c d : Nat} {t u : Tok} {Q : Value → Shared → Prop} (h : Q (.bool (c == d)) s) : wpAny (model prog w) A (compareOp .Eq (.str (SS [c]) t) (.str (SS [d]) u)) Q E s := by
  refine PyProof.Rows.eq_str ?_
  have e : ((SS [c] : Str) == SS [d]) = (c == d) := by
    rw [Bool.eq_iff_iff, beq_iff_eq, beq_iff_eq]
    exact ⟨fun e => by injection e with e; injection e with e; injection e, fun e => e ▸ rfl⟩
  rw [e]
  exact h
theorem gt_chr {c d : Nat} {t u : Tok} {Q : Value → Shared → Prop} (h : Q (.bool (decide (d < c))) s) : wpAny (model prog w) A (compareOp .Gt (.str (SS [c]) t) (.str (SS [d]) u)) Q E s := by
  refine PySem.P.gt_str ?_
  have e : decide ((SS [d]).cps.toList < (SS [c]).cps.toList) = decide (d < c) := by
    by_cases h : d < c
    · rw [decide_eq_true h, decide_eq_true]
      exact List.Lex.rel h
    · rw [decide_eq_false h, decide_eq_false]
      intro hh
      cases hh with
      | rel h' => exact h h'
      | cons h' => cases h'
  rw [e]
  exact h
end
section
variable {prog : Program} {w : World} {A : Around} {E : Value → Shared → Prop} {s : Shared} {h₀ : Heap} {L : Addr} {m : Str → Option Value} {news : List (Addr × Obj)}
theorem slice_tok {value slice : PySem.Expr} {c : Nat} {r : List Nat} {t uj : Tok} {Q : Value → Shared → Prop} (hF : Fr h₀ L s.heap m) (hN : News h₀ L s.heap news) (hr : r.length ≤ 100) (h : ∀ h' t' k, Fr h₀ L h' m → News h₀ L h' news → Q (.str (SS [c]) t') { s with heap := h', toks := k })
    (hs : subscripted slice false (.str (SS (c :: r)) t) (.ref s.heap.objs.size) = operate [.ref s.heap.objs.size, .str (SS (c :: r)) t] (getItem (.str (SS (c :: r)) t) (.ref s.heap.objs.size)) := by with_unfolding_all rfl)
    (ht : ∀ r', letTemporaryGo value (.str (SS (c :: r)) t) r' = pure () := by intro _; with_unfolding_all rfl) :
    wpAny (model prog w) A (subscriptTail value slice (.str (SS (c :: r)) t) (.ref s.heap.objs.size)) Q E { s with heap := s.heap.push { cls := .type "slice", data := .fields #[.none, .int 1 uj, .none] } } := by
  refine slice_strN_ns hF hN (fun h' t' k F N => ?_) hs ht (by show r.length + 1 ≤ 2 ^ 24; omega)
  rw [slice_first]
  exact h h' t' k F N
end
/-! a comprehension over a text's signs, with a test -/
def StrSrc (prog : Program) (w : World) (A : Around) (h₀ : Heap) (L : Addr) (m : Str → Option Value) (env : Env) (ct elt : PySem.Expr) (x : Str) (scope : Scope) (cl : List (Str × Addr)) (Fin : Shared → List Value → List (Addr × Obj) → Prop) (xv : Value) (s₁ : Shared) : Prop :=
  ∃ X t news, xv = .str X t ∧ X.cps.all (· < 128) = true ∧ A.handled = none ∧ Fr h₀ L s₁.heap m ∧ News h₀ L s₁.heap news ∧ X.cps.size ≤ sizeLine ∧
    ∀ s₂ : Shared, (∃ h, s₂ = { s₁ with heap := h }) → LCt.CompRestT prog w A h₀ L m env ct elt x scope cl s₂ (fun _ => True) (SignAt X) (Fin s₂) X.cps.size 0 [] news
section
open LCg LCt
variable {prog : Program} {w : World} {A : Around} {E : Value → Shared → Prop} {s : Shared} {h₀ : Heap} {L : Addr} {m : Str → Option Value} {env : Env}
theorem comp_str {ct elt iter : PySem.Expr} {x : Str} {px : Pos} {scope : Scope} {cl : List (Str × Addr)} {pos : Pos} {Q : Value → Shared → Prop} (F₀ : Fr h₀ L s.heap m)
    (hclos : closureFor scope env = pure cl) (hcell : ∀ y ∈ scope.names, y.2 ≠ .cell) (hkind : scope.kind = .function)
    (hnames : ∀ y ∈ scope.names, y.2 = .local → scope.names.lookup y.1 = some .local) (hx : scope.names.lookup x = some .local)
    (h : wpAny (model prog w) A (eval iter env) (StrSrc prog w A h₀ L m env ct elt x scope cl (fun s₂ => FinE h₀ L m s₂ Q)) E s)
    (hs : ∀ x, foldedSetIterable iter env x = pure x := by intro _; rfl) :
    wpAny (model prog w) A (eval (.ListComp elt [⟨.Name x px, iter, [ct], 0⟩] scope pos) env) Q E s := by
  rw [eval_ListComp]
  refine wpAny_comprehension_free (use := none) rfl hs hclos hkind hnames (wpAny_mono h (fun xv s₁ h₁ => ?_) fun _ _ e => e)
  obtain ⟨X, t, news, rfl, ha, hh, F, N, hsz, R⟩ := h₁
  refine wpAny_pyIter_ascii ha ?_
  refine block_T (Walks.strAscii hh s₁.heap.objs.size X t) hsz (fun i h st => by obtain ⟨o, e, _⟩ := st; exact ⟨o, e⟩) (fun i h h' o nw st e e' _ _ _ => by
      obtain ⟨o1, e1, r⟩ := st
      rw [e] at e1
      cases e1
      exact ⟨o, e', r⟩) hcell hkind hx ⟨_, Heap.get?_push_size _ rfl, rfl, rfl⟩ (fun b hb => ?_)
      (F.keeps fun _ _ e => Heap.get?_push_of_some _ e) (N.grown fun _ _ e => Heap.get?_push_of_some _ e) (Nat.ne_of_lt F.ns.lt) (next_is_new F) (fun p hp => Nat.ne_of_lt (Heap.lt_size (N p hp).1)) trivial (R _ ⟨_, rfl⟩) ?_
  · rw [List.mem_singleton.mp hb]
    show s₁.heap.objs.size < (s₁.heap.push _).objs.size
    rw [Heap.size_push]; exact Nat.lt_succ_self _
  · intro D C h tk m' ys news' F' N' o1 hn hC₀ hD₀ hCL hDL hCD offC fin
    refine ⟨m', hn, fun h'' hs'' => fin D h'' tk (F'.change hs'' hCL hC₀) (fun p hp => ?_) o1⟩
    refine ⟨hs''.extBut _ _ ?_ (N' p hp).1, (N' p hp).2⟩
    rcases List.mem_cons.mp hp with rfl | hp
    · exact Ne.symm hCD
    · exact offC p hp
end
theorem len_ys {prog : Program} {w : World} {A : Around} {E : Value → Shared → Prop} {s : Shared} {D : Addr} {ys : List Value} {N : Nat} {Q : Value → Shared → Prop} (hl : s.heap.IsList D ys.toArray) (hy : ys.length = N) (hN : N ≤ 1000) (h : ∀ t tk, Q (.int (N : Int) t) { s with toks := tk }) : wpAny (model prog w) A (call (.builtin "len") [.ref D]) Q E s := by
  have e : ys.toArray.size = N := by simpa using hy
  refine len_list hl (by rw [e]; omega) ?_
  rw [e]
  exact h _ _
structure TkOk (l : List TK) : Prop where
  n : l.length ≤ 100
  r : ∀ x ∈ l, x.2.1.length ≤ 100
  a : ∀ x ∈ l, ∀ c ∈ x.1 :: x.2.1, 65 ≤ c ∧ c ≤ 77
theorem tkAt_mem {l : List TK} {k : Int} : tkAt l k ∈ l ∨ tkAt l k = (65, [], 0) := by
  unfold tkAt
  rw [List.getD_eq_getElem?_getD]
  cases h : l[k.toNat]? with
  | none => exact .inr rfl
  | some x => exact .inl (List.mem_of_getElem? h)
theorem TkOk.len {l : List TK} (h : TkOk l) (k : Int) : (tkAt l k).2.1.length ≤ 100 := by
  rcases tkAt_mem (l := l) (k := k) with e | e
  · exact h.r _ e
  · rw [e]; decide
theorem TkOk.all {l : List TK} (h : TkOk l) (k : Int) : ∀ c ∈ (tkAt l k).1 :: (tkAt l k).2.1, 65 ≤ c ∧ c ≤ 77 := by
  rcases tkAt_mem (l := l) (k := k) with e | e
  · exact h.a _ e
  · rw [e]; decide
theorem TkOk.ascii {l : List TK} (h : TkOk l) (k : Int) : (SS ((tkAt l k).1 :: (tkAt l k).2.1)).cps.all (· < 128) = true := by
  rw [← Array.all_toList]
  refine List.all_eq_true.mpr fun c hc => ?_
  have := h.all k c hc
  simp
  omega
theorem TkOk.size {l : List TK} (h : TkOk l) (k : Int) : (SS ((tkAt l k).1 :: (tkAt l k).2.1)).cps.size ≤ 1000 := by
  have := h.len k
  show (tkAt l k).2.1.length + 1 ≤ 1000
  omega
def SgEnd (a ok : Bool) (P R : Prop) : Prop := ok = a ∧ (if ok = true then P else R)
section
open LCg LCt
variable {prog : Program} {w : World} {A : Around} {h₀ : Heap} {L : Addr} {m : Str → Option Value} {env : Env} {ct elt : PySem.Expr} {x : Str} {scope : Scope} {cl : List (Str × Addr)} {s : Shared} {Fin : List Value → List (Addr × Obj) → Prop} {news : List (Addr × Obj)}
theorem sign_rest {X : Str} (p : Nat → Bool)
    (turn : ∀ c u I oI C oC D m₂ ys h tk (E' : Value → Shared → Prop), c ∈ X.cps.toList → NsObj oC m₂ → m₂ x = some (.str (SS [c]) u) → Fr h₀ L h m → News h₀ L h ((I, oI) :: (C, oC) :: (D, lst ys) :: news) → Off3 I C D news → ((@Ne Nat I C) ∧ (@Ne Nat I D) ∧ (@Ne Nat C D)) →
      wpAny (model prog w) A (isTrue ct (compEnvC scope cl C env) (eval ct (compEnvC scope cl C env))) (fun ok s' => SgEnd (p c) ok
        (wpAny (model prog w) A (eval elt (compEnvC scope cl C env)) (CompEnd h₀ L m { s with heap := h, toks := tk } I oI C oC D (lst ys) (fun _ => True) (fun _ news' => news' = news)) E' s')
        (CompEnd h₀ L m { s with heap := h, toks := tk } I oI C oC D (lst ys) (fun _ => True) (fun _ news' => news' = news) Value.none s')) E' { s with heap := h, toks := tk })
    (hz : X.cps.size ≤ 1000) (fin : ∀ ys, ys.length = (X.cps.toList.filter p).length → (X.cps.toList.filter p).length ≤ 1000 → Fin ys news) : CompRestT prog w A h₀ L m env ct elt x scope cl s (fun _ => True) (SignAt X) Fin X.cps.size 0 [] news := by
  have key : ∀ (j i : Nat) (ys : List Value), i + j = X.cps.size → ys.length = ((X.cps.toList.take i).filter p).length → CompRestT prog w A h₀ L m env ct elt x scope cl s (fun _ => True) (SignAt X) Fin j i ys news := by
    intro j
    induction j with
    | zero =>
      intro i ys hi hy
      have e : i = X.cps.toList.length := by simpa using hi
      subst e
      rw [List.take_length] at hy
      exact CompRestT.zero (fin ys hy (Nat.le_trans (List.length_filter_le _ _) (by simpa using hz)))
    | succ j ih =>
      intro i ys hi hy
      refine CompRestT.succ ?_
      intro v I oI C oC D m₂ h tk E' hv hC hx F N off ne
      obtain ⟨c, u, hc, rfl⟩ := hv
      have hc' : X.cps.toList[i]? = some c := by rw [Array.getElem?_toList]; exact hc
      have et : (X.cps.toList.take (i + 1)).filter p = (X.cps.toList.take i).filter p ++ [c].filter p := by
        rw [List.take_add_one, hc', Option.toList_some, List.filter_append]
      refine wpAny_mono (turn c u I oI C oC D m₂ ys h tk E' (List.mem_of_getElem? hc') hC hx F N off ne) (fun ok s₂ hq => ?_) fun _ _ e => e
      obtain ⟨ho, hq⟩ := hq
      subst ho
      by_cases hp : p c = true
      · rw [if_pos hp] at hq ⊢
        refine wpAny_mono hq (fun y s₃ hz => ?_) fun _ _ e => e
        obtain ⟨h', tk', nw, e, F', N', off', hS, hn⟩ := hz
        subst hn
        refine ⟨h', tk', nw, e, F', N', off', hS, ih (i + 1) _ (by omega) ?_⟩
        rw [et, List.length_append, List.length_append, hy, List.filter_cons_of_pos (by simpa using hp)]
        rfl
      · rw [if_neg hp] at hq ⊢
        obtain ⟨h', tk', nw, e, F', N', off', hS, hn⟩ := hq
        subst hn
        refine ⟨h', tk', nw, e, F', N', off', hS, ih (i + 1) _ (by omega) ?_⟩
        rw [et, List.length_append, hy, List.filter_cons_of_neg (by simpa using hp)]
        rfl
  exact key X.cps.size 0 [] (by omega) rfl
end
/-! W3 -/
theorem ln_W3_1 : True := by
  k_with_none
  k_with "enterC" => (refine wpAny_call ?_; refine' code_defC ?k1 ?k2 ?k3 ?k4 ?k5 ?kA ?kF ?kK ?k6 ?k7 ?k8 ?k9 ?kB ?kD ?_ ?c2 ?c3 ?c4; (case kA => exact rfl); (case kF => exact rfl); (case kK => assumption); (case k1 => k_asm); (case k2 => k_asm); (case k3 => k_asm); (case k4 => k_asm); (case k5 => k_asm); (case k6 => k_is); (case k7 => k_is); (case k8 => ktr_room); (case k9 => first | exact BindsTo.of_eq rfl | exact binds_K (by k_in) rfl (by k_is) rfl rfl rfl); (case kB => exact rfl); (case kD => decide +kernel); (case c2 => exact rfl); (case c3 => exact rfl); (case c4 => exact rfl); k_whole; intro g' L' h' tk' cells' FG' F' N' Y' B' X' T' l1; (try k_lt l1); k_cells Y'; (try simp only [List.cons_append, List.nil_append] at N'); (try dsimp only); (try k_lift B'); (try k_fold))
  k_with "call builtin:len" => (k_here; (with_reducible show wpAny _ _ (call (Value.builtin "len") [Value.ref _]) _ _ _); k_dflt (refine' len_ys ?l ?y ?n ?_; (case l => first | is_list | exact News.isList (by k_asm) (by first | k_mem | kcf_m)); (case y => assumption); (case n => assumption)); intro t9 tk9)
  k_with "call builtin:len" => (k_here; (with_reducible show wpAny _ _ (call (Value.builtin "len") [Value.ref _]) _ _ _); k_dflt (refine' len_tok ?l ?b ?_; (case l => first | is_list | exact News.isList (by k_asm) (by first | k_mem | kcf_m)); (case b => exact TkOk.n (by assumption))); intro t9 tk9)
  k_with "subscriptTail" => (k_here; (with_reducible show wpAny _ _ (subscriptTail _ _ (Value.ref _) (Value.int _ _)) _ _ _); k_dflt (refine' item_tok ?l ?a ?b ?c ?_; (case l => first | is_list | exact News.isList (by k_asm) (by first | k_mem | kcf_m)); (case a => omega); (case b => omega); (case c => exact TkOk.n (by assumption))))
  k_with "subscriptTail" => ((with_reducible show wpAny _ _ (subscriptTail _ (Expr.Slice none (some _) none _) (Value.str _ _) (Value.ref _)) _ _ _); (with_reducible rename Fr _ _ _ _ => F'); (with_reducible rename News _ _ _ _ => N'); k_dflt (refine slice_tok (s := ⟨_, _, _, _, _⟩) F' N' (TkOk.len (by assumption) _) ?_); intro h9 t9 k9 F9 N9)
  k_with "compareOp NotEq str str" => ((with_reducible show wpAny _ _ (compareOp _ (Value.str (SS [_]) _) (Value.str (SS [_]) _)) _ _ _); refine ne_chr ?_)
  k_with "CompEnd" => exact LCg.CompEnd.intro (by k_asm) (by assumption) _ (fun p hp => hp) (by assumption) trivial rfl
  k_with "compareOp Gt str str" => ((with_reducible show wpAny _ _ (compareOp _ (Value.str (SS [_]) _) (Value.str (SS [_]) _)) _ _ _); refine gt_chr ?_)
  k_with "eval ListComp" => (k_here; k_dflt (refine comp_str (F₀ := by k_asm) (by with_unfolding_all rfl) (by decide) (by rfl) (by decide) (by rfl) ?_))
  trivial
theorem TkOk.slen {l : List TK} (h : TkOk l) (k : Int) : ¬ ((SS ((tkAt l k).1 :: (tkAt l k).2.1)).length : Int) ≥ 2 ^ 63 := by
  have := h.len k
  show ¬ (((tkAt l k).2.1.length + 1 : Nat) : Int) ≥ 2 ^ 63
  omega
theorem ln_W3_2 : True := by
  k_with_none
  k_with "enterC" => (refine wpAny_call ?_; refine' code_defC ?k1 ?k2 ?k3 ?k4 ?k5 ?kA ?kF ?kK ?k6 ?k7 ?k8 ?k9 ?kB ?kD ?_ ?c2 ?c3 ?c4; (case kA => exact rfl); (case kF => exact rfl); (case kK => assumption); (case k1 => k_asm); (case k2 => k_asm); (case k3 => k_asm); (case k4 => k_asm); (case k5 => k_asm); (case k6 => k_is); (case k7 => k_is); (case k8 => ktr_room); (case k9 => first | exact BindsTo.of_eq rfl | exact binds_K (by k_in) rfl (by k_is) rfl rfl rfl); (case kB => exact rfl); (case kD => decide +kernel); (case c2 => exact rfl); (case c3 => exact rfl); (case c4 => exact rfl); k_whole; intro g' L' h' tk' cells' FG' F' N' Y' B' X' T' l1; (try k_lt l1); k_cells Y'; (try simp only [List.cons_append, List.nil_append] at N'); (try dsimp only); (try k_lift B'); (try k_fold))
  k_with "call builtin:len" => (k_here; (with_reducible show wpAny _ _ (call (Value.builtin "len") [Value.ref _]) _ _ _); k_dflt (refine' len_ys ?l ?y ?n ?_; (case l => first | is_list | exact News.isList (by k_asm) (by first | k_mem | kcf_m)); (case y => assumption); (case n => assumption)); intro t9 tk9)
  k_with "call builtin:len" => (k_here; (with_reducible show wpAny _ _ (call (Value.builtin "len") [Value.ref _]) _ _ _); k_dflt (refine' len_tok ?l ?b ?_; (case l => first | is_list | exact News.isList (by k_asm) (by first | k_mem | kcf_m)); (case b => exact TkOk.n (by assumption))); intro t9 tk9)
  k_with "subscriptTail" => (k_here; (with_reducible show wpAny _ _ (subscriptTail _ _ (Value.ref _) (Value.int _ _)) _ _ _); k_dflt (refine' item_tok ?l ?a ?b ?c ?_; (case l => first | is_list | exact News.isList (by k_asm) (by first | k_mem | kcf_m)); (case a => omega); (case b => omega); (case c => exact TkOk.n (by assumption))))
  k_with "subscriptTail" => ((with_reducible show wpAny _ _ (subscriptTail _ (Expr.Slice none (some _) none _) (Value.str _ _) (Value.ref _)) _ _ _); (with_reducible rename Fr _ _ _ _ => F'); (with_reducible rename News _ _ _ _ => N'); k_dflt (refine slice_tok (s := ⟨_, _, _, _, _⟩) F' N' (TkOk.len (by assumption) _) ?_); intro h9 t9 k9 F9 N9)
  k_with "compareOp NotEq str str" => ((with_reducible show wpAny _ _ (compareOp _ (Value.str (SS [_]) _) (Value.str (SS [_]) _)) _ _ _); refine ne_chr ?_)
  k_with "CompEnd" => exact LCg.CompEnd.intro (by k_asm) (by assumption) _ (fun p hp => hp) (by assumption) trivial rfl
  k_with "compareOp Gt str str" => ((with_reducible show wpAny _ _ (compareOp _ (Value.str (SS [_]) _) (Value.str (SS [_]) _)) _ _ _); refine gt_chr ?_)
  k_with "eval ListComp" => (k_here; k_dflt (refine comp_str (F₀ := by k_asm) (by with_unfolding_all rfl) (by decide) (by rfl) (by decide) (by rfl) ?_))
  k_with "call builtin:len" => ((with_reducible show wpAny _ _ (call (Value.builtin "len") [Value.str (SS (_ :: _)) _]) _ _ _); refine PySem.P.len_str (TkOk.slen (by assumption) _) ?_)
  k_with "SgEnd" => (refine ⟨rfl, ?_⟩)
  trivial
theorem nameC {M : Model} {A : Around} {E : Value → Shared → Prop} {s : Shared} {h₀ : Heap} {L a : Addr} {cn : Str} {cs : Scope} {ccd : Value} {x : Str} {pos : Pos} {v : Value} {Q : Value → Shared → Prop} {news : List (Addr × Obj)} {c : Addr} {o : Obj}
    (hk : cs.kind = .function) (hx : (envOfC cn cs L a ccd).kindOf x = some .cell) (hc : (cellsFrom (L + 1) cs.names []).lookup x = some c) (N : News h₀ L s.heap news) (hm : (c, o) ∈ news) (hd : o.data = .cell (some v)) (h : Q v s) (hb : (x == ("__debug__" : Str)) = false := by decide) :
    wpAny M A (eval (.Name x pos) (envOfC cn cs L a ccd)) Q E s := nameX_C (cl := cellsFrom (L + 1) cs.names []) N hc hm hd h hk hx hb
theorem ln_W3_3 : True := by
  k_with_none
  k_with "enterC" => (refine wpAny_call ?_; refine' code_defC ?k1 ?k2 ?k3 ?k4 ?k5 ?kA ?kF ?kK ?k6 ?k7 ?k8 ?k9 ?kB ?kD ?_ ?c2 ?c3 ?c4; (case kA => exact rfl); (case kF => exact rfl); (case kK => assumption); (case k1 => k_asm); (case k2 => k_asm); (case k3 => k_asm); (case k4 => k_asm); (case k5 => k_asm); (case k6 => k_is); (case k7 => k_is); (case k8 => ktr_room); (case k9 => first | exact BindsTo.of_eq rfl | exact binds_K (by k_in) rfl (by k_is) rfl rfl rfl); (case kB => exact rfl); (case kD => decide +kernel); (case c2 => exact rfl); (case c3 => exact rfl); (case c4 => exact rfl); k_whole; intro g' L' h' tk' cells' FG' F' N' Y' B' X' T' l1; (try k_lt l1); k_cells Y'; (try simp only [List.cons_append, List.nil_append] at N'); (try dsimp only); (try k_lift B'); (try k_fold))
  k_with "call builtin:len" => (k_here; (with_reducible show wpAny _ _ (call (Value.builtin "len") [Value.ref _]) _ _ _); k_dflt (refine' len_ys ?l ?y ?n ?_; (case l => first | is_list | exact News.isList (by k_asm) (by first | k_mem | kcf_m)); (case y => assumption); (case n => assumption)); intro t9 tk9)
  k_with "call builtin:len" => (k_here; (with_reducible show wpAny _ _ (call (Value.builtin "len") [Value.ref _]) _ _ _); k_dflt (refine' len_tok ?l ?b ?_; (case l => first | is_list | exact News.isList (by k_asm) (by first | k_mem | kcf_m)); (case b => exact TkOk.n (by assumption))); intro t9 tk9)
  k_with "subscriptTail" => (k_here; (with_reducible show wpAny _ _ (subscriptTail _ _ (Value.ref _) (Value.int _ _)) _ _ _); k_dflt (refine' item_tok ?l ?a ?b ?c ?_; (case l => first | is_list | exact News.isList (by k_asm) (by first | k_mem | kcf_m)); (case a => omega); (case b => omega); (case c => exact TkOk.n (by assumption))))
  k_with "subscriptTail" => ((with_reducible show wpAny _ _ (subscriptTail _ (Expr.Slice none (some _) none _) (Value.str _ _) (Value.ref _)) _ _ _); (with_reducible rename Fr _ _ _ _ => F'); (with_reducible rename News _ _ _ _ => N'); k_dflt (refine slice_tok (s := ⟨_, _, _, _, _⟩) F' N' (TkOk.len (by assumption) _) ?_); intro h9 t9 k9 F9 N9)
  k_with "compareOp NotEq str str" => ((with_reducible show wpAny _ _ (compareOp _ (Value.str (SS [_]) _) (Value.str (SS [_]) _)) _ _ _); refine ne_chr ?_)
  k_with "CompEnd" => exact LCg.CompEnd.intro (by k_asm) (by assumption) _ (fun p hp => hp) (by assumption) trivial rfl
  k_with "compareOp Gt str str" => ((with_reducible show wpAny _ _ (compareOp _ (Value.str (SS [_]) _) (Value.str (SS [_]) _)) _ _ _); refine gt_chr ?_)
  k_with "eval ListComp" => (k_here; k_dflt (refine comp_str (F₀ := by k_asm) (by with_unfolding_all rfl) (by decide) (by rfl) (by decide) (by rfl) ?_))
  k_with "call builtin:len" => ((with_reducible show wpAny _ _ (call (Value.builtin "len") [Value.str (SS (_ :: _)) _]) _ _ _); refine PySem.P.len_str (TkOk.slen (by assumption) _) ?_)
  k_with "SgEnd" => (refine ⟨rfl, ?_⟩)
  k_with "eval Name" => (k_here; k_dflt (refine' nameC ?a ?b ?c ?N ?m ?d ?_; (case a => rfl); (case b => rfl); (case c => rfl); (case N => k_asm); (case m => kcf_m); (case d => assumption)))
  trivial
def toldTurn (l : List TK) (pc : Nat) (k : Int) : Int :=
  if ((tkAt l k).1 != pc) = true then ((((tkAt l k).1 :: (tkAt l k).2.1).filter (fun c => decide (pc < c))).length : Int)
  else if k + 1 < (l.length : Int) ∧ pc < (tkAt l (k + 1)).1 then ((SS ((tkAt l k).1 :: (tkAt l k).2.1)).length : Int) else 0
theorem toldTurn_a {l : List TK} {pc : Nat} {k : Int} (h : ((tkAt l k).1 != pc) = true) : toldTurn l pc k = ((((tkAt l k).1 :: (tkAt l k).2.1).filter (fun c => decide (pc < c))).length : Int) := if_pos h
theorem toldTurn_b {l : List TK} {pc : Nat} {k : Int} (h : ((tkAt l k).1 != pc) = false) (h2 : k + 1 < (l.length : Int) ∧ pc < (tkAt l (k + 1)).1) : toldTurn l pc k = ((SS ((tkAt l k).1 :: (tkAt l k).2.1)).length : Int) := by
  unfold toldTurn
  rw [if_neg (by rw [h]; decide), if_pos h2]
theorem toldTurn_c {l : List TK} {pc : Nat} {k : Int} (h : ((tkAt l k).1 != pc) = false) (h2 : ¬ (k + 1 < (l.length : Int) ∧ pc < (tkAt l (k + 1)).1)) : toldTurn l pc k = 0 := by
  unfold toldTurn
  rw [if_neg (by rw [h]; decide), if_neg h2]
@[reducible] noncomputable def toBody : {x : List Stmt // bodyOf (pieceT 25) = x} := by
  refine ⟨?_, ?_⟩
  rotate_left
  · conv => lhs; whnf
@[reducible] noncomputable def toScope : {x : Scope // scopeOf (pieceT 25) = x} := by
  refine ⟨?_, ?_⟩
  rotate_left
  · conv => lhs; whnf
@[reducible] noncomputable def toLoop : {x : List Stmt // bodyOf (toBody.1.getD 1 default) = x} := by
  refine ⟨?_, ?_⟩
  rotate_left
  · conv => lhs; whnf
noncomputable abbrev toEnv (L : Addr) : Env := envOfC "_law_told" toScope.1 L 750 (.ref 749)
abbrev mTo (k : Int) (t : Tok) (a : Int) (ta : Tok) (m₀ : Str → Option Value) : Str → Option Value := fun z => if z = Str.ofString "k" then some (.int k t) else if z = Str.ofString "count" then some (.int a ta) else m₀ z
theorem fr_cnt {g h : Heap} {L : Addr} {k : Int} {t : Tok} {a : Int} {ta : Tok} {m₀ : Str → Option Value} (F : Fr g L h (mTo k t a ta m₀)) : Fr g L h (fun z => if z = Str.ofString "count" then some (.int (a + 0) ta) else mTo k t a ta m₀ z) := by
  have e : (fun z => if z = Str.ofString "count" then some (.int (a + 0) ta) else mTo k t a ta m₀ z) = mTo k t a ta m₀ := by
    funext z
    by_cases h : z = Str.ofString "count"
    · subst h
      rw [if_pos rfl, Int.add_zero]
      show _ = if _ then _ else _
      rw [if_neg (by decide +kernel), if_pos rfl]
    · rw [if_neg h]
  rw [e]
  exact F
theorem ln_W3_4 : True := by
  k_with_none
  k_with "enterC" => (refine wpAny_call ?_; refine' code_defC ?k1 ?k2 ?k3 ?k4 ?k5 ?kA ?kF ?kK ?k6 ?k7 ?k8 ?k9 ?kB ?kD ?_ ?c2 ?c3 ?c4; (case kA => exact rfl); (case kF => exact rfl); (case kK => assumption); (case k1 => k_asm); (case k2 => k_asm); (case k3 => k_asm); (case k4 => k_asm); (case k5 => k_asm); (case k6 => k_is); (case k7 => k_is); (case k8 => ktr_room); (case k9 => first | exact BindsTo.of_eq rfl | exact binds_K (by k_in) rfl (by k_is) rfl rfl rfl); (case kB => exact rfl); (case kD => decide +kernel); (case c2 => exact rfl); (case c3 => exact rfl); (case c4 => exact rfl); k_whole; intro g' L' h' tk' cells' FG' F' N' Y' B' X' T' l1; (try k_lt l1); k_cells Y'; (try simp only [List.cons_append, List.nil_append] at N'); (try dsimp only); (try k_lift B'); (try k_fold))
  k_with "call builtin:len" => (k_here; (with_reducible show wpAny _ _ (call (Value.builtin "len") [Value.ref _]) _ _ _); k_dflt (refine' len_ys ?l ?y ?n ?_; (case l => first | is_list | exact News.isList (by k_asm) (by first | k_mem | kcf_m)); (case y => assumption); (case n => assumption)); intro t9 tk9)
  k_with "call builtin:len" => (k_here; (with_reducible show wpAny _ _ (call (Value.builtin "len") [Value.ref _]) _ _ _); k_dflt (refine' len_tok ?l ?b ?_; (case l => first | is_list | exact News.isList (by k_asm) (by first | k_mem | kcf_m)); (case b => exact TkOk.n (by assumption))); intro t9 tk9)
  k_with "subscriptTail" => (k_here; (with_reducible show wpAny _ _ (subscriptTail _ _ (Value.ref _) (Value.int _ _)) _ _ _); k_dflt (refine' item_tok ?l ?a ?b ?c ?_; (case l => first | is_list | exact News.isList (by k_asm) (by first | k_mem | kcf_m)); (case a => omega); (case b => omega); (case c => exact TkOk.n (by assumption))))
  k_with "subscriptTail" => ((with_reducible show wpAny _ _ (subscriptTail _ (Expr.Slice none (some _) none _) (Value.str _ _) (Value.ref _)) _ _ _); (with_reducible rename Fr _ _ _ _ => F'); (with_reducible rename News _ _ _ _ => N'); k_dflt (refine slice_tok (s := ⟨_, _, _, _, _⟩) F' N' (TkOk.len (by assumption) _) ?_); intro h9 t9 k9 F9 N9)
  k_with "compareOp NotEq str str" => ((with_reducible show wpAny _ _ (compareOp _ (Value.str (SS [_]) _) (Value.str (SS [_]) _)) _ _ _); refine ne_chr ?_)
  k_with "CompEnd" => exact LCg.CompEnd.intro (by k_asm) (by assumption) _ (fun p hp => hp) (by assumption) trivial rfl
  k_with "compareOp Gt str str" => ((with_reducible show wpAny _ _ (compareOp _ (Value.str (SS [_]) _) (Value.str (SS [_]) _)) _ _ _); refine gt_chr ?_)
  k_with "eval ListComp" => (k_here; k_dflt (refine comp_str (F₀ := by k_asm) (by with_unfolding_all rfl) (by decide) (by rfl) (by decide) (by rfl) ?_))
  k_with "call builtin:len" => ((with_reducible show wpAny _ _ (call (Value.builtin "len") [Value.str (SS (_ :: _)) _]) _ _ _); refine PySem.P.len_str (TkOk.slen (by assumption) _) ?_)
  k_with "SgEnd" => (refine ⟨rfl, ?_⟩)
  k_with "eval Name" => (k_here; k_dflt (refine' nameC ?a ?b ?c ?N ?m ?d ?_; (case a => rfl); (case b => rfl); (case c => rfl); (case N => k_asm); (case m => kcf_m); (case d => assumption)))
  k_with "eval Name" => (k_here; k_dflt (refine' nameX_L ?F ?v ?_ ?a ?b; (case F => k_asm); (case a => rfl); (case b => rfl); (case v => first | rfl | assumption); k_whole))
  trivial
section
variable (w : World) (p : Program) (loose : List Str) (mean : ExcName → Option Value) (mg mb : Str → Option Value)
variable (dp un : Nat) (gd : Option (List Code)) (cn : Str) (cs : Scope) (ad : Addr) (ccd : Value) (cl : List (Str × Addr)) (outer : List Env) (base g : Heap) (L L' : Addr) (E : Value → Shared → Prop) (Q : Flow → Shared → Prop)
   (hBe : Below (ktrTop dp un gd cn cs L ad ccd cl outer) base (envX cn cs L ad ccd cl :: outer) g) (hX : (K2 w.params).In g) (hT : Top p loose mean mg mb g) (hdp : dp + 20 < recursionLimit) (hun : un + 160 < cLine)
set_option maxHeartbeats 400000 in
include hBe hX hT hdp hun in
theorem turnTo (own : List (Addr × Obj)) (T : Nat) (l : List TK) (nn pc : Nat) (tl : Tok) (oc : Obj) (hoc : oc.data = .cell (some (.str (SS [pc]) tl))) (hl : TkOk l) (m₀ : Str → Option Value) (hm : m₀ (Str.ofString "tokens") = some (.ref T)) (k : Int) (t : Tok) (a : Int) (ta : Tok) (s : Shared) (hk0 : 0 ≤ k) (hk1 : k < (l.length : Int))
    (hF : Fr g L' s.heap (mTo k t a ta m₀)) (hN : News g L' s.heap ((L' + 1, oc) :: (T, listOf (tkVs l).toArray nn) :: own))
    (H : ∀ h' tk' ta', Fr g L' h' (fun z => if z = Str.ofString "count" then some (.int (a + toldTurn l pc k) ta') else mTo k t a ta m₀ z) → News g L' h' ((L' + 1, oc) :: (T, listOf (tkVs l).toArray nn) :: own) → Q .next { s with heap := h', toks := tk' }) :
    wpAny (model PySem.Challenge.rw_nb0270_01.row.prog w) ((ktrTop dp un gd cn cs L ad ccd cl outer).deeper (toEnv L')) (execs toLoop.1 (toEnv L')) Q E s := by
  have hln := hl.n
  revert hX
  k_fill
  intro hX
  k_steps
  · refine' ⟨_, _, _, rfl, ?a, rfl, ?F, ?N, ?z, ?_⟩
    case a => exact TkOk.ascii (by assumption) _
    case F => k_asm
    case N => k_asm
    case z => exact Nat.le_trans (TkOk.size (by assumption) _) (by decide)
    rintro s₂ ⟨g9, rfl⟩
    refine' sign_rest (fun c => decide (pc < c)) ?_ (TkOk.size (by assumption) _) ?_
    · intro c9 u9 I9 oI9 C9 oC9 D9 m9 ys9 h9 tk9 E9 hc9 hC9 hx9 F9 N9 off9 ne9
      k_steps
      all_goals exact default
    · intro ys9 hy9 hz9
      unfold LCg.FinE
      intro D9 h9 tk9 F9 N9 o9
      k_steps
      exact H _ _ _ (by rw [toldTurn_a (by assumption)]; assumption) (cb_drop (by assumption) (fun p hp => List.mem_cons_of_mem _ hp))
  · exact H _ _ _ (by rw [toldTurn_b (by assumption) ⟨by assumption, by assumption⟩]; assumption) (by assumption)
  · exact H _ _ ta (by rw [toldTurn_c (by assumption) (fun h => absurd h.2 (by assumption))]; exact fr_cnt (by assumption)) (by assumption)
  · exact H _ _ ta (by rw [toldTurn_c (by assumption) (fun h => absurd h.1 (by assumption))]; exact fr_cnt (by assumption)) (by assumption)
end
theorem my_hold {P : Prop} (h : MyLoop P) : P := h
theorem ln_W3_5 : True := by
  k_with_none
  k_with "enterC" => (refine wpAny_call ?_; refine' code_defC ?k1 ?k2 ?k3 ?k4 ?k5 ?kA ?kF ?kK ?k6 ?k7 ?k8 ?k9 ?kB ?kD ?_ ?c2 ?c3 ?c4; (case kA => exact rfl); (case kF => exact rfl); (case kK => assumption); (case k1 => k_asm); (case k2 => k_asm); (case k3 => k_asm); (case k4 => k_asm); (case k5 => k_asm); (case k6 => k_is); (case k7 => k_is); (case k8 => ktr_room); (case k9 => first | exact BindsTo.of_eq rfl | exact binds_K (by k_in) rfl (by k_is) rfl rfl rfl); (case kB => exact rfl); (case kD => decide +kernel); (case c2 => exact rfl); (case c3 => exact rfl); (case c4 => exact rfl); k_whole; intro g' L' h' tk' cells' FG' F' N' Y' B' X' T' l1; (try k_lt l1); k_cells Y'; (try simp only [List.cons_append, List.nil_append] at N'); (try dsimp only); (try k_lift B'); (try k_fold))
  k_with "call builtin:len" => (k_here; (with_reducible show wpAny _ _ (call (Value.builtin "len") [Value.ref _]) _ _ _); k_dflt (refine' len_ys ?l ?y ?n ?_; (case l => first | is_list | exact News.isList (by k_asm) (by first | k_mem | kcf_m)); (case y => assumption); (case n => assumption)); intro t9 tk9)
  k_with "call builtin:len" => (k_here; (with_reducible show wpAny _ _ (call (Value.builtin "len") [Value.ref _]) _ _ _); k_dflt (refine' len_tok ?l ?b ?_; (case l => first | is_list | exact News.isList (by k_asm) (by first | k_mem | kcf_m)); (case b => exact TkOk.n (by assumption))); intro t9 tk9)
  k_with "subscriptTail" => (k_here; (with_reducible show wpAny _ _ (subscriptTail _ _ (Value.ref _) (Value.int _ _)) _ _ _); k_dflt (refine' item_tok ?l ?a ?b ?c ?_; (case l => first | is_list | exact News.isList (by k_asm) (by first | k_mem | kcf_m)); (case a => omega); (case b => omega); (case c => exact TkOk.n (by assumption))))
  k_with "subscriptTail" => ((with_reducible show wpAny _ _ (subscriptTail _ (Expr.Slice none (some _) none _) (Value.str _ _) (Value.ref _)) _ _ _); (with_reducible rename Fr _ _ _ _ => F'); (with_reducible rename News _ _ _ _ => N'); k_dflt (refine slice_tok (s := ⟨_, _, _, _, _⟩) F' N' (TkOk.len (by assumption) _) ?_); intro h9 t9 k9 F9 N9)
  k_with "compareOp NotEq str str" => ((with_reducible show wpAny _ _ (compareOp _ (Value.str (SS [_]) _) (Value.str (SS [_]) _)) _ _ _); refine ne_chr ?_)
  k_with "CompEnd" => exact LCg.CompEnd.intro (by k_asm) (by assumption) _ (fun p hp => hp) (by assumption) trivial rfl
  k_with "compareOp Gt str str" => ((with_reducible show wpAny _ _ (compareOp _ (Value.str (SS [_]) _) (Value.str (SS [_]) _)) _ _ _); refine gt_chr ?_)
  k_with "eval ListComp" => (k_here; k_dflt (refine comp_str (F₀ := by k_asm) (by with_unfolding_all rfl) (by decide) (by rfl) (by decide) (by rfl) ?_))
  k_with "call builtin:len" => ((with_reducible show wpAny _ _ (call (Value.builtin "len") [Value.str (SS (_ :: _)) _]) _ _ _); refine PySem.P.len_str (TkOk.slen (by assumption) _) ?_)
  k_with "SgEnd" => (refine ⟨rfl, ?_⟩)
  k_with "eval Name" => (k_here; k_dflt (refine' nameC ?a ?b ?c ?N ?m ?d ?_; (case a => rfl); (case b => rfl); (case c => rfl); (case N => k_asm); (case m => kcf_m); (case d => assumption)))
  k_with "eval Name" => (k_here; k_dflt (refine' nameX_L ?F ?v ?_ ?a ?b; (case F => k_asm); (case a => rfl); (case b => rfl); (case v => first | rfl | assumption); k_whole))
  k_with "pyIter ref" => (refine my_hold ?_)
  trivial
abbrev toldI (l : List TK) (pc : Nat) : Int := (rangeKs 0 ((l.length : Int) - 0).toNat).foldl (fun a k => a + toldTurn l pc k) 0
section
variable (w : World) (p : Program) (loose : List Str) (mean : ExcName → Option Value) (mg mb : Str → Option Value)
set_option maxHeartbeats 400000 in
theorem told_call (T : Nat) (l : List TK) (nn pc : Nat) (tl : Tok) (hl : TkOk l) (own : List (Addr × Obj)) :
  CtxW 40 320 w p loose mean mg mb 750 [.ref T, .str (SS [pc]) tl] ((T, listOf (tkVs l).toArray nn) :: own) fun Q h₀ L mm s =>
    ∀ h' tk' t8, Fr h₀ L h' mm → News h₀ L h' ((T, listOf (tkVs l).toArray nn) :: own) → Q (.int (toldI l pc) t8) { s with heap := h', toks := tk' } := by
  have hln := hl.n
  unfold CtxW
  k_fill
  intros
  rename_i hret
  k_dflt (walk_at "enterC")
  (rename _ = Data.cell _ => hc9)
  (change _ = Data.cell (some (Value.str (SS [pc]) tl)) at hc9)
  k_steps
  unfold MyLoop
  (rename IsRange _ _ _ _ _ _ _ _ => rgX)
  refine' iterRange_acc1 (y := Str.ofString "count") (fun a k => a + toldTurn l pc k) (by rfl) rgX (small_one (by omega) (by omega) (by omega) (by omega)) (rangeSize_nat _ _) ?F ?N ?hy ?turn ?done
  case F => k_asm
  case N => k_asm
  case hy => rfl
  case turn =>
    intro k t a ta h tk own' h0 h1 hoff F' N'
    refine' turnTo w p loose mean mg mb _ _ _ _ _ _ _ _ _ _ _ _ _ _ _ ?b1 ?b2 ?b3 ?b4 ?b5 (own ++ own') T l nn pc tl _ hc9 hl _ ?hm k t a ta _ h0 (by omega) F' ?n fun h2 tk2 ta2 F2 N2 => ?_
    case b1 => k_asm
    case b2 => k_asm
    case b3 => k_asm
    case b4 => omega
    case b5 => omega
    case hm => rfl
    case n => exact N'
    refine ⟨h2, tk2, _, _, _, rfl, F2, N2, ?_, ?_, rfl, rfl, ⟨ta2, if_pos rfl⟩, fun z z1 z2 => ?_⟩
    · intro p hp
      rcases List.mem_cons.mp hp with rfl | hp
      · exact List.mem_cons_self
      rcases List.mem_cons.mp hp with rfl | hp
      · exact List.mem_cons_of_mem _ List.mem_cons_self
      exact List.mem_cons_of_mem _ (List.mem_cons_of_mem _ (List.mem_append.mpr (.inl hp)))
    · intro p hp
      exact List.mem_cons_of_mem _ (List.mem_cons_of_mem _ (List.mem_append.mpr (.inr hp)))
    · dsimp only [mTo]
      rw [if_neg z2, if_neg z1, if_neg z2]
  case done =>
    intro u t h tk F' N'
    k_steps
    all_goals exact hret _ _ _ (by k_asm) (by refine' cb_drop ?cbN ?cbS; (case cbN => assumption); (case cbS => kcj_all))
end
theorem ln_W3_z : True := by
  k_with_none
  trivial
/-! EN -/
abbrev asB (cs : List Nat) : Array UInt8 := (cs.map UInt8.ofNat).toArray
section
open Builtin Builtin._codecs
theorem forIn_yield {β : Type} {g : Nat → β → Sem (ForInStep β)} (S : Nat → β) : ∀ (n k : Nat), (∀ i, k ≤ i → i < k + n → g i (S i) = pure (.yield (S (i + 1)))) → (forIn (List.range' k n 1) (S k) g : Sem β) = pure (S (k + n))
  | 0, k, _ => rfl
  | n + 1, k, h => by
    rw [List.range'_succ, List.forIn_cons, h k (Nat.le_refl _) (by omega)]
    show forIn (List.range' (k + 1) n 1) (S (k + 1)) g = _
    rw [forIn_yield S n (k + 1) fun i h1 h2 => h i (by omega) (by omega)]
    congr 2
    omega
theorem forIn_bind {β γ : Type} {g : Nat → β → Sem (ForInStep β)} {K : β → Sem γ} (S : Nat → β) (n : Nat) (h : ∀ i, i < n → g i (S i) = pure (.yield (S (i + 1)))) : ((forIn (List.range' 0 n 1) (S 0) g : Sem β) >>= K) = K (S n) := by
  rw [forIn_yield S n 0 fun i _ h2 => h i (by omega), Nat.zero_add]
  rfl
theorem forIn_stop {β γ : Type} {g : Nat → β → Sem (ForInStep β)} {K : β → Sem γ} {T : β} (n k : Nat) (h : ∀ i, g i T = pure (.done T)) : ((forIn (List.range' k n 1) T g : Sem β) >>= K) = K T := by
  cases n with
  | zero => rfl
  | succ n =>
    rw [List.range'_succ, List.forIn_cons, h]
    rfl
theorem asB_get {cs : List Nat} (hc : ∀ c ∈ cs, c < 128) {i : Nat} (hi : i < cs.length) : ((asB cs).getD i 0).toNat = cs[i] := by
  have h := hc cs[i] (List.getElem_mem hi)
  simp [asB, hi]
  omega
theorem dec_run (id : String) (cs : List Nat) (hc : ∀ c ∈ cs, c < 128) (hl : cs.length ≤ 100) : runDecoder id asciiDecoder none true (asB cs) 0 [] = pure (cs.toArray, cs.length) := by
  have hz : (asB cs).size = cs.length := by simp [asB]
  unfold runDecoder
  show (forIn [:(asB cs).size] ((0 : Nat), (#[] : Array Nat), ({} : Faults)) _ >>= _) = _
  rw [Std.Legacy.Range.forIn_eq_forIn_range']
  have e : ([:(asB cs).size] : Std.Legacy.Range).size = cs.length := by
    show ((asB cs).size - 0 + 1 - 1) / 1 = cs.length
    rw [hz]; omega
  rw [e]
  refine (forIn_bind (fun i => ((i : Nat), (cs.take i).toArray, ({} : Faults))) cs.length ?_).trans ?_
  · intro i hi
    dsimp only
    rw [if_neg (by rw [List.size_toArray, List.length_take, sizeLine_eq]; omega), if_neg (by rw [hz]; omega)]
    have hf : asciiDecoder.find true (asB cs) i = .text [cs[i]] (i + 1) := by
      show (if ((asB cs).getD i 0).toNat < 128 then _ else _) = _
      rw [asB_get hc hi, if_pos (hc _ (List.getElem_mem hi))]
      rfl
    rw [hf]
    dsimp only
    rw [List.take_add_one, List.getElem?_eq_getElem hi]
    simp
  · show pure ((cs.take cs.length).toArray, cs.length) = _
    rw [List.take_length]
theorem enc_clean {cs : List Nat} (hc : ∀ c ∈ cs, c < 128) : (Array.findIdx? asciiCodec.bad cs.toArray).getD cs.toArray.size = cs.length := by
  have : Array.findIdx? asciiCodec.bad cs.toArray = none := by
    rw [List.findIdx?_toArray, List.findIdx?_eq_none_iff]
    intro c h
    have := hc c h
    show decide (c ≥ 128) = false
    exact decide_eq_false (by omega)
  rw [this]; rfl
theorem enc_fold : ∀ (cs : List Nat) (acc : Array UInt8), cs.foldl (fun acc y => acc ++ (asciiCodec.bytesOf y).toArray) acc = acc ++ asB cs
  | [], acc => by simp [asB]
  | c :: r, acc => by
    rw [List.foldl_cons, enc_fold r]
    show acc ++ #[c.toUInt8] ++ asB r = _
    simp [asB]
theorem enc_run (id : String) (v : Value) (cs : List Nat) (hc : ∀ c ∈ cs, c < 128) (hl : cs.length ≤ 100) : encodeNarrow id asciiCodec none v (SS cs) = pure (asB cs) := by
  unfold encodeNarrow
  show (forIn [:(SS cs).length] ((0 : Nat), (#[] : Array UInt8), ({} : Faults)) _ >>= _) = _
  rw [Std.Legacy.Range.forIn_eq_forIn_range']
  have e : ([:(SS cs).length] : Std.Legacy.Range).size = cs.length := by
    show (cs.length - 0 + 1 - 1) / 1 = cs.length
    omega
  rw [e]
  cases cs with
  | nil => rfl
  | cons c r =>
    have hb : (!asciiCodec.bad c) = true := by
      have := hc c List.mem_cons_self
      show (!decide (c ≥ 128)) = true
      rw [decide_eq_false (by omega)]; rfl
    have hx : (SS (c :: r)).cps.extract 0 = (c :: r).toArray := by simp
    have h0 : (SS (c :: r)).cps[0]? = some c := rfl
    have h1 : (SS (c :: r)).cps[(0 + (c :: r).length)]? = none := by simp
    rw [List.length_cons, List.range'_succ, List.forIn_cons]
    dsimp only
    rw [if_neg (by rw [sizeLine_eq]; decide), h0]
    dsimp only
    rw [if_pos hb, hx, enc_clean hc]
    have h2 : ((c :: r).toArray.extract 0 (c :: r).length) = (c :: r).toArray := by simp
    rw [h2, List.foldl_toArray, enc_fold, Array.empty_append]
    show (forIn (List.range' (0 + 1) r.length 1) (0 + (c :: r).length, asB (c :: r), ({} : Faults)) _ >>= _) = _
    refine (forIn_stop r.length (0 + 1) fun i => ?_).trans rfl
    dsimp only
    have hz : (asB (c :: r)).size = (c :: r).length := by simp [asB]
    rw [if_neg (by rw [hz, sizeLine_eq]; omega), show ((c :: r).toArray)[(0 + (c :: r).length)]? = none from h1]
theorem dec_road (id : String) (b : Array UInt8) : decodeRoad id b (Str.ofString "ascii") none [] = (runDecoder id asciiDecoder none true b 0 [] >>= fun r => mkStr ⟨r.1⟩) := by kernel_rfl
theorem enc_road (id : String) (v : Value) (x : Str) : encodeRoad id v x (Str.ofString "ascii") none = (encodeNarrow id asciiCodec none v x >>= fun r => mkBytes r) := by kernel_rfl
theorem enc_tree (x : Str) (t u : Tok) : «str.encode» ⟨[.str x t, .str (Str.ofString "ascii") u], []⟩ = (do ret (← encodeRoad "str.encode" (.str x t) x (Str.ofString "ascii") none)) := by
  first | rfl | kernel_rfl
theorem dec_tree_nil (t u : Tok) : «bytes.decode» ⟨[.bytes #[] t, .str (Str.ofString "ascii") u], []⟩ = (do rule "bytes.decode.empty"; retStr Str.empty) := by
  first | rfl | kernel_rfl
theorem dec_tree (c : UInt8) (cs : List UInt8) (t u : Tok) : «bytes.decode» ⟨[.bytes (c :: cs).toArray t, .str (Str.ofString "ascii") u], []⟩ = (mkStr (PySem.Str.ofString "utf-8") >>= fun _ => mkStr (Str.ofString "ascii") >>= fun e => mkStr (PySem.Str.ofString "bytes.decode") >>= fun d =>
    call (.builtin "_codecs.decode.text") [.bytes (c :: cs).toArray t, e, .none, d] >>= fun v => ret v) := by
  first | rfl | kernel_rfl
theorem dec_meets_text {cs : List Nat} {t t1 t2 : Tok} {d : PySem.Str} (hc : ∀ c ∈ cs, c < 128) (hl : cs.length ≤ 100) :
    Meets («_codecs.decode.text» ⟨[.bytes (asB cs) t, .str (PySem.Str.ofString "ascii") t1, .none, .str d t2], []⟩) (fun _ R s => R (.ok (.ret (.str (SS cs) s.toks))) { s with toks := s.toks + 1 }) := by
  refine .of_wp fun prog w A R s h => ?_
  show wpAny _ _ (Bytes.bytesLike _ (.bytes (asB cs) t) >>= fun r => _) _ _ s
  refine wpAny_bind (wpAny_of_eq KBd.like_eq ?_)
  refine wpAny_bind (wpAny_of_eq KBd.held_eq ?_)
  show wpAny _ _ (_codecs.decodeRoad _ (asB cs) (PySem.Str.ofString "ascii") none [] >>= fun v => _) _ _ s
  rw [dec_road, dec_run _ _ hc hl]
  refine wpAny_bind (wpAny_bind (wpAny_pure ?_))
  exact wpAny_mkStr (wpAny_pure ⟨_, rfl, h⟩) (by show cs.length ≤ sizeLine; rw [sizeLine_eq]; omega)
theorem dec_meets {cs : List Nat} {t u : Tok} (hc : ∀ c ∈ cs, c < 128) (hl : cs.length ≤ 100) :
    Meets («bytes.decode» ⟨[.bytes (asB cs) t, .str (Str.ofString "ascii") u], []⟩) (fun _ R s => ∀ t' k, R (.ok (.ret (.str (SS cs) t'))) { s with toks := k }) := by
  refine .of_wp fun prog w A R s h => ?_
  cases cs with
  | nil =>
    show wpAny _ _ («bytes.decode» ⟨[.bytes #[] t, .str (Str.ofString "ascii") u], []⟩) _ _ s
    rw [dec_tree_nil]
    refine wpAny_bind (wpAny_rule ?_)
    exact wpAny_bind (wpAny_mkStr (wpAny_pure ⟨_, rfl, h _ _⟩) (by decide))
  | cons c r =>
    show wpAny _ _ («bytes.decode» ⟨[.bytes (UInt8.ofNat c :: r.map UInt8.ofNat).toArray t, .str (Str.ofString "ascii") u], []⟩) _ _ s
    rw [dec_tree]
    refine wpAny_bind (wpAny_mkStr ?_ (by decide))
    refine wpAny_bind (wpAny_mkStr ?_ (by decide))
    refine wpAny_bind (wpAny_mkStr ?_ (by decide))
    exact wpAny_bind (call_function_meets KBd.kind_text KBd.plain_text KBd.entry_text (KBd.args_text _ _ _ _) (dec_meets_text (cs := c :: r) hc hl) (wpAny_pure ⟨_, rfl, h _ _⟩))
theorem enc_meets {cs : List Nat} {t u : Tok} (hc : ∀ c ∈ cs, c < 128) (hl : cs.length ≤ 100) :
    Meets («str.encode» ⟨[.str (SS cs) t, .str (Str.ofString "ascii") u], []⟩) (fun _ R s => ∀ t' k, R (.ok (.ret (.bytes (asB cs) t'))) { s with toks := k }) := by
  refine .of_wp fun prog w A R s h => ?_
  rw [enc_tree, enc_road, enc_run _ _ _ hc hl]
  refine wpAny_bind (wpAny_bind (wpAny_pure ?_))
  exact wpAny_mkBytes (wpAny_pure ⟨_, rfl, h _ _⟩) (by show ((cs.map UInt8.ofNat).toArray).size ≤ sizeLine; rw [List.size_toArray, List.length_map, sizeLine_eq]; omega)
end
section
variable {prog : Program} {w : World} {A : Around} {E : Value → Shared → Prop} {s : Shared} {cs : List Nat} {t u : Tok}
theorem args_decode2 (a b : Value) : argsOk "bytes.decode" ⟨[a, b], []⟩ := by
  unfold argsOk
  kernel_rfl
theorem bytes_decode {Q : Value → Shared → Prop} (hc : ∀ c ∈ cs, c < 128) (hl : cs.length ≤ 100) (h : ∀ t' k, Q (.str (SS cs) t') { s with toks := k }) :
    wpAny (model prog w) A (call (.builtin "bytes.decode") [.bytes (asB cs) t, .str (Str.ofString "ascii") u]) Q E s :=
  call_meets FB.slot_bytes_decode (typeIs_bytes _ _ _) FB.entry_bytes_decode (args_decode2 _ _) (dec_meets hc hl) h
theorem str_encode {Q : Value → Shared → Prop} (hc : ∀ c ∈ cs, c < 128) (hl : cs.length ≤ 100) (h : ∀ t' k, Q (.bytes (asB cs) t') { s with toks := k }) :
    wpAny (model prog w) A (call (.builtin "str.encode") [.str (SS cs) t, .str (Str.ofString "ascii") u]) Q E s :=
  call_meets F.slot_str_encode (typeIs_str _ _ _) F.entry_str_encode (F.args_str_encode_2 _ _) (enc_meets hc hl) h
end
/-! LA -/
@[reducible] noncomputable def laBody : {x : List Stmt // bodyOf (pieceT 26) = x} := by
  refine ⟨?_, ?_⟩
  rotate_left
  · conv => lhs; whnf
@[reducible] noncomputable def laScope : {x : Scope // scopeOf (pieceT 26) = x} := by
  refine ⟨?_, ?_⟩
  rotate_left
  · conv => lhs; whnf
@[reducible] noncomputable def laLoop : {x : List Stmt // bodyOf (laBody.1.getD 4 default) = x} := by
  refine ⟨?_, ?_⟩
  rotate_left
  · conv => lhs; whnf
noncomputable def laAt (i : Nat) : List Stmt := match (bodyOf (laBody.1.getD 4 default))[i]? with
  | some x => [x]
  | none => []
@[reducible] noncomputable def laS6 : {x : List Stmt // laAt 6 = x} := by
  refine ⟨?_, ?_⟩
  rotate_left
  · conv => lhs; whnf
noncomputable abbrev laEnv (L : Addr) : Env := envOfC "law" laScope.1 L 755 (.ref 754)
/-! SN -/
/-! StringIO is made by IOBase's own maker -/
section
variable {prog : Program} {w : World} {A : Around} {R : Result → Shared → Prop} {h : Heap} {g : Array GenState} {d : Drawn} {t : Nat} {os : OsState}
theorem sio_made (X : (K2 w.params).In h) : Looks (model prog w) h (Bind.madeBy (.ref 594)) none := Looks.of_peek X (by kernel_rfl)
theorem sio_here (X : (K2 w.params).In h) : Looks (model prog w) h (Bind.madeHere "object.__new__" (.ref 594)) () := Looks.of_peek X (by kernel_rfl)
theorem sio_call (X : (K2 w.params).In h) : Looks (model prog w) h (specialOf (.ref 594) "__call__") (some (.builtin "type.__call__")) := looks_specialIn X (by kernel_rfl)
theorem sio_typ (X : (K2 w.params).In h) : Looks (model prog w) h (isInstance (.ref 594) (.type "type")) true := looks_instIn X (by kernel_rfl)
theorem sio_init (X : (K2 w.params).In h) : Looks (model prog w) h (typeLookup (.ref 594) "__init__") (some (.ref 364)) := looks_findIn X (by kernel_rfl)
theorem sio_bind (X : (K2 w.params).In h) (self : Value) : Looks (model prog w) h (bindSpecial (.ref 364) self) (.ref 364, [self]) := bind_fn X self (by kernel_rfl)
theorem sio_sub (X : (K2 w.params).In h) : Looks (model prog w) h (isSubtype (.ref 594) (.ref 594)) true := looks_subIn X (by kernel_rfl)
theorem sio_top (X : (K2 w.params).In h) : Looks (model prog w) h (isSubtype (.ref 594) (.type "object")) true := looks_subIn X (by kernel_rfl)
theorem sio_base (X : (K2 w.params).In h) : Looks (model prog w) h (Bind.staticBase (.ref 594)) (.type "object") := Looks.of_peek X (by kernel_rfl)
theorem sio_obj (X : (K2 w.params).In h) : Looks (model prog w) h (Bind.madeBy (.type "object")) (some "object.__new__") := Looks.of_peek X (by kernel_rfl)
theorem sio_mro (X : (K2 w.params).In h) : Looks (model prog w) h (mroOf (.ref 594)) [.ref 594, .ref 117, .ref 90, .type "object"] := Looks.of_peek X (by kernel_rfl)
set_option maxHeartbeats 1000000 in
theorem new_sio {oc : Value} {od : Option Addr} {cd : ClassData} {sl : Array (Option Value)} (X : (K2 w.params).In h) (hC : h.get? 594 = some ⟨oc, od, .cls cd, sl⟩) (e1 : cd.abstract = false) (e2 : cd.hasDel = false)
    (hq : R (.ok (.ret (.ref (h.objs.size + 1)))) ⟨(h.push emptyDict).push (instObj 594 h.objs.size), g, d, t, os⟩) :
    codeAny (model prog w) A (.call (.builtin "object.__new__") ⟨[.ref 594], []⟩) R ⟨h, g, d, t, os⟩ := by
  have F := PySem.F.objNew
  have typ := sio_typ (prog := prog) X
  have here := sio_here (prog := prog) X
  have top := sio_top (prog := prog) X
  have base := sio_base (prog := prog) X
  have made := sio_obj (prog := prog) X
  refine codeAny_call_builtin_code (Code.quiet_builtin _ F.quiet) ?_
  simp only [checkBuiltinCall, F.kind, F.split, F.row]
  have args : Bind.checkArgs "object.__new__" ⟨.hand, "object.__new__", "__new__", .cls, []⟩ ⟨[.ref 594], []⟩ = pure () := by kernel_rfl
  rw [args]
  repeat (first | simp only [bne_self_eq_false, Bool.false_eq_true, if_false] | lk)
  refine codeAny_builtin F.entry ?_
  unfold Builtin.«object.__new__»
  have fin : ∀ A', wpAny (model prog w) A' (do
      let d ← if typeHasDict (.ref 594) then some <$> alloc { cls := .type "dict", data := .dict #[] } else pure none
      ret (← newObj (.ref 594) .plain d)) (fun fin s' => match fin with | .done f => R (.ok f) s' | .again c' => c'.quiet = true ∧ codeAny (model prog w) A c' R s') (fun e s' => R (.error e) s') ⟨h, g, d, t, os⟩ := by
    intro A'
    show wpAny _ _ ((alloc emptyDict >>= fun x => pure (some x)) >>= _) _ _ _
    refine wpAny_bind (wpAny_bind (wpAny_alloc (wpAny_pure (wpAny_bind ?_))))
    show wpAny _ _ (newObjAsIs _ _ _) _ _ _
    unfold newObjAsIs classHasDel
    refine wpAny_bind (wpAny_alloc (wpAny_bind (wpAny_bind (wpAny_load (Heap.get?_push_of_some _ (Heap.get?_push_of_some _ hC)) (wpAny_pure ?_)))))
    rw [e2]
    refine wpAny_pure (wpAny_pure ?_)
    show R _ _
    rw [Heap.size_push]
    exact hq
  repeat (first | simp only [e1, Bool.false_eq_true, if_false] | exact fin _ | lk)
set_option maxHeartbeats 1000000 in
theorem make_sio {oc : Value} {od : Option Addr} {cd : ClassData} {sl : Array (Option Value)} {x : Value} (X : (K2 w.params).In h) (hC : h.get? 594 = some ⟨oc, od, .cls cd, sl⟩)
    (hnew : ∀ (A' : Around) (Q : Value → Shared → Prop) (E : Value → Shared → Prop) (t' : Nat), Q (.ref 87) ⟨h, g, d, t' + 1, os⟩ → wpAny (model prog w) A' (getAttr (.ref 594) "__new__") Q E ⟨h, g, d, t', os⟩)
    (hq : wpAny (model prog w) (A.under (.builtin "type.__call__" ⟨[.ref 594, x], []⟩)) (call (.ref 87) [.ref 594, x]) (fun o s' => ∃ y dy h' tk', o = .ref y ∧ s' = ⟨h', g, d, tk', os⟩ ∧ (K2 w.params).In h' ∧ h'.get? y = some (instObj 594 dy) ∧
      codeAny (model prog w) (A.under (.builtin "type.__call__" ⟨[.ref 594, x], []⟩)) (.call (.ref 364) ⟨[.ref y, x], []⟩) (InitBack y R) s') (fun e s' => R (.error e) s') ⟨h, g, d, t + 1, os⟩) :
    codeAny (model prog w) A (.call (.ref 594) ⟨[x], []⟩) R ⟨h, g, d, t, os⟩ := by
  have call := sio_call (prog := prog) X
  have typ := sio_typ (prog := prog) X
  have made := sio_made (prog := prog) X
  have hm := sio_mro (prog := prog) X
  refine codeAny_of_tree ?_
  show wpAny _ _ (callAny (.ref 594) _) _ _ _
  refine nd_load hC ?_
  show wpAny _ _ (callAny.viaDunder (.ref 594) _) _ _ _
  unfold callAny.viaDunder
  refine wpAny_bind (call.at ?_)
  dsimp only
  rw [tc_bind]
  refine wpAny_bind (wpAny_pure (wpAny_bind (wpAny_pure ?_)))
  refine wpAny_pure (a := Fin.again (.call (.builtin "type.__call__") ⟨[.ref 594, x], []⟩)) (And.intro rfl ?_)
  refine codeAny_call_builtin_at (Code.quiet_builtin _ (by decide +kernel)) entry_typeCall (check_slot tc_kind tc_split typ (tc_args _ _ _) ?_)
  unfold Builtin.«type.__call__»
  repeat ((fail_if_success (with_reducible show wpAny _ _ (getAttr _ _ _) _ _ _)); first | simp only [List.isEmpty, Bool.false_eq_true, if_false] | lk)
  refine hnew _ _ _ _ ?_
  refine wpAny_bind (wpAny_holding (wpAny_mono hq (fun o s' hz => ?_) fun _ _ e => e))
  obtain ⟨y, dy, h', tk', rfl, rfl, X', hy, hz⟩ := hz
  have t1 : Looks (model prog w) h' (typeOf (.ref y)) (.ref 594) := (Looks.ld hy).andThen .now
  have s1 := sio_sub (prog := prog) X'
  have i1 := sio_init (prog := prog) X'
  have b1 := sio_bind (prog := prog) X' (.ref y)
  unfold isInstance callSpecial? specialOf
  repeat (first | with_reducible refine wpAny_call ?_ | lk)
  refine codeAny_mono hz fun r s' z => ?_
  rcases r with e | (v | _ | _ | _) <;> first | exact z | exact z.elim | skip
  obtain ⟨rfl, z⟩ := z
  exact wpAny_pure (wpAny_pure z)
end
def SioBack (prog : Program) (w : World) (A : Around) (x : Value) (R : Result → Shared → Prop) (s : Shared) (o : Value) (s' : Shared) : Prop :=
  ∃ y dy h' tk', o = .ref y ∧ s' = { s with heap := h', toks := tk' } ∧ (K2 w.params).In h' ∧ h'.get? y = some (instObj 594 dy) ∧
    codeAny (model prog w) (A.under (.builtin "type.__call__" ⟨[.ref 594, x], []⟩)) (.call (.ref 364) ⟨[.ref y, x], []⟩) (InitBack y R) s'
theorem call_sio {prog : Program} {w : World} {A : Around} {E : Value → Shared → Prop} {s : Shared} {h₀ : Heap} {L : Addr} {m : Str → Option Value} {x : Value} {Q : Value → Shared → Prop} (F : Fr h₀ L s.heap m) (X₀ : (K2 w.params).In h₀)
    (h : wpAny (model prog w) (A.under (.builtin "type.__call__" ⟨[.ref 594, x], []⟩)) (call (.ref 87) [.ref 594, x]) (SioBack prog w A x (fun r s' => match r with | .ok (.ret v) => Q v s' | .ok _ => False | .error e => E e s') s) (fun e s' => E e s') { s with toks := s.toks + 1 }) :
    wpAny (model prog w) A (call (.ref 594) [x]) Q E s := by
  have X := X₀.keeps F.keep
  obtain ⟨hh, g, d, t, os⟩ := s
  have hl : ∃ oc od cd sl, List.lookup 594 (K2 w.params) = some ⟨oc, od, .cls cd, sl⟩ ∧ cd.abstract = false ∧ cd.hasDel = false := ⟨_, _, _, _, rfl, rfl, rfl⟩
  obtain ⟨oc, od, cd, sl, hl, _, _⟩ := hl
  refine wpAny_call (make_sio X (X _ _ hl) (fun A' Q E t' hq => ?_) h)
  exact cls_sm F X₀ (by kernel_rfl : typeIn (K2 w.params) (.ref 594) = some (.type "type")) (by kernel_rfl) (by kernel_rfl : findCls (K2 w.params) (.ref 594) (.type "type") "__new__" = some (.get (.builtin "staticmethod.__get__") (.ref 91) .none (.ref 594))) (by kernel_rfl : recIn (K2 w.params) 91 "staticmethod" = some (.ref 87 :: [])) (by kernel_rfl) hq
theorem call_new {prog : Program} {w : World} {A : Around} {E : Value → Shared → Prop} {s : Shared} {h₀ : Heap} {L : Addr} {m : Str → Option Value} {news : List (Addr × Obj)} {Q : Value → Shared → Prop} (F : Fr h₀ L s.heap m) (X₀ : (K2 w.params).In h₀) (N : News h₀ L s.heap news)
    (h : ∀ x dx h', Fr h₀ L h' m → News h₀ L h' ((x, instObj 594 dx) :: (dx, dictOf [] 0) :: news) → (∀ p ∈ news, p.1 < dx) → dx < x → Q (.ref x) { s with heap := h' }) :
    wpAny (model prog w) A (call (.builtin "object.__new__") [.ref 594]) Q E s := by
  have X := X₀.keeps F.keep
  obtain ⟨hh, g, d, t, os⟩ := s
  have hl : ∃ oc od cd sl, List.lookup 594 (K2 w.params) = some ⟨oc, od, .cls cd, sl⟩ ∧ cd.abstract = false ∧ cd.hasDel = false := ⟨_, _, _, _, rfl, rfl, rfl⟩
  obtain ⟨oc, od, cd, sl, hl, e1, e2⟩ := hl
  refine wpAny_call (new_sio X (X _ _ hl) e1 e2 (h _ hh.objs.size _ ((F.push _).push _) ?_ (fun p hp => Heap.lt_size (N p hp).1) (Nat.lt_succ_self _)))
  have := (N.push F emptyDict).push (F.push _) (instObj 594 hh.objs.size)
  rwa [Heap.size_push] at this
theorem isnot_sio {prog : Program} {w : World} {A : Around} {E : Value → Shared → Prop} {s : Shared} {h₀ : Heap} {L : Addr} {m : Str → Option Value} {Q : Value → Shared → Prop} (F : Fr h₀ L s.heap m) (X₀ : (K2 w.params).In h₀) (h : Q (.bool true) s) :
    wpAny (model prog w) A (compareOp .IsNot (.ref 594) (.ref 347)) Q E s := by
  have X := X₀.keeps F.keep
  have hl : ∃ oc od cd sl, List.lookup 594 (K2 w.params) = some ⟨oc, od, .cls cd, sl⟩ ∧ oc = .type "type" := ⟨_, _, _, _, rfl, rfl⟩
  have hl2 : ∃ oc od cd sl, List.lookup 347 (K2 w.params) = some ⟨oc, od, .cls cd, sl⟩ ∧ oc = .type "type" := ⟨_, _, _, _, rfl, rfl⟩
  obtain ⟨oc, od, cd, sl, hl, rfl⟩ := hl
  obtain ⟨oc2, od2, cd2, sl2, hl2, rfl⟩ := hl2
  exact wpAny_isNot_ref_other (by decide) (X _ _ hl) (X _ _ hl2) (by intro z; injection z with z; exact absurd z (by decide)) h
/-! DQ -/
/-! deque() -/
theorem deq_mro : mroOf (.type "collections.deque") = pure [.type "collections.deque", .type "object"] := by rw [mroOf_type]; kernel_rfl
theorem deq_new : typeLookup (.type "collections.deque") "__new__" = pure (some (.builtin "collections.deque.__new__")) := by rw [typeLookup_type, builtinLookup_eq_fast]; kernel_rfl
theorem deq_slot_init : Slot "collections.deque" "__init__" "collections.deque.__init__" :=
  .of (owner := "collections.deque") (n := "__init__") (by rw [typeLookup_type, builtinLookup_eq_fast]; kernel_rfl) (by decide +kernel) (by decide +kernel) (by decide +kernel)
    (by first | exact .inl (by decide +kernel) | exact .inr (by decide +kernel)) (by rw [isSubtype_type]; kernel_rfl)
theorem deq_called : TypeCalled "collections.deque" "collections.deque.__new__" "collections.deque.__init__" :=
  ⟨by decide +kernel, by decide +kernel, ⟨_, _, deq_mro⟩, madeBy_type deq_mro deq_new (by decide +kernel), by decide +kernel, by rw [isSubtype_type]; kernel_rfl, deq_slot_init⟩
theorem deq_typeCall : checkTypeCall "collections.deque" ⟨[], []⟩ = pure () := by kernel_rfl
theorem deq_newCall : checkBuiltinCall "collections.deque.__new__" ⟨[.type "collections.deque"], []⟩ = pure () := by kernel_rfl
theorem deq_entry_new : entryFor table "collections.deque.__new__" = some Builtin.«collections.deque.__new__» := entryFor_of_tree (by kernel_rfl)
theorem deq_entry_init : entryFor table "collections.deque.__init__" = some Builtin.«collections.deque.__init__» := entryFor_of_tree (by kernel_rfl)
theorem deq_args_init (a : Value) : argsOk "collections.deque.__init__" ⟨[a], []⟩ := by unfold argsOk; kernel_rfl
theorem deq_tree_new : Builtin.«collections.deque.__new__» ⟨[.type "collections.deque"], []⟩ = (newObj (.type "collections.deque") (.fields #[.none, .int 0 0]) none >>= fun v => ret v) := by kernel_rfl
theorem deq_tree_init (a : Addr) : Builtin.«collections.deque.__init__» ⟨[.ref a], []⟩ = (setField (.ref a) 0 .none >>= fun _ => Builtin.Deque.clear (.ref a) >>= fun _ => ret .none) := by
  first | rfl | kernel_rfl
theorem deq_new_meets : Meets (Builtin.«collections.deque.__new__» ⟨[.type "collections.deque"], []⟩) (fun _ R s => R (.ok (.ret (.ref s.heap.objs.size))) { s with heap := s.heap.push (deqObj [] 0) }) := by
  refine .of_wp fun prog w A R s h => ?_
  rw [deq_tree_new]
  refine wpAny_bind ?_
  exact wpAny_newObj_type (wpAny_pure ⟨_, rfl, h⟩)
theorem deq_init_meets (a : Addr) : Meets (Builtin.«collections.deque.__init__» ⟨[.ref a], []⟩) (fun _ R s => s.heap.get? a = some (deqObj [] 0) ∧ R (.ok (.ret .none)) { s with heap := s.heap.update a (Obj.mapFields (·.setIfInBounds 0 .none)) }) := by
  refine .of_wp fun prog w A R s h => ?_
  obtain ⟨ho, h⟩ := h
  rw [deq_tree_init]
  refine wpAny_bind (wpAny_setField ho rfl (by decide) ?_)
  have ho2 : (s.heap.update a (Obj.mapFields (·.setIfInBounds 0 .none))).get? a = some (deqObj [] 0) := Heap.get?_update_self _ ho rfl
  unfold Builtin.Deque.clear Builtin.Deque.items
  refine wpAny_bind (wpAny_bind (wpAny_bind (wpAny_fieldsOf ho2 rfl (wpAny_pure ?_))))
  exact wpAny_pure (wpAny_pure ⟨_, rfl, h⟩)
section
variable {prog : Program} {w : World} {A : Around} {E : Value → Shared → Prop} {s : Shared} {h₀ : Heap} {L : Addr} {m : Str → Option Value} {news : List (Addr × Obj)}
theorem deq_make {Q : Value → Shared → Prop} (F : Fr h₀ L s.heap m) (N : News h₀ L s.heap news)
    (h : ∀ x h', Fr h₀ L h' m → News h₀ L h' ((x, deqObj [] 0) :: news) → (∀ p ∈ news, p.1 < x) → Q (.ref x) { s with heap := h' }) : wpAny (model prog w) A (call (.type "collections.deque") []) Q E s := by
  refine callType_meets deq_called deq_typeCall deq_newCall deq_entry_new deq_entry_init deq_new_meets (Q₁ := fun o s₁ => o = .ref s.heap.objs.size ∧ s₁ = { s with heap := s.heap.push (deqObj [] 0) }) ⟨rfl, rfl⟩ ?_
  rintro obj s₁ ⟨rfl, rfl⟩
  have hg : (s.heap.push (deqObj [] 0)).get? s.heap.objs.size = some (deqObj [] 0) := Heap.get?_push_size _ rfl
  refine ⟨⟨_, hg, rfl⟩, deq_args_init _, _, deq_init_meets _, hg, rfl, ?_⟩
  have N1 := N.push F (deqObj [] 0)
  have lt : ∀ p ∈ news, p.1 < s.heap.objs.size := fun p hp => Heap.lt_size (N p hp).1
  obtain ⟨f1, n1⟩ := deq_set (f := (·.setIfInBounds 0 .none)) (ys := []) (k := 0) (news' := (s.heap.objs.size, deqObj [] 0) :: news) (F.push _) N1 (Upd.head fun p hp => Nat.ne_of_lt (lt p hp)) rfl
  exact h _ _ f1 n1 lt
end
/-! GM -/
theorem gm_l3 : typeLookup (.type "str") "maketrans" = pure (some (.builtin "str.maketrans")) := by rw [typeLookup_type, builtinLookup_eq_fast]; kernel_rfl
theorem gm_l4 : typeOf (.builtin "str.maketrans") = pure (.type "builtin_function_or_method") := by show builtinType _ = _; rw [builtinType_eq_fast]; kernel_rfl
theorem gm_get : typeLookup (.type "builtin_function_or_method") "__get__" = pure none := by rw [typeLookup_type, builtinLookup_eq_fast]; kernel_rfl
section
variable {prog : Program} {w : World} {A : Around} {E : Value → Shared → Prop} {x : Str} {u : Tok} {h : Heap} {g : Array GenState} {d : Drawn} {t : Nat} {os : OsState}
theorem gm_entry {tk : Tok} {Q : PySem.Fin → Shared → Prop} (hq : Q (.done (.ret (.builtin "str.maketrans"))) ⟨h, g, d, t, os⟩) :
    wpAny (model prog w) A (Builtin.«object.__getattribute__» ⟨[.str x u, .str "maketrans" tk], []⟩) Q E ⟨h, g, d, t, os⟩ := by
  have hT : (⟨h, g, d, t, os⟩ : Shared).TypeIs (.str x u) "str" := rfl
  have hT5 : (⟨h, g, d, t, os⟩ : Shared).TypeIs (.builtin "str.maketrans") "builtin_function_or_method" := gm_l4
  have f4 := gm_l3
  have f5 := gm_l4
  have f6 := gm_get
  unfold Builtin.«object.__getattribute__»
  repeat (any_goals (first | assumption | wp_step))
theorem gm_call {tk : Tok} {R : Result → Shared → Prop} (hq : R (.ok (.ret (.builtin "str.maketrans"))) ⟨h, g, d, t, os⟩) :
    codeAny (model prog w) A (.call (.builtin "object.__getattribute__") ⟨[.str x u, .str "maketrans" tk], []⟩) R ⟨h, g, d, t, os⟩ :=
  codeAny_call_builtin F.slot_str_getattribute.plain F.entry_object_getattribute (F.slot_str_getattribute.check _ _ _ _ _ _ _ _ (show (⟨h, g, d, t, os⟩ : Shared).TypeIs (.str x u) "str" from rfl) (F.args_object_getattribute_2 _ _) (gm_entry hq))
theorem gm_by {tk : Tok} {Q : Value → Shared → Prop} (hq : Q (.builtin "str.maketrans") ⟨h, g, d, t, os⟩) : wpAny (model prog w) A (getAttrBy (.str x u) (.str "maketrans" tk) true) Q E ⟨h, g, d, t, os⟩ := by
  have hT : (⟨h, g, d, t, os⟩ : Shared).TypeIs (.str x u) "str" := rfl
  have f2 := F.slot_str_getattribute.lookup
  have f3 := F.slot_str_getattribute.bind (.str x u)
  have hh : handedOut (.builtin "str.maketrans") = pure (.builtin "str.maketrans") := by kernel_rfl
  repeat (any_goals (first | assumption | wp_step))
  refine gm_call ?_
  repeat (any_goals (first | assumption | wp_step))
set_option maxHeartbeats 1000000 in
theorem gm_mt {pl : Sem Bool} {Q : Value × List Value → Shared → Prop} (hq : ∀ tk, Q (.builtin "str.maketrans", []) ⟨h, g, d, tk, os⟩) : wpAny (model prog w) A (getMethod (.str x u) (Str.ofString "maketrans") pl) Q E ⟨h, g, d, t, os⟩ := by
  have l1 : typeLookup (.type "str") "__getattribute__" = pure (some (.builtin "object.__getattribute__")) := F.slot_str_getattribute.lookup
  have l2 : typeLookup (.type "str") "__getattr__" = pure none := by rw [typeLookup_type, builtinLookup_eq_fast]; kernel_rfl
  have hT : (⟨h, g, d, t, os⟩ : Shared).TypeIs (.str x u) "str" := rfl
  unfold getMethod
  refine wpAny_bind (wpAny_specialOf (name := Str.ofString "__getattribute__") hT l1 ?_)
  show wpAny _ A (if (Manifest.canonical "object.__getattribute__" != "object.__getattribute__") = true then _ else _) Q E _
  rw [if_neg (by decide +kernel)]
  refine wpAny_bind (wpAny_specialOf (name := Str.ofString "__getattr__") hT l2 ?_)
  refine wpAny_bind (wpAny_specialOf (name := Str.ofString "maketrans") hT gm_l3 ?_)
  refine wpAny_bind (wpAny_of_eq gm_l4 ?_)
  dsimp only
  rw [if_pos (by decide +kernel)]
  unfold getAttr
  refine wpAny_bind (wpAny_bind ?_)
  refine wpAny_mkText ?_
  refine gm_by ?_
  exact wpAny_pure (hq _)
end
/-! TR -/
/-! the table {pc: None} -/
theorem sub_key : isSubtype (.type "KeyError") (.type "LookupError") = pure true := by rw [isSubtype_type]; kernel_rfl
section
variable {prog : Program} {w : World} {A : Around} {E : Value → Shared → Prop} {s : Shared} {d : Addr} {pc : Nat}
abbrev tabM (pc : Nat) (k : Int) : Option Value := if k = (pc : Int) then some .none else none
theorem tl_hit {Q : Builtin.Str.Mapped → Shared → Prop} (hm : s.heap.MapOf (intKind prog w) d (tabM pc)) (h : ∀ tk, Q .drop { s with toks := tk }) : wpAny (model prog w) A (Builtin.Str.tableLookup (.ref d) pc) Q E s := by
  unfold Builtin.Str.tableLookup
  refine wpAny_bind (wpAny_attempt (wpAny_bind (wpAny_mkInt ?_)))
  refine wpAny_getItem_of (s := { s with toks := s.toks + 1 }) (intKind_is _ _ _ _) hm (v := .none) (if_pos rfl) ?_
  exact wpAny_pure (h _)
theorem tl_miss {c : Nat} {Q : Builtin.Str.Mapped → Shared → Prop} (hh : A.handled = none) (lo : (d == sysModules) = false) (hm : s.heap.MapOf (intKind prog w) d (tabM pc)) (hc : c ≠ pc)
    (h : ∀ h' tk, (∀ b o, s.heap.get? b = some o → h'.get? b = some o) → Q .keep { s with heap := h', toks := tk }) : wpAny (model prog w) A (Builtin.Str.tableLookup (.ref d) c) Q E s := by
  unfold Builtin.Str.tableLookup
  refine wpAny_bind (wpAny_attempt (wpAny_bind (wpAny_mkInt ?_)))
  refine wpAny_getItem_missing_of (s := { s with toks := s.toks + 1 }) (intKind_is _ _ _ _) lo hh hm (if_neg (by omega)) fun h' e x => ?_
  obtain ⟨ob, t, ho, hcl, _⟩ := x.there
  have t1 : Looks (model prog w) h' (typeOf (.ref e)) (.type "KeyError") := by
    have := Looks.ld (M := model prog w) (part := none) ho
    refine (Looks.ld ho).andThen ?_
    rw [hcl]
    exact .now
  dsimp only
  unfold isInstance
  refine wpAny_bind (wpAny_bind (t1.here ?_))
  rw [sub_key]
  refine wpAny_pure ?_
  exact wpAny_bind (wpAny_rule (wpAny_pure (h _ _ x.keeps)))
theorem wp_forIn {β : Type} {M : Model} {body : Nat → β → Sem (ForInStep β)} {Q : β → Shared → Prop} (J : List Nat → β → Shared → Prop)
    (step : ∀ c r st s, J (c :: r) st s → wpAny M A (body c st) (fun x s' => ∃ st', x = .yield st' ∧ J r st' s') E s) (fin : ∀ st s, J [] st s → Q st s) : ∀ (l : List Nat) (st : β) (s : Shared), J l st s → wpAny M A (forIn l st body) Q E s
  | [], st, s, h => wpAny_pure (fin st s h)
  | c :: r, st, s, h => by
    rw [List.forIn_cons]
    refine wpAny_bind (wpAny_mono (step c r st s h) (fun x s' hx => ?_) fun _ _ e => e)
    obtain ⟨st', rfl, hj⟩ := hx
    exact wp_forIn J step fin r st' s' hj
structure TrJ (w : World) (prog : Program) (X : List Nat) (pc : Nat) (d : Addr) (s : Shared) (l : List Nat) (st : List Str × Nat × Bool × List (Nat × Option Nat) × Bool) (s' : Shared) : Prop where
  all : ∃ pre, pre ++ l = X ∧ st.1.reverse = (pre.filter (· != pc)).map (fun c => SS [c]) ∧ st.2.1 ≤ pre.length
  known : ∀ c a, st.2.2.2.1.lookup c = some a → a = if c = pc then none else some c
  heap : ∃ h' tk, s' = { s with heap := h', toks := tk } ∧ ∀ b o, s.heap.get? b = some o → h'.get? b = some o
theorem TrJ.add {X : List Nat} {c total : Nat} {r : List Nat} {pieces : List Str} {fast fast' ad ad' : Bool} {known known' : List (Nat × Option Nat)} {s s' s2 : Shared} (j : TrJ w prog X pc d s (c :: r) (pieces, total, fast, known, ad) s') (hc : c ≠ pc)
    (hk : ∀ c a, known'.lookup c = some a → a = if c = pc then none else some c) (hs : ∃ h' tk, s2 = { s with heap := h', toks := tk } ∧ ∀ b o, s.heap.get? b = some o → h'.get? b = some o) : TrJ w prog X pc d s r ((⟨#[c]⟩ : Str) :: pieces, total + 1, fast', known', ad') s2 := by
  obtain ⟨⟨pre, h1, h2, h3⟩, _, _⟩ := j
  refine ⟨⟨pre ++ [c], by simpa using h1, ?_, by simp; exact h3⟩, hk, hs⟩
  dsimp only at h2 ⊢
  rw [List.reverse_cons, h2, List.filter_append, List.map_append]
  simp [hc]
theorem TrJ.skip {X : List Nat} {total : Nat} {r : List Nat} {pieces : List Str} {fast fast' ad ad' : Bool} {known known' : List (Nat × Option Nat)} {s s' s2 : Shared} (j : TrJ w prog X pc d s (pc :: r) (pieces, total, fast, known, ad) s')
    (hk : ∀ c a, known'.lookup c = some a → a = if c = pc then none else some c) (hs : ∃ h' tk, s2 = { s with heap := h', toks := tk } ∧ ∀ b o, s.heap.get? b = some o → h'.get? b = some o) : TrJ w prog X pc d s r (pieces, total, fast', known', ad') s2 := by
  obtain ⟨⟨pre, h1, h2, h3⟩, _, _⟩ := j
  refine ⟨⟨pre ++ [pc], by simpa using h1, ?_, by simp; dsimp only at h3; omega⟩, hk, hs⟩
  dsimp only at h2 ⊢
  rw [h2, List.filter_append, List.map_append]
  simp
theorem glue_one : ∀ (l : List Nat) (acc : Array Nat), (l.map fun c => (SS [c] : Str)).foldl (fun acc p => acc ++ p.cps) acc = acc ++ l.toArray
  | [], acc => by simp
  | c :: r, acc => by
    rw [List.map_cons, List.foldl_cons, glue_one r]
    simp
theorem known_add {pc c : Nat} {known : List (Nat × Option Nat)} {a : Option Nat} (hk : ∀ c a, known.lookup c = some a → a = if c = pc then none else some c) (ha : a = if c = pc then none else some c) : ∀ c' a', ((c, a) :: known).lookup c' = some a' → a' = if c' = pc then none else some c' := by
  intro c' a' h
  rw [List.lookup_cons] at h
  by_cases e : (c' == c) = true
  · rw [e] at h
    cases h
    rw [ha, beq_iff_eq.mp e]
  · rw [Bool.not_eq_true] at e
    rw [e] at h
    exact hk _ _ h
theorem tr_run {X : Str} {t : Tok} {R : Result → Shared → Prop} (hX : 0 < X.length) (hX2 : X.length ≤ 1000) (hh : A.handled = none) (lo : (d == sysModules) = false) (hm : s.heap.MapOf (intKind prog w) d (tabM pc))
    (h : ∀ h' tk t', (∀ b o, s.heap.get? b = some o → h'.get? b = some o) → R (.ok (.ret (.str (SS (X.cps.toList.filter (· != pc))) t'))) { s with heap := h', toks := tk }) :
    wpAny (model prog w) A (Builtin.«str.translate» ⟨[.str X t, .ref d], []⟩) (fun fin s' => ∃ v, fin = .done (.ret v) ∧ R (.ok (.ret v)) s') E s := by
  unfold Builtin.«str.translate»
  refine wpAny_bind (m := Builtin.Str.strOneArg "translate" _) (wpAny_pure ?_)
  dsimp only
  rw [if_neg (by simp; omega)]
  refine wpAny_bind ?_
  rw [← Array.forIn_toList]
  refine wp_forIn (TrJ w prog X.cps.toList pc d s) ?_ ?_ _ _ _ (TrJ.mk ⟨[], rfl, rfl, Nat.le_refl _⟩ (fun c a e => nomatch e) ⟨_, _, rfl, fun _ _ e => e⟩)
  · rintro c r ⟨pieces, total, fast, known, ad⟩ s' j
    obtain ⟨h', tk, rfl, hk⟩ := j.heap
    have hm' : ({ s with heap := h', toks := tk } : Shared).heap.MapOf (intKind prog w) d (tabM pc) := let ⟨o, es, ep, ho, r⟩ := hm; ⟨o, es, ep, hk _ _ ho, r⟩
    have htot : total ≤ 1000 := by
      obtain ⟨pre, h1, _, h3⟩ := j.all
      have := congrArg List.length h1
      simp [Str.length] at this h3 hX2
      omega
    dsimp only
    rw [if_neg (by unfold Builtin.Str.tooLong; simp [sizeLine]; omega)]
    have hs : ∀ h2 tk2, (∀ b o, h'.get? b = some o → h2.get? b = some o) → ∃ h3 tk3, ({ s with heap := h2, toks := tk2 } : Shared) = { s with heap := h3, toks := tk3 } ∧ ∀ b o, s.heap.get? b = some o → h3.get? b = some o := fun h2 tk2 hk2 => ⟨h2, tk2, rfl, fun b o e => hk2 _ _ (hk _ _ e)⟩
    cases fast with
    | true =>
      simp only [if_true]
      cases hl : List.lookup c known with
      | some a =>
        have ha := j.known c a hl
        by_cases hc : c = pc
        · rw [if_pos hc] at ha
          subst hc ha
          exact wpAny_bind (wpAny_pure (wpAny_pure ⟨_, rfl, j.skip j.known (hs _ _ fun _ _ e => e)⟩))
        · rw [if_neg hc] at ha
          subst ha
          exact wpAny_bind (wpAny_pure (wpAny_pure ⟨_, rfl, j.add hc j.known (hs _ _ fun _ _ e => e)⟩))
      | none =>
        refine wpAny_bind ?_
        by_cases hc : c = pc
        · subst hc
          refine tl_hit hm' fun tk2 => ?_
          exact wpAny_bind (wpAny_pure (wpAny_pure ⟨_, rfl, j.skip (known_add j.known (if_pos rfl).symm) (hs _ _ fun _ _ e => e)⟩))
        · refine tl_miss hh lo hm' hc fun h2 tk2 hk2 => ?_
          exact wpAny_bind (wpAny_pure (wpAny_pure ⟨_, rfl, j.add hc (known_add j.known (if_neg hc).symm) (hs _ _ hk2)⟩))
    | false =>
      simp only [Bool.false_eq_true, if_false]
      cases ad with
      | true =>
        simp only [if_true]
        refine wpAny_bind ?_
        by_cases hc : c = pc
        · subst hc
          refine tl_hit hm' fun tk2 => ?_
          exact wpAny_pure ⟨_, rfl, j.skip j.known (hs _ _ fun _ _ e => e)⟩
        · refine tl_miss hh lo hm' hc fun h2 tk2 hk2 => ?_
          have hm2 : ({ s with heap := h2, toks := tk2 } : Shared).heap.MapOf (intKind prog w) d (tabM pc) := let ⟨o, es, ep, ho, r⟩ := hm'; ⟨o, es, ep, hk2 _ _ ho, r⟩
          refine wpAny_bind ?_
          refine tl_miss (s := { s with heap := h2, toks := tk2 }) hh lo hm2 hc fun h3 tk3 hk3 => ?_
          exact wpAny_pure ⟨_, rfl, j.add hc j.known (hs _ _ fun b o e => hk3 _ _ (hk2 _ _ e))⟩
      | false =>
        simp only [Bool.false_eq_true, if_false]
        refine wpAny_bind ?_
        by_cases hc : c = pc
        · subst hc
          refine tl_hit hm' fun tk2 => ?_
          exact wpAny_pure ⟨_, rfl, j.skip j.known (hs _ _ fun _ _ e => e)⟩
        · refine tl_miss hh lo hm' hc fun h2 tk2 hk2 => ?_
          exact wpAny_pure ⟨_, rfl, j.add hc j.known (hs _ _ hk2)⟩
  · rintro ⟨pieces, total, fast, known, ad⟩ s' j
    obtain ⟨h', tk, rfl, hk⟩ := j.heap
    obtain ⟨pre, h1, h2, h3⟩ := j.all
    rw [List.append_nil] at h1
    subst h1
    dsimp only at h2 h3 ⊢
    have hle : (X.cps.toList.length : Nat) ≤ 1000 := by simpa [Str.length] using hX2
    rw [if_neg (by unfold Builtin.Str.tooLong; simp [sizeLine]; omega), h2, glue_one, Array.empty_append]
    refine wpAny_bind (wpAny_mkStr ?_ ?_)
    · exact wpAny_pure ⟨_, rfl, h _ _ _ hk⟩
    · show ((X.cps.toList.filter (· != pc)).toArray : Array Nat).size ≤ sizeLine
      have := List.length_filter_le (· != pc) X.cps.toList
      rw [sizeLine_eq]
      simp
      simp at this hle
      omega
end
/-! TR2 -/
theorem dict_new_tree : Builtin.«dict.__new__» ⟨[.type "dict"], []⟩ = (newObj (.type "dict") (.dict #[]) none >>= fun v => ret v) := by kernel_rfl
theorem dict_typeCall : checkTypeCall "dict" ⟨[], []⟩ = pure () := by kernel_rfl
theorem dict_newCall : checkBuiltinCall "dict.__new__" ⟨[.type "dict"], []⟩ = pure () := by kernel_rfl
theorem dict_args_init (a : Value) : argsOk "dict.__init__" ⟨[a], []⟩ := by unfold argsOk; kernel_rfl
theorem dict_common (a : Addr) : Builtin.Dict.updateCommon "dict.__init__" "dict" a [] [] = ret .none := by
  first | rfl | kernel_rfl
abbrev newD : Obj := { cls := .type "dict", data := .dict #[] }
section
variable {prog : Program} {w : World} {A : Around} {E : Value → Shared → Prop} {s : Shared}
theorem dict0 {Q : Value → Shared → Prop} (h : Q (.ref s.heap.objs.size) { s with heap := s.heap.push newD }) : wpAny (model prog w) A (call (.type "dict") []) Q E s := by
  refine callType_codes (Q₁ := fun obj s₁ => obj = .ref s.heap.objs.size ∧ s₁ = { s with heap := s.heap.push newD }) PySem.F.kt_called_dict dict_typeCall PySem.F.entry_dict_init ?_ ?_
  · refine codeAny_call_builtin PySem.F.kt_plain_dict_new PySem.F.kt_entry_dict_new (wpAny_of_eq dict_newCall ?_)
    rw [dict_new_tree]
    exact wpAny_bind (wpAny_newObj_type (wpAny_pure ⟨rfl, rfl⟩))
  · rintro obj s₁ ⟨rfl, rfl⟩
    have hnew : (s.heap.push newD).DictOf (intKind prog w) s.heap.objs.size [] := Heap.DictOf.new s.heap
    refine ⟨hnew.typeIs, dict_args_init _, ?_⟩
    unfold Builtin.«dict.__init__»
    refine wpAny_bind ?_
    unfold Builtin.Dict.selfAndRest
    refine wpAny_bind (wpAny_notOrdered_dict hnew.typeIs ?_)
    show wpAny _ _ (pure (s.heap.objs.size, ([] : List Value))) _ _ _
    refine wpAny_pure ?_
    dsimp only
    rw [dict_common]
    exact wpAny_pure ⟨rfl, h⟩
theorem fk_entry : entryFor table "dict.fromkeys" = some Builtin.«dict.fromkeys» := entryFor_of_tree (by kernel_rfl)
theorem fk_entry_loop : entryFor table "dict.fromkeys.loop" = some Builtin.«dict.fromkeys.loop» := entryFor_of_tree (by kernel_rfl)
theorem fk_plain : plainId "dict.fromkeys" = true := by decide +kernel
theorem fk_plain_loop : plainId "dict.fromkeys.loop" = true := by decide +kernel
theorem fk_check (x : Str) (t : Tok) : checkBuiltinCall "dict.fromkeys" ⟨[.type "dict", .str x t], []⟩ = pure () := by kernel_rfl
theorem fk_tree {pc : Nat} {t : Tok} {R : Result → Shared → Prop} (hh : A.handled = none) (hpc : pc < 128)
    (h : ∀ d h' tk, (∀ b o, s.heap.get? b = some o → h'.get? b = some o) → s.heap.objs.size ≤ d → h'.DictOf (strKind prog w) d [(SS [pc], .none)] → R (.ok (.ret (.ref d))) { s with heap := h', toks := tk }) :
    wpAny (model prog w) A.in1 (Builtin.«dict.fromkeys» ⟨[.type "dict", .str (SS [pc]) t], []⟩) (fun fin s' => match fin with | .done f => R (.ok f) s' | .again c' => c'.quiet = true ∧ codeAny (model prog w) A c' R s') (fun e s' => R (.error e) s') s := by
  have hsub := PySem.F.kt_sub_dict
  have hmro := PySem.F.kt_mro_dict
  unfold Builtin.«dict.fromkeys»
  have ha : (SS [pc]).cps.all (· < 128) = true := by simp [hpc]
  repeat (any_goals (first | assumption | (with_reducible refine dict0 ?_) | (with_reducible refine wpAny_pyIter_ascii ha ?_) | wp_step))
  refine ⟨plainId_quiet fk_plain_loop _, codeAny_builtin fk_entry_loop ?_⟩
  rw [Around.under_plainId fk_plain_loop _]
  unfold Builtin.«dict.fromkeys.loop»
  show wpAny _ _ (pyNext (.ref (s.heap.push newD).objs.size) >>= fun x => _) _ _ _
  refine wpAny_bind (wpAny_pyNext_ascii_item (x := SS [pc]) (t := t) (i := 0) (c := pc) ⟨_, Heap.get?_push_size _ rfl, rfl, rfl⟩ rfl fun h1 hit1 hs1 => ?_)
  have hne : s.heap.objs.size ≠ (s.heap.push newD).objs.size := by rw [Heap.size_push]; exact Nat.ne_of_lt (Nat.lt_succ_self _)
  have hd0 : (s.heap.push newD).DictOf (strKind prog w) s.heap.objs.size [] := Heap.DictOf.new s.heap
  have hd1 : h1.DictOf (strKind prog w) s.heap.objs.size [] := (hd0.push _).sameBut hs1 hne
  dsimp only
  refine wpAny_bind (wpAny_typeOf hd1.typeIs ?_)
  rw [if_pos (by decide)]
  refine wpAny_bind (m := Builtin.Dict.addrOf _) (wpAny_pure ?_)
  refine wpAny_bind (wpAny_holding (wpAny_dictSet_pairs (k := SS [pc]) (strKind_is _ _ _ _) hd1 (fun h2 hd2 hs2 => ?_) (by decide)))
  refine wpAny_pure ⟨plainId_quiet fk_plain_loop _, codeAny_builtin fk_entry_loop ?_⟩
  rw [Around.under_plainId fk_plain_loop _]
  unfold Builtin.«dict.fromkeys.loop»
  show wpAny _ _ (pyNext (.ref (s.heap.push newD).objs.size) >>= fun x => _) _ _ _
  have hit2 : h2.IsStrIter (s.heap.push newD).objs.size "str_ascii_iterator" (SS [pc]) t 1 := by
    obtain ⟨o, e, r⟩ := hit1
    exact ⟨o, hs2.extBut _ _ (Ne.symm hne) e, r⟩
  refine wpAny_bind (wpAny_pyNext_ascii_end hh hit2 rfl fun h3 hx3 => ?_)
  refine wpAny_pure ?_
  refine h _ _ _ (fun b o e => ?_) (Nat.le_refl _) (hd2.extBut hx3 hne)
  have hb : b < s.heap.objs.size := Heap.lt_size e
  have b1 : b ≠ s.heap.objs.size := Nat.ne_of_lt hb
  have b2 : b ≠ (s.heap.push newD).objs.size := by rw [Heap.size_push]; exact Nat.ne_of_lt (Nat.lt_succ_of_lt hb)
  exact hx3 _ _ b2 (hs2.extBut _ _ b1 (hs1.extBut _ _ b2 (Heap.get?_push_of_some _ (Heap.get?_push_of_some _ e))))
end
/-! TR3 -/
theorem mt_entry : entryFor table "str.maketrans" = some Builtin.«str.maketrans» := entryFor_of_tree (by kernel_rfl)
theorem mt_plain : plainId "str.maketrans" = true := by decide +kernel
theorem mt_check (a : Addr) : checkBuiltinCall "str.maketrans" ⟨[.ref a], []⟩ = pure () := by kernel_rfl
section
variable {prog : Program} {w : World} {A : Around} {E : Value → Shared → Prop} {s : Shared}
theorem mt_call {pc : Nat} {D : Addr} {Q : Value → Shared → Prop} (hd : s.heap.DictOf (strKind prog w) D [(SS [pc], .none)]) (lo : (D == sysModules) = false) (hpc : pc < 128)
    (h : ∀ d h' tk, (∀ b o, s.heap.get? b = some o → h'.get? b = some o) → s.heap.objs.size ≤ d → h'.DictOf (intKind prog w) d [((pc : Int), .none)] → Q (.ref d) { s with heap := h', toks := tk }) :
    wpAny (model prog w) A (call (.builtin "str.maketrans") [.ref D]) Q E s := by
  refine wpAny_call (codeAny_call_builtin mt_plain mt_entry (wpAny_of_eq (mt_check _) ?_))
  unfold Builtin.«str.maketrans»
  repeat (any_goals (first | assumption | (with_reducible refine wpAny_typeOf hd.typeIs ?_) | wp_step))
  obtain ⟨o, es, ep, ho, hex, hdata, hk, hp, hn⟩ := id hd
  obtain ⟨e, he, hek, hev⟩ : ∃ e : DictEntry, es.toList = [e] ∧ (strKind prog w).is (SS [pc]) e.key = true ∧ e.val = .none := by
    revert hp
    generalize es.toList = l
    intro hp
    cases hp with
    | cons a b c => cases c; exact ⟨_, rfl, a, b⟩
  obtain ⟨tk, hek⟩ : ∃ tk, e.key = .str (SS [pc]) tk := by
    revert hek
    cases e.key with
    | str x u => intro hek; exact ⟨u, by simp [PySem.strKind, Value.isStrOf] at hek; rw [hek]⟩
    | _ => intro hek; simp [PySem.strKind, Value.isStrOf] at hek
  have hg : (s.heap.push newD).get? D = some o := Heap.get?_push_of_some _ ho
  have hcls : o.cls = .type "dict" := hex.1
  have hT : ({ s with heap := s.heap.push newD } : Shared).TypeIs (.ref D) "dict" := ⟨o, hg, hcls⟩
  refine wpAny_loadPart hg (wpAny_pure ?_)
  rw [hcls]
  refine wpAny_bind (wpAny_pure ?_)
  refine wpAny_bind (wpAny_typeOf hT ?_)
  dsimp only
  rw [if_neg (by decide)]
  have hmod : notTheModulesDict "str.maketrans" D = pure () := by
    unfold notTheModulesDict
    rw [lo]
    rfl
  rw [hmod]
  refine wpAny_bind (m := pure ()) (wpAny_pure ?_)
  refine wpAny_bind (wpAny_dictEntries hg hdata ?_)
  rw [← Array.forIn_toList, he, List.forIn_cons, hek, hev]
  have hnew : (s.heap.push newD).DictOf (intKind prog w) s.heap.objs.size [] := Heap.DictOf.new s.heap
  refine wpAny_bind ?_
  refine wpAny_bind ?_
  refine wpAny_bind ?_
  show wpAny _ _ (pure (some (SS [pc]))) _ _ _
  refine wpAny_pure ?_
  dsimp only
  refine wpAny_bind (wpAny_mkInt ?_)
  refine wpAny_bind (wpAny_dictSet_pairs (s := { s with heap := s.heap.push newD, toks := s.toks + 1 }) (k := (pc : Int)) (intKind_is _ _ _ _) hnew (fun h2 hd2 hs2 => ?_) (by decide))
  refine wpAny_pure (wpAny_pure (wpAny_pure (wpAny_pure ?_)))
  refine h _ _ _ (fun b o e => ?_) (Nat.le_refl _) hd2
  exact hs2.extBut _ _ (Nat.ne_of_lt (Heap.lt_size e)) (Heap.get?_push_of_some _ e)
theorem tr_call {pc : Nat} {D : Addr} {X : Str} {t : Tok} {Q : Value → Shared → Prop} (hh : A.handled = none) (hd : s.heap.DictOf (intKind prog w) D [((pc : Int), .none)]) (lo : (D == sysModules) = false) (hX : 0 < X.length) (hX2 : X.length ≤ 1000)
    (h : ∀ h' tk t', (∀ b o, s.heap.get? b = some o → h'.get? b = some o) → Q (.str (SS (X.cps.toList.filter (· != pc))) t') { s with heap := h', toks := tk }) :
    wpAny (model prog w) A (call (.builtin "str.translate") [.str X t, .ref D]) Q E s := by
  have hm : s.heap.MapOf (intKind prog w) D (tabM pc) := by
    have := hd.mapOf
    have e : valueAt [((pc : Int), Value.none)] = tabM pc := by
      funext k
      unfold valueAt tabM
      by_cases hk : k = (pc : Int)
      · subst hk; simp
      · have : ¬ (pc : Int) = k := fun e => hk e.symm
        simp [hk, this]
    rw [← e]
    exact this
  refine wpAny_call_entry PySem.F.slot_str_translate (typeIs_str _ _ _) PySem.F.entry_str_translate ?_ (PySem.F.args_str_translate_2 _ _)
  exact tr_run (A := A.in1) (R := fun r s' => match r with | .ok (.ret v) => Q v s' | .ok _ => False | .error e => E e s') hX hX2 hh lo hm h
end
section
variable {prog : Program} {w : World} {A : Around} {E : Value → Shared → Prop} {s : Shared} {h₀ : Heap} {L : Addr} {m : Str → Option Value} {news : List (Addr × Obj)}
theorem mt_N {pc : Nat} {D : Addr} {Q : Value → Shared → Prop} (hd : s.heap.DictOf (strKind prog w) D [(SS [pc], .none)]) (lo : (D == sysModules) = false) (hpc : pc < 128) (F : Fr h₀ L s.heap m) (N : News h₀ L s.heap news) (hbig : sysModules < h₀.objs.size)
    (h : ∀ d o h' tk, Fr h₀ L h' m → News h₀ L h' ((d, o) :: news) → o.IsDictOf (intKind prog w) [((pc : Int), .none)] → (d == sysModules) = false → (∀ p ∈ news, p.1 < d) → Q (.ref d) { s with heap := h', toks := tk }) :
    wpAny (model prog w) A (call (.builtin "str.maketrans") [.ref D]) Q E s :=
  mt_call hd lo hpc fun d h' tk keep hsz hD => by
    obtain ⟨o, ho, hod⟩ := Heap.dictOf_iff.mp hD
    have hLd : L ≠ d := Nat.ne_of_lt (Nat.lt_of_lt_of_le F.ns.lt hsz)
    refine h d o h' tk (F.keeps keep) (fun p hp => ?_) hod (beq_eq_false_iff_ne.mpr (Nat.ne_of_gt (Nat.lt_of_lt_of_le (Nat.lt_of_lt_of_le hbig (Nat.le_of_lt (Nat.lt_of_le_of_lt F.above F.ns.lt))) hsz))) fun p hp => Nat.lt_of_lt_of_le (Heap.lt_size (N p hp).1) hsz
    rcases List.mem_cons.mp hp with rfl | hp
    · refine ⟨ho, Ne.symm hLd, ?_⟩
      cases hg : h₀.get? d with
      | none => rfl
      | some o' => exact absurd (Heap.lt_size (F.keep _ _ hg)) (Nat.not_lt.mpr hsz)
    · exact (N.grown keep) p hp
theorem tr_N {pc : Nat} {D : Addr} {o : Obj} {X : Str} {t : Tok} {Q : Value → Shared → Prop} (hh : A.handled = none) (F : Fr h₀ L s.heap m) (N : News h₀ L s.heap news) (hm : (D, o) ∈ news) (hod : o.IsDictOf (intKind prog w) [((pc : Int), .none)]) (lo : (D == sysModules) = false) (hX : 0 < X.length) (hX2 : X.length ≤ 1000)
    (h : ∀ h' tk t', Fr h₀ L h' m → News h₀ L h' news → Q (.str (SS (X.cps.toList.filter (· != pc))) t') { s with heap := h', toks := tk }) :
    wpAny (model prog w) A (call (.builtin "str.translate") [.str X t, .ref D]) Q E s :=
  tr_call hh (Heap.dictOf_iff.mpr ⟨o, (N _ hm).1, hod⟩) lo hX hX2 fun h' tk t' keep => h h' tk t' (F.keeps keep) (N.grown keep)
end
/-! FK -/
/-! dict.fromkeys as a bound method -/
abbrev fkB : Obj := { cls := .type "builtin_function_or_method", data := .fields #[.builtin "dict.fromkeys", .type "dict"] }
theorem fk_type : typeOf (.builtin "dict.fromkeys") = pure (.type "classmethod_descriptor") := by show builtinType _ = _; rw [builtinType_eq_fast]; kernel_rfl
theorem fk_isType : isType (.type "dict") = pure true := by first | rfl | kernel_rfl | (unfold isType; rw [isSubtype_type]; kernel_rfl)
theorem fk_owner : (kfb_private% "ownerAndName") "dict.fromkeys" = ("dict", "fromkeys") := by first | decide +kernel | kernel_rfl
theorem fk_quiet {as : Args} : (Code.builtin "dict.fromkeys" as).quiet = true := Code.quiet_builtin _ (by decide +kernel)
theorem fk_bcheck {x : Str} {t : Tok} : checkBoundCall "dict.fromkeys" ⟨[.type "dict", .str x t], []⟩ = pure () := by first | kernel_rfl | rfl
section
variable {prog : Program} {w : World} {M : Model} {A : Around} {E : Value → Shared → Prop} {s : Shared} {K : Frag} {h₀ : Heap} {L : Addr} {m : PySem.Str → Option Value} {news : List (Addr × Obj)}
theorem fk_get {P : PySem.Fin → Shared → Prop} (h : P (.done (.ret (.ref s.heap.objs.size))) { s with heap := s.heap.push fkB }) :
    wpAny M A (Builtin.«classmethod_descriptor.__get__» ⟨[.builtin "dict.fromkeys", .none, .type "dict"], []⟩) P E s := by
  unfold Builtin.«classmethod_descriptor.__get__»
  refine wpAny_bind (wpAny_of_eq (a := (.builtin "dict.fromkeys", none, some (.type "dict"))) (by first | rfl | kernel_rfl) ?_)
  simp only [fk_owner]
  refine wpAny_bind (wpAny_of_eq (a := .type "dict") rfl ?_)
  refine wpAny_bind (wpAny_of_eq (a := true) fk_isType ?_)
  refine KFB.if_not rfl ?_
  refine wpAny_bind (wpAny_of_eq (a := true) F.kt_sub_dict ?_)
  refine KFB.if_not rfl ?_
  exact wpAny_bind (wpAny_newObj_type (wpAny_pure h))
theorem fk_getm {pl : Sem Bool} {Q : Value × List Value → Shared → Prop} (F : Fr h₀ L s.heap m) (N : News h₀ L s.heap news) (X₀ : K.In h₀)
    (e : findCls K (.type "dict") (.type "type") (PySem.Str.ofString "fromkeys") = some (.get (.builtin "classmethod_descriptor.__get__") (.builtin "dict.fromkeys") .none (.type "dict")))
    (h : ∀ x h', Fr h₀ L h' m → News h₀ L h' ((x, fkB) :: news) → (∀ p ∈ news, p.1 < x) → Q (.ref x, []) { s with heap := h', toks := s.toks + 1 }) :
    wpAny (model prog w) A (getMethod (.type "dict") (PySem.Str.ofString "fromkeys") pl) Q E s := by
  have X := X₀.keeps F.keep
  have hstub : opaqueClassAbove (.type "dict") = pure none := by unfold opaqueClassAbove; dsimp only; rw [show Manifest.isStub "dict" = false by decide +kernel]; rfl
  have ht : typeOf (.type "dict") = pure (.type "type") := by first | rfl | kernel_rfl
  have L0 : Looks (model prog w) s.heap (typeOf (.type "dict")) (.type "type") := Looks.of_pure ht
  have hg : findIn K (.type "type") "__getattribute__" = some (some (.builtin "type.__getattribute__")) := type_tga
  unfold getMethod specialOf
  refine wpAny_bind (wpAny_bind (L0.here ((looks_findIn X hg).here ?_)))
  dsimp only
  rw [if_pos canon_tga]
  refine wpAny_bind (wpAny_mono (Q := fun v => Q (v, [])) (E := E) ?_ (fun _ _ z => wpAny_pure z) fun _ _ z => z)
  have LO : Looks (model prog w) s.heap (opaqueClassAbove (.type "dict")) none := Looks.of_pure hstub
  refine cls_open X LO L0 hg (looks_hook X (r := none) (by rfl)) (by show subIn K _ _ = _; rfl) e ?_
  show wpAny _ _ (holding [.builtin "dict.fromkeys"] (call (.builtin "classmethod_descriptor.__get__") [.builtin "dict.fromkeys", .none, .type "dict"]) >>= fun v => ret v) _ _ _
  refine wpAny_bind (wpAny_holding (wpAny_call_entry KFB.slot_get fk_type KFB.entry_get (fk_get ⟨_, rfl, wpAny_pure (wpAny_pure (h _ _ (F.push _) (News.push F N _) fun p hp => Heap.lt_size (N p hp).1))⟩) (KFB.args_get _ _ _)))
def FkAt (x : Addr) (h : Heap) : Prop := h.get? x = some fkB
theorem fk_at {x : Addr} {h : Heap} (N : News h₀ L h news) (hm : (x, fkB) ∈ news) : FkAt x h := N.get hm
theorem fk_fields {pos : Pos} {u : Addr} {first : List Value} {args : List (Bool × Sem Value)} {Q : Value → Shared → Prop} (hplain : args.any (·.1) = false)
    (h : wpAny M A (evalArgs (.ref u) true args []) (fun x s₁ => FkAt u s₁.heap ∧ wpAny M A (call (.ref u) (first ++ x.pos) x.kw) Q E s₁) E s) : wpAny M A (callWith pos (.ref u) first args []) Q E s := by
  unfold callWith
  refine wpAny_bind (wpAny_holding (wpAny_mono h (fun x s₁ h₁ => wpAny_bind (wpAny_standAt ?_)) fun _ _ x => x))
  obtain ⟨ho, hcall⟩ := h₁
  simp only [hplain, List.any_nil, Bool.or_false]
  refine wpAny_bind (m := keeperOf (.ref u)) ?_
  unfold keeperOf
  refine wpAny_bind (wpAny_load ho ?_)
  simp only [fkB, show (Value.type "builtin_function_or_method" != Value.type "method") = true by decide, show (Value.type "builtin_function_or_method" == Value.type "builtin_function_or_method" || Value.type "builtin_function_or_method" == Value.type "method-wrapper") = true by decide, if_true]
  refine wpAny_pure ?_
  exact wpAny_bind (wpAny_mono hcall (fun r s₂ hr => wpAny_bind (wpAny_holding (wpAny_point (wpAny_pure hr)))) fun _ _ x => x)
theorem fk_callWith {pos : Pos} {u : Addr} {first : List Value} {env : Env} {e : PySem.Expr} {rest : List PySem.Expr} {Q : Value → Shared → Prop} (_N : News h₀ L s.heap news) (_hm : (u, fkB) ∈ news)
    (h : wpAny M A (spliced (backTo pos (starEach (e :: rest) env))) (fun vs s₁ => FkAt u s₁.heap ∧ wpAny M A (call (.ref u) (first ++ vs)) Q E s₁) E s)
    (he : starEach (e :: rest) env = (false, eval e env) :: starEach rest env := by rfl) (hplain : (backTo pos (starEach rest env)).any (·.1) = false := by rfl) :
    wpAny M A (callWith pos (.ref u) first (backTo pos (starEach (e :: rest) env)) []) Q E s := by
  rw [he] at h ⊢
  refine fk_fields (by show (false || (backTo pos (starEach rest env)).any (·.1)) = false; rw [hplain]; rfl) ?_
  exact evalArgs_plain h
theorem fk_bound {x : Addr} {pc : Nat} {t : Tok} {Q : Value → Shared → Prop} (hh : A.handled = none) (hpc : pc < 128) (F : Fr h₀ L s.heap m) (N : News h₀ L s.heap news) (hm : (x, fkB) ∈ news) (hbig : sysModules < h₀.objs.size)
    (h : ∀ d h' tk, Fr h₀ L h' m → News h₀ L h' news → h'.DictOf (strKind prog w) d [(SS [pc], .none)] → (d == sysModules) = false → Q (.ref d) { s with heap := h', toks := tk }) : wpAny (model prog w) A (call (.ref x) [.str (SS [pc]) t]) Q E s := by
  refine wpAny_call (codeAny_of_tree ?_)
  show wpAny _ A.in1 (callAny (.ref x) ⟨[.str (SS [pc]) t], []⟩) _ _ s
  simp only [callAny]
  refine wpAny_bind (wpAny_load (N.get hm) ?_)
  simp only [fkB, show (Value.type "builtin_function_or_method" == Value.type "method" || Value.type "builtin_function_or_method" == Value.type "builtin_function_or_method" || Value.type "builtin_function_or_method" == Value.type "method-wrapper") = true by decide, if_true]
  refine KFB.if_so (by decide) ?_
  refine wpAny_bind (wpAny_of_eq (a := ()) fk_bcheck ?_)
  refine wpAny_bind (wpAny_pure (wpAny_pure ?_))
  refine ⟨fk_quiet, codeAny_builtin fk_entry ?_⟩
  rw [Around.under_plainId fk_plain _]
  exact fk_tree (R := fun r s' => match r with | .ok (.ret v) => Q v s' | .ok _ => False | .error e => E e s') hh hpc fun d h' tk keep hd hD => h d h' tk (F.keeps keep) (N.grown keep) hD (beq_eq_false_iff_ne.mpr (Nat.ne_of_gt (Nat.lt_of_lt_of_le (Nat.lt_of_lt_of_le hbig (Nat.le_of_lt (Nat.lt_of_le_of_lt F.above F.ns.lt))) hd)))
end
/-! LX -/
/-! list(lexer) -/
/-- the texts of a word, told by its punctuation -/
inductive Toks (pc : Nat) : List Nat → List TK → Prop where
  | nil : Toks pc [] []
  | cons {c : Nat} {r : List Nat} {t : Tok} {l : List TK} : Toks pc (restU pc c r) l → Toks pc (c :: r) ((c, tokU pc c r, t) :: l)
theorem ix_iter : ∀ P, findIn (K2 P) (.ref 729) "__iter__" = some (some (.ref 719)) := fun _ => by kernel_rfl
theorem ix_next : ∀ P, findIn (K2 P) (.ref 729) "__next__" = some (some (.ref 726)) := fun _ => by kernel_rfl
theorem ix_fn1 : ∀ P, isFn (K2 P) (.ref 719) = true := fun _ => by kernel_rfl
theorem ix_fn2 : ∀ P, isFn (K2 P) (.ref 726) = true := fun _ => by kernel_rfl
theorem ix_len : ∀ P, findIn (K2 P) (.ref 729) "__len__" = some none := fun _ => by kernel_rfl
theorem ix_hint : ∀ P, findIn (K2 P) (.ref 729) "__length_hint__" = some none := fun _ => by kernel_rfl
theorem stopIt : isSubtype (.type "StopIteration") (.type "StopIteration") = pure true := by rw [isSubtype_type]; kernel_rfl
theorem lx_stop {M : Model} {A : Around} {E : Value → Shared → Prop} {s : Shared} {L : Addr} {h₀ : Heap} {m : Str → Option Value} {Q : Option Value → Shared → Prop} {outer : List Env} {e t : Addr} {h : Heap} {env : Env} (henv : env.frame = some L) {vs : List Value} {news : List (Addr × Obj)}
    (R : RaisedK h₀ (env :: outer) e (.type "StopIteration") t vs news s.heap) (hsm : h.UpToSlots s.heap) (F : Fr h₀ L h m)
    (k : Fr h₀ L s.heap m → News h₀ L s.heap news → Q none s) : OwitStop M A Q E (.ref e) s := by
  obtain ⟨⟨B, hB, hl, hfl, _⟩, _⟩ := R
  have hL : B.get? L = none := by
    obtain ⟨_, ⟨L', _, hf, hn', _⟩, _⟩ := hfl.2.2.1
    rw [henv] at hf
    obtain rfl : L = L' := Option.some.inj hf
    exact hn'
  have hf' := flyingW_base hB hfl
  obtain ⟨ob, hob, hobc⟩ := hf'.there
  have hT : s.TypeIs (.ref e) "StopIteration" := (show ∃ o, s.heap.get? e = some o ∧ o.cls = .type "StopIteration" from ⟨ob, hob, hobc⟩)
  unfold OwitStop
  refine wpAny_isInstance hT stopIt ?_
  rw [if_pos rfl]
  exact k (F.of_stays hf'.1 hsm) fun q hq => ⟨hfl.1 _ _ (hl q hq).1, (fun z => by have := (hl q hq).1; rw [z, hL] at this; cases this), (hl q hq).2⟩
theorem push_list {h₀ h : Heap} {L T : Addr} {m : Str → Option Value} {news : List (Addr × Obj)} {xs : Array Value} {n : Nat} {f : Array Value → Array Value} (F : Fr h₀ L h m) (N : News h₀ L h ((T, listOf xs n) :: news)) (ho : ∀ z ∈ news, z.1 ≠ T) :
    ∃ n', Fr h₀ L (h.update T (Obj.mapSeq f)) m ∧ News h₀ L (h.update T (Obj.mapSeq f)) ((T, listOf (f xs) n') :: news) := by
  obtain ⟨a, b⟩ := news_upd (pre := []) (f := Obj.mapSeq f) F N (fun _ h => nomatch h) ho rfl rfl
  exact ⟨_, a, b⟩
section
variable (w : World) (p : Program) (loose : List Str) (mean : ExcName → Option Value) (mg mb : Str → Option Value)
theorem ln_LX_1 : True := by
  k_with_none
  k_with "enterM" => (refine wpAny_call ?_; refine' code_def ?k1 ?k2 ?k3 ?k4 ?k5 ?kA ?kF ?kK ?k6 ?k7 ?k8 ?k9 ?kB ?_ ?c2 ?c3 ?c4 ?c5; (case kA => exact rfl); (case kF => exact rfl); (case kK => assumption); (case k1 => k_asm); (case k2 => k_asm); (case k3 => k_asm); (case k4 => k_asm); (case k5 => k_asm); (case k6 => k_is); (case k7 => k_is); (case k8 => ktr_room); (case k9 => first | exact BindsTo.of_eq rfl | exact binds_K (by k_in) rfl (by k_is) rfl rfl rfl); (case c5 => decide); (case kB => exact locs rfl); (case c2 => exact rfl); (case c3 => exact rfl); (case c4 => exact rfl); k_whole; intro g' L' h' FG' F' N' B' X' T'; (try dsimp only); (try k_lift B'); (try k_fold))
  trivial
set_option maxHeartbeats 400000 in
theorem it_call (lx : Nat) (own : List (Addr × Obj)) : CtxW 20 160 w p loose mean mg mb 719 [.ref lx] own fun Q h₀ L mm s =>
    ∀ h' tk', Fr h₀ L h' mm → News h₀ L h' own → Q (.ref lx) { s with heap := h', toks := tk' } := by
  unfold CtxW
  k_fill
  intros
  rename_i hret
  k_dflt (walk_at "enterM")
  k_steps
  all_goals exact hret _ _ (by k_asm) (by k_asm)
end
theorem apart_cons {rest : List (Addr × Obj)} {dx dy q3 : Nat} {T : Nat} {o : Obj} (h : Apart rest dx dy q3) (h1 : T ≠ dx) (h2 : T ≠ dy) (h3 : T ≠ q3) : Apart ((T, o) :: rest) dx dy q3 :=
  ⟨fun z hz => by rcases List.mem_cons.mp hz with rfl | hz; exact h1; exact h.x z hz, fun z hz => by rcases List.mem_cons.mp hz with rfl | hz; exact h2; exact h.y z hz, fun z hz => by rcases List.mem_cons.mp hz with rfl | hz; exact h3; exact h.q z hz⟩
theorem rest_len {pc c : Nat} {r : List Nat} : (restU pc c r).length ≤ r.length := (List.dropWhile_sublist _).length_le
theorem rest_mem {pc c d : Nat} {r : List Nat} (h : d ∈ restU pc c r) : d ∈ r := (List.dropWhile_sublist _).subset h
section
variable (w : World) (p : Program) (loose : List Str) (mean : ExcName → Option Value) (mg mb : Str → Option Value)
variable (a : Nat → Int) (t v : Nat → Tok) (a' : Nat → Int) (t' : Nat → Tok) (lx dx y dy q1 q2 q3 : Nat) (rest : List (Addr × Obj)) (te : Tok) (WC B : Str) (pc : Nat)
   (hB : B.length ≤ 100) (o1 : dx < lx) (o2 : lx < dy) (o3 : dy < y) (o4 : y < q1) (o5 : q1 < q2) (o6 : q2 < q3) (o7 : Apart rest dx dy q3) (hWC : ∀ c, 65 ≤ c → c ≤ 77 → decide (c ∈ WC.cps.toList) = decide (c ≠ pc))
variable (dp un : Nat) (gd : Option (List Code)) (cn : Str) (cs : Scope) (ad : Addr) (ccd : Value) (cl : List (Str × Addr)) (outer : List Env) (A₀ : Around) (h₀ : Heap) (L : Addr) (m : Str → Option Value)
   (hBe : Below A₀ h₀ outer h₀) (hX : (K2 w.params).In h₀) (hT : Top p loose mean mg mb h₀) (hk : cs.kind = .function) (hd : dp + 100 < recursionLimit) (hu : un + 810 < cLine)
abbrev lexT (a : Nat → Int) (t v : Nat → Tok) (a' : Nat → Int) (t' : Nat → Tok) (lx dx y dy q1 q2 q3 : Nat) (rest : List (Addr × Obj)) (te : Tok) (WC B : Str) (pc : Nat) (b : Bool) (P : Int) (tp tx : Tok) (st : Value) (pb : List Value) (n3 : Int) (T : Addr) (l : List TK) (nn : Nat) : List (Addr × Obj) :=
  lexL a t v a' t' lx dx y dy q1 q2 q3 ((T, listOf (tkVs l).toArray nn) :: rest) b (eoV b te) WC (SS [pc]) B P tp st (.str (Str.ofString "") tx) pb n3
include hB o1 o2 o3 o4 o5 o6 o7 hWC hBe hX hT hk hd hu in
theorem lx_loop (b : Bool) (T : Nat) (T1 : q3 < T) (T2 : ∀ z ∈ rest, z.1 ≠ T) (R : Result → Shared → Prop) : ∀ (f : Nat) (r : List Nat) (P : Int) (tp tx : Tok) (st : Value) (pb : List Value) (n3 : Int) (l : List TK) (nn : Nat) (s : Shared),
    r.length ≤ f → LS B P st pb r → (∀ d ∈ r, 65 ≤ d ∧ d ≤ 77) → r.length ≤ 100 → l.length + r.length ≤ 1000 → Fr h₀ L s.heap m →
    News h₀ L s.heap (lexT a t v a' t' lx dx y dy q1 q2 q3 rest te WC B pc b P tp tx st pb n3 T l nn) →
    (∀ h' tk' l' nn' P' tp' tx' n', Toks pc r l' → LS B P' .none [] [] → Fr h₀ L h' m → News h₀ L h' (lexT a t v a' t' lx dx y dy q1 q2 q3 rest te WC B pc b P' tp' tx' .none [] n' T (l ++ l') nn') → R (.ok (.ret .none)) { s with heap := h', toks := tk' }) →
    codeAny (model PySem.Challenge.rw_nb0270_01.row.prog w) (ktrTop dp un gd cn cs L ad ccd cl outer) (.builtin "list.extend.loop" ⟨[.ref T, .ref lx, .none], []⟩) R s := by
  have oT : Apart ((T, listOf #[] 0) :: rest) dx dy q3 := apart_cons o7 (by omega) (by omega) (by omega)
  have oT' : ∀ o, Apart ((T, o) :: rest) dx dy q3 := fun o => ⟨fun z hz => by
      rcases List.mem_cons.mp hz with rfl | hz; (show (T : Nat) ≠ dx; omega); exact o7.x z hz, fun z hz => by
      rcases List.mem_cons.mp hz with rfl | hz; (show (T : Nat) ≠ dy; omega); exact o7.y z hz, fun z hz => by
      rcases List.mem_cons.mp hz with rfl | hz; (show (T : Nat) ≠ q3; omega); exact o7.q z hz⟩
  intro f
  induction f with
  | zero =>
    intro r P tp tx st pb n3 l nn s hf hs hlet hl hll hF hN hR
    have : r = [] := List.length_eq_zero_iff.mp (by omega)
    subst this
    refine codeAny_builtin F.entry_extend_loop ?_
    rw [Around.under_plainId F.plain_extend_loop _]
    show wpAny _ (ktrTop dp (un + 1) gd cn cs L ad ccd cl outer) (pyNext (.ref lx) >>= _) _ _ s
    refine wpAny_bind (owit_next hF hX (InstAt.of_news hN List.mem_cons_self (List.mem_cons_of_mem _ List.mem_cons_self)) (ix_next _) (ix_fn2 _) ?_)
    refine nx_end w p loose mean mg mb a t v a' t' lx dx y dy q1 q2 q3 ((T, listOf (tkVs l).toArray nn) :: rest) te WC B pc n3 hB o1 o2 o3 o4 o5 o6 (oT' _) b P tp tx st pb hs dp (un + 1) gd cn cs ad ccd cl outer A₀ h₀ h₀ L m s _ _ hBe hF hX hN hT hk (by omega) (by omega) ?_
    intro h' tk' e t9 tx' g' hs' hR' hU hF'
    refine lx_stop rfl hR' hU hF' fun F9 N9 => ?_
    refine wpAny_pure ?_
    refine hR h' tk' [] nn P tp tx' n3 .nil hs' F9 ?_
    rw [List.append_nil]
    exact N9
  | succ f ih =>
    intro r P tp tx st pb n3 l nn s hf hs hlet hl hll hF hN hR
    cases r with
    | nil => exact ih [] P tp tx st pb n3 l nn s (Nat.zero_le _) hs hlet hl hll hF hN hR
    | cons c r =>
      refine codeAny_builtin F.entry_extend_loop ?_
      rw [Around.under_plainId F.plain_extend_loop _]
      show wpAny _ (ktrTop dp (un + 1) gd cn cs L ad ccd cl outer) (pyNext (.ref lx) >>= _) _ _ s
      refine wpAny_bind (owit_next hF hX (InstAt.of_news hN List.mem_cons_self (List.mem_cons_of_mem _ List.mem_cons_self)) (ix_next _) (ix_fn2 _) ?_)
      have hlr : r.length ≤ 100 := by simp at hl; omega
      refine nx_tok w p loose mean mg mb a t v a' t' lx dx y dy q1 q2 q3 ((T, listOf (tkVs l).toArray nn) :: rest) te WC B pc n3 hB o1 o2 o3 o4 o5 o6 (oT' _) hWC b P tp tx st pb c r hs hlet hlr dp (un + 1) gd cn cs ad ccd cl outer A₀ h₀ h₀ L m s _ _ hBe hF hX hN hT hk (by omega) (by omega) ?_
      intro h1 tk1 P1 tp1 st1 tx1 pb1 n1 t8 hs1 F1 N1
      have hlt : (restU pc c r).length ≤ r.length := rest_len
      have hm1 : (T, listOf (tkVs l).toArray nn) ∈ lexT a t v a' t' lx dx y dy q1 q2 q3 rest te WC B pc b P1 tp1 tx1 st1 pb1 n1 T l nn := by
        simp only [lexT, lexL, List.mem_cons, true_or, or_true]
      have hz : (tkVs l).toArray.size ≤ 1000 := by simp at hll ⊢; omega
      show wpAny _ _ (updateSeq T (·.push (.str (SS (c :: tokU pc c r)) t8)) >>= _) _ _ _
      refine wpAny_bind (wpAny_updateSeq (N1 _ hm1).1 rfl (wpAny_pure ⟨plainId_quiet F.plain_extend_loop _, ?_⟩) (by rw [sizeLine_eq]; omega) (by rw [sizeLine_eq, Array.size_push]; omega))
      have key := news_upd (pre := [(lx, instObj 729 dx), (dx, dictOf (lexD a t v y q1 q2 q3 b (eoV b te) WC (SS [pc]) st1 (.str (Str.ofString "") tx1)) 20), (y, instObj 594 dy), (dy, dictOf (sioD a' t' B P1 tp1) 3), (q1, deqObj [] 0), (q2, deqObj [] 0), (q3, deqObj pb1 n1)]) (post := rest) (d := T) (f := Obj.mapSeq (·.push (.str (SS (c :: tokU pc c r)) t8))) F1 N1 ?_ T2 rfl rfl
      · obtain ⟨F2, N2⟩ := key
        refine ih (restU pc c r) P1 tp1 tx1 st1 pb1 n1 (l ++ [(c, tokU pc c r, t8)]) (if ((tkVs l).toArray.push (.str (SS (c :: tokU pc c r)) t8)).size == (tkVs l).toArray.size then nn else nn + 1) _ (by simp at hf; omega) hs1 (fun d hd => hlet d (List.mem_cons_of_mem _ (rest_mem hd))) (by omega) (by simp at hll ⊢; omega) F2 ?_ ?_
        · have e : (tkVs (l ++ [(c, tokU pc c r, t8)])).toArray = (tkVs l).toArray.push (.str (SS (c :: tokU pc c r)) t8) := by simp
          rw [lexT, e]
          exact N2
        · intro h' tk' l' nn' P' tp' tx' n' ht hs' F' N'
          refine hR h' tk' ((c, tokU pc c r, t8) :: l') nn' P' tp' tx' n' (.cons ht) hs' F' ?_
          rw [List.append_assoc] at N'
          exact N'
      · intro z hz'
        simp only [List.mem_cons, List.not_mem_nil, or_false] at hz'
        rcases hz' with rfl | rfl | rfl | rfl | rfl | rfl | rfl <;> (show (_ : Nat) ≠ T; omega)
end
theorem ln_LX_z : True := by
  k_with_none
  trivial
/-! LF -/
theorem lex_fin {g h : Heap} {L : Addr} {d8 xb lx dx y dy q1 q2 q3 dd cc : Nat} {o8 oD oC : Obj} {b : Bool} {eo : Value} {WC PL B : Str} {P : Int} {tp ts tx : Tok} {rest : List (Addr × Obj)}
    {h0 h1 h2 h3 h4 h5 h6 h7 h8 h9 h10 h11 h12 h13 h14 h15 h16 h17 h18 h19 g0 g1 g2 : Int} {k0 k1 k2 k3 k4 k5 k6 k7 k8 k9 k10 k11 k12 k13 k14 k15 k16 k17 k18 k19 v4 v5 v6 v8 v9 v10 v13 v14 v18 j0 j1 j2 j3 j4 : Tok}
    (N : News g L h ((d8, o8) :: (xb, fkB) :: (q3, deqObj [] 0) :: (q2, deqObj [] 0) :: (q1, deqObj [] 0) :: (y, instObj 594 dy) :: (dy, dictOf [⟨g0, .str "_StringIO__newline" j0, .str "\n" j1⟩, ⟨g1, .str "_StringIO__buf" j2, .str B j3⟩, ⟨g2, .str "_StringIO__pos" j4, .int P tp⟩] 3) :: (dd, oD) :: (cc, oC) :: (lx, instObj 729 dx) ::
      (dx, dictOf [⟨h0, .str "instream" k0, .ref y⟩, ⟨h1, .str "infile" k1, .none⟩, ⟨h2, .str "posix" k2, .bool b⟩, ⟨h3, .str "eof" k3, eo⟩, ⟨h4, .str "commenters" k4, .str "#" v4⟩, ⟨h5, .str "wordchars" k5, .str WC v5⟩, ⟨h6, .str "whitespace" k6, .str " \t\r\n" v6⟩, ⟨h7, .str "whitespace_split" k7, .bool false⟩, ⟨h8, .str "quotes" k8, .str "'\"" v8⟩, ⟨h9, .str "escape" k9, .str "\\" v9⟩, ⟨h10, .str "escapedquotes" k10, .str "\"" v10⟩, ⟨h11, .str "state" k11, .str " " ts⟩, ⟨h12, .str "pushback" k12, .ref q1⟩, ⟨h13, .str "lineno" k13, .int 1 v13⟩, ⟨h14, .str "debug" k14, .int 0 v14⟩, ⟨h15, .str "token" k15, .str (Str.ofString "") tx⟩, ⟨h16, .str "filestack" k16, .ref q2⟩, ⟨h17, .str "source" k17, .none⟩, ⟨h18, .str "_punctuation_chars" k18, .str PL v18⟩, ⟨h19, .str "_pushback_chars" k19, .ref q3⟩] 20) :: rest)) :
    News g L h (lexL (fun i => [h0, h1, h2, h3, h4, h5, h6, h7, h8, h9, h10, h11, h12, h13, h14, h15, h16, h17, h18, h19].getD i 0) (fun i => [k0, k1, k2, k3, k4, k5, k6, k7, k8, k9, k10, k11, k12, k13, k14, k15, k16, k17, k18, k19].getD i 0) (fun i => [0, 0, 0, 0, v4, v5, v6, 0, v8, v9, v10, 0, 0, v13, v14, 0, 0, 0, v18, 0].getD i 0) (fun i => [g0, g1, g2].getD i 0) (fun i => [j0, j1, j2, j3, j4].getD i 0) lx dx y dy q1 q2 q3 rest b eo WC PL B P tp (.str " " ts) (.str (Str.ofString "") tx) [] 0) := by
  intro p hp
  refine N p ?_
  rcases List.mem_cons.mp hp with rfl | hp
  · iterate 9 (refine List.mem_cons_of_mem _ ?_)
    exact List.mem_cons_self
  rcases List.mem_cons.mp hp with rfl | hp
  · iterate 10 (refine List.mem_cons_of_mem _ ?_)
    exact List.mem_cons_self
  rcases List.mem_cons.mp hp with rfl | hp
  · iterate 5 (refine List.mem_cons_of_mem _ ?_)
    exact List.mem_cons_self
  rcases List.mem_cons.mp hp with rfl | hp
  · iterate 6 (refine List.mem_cons_of_mem _ ?_)
    exact List.mem_cons_self
  rcases List.mem_cons.mp hp with rfl | hp
  · iterate 4 (refine List.mem_cons_of_mem _ ?_)
    exact List.mem_cons_self
  rcases List.mem_cons.mp hp with rfl | hp
  · iterate 3 (refine List.mem_cons_of_mem _ ?_)
    exact List.mem_cons_self
  rcases List.mem_cons.mp hp with rfl | hp
  · iterate 2 (refine List.mem_cons_of_mem _ ?_)
    exact List.mem_cons_self
  · iterate 11 (refine List.mem_cons_of_mem _ ?_)
    exact hp
theorem wc_ok {pc : Nat} {X : Str} (hX : ((List.range' 65 13).all fun c => X.cps.toList.contains c) = true) : ∀ c, 65 ≤ c → c ≤ 77 → decide (c ∈ (SS (X.cps.toList.filter (· != pc))).cps.toList) = decide (c ≠ pc) := by
  intro c h1 h2
  have hm : c ∈ X.cps.toList := by
    have := List.all_eq_true.mp hX c (List.mem_range'_1.mpr ⟨h1, by omega⟩)
    simpa using this
  have e : c ∈ (SS (X.cps.toList.filter (· != pc))).cps.toList ↔ c ≠ pc := by
    show c ∈ X.cps.toList.filter (· != pc) ↔ _
    rw [List.mem_filter]
    simp [hm]
  exact decide_eq_decide.mpr e
/-! LY -/
theorem toks_len {pc : Nat} {r : List Nat} {l : List TK} (h : Toks pc r l) : l.length ≤ r.length := by
  induction h with
  | nil => exact Nat.le_refl _
  | cons h ih => rename_i c r t l; have := rest_len (pc := pc) (c := c) (r := r); simp; omega
section
variable (w : World) (p : Program) (loose : List Str) (mean : ExcName → Option Value) (mg mb : Str → Option Value)
variable (a : Nat → Int) (t v : Nat → Tok) (a' : Nat → Int) (t' : Nat → Tok) (lx dx y dy q1 q2 q3 : Nat) (rest : List (Addr × Obj)) (te : Tok) (WC B : Str) (pc : Nat)
   (hB : B.length ≤ 100) (o1 : dx < lx) (o2 : lx < dy) (o3 : dy < y) (o4 : y < q1) (o5 : q1 < q2) (o6 : q2 < q3) (o7 : Apart rest dx dy q3) (hWC : ∀ c, 65 ≤ c → c ≤ 77 → decide (c ∈ WC.cps.toList) = decide (c ≠ pc))
variable (dp un : Nat) (gd : Option (List Code)) (cn : Str) (cs : Scope) (ad : Addr) (ccd : Value) (cl : List (Str × Addr)) (outer : List Env) (A₀ : Around) (h₀ : Heap) (L : Addr) (m : Str → Option Value)
   (hBe : Below A₀ h₀ outer h₀) (hX : (K2 w.params).In h₀) (hT : Top p loose mean mg mb h₀) (hk : cs.kind = .function) (hd : dp + 100 < recursionLimit) (hu : un + 820 < cLine)
include hB o1 o2 o3 o4 o5 o6 o7 hWC hBe hX hT hk hd hu in
set_option maxHeartbeats 1000000 in
theorem list_lex (b : Bool) (r : List Nat) (P : Int) (tp tx : Tok) (st : Value) (pb : List Value) (n3 : Int) (s : Shared) (Q E : Value → Shared → Prop) (hs : LS B P st pb r) (hlet : ∀ d ∈ r, 65 ≤ d ∧ d ≤ 77) (hl : r.length ≤ 100) (hF : Fr h₀ L s.heap m)
    (hN : News h₀ L s.heap (lexL a t v a' t' lx dx y dy q1 q2 q3 rest b (eoV b te) WC (SS [pc]) B P tp st (.str (Str.ofString "") tx) pb n3))
    (hQ : ∀ h' tk' (T : Nat) l' nn' P' tp' tx' n', q3 < T → (∀ z ∈ rest, z.1 < T) → Toks pc r l' → LS B P' .none [] [] → Fr h₀ L h' m → News h₀ L h' (lexT a t v a' t' lx dx y dy q1 q2 q3 rest te WC B pc b P' tp' tx' .none [] n' T l' nn') → Q (.ref T) { s with heap := h', toks := tk' }) :
    wpAny (model PySem.Challenge.rw_nb0270_01.row.prog w) (ktrTop dp un gd cn cs L ad ccd cl outer) (call (.type "list") [.ref lx]) Q E s := by
  have hq3 : q3 < s.heap.objs.size := Heap.lt_size (hN (q3, deqObj pb n3) (by simp only [lexL, List.mem_cons, true_or, or_true])).1
  have hlx : lx < s.heap.objs.size := by omega
  have hrest : ∀ z ∈ rest, z.1 < s.heap.objs.size := fun z hz => Heap.lt_size (hN z (by simp only [lexL, List.mem_cons, hz, or_true])).1
  refine callType_codes (Q₁ := fun obj s₁ => obj = .ref s.heap.objs.size ∧ s₁ = { s with heap := s.heap.push { cls := .type "list", data := .seq #[] } }) F.called_list (F.typeCall_list_1 _) F.entry_list_init
    (code_list_new _ ⟨rfl, rfl⟩) fun obj s₁ h₁ => ?_
  obtain ⟨rfl, rfl⟩ := h₁
  generalize hT0 : s.heap.objs.size = T at *
  have hS : (s.heap.push { cls := .type "list", data := .seq #[] }).get? T = some { cls := .type "list", data := .seq #[] } := by rw [← hT0]; exact Heap.get?_push_size _ rfl
  have F1 : Fr h₀ L (s.heap.push (listOf #[] 0)) m := hF.push _
  have N1 : News h₀ L (s.heap.push (listOf #[] 0)) ((T, listOf #[] 0) :: lexL a t v a' t' lx dx y dy q1 q2 q3 rest b (eoV b te) WC (SS [pc]) B P tp st (.str (Str.ofString "") tx) pb n3) := by
    have := hN.push hF (listOf #[] 0)
    rw [hT0] at this
    exact this
  have hne : ∀ z ∈ lexL a t v a' t' lx dx y dy q1 q2 q3 rest b (eoV b te) WC (SS [pc]) B P tp st (.str (Str.ofString "") tx) pb n3, z.1 ≠ T := fun z hz => Nat.ne_of_lt (by rw [← hT0]; exact Heap.lt_size (hN z hz).1)
  refine ⟨⟨_, hS, rfl⟩, F.args_list_init_2 _ _, ?_⟩
  show wpAny _ (ktrTop dp (un + 2) gd cn cs L ad ccd cl outer) (do let old ← Builtin.List.listItems (.ref T); Builtin.List.listUpdate (.ref T) (fun _ => #[]); letGo old.toList.reverse; Builtin.List.listExtendWith (.ref T) (.ref lx) .none) _ _ _
  refine wpAny_bind ?_
  unfold Builtin.List.listItems
  refine wpAny_bind (wpAny_seqItems hS rfl (wpAny_pure ?_))
  show wpAny _ (ktrTop dp (un + 2) gd cn cs L ad ccd cl outer) (updateSeq T (fun _ => #[]) >>= fun _ => letGo (#[] : Array Value).toList.reverse >>= fun _ => Builtin.List.listExtendWith (.ref T) (.ref lx) .none) _ _ _
  refine wpAny_bind (wpAny_updateSeq hS rfl ?_)
  obtain ⟨n2, F2, N2⟩ := push_list (f := fun _ => #[]) F1 N1 hne
  refine wpAny_bind (wpAny_letGo ?_)
  unfold Builtin.List.listExtendWith
  have I2 : InstAt ((s.heap.push (listOf #[] 0)).update T (Obj.mapSeq fun _ => #[])) lx (instObj 729 dx) 729 (some _) := InstAt.of_news N2 (List.mem_cons_of_mem _ List.mem_cons_self) (List.mem_cons_of_mem _ (List.mem_cons_of_mem _ List.mem_cons_self))
  refine wpAny_bind (I2.type.here ?_)
  have h1 : Builtin.List.listSameRef (.ref T) (.ref lx) = false := by
    have : T ≠ lx := by omega
    simp [Builtin.List.listSameRef, this]
  have h2 : (Value.ref 729 == Value.type "list") = false := by decide
  have h3 : (Value.ref 729 == Value.type "tuple") = false := by decide
  simp only [h1, h2, h3, Bool.or_false, Bool.false_eq_true, if_false]
  refine wpAny_bind (owit_iter F2 hX I2 (ix_iter _) (ix_fn1 _) ?_)
  refine it_call w p loose mean mg mb lx _ dp (un + 2) gd cn cs ad ccd cl outer A₀ h₀ h₀ L m _ _ _ hBe F2 hX N2 hT hk (by omega) (by omega) ?_
  intro h3 tk3 F3 N3
  have I3 : InstAt h3 lx (instObj 729 dx) 729 (some _) := InstAt.of_news N3 (List.mem_cons_of_mem _ List.mem_cons_self) (List.mem_cons_of_mem _ (List.mem_cons_of_mem _ List.mem_cons_self))
  refine owit_it F3 hX I3 (ix_next _) ?_
  refine wpAny_bind (wpAny_holding ?_)
  unfold Builtin.List.listLengthHint specialOf
  refine wpAny_bind (wpAny_bind (I3.type.here ((looks_findIn (hX.keeps F3.keep) (ix_len _)).here ?_)))
  show wpAny _ _ ((typeOf (Value.ref lx) >>= fun t => typeLookup t "__length_hint__") >>= _) _ _ _
  refine wpAny_bind (wpAny_bind (I3.type.here ((looks_findIn (hX.keeps F3.keep) (ix_hint _)).here ?_)))
  refine wpAny_pure ?_
  show wpAny _ (ktrTop dp (un + 2) gd cn cs L ad ccd cl outer) (rule "list.extend.makes-room" >>= fun _ => Builtin.List.listTouch (.ref T) >>= fun _ => again (.builtin "list.extend.loop" ⟨[.ref T, .ref lx, .none], []⟩)) _ _ _
  refine wpAny_bind (wpAny_rule ?_)
  refine wpAny_bind ?_
  show wpAny _ (ktrTop dp (un + 2) gd cn cs L ad ccd cl outer) (updateSeq T (·.push .none) >>= fun _ => updateSeq T (·.pop)) _ _ _
  refine wpAny_bind (wpAny_updateSeq (N3 _ List.mem_cons_self).1 rfl ?_)
  obtain ⟨n4, F4, N4⟩ := push_list (f := (·.push .none)) F3 N3 hne
  refine wpAny_updateSeq (N4 _ List.mem_cons_self).1 rfl ?_ (by decide) (by decide)
  obtain ⟨n5, F5, N5⟩ := push_list (f := (·.pop)) F4 N4 hne
  refine wpAny_pure ⟨plainId_quiet F.plain_extend_loop _, ?_⟩
  refine lx_loop w p loose mean mg mb a t v a' t' lx dx y dy q1 q2 q3 rest te WC B pc hB o1 o2 o3 o4 o5 o6 o7 hWC dp (un + 1) gd cn cs ad ccd cl outer A₀ h₀ L m hBe hX hT hk (by omega) (by omega) b T (by omega) (fun z hz => Nat.ne_of_lt (hrest z hz)) _ r.length r P tp tx st pb n3 [] n5 _ (Nat.le_refl _) hs hlet hl (by simp; omega) F5 (news_sub (fun z hz => ?_) N5) ?_
  · simp only [lexT, lexL, List.mem_cons] at hz ⊢
    grind
  · intro h' tk' l' nn' P' tp' tx' n' ht hs' F' N'
    exact ⟨rfl, hQ h' tk' T l' nn' P' tp' tx' n' (by omega) hrest ht hs' F' N'⟩
end
/-! L8 -/
noncomputable abbrev laE (fa : Addr) (cdv : Value) (L : Addr) : Env := envOfC "law" laScope.1 L fa cdv
theorem ln_L8_1 : True := by
  k_with_none
  k_with "eval Name" => (k_here; k_dflt (refine' nameX_L ?F ?v ?_ ?a ?b; (case F => k_asm); (case a => rfl); (case b => rfl); (case v => first | rfl | assumption); k_whole))
  k_with "eval Name" => (k_here; k_dflt (refine' nameC ?a ?b ?c ?N ?m ?d ?_; (case a => rfl); (case b => rfl); (case c => rfl); (case N => k_asm); (case m => kcf_m); (case d => assumption)))
  k_with "call builtin:bytes.decode" => (k_here; k_dflt (refine bytes_decode (by assumption) (by assumption) ?_); intro t9 k9)
  k_with "call ref" => ((with_reducible show wpAny _ _ (call (Value.ref 594) [_]) _ _ _); k_dflt (refine' call_sio ?F ?X ?_; (case F => k_asm); (case X => k_asm)))
  k_with "call builtin:object.__new__" => (k_here; k_dflt (refine' call_new ?F ?X ?N ?_; (case F => k_asm); (case X => k_asm); (case N => k_asm)); intro x' d' h' F' N' l1 l2; (try k_lt l1); (try k_lt2 l2); (try k_sweep))
  k_with "compareOp IsNot ref ref" => ((with_reducible show wpAny _ _ (compareOp _ (Value.ref 594) (Value.ref 347)) _ _ _); k_dflt (refine' isnot_sio ?F ?X ?_; (case F => k_asm); (case X => k_asm)))
  k_with "call type:collections.deque" => (k_here; k_dflt (refine' deq_make ?F ?N ?_; (case F => k_asm); (case N => k_asm)); intro x' h' F' N' l1; (try k_lt l1); (try k_sweep))
  k_with "truthy str" => ((with_reducible show wpAny _ _ (truthy (Value.str (SS [_]) _)) _ _ _); refine truthy_chr ?_; intro tk9)
  k_with "SioBack" => (k_dflt (refine' ⟨_, _, _, _, rfl, rfl, ?X, ?g, ?_⟩; (case X => exact Frag.In.keeps (by k_asm) (Fr.keep (by k_asm))); (case g => exact News.get (by k_asm) (by k_mem))); k_enter)
  trivial
theorem big_of {P : Params} {h : Heap} (X : (K2 P).In h) : sysModules < h.objs.size := by
  have hl : ∃ o, List.lookup 755 (K2 P) = some o := ⟨_, rfl⟩
  obtain ⟨o, hl⟩ := hl
  exact Nat.lt_trans (by decide) (Heap.lt_size (X _ _ hl))
theorem two_fits {A : List Nat} : (SS A).cps.toList = A := rfl
theorem ln_L8_2 : True := by
  k_with_none
  k_with "eval Name" => (k_here; k_dflt (refine' nameX_L ?F ?v ?_ ?a ?b; (case F => k_asm); (case a => rfl); (case b => rfl); (case v => first | rfl | assumption); k_whole))
  k_with "eval Name" => (k_here; k_dflt (refine' nameC ?a ?b ?c ?N ?m ?d ?_; (case a => rfl); (case b => rfl); (case c => rfl); (case N => k_asm); (case m => kcf_m); (case d => assumption)))
  k_with "call builtin:bytes.decode" => (k_here; k_dflt (refine bytes_decode (by assumption) (by assumption) ?_); intro t9 k9)
  k_with "call ref" => ((with_reducible show wpAny _ _ (call (Value.ref 594) [_]) _ _ _); k_dflt (refine' call_sio ?F ?X ?_; (case F => k_asm); (case X => k_asm)))
  k_with "call builtin:object.__new__" => (k_here; k_dflt (refine' call_new ?F ?X ?N ?_; (case F => k_asm); (case X => k_asm); (case N => k_asm)); intro x' d' h' F' N' l1 l2; (try k_lt l1); (try k_lt2 l2); (try k_sweep))
  k_with "compareOp IsNot ref ref" => ((with_reducible show wpAny _ _ (compareOp _ (Value.ref 594) (Value.ref 347)) _ _ _); k_dflt (refine' isnot_sio ?F ?X ?_; (case F => k_asm); (case X => k_asm)))
  k_with "call type:collections.deque" => (k_here; k_dflt (refine' deq_make ?F ?N ?_; (case F => k_asm); (case N => k_asm)); intro x' h' F' N' l1; (try k_lt l1); (try k_sweep))
  k_with "truthy str" => ((with_reducible show wpAny _ _ (truthy (Value.str (SS [_]) _)) _ _ _); refine truthy_chr ?_; intro tk9)
  k_with "SioBack" => (k_dflt (refine' ⟨_, _, _, _, rfl, rfl, ?X, ?g, ?_⟩; (case X => exact Frag.In.keeps (by k_asm) (Fr.keep (by k_asm))); (case g => exact News.get (by k_asm) (by k_mem))); k_enter)
  k_with "getMethod str" => ((with_reducible show wpAny _ _ (getMethod (Value.str _ _) (PySem.Str.ofString "maketrans") _) _ _ _); k_dflt (refine gm_mt ?_); intro tk9)
  trivial
theorem gm_tr {prog : Program} {w : World} {A : Around} {E : Value → Shared → Prop} {s : Shared} {X : Str} {t : Tok} {pl : Sem Bool} {Q : Value × List Value → Shared → Prop} (h : Q (.builtin "str.translate", [.str X t]) s) : wpAny (model prog w) A (getMethod (.str X t) (Str.ofString "translate") pl) Q E s := by
  have hT : s.TypeIs (.str X t) "str" := typeIs_str _ _ _
  have hd : ∀ a, Value.str X t = .ref a → ∃ o, s.heap.get? a = some o ∧ o.dict = none := fun a e => nomatch e
  refine getMethod_builtin (T := "str") (id := "str.translate") (name := Str.ofString "translate") hT F.plainAttrs_str ?_ F.type_str_translate hd h
  exact F.slot_str_translate
theorem ln_L8_3 : True := by
  k_with_none
  k_with "eval Name" => (k_here; k_dflt (refine' nameX_L ?F ?v ?_ ?a ?b; (case F => k_asm); (case a => rfl); (case b => rfl); (case v => first | rfl | assumption); k_whole))
  k_with "eval Name" => (k_here; k_dflt (refine' nameC ?a ?b ?c ?N ?m ?d ?_; (case a => rfl); (case b => rfl); (case c => rfl); (case N => k_asm); (case m => kcf_m); (case d => assumption)))
  k_with "call builtin:bytes.decode" => (k_here; k_dflt (refine bytes_decode (by assumption) (by assumption) ?_); intro t9 k9)
  k_with "call ref" => ((with_reducible show wpAny _ _ (call (Value.ref 594) [_]) _ _ _); k_dflt (refine' call_sio ?F ?X ?_; (case F => k_asm); (case X => k_asm)))
  k_with "call builtin:object.__new__" => (k_here; k_dflt (refine' call_new ?F ?X ?N ?_; (case F => k_asm); (case X => k_asm); (case N => k_asm)); intro x' d' h' F' N' l1 l2; (try k_lt l1); (try k_lt2 l2); (try k_sweep))
  k_with "compareOp IsNot ref ref" => ((with_reducible show wpAny _ _ (compareOp _ (Value.ref 594) (Value.ref 347)) _ _ _); k_dflt (refine' isnot_sio ?F ?X ?_; (case F => k_asm); (case X => k_asm)))
  k_with "call type:collections.deque" => (k_here; k_dflt (refine' deq_make ?F ?N ?_; (case F => k_asm); (case N => k_asm)); intro x' h' F' N' l1; (try k_lt l1); (try k_sweep))
  k_with "truthy str" => ((with_reducible show wpAny _ _ (truthy (Value.str (SS [_]) _)) _ _ _); refine truthy_chr ?_; intro tk9)
  k_with "SioBack" => (k_dflt (refine' ⟨_, _, _, _, rfl, rfl, ?X, ?g, ?_⟩; (case X => exact Frag.In.keeps (by k_asm) (Fr.keep (by k_asm))); (case g => exact News.get (by k_asm) (by k_mem))); k_enter)
  k_with "getMethod str" => ((with_reducible show wpAny _ _ (getMethod (Value.str _ _) (PySem.Str.ofString "maketrans") _) _ _ _); k_dflt (refine gm_mt ?_); intro tk9)
  k_with "getMethod str" => ((with_reducible show wpAny _ _ (getMethod (Value.str _ _) (PySem.Str.ofString "translate") _) _ _ _); k_dflt (refine gm_tr ?_))
  k_with "getMethod type:dict" => (k_here; k_dflt (refine' fk_getm ?kfbF ?kfbN ?kfbX ?kfbE ?_; (case kfbF => k_asm); (case kfbN => k_asm); (case kfbX => k_asm); (case kfbE => k_is); k_whole; intro x' h' F' N' l1; (try k_lt l1); (try k_sweep)))
  k_with "callWith ref" => (k_here; (with_reducible show wpAny _ _ (callWith _ (Value.ref _) _ (backTo _ (starEach (_ :: _) _)) []) _ _ _); k_dflt (refine' fk_callWith ?kfbN ?kfbM ?_; (case kfbN => k_asm); (case kfbM => k_mem); k_whole))
  k_with "And" => ((with_reducible show FkAt _ _ ∧ _); k_dflt (refine ⟨fk_at (by k_asm) (by k_mem), ?_⟩); (try dsimp only [List.nil_append, List.cons_append]))
  k_with "call ref" => (k_here; (with_reducible show wpAny _ _ (call (Value.ref _) [Value.str (SS [_]) _]) _ _ _); k_dflt (refine' fk_bound rfl (by assumption) ?F ?N ?m (big_of (by k_asm)) ?_; (case F => k_asm); (case N => k_asm); (case m => k_mem)); intro d9 h9 tk9 F9 N9 hd9 lo9)
  k_with "call builtin:str.maketrans" => (k_here; k_dflt (refine' mt_N (by assumption) (by assumption) (by assumption) ?F ?N (big_of (by k_asm)) ?_; (case F => k_asm); (case N => k_asm)); intro d8 o8 h8 tk8 F8 N8 hd8 lo8 lt8; (try k_lt lt8); (try k_sweep))
  k_with "call builtin:str.translate" => (k_here; k_dflt (refine' tr_N rfl ?F ?N ?m (by assumption) (by assumption) (by decide +kernel) (by decide +kernel) ?_; (case F => k_asm); (case N => k_asm); (case m => k_mem)); intro h7 tk7 t7 F7 N7)
  trivial
section
variable (w : World) (p : Program) (loose : List Str) (mean : ExcName → Option Value) (mg mb : Str → Option Value)
variable (fa : Addr) (cdv : Value) (base g : Heap) (L' : Addr) (E : Value → Shared → Prop) (Q : Flow → Shared → Prop)
   (hBe : Below callerA base [] g) (hX : (K2 w.params).In g) (hT : Top p loose mean mg mb g)
set_option maxHeartbeats 3000000 in
include hBe hX hT in
theorem st6 (own : List (Addr × Obj)) (oS oL oK : Obj) (pc : Nat) (tl tw : Tok) (b : Bool) (hL : oL.data = .cell (some (.str (SS [pc]) tl))) (cs : List Nat) (hpc : pc < 128) (hc : ∀ c ∈ cs, c < 128) (hl : cs.length ≤ 100) (mm : Str → Option Value) (hw : mm (Str.ofString "word") = some (.bytes (asB cs) tw)) (hb : mm (Str.ofString "posix") = some (.bool b)) (s : Shared)
    (hF : Fr g L' s.heap mm) (hN : News g L' s.heap ((L' + 1, oS) :: (L' + 1 + 1, oL) :: (L' + 1 + 1 + 1, oK) :: own))
    (H : ∀ h' tk' (a : Nat → Int) (t v : Nat → Tok) (a' : Nat → Int) (t' : Nat → Tok) (lx dx y dy q1 q2 q3 : Nat) (te ts tx tp : Tok) (WC : Str), dx < lx → lx < dy → dy < y → y < q1 → q1 < q2 → q2 < q3 → (@LT.lt Nat _ (L' + 1) dx ∧ @LT.lt Nat _ (L' + 1 + 1) dx ∧ @LT.lt Nat _ (L' + 1 + 1 + 1) dx ∧ AllLt dx own) → (∀ c, 65 ≤ c → c ≤ 77 → decide (c ∈ WC.cps.toList) = decide (c ≠ pc)) →
      Fr g L' h' (fun z => if z = Str.ofString "lexer" then some (.ref lx) else mm z) → News g L' h' (lexL a t v a' t' lx dx y dy q1 q2 q3 ((L' + 1, oS) :: (L' + 1 + 1, oL) :: (L' + 1 + 1 + 1, oK) :: own) b (eoV b te) WC (SS [pc]) (SS cs) 0 tp (.str " " ts) (.str (Str.ofString "") tx) [] 0) → Q .next { s with heap := h', toks := tk' }) :
    wpAny (model PySem.Challenge.rw_nb0270_01.row.prog w) (callerA.deeper (laE fa cdv L')) (execs laS6.1 (laE fa cdv L')) Q E s := by
  revert hX
  k_fill
  intro hX
  k_steps
  all_goals (
    subst b
    have N10 := lex_fin (g := g) (L := L') (by assumption)
    first | refine H _ _ _ _ _ _ _ _ _ _ _ _ _ _ 0 _ _ _ _ ?o1 ?o2 ?o3 ?o4 ?o5 ?o6 ?o7 ?wc (by assumption) N10 | refine H _ _ _ _ _ _ _ _ _ _ _ _ _ _ _ _ _ _ _ ?o1 ?o2 ?o3 ?o4 ?o5 ?o6 ?o7 ?wc (by assumption) N10
    case o1 => omega
    case o2 => omega
    case o3 => omega
    case o4 => omega
    case o5 => omega
    case o6 => omega
    case o7 => assumption
    case wc => exact wc_ok (by decide +kernel))
end
theorem ln_L8_z : True := by
  k_with_none
  trivial
/-! LB -/
@[reducible] noncomputable def laT0 : {x : List Stmt // laAt 0 = x} := by
  refine ⟨?_, ?_⟩
  rotate_left
  · conv => lhs; whnf
@[reducible] noncomputable def laT1 : {x : List Stmt // laAt 1 = x} := by
  refine ⟨?_, ?_⟩
  rotate_left
  · conv => lhs; whnf
@[reducible] noncomputable def laT2 : {x : List Stmt // laAt 2 = x} := by
  refine ⟨?_, ?_⟩
  rotate_left
  · conv => lhs; whnf
@[reducible] noncomputable def laT3 : {x : List Stmt // laAt 3 = x} := by
  refine ⟨?_, ?_⟩
  rotate_left
  · conv => lhs; whnf
@[reducible] noncomputable def laT4 : {x : List Stmt // laAt 4 = x} := by
  refine ⟨?_, ?_⟩
  rotate_left
  · conv => lhs; whnf
@[reducible] noncomputable def laT5 : {x : List Stmt // laAt 5 = x} := by
  refine ⟨?_, ?_⟩
  rotate_left
  · conv => lhs; whnf
@[reducible] noncomputable def laT7 : {x : List Stmt // laAt 7 = x} := by
  refine ⟨?_, ?_⟩
  rotate_left
  · conv => lhs; whnf
@[reducible] noncomputable def laT8 : {x : List Stmt // laAt 8 = x} := by
  refine ⟨?_, ?_⟩
  rotate_left
  · conv => lhs; whnf
@[reducible] noncomputable def laT9 : {x : List Stmt // laAt 9 = x} := by
  refine ⟨?_, ?_⟩
  rotate_left
  · conv => lhs; whnf
@[reducible] noncomputable def laT10 : {x : List Stmt // laAt 10 = x} := by
  refine ⟨?_, ?_⟩
  rotate_left
  · conv => lhs; whnf
@[reducible] noncomputable def laT11 : {x : List Stmt // laAt 11 = x} := by
  refine ⟨?_, ?_⟩
  rotate_left
  · conv => lhs; whnf
@[reducible] noncomputable def laT12 : {x : List Stmt // laAt 12 = x} := by
  refine ⟨?_, ?_⟩
  rotate_left
  · conv => lhs; whnf
@[reducible] noncomputable def laT13 : {x : List Stmt // laAt 13 = x} := by
  refine ⟨?_, ?_⟩
  rotate_left
  · conv => lhs; whnf
/-- what law has made besides its cells -/
def Hi (L : Addr) (own : List (Addr × Obj)) : Prop := ∀ z ∈ own, z.1 ≠ L + 1 ∧ z.1 ≠ L + 1 + 1 ∧ z.1 ≠ L + 1 + 1 + 1
theorem Hi.a {L : Addr} {own : List (Addr × Obj)} (h : Hi L own) : ∀ z ∈ own, z.1 ≠ L + 1 := fun z hz => (h z hz).1
theorem Hi.b {L : Addr} {own : List (Addr × Obj)} (h : Hi L own) : ∀ z ∈ own, z.1 ≠ L + 1 + 1 := fun z hz => (h z hz).2.1
theorem Hi.c {L : Addr} {own : List (Addr × Obj)} (h : Hi L own) : ∀ z ∈ own, z.1 ≠ L + 1 + 1 + 1 := fun z hz => (h z hz).2.2
theorem Hi.cons {L l : Addr} {o : Obj} {own : List (Addr × Obj)} (h : Hi L own) (h1 : l ≠ L + 1) (h2 : l ≠ L + 1 + 1) (h3 : l ≠ L + 1 + 1 + 1) : Hi L ((l, o) :: own) := fun z hz => by
  rcases List.mem_cons.mp hz with rfl | hz
  · exact ⟨h1, h2, h3⟩
  · exact h z hz
theorem cells_first {g h : Heap} {L S a b c : Addr} {o o1 o2 o3 : Obj} {own : List (Addr × Obj)} (N : News g L h ((S, o) :: (a, o1) :: (b, o2) :: (c, o3) :: own)) : News g L h ((a, o1) :: (b, o2) :: (c, o3) :: (S, o) :: own) :=
  news_sub (fun p hp => by simp only [List.mem_cons] at hp ⊢; rcases hp with h | h | h | h | h <;> simp [h]) N
theorem off3 {a b c l : Addr} {o1 o2 o3 : Obj} {own : List (Addr × Obj)} (h : ∀ z ∈ ((a, o1) :: (b, o2) :: (c, o3) :: own), z.1 ≠ l) : (@Ne Nat l a) ∧ (@Ne Nat l b) ∧ (@Ne Nat l c) ∧ ∀ z ∈ own, z.1 ≠ l :=
  ⟨Ne.symm (h _ List.mem_cons_self), Ne.symm (h _ (List.mem_cons_of_mem _ List.mem_cons_self)), Ne.symm (h _ (List.mem_cons_of_mem _ (List.mem_cons_of_mem _ List.mem_cons_self))), fun z hz => h z (List.mem_cons_of_mem _ (List.mem_cons_of_mem _ (List.mem_cons_of_mem _ hz)))⟩
theorem storeC {M : Model} {A : Around} {E : Value → Shared → Prop} {s : Shared} {h₀ : Heap} {L a : Addr} {m : Str → Option Value} {cn : Str} {cs : Scope} {ccd : Value} {x : Str} {v : Value} {v₀ : Option Value} {Q : Unit → Shared → Prop} {news : List (Addr × Obj)} {c : Addr} {o : Obj} {g : Obj → List (Addr × Obj)}
    (hk : cs.kind = .function) (hx : (envOfC cn cs L a ccd).kindOf x = some .cell) (hc : (cellsFrom (L + 1) cs.names []).lookup x = some c) (F : Fr h₀ L s.heap m) (N : News h₀ L s.heap news) (U : UpdF c o news g) (hd : o.data = .cell v₀)
    (h : ∀ h' o', Fr h₀ L h' m → News h₀ L h' (g o') → o'.data = .cell (some v) → Q () { s with heap := h' }) : wpAny M A (storeName (envOfC cn cs L a ccd) x v) Q E s := storeX_C (cl := cellsFrom (L + 1) cs.names []) F N hc U hd h hk hx
local macro_rules | `(tactic| k_all) => `(tactic| first | assumption | exact Hi.a (by assumption) | exact Hi.b (by assumption) | exact Hi.c (by assumption))
/-! LC -/
section
open LCg
variable {prog : Program} {w : World} {A : Around} {h₀ : Heap} {L : Addr} {m : Str → Option Value} {env : Env} {elt : PySem.Expr} {x : Str} {scope : Scope} {cl : List (Str × Addr)} {s : Shared} {S : List (Addr × Obj) → Prop} {Fin : List Value → List (Addr × Obj) → Prop} {news : List (Addr × Obj)}
theorem list_rest {its : Array Value} (Y : Nat → Value → Prop)
    (turn : ∀ i v I oI C oC D m₂ ys h tk (E' : Value → Shared → Prop), its[i]? = some v → NsObj oC m₂ → m₂ x = some v → Fr h₀ L h m → News h₀ L h ((I, oI) :: (C, oC) :: (D, lst ys) :: news) → Off3 I C D news → ((@Ne Nat I C) ∧ (@Ne Nat I D) ∧ (@Ne Nat C D)) →
      wpAny (model prog w) A (eval elt (compEnvC scope cl C env)) (CompEnd h₀ L m { s with heap := h, toks := tk } I oI C oC D (lst ys) S (fun y news' => Y i y ∧ news' = news)) E' { s with heap := h, toks := tk })
    (fin : ∀ ys, ys.length = its.size → (∀ i y, ys[i]? = some y → Y i y) → Fin ys news) : CompRest prog w A h₀ L m env elt x scope cl s S (fun i v => its[i]? = some v) Fin its.size 0 [] news := by
  have key : ∀ (j i : Nat) (ys : List Value), i + j = its.size → ys.length = i → (∀ i y, ys[i]? = some y → Y i y) → CompRest prog w A h₀ L m env elt x scope cl s S (fun i v => its[i]? = some v) Fin j i ys news := by
    intro j
    induction j with
    | zero =>
      intro i ys hi hy hY
      exact CompRest.zero (fin ys (by omega) hY)
    | succ j ih =>
      intro i ys hi hy hY
      refine CompRest.succ ?_
      intro v I oI C oC D m₂ h tk E' hv hC hx F N off ne
      refine wpAny_mono (turn i v I oI C oC D m₂ ys h tk E' hv hC hx F N off ne) (fun y s₂ hq => ?_) fun _ _ e => e
      obtain ⟨h', tk', nw, e, F', N', off', hS, hYi, hn⟩ := hq
      subst hn
      refine ⟨h', tk', nw, e, F', N', off', hS, ih (i + 1) _ (by omega) (by simp; omega) ?_⟩
      intro k z hz
      by_cases hk : k < ys.length
      · rw [List.getElem?_append_left hk] at hz
        exact hY k z hz
      · rw [List.getElem?_append_right (by omega)] at hz
        have hk0 : k - ys.length = 0 := by
          cases hq : k - ys.length with
          | zero => rfl
          | succ q => rw [hq] at hz; simp at hz
        rw [hk0] at hz
        have hki : k = i := by omega
        subst hki
        simp at hz
        subst hz
        exact hYi
  exact key its.size 0 [] (by omega) rfl (fun i y h => by simp at h)
end
/-- items of a list, by their number -/
theorem ints_at : ∀ {vs : List Value} {ks : List Int} {i : Nat} {v : Value}, IntsAre vs ks → vs[i]? = some v → ∃ t, v = .int (ks.getD i 0) t
  | _, _, i, v, .nil, h => by simp at h
  | _, _, 0, v, .cons k t hi, h => by
    simp at h
    exact ⟨t, h.symm⟩
  | _, _, i + 1, v, .cons k t hi, h => by
    obtain ⟨t', e⟩ := ints_at (i := i) hi (by simpa using h)
    exact ⟨t', by simpa using e⟩
theorem ints_at2 {vs : List Value} {ks : List Int} {i : Nat} {v : Value} (hi : IntsAre vs ks) (h : vs[i]? = some v) : ∃ k t, ks[i]? = some k ∧ v = .int k t := by
  obtain ⟨t, e⟩ := ints_at hi h
  have hl := hi.length
  have h2 : i < vs.length := by
    rcases Nat.lt_or_ge i vs.length with h' | h'
    · exact h'
    · rw [List.getElem?_eq_none h'] at h; cases h
  rw [hl] at h2
  refine ⟨ks[i], t, List.getElem?_eq_getElem h2, ?_⟩
  rw [e, List.getD_eq_getElem?_getD, List.getElem?_eq_getElem h2]
  rfl
theorem strs_of {f : Nat → Str} : ∀ {vs : List Value} (k : Nat), (∀ i y, vs[i]? = some y → ∃ t, y = Value.str (f (k + i)) t) → StrsAre vs ((List.range' k vs.length).map f)
  | [], _, _ => .nil
  | v :: vs, k, h => by
    obtain ⟨t, rfl⟩ := h 0 v rfl
    have := strs_of (f := f) (vs := vs) (k + 1) fun i y hy => by
      obtain ⟨t, e⟩ := h (i + 1) y (by simpa using hy)
      exact ⟨t, by rw [e]; congr 2; omega⟩
    rw [List.length_cons, List.range'_succ, List.map_cons]
    exact .cons _ _ this
theorem abc_all : ∀ n : _root_.Fin 13, Txt.item (Str.ofString "ABCDEFGHIJKLM") ((n.val : Nat) : Int) = SS [65 + n.val] := by decide +kernel
theorem abc7_all : ∀ n : _root_.Fin 7, Txt.item (Str.ofString "ABCDEFG") ((n.val : Nat) : Int) = SS [65 + n.val] := by decide +kernel
section
variable {prog : Program} {w : World} {A : Around} {E : Value → Shared → Prop} {s : Shared} {value slice : PySem.Expr} {t u : Tok} {k : Int} {Q : Value → Shared → Prop}
theorem item_abc (h0 : 0 ≤ k) (h1 : k ≤ 12) (h : ∀ t' tk, Q (.str (SS [65 + k.toNat]) t') { s with toks := tk })
    (hs : subscripted slice false (.str (Str.ofString "ABCDEFGHIJKLM") t) (.int k u) = operate [.str (Str.ofString "ABCDEFGHIJKLM") t, .int k u] (getItem (.str (Str.ofString "ABCDEFGHIJKLM") t) (.int k u)) := by with_unfolding_all rfl) (hg : ∀ r, letTemporaryGo value (.str (Str.ofString "ABCDEFGHIJKLM") t) r = pure () := by intro _; with_unfolding_all rfl) :
    wpAny (model prog w) A (subscriptTail value slice (.str (Str.ofString "ABCDEFGHIJKLM") t) (.int k u)) Q E s := by
  refine KXi.item (n := 13) (by decide +kernel) (by omega) (by omega) (by decide) (fun _ => ?_) hs hg
  have e := abc_all ⟨k.toNat, by omega⟩
  dsimp only at e
  rw [show ((k.toNat : Nat) : Int) = k by omega] at e
  rw [e]
  exact h _ _
theorem item_abc7 (h0 : 0 ≤ k) (h1 : k ≤ 6) (h : ∀ t' tk, Q (.str (SS [65 + k.toNat]) t') { s with toks := tk })
    (hs : subscripted slice false (.str (Str.ofString "ABCDEFG") t) (.int k u) = operate [.str (Str.ofString "ABCDEFG") t, .int k u] (getItem (.str (Str.ofString "ABCDEFG") t) (.int k u)) := by with_unfolding_all rfl) (hg : ∀ r, letTemporaryGo value (.str (Str.ofString "ABCDEFG") t) r = pure () := by intro _; with_unfolding_all rfl) :
    wpAny (model prog w) A (subscriptTail value slice (.str (Str.ofString "ABCDEFG") t) (.int k u)) Q E s := by
  refine KXi.item (n := 7) (by decide +kernel) (by omega) (by omega) (by decide) (fun _ => ?_) hs hg
  have e := abc7_all ⟨k.toNat, by omega⟩
  dsimp only at e
  rw [show ((k.toNat : Nat) : Int) = k by omega] at e
  rw [e]
  exact h _ _
end
theorem join_flat : ∀ css : List (List Nat), Str.join (Str.ofString "") (css.map fun c => SS c) = SS css.flatten
  | [] => rfl
  | [c] => by show SS c = SS [c].flatten; simp
  | c :: d :: r => by
    have ih := join_flat (d :: r)
    show SS c ++ Str.ofString "" ++ Str.join (Str.ofString "") ((d :: r).map fun c => SS c) = _
    rw [ih]
    show (⟨(c.toArray ++ (Str.ofString "").cps) ++ (d :: r).flatten.toArray⟩ : Str) = ⟨(c :: d :: r).flatten.toArray⟩
    have e : (Str.ofString "").cps = #[] := by decide +kernel
    rw [e]
    simp
theorem len_flat : ∀ css : List (List Nat), (css.map fun c => (SS c).length).sum = css.flatten.length
  | [] => rfl
  | c :: r => by
    have := len_flat r
    have e : (SS c).length = c.length := rfl
    simp only [List.map_cons, List.sum_cons, List.flatten_cons, List.length_append, this, e]
theorem join_ss {prog : Program} {w : World} {A : Around} {E : Value → Shared → Prop} {s : Shared} {D : Addr} {ys : List Value} {css : List (List Nat)} {t : Tok} {Q : Value → Shared → Prop} (hl : s.heap.IsList D ys.toArray) (hi : StrsAre ys (css.map fun c => SS c)) (h1 : css.length ≤ 100) (h2 : css.flatten.length ≤ 100)
    (h : ∀ t' k, Q (.str (SS css.flatten) t') { s with toks := k }) : wpAny (model prog w) A (call (.builtin "str.join") [.str (Str.ofString "") t, .ref D]) Q E s := by
  refine join_listC hl hi (by decide) ?_ fun t' k => ?_
  · rw [List.map_map, List.length_map]
    have := len_flat css
    show (css.map fun c => (SS c).length).sum + css.length * 64 ≤ 16777216
    omega
  · show Q (.str (Builtin.Str.glued _ _) t') _
    rw [StrLaws.glued_eq_join, join_flat]
    exact h t' k
theorem strs_map {α : Type} {f : α → Str} : ∀ {vs : List Value} {ks : List α}, vs.length = ks.length → (∀ (i : Nat) y, vs[i]? = some y → ∃ k t, ks[i]? = some k ∧ y = Value.str (f k) t) → StrsAre vs (ks.map f)
  | [], [], _, _ => .nil
  | [], _ :: _, h, _ => by simp at h
  | _ :: _, [], h, _ => by simp at h
  | v :: vs, k :: ks, h, H => by
    obtain ⟨k', t, e, rfl⟩ := H 0 v rfl
    simp at e
    subst e
    refine .cons _ _ (strs_map (by simpa using h) fun i y hy => ?_)
    obtain ⟨k', t, e, rfl⟩ := H (i + 1) y (by simpa using hy)
    exact ⟨k', t, by simpa using e, rfl⟩
theorem gm_enc {prog : Program} {w : World} {A : Around} {E : Value → Shared → Prop} {s : Shared} {X : Str} {t : Tok} {pl : Sem Bool} {Q : Value × List Value → Shared → Prop} (h : Q (.builtin "str.encode", [.str X t]) s) : wpAny (model prog w) A (getMethod (.str X t) (Str.ofString "encode") pl) Q E s := by
  have hT : s.TypeIs (.str X t) "str" := typeIs_str _ _ _
  have hd : ∀ a, Value.str X t = .ref a → ∃ o, s.heap.get? a = some o ∧ o.dict = none := fun a e => nomatch e
  refine getMethod_builtin (T := "str") (id := "str.encode") (name := Str.ofString "encode") hT F.plainAttrs_str ?_ F.type_str_encode hd h
  exact F.slot_str_encode
theorem ne_bytes_same {prog : Program} {w : World} {A : Around} {E : Value → Shared → Prop} {s : Shared} {b : Array UInt8} {t u : Tok} {Q : Value → Shared → Prop} (h : Q (.bool false) s) : wpAny (model prog w) A (compareOp .NotEq (.bytes b t) (.bytes b u)) Q E s := by
  refine ne_bytes ?_
  rw [show (b.toList != b.toList) = false by simp]
  exact h
/-! LD -/
/-! what the tokens are -/
theorem range_one (n : Nat) : sliceRange (n : Int) ((n : Int) + 1) 1 = [n] := by
  unfold sliceRange
  rw [if_pos (by decide), if_pos (by omega), Int.ediv_one]
  dsimp only
  rw [show ((n : Int) + 1 - n + 1 - 1).toNat = 1 by omega]
  simp
theorem slice_last {c : Nat} {r : List Nat} : Txt.slice (SS (c :: r)) (some (-1)) none = SS [(c :: r).getLast (List.cons_ne_nil c r)] := by
  have hi : Builtin.Str.strSliceIndices (some (-1)) none 1 (SS (c :: r)).length = [r.length] := by
    unfold Builtin.Str.strSliceIndices
    have e1 : (((SS (c :: r)).length : Nat) : Int) = (r.length : Int) + 1 := by simp [Str.length]
    show sliceRange (if (1 : Int) > 0 then max 0 (min (if (-1 : Int) < 0 then -1 + ((SS (c :: r)).length : Int) else -1) ((SS (c :: r)).length : Int)) else _) (if (1 : Int) > 0 then ((SS (c :: r)).length : Int) else _) 1 = _
    rw [e1, if_pos (by decide), if_pos (by decide), if_pos (by decide)]
    rw [show max 0 (min (-1 + ((r.length : Int) + 1)) ((r.length : Int) + 1)) = (r.length : Int) by omega]
    exact range_one r.length
  unfold Txt.slice
  rw [hi]
  by_cases hb : ((1 : Int) == 1 && ([r.length] : List Nat).length == (SS (c :: r)).length) = true
  · rw [if_pos hb]
    have hl : r = [] := by
      have : 1 = r.length + 1 := by simpa [Str.length] using hb
      exact List.length_eq_zero_iff.mp (by omega)
    subst hl
    rfl
  · rw [if_neg hb]
    have e : (SS (c :: r)).cps[r.length]? = some ((c :: r).getLast (List.cons_ne_nil c r)) := by
      show (c :: r).toArray[r.length]? = _
      rw [List.getElem?_toArray, ← List.getLast?_eq_some_getLast, List.getLast?_eq_getElem?]
      simp
    simp only [List.filterMap_cons, e, List.filterMap_nil]
theorem take_mem {p : Nat → Bool} : ∀ {l : List Nat} {d : Nat}, d ∈ l.takeWhile p → p d = true
  | [], d, h => by simp at h
  | e :: l, d, h => by
    rw [List.takeWhile_cons] at h
    by_cases he : p e = true
    · rw [if_pos he] at h
      rcases List.mem_cons.mp h with rfl | h
      · exact he
      · exact take_mem h
    · rw [if_neg he] at h
      simp at h
theorem drop_head {p : Nat → Bool} : ∀ {l : List Nat} {d : Nat} {r : List Nat}, l.dropWhile p = d :: r → p d = false
  | [], d, r, h => by simp at h
  | e :: l, d, r, h => by
    rw [List.dropWhile_cons] at h
    by_cases he : p e = true
    · rw [if_pos he] at h
      exact drop_head h
    · rw [if_neg he] at h
      injection h with h1 h2
      subst h1
      simpa using he
theorem Toks.ok {pc : Nat} {r : List Nat} {l : List TK} (h : Toks pc r l) (hr : r.length ≤ 100) (ha : ∀ d ∈ r, 65 ≤ d ∧ d ≤ 77) : TkOk l := by
  refine ⟨Nat.le_trans (toks_len h) hr, ?_, ?_⟩
  · induction h with
    | nil => intro x hx; cases hx
    | cons h ih =>
      rename_i c r t l
      have e := rest_len (pc := pc) (c := c) (r := r)
      intro x hx
      rcases List.mem_cons.mp hx with rfl | hx
      · show (tokU pc c r).length ≤ 100
        have := (List.takeWhile_sublist (same pc c) (l := r)).length_le
        unfold tokU
        simp at hr
        omega
      · exact ih (by simp at hr; omega) (fun d hd => ha d (List.mem_cons_of_mem _ (rest_mem hd))) x hx
  · induction h with
    | nil => intro x hx; cases hx
    | cons h ih =>
      rename_i c r t l
      have e := rest_len (pc := pc) (c := c) (r := r)
      intro x hx
      rcases List.mem_cons.mp hx with rfl | hx
      · intro d hd
        rcases List.mem_cons.mp hd with rfl | hd
        · exact ha _ List.mem_cons_self
        · exact ha _ (List.mem_cons_of_mem _ ((List.takeWhile_sublist _).subset hd))
      · exact ih (by simp at hr; omega) (fun d hd => ha d (List.mem_cons_of_mem _ (rest_mem hd))) x hx
abbrev flatT (l : List TK) : List Nat := (l.map fun x => x.1 :: x.2.1).flatten
theorem Toks.flat {pc : Nat} {r : List Nat} {l : List TK} (h : Toks pc r l) : flatT l = r := by
  induction h with
  | nil => rfl
  | cons h ih =>
    rename_i c r t l
    show (c :: tokU pc c r) ++ flatT l = c :: r
    rw [ih]
    show c :: (r.takeWhile (same pc c) ++ r.dropWhile (same pc c)) = c :: r
    rw [List.takeWhile_append_dropWhile]
theorem Toks.same {pc : Nat} {r : List Nat} {l : List TK} (h : Toks pc r l) : ∀ x ∈ l, ((x.1 :: x.2.1).getLast (List.cons_ne_nil _ _) == pc) = (x.1 == pc) := by
  induction h with
  | nil => intro x hx; cases hx
  | cons h ih =>
    rename_i c r t l
    intro x hx
    rcases List.mem_cons.mp hx with rfl | hx
    · have hm := List.getLast_mem (List.cons_ne_nil c (tokU pc c r))
      rcases List.mem_cons.mp hm with e | hm
      · rw [e]
      · have := take_mem hm
        unfold Mine.same at this
        simpa using this
    · exact ih x hx
theorem Toks.alt {pc : Nat} {r : List Nat} {l : List TK} (h : Toks pc r l) : ∀ (i : Nat) (x y : TK), l[i]? = some x → l[i + 1]? = some y → (y.1 == pc) ≠ (x.1 == pc) := by
  induction h with
  | nil => intro i x y h; simp at h
  | cons h ih =>
    rename_i c r t l
    intro i x y hx hy
    cases i with
    | succ i => exact ih i x y (by simpa using hx) (by simpa using hy)
    | zero =>
      simp at hx hy
      subst hx
      generalize hg : restU pc c r = r2 at h
      cases h with
      | nil => simp at hy
      | cons h =>
        simp at hy
        subst hy
        have := drop_head hg
        unfold Mine.same at this
        intro e
        rw [e] at this
        simp at this
abbrev kdOf (pc : Nat) (x : TK) : Bool := x.1 == pc
abbrev kindBs (l : List TK) (pc : Nat) : List Bool := l.map (kdOf pc)
abbrev kindVs (l : List TK) (pc : Nat) : List Value := (kindBs l pc).map Value.bool
theorem tk_of {l : List TK} {i : Nat} {v : Value} (h : (tkVs l).toArray[i]? = some v) : ∃ x, l[i]? = some x ∧ v = tkV x := by
  have h' : (l.map tkV)[i]? = some v := by simpa using h
  rw [List.getElem?_map] at h'
  cases e : l[i]? with
  | none => rw [e] at h'; cases h'
  | some x => rw [e] at h'; exact ⟨x, rfl, by simpa using h'.symm⟩
theorem kinds_of {l : List TK} {pc : Nat} {ys : List Value} (hl : ys.length = (tkVs l).toArray.size) (h : ∀ (i : Nat) y, ys[i]? = some y → ∃ x, l[i]? = some x ∧ y = Value.bool (kdOf pc x)) : ys = kindVs l pc := by
  have hl' : ys.length = l.length := by simpa using hl
  refine List.ext_getElem? fun i => ?_
  cases e : ys[i]? with
  | none =>
    have h1 : ys.length ≤ i := by simpa using e
    have h2 : (kindVs l pc).length ≤ i := by simp only [kindVs, kindBs, List.length_map]; omega
    exact (List.getElem?_eq_none h2).symm
  | some y =>
    obtain ⟨x, hx, rfl⟩ := h i y e
    simp [kindVs, kindBs, hx]
theorem reads_bools {h : Heap} : ∀ bs : List Bool, ReadsAll h (bs.map Value.bool) (bs.map PyData.bool) []
  | [] => .nil
  | b :: bs => by
    have := ReadsAll.cons (Reads.bool (h := h) b) (reads_bools (h := h) bs)
    simpa using this
theorem reads_kinds {h : Heap} {a : Addr} {bs : List Bool} (hl : h.IsList a (bs.map Value.bool).toArray) : Reads h (.ref a) (.list (bs.map PyData.bool)) [a] := by
  obtain ⟨o, ho, hc, n, hd⟩ := hl
  exact Reads.list ho hc hd (by simpa using reads_bools bs)
theorem canLay_bools : ∀ bs : List Bool, PyData.canLayAll0 (bs.map PyData.bool) = true
  | [] => by simp [PyData.canLayAll0]
  | n :: r => by simp [PyData.canLayAll0, PyData.canLay0, canLay_bools r]
theorem depth_bools : ∀ bs : List Bool, PyData.depthAll (bs.map PyData.bool) ≤ 1
  | [] => by simp [PyData.depthAll]
  | n :: r => by
    have := depth_bools r
    simp only [List.map_cons, PyData.depthAll, PyData.depth]
    omega
theorem shaped_bools (bs : List Bool) : SeqAt.shaped (.list (bs.map PyData.bool)) = true := by
  have h1 := depth_bools bs
  have h2 : PyData.depth (.list (bs.map PyData.bool)) ≤ 64 := by simp only [PyData.depth]; omega
  show (PyData.canLay0 (.list (bs.map PyData.bool)) && decide (PyData.depth (.list (bs.map PyData.bool)) ≤ 64)) = true
  rw [Bool.and_eq_true]
  exact ⟨by simp only [PyData.canLay0]; exact canLay_bools bs, decide_eq_true h2⟩
theorem eqv_bools : ∀ bs : List Bool, PyData.eqvAll (bs.map PyData.bool) (bs.map PyData.bool) = true
  | [] => by simp [PyData.eqvAll]
  | b :: r => by simp [PyData.eqvAll, PyData.eqv, eqv_bools r]
theorem ne_bools_same {prog : Program} {w : World} {A : Around} {E : Value → Shared → Prop} {s : Shared} {a b : Addr} {bs : List Bool} {Q : Value → Shared → Prop} (hl : s.heap.IsList a (bs.map Value.bool).toArray) (hl' : s.heap.IsList b (bs.map Value.bool).toArray) (hu : A.units + 64 < cLine)
    (h : Q (.bool false) s) : wpAny (model prog w) A (compareOp .NotEq (.ref a) (.ref b)) Q E s := by
  refine ne_dataH (reads_kinds hl) (reads_kinds hl') (shaped_bools bs) (shaped_bools bs) hu ?_
  rw [show PyData.eqv (.list (bs.map PyData.bool)) (.list (bs.map PyData.bool)) = true by simp only [PyData.eqv]; exact eqv_bools bs]
  exact h
theorem toks_strs : ∀ l : List TK, StrsAre (tkVs l) ((l.map fun x => x.1 :: x.2.1).map fun c => SS c)
  | [] => .nil
  | (c, r, t) :: l => .cons _ _ (toks_strs l)
theorem in_toks {prog : Program} {w : World} {A : Around} {E : Value → Shared → Prop} {s : Shared} {T : Addr} {l : List TK} {t : Tok} {Q : Value → Shared → Prop} (hl : s.heap.IsList T (tkVs l).toArray) (h : Q (.bool false) s) :
    wpAny (model prog w) A (compareOp .In (.str (Str.ofString "") t) (.ref T)) Q E s := by
  refine in_list_strs hl (toks_strs l) ?_
  have e : (((l.map fun x => x.1 :: x.2.1).map fun c => SS c).any (· == Str.ofString "")) = false := by
    rw [List.any_eq_false]
    intro x hx
    simp only [List.mem_map] at hx
    obtain ⟨y, ⟨z, _, rfl⟩, rfl⟩ := hx
    rw [show (SS (z.1 :: z.2.1) == Str.ofString "") = false from ne_empty']
    simp
  rw [e]
  exact h
theorem ne_ss_same {prog : Program} {w : World} {A : Around} {E : Value → Shared → Prop} {s : Shared} {c d : List Nat} {t u : Tok} {Q : Value → Shared → Prop} (e : c = d) (h : Q (.bool false) s) : wpAny (model prog w) A (compareOp .NotEq (.str (SS c) t) (.str (SS d) u)) Q E s := by
  subst e
  refine PyProof.Rows.ne_str ?_
  rw [show ((SS c : Str) != SS c) = false by simp]
  exact h
section
variable {prog : Program} {w : World} {A : Around} {E : Value → Shared → Prop} {s : Shared} {h₀ : Heap} {L : Addr} {m : Str → Option Value} {news : List (Addr × Obj)}
theorem slice_end {value slice : PySem.Expr} {c : Nat} {r : List Nat} {t ui : Tok} {Q : Value → Shared → Prop} (hF : Fr h₀ L s.heap m) (hN : News h₀ L s.heap news) (hr : r.length ≤ 100) (h : ∀ h' t' k, Fr h₀ L h' m → News h₀ L h' news → Q (.str (SS [(c :: r).getLast (List.cons_ne_nil c r)]) t') { s with heap := h', toks := k })
    (hs : subscripted slice false (.str (SS (c :: r)) t) (.ref s.heap.objs.size) = operate [.ref s.heap.objs.size, .str (SS (c :: r)) t] (getItem (.str (SS (c :: r)) t) (.ref s.heap.objs.size)) := by with_unfolding_all rfl)
    (ht : ∀ r', letTemporaryGo value (.str (SS (c :: r)) t) r' = pure () := by intro _; with_unfolding_all rfl) :
    wpAny (model prog w) A (subscriptTail value slice (.str (SS (c :: r)) t) (.ref s.heap.objs.size)) Q E { s with heap := s.heap.push { cls := .type "slice", data := .fields #[.int (-1) ui, .none, .none] } } := by
  refine slice_strN_sn hF hN (fun h' t' k F N => ?_) hs ht (by show r.length + 1 ≤ 2 ^ 24; omega)
  rw [slice_last]
  exact h h' t' k F N
theorem len_kinds {K : Addr} {l : List TK} {pc : Nat} {Q : Value → Shared → Prop} (hl : s.heap.IsList K (kindVs l pc).toArray) (h6 : l.length ≤ 100) (h : ∀ t tk, Q (.int (l.length : Int) t) { s with toks := tk }) : wpAny (model prog w) A (call (.builtin "len") [.ref K]) Q E s := by
  have e : (kindVs l pc).toArray.size = l.length := by simp
  refine len_list hl (by rw [e]; omega) ?_
  rw [e]
  exact h _ _
theorem item_kind {value slice : PySem.Expr} {K : Addr} {l : List TK} {pc : Nat} {k : Int} {u : Tok} {Q : Value → Shared → Prop} (hl : s.heap.IsList K (kindVs l pc).toArray) (h0 : 0 ≤ k) (h1 : k < (l.length : Int)) (h6 : l.length ≤ 100) (h : Q (.bool (kdOf pc (tkAt l k))) s)
    (hs : subscripted slice false (.ref K) (.int k u) = operate [.ref K, .int k u] (getItem (.ref K) (.int k u)) := by with_unfolding_all rfl) (hg : ∀ r, letTemporaryGo value (.ref K) r = pure () := by intro _; with_unfolding_all rfl) :
    wpAny (model prog w) A (subscriptTail value slice (.ref K) (.int k u)) Q E s := by
  refine item_list hl h0 (by omega) ?_ h hs hg
  have h : k.toNat < l.length := by omega
  unfold tkAt
  rw [List.getD_eq_getElem?_getD]
  simp [h]
end
def NoEnd (ok : Bool) (P : Prop) : Prop := ok = false ∧ P
section
open LCg LCt
variable {prog : Program} {w : World} {A : Around} {h₀ : Heap} {L : Addr} {m : Str → Option Value} {env : Env} {ct elt : PySem.Expr} {x : Str} {scope : Scope} {cl : List (Str × Addr)} {s : Shared} {Fin : List Value → List (Addr × Obj) → Prop} {news : List (Addr × Obj)}
theorem range_none {a : Int} {n : Nat}
    (turn : ∀ (i : Nat) u I oI C oC D m₂ h tk (E' : Value → Shared → Prop), i < n → NsObj oC m₂ → m₂ x = some (.int (a + (i : Int)) u) → Fr h₀ L h m → News h₀ L h ((I, oI) :: (C, oC) :: (D, lst []) :: news) → Off3 I C D news → ((@Ne Nat I C) ∧ (@Ne Nat I D) ∧ (@Ne Nat C D)) →
      wpAny (model prog w) A (isTrue ct (compEnvC scope cl C env) (eval ct (compEnvC scope cl C env))) (fun ok s' => NoEnd ok
        (CompEnd h₀ L m { s with heap := h, toks := tk } I oI C oC D (lst []) (fun _ => True) (fun _ news' => news' = news) Value.none s')) E' { s with heap := h, toks := tk })
    (fin : Fin [] news) : CompRestT prog w A h₀ L m env ct elt x scope cl s (fun _ => True) (fun i v => ∃ t, v = .int (a + (i : Int)) t) Fin n 0 [] news := by
  have key : ∀ (j i : Nat), i + j = n → CompRestT prog w A h₀ L m env ct elt x scope cl s (fun _ => True) (fun i v => ∃ t, v = .int (a + (i : Int)) t) Fin j i [] news := by
    intro j
    induction j with
    | zero => intro i hi; exact CompRestT.zero fin
    | succ j ih =>
      intro i hi
      refine CompRestT.succ ?_
      intro v I oI C oC D m₂ h tk E' hv hC hx F N off ne
      obtain ⟨u, rfl⟩ := hv
      refine wpAny_mono (turn i u I oI C oC D m₂ h tk E' (by omega) hC hx F N off ne) (fun ok s₂ hq => ?_) fun _ _ e => e
      obtain ⟨ho, hq⟩ := hq
      subst ho
      rw [if_neg (by decide)]
      obtain ⟨h', tk', nw, e, F', N', off', hS, hn⟩ := hq
      subst hn
      exact ⟨h', tk', nw, e, F', N', off', hS, ih (i + 1) (by omega)⟩
  exact key n 0 (by omega)
end
/-! S0 -/
section
theorem ln_S0_1 : True := by
  k_with_none
  k_with "eval Name" => (k_here; k_dflt (refine' nameX_L ?F ?v ?_ ?a ?b; (case F => k_asm); (case a => rfl); (case b => rfl); (case v => first | rfl | assumption); k_whole))
  k_with "eval Name" => (k_here; k_dflt (refine' nameC ?a ?b ?c ?N ?m ?d ?_; (case a => rfl); (case b => rfl); (case c => rfl); (case N => k_asm); (case m => kcf_m); (case d => assumption)))
  k_with "storeName" => (k_here; k_dflt (refine' storeC ?a ?b ?c ?F ?N ?U ?d ?_; (case a => rfl); (case b => rfl); (case c => rfl); (case F => k_asm); (case N => k_asm); (case U => k_updF); (case d => assumption)); intro h8 o8 F8 N8 d8; (try dsimp only at N8))
  k_with "call ref" => ((with_reducible show wpAny _ _ (call (Value.ref 745) [_, _, _]) _ _ _); k_dflt (refine' sums_call _ _ _ _ _ _ _ _ _ _ _ _ ?h1 ?h2 ?h3 ?h4 ?h5 ?h6 _ _ _ _ _ _ _ _ _ _ _ _ _ _ _ _ _ _ ?k1 ?k2 ?k3 ?k4 ?k5 ?kK ?kd ?ku ?_; (case k4 => k_asm); (case h1 => assumption); (case h2 => assumption); (case h3 => assumption); (case h4 => assumption); (case h5 => assumption); (case h6 => assumption); (case k1 => k_asm); (case k2 => k_asm); (case k3 => k_asm); (case k5 => k_asm); (case kK => first | exact rfl | assumption); (case kd => ktr_room); (case ku => ktr_units)); intro h9 tk9 l9 nn9 ys9 hi9 ho9 F9 N9; have hz9 := off3 ho9)
  trivial
variable (w : World) (p : Program) (loose : List Str) (mean : ExcName → Option Value) (mg mb : Str → Option Value)
variable (fa : Addr) (cdv : Value) (g : Heap) (L' : Addr) (E : Value → Shared → Prop) (Q : Flow → Shared → Prop)
   (hBe : Below callerA g [] g) (hX : (K2 w.params).In g) (hT : Top p loose mean mg mb g)
set_option maxHeartbeats 1000000 in
include hBe hX hT in
theorem st0 (own : List (Addr × Obj)) (hh : Hi L' own) (oS oL oK : Obj) (vS : Option Value) (hS : oS.data = .cell vS) (n m pp : Int) (tn tm tp : Tok) (hn0 : 0 ≤ n) (hn1 : n < 64) (hm0 : 0 ≤ m) (hm1 : m < 64) (hp0 : 2 ≤ pp) (hp1 : pp ≤ 7) (mm : Str → Option Value)
    (en : mm (Str.ofString "n") = some (.int n tn)) (em : mm (Str.ofString "m") = some (.int m tm)) (ep : mm (Str.ofString "p") = some (.int pp tp)) (s : Shared)
    (hF : Fr g L' s.heap mm) (hN : News g L' s.heap ((L' + 1, oS) :: (L' + 1 + 1, oL) :: (L' + 1 + 1 + 1, oK) :: own))
    (H : ∀ h' tk' (S : Nat) nn ys oS', IntsAre ys (trimI (digsI n m pp)) → Hi L' ((S, listOf ys.toArray nn) :: own) → oS'.data = .cell (some (.ref S)) → Fr g L' h' mm →
      News g L' h' ((L' + 1, oS') :: (L' + 1 + 1, oL) :: (L' + 1 + 1 + 1, oK) :: (S, listOf ys.toArray nn) :: own) → Q .next { s with heap := h', toks := tk' }) :
    wpAny (model PySem.Challenge.rw_nb0270_01.row.prog w) (callerA.deeper (laE fa cdv L')) (execs laT0.1 (laE fa cdv L')) Q E s := by
  revert hX
  k_fill
  intro hX
  k_steps
  (rename _ ∧ _ => hz)
  exact H _ _ _ _ _ _ (by assumption) (Hi.cons hh hz.1 hz.2.1 hz.2.2.1) (by assumption) (by assumption) (cells_first (by assumption))
end
theorem ln_S0_z : True := by
  k_with_none
  trivial
/-! S1 -/
section
theorem ln_S1_1 : True := by
  k_with_none
  k_with "eval Name" => (k_here; k_dflt (refine' nameX_L ?F ?v ?_ ?a ?b; (case F => k_asm); (case a => rfl); (case b => rfl); (case v => first | rfl | assumption); k_whole))
  k_with "eval Name" => (k_here; k_dflt (refine' nameC ?a ?b ?c ?N ?m ?d ?_; (case a => rfl); (case b => rfl); (case c => rfl); (case N => k_asm); (case m => kcf_m); (case d => assumption)))
  k_with "storeName" => (k_here; k_dflt (refine' storeC ?a ?b ?c ?F ?N ?U ?d ?_; (case a => rfl); (case b => rfl); (case c => rfl); (case F => k_asm); (case N => k_asm); (case U => k_updF); (case d => assumption)); intro h8 o8 F8 N8 d8; (try dsimp only at N8))
  trivial
theorem mul_d {prog : Program} {w : World} {A : Around} {E : Value → Shared → Prop} {s : Shared} {l : List Int} {k c : Int} {t u : Tok} {Q : Value → Shared → Prop} (hb : ∀ x ∈ l, 0 ≤ x ∧ x ≤ 12) (h : Q (.int (l.getD k.toNat 0 * c) s.toks) { s with toks := s.toks + 1 }) : wpAny (model prog w) A (binaryOp .Mult (.int (l.getD k.toNat 0) t) (.int c u)) Q E s := by
  have hx : 0 ≤ l.getD k.toNat 0 ∧ l.getD k.toNat 0 ≤ 12 := by
    rw [List.getD_eq_getElem?_getD]
    cases e : l[k.toNat]? with
    | none => exact ⟨Int.le_refl _, by decide⟩
    | some x => exact hb x (List.mem_of_getElem? e)
  exact PyProof.Rows.mul_int h (IntMulOk.of_left (intBits_le_64 (by omega) (by omega)))
theorem ln_S1_2 : True := by
  k_with_none
  k_with "eval Name" => (k_here; k_dflt (refine' nameX_L ?F ?v ?_ ?a ?b; (case F => k_asm); (case a => rfl); (case b => rfl); (case v => first | rfl | assumption); k_whole))
  k_with "eval Name" => (k_here; k_dflt (refine' nameC ?a ?b ?c ?N ?m ?d ?_; (case a => rfl); (case b => rfl); (case c => rfl); (case N => k_asm); (case m => kcf_m); (case d => assumption)))
  k_with "storeName" => (k_here; k_dflt (refine' storeC ?a ?b ?c ?F ?N ?U ?d ?_; (case a => rfl); (case b => rfl); (case c => rfl); (case F => k_asm); (case N => k_asm); (case U => k_updF); (case d => assumption)); intro h8 o8 F8 N8 d8; (try dsimp only at N8))
  k_with "binaryOp Mult int int" => (refine mul_d (by assumption) ?_)
  trivial
theorem cells_keep {g h : Heap} {L : Addr} {x : Addr × Obj} {l : List (Addr × Obj)} (N : News g L h (x :: l)) : News g L h l := news_sub (fun p hp => List.mem_cons_of_mem _ hp) N
abbrev numI (l : List Int) : Int := ((rangeKs 0 ((l.length : Int) - 0).toNat).map fun k => l.getD k.toNat 0 * 16 ^ k.toNat).sum

variable (w : World) (p : Program) (loose : List Str) (mean : ExcName → Option Value) (mg mb : Str → Option Value)
variable (fa : Addr) (cdv : Value) (g : Heap) (L' : Addr) (E : Value → Shared → Prop) (Q : Flow → Shared → Prop)
   (hBe : Below callerA g [] g) (hX : (K2 w.params).In g) (hT : Top p loose mean mg mb g)
set_option maxHeartbeats 1000000 in
include hBe hX hT in
theorem st1 (own : List (Addr × Obj)) (S nn : Nat) (ys : List Value) (l : List Int) (hi : IntsAre ys l) (hl : l.length ≤ 6) (hb : ∀ x ∈ l, 0 ≤ x ∧ x ≤ 12) (hh : Hi L' ((S, listOf ys.toArray nn) :: own)) (oS oL oK : Obj) (hS : oS.data = .cell (some (.ref S))) (mm : Str → Option Value) (s : Shared)
    (hF : Fr g L' s.heap mm) (hN : News g L' s.heap ((L' + 1, oS) :: (L' + 1 + 1, oL) :: (L' + 1 + 1 + 1, oK) :: (S, listOf ys.toArray nn) :: own))
    (H : ∀ h' tk' t', Fr g L' h' (fun z => if z = Str.ofString "number" then some (.int (numI l) t') else mm z) → News g L' h' ((L' + 1, oS) :: (L' + 1 + 1, oL) :: (L' + 1 + 1 + 1, oK) :: (S, listOf ys.toArray nn) :: own) → Q .next { s with heap := h', toks := tk' }) :
    wpAny (model PySem.Challenge.rw_nb0270_01.row.prog w) (callerA.deeper (laE fa cdv L')) (execs laT1.1 (laE fa cdv L')) Q E s := by
  revert hX
  k_fill
  intro hX
  k_steps
  all_goals first | exact default | exact H _ _ _ (by assumption) (cells_keep (by assumption))
end
theorem ln_S1_z : True := by
  k_with_none
  trivial
/-! S2 -/
section
theorem ln_S2_1 : True := by
  k_with_none
  k_with "eval Name" => (k_here; k_dflt (refine' nameX_L ?F ?v ?_ ?a ?b; (case F => k_asm); (case a => rfl); (case b => rfl); (case v => first | rfl | assumption); k_whole))
  k_with "eval Name" => (k_here; k_dflt (refine' nameC ?a ?b ?c ?N ?m ?d ?_; (case a => rfl); (case b => rfl); (case c => rfl); (case N => k_asm); (case m => kcf_m); (case d => assumption)))
  k_with "storeName" => (k_here; k_dflt (refine' storeC ?a ?b ?c ?F ?N ?U ?d ?_; (case a => rfl); (case b => rfl); (case c => rfl); (case F => k_asm); (case N => k_asm); (case U => k_updF); (case d => assumption)); intro h8 o8 F8 N8 d8; (try dsimp only at N8))
  k_with "call ref" => ((with_reducible show wpAny _ _ (call (Value.ref 46) [_]) _ _ _); k_dflt (refine' ia_call _ _ _ _ _ _ _ _ ?h1 _ _ _ _ _ _ _ _ _ _ _ _ _ _ _ _ _ _ ?k1 ?k2 ?k3 ?k4 ?k5 ?kK ?kd ?ku ?_; (case k4 => k_asm); (case h1 => omega); (case k1 => k_asm); (case k2 => k_asm); (case k3 => k_asm); (case k5 => k_asm); (case kK => first | exact rfl | assumption); (case kd => ktr_room); (case ku => ktr_units)); intro h9 tk9 t9 F9 N9)
  trivial

variable (w : World) (p : Program) (loose : List Str) (mean : ExcName → Option Value) (mg mb : Str → Option Value)
variable (fa : Addr) (cdv : Value) (g : Heap) (L' : Addr) (E : Value → Shared → Prop) (Q : Flow → Shared → Prop)
   (hBe : Below callerA g [] g) (hX : (K2 w.params).In g) (hT : Top p loose mean mg mb g)
set_option maxHeartbeats 1000000 in
include hBe hX hT in
theorem st2 (own : List (Addr × Obj)) (N0 : Int) (tN : Tok) (hN1 : 0 ≤ N0) (hN2 : N0 < 16 ^ 8) (sc : Addr) (its : Array Value) (ns : List Int) (hsc : g.IsList sc its) (hns : IntsAre its.toList ns) (hlen : ns.length ≤ 63) (mm : Str → Option Value) (e1 : mm (Str.ofString "script") = some (.ref sc)) (e2 : mm (Str.ofString "number") = some (.int N0 tN)) (s : Shared)
    (hF : Fr g L' s.heap mm) (hN : News g L' s.heap own)
    (H : ∀ h' tk' t', Fr g L' h' (fun z => if z = Str.ofString "word" then some (.bytes (apW 8 N0.natAbs #[]) t') else mm z) → News g L' h' own → Q .next { s with heap := h', toks := tk' }) :
    wpAny (model PySem.Challenge.rw_nb0270_01.row.prog w) (callerA.deeper (laE fa cdv L')) (execs laT2.1 (laE fa cdv L')) Q E s := by
  revert hX
  k_fill
  intro hX
  k_steps
  all_goals first | exact H _ _ _ (by assumption) (by assumption) | exact H _ _ _ (by rw [← Int.natAbs_neg N0]; assumption) (by assumption)
end
theorem ln_S2_z : True := by
  k_with_none
  trivial
/-! S3 -/
section
theorem ln_S3_1 : True := by
  k_with_none
  k_with "eval Name" => (k_here; k_dflt (refine' nameX_L ?F ?v ?_ ?a ?b; (case F => k_asm); (case a => rfl); (case b => rfl); (case v => first | rfl | assumption); k_whole))
  k_with "eval Name" => (k_here; k_dflt (refine' nameC ?a ?b ?c ?N ?m ?d ?_; (case a => rfl); (case b => rfl); (case c => rfl); (case N => k_asm); (case m => kcf_m); (case d => assumption)))
  k_with "storeName" => (k_here; k_dflt (refine' storeC ?a ?b ?c ?F ?N ?U ?d ?_; (case a => rfl); (case b => rfl); (case c => rfl); (case F => k_asm); (case N => k_asm); (case U => k_updF); (case d => assumption)); intro h8 o8 F8 N8 d8; (try dsimp only at N8))
  k_with "eval ListComp" => (k_here; k_dflt (refine LCg.ListComp_U (F₀ := by k_asm) (by with_unfolding_all rfl) (by decide) (by rfl) (by decide) (by rfl) ?_))
  k_with "CompSrc" => (refine my_hold ?_)
  k_with "subscriptTail" => (k_here; (with_reducible show wpAny _ _ (subscriptTail _ _ (Value.str (Str.ofString "ABCDEFGHIJKLM") _) (Value.int _ _)) _ _ _); (refine item_abc (by assumption) (by assumption) ?_); intro t9 tk9)
  k_with "CompEnd" => (refine my_hold ?_)
  k_with "call builtin:str.join" => (k_here; k_dflt (refine' join_ss ?l (by assumption) (by assumption) (by assumption) ?_; (case l => first | is_list | exact News.isList (by k_asm) (by first | k_mem | kcf_m))); intro t9 tk9)
  trivial
abbrev dueI (l : List Int) : List Nat := l.reverse.map fun x => 65 + x.toNat

variable (w : World) (p : Program) (loose : List Str) (mean : ExcName → Option Value) (mg mb : Str → Option Value)
variable (fa : Addr) (cdv : Value) (g : Heap) (L' : Addr) (E : Value → Shared → Prop) (Q : Flow → Shared → Prop)
   (hBe : Below callerA g [] g) (hX : (K2 w.params).In g) (hT : Top p loose mean mg mb g)
set_option maxHeartbeats 1000000 in
include hBe hX hT in
theorem st3 (own : List (Addr × Obj)) (S nn : Nat) (ys : List Value) (l : List Int) (hi : IntsAre ys l) (hl : l.length ≤ 6) (hb : ∀ x ∈ l, 0 ≤ x ∧ x ≤ 12) (hh : Hi L' ((S, listOf ys.toArray nn) :: own)) (oS oL oK : Obj) (hS : oS.data = .cell (some (.ref S))) (mm : Str → Option Value) (s : Shared)
    (hF : Fr g L' s.heap mm) (hN : News g L' s.heap ((L' + 1, oS) :: (L' + 1 + 1, oL) :: (L' + 1 + 1 + 1, oK) :: (S, listOf ys.toArray nn) :: own))
    (H : ∀ h' tk' t', Fr g L' h' (fun z => if z = Str.ofString "due" then some (.str (SS (dueI l)) t') else mm z) → News g L' h' ((L' + 1, oS) :: (L' + 1 + 1, oL) :: (L' + 1 + 1 + 1, oK) :: (S, listOf ys.toArray nn) :: own) → Q .next { s with heap := h', toks := tk' }) :
    wpAny (model PySem.Challenge.rw_nb0270_01.row.prog w) (callerA.deeper (laE fa cdv L')) (execs laT3.1 (laE fa cdv L')) Q E s := by
  revert hX
  k_fill
  intro hX
  k_steps
  unfold MyLoop
  (rename IntsAre _ (List.reverse _) => hI9)
  have hlen := hI9.length
  refine LCg.CompSrc.ledger rfl (by assumption) (by assumption) List.mem_cons_self (by rw [sizeLine_eq]; simp; omega) (fun g9 => ?_)
  refine list_rest (Y := fun i y => ∃ k t, l.reverse[i]? = some k ∧ y = .str (SS [65 + k.toNat]) t) ?_ ?_
  · intro i v I oI C oC D m₂ ys h tk E' hv hC hx F N off ne
    obtain ⟨k, t, hk, rfl⟩ := ints_at2 hI9 (by simpa using hv)
    obtain ⟨b0, b1⟩ := hb k (List.mem_reverse.mp (List.mem_of_getElem? hk))
    k_steps
    unfold MyLoop
    exact LCg.CompEnd.intro (by assumption) (by assumption) _ (fun p hp => hp) off (.inr ⟨_, List.mem_cons_self, rfl, _, rfl⟩) ⟨⟨k, _, hk, rfl⟩, rfl⟩
  · intro ys9 hl9 hy9
    have hst : StrsAre ys9 (((dueI l).map fun c => [c]).map fun c => SS c) := by
      have := strs_map (f := fun k : Int => SS [65 + k.toNat]) (vs := ys9) (ks := l.reverse) (by rw [hl9]; simp; simpa using hlen) hy9
      simpa [dueI, List.map_map, Function.comp_def] using this
    have hl1 : ((dueI l).map fun c => [c]).length ≤ 100 := by simp; omega
    have hfl : ((dueI l).map fun c => [c]).flatten = dueI l := by
      generalize dueI l = q
      induction q with
      | nil => rfl
      | cons a q ih => simp [List.flatten_cons, ih]
    have hl2 : ((dueI l).map fun c => [c]).flatten.length ≤ 100 := by rw [hfl]; simp; omega
    unfold LCg.FinE
    intro D9 h9 tk9 F9 N9 o9
    k_steps
    rw [← hfl] at H
    exact H _ _ _ (by assumption) (news_sub (fun p hp => List.mem_cons_of_mem _ (List.mem_cons_of_mem _ hp)) (by assumption))
end
theorem ln_S3_z : True := by
  k_with_none
  trivial
/-! S4 -/
section
theorem ln_S4_1 : True := by
  k_with_none
  k_with "eval Name" => (k_here; k_dflt (refine' nameX_L ?F ?v ?_ ?a ?b; (case F => k_asm); (case a => rfl); (case b => rfl); (case v => first | rfl | assumption); k_whole))
  k_with "eval Name" => (k_here; k_dflt (refine' nameC ?a ?b ?c ?N ?m ?d ?_; (case a => rfl); (case b => rfl); (case c => rfl); (case N => k_asm); (case m => kcf_m); (case d => assumption)))
  k_with "storeName" => (k_here; k_dflt (refine' storeC ?a ?b ?c ?F ?N ?U ?d ?_; (case a => rfl); (case b => rfl); (case c => rfl); (case F => k_asm); (case N => k_asm); (case U => k_updF); (case d => assumption)); intro h8 o8 F8 N8 d8; (try dsimp only at N8))
  k_with "getMethod str" => ((with_reducible show wpAny _ _ (getMethod (Value.str _ _) (PySem.Str.ofString "encode") _) _ _ _); k_dflt (refine gm_enc ?_))
  k_with "call builtin:str.encode" => (k_here; k_dflt (refine str_encode (by assumption) (by assumption) ?_); intro t9 k9)
  k_with "compareOp NotEq bytes bytes" => (refine ne_bytes_same ?_)
  trivial

variable (w : World) (p : Program) (loose : List Str) (mean : ExcName → Option Value) (mg mb : Str → Option Value)
variable (fa : Addr) (cdv : Value) (g : Heap) (L' : Addr) (E : Value → Shared → Prop) (Q : Flow → Shared → Prop)
   (hBe : Below callerA g [] g) (hX : (K2 w.params).In g) (hT : Top p loose mean mg mb g)
set_option maxHeartbeats 1000000 in
include hBe hX hT in
theorem st4 (own : List (Addr × Obj)) (cs : List Nat) (hc : ∀ c ∈ cs, c < 128) (hl : cs.length ≤ 100) (tw td : Tok) (mm : Str → Option Value) (ew : mm (Str.ofString "word") = some (.bytes (asB cs) tw)) (ed : mm (Str.ofString "due") = some (.str (SS cs) td)) (s : Shared)
    (hF : Fr g L' s.heap mm) (hN : News g L' s.heap own) (H : ∀ h' tk', Fr g L' h' mm → News g L' h' own → Q .next { s with heap := h', toks := tk' }) :
    wpAny (model PySem.Challenge.rw_nb0270_01.row.prog w) (callerA.deeper (laE fa cdv L')) (execs laT4.1 (laE fa cdv L')) Q E s := by
  revert hX
  k_fill
  intro hX
  k_steps
  all_goals first | exact default | exact H _ _ (by assumption) (by assumption)
end
theorem ln_S4_z : True := by
  k_with_none
  trivial
/-! S5 -/
section
theorem ln_S5_1 : True := by
  k_with_none
  k_with "eval Name" => (k_here; k_dflt (refine' nameX_L ?F ?v ?_ ?a ?b; (case F => k_asm); (case a => rfl); (case b => rfl); (case v => first | rfl | assumption); k_whole))
  k_with "eval Name" => (k_here; k_dflt (refine' nameC ?a ?b ?c ?N ?m ?d ?_; (case a => rfl); (case b => rfl); (case c => rfl); (case N => k_asm); (case m => kcf_m); (case d => assumption)))
  k_with "storeName" => (k_here; k_dflt (refine' storeC ?a ?b ?c ?F ?N ?U ?d ?_; (case a => rfl); (case b => rfl); (case c => rfl); (case F => k_asm); (case N => k_asm); (case U => k_updF); (case d => assumption)); intro h8 o8 F8 N8 d8; (try dsimp only at N8))
  k_with "subscriptTail" => (k_here; (with_reducible show wpAny _ _ (subscriptTail _ _ (Value.str (Str.ofString "ABCDEFG") _) (Value.int _ _)) _ _ _); (refine item_abc7 (by omega) (by omega) ?_); intro t9 tk9)
  trivial

variable (w : World) (p : Program) (loose : List Str) (mean : ExcName → Option Value) (mg mb : Str → Option Value)
variable (fa : Addr) (cdv : Value) (g : Heap) (L' : Addr) (E : Value → Shared → Prop) (Q : Flow → Shared → Prop)
   (hBe : Below callerA g [] g) (hX : (K2 w.params).In g) (hT : Top p loose mean mg mb g)
set_option maxHeartbeats 1000000 in
include hBe hX hT in
theorem st5 (own : List (Addr × Obj)) (hh : Hi L' own) (oS oL oK : Obj) (vL : Option Value) (hL : oL.data = .cell vL) (pp : Int) (tp : Tok) (hp0 : 2 ≤ pp) (hp1 : pp ≤ 7) (mm : Str → Option Value)
    (ep : mm (Str.ofString "p") = some (.int pp tp)) (s : Shared)
    (hF : Fr g L' s.heap mm) (hN : News g L' s.heap ((L' + 1, oS) :: (L' + 1 + 1, oL) :: (L' + 1 + 1 + 1, oK) :: own))
    (H : ∀ h' tk' oL' tl, oL'.data = .cell (some (.str (SS [64 + pp.toNat]) tl)) → Fr g L' h' mm → News g L' h' ((L' + 1, oS) :: (L' + 1 + 1, oL') :: (L' + 1 + 1 + 1, oK) :: own) → Q .next { s with heap := h', toks := tk' }) :
    wpAny (model PySem.Challenge.rw_nb0270_01.row.prog w) (callerA.deeper (laE fa cdv L')) (execs laT5.1 (laE fa cdv L')) Q E s := by
  have e : 65 + (pp - 1).toNat = 64 + pp.toNat := by omega
  revert hX
  k_fill
  intro hX
  k_steps
  all_goals first | exact default | exact H _ _ _ _ (by rw [← e]; assumption) (by assumption) (by assumption)
end
theorem ln_S5_z : True := by
  k_with_none
  trivial
/-! S7 -/
section
theorem ln_S7_1 : True := by
  k_with_none
  k_with "eval Name" => (k_here; k_dflt (refine' nameX_L ?F ?v ?_ ?a ?b; (case F => k_asm); (case a => rfl); (case b => rfl); (case v => first | rfl | assumption); k_whole))
  k_with "eval Name" => (k_here; k_dflt (refine' nameC ?a ?b ?c ?N ?m ?d ?_; (case a => rfl); (case b => rfl); (case c => rfl); (case N => k_asm); (case m => kcf_m); (case d => assumption)))
  k_with "storeName" => (k_here; k_dflt (refine' storeC ?a ?b ?c ?F ?N ?U ?d ?_; (case a => rfl); (case b => rfl); (case c => rfl); (case F => k_asm); (case N => k_asm); (case U => k_updF); (case d => assumption)); intro h8 o8 F8 N8 d8; (try dsimp only at N8))
  k_with "call type:list" => ((with_reducible show wpAny _ _ (call (Value.type "list") [Value.ref _]) _ _ _); refine my_hold ?_)
  trivial

variable (w : World) (p : Program) (loose : List Str) (mean : ExcName → Option Value) (mg mb : Str → Option Value)
variable (fa : Addr) (cdv : Value) (g : Heap) (L' : Addr) (E : Value → Shared → Prop) (Q : Flow → Shared → Prop)
   (hBe : Below callerA g [] g) (hX : (K2 w.params).In g) (hT : Top p loose mean mg mb g)
set_option maxHeartbeats 1000000 in
include hBe hX hT in
theorem st7 (a : Nat → Int) (t v : Nat → Tok) (a' : Nat → Int) (t' : Nat → Tok) (lx dx y dy q1 q2 q3 : Nat) (rest : List (Addr × Obj)) (te : Tok) (WC B : Str) (pc : Nat)
   (hB : B.length ≤ 100) (o1 : dx < lx) (o2 : lx < dy) (o3 : dy < y) (o4 : y < q1) (o5 : q1 < q2) (o6 : q2 < q3) (o7 : Apart rest dx dy q3) (hWC : ∀ c, 65 ≤ c → c ≤ 77 → decide (c ∈ WC.cps.toList) = decide (c ≠ pc))
   (b : Bool) (r : List Nat) (P : Int) (tp tx : Tok) (st : Value) (pb : List Value) (n3 : Int) (hs : LS B P st pb r) (hlet : ∀ d ∈ r, 65 ≤ d ∧ d ≤ 77) (hl : r.length ≤ 100) (mm : Str → Option Value) (ex : mm (Str.ofString "lexer") = some (.ref lx)) (s : Shared)
    (hF : Fr g L' s.heap mm) (hN : News g L' s.heap (lexL a t v a' t' lx dx y dy q1 q2 q3 rest b (eoV b te) WC (SS [pc]) B P tp st (.str (Str.ofString "") tx) pb n3))
    (H : ∀ h' tk' (T : Nat) l' nn' P' tp' tx' n', q3 < T → (∀ z ∈ rest, z.1 < T) → Toks pc r l' → LS B P' .none [] [] → Fr g L' h' (fun z => if z = Str.ofString "tokens" then some (.ref T) else mm z) → News g L' h' (lexT a t v a' t' lx dx y dy q1 q2 q3 rest te WC B pc b P' tp' tx' .none [] n' T l' nn') → Q .next { s with heap := h', toks := tk' }) :
    wpAny (model PySem.Challenge.rw_nb0270_01.row.prog w) (callerA.deeper (laE fa cdv L')) (execs laT7.1 (laE fa cdv L')) Q E s := by
  revert hX
  k_fill
  intro hX
  k_steps
  unfold MyLoop
  refine list_lex w p loose mean mg mb a t v a' t' lx dx y dy q1 q2 q3 rest te WC B pc hB o1 o2 o3 o4 o5 o6 o7 hWC _ _ _ _ _ _ _ _ _ callerA g L' mm hBe hX hT rfl (by decide) (by decide) b r P tp tx st pb n3 _ _ _ hs hlet hl (by assumption) (by assumption) ?_
  intro h9 tk9 T9 l9 nn9 P9 tp9 tx9 n9 hT1 hT2 ht9 hs9 F9 N9
  k_steps
  exact H _ _ _ _ _ _ _ _ _ hT1 hT2 ht9 hs9 (by assumption) (by assumption)
end
theorem ln_S7_z : True := by
  k_with_none
  trivial
/-! S8 -/
section
theorem ln_S8_1 : True := by
  k_with_none
  k_with "eval Name" => (k_here; k_dflt (refine' nameX_L ?F ?v ?_ ?a ?b; (case F => k_asm); (case a => rfl); (case b => rfl); (case v => first | rfl | assumption); k_whole))
  k_with "eval Name" => (k_here; k_dflt (refine' nameC ?a ?b ?c ?N ?m ?d ?_; (case a => rfl); (case b => rfl); (case c => rfl); (case N => k_asm); (case m => kcf_m); (case d => assumption)))
  k_with "storeName" => (k_here; k_dflt (refine' storeC ?a ?b ?c ?F ?N ?U ?d ?_; (case a => rfl); (case b => rfl); (case c => rfl); (case F => k_asm); (case N => k_asm); (case U => k_updF); (case d => assumption)); intro h8 o8 F8 N8 d8; (try dsimp only at N8))
  k_with "eval ListComp" => (k_here; k_dflt (refine LCg.ListComp_U (F₀ := by k_asm) (by with_unfolding_all rfl) (by decide) (by rfl) (by decide) (by rfl) ?_))
  k_with "CompSrc" => (refine my_hold ?_)
  k_with "CompEnd" => (refine my_hold ?_)
  k_with "subscriptTail Name Slice str ref" => ((with_reducible show wpAny _ _ (subscriptTail _ (Expr.Slice none (some _) none _) (Value.str _ _) (Value.ref _)) _ _ _); (with_reducible rename Fr _ _ _ _ => F'); (with_reducible rename News _ _ _ _ => N'); k_dflt (refine slice_tok (s := ⟨_, _, _, _, _⟩) F' N' (by assumption) ?_); intro h9 t9 k9 F9 N9)
  k_with "compareOp Eq str str" => ((with_reducible show wpAny _ _ (compareOp _ (Value.str (SS [_]) _) (Value.str (SS [_]) _)) _ _ _); refine eq_chr2 ?_)
  trivial

variable (w : World) (p : Program) (loose : List Str) (mean : ExcName → Option Value) (mg mb : Str → Option Value)
variable (fa : Addr) (cdv : Value) (g : Heap) (L' : Addr) (E : Value → Shared → Prop) (Q : Flow → Shared → Prop)
   (hBe : Below callerA g [] g) (hX : (K2 w.params).In g) (hT : Top p loose mean mg mb g)
set_option maxHeartbeats 1000000 in
include hBe hX hT in
theorem st8 (own : List (Addr × Obj)) (T nn : Nat) (l : List TK) (hl : TkOk l) (pc : Nat) (tl : Tok) (hh : Hi L' ((T, listOf (tkVs l).toArray nn) :: own)) (oS oL oK : Obj) (hL : oL.data = .cell (some (.str (SS [pc]) tl))) (vK : Option Value) (hK : oK.data = .cell vK) (mm : Str → Option Value) (et : mm (Str.ofString "tokens") = some (.ref T)) (s : Shared)
    (hF : Fr g L' s.heap mm) (hN : News g L' s.heap ((L' + 1, oS) :: (L' + 1 + 1, oL) :: (L' + 1 + 1 + 1, oK) :: (T, listOf (tkVs l).toArray nn) :: own))
    (H : ∀ h' tk' (K nk : Nat) oK', Hi L' ((K, listOf (kindVs l pc).toArray nk) :: (T, listOf (tkVs l).toArray nn) :: own) → oK'.data = .cell (some (.ref K)) → Fr g L' h' mm →
      News g L' h' ((L' + 1, oS) :: (L' + 1 + 1, oL) :: (L' + 1 + 1 + 1, oK') :: (K, listOf (kindVs l pc).toArray nk) :: (T, listOf (tkVs l).toArray nn) :: own) → Q .next { s with heap := h', toks := tk' }) :
    wpAny (model PySem.Challenge.rw_nb0270_01.row.prog w) (callerA.deeper (laE fa cdv L')) (execs laT8.1 (laE fa cdv L')) Q E s := by
  have hln := hl.n
  have mT : (T, listOf (tkVs l).toArray nn) ∈ ((L' + 1, oS) :: (L' + 1 + 1, oL) :: (L' + 1 + 1 + 1, oK) :: (T, listOf (tkVs l).toArray nn) :: own) := List.mem_cons_of_mem _ (List.mem_cons_of_mem _ (List.mem_cons_of_mem _ List.mem_cons_self))
  revert hX
  k_fill
  intro hX
  k_steps
  unfold MyLoop
  refine LCg.CompSrc.ledger rfl (by assumption) (by assumption) mT (by rw [sizeLine_eq]; simp; omega) (fun g9 => ?_)
  refine list_rest (Y := fun i y => ∃ x, l[i]? = some x ∧ y = .bool (kdOf pc x)) ?_ ?_
  · intro i v I oI C oC D m₂ ys h tk E' hv hC hx F N off ne
    obtain ⟨⟨c, r, t⟩, hk, rfl⟩ := tk_of hv
    have hr : r.length ≤ 100 := hl.r _ (List.mem_of_getElem? hk)
    change m₂ _ = some (Value.str (SS (c :: r)) t) at hx
    k_steps
    unfold MyLoop
    exact LCg.CompEnd.intro (by assumption) (by assumption) _ (fun p hp => hp) off (.inr ⟨_, mT, rfl, _, rfl⟩) ⟨⟨_, hk, rfl⟩, rfl⟩
  · intro ys9 hl9 hy9
    have e9 := kinds_of (pc := pc) hl9 hy9
    subst e9
    unfold LCg.FinE
    intro D9 h9 tk9 F9 N9 o9
    have z1 : (@Ne Nat (L' + 1) D9) := o9.1
    have z2 : (@Ne Nat (L' + 1 + 1) D9) := o9.2.1
    have z3 : (@Ne Nat (L' + 1 + 1 + 1) D9) := o9.2.2.1
    k_steps
    exact H _ _ D9 _ _ (Hi.cons hh (Ne.symm z1) (Ne.symm z2) (Ne.symm z3)) (by assumption) (by assumption) (cells_first (by assumption))
end
theorem ln_S8_z : True := by
  k_with_none
  trivial
/-! S9 -/
section
theorem ln_S9_1 : True := by
  k_with_none
  k_with "eval Name" => (k_here; k_dflt (refine' nameX_L ?F ?v ?_ ?a ?b; (case F => k_asm); (case a => rfl); (case b => rfl); (case v => first | rfl | assumption); k_whole))
  k_with "eval Name" => (k_here; k_dflt (refine' nameC ?a ?b ?c ?N ?m ?d ?_; (case a => rfl); (case b => rfl); (case c => rfl); (case N => k_asm); (case m => kcf_m); (case d => assumption)))
  k_with "storeName" => (k_here; k_dflt (refine' storeC ?a ?b ?c ?F ?N ?U ?d ?_; (case a => rfl); (case b => rfl); (case c => rfl); (case F => k_asm); (case N => k_asm); (case U => k_updF); (case d => assumption)); intro h8 o8 F8 N8 d8; (try dsimp only at N8))
  k_with "eval ListComp" => (k_here; k_dflt (refine LCg.ListComp_U (F₀ := by k_asm) (by with_unfolding_all rfl) (by decide) (by rfl) (by decide) (by rfl) ?_))
  k_with "CompSrc" => (refine my_hold ?_)
  k_with "CompEnd" => (refine my_hold ?_)
  k_with "subscriptTail Name Slice str ref" => ((with_reducible show wpAny _ _ (subscriptTail _ (Expr.Slice (some _) none none _) (Value.str _ _) (Value.ref _)) _ _ _); (with_reducible rename Fr _ _ _ _ => F'); (with_reducible rename News _ _ _ _ => N'); k_dflt (refine slice_end (s := ⟨_, _, _, _, _⟩) F' N' (by assumption) ?_); intro h9 t9 k9 F9 N9)
  k_with "compareOp Eq str str" => ((with_reducible show wpAny _ _ (compareOp _ (Value.str (SS [_]) _) (Value.str (SS [_]) _)) _ _ _); refine eq_chr2 ?_)
  k_with "call builtin:str.join" => (k_here; k_dflt (refine' join_ss ?l (toks_strs _) (by assumption) (by assumption) ?_; (case l => first | is_list | exact News.isList (by k_asm) (by first | k_mem | kcf_m))); intro t9 tk9)
  k_with "compareOp NotEq str str" => ((with_reducible show wpAny _ _ (compareOp _ (Value.str (SS _) _) (Value.str (SS _) _)) _ _ _); refine ne_ss_same (by assumption) ?_)
  k_with "compareOp In str ref" => (k_here; k_dflt (refine' in_toks ?l ?_; (case l => first | is_list | exact News.isList (by k_asm) (by first | k_mem | kcf_m))))
  k_with "compareOp NotEq ref ref" => (k_here; refine my_hold ?_)
  trivial

variable (w : World) (p : Program) (loose : List Str) (mean : ExcName → Option Value) (mg mb : Str → Option Value)
variable (fa : Addr) (cdv : Value) (g : Heap) (L' : Addr) (E : Value → Shared → Prop) (Q : Flow → Shared → Prop)
   (hBe : Below callerA g [] g) (hX : (K2 w.params).In g) (hT : Top p loose mean mg mb g)
set_option maxHeartbeats 1000000 in
include hBe hX hT in
theorem st9 (own : List (Addr × Obj)) (K nk T nn : Nat) (l : List TK) (hl : TkOk l) (pc : Nat) (tl td : Tok) (hsame : ∀ x ∈ l, ((x.1 :: x.2.1).getLast (List.cons_ne_nil _ _) == pc) = (x.1 == pc)) (due : List Nat) (hflat : flatT l = due) (hdue : due.length ≤ 100) (oS oL oK : Obj) (hL : oL.data = .cell (some (.str (SS [pc]) tl))) (hK : oK.data = .cell (some (.ref K))) (mm : Str → Option Value) (et : mm (Str.ofString "tokens") = some (.ref T)) (ed : mm (Str.ofString "due") = some (.str (SS due) td)) (s : Shared)
    (hF : Fr g L' s.heap mm) (hN : News g L' s.heap ((L' + 1, oS) :: (L' + 1 + 1, oL) :: (L' + 1 + 1 + 1, oK) :: (K, listOf (kindVs l pc).toArray nk) :: (T, listOf (tkVs l).toArray nn) :: own))
    (H : ∀ h' tk', Fr g L' h' mm → News g L' h' ((L' + 1, oS) :: (L' + 1 + 1, oL) :: (L' + 1 + 1 + 1, oK) :: (K, listOf (kindVs l pc).toArray nk) :: (T, listOf (tkVs l).toArray nn) :: own) → Q .next { s with heap := h', toks := tk' }) :
    wpAny (model PySem.Challenge.rw_nb0270_01.row.prog w) (callerA.deeper (laE fa cdv L')) (execs laT9.1 (laE fa cdv L')) Q E s := by
  have hln := hl.n
  have hcl : (l.map fun x => x.1 :: x.2.1).length ≤ 100 := by simpa using hln
  have hfl : (l.map fun x => x.1 :: x.2.1).flatten.length ≤ 100 := by rw [show (l.map fun x => x.1 :: x.2.1).flatten = due from hflat]; exact hdue
  have mT : (T, listOf (tkVs l).toArray nn) ∈ ((L' + 1, oS) :: (L' + 1 + 1, oL) :: (L' + 1 + 1 + 1, oK) :: (K, listOf (kindVs l pc).toArray nk) :: (T, listOf (tkVs l).toArray nn) :: own) := List.mem_cons_of_mem _ (List.mem_cons_of_mem _ (List.mem_cons_of_mem _ (List.mem_cons_of_mem _ List.mem_cons_self)))
  revert hX
  k_fill
  intro hX
  k_steps
  unfold MyLoop
  refine LCg.CompSrc.ledger rfl (by assumption) (by assumption) mT (by rw [sizeLine_eq]; simp; omega) (fun g9 => ?_)
  refine list_rest (Y := fun i y => ∃ x, l[i]? = some x ∧ y = .bool (kdOf pc x)) ?_ ?_
  · intro i v I oI C oC D m₂ ys h tk E' hv hC hx F N off ne
    obtain ⟨⟨c, r, t⟩, hk, rfl⟩ := tk_of hv
    have hr : r.length ≤ 100 := hl.r _ (List.mem_of_getElem? hk)
    change m₂ _ = some (Value.str (SS (c :: r)) t) at hx
    have hs := hsame _ (List.mem_of_getElem? hk)
    k_steps
    unfold MyLoop
    exact LCg.CompEnd.intro (by assumption) (by assumption) _ (fun p hp => hp) off (.inr ⟨_, mT, rfl, _, rfl⟩) ⟨⟨_, hk, congrArg Value.bool hs⟩, rfl⟩
  · intro ys9 hl9 hy9
    have e9 := kinds_of (pc := pc) hl9 hy9
    subst e9
    unfold LCg.FinE
    intro D9 h9 tk9 F9 N9 o9
    k_steps
    unfold MyLoop
    refine ne_bools_same (bs := kindBs l pc) (News.isList N9 (List.mem_cons_of_mem _ (List.mem_cons_of_mem _ (List.mem_cons_of_mem _ (List.mem_cons_of_mem _ List.mem_cons_self))))) (News.isList N9 List.mem_cons_self) (by first | decide | units_room) ?_
    k_steps
    exact H _ _ (by assumption) (news_sub (fun p hp => List.mem_cons_of_mem _ hp) (by assumption))
end
theorem ln_S9_z : True := by
  k_with_none
  trivial
/-! S10 -/
section
theorem ln_S10_1 : True := by
  k_with_none
  k_with "eval Name" => (k_here; k_dflt (refine' nameX_L ?F ?v ?_ ?a ?b; (case F => k_asm); (case a => rfl); (case b => rfl); (case v => first | rfl | assumption); k_whole))
  k_with "eval Name" => (k_here; k_dflt (refine' nameC ?a ?b ?c ?N ?m ?d ?_; (case a => rfl); (case b => rfl); (case c => rfl); (case N => k_asm); (case m => kcf_m); (case d => assumption)))
  k_with "storeName" => (k_here; k_dflt (refine' storeC ?a ?b ?c ?F ?N ?U ?d ?_; (case a => rfl); (case b => rfl); (case c => rfl); (case F => k_asm); (case N => k_asm); (case U => k_updF); (case d => assumption)); intro h8 o8 F8 N8 d8; (try dsimp only at N8))
  k_with "eval ListComp" => (k_here; k_dflt (refine LCt.ListComp_T (F₀ := by k_asm) (by with_unfolding_all rfl) (by decide) (by rfl) (by decide) (by rfl) ?_))
  k_with "CompSrcT" => (refine my_hold ?_)
  k_with "NoEnd" => (refine my_hold ?_)
  k_with "call builtin:len" => (k_here; (with_reducible show wpAny _ _ (call (Value.builtin "len") [Value.ref _]) _ _ _); k_dflt (refine' len_kinds ?l ?b ?_; (case l => first | is_list | exact News.isList (by k_asm) (by first | k_mem | kcf_m)); (case b => assumption)); intro t9 tk9)
  k_with "subscriptTail" => (k_here; (with_reducible show wpAny _ _ (subscriptTail _ _ (Value.ref _) (Value.int _ _)) _ _ _); k_dflt (refine' item_kind ?l ?a ?b ?c ?_; (case l => first | is_list | exact News.isList (by k_asm) (by first | k_mem | kcf_m)); (case a => omega); (case b => omega); (case c => assumption)))
  k_with "compareOp NotEq ref ref" => (k_here; refine my_hold ?_)
  trivial

variable (w : World) (p : Program) (loose : List Str) (mean : ExcName → Option Value) (mg mb : Str → Option Value)
variable (fa : Addr) (cdv : Value) (g : Heap) (L' : Addr) (E : Value → Shared → Prop) (Q : Flow → Shared → Prop)
   (hBe : Below callerA g [] g) (hX : (K2 w.params).In g) (hT : Top p loose mean mg mb g)
set_option maxHeartbeats 1000000 in
include hBe hX hT in
theorem st10 (own : List (Addr × Obj)) (K nk : Nat) (l : List TK) (hln : l.length ≤ 100) (pc : Nat) (halt : ∀ (i : Nat) (x y : TK), l[i]? = some x → l[i + 1]? = some y → (y.1 == pc) ≠ (x.1 == pc)) (oS oL oK : Obj) (hK : oK.data = .cell (some (.ref K))) (mm : Str → Option Value) (s : Shared)
    (hF : Fr g L' s.heap mm) (hN : News g L' s.heap ((L' + 1, oS) :: (L' + 1 + 1, oL) :: (L' + 1 + 1 + 1, oK) :: (K, listOf (kindVs l pc).toArray nk) :: own))
    (H : ∀ h' tk', Fr g L' h' mm → News g L' h' ((L' + 1, oS) :: (L' + 1 + 1, oL) :: (L' + 1 + 1 + 1, oK) :: (K, listOf (kindVs l pc).toArray nk) :: own) → Q .next { s with heap := h', toks := tk' }) :
    wpAny (model PySem.Challenge.rw_nb0270_01.row.prog w) (callerA.deeper (laE fa cdv L')) (execs laT10.1 (laE fa cdv L')) Q E s := by
  revert hX
  k_fill
  intro hX
  k_steps
  unfold MyLoop
  refine LCt.CompSrcT.range rfl (by assumption) (by assumption) (by assumption) (small_one (by omega) (by omega) (by omega) (by omega)) (rangeSize_nat _ _) (by rw [sizeLine_eq]; omega) (fun g9 => ?_)
  refine range_none ?_ ?_
  · intro i u I oI C oC D m₂ h tk E' hi hC hx F N off ne
    have hk0 : (0 : Int) ≤ 1 + (i : Int) - 1 := by omega
    have hk1 : 1 + (i : Int) < (l.length : Int) := by omega
    k_steps
    unfold MyLoop
    refine ⟨?_, LCg.CompEnd.intro (by assumption) (by assumption) _ (fun p hp => hp) off trivial rfl⟩
    have h1 : l[i]? = some (tkAt l (1 + (i : Int) - 1)) := by
      have e : (1 + (i : Int) - 1).toNat = i := by omega
      unfold tkAt
      rw [e, List.getD_eq_getElem?_getD, List.getElem?_eq_getElem (by omega)]
      rfl
    have h2 : l[i + 1]? = some (tkAt l (1 + (i : Int))) := by
      have e : (1 + (i : Int)).toNat = i + 1 := by omega
      unfold tkAt
      rw [e, List.getD_eq_getElem?_getD, List.getElem?_eq_getElem (by omega)]
      rfl
    have h3 := halt i _ _ h1 h2
    simpa using h3
  · unfold LCg.FinE
    intro D9 h9 tk9 F9 N9 o9
    k_steps
    unfold MyLoop
    (rename News _ _ _ _ => N10)
    refine ne_bools_same (bs := []) (News.isList N10 (List.mem_cons_of_mem _ List.mem_cons_self)) (News.isList N10 List.mem_cons_self) (by first | decide | units_room) ?_
    k_steps
    exact H _ _ (by assumption) (news_sub (fun p hp => List.mem_cons_of_mem _ (List.mem_cons_of_mem _ hp)) (by assumption))
end
theorem ln_S10_z : True := by
  k_with_none
  trivial
/-! S11 -/
section
theorem ln_S11_1 : True := by
  k_with_none
  k_with "eval Name" => (k_here; k_dflt (refine' nameX_L ?F ?v ?_ ?a ?b; (case F => k_asm); (case a => rfl); (case b => rfl); (case v => first | rfl | assumption); k_whole))
  k_with "eval Name" => (k_here; k_dflt (refine' nameC ?a ?b ?c ?N ?m ?d ?_; (case a => rfl); (case b => rfl); (case c => rfl); (case N => k_asm); (case m => kcf_m); (case d => assumption)))
  k_with "storeName" => (k_here; k_dflt (refine' storeC ?a ?b ?c ?F ?N ?U ?d ?_; (case a => rfl); (case b => rfl); (case c => rfl); (case F => k_asm); (case N => k_asm); (case U => k_updF); (case d => assumption)); intro h8 o8 F8 N8 d8; (try dsimp only at N8))
  k_with "call ref" => ((with_reducible show wpAny _ _ (call (Value.ref 690) _) _ _ _); k_dflt (refine' gt_end _ _ _ _ _ _ _ _ _ _ _ _ _ _ _ _ _ _ _ _ _ _ _ _ ?hB ?o1 ?o2 ?o3 ?o4 ?o5 ?o6 ?o7 _ _ _ _ _ _ ?hs _ _ _ _ _ _ _ _ _ _ _ _ _ _ _ _ _ ?k1 ?k2 ?k3 ?k4 ?k5 ?kK ?kd ?ku ?_; (case k4 => k_asm); (case hs => assumption); (case hB => assumption); (case o1 => assumption); (case o2 => assumption); (case o3 => assumption); (case o4 => assumption); (case o5 => assumption); (case o6 => assumption); (case o7 => assumption); (case k1 => k_asm); (case k2 => k_asm); (case k3 => k_asm); (case k5 => k_asm); (case kK => first | exact rfl | assumption); (case kd => ktr_room); (case ku => ktr_units)); intro h9 tk9 tx9 hs9 F9 N9)
  trivial
theorem ne_mt_same {prog : Program} {w : World} {A : Around} {E : Value → Shared → Prop} {s : Shared} {x : Str} {t u : Tok} {Q : Value → Shared → Prop} (h : Q (.bool false) s) : wpAny (model prog w) A (compareOp .NotEq (.str x t) (.str x u)) Q E s := by
  refine PyProof.Rows.ne_str ?_
  rw [show ((x : Str) != x) = false by simp]
  exact h
theorem ln_S11_2 : True := by
  k_with_none
  k_with "eval Name" => (k_here; k_dflt (refine' nameX_L ?F ?v ?_ ?a ?b; (case F => k_asm); (case a => rfl); (case b => rfl); (case v => first | rfl | assumption); k_whole))
  k_with "eval Name" => (k_here; k_dflt (refine' nameC ?a ?b ?c ?N ?m ?d ?_; (case a => rfl); (case b => rfl); (case c => rfl); (case N => k_asm); (case m => kcf_m); (case d => assumption)))
  k_with "storeName" => (k_here; k_dflt (refine' storeC ?a ?b ?c ?F ?N ?U ?d ?_; (case a => rfl); (case b => rfl); (case c => rfl); (case F => k_asm); (case N => k_asm); (case U => k_updF); (case d => assumption)); intro h8 o8 F8 N8 d8; (try dsimp only at N8))
  k_with "call ref" => ((with_reducible show wpAny _ _ (call (Value.ref 690) _) _ _ _); k_dflt (refine' gt_end _ _ _ _ _ _ _ _ _ _ _ _ _ _ _ _ _ _ _ _ _ _ _ _ ?hB ?o1 ?o2 ?o3 ?o4 ?o5 ?o6 ?o7 _ _ _ _ _ _ ?hs _ _ _ _ _ _ _ _ _ _ _ _ _ _ _ _ _ ?k1 ?k2 ?k3 ?k4 ?k5 ?kK ?kd ?ku ?_; (case k4 => k_asm); (case hs => assumption); (case hB => assumption); (case o1 => assumption); (case o2 => assumption); (case o3 => assumption); (case o4 => assumption); (case o5 => assumption); (case o6 => assumption); (case o7 => assumption); (case k1 => k_asm); (case k2 => k_asm); (case k3 => k_asm); (case k5 => k_asm); (case kK => first | exact rfl | assumption); (case kd => ktr_room); (case ku => ktr_units)); intro h9 tk9 tx9 hs9 F9 N9)
  k_with "compareOp NotEq str str" => (refine ne_mt_same ?_)
  trivial

variable (w : World) (p : Program) (loose : List Str) (mean : ExcName → Option Value) (mg mb : Str → Option Value)
variable (fa : Addr) (cdv : Value) (g : Heap) (L' : Addr) (E : Value → Shared → Prop) (Q : Flow → Shared → Prop)
   (hBe : Below callerA g [] g) (hX : (K2 w.params).In g) (hT : Top p loose mean mg mb g)
set_option maxHeartbeats 1000000 in
include hBe hX hT in
theorem st11 (a : Nat → Int) (t v : Nat → Tok) (a' : Nat → Int) (t' : Nat → Tok) (lx dx y dy q1 q2 q3 : Nat) (rest : List (Addr × Obj)) (te : Tok) (WC B : Str) (pc : Nat)
   (hB : B.length ≤ 100) (o1 : dx < lx) (o2 : lx < dy) (o3 : dy < y) (o4 : y < q1) (o5 : q1 < q2) (o6 : q2 < q3) (o7 : Apart rest dx dy q3)
   (b : Bool) (P : Int) (tp tx : Tok) (st : Value) (pb : List Value) (n3 : Int) (hs : LS B P st pb []) (mm : Str → Option Value) (ex : mm (Str.ofString "lexer") = some (.ref lx)) (eb : mm (Str.ofString "posix") = some (.bool b)) (s : Shared)
    (hF : Fr g L' s.heap mm) (hN : News g L' s.heap (lexL a t v a' t' lx dx y dy q1 q2 q3 rest b (eoV b te) WC (SS [pc]) B P tp st (.str (Str.ofString "") tx) pb n3))
    (H : ∀ h' tk', Fr g L' h' mm → News g L' h' rest → Q .next { s with heap := h', toks := tk' }) :
    wpAny (model PySem.Challenge.rw_nb0270_01.row.prog w) (callerA.deeper (laE fa cdv L')) (execs laT11.1 (laE fa cdv L')) Q E s := by
  revert hX
  k_fill
  intro hX
  have drop : ∀ {h : Heap} {st tk : Value} {P : Int} {tp : Tok} {pb : List Value} {n : Int}, News g L' h (lexL a t v a' t' lx dx y dy q1 q2 q3 rest b (eoV b te) WC (SS [pc]) B P tp st tk pb n) → News g L' h rest := fun N => news_sub (fun q hq => by simp only [lexL, List.mem_cons, hq, or_true]) N
  cases b
  all_goals (
    k_steps
    (try simp only [eoV, Bool.false_eq_true, if_false, if_true] at *)
    k_steps)
  all_goals first | exact H _ _ (by assumption) (drop (by assumption))
end
theorem ln_S11_z : True := by
  k_with_none
  trivial
/-! S12 -/
section
theorem ln_S12_1 : True := by
  k_with_none
  k_with "eval Name" => (k_here; k_dflt (refine' nameX_L ?F ?v ?_ ?a ?b; (case F => k_asm); (case a => rfl); (case b => rfl); (case v => first | rfl | assumption); k_whole))
  k_with "eval Name" => (k_here; k_dflt (refine' nameC ?a ?b ?c ?N ?m ?d ?_; (case a => rfl); (case b => rfl); (case c => rfl); (case N => k_asm); (case m => kcf_m); (case d => assumption)))
  k_with "storeName" => (k_here; k_dflt (refine' storeC ?a ?b ?c ?F ?N ?U ?d ?_; (case a => rfl); (case b => rfl); (case c => rfl); (case F => k_asm); (case N => k_asm); (case U => k_updF); (case d => assumption)); intro h8 o8 F8 N8 d8; (try dsimp only at N8))
  k_with "call ref" => ((with_reducible show wpAny _ _ (call (Value.ref 750) [_, _]) _ _ _); k_dflt (refine' told_call _ _ _ _ _ _ _ _ _ _ _ ?h1 _ _ _ _ _ _ _ _ _ _ _ _ _ _ _ _ _ _ ?k1 ?k2 ?k3 ?k4 ?k5 ?kK ?kd ?ku ?_; (case k4 => k_asm); (case h1 => assumption); (case k1 => k_asm); (case k2 => k_asm); (case k3 => k_asm); (case k5 => k_asm); (case kK => first | exact rfl | assumption); (case kd => ktr_room); (case ku => ktr_units)); intro h9 tk9 t9 F9 N9)
  trivial

variable (w : World) (p : Program) (loose : List Str) (mean : ExcName → Option Value) (mg mb : Str → Option Value)
variable (fa : Addr) (cdv : Value) (g : Heap) (L' : Addr) (E : Value → Shared → Prop) (Q : Flow → Shared → Prop)
   (hBe : Below callerA g [] g) (hX : (K2 w.params).In g) (hT : Top p loose mean mg mb g)
set_option maxHeartbeats 1000000 in
include hBe hX hT in
theorem st12 (own : List (Addr × Obj)) (T nn : Nat) (l : List TK) (hl : TkOk l) (pc : Nat) (tl : Tok) (oS oL oK : Obj) (hL : oL.data = .cell (some (.str (SS [pc]) tl))) (mm : Str → Option Value) (et : mm (Str.ofString "tokens") = some (.ref T)) (s : Shared)
    (hF : Fr g L' s.heap mm) (hN : News g L' s.heap ((T, listOf (tkVs l).toArray nn) :: (L' + 1, oS) :: (L' + 1 + 1, oL) :: (L' + 1 + 1 + 1, oK) :: own))
    (H : ∀ h' tk' t', Fr g L' h' (fun z => if z = Str.ofString "count" then some (.int (toldI l pc) t') else mm z) → News g L' h' ((T, listOf (tkVs l).toArray nn) :: (L' + 1, oS) :: (L' + 1 + 1, oL) :: (L' + 1 + 1 + 1, oK) :: own) → Q .next { s with heap := h', toks := tk' }) :
    wpAny (model PySem.Challenge.rw_nb0270_01.row.prog w) (callerA.deeper (laE fa cdv L')) (execs laT12.1 (laE fa cdv L')) Q E s := by
  revert hX
  k_fill
  intro hX
  k_steps
  all_goals first | exact H _ _ _ (by assumption) (by assumption)
end
theorem ln_S12_z : True := by
  k_with_none
  trivial
/-! S13 -/
section
theorem ln_S13_1 : True := by
  k_with_none
  k_with "eval Name" => (k_here; k_dflt (refine' nameX_L ?F ?v ?_ ?a ?b; (case F => k_asm); (case a => rfl); (case b => rfl); (case v => first | rfl | assumption); k_whole))
  k_with "eval Name" => (k_here; k_dflt (refine' nameC ?a ?b ?c ?N ?m ?d ?_; (case a => rfl); (case b => rfl); (case c => rfl); (case N => k_asm); (case m => kcf_m); (case d => assumption)))
  k_with "storeName" => (k_here; k_dflt (refine' storeC ?a ?b ?c ?F ?N ?U ?d ?_; (case a => rfl); (case b => rfl); (case c => rfl); (case F => k_asm); (case N => k_asm); (case U => k_updF); (case d => assumption)); intro h8 o8 F8 N8 d8; (try dsimp only at N8))
  trivial
theorem mod_p {prog : Program} {w : World} {A : Around} {E : Value → Shared → Prop} {s : Shared} {a c : Int} {n : Nat} {t u : Tok} {Q : Value → Shared → Prop} (h1 : 2 ≤ a) (h : Q (.int (c.fmod (a ^ n)) s.toks) { s with toks := s.toks + 1 }) : wpAny (model prog w) A (binaryOp .Mod (.int c t) (.int (a ^ n) u)) Q E s := by
  have h0 : 0 < a ^ n := Int.pow_pos (by omega)
  exact mod_int (by omega) h
theorem ne_0 {prog : Program} {w : World} {A : Around} {E : Value → Shared → Prop} {s : Shared} {a b : Int} {t u : Tok} {Q : Value → Shared → Prop} (e : a = b) (h : Q (.bool false) s) : wpAny (model prog w) A (compareOp .NotEq (.int a t) (.int b u)) Q E s := by
  subst e
  refine ne_int ?_
  rw [show (a != a) = false by simp]
  exact h
theorem eq_0 {prog : Program} {w : World} {A : Around} {E : Value → Shared → Prop} {s : Shared} {a b : Int} {t u : Tok} {Q : Value → Shared → Prop} (e : a ≠ b) (h : Q (.bool false) s) : wpAny (model prog w) A (compareOp .Eq (.int a t) (.int b u)) Q E s := by
  refine eq_int ?_
  rw [show (a == b) = false by simpa using e]
  exact h
theorem ln_S13_2 : True := by
  k_with_none
  k_with "eval Name" => (k_here; k_dflt (refine' nameX_L ?F ?v ?_ ?a ?b; (case F => k_asm); (case a => rfl); (case b => rfl); (case v => first | rfl | assumption); k_whole))
  k_with "eval Name" => (k_here; k_dflt (refine' nameC ?a ?b ?c ?N ?m ?d ?_; (case a => rfl); (case b => rfl); (case c => rfl); (case N => k_asm); (case m => kcf_m); (case d => assumption)))
  k_with "storeName" => (k_here; k_dflt (refine' storeC ?a ?b ?c ?F ?N ?U ?d ?_; (case a => rfl); (case b => rfl); (case c => rfl); (case F => k_asm); (case N => k_asm); (case U => k_updF); (case d => assumption)); intro h8 o8 F8 N8 d8; (try dsimp only at N8))
  k_with "binaryOp Pow int int" => (refine pow_p (by omega) (by omega) (by omega) (by omega) ?_)
  k_with "binaryOp FloorDiv int int" => ((with_reducible show wpAny _ _ (binaryOp _ (Value.int _ _) (Value.int (_ ^ _) _)) _ _ _); refine fdiv_p (by omega) (by omega) (by omega) ?_)
  k_with "binaryOp Mod int int" => ((with_reducible show wpAny _ _ (binaryOp _ (Value.int _ _) (Value.int (_ ^ _) _)) _ _ _); refine mod_p (by omega) ?_)
  k_with "compareOp NotEq int int" => (refine ne_0 (by assumption) ?_)
  k_with "compareOp Eq int int" => (refine eq_0 (by assumption) ?_)
  trivial

variable (w : World) (p : Program) (loose : List Str) (mean : ExcName → Option Value) (mg mb : Str → Option Value)
variable (fa : Addr) (cdv : Value) (g : Heap) (L' : Addr) (E : Value → Shared → Prop) (Q : Flow → Shared → Prop)
   (hBe : Below callerA g [] g) (hX : (K2 w.params).In g) (hT : Top p loose mean mg mb g)
set_option maxHeartbeats 1000000 in
include hBe hX hT in
theorem st13 (own : List (Addr × Obj)) (W pp cnt : Int) (tW tp tc : Tok) (hp0 : 2 ≤ pp) (hp1 : pp ≤ 7) (hc0 : 0 ≤ cnt) (hc1 : cnt ≤ 100) (e1 : W.fmod (pp ^ cnt.toNat) = 0) (e2 : (W.fdiv (pp ^ cnt.toNat)).fmod pp ≠ 0) (mm : Str → Option Value)
    (eW : mm (Str.ofString "ways") = some (.int W tW)) (ep : mm (Str.ofString "p") = some (.int pp tp)) (ec : mm (Str.ofString "count") = some (.int cnt tc)) (s : Shared)
    (hF : Fr g L' s.heap mm) (hN : News g L' s.heap own)
    (H : ∀ h' tk', Fr g L' h' mm → News g L' h' own → Q .next { s with heap := h', toks := tk' }) :
    wpAny (model PySem.Challenge.rw_nb0270_01.row.prog w) (callerA.deeper (laE fa cdv L')) (execs laT13.1 (laE fa cdv L')) Q E s := by
  revert hX
  k_fill
  intro hX
  k_steps
  all_goals first | exact H _ _ (by assumption) (by assumption)
end
theorem ln_S13_z : True := by
  k_with_none
  trivial
/-! TU -/
theorem execs_app {env : Env} {rest : List Stmt} : ∀ l : List Stmt, execs (l ++ rest) env = (execs l env >>= fun f => match f with | .next => execs rest env | f => pure f)
  | [] => by rw [List.nil_append, execs_nil, pure_bind]
  | x :: l => by
    rw [List.cons_append, execs_cons, execs_cons, bind_assoc]
    refine congrArg _ (funext fun f => ?_)
    cases f with
    | next => exact execs_app l
    | _ => rw [pure_bind]
theorem ex_app {M : Model} {A : Around} {E : Value → Shared → Prop} {s : Shared} {env : Env} {l rest : List Stmt} {Q : Flow → Shared → Prop} (h : wpAny M A (execs l env) (fun f s' => match f with | .next => wpAny M A (execs rest env) Q E s' | f => Q f s') E s) : wpAny M A (execs (l ++ rest) env) Q E s := by
  rw [execs_app]
  refine wpAny_bind (wpAny_mono h (fun f s' h' => ?_) fun _ _ e => e)
  cases f with
  | next => exact h'
  | _ => exact wpAny_pure h'
theorem loop_eq : laLoop.1 = laT0.1 ++ (laT1.1 ++ (laT2.1 ++ (laT3.1 ++ (laT4.1 ++ (laT5.1 ++ (laS6.1 ++ (laT7.1 ++ (laT8.1 ++ (laT9.1 ++ (laT10.1 ++ (laT11.1 ++ (laT12.1 ++ laT13.1)))))))))))) := rfl
structure FM (mm : Str → Option Value) (sc : Addr) (n m W : Int) (tn tm tw : Tok) (b : Bool) : Prop where
  script : mm (Str.ofString "script") = some (.ref sc)
  n : mm (Str.ofString "n") = some (.int n tn)
  m : mm (Str.ofString "m") = some (.int m tm)
  ways : mm (Str.ofString "ways") = some (.int W tw)
  posix : mm (Str.ofString "posix") = some (.bool b)
theorem up_ne {f : Str → Option Value} {x y : Str} {v r : Option Value} (h : x ≠ y) (e : f x = r) : (fun z => if z = y then v else f z) x = r := (if_neg h).trans e
theorem up_eq {f : Str → Option Value} {y : Str} {v : Option Value} : (fun z => if z = y then v else f z) y = v := if_pos rfl
theorem FM.up {mm : Str → Option Value} {sc : Addr} {n m W : Int} {tn tm tw : Tok} {b : Bool} (h : FM mm sc n m W tn tm tw b) {y : Str} {v : Option Value} (h1 : Str.ofString "script" ≠ y) (h2 : Str.ofString "n" ≠ y) (h3 : Str.ofString "m" ≠ y) (h4 : Str.ofString "ways" ≠ y) (h5 : Str.ofString "posix" ≠ y) : FM (fun z => if z = y then v else mm z) sc n m W tn tm tw b :=
  ⟨up_ne h1 h.script, up_ne h2 h.n, up_ne h3 h.m, up_ne h4 h.ways, up_ne h5 h.posix⟩
structure PlainOk (n m pp W : Int) : Prop where
  len : (trimI (digsI n m pp)).length ≤ 6
  bnd : ∀ x ∈ trimI (digsI n m pp), 0 ≤ x ∧ x ≤ 12
  n0 : 0 ≤ numI (trimI (digsI n m pp))
  n1 : numI (trimI (digsI n m pp)) < 16 ^ 8
  word : apW 8 (numI (trimI (digsI n m pp))).natAbs #[] = asB (dueI (trimI (digsI n m pp)))
  told : ∀ l, Toks (64 + pp.toNat) (dueI (trimI (digsI n m pp))) l → (0 ≤ toldI l (64 + pp.toNat) ∧ toldI l (64 + pp.toNat) ≤ 100) ∧ W.fmod (pp ^ (toldI l (64 + pp.toNat)).toNat) = 0 ∧ (W.fdiv (pp ^ (toldI l (64 + pp.toNat)).toNat)).fmod pp ≠ 0
theorem apart_mk {rest : List (Addr × Obj)} {dx dy q3 : Nat} (h : ∀ z ∈ rest, (@Ne Nat z.1 dx) ∧ (@Ne Nat z.1 dy) ∧ (@Ne Nat z.1 q3)) : Apart rest dx dy q3 := ⟨fun z hz => (h z hz).1, fun z hz => (h z hz).2.1, fun z hz => (h z hz).2.2⟩
section
variable (w : World) (p : Program) (loose : List Str) (mean : ExcName → Option Value) (mg mb : Str → Option Value)
variable (fa : Addr) (cdv : Value) (g : Heap) (L' : Addr) (E : Value → Shared → Prop) (Q : Flow → Shared → Prop)
   (hBe : Below callerA g [] g) (hX : (K2 w.params).In g) (hT : Top p loose mean mg mb g)
set_option maxHeartbeats 1000000 in
include hBe hX hT in
theorem turnLaw (sc : Addr) (its : Array Value) (ns : List Int) (hsc : g.IsList sc its) (hns : IntsAre its.toList ns) (hlen : ns.length ≤ 63) (n m W pp : Int) (tn tm tw tp : Tok) (b : Bool) (hn0 : 0 ≤ n) (hn1 : n < 64) (hm0 : 0 ≤ m) (hm1 : m < 64) (hp0 : 2 ≤ pp) (hp1 : pp ≤ 7) (hpl : PlainOk n m pp W)
    (own : List (Addr × Obj)) (hh : Hi L' own) (oS oL oK : Obj) (vS vL vK : Option Value) (hS : oS.data = .cell vS) (hL : oL.data = .cell vL) (hK : oK.data = .cell vK) (mm : Str → Option Value) (hfm : FM mm sc n m W tn tm tw b) (ep : mm (Str.ofString "p") = some (.int pp tp)) (s : Shared)
    (hF : Fr g L' s.heap mm) (hN : News g L' s.heap ((L' + 1, oS) :: (L' + 1 + 1, oL) :: (L' + 1 + 1 + 1, oK) :: own))
    (H : ∀ h' tk' mm' oS' oL' oK' vS' vL' vK', FM mm' sc n m W tn tm tw b → oS'.data = .cell vS' → oL'.data = .cell vL' → oK'.data = .cell vK' → Fr g L' h' mm' → News g L' h' ((L' + 1, oS') :: (L' + 1 + 1, oL') :: (L' + 1 + 1 + 1, oK') :: own) → Q .next { s with heap := h', toks := tk' }) :
    wpAny (model PySem.Challenge.rw_nb0270_01.row.prog w) (callerA.deeper (laE fa cdv L')) (execs laLoop.1 (laE fa cdv L')) Q E s := by
  have hpl0 := hpl
  obtain ⟨g1, g2, g3, g4, g5, g6⟩ := hpl
  generalize hl9 : trimI (digsI n m pp) = l at g1 g2 g3 g4 g5 g6
  have hpc : 64 + pp.toNat < 128 := by omega
  have hdl : (dueI l).length ≤ 100 := by simp [dueI]; omega
  have hda : ∀ d ∈ dueI l, 65 ≤ d ∧ d ≤ 77 := by
    intro d hd
    simp only [dueI, List.mem_map, List.mem_reverse] at hd
    obtain ⟨x, hx, rfl⟩ := hd
    have := g2 x hx
    omega
  have hd128 : ∀ d ∈ dueI l, d < 128 := fun d hd => by have := hda d hd; omega
  rw [loop_eq]
  refine ex_app ?_
  refine st0 w p loose mean mg mb fa cdv g L' E _ hBe hX hT own hh oS oL oK vS hS n m pp tn tm tp hn0 hn1 hm0 hm1 hp0 hp1 mm hfm.n hfm.m ep s hF hN ?_
  intro h1 k1 S nn ys oS1 hi1 hh1 dS1 F1 N1
  rw [hl9] at hi1
  dsimp only
  refine ex_app ?_
  refine st1 w p loose mean mg mb fa cdv g L' E _ hBe hX hT own S nn ys l hi1 g1 g2 hh1 oS1 oL oK dS1 mm _ F1 N1 ?_
  intro h2 k2 tN F2 N2
  have hfm2 := hfm.up (y := Str.ofString "number") (v := some (.int (numI l) tN)) (by decide +kernel) (by decide +kernel) (by decide +kernel) (by decide +kernel) (by decide +kernel)
  have ep2 := up_ne (y := Str.ofString "number") (v := some (.int (numI l) tN)) (by decide +kernel) ep
  have en2 := up_eq (f := mm) (y := Str.ofString "number") (v := some (.int (numI l) tN))
  generalize (fun z => if z = Str.ofString "number" then some (Value.int (numI l) tN) else mm z) = mm2 at F2 hfm2 ep2 en2
  dsimp only
  refine ex_app ?_
  refine st2 w p loose mean mg mb fa cdv g L' E _ hBe hX hT _ (numI l) tN g3 g4 sc its ns hsc hns hlen mm2 hfm2.script en2 _ F2 N2 ?_
  intro h3 k3 tW F3 N3
  rw [g5] at F3
  have hfm3 := hfm2.up (y := Str.ofString "word") (v := some (.bytes (asB (dueI l)) tW)) (by decide +kernel) (by decide +kernel) (by decide +kernel) (by decide +kernel) (by decide +kernel)
  have ep3 := up_ne (y := Str.ofString "word") (v := some (.bytes (asB (dueI l)) tW)) (by decide +kernel) ep2
  have ew3 := up_eq (f := mm2) (y := Str.ofString "word") (v := some (.bytes (asB (dueI l)) tW))
  generalize (fun z => if z = Str.ofString "word" then some (Value.bytes (asB (dueI l)) tW) else mm2 z) = mm3 at F3 hfm3 ep3 ew3
  dsimp only
  refine ex_app ?_
  refine st3 w p loose mean mg mb fa cdv g L' E _ hBe hX hT own S nn ys l hi1 g1 g2 hh1 oS1 oL oK dS1 mm3 _ F3 N3 ?_
  intro h4 k4 tD F4 N4
  have hfm4 := hfm3.up (y := Str.ofString "due") (v := some (.str (SS (dueI l)) tD)) (by decide +kernel) (by decide +kernel) (by decide +kernel) (by decide +kernel) (by decide +kernel)
  have ep4 := up_ne (y := Str.ofString "due") (v := some (.str (SS (dueI l)) tD)) (by decide +kernel) ep3
  have ew4 := up_ne (y := Str.ofString "due") (v := some (.str (SS (dueI l)) tD)) (by decide +kernel) ew3
  have ed4 := up_eq (f := mm3) (y := Str.ofString "due") (v := some (.str (SS (dueI l)) tD))
  generalize (fun z => if z = Str.ofString "due" then some (Value.str (SS (dueI l)) tD) else mm3 z) = mm4 at F4 hfm4 ep4 ew4 ed4
  dsimp only
  refine ex_app ?_
  refine st4 w p loose mean mg mb fa cdv g L' E _ hBe hX hT _ (dueI l) hd128 hdl tW tD mm4 ew4 ed4 _ F4 N4 ?_
  intro h5 k5 F5 N5
  dsimp only
  refine ex_app ?_
  refine st5 w p loose mean mg mb fa cdv g L' E _ hBe hX hT _ hh1 oS1 oL oK vL hL pp tp hp0 hp1 mm4 ep4 _ F5 N5 ?_
  intro h6 k6 oL1 tl dL1 F6 N6
  dsimp only
  refine ex_app ?_
  refine st6 w p loose mean mg mb fa cdv g g L' E _ hBe hX hT _ oS1 oL1 oK (64 + pp.toNat) tl tW b dL1 (dueI l) hpc hd128 hdl mm4 ew4 hfm4.posix _ F6 N6 ?_
  intro h7 k7 a t v a' t' lx dx y dy q1 q2 q3 te ts tx tP WC o1 o2 o3 o4 o5 o6 olt hWC F7 N7
  obtain ⟨c1, c2, c3, c4⟩ := olt
  have c5 := kst_ltOf c4
  have hfm7 := hfm4.up (y := Str.ofString "lexer") (v := some (.ref lx)) (by decide +kernel) (by decide +kernel) (by decide +kernel) (by decide +kernel) (by decide +kernel)
  have ep7 := up_ne (y := Str.ofString "lexer") (v := some (.ref lx)) (by decide +kernel) ep4
  have ed7 := up_ne (y := Str.ofString "lexer") (v := some (.ref lx)) (by decide +kernel) ed4
  have ex7 := up_eq (f := mm4) (y := Str.ofString "lexer") (v := some (.ref lx))
  generalize (fun z => if z = Str.ofString "lexer" then some (Value.ref lx) else mm4 z) = mm7 at F7 hfm7 ep7 ed7 ex7
  have hB : (SS (dueI l)).length ≤ 100 := hdl
  have hrest : ∀ z ∈ ((L' + 1, oS1) :: (L' + 1 + 1, oL1) :: (L' + 1 + 1 + 1, oK) :: (S, listOf ys.toArray nn) :: own), @LT.lt Nat _ z.1 dx := by
    intro z hz
    rcases List.mem_cons.mp hz with rfl | hz
    · exact c1
    rcases List.mem_cons.mp hz with rfl | hz
    · exact c2
    rcases List.mem_cons.mp hz with rfl | hz
    · exact c3
    exact c5 z hz
  have o7 : Apart ((L' + 1, oS1) :: (L' + 1 + 1, oL1) :: (L' + 1 + 1 + 1, oK) :: (S, listOf ys.toArray nn) :: own) dx dy q3 := apart_mk fun z hz => by have := hrest z hz; omega
  dsimp only
  refine ex_app ?_
  refine st7 w p loose mean mg mb fa cdv g L' E _ hBe hX hT a t v a' t' lx dx y dy q1 q2 q3 _ te WC (SS (dueI l)) (64 + pp.toNat) hB o1 o2 o3 o4 o5 o6 o7 hWC b (dueI l) 0 tP tx _ [] 0 (LS.st (by decide) (by omega) rfl) hda hdl mm7 ex7 _ F7 N7 ?_
  intro h8 k8 T lt nT P8 tp8 tx8 n8 hT1 hT2 htk hls F8 N8
  obtain ⟨⟨w1, w2⟩, w3, w4⟩ := g6 lt htk
  have hok := htk.ok hdl hda
  have hsame := htk.same
  have halt := htk.alt
  have hflat := htk.flat
  have hfm8 := hfm7.up (y := Str.ofString "tokens") (v := some (.ref T)) (by decide +kernel) (by decide +kernel) (by decide +kernel) (by decide +kernel) (by decide +kernel)
  have ep8 := up_ne (y := Str.ofString "tokens") (v := some (.ref T)) (by decide +kernel) ep7
  have ed8 := up_ne (y := Str.ofString "tokens") (v := some (.ref T)) (by decide +kernel) ed7
  have ex8 := up_ne (y := Str.ofString "tokens") (v := some (.ref T)) (by decide +kernel) ex7
  have et8 := up_eq (f := mm7) (y := Str.ofString "tokens") (v := some (.ref T))
  generalize (fun z => if z = Str.ofString "tokens" then some (Value.ref T) else mm7 z) = mm8 at F8 hfm8 ep8 ed8 ex8 et8
  have N8' : News g L' h8 ((L' + 1, oS1) :: (L' + 1 + 1, oL1) :: (L' + 1 + 1 + 1, oK) :: (T, listOf (tkVs lt).toArray nT) :: lexL a t v a' t' lx dx y dy q1 q2 q3 ((S, listOf ys.toArray nn) :: own) b (eoV b te) WC (SS [64 + pp.toNat]) (SS (dueI l)) P8 tp8 .none (.str (Str.ofString "") tx8) [] n8) := by
    refine news_sub (fun z hz => ?_) N8
    simp only [lexT, lexL, List.mem_cons] at hz ⊢
    grind
  have hh8 : Hi L' ((T, listOf (tkVs lt).toArray nT) :: lexL a t v a' t' lx dx y dy q1 q2 q3 ((S, listOf ys.toArray nn) :: own) b (eoV b te) WC (SS [64 + pp.toNat]) (SS (dueI l)) P8 tp8 .none (.str (Str.ofString "") tx8) [] n8) := by
    intro z hz
    simp only [lexL, List.mem_cons] at hz
    rcases hz with rfl | rfl | rfl | rfl | rfl | rfl | rfl | rfl | hz
    all_goals first | exact hh1 z (List.mem_cons.mpr hz) | exact ⟨by show (_ : Nat) ≠ _; omega, by show (_ : Nat) ≠ _; omega, by show (_ : Nat) ≠ _; omega⟩
  dsimp only
  refine ex_app ?_
  refine st8 w p loose mean mg mb fa cdv g L' E _ hBe hX hT _ T nT lt hok (64 + pp.toNat) tl hh8 oS1 oL1 oK dL1 vK hK mm8 et8 _ F8 N8' ?_
  intro h9 k9 K nk oK1 hh9 dK1 F9 N9
  dsimp only
  refine ex_app ?_
  refine st9 w p loose mean mg mb fa cdv g L' E _ hBe hX hT _ K nk T nT lt hok (64 + pp.toNat) tl tD hsame (dueI l) hflat hdl oS1 oL1 oK1 dL1 dK1 mm8 et8 ed8 _ F9 N9 ?_
  intro h10 k10 F10 N10
  dsimp only
  refine ex_app ?_
  refine st10 w p loose mean mg mb fa cdv g L' E _ hBe hX hT _ K nk lt hok.n (64 + pp.toNat) halt oS1 oL1 oK1 dK1 mm8 _ F10 N10 ?_
  intro h11 k11 F11 N11
  have N11' : News g L' h11 (lexL a t v a' t' lx dx y dy q1 q2 q3 ((T, listOf (tkVs lt).toArray nT) :: (L' + 1, oS1) :: (L' + 1 + 1, oL1) :: (L' + 1 + 1 + 1, oK1) :: (S, listOf ys.toArray nn) :: own) b (eoV b te) WC (SS [64 + pp.toNat]) (SS (dueI l)) P8 tp8 .none (.str (Str.ofString "") tx8) [] n8) := by
    refine news_sub (fun z hz => ?_) N11
    simp only [lexL, List.mem_cons] at hz ⊢
    grind
  have o8 : Apart ((T, listOf (tkVs lt).toArray nT) :: (L' + 1, oS1) :: (L' + 1 + 1, oL1) :: (L' + 1 + 1 + 1, oK1) :: (S, listOf ys.toArray nn) :: own) dx dy q3 := apart_mk fun z hz => by
    rcases List.mem_cons.mp hz with rfl | hz
    · exact ⟨by omega, by omega, by omega⟩
    rcases List.mem_cons.mp hz with rfl | hz
    · exact ⟨by omega, by omega, by omega⟩
    rcases List.mem_cons.mp hz with rfl | hz
    · exact ⟨by omega, by omega, by omega⟩
    rcases List.mem_cons.mp hz with rfl | hz
    · exact ⟨by omega, by omega, by omega⟩
    have := c5 z hz
    change @LT.lt Nat _ z.1 dx at this
    omega
  dsimp only
  refine ex_app ?_
  refine st11 w p loose mean mg mb fa cdv g L' E _ hBe hX hT a t v a' t' lx dx y dy q1 q2 q3 _ te WC (SS (dueI l)) (64 + pp.toNat) hB o1 o2 o3 o4 o5 o6 o8 b P8 tp8 tx8 .none [] n8 hls mm8 ex8 hfm8.posix _ F11 N11' ?_
  intro h12 k12 F12 N12
  dsimp only
  refine ex_app ?_
  refine st12 w p loose mean mg mb fa cdv g L' E _ hBe hX hT _ T nT lt hok (64 + pp.toNat) tl oS1 oL1 oK1 dL1 mm8 et8 _ F12 N12 ?_
  intro h13 k13 tC F13 N13
  have hfm13 := hfm8.up (y := Str.ofString "count") (v := some (.int (toldI lt (64 + pp.toNat)) tC)) (by decide +kernel) (by decide +kernel) (by decide +kernel) (by decide +kernel) (by decide +kernel)
  have ep13 := up_ne (y := Str.ofString "count") (v := some (.int (toldI lt (64 + pp.toNat)) tC)) (by decide +kernel) ep8
  have ec13 := up_eq (f := mm8) (y := Str.ofString "count") (v := some (.int (toldI lt (64 + pp.toNat)) tC))
  generalize (fun z => if z = Str.ofString "count" then some (Value.int (toldI lt (64 + pp.toNat)) tC) else mm8 z) = mm13 at F13 hfm13 ep13 ec13
  dsimp only
  refine st13 w p loose mean mg mb fa cdv g L' E _ hBe hX hT _ W pp (toldI lt (64 + pp.toNat)) tw tp tC hp0 hp1 w1 w2 w3 w4 mm13 hfm13.ways ep13 ec13 _ F13 N13 ?_
  intro h14 k14 F14 N14
  refine H h14 k14 mm13 oS1 oL1 oK1 _ _ _ hfm13 dS1 dL1 dK1 F14 (news_sub (fun z hz => ?_) N14)
  simp only [List.mem_cons] at hz ⊢
  rcases hz with rfl | rfl | rfl | hz
  · exact .inr (.inl rfl)
  · exact .inr (.inr (.inl rfl))
  · exact .inr (.inr (.inr (.inl rfl)))
  · exact .inr (.inr (.inr (.inr (.inr hz))))
end
/-! PR -/
noncomputable def prAt (i : Nat) : List Stmt := match laBody.1[i]? with
  | some x => [x]
  | none => []
@[reducible] noncomputable def laP0 : {x : List Stmt // prAt 0 = x} := by
  refine ⟨?_, ?_⟩
  rotate_left
  · conv => lhs; whnf
@[reducible] noncomputable def laP1 : {x : List Stmt // prAt 1 = x} := by
  refine ⟨?_, ?_⟩
  rotate_left
  · conv => lhs; whnf
@[reducible] noncomputable def laP2 : {x : List Stmt // prAt 2 = x} := by
  refine ⟨?_, ?_⟩
  rotate_left
  · conv => lhs; whnf
@[reducible] noncomputable def laP3 : {x : List Stmt // prAt 3 = x} := by
  refine ⟨?_, ?_⟩
  rotate_left
  · conv => lhs; whnf
@[reducible] noncomputable def laP4 : {x : List Stmt // prAt 4 = x} := by
  refine ⟨?_, ?_⟩
  rotate_left
  · conv => lhs; whnf
@[reducible] noncomputable def laP5 : {x : List Stmt // prAt 5 = x} := by
  refine ⟨?_, ?_⟩
  rotate_left
  · conv => lhs; whnf
theorem ints_pick {vs : List Value} {ns : List Int} (hi : IntsAre vs ns) : ∀ idx : List Nat, ∃ ms, IntsAre (idx.filterMap (vs.toArray[·]?)) ms
  | [] => ⟨[], .nil⟩
  | i :: idx => by
    obtain ⟨ms, h⟩ := ints_pick hi idx
    cases e : vs[i]? with
    | none =>
      refine ⟨ms, ?_⟩
      rw [List.filterMap_cons_none (by simpa using e)]
      exact h
    | some v =>
      obtain ⟨k, t, _, rfl⟩ := ints_at2 hi e
      refine ⟨k :: ms, ?_⟩
      rw [List.filterMap_cons_some (b := Value.int k t) (by simpa using e)]
      exact .cons k t h
theorem fm64 (z : Int) : 0 ≤ z.fmod 64 ∧ z.fmod 64 < 64 := ⟨Int.fmod_nonneg_of_pos z (by decide), Int.fmod_lt_of_pos z (by decide)⟩
theorem sum_pick {prog : Program} {w : World} {A : Around} {E : Value → Shared → Prop} {s : Shared} {h₀ : Heap} {L : Addr} {m : Str → Option Value} {news : List (Addr × Obj)} {D : Addr} {vs : List Value} {ns : List Int} {lo up st : Option Int} {Q : Value → Shared → Prop} (hh : A.handled = none) (F : Fr h₀ L s.heap m) (N : News h₀ L s.heap news) (hm : (D, ({ cls := .type "list", data := .seq (slicePick vs.toArray lo up st) } : Obj)) ∈ news) (hi : IntsAre vs ns)
    (h : ∀ h' tk t' z, Fr h₀ L h' m → News h₀ L h' news → Q (.int z t') { s with heap := h', toks := tk }) : wpAny (model prog w) A (call (.builtin "sum") [.ref D]) Q E s := by
  obtain ⟨ms, hp⟩ := ints_pick hi (sliceRange (sliceBounds lo up st vs.toArray.size).1 (sliceBounds lo up st vs.toArray.size).2.1 (sliceBounds lo up st vs.toArray.size).2.2)
  refine sumK (vs := (sliceRange (sliceBounds lo up st vs.toArray.size).1 (sliceBounds lo up st vs.toArray.size).2.1 (sliceBounds lo up st vs.toArray.size).2.2).filterMap (vs.toArray[·]?)) hh F N (News.isList N hm) hp fun h' tk t' F' N' => h h' tk t' _ F' N'
section
theorem ln_PR_1 : True := by
  k_with_none
  k_with "eval Name" => (k_here; k_dflt (refine' nameX_L ?F ?v ?_ ?a ?b; (case F => k_asm); (case a => rfl); (case b => rfl); (case v => first | rfl | assumption); k_whole))
  k_with "eval Name" => (k_here; k_dflt (refine' nameC ?a ?b ?c ?N ?m ?d ?_; (case a => rfl); (case b => rfl); (case c => rfl); (case N => k_asm); (case m => kcf_m); (case d => assumption)))
  k_with "storeName" => (k_here; k_dflt (refine' storeC ?a ?b ?c ?F ?N ?U ?d ?_; (case a => rfl); (case b => rfl); (case c => rfl); (case F => k_asm); (case N => k_asm); (case U => k_updF); (case d => assumption)); intro h8 o8 F8 N8 d8; (try dsimp only at N8))
  k_with "call builtin:sum" => (k_here; (with_reducible show wpAny _ _ (call (Value.builtin "sum") [Value.ref _]) _ _ _); k_dflt (refine' sum_pick ?h ?F ?N ?m ?i ?_; (case h => with_unfolding_all rfl); (case F => k_asm); (case N => k_asm); (case m => first | k_mem | kcf_m); (case i => assumption)); intro h9 tk9 t9 z9 F9 N9)
  k_with "call ref" => ((with_reducible show wpAny _ _ (call (Value.ref 740) [_, _]) _ _ _); k_dflt (refine' ways_call _ _ _ _ _ _ _ _ _ _ ?h1 ?h2 ?h3 ?h4 _ _ _ _ _ _ _ _ _ _ _ _ _ _ _ _ _ _ ?k1 ?k2 ?k3 ?k4 ?k5 ?kK ?kd ?ku ?_; (case k4 => k_asm); (case h1 => assumption); (case h2 => assumption); (case h3 => assumption); (case h4 => assumption); (case k1 => k_asm); (case k2 => k_asm); (case k3 => k_asm); (case k5 => k_asm); (case kK => first | exact rfl | assumption); (case kd => ktr_room); (case ku => ktr_units)); intro h9 tk9 t9 F9 N9)
  trivial

variable (w : World) (p : Program) (loose : List Str) (mean : ExcName → Option Value) (mg mb : Str → Option Value)
variable (fa : Addr) (cdv : Value) (g : Heap) (L' : Addr) (E : Value → Shared → Prop) (Q : Flow → Shared → Prop)
   (hBe : Below callerA g [] g) (hX : (K2 w.params).In g) (hT : Top p loose mean mg mb g)
set_option maxHeartbeats 1000000 in
include hBe hX hT in
theorem pr0 (own : List (Addr × Obj)) (sc : Addr) (vs : List Value) (ns : List Int) (hsc : g.IsList sc vs.toArray) (hns : IntsAre vs ns) (hlen : ns.length ≤ 63) (mm : Str → Option Value) (e1 : mm (Str.ofString "script") = some (.ref sc)) (s : Shared)
    (hF : Fr g L' s.heap mm) (hN : News g L' s.heap own)
    (H : ∀ h' tk' n tn, 0 ≤ n → n < 64 → Fr g L' h' (fun z => if z = Str.ofString "n" then some (.int n tn) else mm z) → News g L' h' own → Q .next { s with heap := h', toks := tk' }) :
    wpAny (model PySem.Challenge.rw_nb0270_01.row.prog w) (callerA.deeper (laE fa cdv L')) (execs laP0.1 (laE fa cdv L')) Q E s := by
  revert hX
  k_fill
  intro hX
  k_steps
  all_goals (refine' H _ _ _ _ ?a ?b ?c ?d; (case c => assumption); (case a => first | decide | exact (fm64 _).1); (case b => first | decide | exact (fm64 _).2); (case d => (rename News _ _ _ _ => N10); exact news_sub (fun p hp => by repeat (first | exact hp | refine List.mem_cons_of_mem _ ?_)) N10))
set_option maxHeartbeats 1000000 in
include hBe hX hT in
theorem pr1 (own : List (Addr × Obj)) (sc : Addr) (vs : List Value) (ns : List Int) (hsc : g.IsList sc vs.toArray) (hns : IntsAre vs ns) (hlen : ns.length ≤ 63) (mm : Str → Option Value) (e1 : mm (Str.ofString "script") = some (.ref sc)) (s : Shared)
    (hF : Fr g L' s.heap mm) (hN : News g L' s.heap own)
    (H : ∀ h' tk' n tn, 0 ≤ n → n < 64 → Fr g L' h' (fun z => if z = Str.ofString "m" then some (.int n tn) else mm z) → News g L' h' own → Q .next { s with heap := h', toks := tk' }) :
    wpAny (model PySem.Challenge.rw_nb0270_01.row.prog w) (callerA.deeper (laE fa cdv L')) (execs laP1.1 (laE fa cdv L')) Q E s := by
  revert hX
  k_fill
  intro hX
  k_steps
  all_goals (refine' H _ _ _ _ ?a ?b ?c ?d; (case c => assumption); (case a => first | decide | exact (fm64 _).1); (case b => first | decide | exact (fm64 _).2); (case d => (rename News _ _ _ _ => N10); exact news_sub (fun p hp => by repeat (first | exact hp | refine List.mem_cons_of_mem _ ?_)) N10))
set_option maxHeartbeats 1000000 in
include hBe hX hT in
theorem pr2 (own : List (Addr × Obj)) (n m : Int) (tn tm : Tok) (hn0 : 0 ≤ n) (hn1 : n < 64) (hm0 : 0 ≤ m) (hm1 : m < 64) (mm : Str → Option Value) (en : mm (Str.ofString "n") = some (.int n tn)) (em : mm (Str.ofString "m") = some (.int m tm)) (s : Shared)
    (hF : Fr g L' s.heap mm) (hN : News g L' s.heap own)
    (H : ∀ h' tk' tw, Fr g L' h' (fun z => if z = Str.ofString "ways" then some (.int (waysF n m) tw) else mm z) → News g L' h' own → Q .next { s with heap := h', toks := tk' }) :
    wpAny (model PySem.Challenge.rw_nb0270_01.row.prog w) (callerA.deeper (laE fa cdv L')) (execs laP2.1 (laE fa cdv L')) Q E s := by
  revert hX
  k_fill
  intro hX
  k_steps
  all_goals exact H _ _ _ (by assumption) (by assumption)
set_option maxHeartbeats 1000000 in
include hBe hX hT in
theorem pr3 (own : List (Addr × Obj)) (sc : Addr) (vs : List Value) (ns : List Int) (hsc : g.IsList sc vs.toArray) (hns : IntsAre vs ns) (hlen : ns.length ≤ 63) (mm : Str → Option Value) (e1 : mm (Str.ofString "script") = some (.ref sc)) (s : Shared)
    (hF : Fr g L' s.heap mm) (hN : News g L' s.heap own)
    (H : ∀ h' tk' b, Fr g L' h' (fun z => if z = Str.ofString "posix" then some (.bool b) else mm z) → News g L' h' own → Q .next { s with heap := h', toks := tk' }) :
    wpAny (model PySem.Challenge.rw_nb0270_01.row.prog w) (callerA.deeper (laE fa cdv L')) (execs laP3.1 (laE fa cdv L')) Q E s := by
  revert hX
  k_fill
  intro hX
  k_steps
  all_goals exact H _ _ _ (by assumption) (by assumption)
end
theorem ln_PR_z : True := by
  k_with_none
  trivial
/-! PF -/
section
theorem ln_PF_1 : True := by
  k_with_none
  k_with "eval Name" => (k_here; k_dflt (refine' nameX_L ?F ?v ?_ ?a ?b; (case F => k_asm); (case a => rfl); (case b => rfl); (case v => first | rfl | assumption); k_whole))
  k_with "eval Name" => (k_here; k_dflt (refine' nameC ?a ?b ?c ?N ?m ?d ?_; (case a => rfl); (case b => rfl); (case c => rfl); (case N => k_asm); (case m => kcf_m); (case d => assumption)))
  k_with "storeName" => (k_here; k_dflt (refine' storeC ?a ?b ?c ?F ?N ?U ?d ?_; (case a => rfl); (case b => rfl); (case c => rfl); (case F => k_asm); (case N => k_asm); (case U => k_updF); (case d => assumption)); intro h8 o8 F8 N8 d8; (try dsimp only at N8))
  k_with "pyIter ref" => (refine my_hold ?_)
  trivial

variable (w : World) (p : Program) (loose : List Str) (mean : ExcName → Option Value) (mg mb : Str → Option Value)
variable (fa : Addr) (cdv : Value) (g : Heap) (L' : Addr) (E : Value → Shared → Prop) (Q : Flow → Shared → Prop)
   (hBe : Below callerA g [] g) (hX : (K2 w.params).In g) (hT : Top p loose mean mg mb g)
variable (sc : Addr) (its : Array Value) (ns : List Int) (hsc : g.IsList sc its) (hns : IntsAre its.toList ns) (hlen : ns.length ≤ 63) (n m W : Int) (tn tm tw : Tok) (b : Bool) (hn0 : 0 ≤ n) (hn1 : n < 64) (hm0 : 0 ≤ m) (hm1 : m < 64)
include hBe hX hT hsc hns hlen hn0 hn1 hm0 hm1 in
theorem law_rest (lp : Addr × Obj) (I : Nat) (own0 : List (Addr × Obj)) (hlp : lp ∈ own0) (i1 : @LT.lt Nat _ (L' + 1) I) (i2 : @LT.lt Nat _ (L' + 1 + 1) I) (i3 : @LT.lt Nat _ (L' + 1 + 1 + 1) I) (hown : ∀ p ∈ own0, @LT.lt Nat _ p.1 I) (hh : Hi L' own0) (s₀ : Shared)
    (Hdone : ∀ h tk mm', Fr g L' h mm' → Q .next { s₀ with heap := h, toks := tk }) :
    ∀ {vs : List Value} {ks : List Int}, IntsAre vs ks → (∀ k ∈ ks, 2 ≤ k ∧ k ≤ 7 ∧ PlainOk n m k W) → ∀ (mm : Str → Option Value) (oS oL oK : Obj) (vS vL vK : Option Value), FM mm sc n m W tn tm tw b → oS.data = .cell vS → oL.data = .cell vL → oK.data = .cell vK →
      ListRest PySem.Challenge.rw_nb0270_01.row.prog w (callerA.deeper (laE fa cdv L')) E g (laE fa cdv L') (Str.ofString "p") laLoop.1 Q s₀ I lp vs mm ((L' + 1, oS) :: (L' + 1 + 1, oL) :: (L' + 1 + 1 + 1, oK) :: own0)
  | _, _, .nil, _, mm, _, _, _, _, _, _, hfm, _, _, _ => ListRest.zero fun h tk F _ => Hdone h tk mm F
  | _, _, .cons k t (ns := ks) r, hk, mm, oS, oL, oK, vS, vL, vK, hfm, dS, dL, dK => by
    refine ListRest.succ ?_
    intro it h tk hc F N
    obtain ⟨k1, k2, k3⟩ := hk k List.mem_cons_self
    have hh' : Hi L' ((I, it) :: own0) := Hi.cons hh (Ne.symm (Nat.ne_of_lt i1)) (Ne.symm (Nat.ne_of_lt i2)) (Ne.symm (Nat.ne_of_lt i3))
    refine turnLaw w p loose mean mg mb fa cdv g L' E _ hBe hX hT sc its ns hsc hns hlen n m W k tn tm tw t b hn0 hn1 hm0 hm1 k1 k2 k3 ((I, it) :: own0) hh' oS oL oK vS vL vK dS dL dK _ (hfm.up (by decide +kernel) (by decide +kernel) (by decide +kernel) (by decide +kernel) (by decide +kernel)) up_eq _ F (cells_first N) ?_
    intro h' tk' mm' oS' oL' oK' vS' vL' vK' hfm' dS' dL' dK' F' N'
    refine UnrEnd.intro F' N' ((L' + 1, oS') :: (L' + 1 + 1, oL') :: (L' + 1 + 1 + 1, oK') :: own0) (fun p hp => ?_) (fun p hp => ?_) ⟨List.mem_cons_of_mem _ (List.mem_cons_of_mem _ (List.mem_cons_of_mem _ hlp)), law_rest lp I own0 hlp i1 i2 i3 hown hh s₀ Hdone r (fun k hk' => hk k (List.mem_cons_of_mem _ hk')) mm' oS' oL' oK' vS' vL' vK' hfm' dS' dL' dK'⟩
    · simp only [List.mem_cons] at hp ⊢
      rcases hp with h | h | h | h | h <;> simp [h]
    · rcases List.mem_cons.mp hp with rfl | hp
      · exact Nat.ne_of_lt i1
      rcases List.mem_cons.mp hp with rfl | hp
      · exact Nat.ne_of_lt i2
      rcases List.mem_cons.mp hp with rfl | hp
      · exact Nat.ne_of_lt i3
      exact Nat.ne_of_lt (hown p hp)
set_option maxHeartbeats 1000000 in
include hBe hX hT hsc hns hlen hn0 hn1 hm0 hm1 in
theorem pr4 (hpl : ∀ k ∈ [(2 : Int), 3, 5, 7], 2 ≤ k ∧ k ≤ 7 ∧ PlainOk n m k W) (oS oL oK : Obj) (vS vL vK : Option Value) (dS : oS.data = .cell vS) (dL : oL.data = .cell vL) (dK : oK.data = .cell vK) (mm : Str → Option Value) (hfm : FM mm sc n m W tn tm tw b) (s : Shared)
    (hE : PassesOwn (model PySem.Challenge.rw_nb0270_01.row.prog w) (callerA.deeper (laE fa cdv L')) (laE fa cdv L') E)
    (hF : Fr g L' s.heap mm) (hN : News g L' s.heap [(L' + 1, oS), (L' + 1 + 1, oL), (L' + 1 + 1 + 1, oK)])
    (H : ∀ h' tk' mm', Fr g L' h' mm' → Q .next { s with heap := h', toks := tk' }) :
    wpAny (model PySem.Challenge.rw_nb0270_01.row.prog w) (callerA.deeper (laE fa cdv L')) (execs laP4.1 (laE fa cdv L')) Q E s := by
  revert hX
  k_fill
  intro hX
  refine wpAny_execs_cons ?_
  refine For_invVF (h₀ := g) hF rfl rfl ?_ (by intro _; rfl) hE
  k_steps
  unfold MyLoop
  (rename News _ _ _ _ => N9)
  (rename Fr _ _ _ _ => F9)
  (rename _ ∧ _ => l9)
  obtain ⟨x1, x2, x3⟩ := l9
  have N9' := cells_first N9
  refine iter_listUnr rfl F9 N9' (List.mem_cons_of_mem _ (List.mem_cons_of_mem _ (List.mem_cons_of_mem _ List.mem_cons_self))) rfl rfl (fun I hI => ?_)
  refine law_rest w p loose mean mg mb fa cdv g L' E _ hBe hX hT sc its ns hsc hns hlen n m W tn tm tw b hn0 hn1 hm0 hm1 _ I _ List.mem_cons_self (hI _ List.mem_cons_self) (hI _ (List.mem_cons_of_mem _ List.mem_cons_self)) (hI _ (List.mem_cons_of_mem _ (List.mem_cons_of_mem _ List.mem_cons_self))) (fun p hp => hI p (List.mem_cons_of_mem _ (List.mem_cons_of_mem _ (List.mem_cons_of_mem _ hp)))) (Hi.cons (fun z hz => nomatch hz) (Ne.symm (Nat.ne_of_lt x1)) (Ne.symm (Nat.ne_of_lt x2)) (Ne.symm (Nat.ne_of_lt x3))) _ (fun h tk mm' F => wpAny_execs_nil (H h tk mm' F)) (.cons 2 _ (.cons 3 _ (.cons 5 _ (.cons 7 _ .nil)))) hpl mm oS oL oK vS vL vK hfm dS dL dK
end
theorem body_eq : laBody.1 = laP0.1 ++ (laP1.1 ++ (laP2.1 ++ (laP3.1 ++ (laP4.1 ++ laP5.1)))) := rfl
section
variable (w : World) (p : Program) (loose : List Str) (mean : ExcName → Option Value) (mg mb : Str → Option Value)
variable (fa : Addr) (cdv : Value) (g : Heap) (L' : Addr) (E : Value → Shared → Prop) (Q : Flow → Shared → Prop)
   (hBe : Below callerA g [] g) (hX : (K2 w.params).In g) (hT : Top p loose mean mg mb g)
set_option maxHeartbeats 1000000 in
theorem pr5 (mm : Str → Option Value) (s : Shared) (hF : Fr g L' s.heap mm) (H : ∀ tk', Q (.ret (.bool true)) { s with toks := tk' }) : wpAny (model PySem.Challenge.rw_nb0270_01.row.prog w) (callerA.deeper (laE fa cdv L')) (execs laP5.1 (laE fa cdv L')) Q E s := by
  k_steps
  all_goals exact H _
set_option maxHeartbeats 1000000 in
include hBe hX hT in
theorem law_body (hpl : ∀ n m : Int, 0 ≤ n → n < 64 → 0 ≤ m → m < 64 → ∀ k ∈ [(2 : Int), 3, 5, 7], 2 ≤ k ∧ k ≤ 7 ∧ PlainOk n m k (waysF n m)) (sc : Addr) (vs : List Value) (ns : List Int) (hsc : g.IsList sc vs.toArray) (hns : IntsAre vs ns) (hlen : ns.length ≤ 63) (oS oL oK : Obj) (vS vL vK : Option Value) (dS : oS.data = .cell vS) (dL : oL.data = .cell vL) (dK : oK.data = .cell vK) (mm : Str → Option Value) (e1 : mm (Str.ofString "script") = some (.ref sc)) (s : Shared)
    (hE : PassesOwn (model PySem.Challenge.rw_nb0270_01.row.prog w) (callerA.deeper (laE fa cdv L')) (laE fa cdv L') E)
    (hF : Fr g L' s.heap mm) (hN : News g L' s.heap [(L' + 1, oS), (L' + 1 + 1, oL), (L' + 1 + 1 + 1, oK)])
    (H : ∀ h' tk' mm', Fr g L' h' mm' → Q (.ret (.bool true)) { s with heap := h', toks := tk' }) :
    wpAny (model PySem.Challenge.rw_nb0270_01.row.prog w) (callerA.deeper (laE fa cdv L')) (execs laBody.1 (laE fa cdv L')) Q E s := by
  rw [body_eq]
  refine ex_app ?_
  refine pr0 w p loose mean mg mb fa cdv g L' E _ hBe hX hT _ sc vs ns hsc hns hlen mm e1 s hF hN ?_
  intro h1 k1 n tn hn0 hn1 F1 N1
  have es1 := up_ne (y := Str.ofString "n") (v := some (.int n tn)) (by decide +kernel) e1
  have en1 := up_eq (f := mm) (y := Str.ofString "n") (v := some (.int n tn))
  generalize (fun z => if z = Str.ofString "n" then some (Value.int n tn) else mm z) = mm1 at F1 es1 en1
  dsimp only
  refine ex_app ?_
  refine pr1 w p loose mean mg mb fa cdv g L' E _ hBe hX hT _ sc vs ns hsc hns hlen mm1 es1 _ F1 N1 ?_
  intro h2 k2 m tm hm0 hm1 F2 N2
  have es2 := up_ne (y := Str.ofString "m") (v := some (.int m tm)) (by decide +kernel) es1
  have en2 := up_ne (y := Str.ofString "m") (v := some (.int m tm)) (by decide +kernel) en1
  have em2 := up_eq (f := mm1) (y := Str.ofString "m") (v := some (.int m tm))
  generalize (fun z => if z = Str.ofString "m" then some (Value.int m tm) else mm1 z) = mm2 at F2 es2 en2 em2
  dsimp only
  refine ex_app ?_
  refine pr2 w p loose mean mg mb fa cdv g L' E _ hBe hX hT _ n m tn tm hn0 hn1 hm0 hm1 mm2 en2 em2 _ F2 N2 ?_
  intro h3 k3 tw F3 N3
  have es3 := up_ne (y := Str.ofString "ways") (v := some (.int (waysF n m) tw)) (by decide +kernel) es2
  have en3 := up_ne (y := Str.ofString "ways") (v := some (.int (waysF n m) tw)) (by decide +kernel) en2
  have em3 := up_ne (y := Str.ofString "ways") (v := some (.int (waysF n m) tw)) (by decide +kernel) em2
  have ew3 := up_eq (f := mm2) (y := Str.ofString "ways") (v := some (.int (waysF n m) tw))
  generalize (fun z => if z = Str.ofString "ways" then some (Value.int (waysF n m) tw) else mm2 z) = mm3 at F3 es3 en3 em3 ew3
  dsimp only
  refine ex_app ?_
  refine pr3 w p loose mean mg mb fa cdv g L' E _ hBe hX hT _ sc vs ns hsc hns hlen mm3 es3 _ F3 N3 ?_
  intro h4 k4 b F4 N4
  have hfm : FM (fun z => if z = Str.ofString "posix" then some (Value.bool b) else mm3 z) sc n m (waysF n m) tn tm tw b := ⟨up_ne (by decide +kernel) es3, up_ne (by decide +kernel) en3, up_ne (by decide +kernel) em3, up_ne (by decide +kernel) ew3, up_eq⟩
  generalize (fun z => if z = Str.ofString "posix" then some (Value.bool b) else mm3 z) = mm4 at F4 hfm
  dsimp only
  refine ex_app ?_
  refine pr4 w p loose mean mg mb fa cdv g L' E _ hBe hX hT sc vs.toArray ns hsc hns hlen n m (waysF n m) tn tm tw b hn0 hn1 hm0 hm1 (hpl n m hn0 hn1 hm0 hm1) oS oL oK vS vL vK dS dL dK mm4 hfm _ hE F4 N4 ?_
  intro h5 k5 mm5 F5
  dsimp only
  exact pr5 w fa cdv g L' E Q mm5 _ F5 fun tk' => H _ _ mm5 F5
end
theorem ln_PF_z : True := by
  k_with_none
  trivial
/-! PQ -/
/-! the plain law: the carries of n + m to the base p, and the number of ways -/
noncomputable def cntD (p : Nat) : List Nat → Nat → Nat
  | [], _ => 0
  | s :: r, c => (s + c) / p + cntD p r ((s + c) / p)
noncomputable def dN (n m p : Nat) : List Nat := [n % p + m % p, n / p % p + m / p % p, n / p ^ 2 % p + m / p ^ 2 % p, n / p ^ 3 % p + m / p ^ 3 % p, n / p ^ 4 % p + m / p ^ 4 % p, n / p ^ 5 % p + m / p ^ 5 % p]
noncomputable def okC (W p c : Nat) : Bool := Nat.beq (W % p ^ c) 0 && !Nat.beq (W / p ^ c % p) 0
noncomputable def okN (n m W p : Nat) : Bool := okC W p (cntD p (dN n m p) 0)
noncomputable def chkM (m : Nat) : Nat → Nat → Nat → Bool
  | 0, _, _ => true
  | f + 1, n, W => okN n m W 2 && okN n m W 3 && okN n m W 5 && okN n m W 7 && chkM m f (n + 1) (W * (m + (n + 1)) / (n + 1))
noncomputable def wN (m : Nat) : Nat → Nat
  | 0 => 1
  | k + 1 => wN m k * (m + (k + 1)) / (k + 1)
theorem chk_ok {m : Nat} : ∀ (f n : Nat), chkM m f n (wN m n) = true → ∀ j, j < f → ∀ p ∈ [2, 3, 5, 7], okN (n + j) m (wN m (n + j)) p = true
  | 0, _, _, j, hj, _, _ => absurd hj (Nat.not_lt_zero j)
  | f + 1, n, h, j, hj, p, hp => by
    unfold chkM at h
    simp only [Bool.and_eq_true] at h
    obtain ⟨⟨⟨⟨h2, h3⟩, h5⟩, h7⟩, hr⟩ := h
    cases j with
    | zero =>
      simp only [List.mem_cons, List.not_mem_nil, or_false] at hp
      rcases hp with rfl | rfl | rfl | rfl
      · exact h2
      · exact h3
      · exact h5
      · exact h7
    | succ j =>
      have := chk_ok f (n + 1) hr j (by omega) p hp
      rw [show n + (j + 1) = n + 1 + j by omega]
      exact this
theorem ca0 : (List.range' 0 8).all (fun m => chkM m 64 0 1) = true := by decide +kernel
theorem ca1 : (List.range' 8 8).all (fun m => chkM m 64 0 1) = true := by decide +kernel
theorem ca2 : (List.range' 16 8).all (fun m => chkM m 64 0 1) = true := by decide +kernel
theorem ca3 : (List.range' 24 8).all (fun m => chkM m 64 0 1) = true := by decide +kernel
theorem ca4 : (List.range' 32 8).all (fun m => chkM m 64 0 1) = true := by decide +kernel
theorem ca5 : (List.range' 40 8).all (fun m => chkM m 64 0 1) = true := by decide +kernel
theorem ca6 : (List.range' 48 8).all (fun m => chkM m 64 0 1) = true := by decide +kernel
theorem ca7 : (List.range' 56 8).all (fun m => chkM m 64 0 1) = true := by decide +kernel
theorem ok_all {n m : Nat} (hn : n < 64) (hm : m < 64) : ∀ p ∈ [2, 3, 5, 7], okN n m (wN m n) p = true := by
  have key : chkM m 64 0 1 = true := by
    rcases Nat.lt_or_ge m 8 with h | h
    · exact List.all_eq_true.mp ca0 m (List.mem_range'_1.mpr ⟨by omega, by omega⟩)
    rcases Nat.lt_or_ge m 16 with h | h
    · exact List.all_eq_true.mp ca1 m (List.mem_range'_1.mpr ⟨by omega, by omega⟩)
    rcases Nat.lt_or_ge m 24 with h | h
    · exact List.all_eq_true.mp ca2 m (List.mem_range'_1.mpr ⟨by omega, by omega⟩)
    rcases Nat.lt_or_ge m 32 with h | h
    · exact List.all_eq_true.mp ca3 m (List.mem_range'_1.mpr ⟨by omega, by omega⟩)
    rcases Nat.lt_or_ge m 40 with h | h
    · exact List.all_eq_true.mp ca4 m (List.mem_range'_1.mpr ⟨by omega, by omega⟩)
    rcases Nat.lt_or_ge m 48 with h | h
    · exact List.all_eq_true.mp ca5 m (List.mem_range'_1.mpr ⟨by omega, by omega⟩)
    rcases Nat.lt_or_ge m 56 with h | h
    · exact List.all_eq_true.mp ca6 m (List.mem_range'_1.mpr ⟨by omega, by omega⟩)
    · exact List.all_eq_true.mp ca7 m (List.mem_range'_1.mpr ⟨by omega, by omega⟩)
  intro p hp
  have := chk_ok (m := m) 64 0 key n hn p hp
  rwa [Nat.zero_add] at this
/-! from the whole numbers to the natural ones -/
theorem fdiv_nat (a b : Nat) : Int.fdiv (a : Int) (b : Int) = ((a / b : Nat) : Int) := by
  rw [Int.fdiv_eq_ediv_of_nonneg _ (Int.natCast_nonneg b)]
  rfl
theorem fmod_nat (a b : Nat) : Int.fmod (a : Int) (b : Int) = ((a % b : Nat) : Int) := by
  rw [Int.fmod_eq_emod_of_nonneg _ (Int.natCast_nonneg b)]
  rfl
theorem ways_nat (n m : Nat) : waysF (n : Int) (m : Int) = (wN m n : Int) := by
  have key : ∀ k : Nat, (List.foldl (fun (σ : Int × Unit) k => ((σ.fst * ((m : Int) + k)).fdiv k, ())) (1, ()) (rangeInts 1 1 k)) = ((wN m k : Int), ()) := by
    intro k
    induction k with
    | zero => rfl
    | succ k ih =>
      have e : rangeInts 1 1 (k + 1) = rangeInts 1 1 k ++ [((k + 1 : Nat) : Int)] := by
        unfold rangeInts
        rw [List.range_succ, List.map_append]
        simp
        omega
      rw [e, List.foldl_append, ih]
      show ((((wN m k : Nat) : Int) * ((m : Int) + ((k + 1 : Nat) : Int))).fdiv ((k + 1 : Nat) : Int), ()) = _
      rw [← Int.natCast_add, ← Int.natCast_mul, fdiv_nat]
      rfl
  show (List.foldl (fun (σ : Int × Unit) k => ((σ.fst * ((m : Int) + k)).fdiv k, ())) (1, ()) (rangeInts 1 1 ((n : Int) + 1 - 1).toNat)).fst = _
  rw [show ((n : Int) + 1 - 1).toNat = n by omega, key n]
abbrev toI (l : List Nat) : List Int := l.map fun (x : Nat) => (x : Int)
theorem digs_nat (n m p : Nat) : digsI (n : Int) (m : Int) (p : Int) = toI (dN n m p) := by
  have e : rangeKs 0 ((6 : Int) - 0).toNat = [0, 1, 2, 3, 4, 5] := by decide
  have f : ∀ k : Nat, ((n : Int).fdiv ((p : Int) ^ k)).fmod (p : Int) + ((m : Int).fdiv ((p : Int) ^ k)).fmod (p : Int) = ((n / p ^ k % p + m / p ^ k % p : Nat) : Int) := by
    intro k
    rw [← Int.natCast_pow, fdiv_nat, fdiv_nat, fmod_nat, fmod_nat, ← Int.natCast_add]
  unfold digsI
  rw [e]
  simp only [List.map_cons, List.map_nil]
  rw [show ((0 : Int).toNat) = 0 from rfl, show ((1 : Int).toNat) = 1 from rfl, show ((2 : Int).toNat) = 2 from rfl, show ((3 : Int).toNat) = 3 from rfl, show ((4 : Int).toNat) = 4 from rfl, show ((5 : Int).toNat) = 5 from rfl]
  rw [f 0, f 1, f 2, f 3, f 4, f 5]
  simp only [Nat.pow_zero, Nat.div_one, Nat.pow_one]
  rfl
noncomputable def trimN (l : List Nat) : List Nat := (l.reverse.dropWhile (· == 0)).reverse
theorem trim_nat (l : List Nat) : trimI (toI l) = toI (trimN l) := by
  unfold trimI trimN toI
  rw [← List.map_reverse, List.dropWhile_map, List.map_reverse]
  congr 3
  funext x
  show ((x : Int) == 0) = (x == 0)
  rw [Bool.eq_iff_iff, beq_iff_eq, beq_iff_eq]
  omega
theorem trim_split (l : List Nat) : ∃ z, l = trimN l ++ z ∧ ∀ x ∈ z, x = 0 := by
  refine ⟨(l.reverse.takeWhile (· == 0)).reverse, ?_, fun x hx => ?_⟩
  · unfold trimN
    rw [← List.reverse_append, List.takeWhile_append_dropWhile, List.reverse_reverse]
  · have := take_mem (List.mem_reverse.mp hx)
    simpa using this
theorem trim_last {l : List Nat} : trimN l = [] ∨ (trimN l).getLastD 0 ≠ 0 := by
  unfold trimN
  cases h : l.reverse.dropWhile (· == 0) with
  | nil => exact .inl rfl
  | cons d r =>
    right
    have := drop_head h
    rw [List.reverse_cons, List.getLastD_concat]
    simpa using this
theorem due_nat (l : List Nat) : dueI (toI l) = l.reverse.map (65 + ·) := by
  unfold dueI toI
  rw [← List.map_reverse, List.map_map]
  rfl
/-! the number, and the word written of it -/
noncomputable def ev : List Nat → Nat
  | [] => 0
  | x :: r => x + 16 * ev r
theorem sum_mul16 {f : Nat → Int} : ∀ L : List Nat, (L.map fun i => 16 * f i).sum = 16 * (L.map f).sum
  | [] => rfl
  | a :: L => by
    rw [List.map_cons, List.map_cons, List.sum_cons, List.sum_cons, sum_mul16 L, Int.mul_add]
theorem num_sum (l : List Int) : numI l = ((List.range l.length).map fun i => l.getD i 0 * 16 ^ i).sum := by
  unfold numI rangeKs
  rw [List.map_map, show ((l.length : Int) - 0).toNat = l.length by omega]
  congr 1
  refine List.map_congr_left fun i _ => ?_
  show l.getD (0 + (i : Int)).toNat 0 * 16 ^ (0 + (i : Int)).toNat = _
  rw [show (0 + (i : Int)).toNat = i by omega]
theorem num_nat : ∀ l : List Nat, numI (toI l) = (ev l : Int)
  | [] => rfl
  | x :: r => by
    have ih := num_nat r
    rw [num_sum] at ih ⊢
    show ((List.range (toI r).length.succ).map _).sum = _
    rw [List.range_succ_eq_map, List.map_cons, List.sum_cons, List.map_map]
    have e : ((List.range (toI r).length).map ((fun i => (toI (x :: r)).getD i 0 * 16 ^ i) ∘ Nat.succ)) = (List.range (toI r).length).map fun i => 16 * ((toI r).getD i 0 * 16 ^ i) := by
      refine List.map_congr_left fun i _ => ?_
      show (toI r).getD i 0 * 16 ^ (i + 1) = 16 * ((toI r).getD i 0 * 16 ^ i)
      rw [Int.pow_succ]
      rw [Int.mul_comm (16 ^ i) 16, ← Int.mul_assoc, ← Int.mul_assoc, Int.mul_comm _ 16]
    rw [e, sum_mul16, ih]
    show (x : Int) * 16 ^ 0 + 16 * (ev r : Int) = ((x + 16 * ev r : Nat) : Int)
    simp
theorem ev_lt : ∀ {l : List Nat}, (∀ x ∈ l, x ≤ 12) → ev l < 16 ^ l.length
  | [], _ => by decide
  | x :: r, h => by
    have ih := ev_lt (l := r) fun y hy => h y (List.mem_cons_of_mem _ hy)
    have hx := h x List.mem_cons_self
    show x + 16 * ev r < 16 ^ (r.length + 1)
    rw [Nat.pow_succ]
    omega
theorem ev_pos : ∀ {l : List Nat}, l.getLastD 0 ≠ 0 → 0 < ev l
  | [], h => absurd rfl h
  | [x], h => by
    have : x ≠ 0 := h
    show 0 < x + 16 * 0
    omega
  | x :: y :: r, h => by
    have ih := ev_pos (l := y :: r) h
    show 0 < x + 16 * ev (y :: r)
    omega
theorem ap_word : ∀ {l : List Nat} (f : Nat) (V : Array UInt8), (∀ x ∈ l, x ≤ 12) → l.length ≤ f → (l = [] ∨ l.getLastD 0 ≠ 0) → apW f (ev l) V = (l.reverse.map fun x => UInt8.ofNat (65 + x)).toArray ++ V
  | [], f, V, _, _, _ => by
    cases f with
    | zero => show V = #[] ++ V; simp
    | succ f => show V = #[] ++ V; simp
  | x :: r, 0, V, _, hf, _ => by simp at hf
  | x :: r, f + 1, V, hb, hf, ht => by
    have hx := hb x List.mem_cons_self
    have hp : 0 < ev (x :: r) := ev_pos (by rcases ht with h | h; cases h; exact h)
    have h1 : ev (x :: r) / 16 = ev r := by show (x + 16 * ev r) / 16 = ev r; omega
    have h2 : ev (x :: r) % 16 = x := by show (x + 16 * ev r) % 16 = x; omega
    have ht' : r = [] ∨ r.getLastD 0 ≠ 0 := by
      rcases ht with h | h
      · cases h
      · cases r with
        | nil => exact .inl rfl
        | cons y r => exact .inr h
    show (if ev (x :: r) = 0 then V else apW f (ev (x :: r) / 16) (#[65 + UInt8.ofNat (ev (x :: r) % 16)] ++ V)) = _
    rw [if_neg (by omega), h1, h2, ap_word f _ (fun y hy => hb y (List.mem_cons_of_mem _ hy)) (by simpa using hf) ht']
    rw [List.reverse_cons, List.map_append, ← Array.append_assoc]
    congr 1
    rw [List.map_cons, List.map_nil, show (65 + UInt8.ofNat x) = UInt8.ofNat (65 + x) from (UInt8.ofNat_add 65 x).symm]
    simp
/-! what is told by the tokens -/
noncomputable def nextN (pc k : Nat) : List TK → Nat
  | [] => 0
  | y :: _ => if pc < y.1 then k else 0
noncomputable def toldN (pc : Nat) : List TK → Nat
  | [] => 0
  | x :: r => (if (x.1 != pc) = true then ((x.1 :: x.2.1).filter (fun c => decide (pc < c))).length else nextN pc (x.1 :: x.2.1).length r) + toldN pc r
theorem foldl_sum {f : Int → Int} : ∀ (L : List Int) (a : Int), L.foldl (fun a k => a + f k) a = a + (L.map f).sum
  | [], a => by simp
  | k :: L, a => by
    rw [List.foldl_cons, foldl_sum L, List.map_cons, List.sum_cons]
    omega
theorem told_sum (l : List TK) (pc : Nat) : toldI l pc = ((List.range l.length).map fun i => toldTurn l pc ((i : Nat) : Int)).sum := by
  unfold toldI
  rw [foldl_sum, Int.zero_add]
  unfold rangeKs
  rw [List.map_map, show ((l.length : Int) - 0).toNat = l.length by omega]
  congr 1
  refine List.map_congr_left fun i _ => ?_
  show toldTurn l pc (0 + (i : Int)) = _
  rw [Int.zero_add]
theorem tkAt_succ (x : TK) (r : List TK) (i : Nat) : tkAt (x :: r) ((i + 1 : Nat) : Int) = tkAt r (i : Int) := by
  unfold tkAt
  rw [show (((i + 1 : Nat) : Int)).toNat = i + 1 by omega, show ((i : Int)).toNat = i by omega]
  rfl
theorem tkAt_zero (x : TK) (r : List TK) : tkAt (x :: r) 0 = x := rfl
theorem turn_succ (x : TK) (r : List TK) (pc i : Nat) : toldTurn (x :: r) pc ((i + 1 : Nat) : Int) = toldTurn r pc (i : Int) := by
  unfold toldTurn
  rw [tkAt_succ, show ((i + 1 : Nat) : Int) + 1 = ((i + 1 + 1 : Nat) : Int) by omega, tkAt_succ, show ((i : Nat) : Int) + 1 = ((i + 1 : Nat) : Int) by omega]
  have e : (((i + 1 + 1 : Nat) : Int) < (((x :: r).length : Nat) : Int)) ↔ (((i + 1 : Nat) : Int) < ((r.length : Nat) : Int)) := by
    rw [List.length_cons]
    exact ⟨fun h => by omega, fun h => by omega⟩
  simp only [e]
theorem turn_zero (x : TK) (r : List TK) (pc : Nat) : toldTurn (x :: r) pc 0 = (((if (x.1 != pc) = true then ((x.1 :: x.2.1).filter (fun c => decide (pc < c))).length else nextN pc (x.1 :: x.2.1).length r) : Nat) : Int) := by
  by_cases h : (x.1 != pc) = true
  · rw [if_pos h]
    exact toldTurn_a (l := x :: r) (k := 0) h
  · rw [if_neg h]
    have h' : ((tkAt (x :: r) 0).1 != pc) = false := by
      show (x.1 != pc) = false
      simpa using h
    cases r with
    | nil => exact toldTurn_c h' (fun h2 => by simp at h2)
    | cons y r =>
      by_cases h3 : pc < y.1
      · rw [toldTurn_b (l := x :: y :: r) (k := 0) h' ⟨by simp; omega, h3⟩]
        show _ = (((if pc < y.1 then (x.1 :: x.2.1).length else 0) : Nat) : Int)
        rw [if_pos h3]
        rfl
      · rw [toldTurn_c (l := x :: y :: r) (k := 0) h' (fun h2 => h3 h2.2)]
        show _ = (((if pc < y.1 then (x.1 :: x.2.1).length else 0) : Nat) : Int)
        rw [if_neg h3]
        rfl
theorem told_nat (pc : Nat) : ∀ l : List TK, toldI l pc = (toldN pc l : Int)
  | [] => rfl
  | x :: r => by
    have ih := told_nat pc r
    rw [told_sum] at ih ⊢
    rw [List.length_cons, List.range_succ_eq_map, List.map_cons, List.sum_cons, List.map_map]
    have e : ((List.range r.length).map ((fun i => toldTurn (x :: r) pc ((i : Nat) : Int)) ∘ Nat.succ)) = (List.range r.length).map fun i => toldTurn r pc ((i : Nat) : Int) :=
      List.map_congr_left fun i _ => turn_succ x r pc i
    rw [e, ih]
    show toldTurn (x :: r) pc 0 + _ = _
    rw [turn_zero, ← Int.natCast_add]
    rfl
/-- a sign's carry, and the carries -/
noncomputable def kf (pc : Nat) (b : Bool) : List Nat → Bool
  | [] => b
  | d :: r => decide (pc < d) || (d == pc && kf pc b r)
noncomputable def kc (pc : Nat) (b : Bool) : List Nat → Nat
  | [] => 0
  | d :: r => (kf pc b (d :: r)).toNat + kc pc b r
theorem kc_ne {pc : Nat} {b : Bool} {rest : List Nat} : ∀ u : List Nat, (∀ d ∈ u, d ≠ pc) → kc pc b (u ++ rest) = (u.filter (fun c => decide (pc < c))).length + kc pc b rest
  | [], _ => by simp
  | d :: u, h => by
    have ih := kc_ne (rest := rest) (b := b) u fun e he => h e (List.mem_cons_of_mem _ he)
    have hd : (d == pc) = false := by simpa using h d List.mem_cons_self
    show (decide (pc < d) || (d == pc && kf pc b (u ++ rest))).toNat + kc pc b (u ++ rest) = _
    rw [hd, ih, Bool.false_and, Bool.or_false]
    by_cases hp : pc < d
    · rw [List.filter_cons_of_pos (by simpa using hp)]
      simp [hp]
      omega
    · rw [List.filter_cons_of_neg (by simpa using hp)]
      simp [hp]
theorem kf_eq {pc : Nat} {b : Bool} {rest : List Nat} : ∀ u : List Nat, (∀ d ∈ u, d = pc) → kf pc b (u ++ rest) = kf pc b rest
  | [], _ => rfl
  | d :: u, h => by
    have ih := kf_eq (rest := rest) (b := b) u fun e he => h e (List.mem_cons_of_mem _ he)
    have hd := h d List.mem_cons_self
    subst hd
    show (decide (d < d) || (d == d && kf d b (u ++ rest))) = _
    rw [ih]
    simp
theorem kc_eq {pc : Nat} {b : Bool} {rest : List Nat} : ∀ u : List Nat, (∀ d ∈ u, d = pc) → kc pc b (u ++ rest) = u.length * (kf pc b rest).toNat + kc pc b rest
  | [], _ => by simp
  | d :: u, h => by
    have h' : ∀ e ∈ u, e = pc := fun e he => h e (List.mem_cons_of_mem _ he)
    have ih := kc_eq (rest := rest) (b := b) u h'
    show (kf pc b ((d :: u) ++ rest)).toNat + kc pc b (u ++ rest) = _
    rw [kf_eq (d :: u) h, ih, List.length_cons, Nat.succ_mul]
    omega
theorem told_carry {pc : Nat} {w : List Nat} {l : List TK} (h : Toks pc w l) : toldN pc l = kc pc false w := by
  induction h with
  | nil => rfl
  | cons h ih =>
    rename_i c r t l
    have es : c :: r = (c :: tokU pc c r) ++ restU pc c r := by
      show c :: r = c :: (r.takeWhile (same pc c) ++ r.dropWhile (same pc c))
      rw [List.takeWhile_append_dropWhile]
    have hm : ∀ d ∈ c :: tokU pc c r, (d = pc ↔ c = pc) := by
      intro d hd
      rcases List.mem_cons.mp hd with rfl | hd
      · exact Iff.rfl
      · exact same_iff.mp (take_mem hd)
    rw [es]
    show (if (c != pc) = true then ((c :: tokU pc c r).filter (fun c => decide (pc < c))).length else nextN pc (c :: tokU pc c r).length l) + toldN pc l = _
    rw [ih]
    by_cases hc : c = pc
    · rw [if_neg (by simpa using hc), kc_eq _ fun d hd => (hm d hd).mpr hc]
      congr 1
      generalize hg : restU pc c r = r2 at h
      cases h with
      | nil => simp [kf, nextN]
      | cons h =>
        rename_i e r3 t3 l3
        have hd := drop_head hg
        have he : ¬ e = pc := fun q => by
          have : same pc c e = true := same_iff.mpr ⟨fun _ => hc, fun _ => q⟩
          rw [this] at hd
          cases hd
        have hk : kf pc false (e :: r3) = decide (pc < e) := by
          show (decide (pc < e) || (e == pc && kf pc false r3)) = _
          rw [show (e == pc) = false by simpa using he, Bool.false_and, Bool.or_false]
        rw [hk]
        by_cases hp : pc < e
        · simp [hp, nextN]
        · simp [hp, nextN]
    · rw [if_pos (by simpa using hc), kc_ne _ fun d hd q => hc ((hm d hd).mp q)]
theorem kf_snoc {pc : Nat} {b : Bool} {d : Nat} : ∀ w : List Nat, kf pc b (w ++ [d]) = kf pc (kf pc b [d]) w
  | [] => rfl
  | e :: w => by
    show (decide (pc < e) || (e == pc && kf pc b (w ++ [d]))) = (decide (pc < e) || (e == pc && kf pc (kf pc b [d]) w))
    rw [kf_snoc w]
theorem kc_snoc {pc : Nat} {b : Bool} {d : Nat} : ∀ w : List Nat, kc pc b (w ++ [d]) = (kf pc b [d]).toNat + kc pc (kf pc b [d]) w
  | [] => rfl
  | e :: w => by
    show (kf pc b ((e :: w) ++ [d])).toNat + kc pc b (w ++ [d]) = (kf pc b [d]).toNat + ((kf pc (kf pc b [d]) (e :: w)).toNat + kc pc (kf pc b [d]) w)
    rw [kf_snoc (e :: w), kc_snoc w]
    omega
theorem carry_nat {p : Nat} (hp : 2 ≤ p) : ∀ (l : List Nat) (b : Bool), (∀ s ∈ l, s ≤ 2 * p - 2) → kc (64 + p) b (l.reverse.map (65 + ·)) = cntD p l b.toNat
  | [], b, _ => rfl
  | s :: r, b, h => by
    have hs := h s List.mem_cons_self
    have hb : b.toNat ≤ 1 := Bool.toNat_le b
    have e1 : (s + b.toNat) / p = (kf (64 + p) b [65 + s]).toNat := by
      show _ = (decide (64 + p < 65 + s) || ((65 + s == 64 + p) && b)).toNat
      by_cases h1 : 64 + p < 65 + s
      · rw [decide_eq_true h1, Bool.true_or]
        exact Nat.div_eq_of_lt_le (by simp; omega) (by simp; omega)
      · rw [decide_eq_false h1, Bool.false_or]
        by_cases h2 : 65 + s = 64 + p
        · rw [show (65 + s == 64 + p) = true by simpa using h2, Bool.true_and]
          cases b
          · exact Nat.div_eq_of_lt (by simp; omega)
          · exact Nat.div_eq_of_lt_le (by simp; omega) (by simp; omega)
        · rw [show (65 + s == 64 + p) = false by simpa using h2, Bool.false_and]
          exact Nat.div_eq_of_lt (by omega)
    rw [List.reverse_cons, List.map_append, List.map_cons, List.map_nil, kc_snoc, carry_nat hp r _ fun x hx => h x (List.mem_cons_of_mem _ hx)]
    show _ = (s + b.toNat) / p + cntD p r ((s + b.toNat) / p)
    rw [e1]
theorem cnt_zero {p : Nat} (hp : 2 ≤ p) : ∀ (z : List Nat) (c : Nat), c ≤ 1 → (∀ x ∈ z, x = 0) → cntD p z c = 0
  | [], _, _, _ => rfl
  | x :: z, c, hc, h => by
    have hx := h x List.mem_cons_self
    subst hx
    show (0 + c) / p + cntD p z ((0 + c) / p) = 0
    rw [Nat.div_eq_of_lt (by omega), cnt_zero hp z 0 (by omega) fun y hy => h y (List.mem_cons_of_mem _ hy)]
theorem cnt_app {p : Nat} (hp : 2 ≤ p) {z : List Nat} (hz : ∀ x ∈ z, x = 0) : ∀ (l : List Nat) (c : Nat), c ≤ 1 → (∀ s ∈ l, s ≤ 2 * p - 2) → cntD p (l ++ z) c = cntD p l c
  | [], c, hc, _ => cnt_zero hp z c hc hz
  | s :: l, c, hc, h => by
    have hs := h s List.mem_cons_self
    have h1 : (s + c) / p ≤ 1 := by
      rw [Nat.div_le_iff_le_mul_add_pred (by omega)]
      omega
    show (s + c) / p + cntD p (l ++ z) ((s + c) / p) = (s + c) / p + cntD p l ((s + c) / p)
    rw [cnt_app hp hz l _ h1 fun x hx => h x (List.mem_cons_of_mem _ hx)]
theorem cnt_le {p : Nat} (hp : 2 ≤ p) : ∀ (l : List Nat) (c : Nat), c ≤ 1 → (∀ s ∈ l, s ≤ 2 * p - 2) → cntD p l c ≤ l.length
  | [], _, _, _ => Nat.le_refl 0
  | s :: l, c, hc, h => by
    have hs := h s List.mem_cons_self
    have h1 : (s + c) / p ≤ 1 := by
      rw [Nat.div_le_iff_le_mul_add_pred (by omega)]
      omega
    have ih := cnt_le hp l _ h1 fun x hx => h x (List.mem_cons_of_mem _ hx)
    show (s + c) / p + cntD p l ((s + c) / p) ≤ l.length + 1
    omega
theorem plain_ok {n m p : Nat} (hp : p ∈ [2, 3, 5, 7]) (hn : n < 64) (hm : m < 64) : PlainOk (n : Int) (m : Int) (p : Int) (waysF (n : Int) (m : Int)) := by
  have hok := ok_all hn hm p hp
  have hp2 : 2 ≤ p ∧ p ≤ 7 := by
    simp only [List.mem_cons, List.not_mem_nil, or_false] at hp
    omega
  have hb : ∀ s ∈ dN n m p, s ≤ 2 * p - 2 := by
    intro s hs
    have q : ∀ a b : Nat, a % p + b % p ≤ 2 * p - 2 := fun a b => by
      have h1 := Nat.mod_lt a (y := p) (by omega)
      have h2 := Nat.mod_lt b (y := p) (by omega)
      omega
    simp only [dN, List.mem_cons, List.not_mem_nil, or_false] at hs
    rcases hs with rfl | rfl | rfl | rfl | rfl | rfl <;> exact q _ _
  obtain ⟨z, hz, hz0⟩ := trim_split (dN n m p)
  have hbt : ∀ s ∈ trimN (dN n m p), s ≤ 2 * p - 2 := fun s hs => hb s (by rw [hz]; exact List.mem_append_left _ hs)
  have hb12 : ∀ s ∈ trimN (dN n m p), s ≤ 12 := fun s hs => by have := hbt s hs; omega
  have hlen : (trimN (dN n m p)).length ≤ 6 := by
    have e : (dN n m p).length = 6 := rfl
    have := congrArg List.length hz
    rw [List.length_append, e] at this
    omega
  have hcnt : cntD p (dN n m p) 0 = cntD p (trimN (dN n m p)) 0 := by
    have := cnt_app hp2.1 hz0 (trimN (dN n m p)) 0 (by omega) hbt
    rw [← hz] at this
    exact this
  have hlast := trim_last (l := dN n m p)
  have hcl := cnt_le hp2.1 (trimN (dN n m p)) 0 (by omega) hbt
  have hev := ev_lt hb12
  have e1 : trimI (digsI (n : Int) (m : Int) (p : Int)) = toI (trimN (dN n m p)) := by rw [digs_nat, trim_nat]
  unfold okN at hok
  rw [hcnt] at hok
  generalize trimN (dN n m p) = t at *
  refine ⟨?_, ?_, ?_, ?_, ?_, ?_⟩
  · rw [e1]
    simpa using hlen
  · rw [e1]
    intro x hx
    obtain ⟨y, hy, rfl⟩ := List.mem_map.mp hx
    have := hb12 y hy
    omega
  · rw [e1, num_nat]
    omega
  · rw [e1, num_nat]
    have h1 : ev t < 16 ^ 8 := Nat.lt_of_lt_of_le hev (Nat.pow_le_pow_right (by decide) (by omega))
    have h2 : ((16 : Int) ^ 8) = ((16 ^ 8 : Nat) : Int) := by decide
    rw [h2]
    omega
  · rw [e1, num_nat, due_nat, Int.natAbs_natCast, ap_word 8 #[] hb12 (by omega) hlast, Array.append_empty]
    unfold asB
    rw [List.map_map]
    rfl
  · rw [e1, due_nat]
    intro l hl
    have hc : toldI l (64 + (p : Int).toNat) = ((cntD p t 0 : Nat) : Int) := by
      rw [told_nat, told_carry hl, Int.toNat_natCast, carry_nat hp2.1 t false hbt]
      rfl
    rw [hc, ways_nat, Int.toNat_natCast]
    unfold okC at hok
    rw [Bool.and_eq_true, Bool.not_eq_true'] at hok
    obtain ⟨k1, k2⟩ := hok
    have k1' : wN m n % p ^ cntD p t 0 = 0 := Nat.eq_of_beq_eq_true k1
    have k2' : wN m n / p ^ cntD p t 0 % p ≠ 0 := Nat.ne_of_beq_eq_false k2
    refine ⟨⟨by omega, by omega⟩, ?_, ?_⟩
    · rw [← Int.natCast_pow, fmod_nat, k1']
      rfl
    · rw [← Int.natCast_pow, fdiv_nat, fmod_nat]
      omega
theorem hpl : ∀ n m : Int, 0 ≤ n → n < 64 → 0 ≤ m → m < 64 → ∀ k ∈ [(2 : Int), 3, 5, 7], 2 ≤ k ∧ k ≤ 7 ∧ PlainOk n m k (waysF n m) := by
  intro n m hn0 hn1 hm0 hm1 k hk
  obtain ⟨n, rfl⟩ := Int.eq_ofNat_of_zero_le hn0
  obtain ⟨m, rfl⟩ := Int.eq_ofNat_of_zero_le hm0
  have hn : n < 64 := by omega
  have hm : m < 64 := by omega
  simp only [List.mem_cons, List.not_mem_nil, or_false] at hk
  rcases hk with rfl | rfl | rfl | rfl
  · exact ⟨by decide, by decide, plain_ok (p := 2) (by decide) hn hm⟩
  · exact ⟨by decide, by decide, plain_ok (p := 3) (by decide) hn hm⟩
  · exact ⟨by decide, by decide, plain_ok (p := 5) (by decide) hn hm⟩
  · exact ⟨by decide, by decide, plain_ok (p := 7) (by decide) hn hm⟩
/-! FN -/

theorem rev3 {g h : Heap} {L a b c : Addr} {o1 o2 o3 : Obj} (N : News g L h [(c, o3), (b, o2), (a, o1)]) : News g L h [(a, o1), (b, o2), (c, o3)] :=
  news_sub (fun p hp => by simp only [List.mem_cons, List.not_mem_nil, or_false] at hp ⊢; rcases hp with h | h | h <;> simp [h]) N
section
local macro_rules | `(tactic| k_qdec) => `(tactic| decide +kernel)
set_option maxHeartbeats 4000000 in
theorem fin1 : PySem.Challenge.rw_nb0270_01.Holds := hd (by
  k_go0
  refine' law_body _ _ _ _ _ _ _ _ _ _ _ _ ?zb ?zx ?zt hpl _ _ _ ?zsc ?zns ?zlen _ _ _ _ _ _ ?zd1 ?zd2 ?zd3 _ ?ze1 _ ?zhE ?zF ?zN ?zH
  case zF => assumption
  case zN => exact rev3 (by assumption)
  case zb => assumption
  case zx => assumption
  case zt => assumption
  case zsc => assumption
  case zns => assumption
  case zlen => omega
  case zd1 => assumption
  case zd2 => assumption
  case zd3 => assumption
  case ze1 => first | rfl | with_unfolding_all rfl | kernel_rfl
  case zhE => first | passes_own | with_unfolding_all passes_own
  case zH =>
    intro h9 tk9 mm9 F9
    k_steps
)
end
end
end Mine
set_option maxRecDepth 100000 in
theorem PySem.Challenge.cw_nb0270_01_holds : PySem.Challenge.rw_nb0270_01.Holds :=
  Mine.fin1
