import PyProof.Rows.All
import Wide.All
import OpenK.AllK
import Wide.FinOn
import Lean
import PySem.Challenge.RW_tc0087_01
set_option Elab.async false
set_option compiler.extract_closed false
section
open PySem PySem.W PyProof.Rows
set_option Elab.async false
namespace Mine
def evens : List Obj → List Obj
  | [] => []
  | [x] => [x]
  | x :: _ :: r => x :: evens r
def odds : List Obj → List Obj
  | [] => []
  | [_] => []
  | _ :: y :: r => y :: odds r
theorem evens_get : ∀ (l : List Obj) (i : Nat), (evens l)[i]? = l[2 * i]?
  | [], i => by simp [evens]
  | [x], i => by
    cases i with
    | zero => simp [evens]
    | succ i => simp [evens]
  | x :: y :: r, i => by
    cases i with
    | zero => simp [evens]
    | succ i =>
      have := evens_get r i
      simp only [evens, List.getElem?_cons_succ, this]
      rw [show 2 * (i + 1) = 2 * i + 1 + 1 from rfl]
      simp
theorem odds_get : ∀ (l : List Obj) (i : Nat), (odds l)[i]? = l[2 * i + 1]?
  | [], i => by simp [odds]
  | [x], i => by simp [odds]
  | x :: y :: r, i => by
    cases i with
    | zero => simp [odds]
    | succ i =>
      have := odds_get r i
      simp only [odds, List.getElem?_cons_succ, this]
      rw [show 2 * (i + 1) = 2 * i + 1 + 1 from rfl]
      simp
theorem evens_len : ∀ l : List Obj, (evens l).length ≤ l.length
  | [] => by simp [evens]
  | [x] => by simp [evens]
  | x :: y :: r => Nat.succ_le_succ (Nat.le_succ_of_le (evens_len r))
theorem odds_len : ∀ l : List Obj, (odds l).length ≤ l.length
  | [] => by simp [odds]
  | [x] => by simp [odds]
  | x :: y :: r => Nat.succ_le_succ (Nat.le_succ_of_le (odds_len r))
def mkT : Nat → List Obj → BT
  | 0, _ => .nil
  | n + 1, l => match l with
    | [] => .nil
    | x :: r => .node x (mkT n (evens r)) (mkT n (odds r))
theorem mkT_get : ∀ (n : Nat) (l : List Obj) (i : Nat), l.length ≤ n → (mkT n l).get i = l[i]?
  | 0, l, i, h => by
    have : l = [] := List.length_eq_zero_iff.mp (Nat.le_zero.mp h)
    subst this; rfl
  | n + 1, [], i, _ => rfl
  | n + 1, x :: r, i, h => by
    show (BT.node x (mkT n (evens r)) (mkT n (odds r))).get i = _
    have h' : r.length ≤ n := Nat.le_of_succ_le_succ h
    rw [BT.get_node, mkT_get n (evens r) _ (Nat.le_trans (evens_len r) h'), mkT_get n (odds r) _ (Nat.le_trans (odds_len r) h'), evens_get, odds_get]
    by_cases h0 : i = 0
    · subst h0; simp
    · rw [if_neg h0]
      by_cases h1 : i % 2 = 1
      · rw [if_pos h1]
        have : i = 2 * (i / 2) + 1 := (Nat.div_add_mod i 2).symm.trans (congrArg (2 * (i / 2) + ·) h1)
        conv => rhs; rw [this]
        simp
      · rw [if_neg h1]
        have h2 : i % 2 = 0 := (Nat.mod_two_eq_zero_or_one i).resolve_right h1
        have : i = 2 * (i / 2 - 1) + 1 + 1 := by
          obtain ⟨j, rfl⟩ := Nat.dvd_of_mod_eq_zero h2
          cases j with
          | zero => exact absurd rfl h0
          | succ j => rw [Nat.mul_div_cancel_left _ (by decide)]; rfl
        conv => rhs; rw [this]
        simp
def treeOf (s : Shared) : SharedT := ⟨mkT s.heap.objs.size s.heap.objs.toList, s.heap.objs.size, s.heap.life, s.gens, s.drawn, s.toks, s.os⟩
theorem treeOf_abs (s : Shared) : (treeOf s).abs = s := by
  obtain ⟨⟨objs, life⟩, gens, drawn, toks, os⟩ := s
  show (⟨absHeap _ _ _, gens, drawn, toks, os⟩ : Shared) = _
  congr 1
  show Heap.mk _ _ = Heap.mk _ _
  congr 1
  apply Array.ext_getElem?
  intro i
  have := absHeap_at (mkT objs.size objs.toList) objs.size life i
  unfold absHeap at this
  dsimp only at this
  show ((mkT objs.size objs.toList).list objs.size).toArray[i]? = _
  rw [this, mkT_get _ _ _ (by simp)]
  by_cases h : i < objs.size
  · rw [if_pos h]; simp [h]
  · rw [if_neg h]; simp; exact Nat.le_of_not_lt h

def runT (tb : String → Option Builtin) (p : Program) (w : World) (n₀ : Nat) (ann : Option Value) : Nat → SharedT → Thread → Option SharedT
  | 0, _, _ => none
  | n + 1, s, t => match through t with
    | true => some s
    | false => match stepOk n₀ ann t with
      | false => none
      | true => match stepT (denote tb) p w s t with
        | some (s', t') => runT tb p w n₀ ann n s' t'
        | none => none
theorem runT_spec {tb : String → Option Builtin} {p : Program} {w : World} {n₀ : Nat} {ann : Option Value} : ∀ {n : Nat} {s s' : SharedT} {t : Thread}, runT tb p w n₀ ann n s t = some s' → topRun tb p w n₀ ann n s.abs t = some s'.abs
  | 0, _, _, _, h => by cases h
  | n + 1, s, s', t, h => by
    unfold runT at h
    unfold topRun
    cases ht : through t with
    | true => rw [ht] at h; cases h; rfl
    | false =>
      rw [ht] at h
      cases hk : stepOk n₀ ann t with
      | false => rw [hk] at h; cases h
      | true =>
        rw [hk] at h
        cases hs : stepT (denote tb) p w s t with
        | none => rw [hs] at h; cases h
        | some r => obtain ⟨s₂, t₂⟩ := r; rw [hs] at h; rw [stepT_spec hs]; exact runT_spec h
def impT (tb : String → Option Builtin) (p : Program) (w : World) : Nat → SharedT → Thread → Option SharedT
  | 0, _, _ => none
  | n + 1, s, t => match t.atExitBegin with
    | some [] => some s
    | some (_ :: _) => none
    | none => match stepT (denote tb) p w s t with
      | some (s', t') => impT tb p w n s' t'
      | none => none
theorem impT_spec {tb : String → Option Builtin} {p : Program} {w : World} : ∀ {n : Nat} {s s' : SharedT} {t : Thread}, impT tb p w n s t = some s' → importEnds tb p w n s.abs t = some s'.abs
  | 0, _, _, _, h => by cases h
  | n + 1, s, s', t, h => by
    unfold impT at h
    unfold importEnds
    cases ht : t.atExitBegin with
    | some l =>
      rw [ht] at h
      cases l with
      | nil => cases h; rfl
      | cons => cases h
    | none =>
      rw [ht] at h
      cases hs : stepT (denote tb) p w s t with
      | none => rw [hs] at h; cases h
      | some r => obtain ⟨s₂, t₂⟩ := r; rw [hs] at h; rw [stepT_spec hs]; exact impT_spec h

def topT (p : Program) (w : World) (N : Nat) (s₀ : Shared) : Option SharedT :=
  match s₀.heap.isNs mainGlobals && s₀.gens.size == 0 with
  | true => runT treeTable p w s₀.heap.objs.size (s₀.heap.nsMap mainGlobals "__annotations__") N (treeOf s₀) (topStub p)
  | false => none
def opensT (p : Program) (w : World) (N : Nat) : Option SharedT := impT treeTable (opening p) w N (treeOf (start (opening p)).1) (start (opening p)).2
def afterT {α : Type} (p : Program) (s₀ : Shared) (f : Shared → α) (s₁ : Shared) : Option α :=
  match staticsOk (importedModules p.main.body) s₀.heap s₁.heap && namesBound p s₁.heap && gensDone s₁ && laidKept s₀.heap s₁.heap with
  | true => some (f s₁)
  | false => none
def wholeT {α : Type} (p : Program) (w : World) (N : Nat) (f : Shared → α) : Option α :=
  (opensT p w N).bind fun s => (fenceModules? p s.abs).bind fun s₀ => (topT p w N s₀).bind fun s₁ => afterT p s₀ f s₁.abs
theorem whole_of {α : Type} {p : Program} {w : World} {N : Nat} {f : Shared → α} {x : α} (h : wholeT p w N f = some x) : (openEnds treeTable p w N).map f = some x := by
  unfold wholeT at h
  obtain ⟨s, hs, h⟩ := Option.bind_eq_some_iff.mp h
  obtain ⟨s₀, h0, h⟩ := Option.bind_eq_some_iff.mp h
  obtain ⟨s₁, h1, h⟩ := Option.bind_eq_some_iff.mp h
  have e1 := impT_spec hs
  rw [treeOf_abs] at e1
  unfold topT at h1
  unfold afterT at h
  unfold openEnds fencedOpening
  rw [e1]
  show ((fenceModules? p s.abs).bind (topFrom treeTable p w N)).map f = some x
  rw [h0]
  show (topFrom treeTable p w N s₀).map f = some x
  unfold topFrom
  cases hg : (s₀.heap.isNs mainGlobals && s₀.gens.size == 0) with
  | false => rw [hg] at h1; cases h1
  | true =>
    rw [hg] at h1
    have e2 := runT_spec h1
    rw [treeOf_abs] at e2
    dsimp only
    rw [e2]
    show (match staticsOk (importedModules p.main.body) s₀.heap s₁.abs.heap && namesBound p s₁.abs.heap && gensDone s₁.abs && laidKept s₀.heap s₁.abs.heap with | true => some s₁.abs | false => none).map f = some x
    cases hl : (staticsOk (importedModules p.main.body) s₀.heap s₁.abs.heap && namesBound p s₁.abs.heap && gensDone s₁.abs && laidKept s₀.heap s₁.abs.heap) with
    | false => rw [hl] at h; cases h
    | true => rw [hl] at h; exact h
end Mine
end

section
open PySem PySem.W PyProof.Rows
set_option Elab.async false
namespace Mine
open PySem.W.Fast
noncomputable def runQ (p : Program) (w : World) (n₀ : Nat) (ann : Option Value) : Nat → SharedT → Thread → Option SharedT
  | 0, _, _ => none
  | n + 1, s, t => match through t with
    | true => some s
    | false => match tw6613529449190102663 n₀ ann t with
      | false => none
      | true => match tw10156331382660048174 (tw11892475500146522536 tw14364793385576792824) p w s t with
        | some (s', t') => runQ p w n₀ ann n s' t'
        | none => none
theorem runQ_eq {p : Program} {w : World} {n₀ : Nat} {ann : Option Value} : ∀ {n : Nat} {s : SharedT} {t : Thread}, runT treeTable p w n₀ ann n s t = runQ p w n₀ ann n s t
  | 0, _, _ => rfl
  | n + 1, s, t => by
    unfold runT runQ
    rw [← te6613529449190102663, ← te10156331382660048174, ← te11892475500146522536, ← te14364793385576792824]
    cases through t <;> dsimp only
    cases stepOk n₀ ann t <;> dsimp only
    cases stepT (denote treeTable) p w s t <;> dsimp only
    exact runQ_eq
noncomputable def impQ (p : Program) (w : World) : Nat → SharedT → Thread → Option SharedT
  | 0, _, _ => none
  | n + 1, s, t => match tw3805553451399329143 t with
    | some [] => some s
    | some (_ :: _) => none
    | none => match tw10156331382660048174 (tw11892475500146522536 tw14364793385576792824) p w s t with
      | some (s', t') => impQ p w n s' t'
      | none => none
theorem impQ_eq {p : Program} {w : World} : ∀ {n : Nat} {s : SharedT} {t : Thread}, impT treeTable p w n s t = impQ p w n s t
  | 0, _, _ => rfl
  | n + 1, s, t => by
    unfold impT impQ
    rw [← te3805553451399329143, ← te10156331382660048174, ← te11892475500146522536, ← te14364793385576792824]
    cases t.atExitBegin with
    | some l => cases l <;> rfl
    | none =>
      dsimp only
      cases stepT (denote treeTable) p w s t <;> dsimp only
      exact impQ_eq
noncomputable def topQ (p : Program) (w : World) (N : Nat) (s₀ : Shared) : Option SharedT :=
  match s₀.heap.isNs mainGlobals && s₀.gens.size == 0 with
  | true => runQ p w s₀.heap.objs.size (tw8920871248978507458 s₀.heap mainGlobals "__annotations__") N (treeOf s₀) (topStub p)
  | false => none
noncomputable def opensQ (p : Program) (w : World) (N : Nat) : Option SharedT := impQ (opening p) w N (treeOf (tw1435165496053646825 (opening p)).1) (tw1435165496053646825 (opening p)).2
noncomputable def wholeQ {α : Type} (p : Program) (w : World) (N : Nat) (f : Shared → α) : Option α :=
  (opensQ p w N).bind fun s => (tw14289696077712309145 p s.abs).bind fun s₀ => (topQ p w N s₀).bind fun s₁ => afterT p s₀ f s₁.abs
theorem wholeQ_eq {α : Type} {p : Program} {w : World} {N : Nat} {f : Shared → α} : wholeT p w N f = wholeQ p w N f := by
  unfold wholeT wholeQ opensT opensQ topT topQ
  rw [← te1435165496053646825, ← te14289696077712309145, ← te8920871248978507458]
  simp only [runQ_eq, impQ_eq]
  all_goals rfl
theorem wholeQ_of {α : Type} {p : Program} {w : World} {N : Nat} {f : Shared → α} {x : α} (h : wholeQ p w N f = some x) : (openEnds treeTable p w N).map f = some x := whole_of (wholeQ_eq.trans h)
end Mine
end

section
open PySem PySem.W PyProof.Rows
set_option Elab.async false
set_option maxRecDepth 100000
set_option maxHeartbeats 8000000
namespace Mine
def nth : List Stmt → Nat → Stmt
  | [], _ => .Pass default
  | s :: _, 0 => s
  | _ :: r, n + 1 => nth r n
def fArgs : Stmt → Arguments
  | .FunctionDef _ a _ _ _ _ _ _ _ _ => a
  | _ => default
def fBody : Stmt → List Stmt
  | .FunctionDef _ _ b _ _ _ _ _ _ _ => b
  | _ => []
def fScope : Stmt → Scope
  | .FunctionDef _ _ _ _ _ _ s _ _ _ => s
  | _ => default
def cBody : Stmt → List Stmt
  | .ClassDef _ _ _ b _ _ _ _ _ _ _ => b
  | _ => []
@[reducible] noncomputable def a1x : { x : Arguments // x = fArgs (nth PySem.Challenge.pw_tc0087_01.main.body 1) } := ⟨_, by conv => rhs; whnf; (try dsimp only)⟩
@[reducible] noncomputable def a1 : Arguments := a1x.1
@[reducible] noncomputable def b1x : { x : List Stmt // x = fBody (nth PySem.Challenge.pw_tc0087_01.main.body 1) } := ⟨_, by conv => rhs; whnf⟩
@[reducible] noncomputable def b1 : List Stmt := b1x.1
@[reducible] noncomputable def s1x : { x : Scope // x = fScope (nth PySem.Challenge.pw_tc0087_01.main.body 1) } := ⟨_, by conv => rhs; whnf; (try dsimp only)⟩
@[reducible] noncomputable def s1 : Scope := s1x.1
@[reducible] noncomputable def a3m1x : { x : Arguments // x = fArgs (nth (cBody (nth PySem.Challenge.pw_tc0087_01.main.body 3)) 1) } := ⟨_, by conv => rhs; whnf; (try dsimp only)⟩
@[reducible] noncomputable def a3m1 : Arguments := a3m1x.1
@[reducible] noncomputable def b3m1x : { x : List Stmt // x = fBody (nth (cBody (nth PySem.Challenge.pw_tc0087_01.main.body 3)) 1) } := ⟨_, by conv => rhs; whnf⟩
@[reducible] noncomputable def b3m1 : List Stmt := b3m1x.1
@[reducible] noncomputable def s3m1x : { x : Scope // x = fScope (nth (cBody (nth PySem.Challenge.pw_tc0087_01.main.body 3)) 1) } := ⟨_, by conv => rhs; whnf; (try dsimp only)⟩
@[reducible] noncomputable def s3m1 : Scope := s3m1x.1
@[reducible] noncomputable def a3m2x : { x : Arguments // x = fArgs (nth (cBody (nth PySem.Challenge.pw_tc0087_01.main.body 3)) 2) } := ⟨_, by conv => rhs; whnf; (try dsimp only)⟩
@[reducible] noncomputable def a3m2 : Arguments := a3m2x.1
@[reducible] noncomputable def b3m2x : { x : List Stmt // x = fBody (nth (cBody (nth PySem.Challenge.pw_tc0087_01.main.body 3)) 2) } := ⟨_, by conv => rhs; whnf⟩
@[reducible] noncomputable def b3m2 : List Stmt := b3m2x.1
@[reducible] noncomputable def s3m2x : { x : Scope // x = fScope (nth (cBody (nth PySem.Challenge.pw_tc0087_01.main.body 3)) 2) } := ⟨_, by conv => rhs; whnf; (try dsimp only)⟩
@[reducible] noncomputable def s3m2 : Scope := s3m2x.1
@[reducible] noncomputable def a3m3x : { x : Arguments // x = fArgs (nth (cBody (nth PySem.Challenge.pw_tc0087_01.main.body 3)) 3) } := ⟨_, by conv => rhs; whnf; (try dsimp only)⟩
@[reducible] noncomputable def a3m3 : Arguments := a3m3x.1
@[reducible] noncomputable def b3m3x : { x : List Stmt // x = fBody (nth (cBody (nth PySem.Challenge.pw_tc0087_01.main.body 3)) 3) } := ⟨_, by conv => rhs; whnf⟩
@[reducible] noncomputable def b3m3 : List Stmt := b3m3x.1
@[reducible] noncomputable def s3m3x : { x : Scope // x = fScope (nth (cBody (nth PySem.Challenge.pw_tc0087_01.main.body 3)) 3) } := ⟨_, by conv => rhs; whnf; (try dsimp only)⟩
@[reducible] noncomputable def s3m3 : Scope := s3m3x.1
@[reducible] noncomputable def a3m4x : { x : Arguments // x = fArgs (nth (cBody (nth PySem.Challenge.pw_tc0087_01.main.body 3)) 4) } := ⟨_, by conv => rhs; whnf; (try dsimp only)⟩
@[reducible] noncomputable def a3m4 : Arguments := a3m4x.1
@[reducible] noncomputable def b3m4x : { x : List Stmt // x = fBody (nth (cBody (nth PySem.Challenge.pw_tc0087_01.main.body 3)) 4) } := ⟨_, by conv => rhs; whnf⟩
@[reducible] noncomputable def b3m4 : List Stmt := b3m4x.1
@[reducible] noncomputable def s3m4x : { x : Scope // x = fScope (nth (cBody (nth PySem.Challenge.pw_tc0087_01.main.body 3)) 4) } := ⟨_, by conv => rhs; whnf; (try dsimp only)⟩
@[reducible] noncomputable def s3m4 : Scope := s3m4x.1
@[reducible] noncomputable def a3m5x : { x : Arguments // x = fArgs (nth (cBody (nth PySem.Challenge.pw_tc0087_01.main.body 3)) 5) } := ⟨_, by conv => rhs; whnf; (try dsimp only)⟩
@[reducible] noncomputable def a3m5 : Arguments := a3m5x.1
@[reducible] noncomputable def b3m5x : { x : List Stmt // x = fBody (nth (cBody (nth PySem.Challenge.pw_tc0087_01.main.body 3)) 5) } := ⟨_, by conv => rhs; whnf⟩
@[reducible] noncomputable def b3m5 : List Stmt := b3m5x.1
@[reducible] noncomputable def s3m5x : { x : Scope // x = fScope (nth (cBody (nth PySem.Challenge.pw_tc0087_01.main.body 3)) 5) } := ⟨_, by conv => rhs; whnf; (try dsimp only)⟩
@[reducible] noncomputable def s3m5 : Scope := s3m5x.1
@[reducible] noncomputable def a3m6x : { x : Arguments // x = fArgs (nth (cBody (nth PySem.Challenge.pw_tc0087_01.main.body 3)) 6) } := ⟨_, by conv => rhs; whnf; (try dsimp only)⟩
@[reducible] noncomputable def a3m6 : Arguments := a3m6x.1
@[reducible] noncomputable def b3m6x : { x : List Stmt // x = fBody (nth (cBody (nth PySem.Challenge.pw_tc0087_01.main.body 3)) 6) } := ⟨_, by conv => rhs; whnf⟩
@[reducible] noncomputable def b3m6 : List Stmt := b3m6x.1
@[reducible] noncomputable def s3m6x : { x : Scope // x = fScope (nth (cBody (nth PySem.Challenge.pw_tc0087_01.main.body 3)) 6) } := ⟨_, by conv => rhs; whnf; (try dsimp only)⟩
@[reducible] noncomputable def s3m6 : Scope := s3m6x.1
@[reducible] noncomputable def a3m7x : { x : Arguments // x = fArgs (nth (cBody (nth PySem.Challenge.pw_tc0087_01.main.body 3)) 7) } := ⟨_, by conv => rhs; whnf; (try dsimp only)⟩
@[reducible] noncomputable def a3m7 : Arguments := a3m7x.1
@[reducible] noncomputable def b3m7x : { x : List Stmt // x = fBody (nth (cBody (nth PySem.Challenge.pw_tc0087_01.main.body 3)) 7) } := ⟨_, by conv => rhs; whnf⟩
@[reducible] noncomputable def b3m7 : List Stmt := b3m7x.1
@[reducible] noncomputable def s3m7x : { x : Scope // x = fScope (nth (cBody (nth PySem.Challenge.pw_tc0087_01.main.body 3)) 7) } := ⟨_, by conv => rhs; whnf; (try dsimp only)⟩
@[reducible] noncomputable def s3m7 : Scope := s3m7x.1
@[reducible] noncomputable def a5x : { x : Arguments // x = fArgs (nth PySem.Challenge.pw_tc0087_01.main.body 5) } := ⟨_, by conv => rhs; whnf; (try dsimp only)⟩
@[reducible] noncomputable def a5 : Arguments := a5x.1
@[reducible] noncomputable def b5x : { x : List Stmt // x = fBody (nth PySem.Challenge.pw_tc0087_01.main.body 5) } := ⟨_, by conv => rhs; whnf⟩
@[reducible] noncomputable def b5 : List Stmt := b5x.1
@[reducible] noncomputable def s5x : { x : Scope // x = fScope (nth PySem.Challenge.pw_tc0087_01.main.body 5) } := ⟨_, by conv => rhs; whnf; (try dsimp only)⟩
@[reducible] noncomputable def s5 : Scope := s5x.1
@[reducible] noncomputable def a6x : { x : Arguments // x = fArgs (nth PySem.Challenge.pw_tc0087_01.main.body 6) } := ⟨_, by conv => rhs; whnf; (try dsimp only)⟩
@[reducible] noncomputable def a6 : Arguments := a6x.1
@[reducible] noncomputable def b6x : { x : List Stmt // x = fBody (nth PySem.Challenge.pw_tc0087_01.main.body 6) } := ⟨_, by conv => rhs; whnf⟩
@[reducible] noncomputable def b6 : List Stmt := b6x.1
@[reducible] noncomputable def s6x : { x : Scope // x = fScope (nth PySem.Challenge.pw_tc0087_01.main.body 6) } := ⟨_, by conv => rhs; whnf; (try dsimp only)⟩
@[reducible] noncomputable def s6 : Scope := s6x.1
@[reducible] noncomputable def a7x : { x : Arguments // x = fArgs (nth PySem.Challenge.pw_tc0087_01.main.body 7) } := ⟨_, by conv => rhs; whnf; (try dsimp only)⟩
@[reducible] noncomputable def a7 : Arguments := a7x.1
@[reducible] noncomputable def b7x : { x : List Stmt // x = fBody (nth PySem.Challenge.pw_tc0087_01.main.body 7) } := ⟨_, by conv => rhs; whnf⟩
@[reducible] noncomputable def b7 : List Stmt := b7x.1
@[reducible] noncomputable def s7x : { x : Scope // x = fScope (nth PySem.Challenge.pw_tc0087_01.main.body 7) } := ⟨_, by conv => rhs; whnf; (try dsimp only)⟩
@[reducible] noncomputable def s7 : Scope := s7x.1
@[reducible] noncomputable def a8x : { x : Arguments // x = fArgs (nth PySem.Challenge.pw_tc0087_01.main.body 8) } := ⟨_, by conv => rhs; whnf; (try dsimp only)⟩
@[reducible] noncomputable def a8 : Arguments := a8x.1
@[reducible] noncomputable def b8x : { x : List Stmt // x = fBody (nth PySem.Challenge.pw_tc0087_01.main.body 8) } := ⟨_, by conv => rhs; whnf⟩
@[reducible] noncomputable def b8 : List Stmt := b8x.1
@[reducible] noncomputable def s8x : { x : Scope // x = fScope (nth PySem.Challenge.pw_tc0087_01.main.body 8) } := ⟨_, by conv => rhs; whnf; (try dsimp only)⟩
@[reducible] noncomputable def s8 : Scope := s8x.1
@[reducible] noncomputable def a9x : { x : Arguments // x = fArgs (nth PySem.Challenge.pw_tc0087_01.main.body 9) } := ⟨_, by conv => rhs; whnf; (try dsimp only)⟩
@[reducible] noncomputable def a9 : Arguments := a9x.1
@[reducible] noncomputable def b9x : { x : List Stmt // x = fBody (nth PySem.Challenge.pw_tc0087_01.main.body 9) } := ⟨_, by conv => rhs; whnf⟩
@[reducible] noncomputable def b9 : List Stmt := b9x.1
@[reducible] noncomputable def s9x : { x : Scope // x = fScope (nth PySem.Challenge.pw_tc0087_01.main.body 9) } := ⟨_, by conv => rhs; whnf; (try dsimp only)⟩
@[reducible] noncomputable def s9 : Scope := s9x.1
@[reducible] noncomputable def a10x : { x : Arguments // x = fArgs (nth PySem.Challenge.pw_tc0087_01.main.body 10) } := ⟨_, by conv => rhs; whnf; (try dsimp only)⟩
@[reducible] noncomputable def a10 : Arguments := a10x.1
@[reducible] noncomputable def b10x : { x : List Stmt // x = fBody (nth PySem.Challenge.pw_tc0087_01.main.body 10) } := ⟨_, by conv => rhs; whnf⟩
@[reducible] noncomputable def b10 : List Stmt := b10x.1
@[reducible] noncomputable def s10x : { x : Scope // x = fScope (nth PySem.Challenge.pw_tc0087_01.main.body 10) } := ⟨_, by conv => rhs; whnf; (try dsimp only)⟩
@[reducible] noncomputable def s10 : Scope := s10x.1
@[reducible] noncomputable def a11x : { x : Arguments // x = fArgs (nth PySem.Challenge.pw_tc0087_01.main.body 11) } := ⟨_, by conv => rhs; whnf; (try dsimp only)⟩
@[reducible] noncomputable def a11 : Arguments := a11x.1
@[reducible] noncomputable def b11x : { x : List Stmt // x = fBody (nth PySem.Challenge.pw_tc0087_01.main.body 11) } := ⟨_, by conv => rhs; whnf⟩
@[reducible] noncomputable def b11 : List Stmt := b11x.1
@[reducible] noncomputable def s11x : { x : Scope // x = fScope (nth PySem.Challenge.pw_tc0087_01.main.body 11) } := ⟨_, by conv => rhs; whnf; (try dsimp only)⟩
@[reducible] noncomputable def s11 : Scope := s11x.1
@[reducible] noncomputable def a12x : { x : Arguments // x = fArgs (nth PySem.Challenge.pw_tc0087_01.main.body 12) } := ⟨_, by conv => rhs; whnf; (try dsimp only)⟩
@[reducible] noncomputable def a12 : Arguments := a12x.1
@[reducible] noncomputable def b12x : { x : List Stmt // x = fBody (nth PySem.Challenge.pw_tc0087_01.main.body 12) } := ⟨_, by conv => rhs; whnf⟩
@[reducible] noncomputable def b12 : List Stmt := b12x.1
@[reducible] noncomputable def s12x : { x : Scope // x = fScope (nth PySem.Challenge.pw_tc0087_01.main.body 12) } := ⟨_, by conv => rhs; whnf; (try dsimp only)⟩
@[reducible] noncomputable def s12 : Scope := s12x.1
@[reducible] noncomputable def a13x : { x : Arguments // x = fArgs (nth PySem.Challenge.pw_tc0087_01.main.body 13) } := ⟨_, by conv => rhs; whnf; (try dsimp only)⟩
@[reducible] noncomputable def a13 : Arguments := a13x.1
@[reducible] noncomputable def b13x : { x : List Stmt // x = fBody (nth PySem.Challenge.pw_tc0087_01.main.body 13) } := ⟨_, by conv => rhs; whnf⟩
@[reducible] noncomputable def b13 : List Stmt := b13x.1
@[reducible] noncomputable def s13x : { x : Scope // x = fScope (nth PySem.Challenge.pw_tc0087_01.main.body 13) } := ⟨_, by conv => rhs; whnf; (try dsimp only)⟩
@[reducible] noncomputable def s13 : Scope := s13x.1
@[reducible] noncomputable def a14x : { x : Arguments // x = fArgs (nth PySem.Challenge.pw_tc0087_01.main.body 14) } := ⟨_, by conv => rhs; whnf; (try dsimp only)⟩
@[reducible] noncomputable def a14 : Arguments := a14x.1
@[reducible] noncomputable def b14x : { x : List Stmt // x = fBody (nth PySem.Challenge.pw_tc0087_01.main.body 14) } := ⟨_, by conv => rhs; whnf⟩
@[reducible] noncomputable def b14 : List Stmt := b14x.1
@[reducible] noncomputable def s14x : { x : Scope // x = fScope (nth PySem.Challenge.pw_tc0087_01.main.body 14) } := ⟨_, by conv => rhs; whnf; (try dsimp only)⟩
@[reducible] noncomputable def s14 : Scope := s14x.1
@[reducible] noncomputable def a19x : { x : Arguments // x = fArgs (nth PySem.Challenge.pw_tc0087_01.main.body 19) } := ⟨_, by conv => rhs; whnf; (try dsimp only)⟩
@[reducible] noncomputable def a19 : Arguments := a19x.1
@[reducible] noncomputable def b19x : { x : List Stmt // x = fBody (nth PySem.Challenge.pw_tc0087_01.main.body 19) } := ⟨_, by conv => rhs; whnf⟩
@[reducible] noncomputable def b19 : List Stmt := b19x.1
@[reducible] noncomputable def s19x : { x : Scope // x = fScope (nth PySem.Challenge.pw_tc0087_01.main.body 19) } := ⟨_, by conv => rhs; whnf; (try dsimp only)⟩
@[reducible] noncomputable def s19 : Scope := s19x.1
@[reducible] noncomputable def a20m0x : { x : Arguments // x = fArgs (nth (cBody (nth PySem.Challenge.pw_tc0087_01.main.body 20)) 0) } := ⟨_, by conv => rhs; whnf; (try dsimp only)⟩
@[reducible] noncomputable def a20m0 : Arguments := a20m0x.1
@[reducible] noncomputable def b20m0x : { x : List Stmt // x = fBody (nth (cBody (nth PySem.Challenge.pw_tc0087_01.main.body 20)) 0) } := ⟨_, by conv => rhs; whnf⟩
@[reducible] noncomputable def b20m0 : List Stmt := b20m0x.1
@[reducible] noncomputable def s20m0x : { x : Scope // x = fScope (nth (cBody (nth PySem.Challenge.pw_tc0087_01.main.body 20)) 0) } := ⟨_, by conv => rhs; whnf; (try dsimp only)⟩
@[reducible] noncomputable def s20m0 : Scope := s20m0x.1
@[reducible] noncomputable def a20m1x : { x : Arguments // x = fArgs (nth (cBody (nth PySem.Challenge.pw_tc0087_01.main.body 20)) 1) } := ⟨_, by conv => rhs; whnf; (try dsimp only)⟩
@[reducible] noncomputable def a20m1 : Arguments := a20m1x.1
@[reducible] noncomputable def b20m1x : { x : List Stmt // x = fBody (nth (cBody (nth PySem.Challenge.pw_tc0087_01.main.body 20)) 1) } := ⟨_, by conv => rhs; whnf⟩
@[reducible] noncomputable def b20m1 : List Stmt := b20m1x.1
@[reducible] noncomputable def s20m1x : { x : Scope // x = fScope (nth (cBody (nth PySem.Challenge.pw_tc0087_01.main.body 20)) 1) } := ⟨_, by conv => rhs; whnf; (try dsimp only)⟩
@[reducible] noncomputable def s20m1 : Scope := s20m1x.1
@[reducible] noncomputable def a20m2x : { x : Arguments // x = fArgs (nth (cBody (nth PySem.Challenge.pw_tc0087_01.main.body 20)) 2) } := ⟨_, by conv => rhs; whnf; (try dsimp only)⟩
@[reducible] noncomputable def a20m2 : Arguments := a20m2x.1
@[reducible] noncomputable def b20m2x : { x : List Stmt // x = fBody (nth (cBody (nth PySem.Challenge.pw_tc0087_01.main.body 20)) 2) } := ⟨_, by conv => rhs; whnf⟩
@[reducible] noncomputable def b20m2 : List Stmt := b20m2x.1
@[reducible] noncomputable def s20m2x : { x : Scope // x = fScope (nth (cBody (nth PySem.Challenge.pw_tc0087_01.main.body 20)) 2) } := ⟨_, by conv => rhs; whnf; (try dsimp only)⟩
@[reducible] noncomputable def s20m2 : Scope := s20m2x.1
@[reducible] noncomputable def a20m3x : { x : Arguments // x = fArgs (nth (cBody (nth PySem.Challenge.pw_tc0087_01.main.body 20)) 3) } := ⟨_, by conv => rhs; whnf; (try dsimp only)⟩
@[reducible] noncomputable def a20m3 : Arguments := a20m3x.1
@[reducible] noncomputable def b20m3x : { x : List Stmt // x = fBody (nth (cBody (nth PySem.Challenge.pw_tc0087_01.main.body 20)) 3) } := ⟨_, by conv => rhs; whnf⟩
@[reducible] noncomputable def b20m3 : List Stmt := b20m3x.1
@[reducible] noncomputable def s20m3x : { x : Scope // x = fScope (nth (cBody (nth PySem.Challenge.pw_tc0087_01.main.body 20)) 3) } := ⟨_, by conv => rhs; whnf; (try dsimp only)⟩
@[reducible] noncomputable def s20m3 : Scope := s20m3x.1
@[reducible] noncomputable def a20m4x : { x : Arguments // x = fArgs (nth (cBody (nth PySem.Challenge.pw_tc0087_01.main.body 20)) 4) } := ⟨_, by conv => rhs; whnf; (try dsimp only)⟩
@[reducible] noncomputable def a20m4 : Arguments := a20m4x.1
@[reducible] noncomputable def b20m4x : { x : List Stmt // x = fBody (nth (cBody (nth PySem.Challenge.pw_tc0087_01.main.body 20)) 4) } := ⟨_, by conv => rhs; whnf⟩
@[reducible] noncomputable def b20m4 : List Stmt := b20m4x.1
@[reducible] noncomputable def s20m4x : { x : Scope // x = fScope (nth (cBody (nth PySem.Challenge.pw_tc0087_01.main.body 20)) 4) } := ⟨_, by conv => rhs; whnf; (try dsimp only)⟩
@[reducible] noncomputable def s20m4 : Scope := s20m4x.1
@[reducible] noncomputable def a20m5x : { x : Arguments // x = fArgs (nth (cBody (nth PySem.Challenge.pw_tc0087_01.main.body 20)) 5) } := ⟨_, by conv => rhs; whnf; (try dsimp only)⟩
@[reducible] noncomputable def a20m5 : Arguments := a20m5x.1
@[reducible] noncomputable def b20m5x : { x : List Stmt // x = fBody (nth (cBody (nth PySem.Challenge.pw_tc0087_01.main.body 20)) 5) } := ⟨_, by conv => rhs; whnf⟩
@[reducible] noncomputable def b20m5 : List Stmt := b20m5x.1
@[reducible] noncomputable def s20m5x : { x : Scope // x = fScope (nth (cBody (nth PySem.Challenge.pw_tc0087_01.main.body 20)) 5) } := ⟨_, by conv => rhs; whnf; (try dsimp only)⟩
@[reducible] noncomputable def s20m5 : Scope := s20m5x.1
@[reducible] noncomputable def a20m6x : { x : Arguments // x = fArgs (nth (cBody (nth PySem.Challenge.pw_tc0087_01.main.body 20)) 6) } := ⟨_, by conv => rhs; whnf; (try dsimp only)⟩
@[reducible] noncomputable def a20m6 : Arguments := a20m6x.1
@[reducible] noncomputable def b20m6x : { x : List Stmt // x = fBody (nth (cBody (nth PySem.Challenge.pw_tc0087_01.main.body 20)) 6) } := ⟨_, by conv => rhs; whnf⟩
@[reducible] noncomputable def b20m6 : List Stmt := b20m6x.1
@[reducible] noncomputable def s20m6x : { x : Scope // x = fScope (nth (cBody (nth PySem.Challenge.pw_tc0087_01.main.body 20)) 6) } := ⟨_, by conv => rhs; whnf; (try dsimp only)⟩
@[reducible] noncomputable def s20m6 : Scope := s20m6x.1
@[reducible] noncomputable def a20m7x : { x : Arguments // x = fArgs (nth (cBody (nth PySem.Challenge.pw_tc0087_01.main.body 20)) 7) } := ⟨_, by conv => rhs; whnf; (try dsimp only)⟩
@[reducible] noncomputable def a20m7 : Arguments := a20m7x.1
@[reducible] noncomputable def b20m7x : { x : List Stmt // x = fBody (nth (cBody (nth PySem.Challenge.pw_tc0087_01.main.body 20)) 7) } := ⟨_, by conv => rhs; whnf⟩
@[reducible] noncomputable def b20m7 : List Stmt := b20m7x.1
@[reducible] noncomputable def s20m7x : { x : Scope // x = fScope (nth (cBody (nth PySem.Challenge.pw_tc0087_01.main.body 20)) 7) } := ⟨_, by conv => rhs; whnf; (try dsimp only)⟩
@[reducible] noncomputable def s20m7 : Scope := s20m7x.1
@[reducible] noncomputable def a20m8x : { x : Arguments // x = fArgs (nth (cBody (nth PySem.Challenge.pw_tc0087_01.main.body 20)) 8) } := ⟨_, by conv => rhs; whnf; (try dsimp only)⟩
@[reducible] noncomputable def a20m8 : Arguments := a20m8x.1
@[reducible] noncomputable def b20m8x : { x : List Stmt // x = fBody (nth (cBody (nth PySem.Challenge.pw_tc0087_01.main.body 20)) 8) } := ⟨_, by conv => rhs; whnf⟩
@[reducible] noncomputable def b20m8 : List Stmt := b20m8x.1
@[reducible] noncomputable def s20m8x : { x : Scope // x = fScope (nth (cBody (nth PySem.Challenge.pw_tc0087_01.main.body 20)) 8) } := ⟨_, by conv => rhs; whnf; (try dsimp only)⟩
@[reducible] noncomputable def s20m8 : Scope := s20m8x.1
@[reducible] noncomputable def a20m9x : { x : Arguments // x = fArgs (nth (cBody (nth PySem.Challenge.pw_tc0087_01.main.body 20)) 9) } := ⟨_, by conv => rhs; whnf; (try dsimp only)⟩
@[reducible] noncomputable def a20m9 : Arguments := a20m9x.1
@[reducible] noncomputable def b20m9x : { x : List Stmt // x = fBody (nth (cBody (nth PySem.Challenge.pw_tc0087_01.main.body 20)) 9) } := ⟨_, by conv => rhs; whnf⟩
@[reducible] noncomputable def b20m9 : List Stmt := b20m9x.1
@[reducible] noncomputable def s20m9x : { x : Scope // x = fScope (nth (cBody (nth PySem.Challenge.pw_tc0087_01.main.body 20)) 9) } := ⟨_, by conv => rhs; whnf; (try dsimp only)⟩
@[reducible] noncomputable def s20m9 : Scope := s20m9x.1
@[reducible] noncomputable def a20m10x : { x : Arguments // x = fArgs (nth (cBody (nth PySem.Challenge.pw_tc0087_01.main.body 20)) 10) } := ⟨_, by conv => rhs; whnf; (try dsimp only)⟩
@[reducible] noncomputable def a20m10 : Arguments := a20m10x.1
@[reducible] noncomputable def b20m10x : { x : List Stmt // x = fBody (nth (cBody (nth PySem.Challenge.pw_tc0087_01.main.body 20)) 10) } := ⟨_, by conv => rhs; whnf⟩
@[reducible] noncomputable def b20m10 : List Stmt := b20m10x.1
@[reducible] noncomputable def s20m10x : { x : Scope // x = fScope (nth (cBody (nth PySem.Challenge.pw_tc0087_01.main.body 20)) 10) } := ⟨_, by conv => rhs; whnf; (try dsimp only)⟩
@[reducible] noncomputable def s20m10 : Scope := s20m10x.1
@[reducible] noncomputable def a20m11x : { x : Arguments // x = fArgs (nth (cBody (nth PySem.Challenge.pw_tc0087_01.main.body 20)) 11) } := ⟨_, by conv => rhs; whnf; (try dsimp only)⟩
@[reducible] noncomputable def a20m11 : Arguments := a20m11x.1
@[reducible] noncomputable def b20m11x : { x : List Stmt // x = fBody (nth (cBody (nth PySem.Challenge.pw_tc0087_01.main.body 20)) 11) } := ⟨_, by conv => rhs; whnf⟩
@[reducible] noncomputable def b20m11 : List Stmt := b20m11x.1
@[reducible] noncomputable def s20m11x : { x : Scope // x = fScope (nth (cBody (nth PySem.Challenge.pw_tc0087_01.main.body 20)) 11) } := ⟨_, by conv => rhs; whnf; (try dsimp only)⟩
@[reducible] noncomputable def s20m11 : Scope := s20m11x.1
@[reducible] noncomputable def a20m12x : { x : Arguments // x = fArgs (nth (cBody (nth PySem.Challenge.pw_tc0087_01.main.body 20)) 12) } := ⟨_, by conv => rhs; whnf; (try dsimp only)⟩
@[reducible] noncomputable def a20m12 : Arguments := a20m12x.1
@[reducible] noncomputable def b20m12x : { x : List Stmt // x = fBody (nth (cBody (nth PySem.Challenge.pw_tc0087_01.main.body 20)) 12) } := ⟨_, by conv => rhs; whnf⟩
@[reducible] noncomputable def b20m12 : List Stmt := b20m12x.1
@[reducible] noncomputable def s20m12x : { x : Scope // x = fScope (nth (cBody (nth PySem.Challenge.pw_tc0087_01.main.body 20)) 12) } := ⟨_, by conv => rhs; whnf; (try dsimp only)⟩
@[reducible] noncomputable def s20m12 : Scope := s20m12x.1
@[reducible] noncomputable def a20m13x : { x : Arguments // x = fArgs (nth (cBody (nth PySem.Challenge.pw_tc0087_01.main.body 20)) 13) } := ⟨_, by conv => rhs; whnf; (try dsimp only)⟩
@[reducible] noncomputable def a20m13 : Arguments := a20m13x.1
@[reducible] noncomputable def b20m13x : { x : List Stmt // x = fBody (nth (cBody (nth PySem.Challenge.pw_tc0087_01.main.body 20)) 13) } := ⟨_, by conv => rhs; whnf⟩
@[reducible] noncomputable def b20m13 : List Stmt := b20m13x.1
@[reducible] noncomputable def s20m13x : { x : Scope // x = fScope (nth (cBody (nth PySem.Challenge.pw_tc0087_01.main.body 20)) 13) } := ⟨_, by conv => rhs; whnf; (try dsimp only)⟩
@[reducible] noncomputable def s20m13 : Scope := s20m13x.1
@[reducible] noncomputable def a20m14x : { x : Arguments // x = fArgs (nth (cBody (nth PySem.Challenge.pw_tc0087_01.main.body 20)) 14) } := ⟨_, by conv => rhs; whnf; (try dsimp only)⟩
@[reducible] noncomputable def a20m14 : Arguments := a20m14x.1
@[reducible] noncomputable def b20m14x : { x : List Stmt // x = fBody (nth (cBody (nth PySem.Challenge.pw_tc0087_01.main.body 20)) 14) } := ⟨_, by conv => rhs; whnf⟩
@[reducible] noncomputable def b20m14 : List Stmt := b20m14x.1
@[reducible] noncomputable def s20m14x : { x : Scope // x = fScope (nth (cBody (nth PySem.Challenge.pw_tc0087_01.main.body 20)) 14) } := ⟨_, by conv => rhs; whnf; (try dsimp only)⟩
@[reducible] noncomputable def s20m14 : Scope := s20m14x.1
@[reducible] noncomputable def a20m15x : { x : Arguments // x = fArgs (nth (cBody (nth PySem.Challenge.pw_tc0087_01.main.body 20)) 15) } := ⟨_, by conv => rhs; whnf; (try dsimp only)⟩
@[reducible] noncomputable def a20m15 : Arguments := a20m15x.1
@[reducible] noncomputable def b20m15x : { x : List Stmt // x = fBody (nth (cBody (nth PySem.Challenge.pw_tc0087_01.main.body 20)) 15) } := ⟨_, by conv => rhs; whnf⟩
@[reducible] noncomputable def b20m15 : List Stmt := b20m15x.1
@[reducible] noncomputable def s20m15x : { x : Scope // x = fScope (nth (cBody (nth PySem.Challenge.pw_tc0087_01.main.body 20)) 15) } := ⟨_, by conv => rhs; whnf; (try dsimp only)⟩
@[reducible] noncomputable def s20m15 : Scope := s20m15x.1
@[reducible] noncomputable def a20m16x : { x : Arguments // x = fArgs (nth (cBody (nth PySem.Challenge.pw_tc0087_01.main.body 20)) 16) } := ⟨_, by conv => rhs; whnf; (try dsimp only)⟩
@[reducible] noncomputable def a20m16 : Arguments := a20m16x.1
@[reducible] noncomputable def b20m16x : { x : List Stmt // x = fBody (nth (cBody (nth PySem.Challenge.pw_tc0087_01.main.body 20)) 16) } := ⟨_, by conv => rhs; whnf⟩
@[reducible] noncomputable def b20m16 : List Stmt := b20m16x.1
@[reducible] noncomputable def s20m16x : { x : Scope // x = fScope (nth (cBody (nth PySem.Challenge.pw_tc0087_01.main.body 20)) 16) } := ⟨_, by conv => rhs; whnf; (try dsimp only)⟩
@[reducible] noncomputable def s20m16 : Scope := s20m16x.1
@[reducible] noncomputable def a22x : { x : Arguments // x = fArgs (nth PySem.Challenge.pw_tc0087_01.main.body 22) } := ⟨_, by conv => rhs; whnf; (try dsimp only)⟩
@[reducible] noncomputable def a22 : Arguments := a22x.1
@[reducible] noncomputable def b22x : { x : List Stmt // x = fBody (nth PySem.Challenge.pw_tc0087_01.main.body 22) } := ⟨_, by conv => rhs; whnf⟩
@[reducible] noncomputable def b22 : List Stmt := b22x.1
@[reducible] noncomputable def s22x : { x : Scope // x = fScope (nth PySem.Challenge.pw_tc0087_01.main.body 22) } := ⟨_, by conv => rhs; whnf; (try dsimp only)⟩
@[reducible] noncomputable def s22 : Scope := s22x.1
@[reducible] noncomputable def a23x : { x : Arguments // x = fArgs (nth PySem.Challenge.pw_tc0087_01.main.body 23) } := ⟨_, by conv => rhs; whnf; (try dsimp only)⟩
@[reducible] noncomputable def a23 : Arguments := a23x.1
@[reducible] noncomputable def b23x : { x : List Stmt // x = fBody (nth PySem.Challenge.pw_tc0087_01.main.body 23) } := ⟨_, by conv => rhs; whnf⟩
@[reducible] noncomputable def b23 : List Stmt := b23x.1
@[reducible] noncomputable def s23x : { x : Scope // x = fScope (nth PySem.Challenge.pw_tc0087_01.main.body 23) } := ⟨_, by conv => rhs; whnf; (try dsimp only)⟩
@[reducible] noncomputable def s23 : Scope := s23x.1
@[reducible] noncomputable def a25x : { x : Arguments // x = fArgs (nth PySem.Challenge.pw_tc0087_01.main.body 25) } := ⟨_, by conv => rhs; whnf; (try dsimp only)⟩
@[reducible] noncomputable def a25 : Arguments := a25x.1
@[reducible] noncomputable def b25x : { x : List Stmt // x = fBody (nth PySem.Challenge.pw_tc0087_01.main.body 25) } := ⟨_, by conv => rhs; whnf⟩
@[reducible] noncomputable def b25 : List Stmt := b25x.1
@[reducible] noncomputable def s25x : { x : Scope // x = fScope (nth PySem.Challenge.pw_tc0087_01.main.body 25) } := ⟨_, by conv => rhs; whnf; (try dsimp only)⟩
@[reducible] noncomputable def s25 : Scope := s25x.1
@[reducible] noncomputable def a26x : { x : Arguments // x = fArgs (nth PySem.Challenge.pw_tc0087_01.main.body 26) } := ⟨_, by conv => rhs; whnf; (try dsimp only)⟩
@[reducible] noncomputable def a26 : Arguments := a26x.1
@[reducible] noncomputable def b26x : { x : List Stmt // x = fBody (nth PySem.Challenge.pw_tc0087_01.main.body 26) } := ⟨_, by conv => rhs; whnf⟩
@[reducible] noncomputable def b26 : List Stmt := b26x.1
@[reducible] noncomputable def s26x : { x : Scope // x = fScope (nth PySem.Challenge.pw_tc0087_01.main.body 26) } := ⟨_, by conv => rhs; whnf; (try dsimp only)⟩
@[reducible] noncomputable def s26 : Scope := s26x.1
@[reducible] noncomputable def a27x : { x : Arguments // x = fArgs (nth PySem.Challenge.pw_tc0087_01.main.body 27) } := ⟨_, by conv => rhs; whnf; (try dsimp only)⟩
@[reducible] noncomputable def a27 : Arguments := a27x.1
@[reducible] noncomputable def b27x : { x : List Stmt // x = fBody (nth PySem.Challenge.pw_tc0087_01.main.body 27) } := ⟨_, by conv => rhs; whnf⟩
@[reducible] noncomputable def b27 : List Stmt := b27x.1
@[reducible] noncomputable def s27x : { x : Scope // x = fScope (nth PySem.Challenge.pw_tc0087_01.main.body 27) } := ⟨_, by conv => rhs; whnf; (try dsimp only)⟩
@[reducible] noncomputable def s27 : Scope := s27x.1
@[reducible] noncomputable def a28x : { x : Arguments // x = fArgs (nth PySem.Challenge.pw_tc0087_01.main.body 28) } := ⟨_, by conv => rhs; whnf; (try dsimp only)⟩
@[reducible] noncomputable def a28 : Arguments := a28x.1
@[reducible] noncomputable def b28x : { x : List Stmt // x = fBody (nth PySem.Challenge.pw_tc0087_01.main.body 28) } := ⟨_, by conv => rhs; whnf⟩
@[reducible] noncomputable def b28 : List Stmt := b28x.1
@[reducible] noncomputable def s28x : { x : Scope // x = fScope (nth PySem.Challenge.pw_tc0087_01.main.body 28) } := ⟨_, by conv => rhs; whnf; (try dsimp only)⟩
@[reducible] noncomputable def s28 : Scope := s28x.1
@[reducible] noncomputable def a29x : { x : Arguments // x = fArgs (nth PySem.Challenge.pw_tc0087_01.main.body 29) } := ⟨_, by conv => rhs; whnf; (try dsimp only)⟩
@[reducible] noncomputable def a29 : Arguments := a29x.1
@[reducible] noncomputable def b29x : { x : List Stmt // x = fBody (nth PySem.Challenge.pw_tc0087_01.main.body 29) } := ⟨_, by conv => rhs; whnf⟩
@[reducible] noncomputable def b29 : List Stmt := b29x.1
@[reducible] noncomputable def s29x : { x : Scope // x = fScope (nth PySem.Challenge.pw_tc0087_01.main.body 29) } := ⟨_, by conv => rhs; whnf; (try dsimp only)⟩
@[reducible] noncomputable def s29 : Scope := s29x.1
@[reducible] noncomputable def a30x : { x : Arguments // x = fArgs (nth PySem.Challenge.pw_tc0087_01.main.body 30) } := ⟨_, by conv => rhs; whnf; (try dsimp only)⟩
@[reducible] noncomputable def a30 : Arguments := a30x.1
@[reducible] noncomputable def b30x : { x : List Stmt // x = fBody (nth PySem.Challenge.pw_tc0087_01.main.body 30) } := ⟨_, by conv => rhs; whnf⟩
@[reducible] noncomputable def b30 : List Stmt := b30x.1
@[reducible] noncomputable def s30x : { x : Scope // x = fScope (nth PySem.Challenge.pw_tc0087_01.main.body 30) } := ⟨_, by conv => rhs; whnf; (try dsimp only)⟩
@[reducible] noncomputable def s30 : Scope := s30x.1
@[reducible] noncomputable def a31x : { x : Arguments // x = fArgs (nth PySem.Challenge.pw_tc0087_01.main.body 31) } := ⟨_, by conv => rhs; whnf; (try dsimp only)⟩
@[reducible] noncomputable def a31 : Arguments := a31x.1
@[reducible] noncomputable def b31x : { x : List Stmt // x = fBody (nth PySem.Challenge.pw_tc0087_01.main.body 31) } := ⟨_, by conv => rhs; whnf⟩
@[reducible] noncomputable def b31 : List Stmt := b31x.1
@[reducible] noncomputable def s31x : { x : Scope // x = fScope (nth PySem.Challenge.pw_tc0087_01.main.body 31) } := ⟨_, by conv => rhs; whnf; (try dsimp only)⟩
@[reducible] noncomputable def s31 : Scope := s31x.1
@[reducible] noncomputable def a32x : { x : Arguments // x = fArgs (nth PySem.Challenge.pw_tc0087_01.main.body 32) } := ⟨_, by conv => rhs; whnf; (try dsimp only)⟩
@[reducible] noncomputable def a32 : Arguments := a32x.1
@[reducible] noncomputable def b32x : { x : List Stmt // x = fBody (nth PySem.Challenge.pw_tc0087_01.main.body 32) } := ⟨_, by conv => rhs; whnf⟩
@[reducible] noncomputable def b32 : List Stmt := b32x.1
@[reducible] noncomputable def s32x : { x : Scope // x = fScope (nth PySem.Challenge.pw_tc0087_01.main.body 32) } := ⟨_, by conv => rhs; whnf; (try dsimp only)⟩
@[reducible] noncomputable def s32 : Scope := s32x.1
@[reducible] noncomputable def a33x : { x : Arguments // x = fArgs (nth PySem.Challenge.pw_tc0087_01.main.body 33) } := ⟨_, by conv => rhs; whnf; (try dsimp only)⟩
@[reducible] noncomputable def a33 : Arguments := a33x.1
@[reducible] noncomputable def b33x : { x : List Stmt // x = fBody (nth PySem.Challenge.pw_tc0087_01.main.body 33) } := ⟨_, by conv => rhs; whnf⟩
@[reducible] noncomputable def b33 : List Stmt := b33x.1
@[reducible] noncomputable def s33x : { x : Scope // x = fScope (nth PySem.Challenge.pw_tc0087_01.main.body 33) } := ⟨_, by conv => rhs; whnf; (try dsimp only)⟩
@[reducible] noncomputable def s33 : Scope := s33x.1
@[reducible] noncomputable def a34x : { x : Arguments // x = fArgs (nth PySem.Challenge.pw_tc0087_01.main.body 34) } := ⟨_, by conv => rhs; whnf; (try dsimp only)⟩
@[reducible] noncomputable def a34 : Arguments := a34x.1
@[reducible] noncomputable def b34x : { x : List Stmt // x = fBody (nth PySem.Challenge.pw_tc0087_01.main.body 34) } := ⟨_, by conv => rhs; whnf⟩
@[reducible] noncomputable def b34 : List Stmt := b34x.1
@[reducible] noncomputable def s34x : { x : Scope // x = fScope (nth PySem.Challenge.pw_tc0087_01.main.body 34) } := ⟨_, by conv => rhs; whnf; (try dsimp only)⟩
@[reducible] noncomputable def s34 : Scope := s34x.1
-- o2, the object at address 2 of the heap at the head: in three of its literals a word that is kept for the head's rows of this text bears its first letter as an escape; the values are the ones that the heap holds there
@[reducible] noncomputable def o2 (P : Params) : Obj := (Obj.mk Value.none none (Data.dict #[(DictEntry.mk (PyData.keyHash P "\x69mport.loaded._sre") (Value.str "\x69mport.loaded._sre" 183) (Value.bool true)), (DictEntry.mk (PyData.keyHash P "class._frozen_importlib.BuiltinImporter") (Value.str "class._frozen_importlib.BuiltinImporter" 185) (Value.ref 14)), (DictEntry.mk (PyData.keyHash P "watched.\x69mport") (Value.str "watched.\x69mport" 206) (Value.ref 18)), (DictEntry.mk (PyData.keyHash P "class._frozen_importlib.ModuleSpec") (Value.str "class._frozen_importlib.ModuleSpec" 216) (Value.ref 22)), (DictEntry.mk (PyData.keyHash P "sys.modules.booked-epoch") (Value.str "sys.modules.booked-epoch" 245) (Value.int 3 0)), (DictEntry.mk (PyData.keyHash P "\x69mport.later-laid._sre") (Value.str "\x69mport.later-laid._sre" 270) (Value.bool true)), (DictEntry.mk (PyData.keyHash P "watched.library") (Value.str "watched.library" 272) (Value.ref 27)), (DictEntry.mk (PyData.keyHash P "watched.library-objects") (Value.str "watched.library-objects" 0) (Value.str "\x0c" 0)), (DictEntry.mk (PyData.keyHash P "watched.library-deep._sre") (Value.str "watched.library-deep._sre" 273) (Value.str "\x04\x00\x00\x0b\x04\x00\x00\x0b\x04\x00\x00\x03\x04\x00\x00\x0b\x08\x04dict\x02" 0))] 9) #[])
@[reducible] noncomputable def o3 (P : Params) : Obj := (Obj.mk (Value.type "dict") none (Data.dict #[(DictEntry.mk (PyData.keyHash P "__name__") (Value.str "__name__" 165) (Value.str "law_tc0087_01" 760)), (DictEntry.mk (PyData.keyHash P "__doc__") (Value.str "__doc__" 166) Value.none), (DictEntry.mk (PyData.keyHash P "__package__") (Value.str "__package__" 167) Value.none), (DictEntry.mk (PyData.keyHash P "__loader__") (Value.str "__loader__" 168) (Value.builtin "__main__.__loader__#opaque")), (DictEntry.mk (PyData.keyHash P "__spec__") (Value.str "__spec__" 169) Value.none), (DictEntry.mk (PyData.keyHash P "__annotations__") (Value.str "__annotations__" 170) (Value.ref 6)), (DictEntry.mk (PyData.keyHash P "__builtins__") (Value.str "__builtins__" 171) (Value.ref 4)), (DictEntry.mk (PyData.keyHash P "__file__") (Value.str "__file__" 173) (Value.str "/claim/cut.py" 172)), (DictEntry.mk (PyData.keyHash P "__cached__") (Value.str "__cached__" 174) Value.none), (DictEntry.mk (PyData.keyHash P "_sre") (Value.str "_sre" 275) (Value.ref 12)), (DictEntry.mk (PyData.keyHash P "_wall") (Value.str "_wall" 288) (Value.ref 38)), (DictEntry.mk (PyData.keyHash P "Whitespace") (Value.str "Whitespace" 386) (Value.ref 100)), (DictEntry.mk (PyData.keyHash P "add") (Value.str "add" 396) (Value.ref 111)), (DictEntry.mk (PyData.keyHash P "floordiv") (Value.str "floordiv" 404) (Value.ref 118)), (DictEntry.mk (PyData.keyHash P "sub") (Value.str "sub" 412) (Value.ref 125)), (DictEntry.mk (PyData.keyHash P "concat") (Value.str "concat" 421) (Value.ref 132)), (DictEntry.mk (PyData.keyHash P "countOf") (Value.str "countOf" 431) (Value.ref 139)), (DictEntry.mk (PyData.keyHash P "delitem") (Value.str "delitem" 439) (Value.ref 146)), (DictEntry.mk (PyData.keyHash P "getitem") (Value.str "getitem" 447) (Value.ref 153)), (DictEntry.mk (PyData.keyHash P "indexOf") (Value.str "indexOf" 457) (Value.ref 160)), (DictEntry.mk (PyData.keyHash P "setitem") (Value.str "setitem" 466) (Value.ref 167)), (DictEntry.mk (PyData.keyHash P "length_hint") (Value.str "length_hint" 478) (Value.ref 175)), (DictEntry.mk (PyData.keyHash P "tspecials") (Value.str "tspecials" 514) (Value.ref 180)), (DictEntry.mk (PyData.keyHash P "_name_disallowed_re") (Value.str "_name_disallowed_re" 540) (Value.ref 185)), (DictEntry.mk (PyData.keyHash P "_value_disallowed_re") (Value.str "_value_disallowed_re" 574) (Value.ref 190)), (DictEntry.mk (PyData.keyHash P "_formatparam") (Value.str "_formatparam" 584) (Value.ref 198)), (DictEntry.mk (PyData.keyHash P "Headers") (Value.str "Headers" 743) (Value.ref 321)), (DictEntry.mk (PyData.keyHash P "_raise_serialization_error") (Value.str "_raise_serialization_error" 752) (Value.ref 332)), (DictEntry.mk (PyData.keyHash P "_escape_attrib") (Value.str "_escape_attrib" 759) (Value.ref 339)), (DictEntry.mk (PyData.keyHash P "_law_cells") (Value.str "_law_cells" 767) (Value.ref 344)), (DictEntry.mk (PyData.keyHash P "_law_depths") (Value.str "_law_depths" 776) (Value.ref 351)), (DictEntry.mk (PyData.keyHash P "_law_heads") (Value.str "_law_heads" 782) (Value.ref 356)), (DictEntry.mk (PyData.keyHash P "_law_lead") (Value.str "_law_lead" 795) (Value.ref 363)), (DictEntry.mk (PyData.keyHash P "_law_nested") (Value.str "_law_nested" 807) (Value.ref 370)), (DictEntry.mk (PyData.keyHash P "_law_told") (Value.str "_law_told" 819) (Value.ref 377)), (DictEntry.mk (PyData.keyHash P "_law_read") (Value.str "_law_read" 832) (Value.ref 384)), (DictEntry.mk (PyData.keyHash P "_law_queue") (Value.str "_law_queue" 838) (Value.ref 389)), (DictEntry.mk (PyData.keyHash P "_law_back") (Value.str "_law_back" 844) (Value.ref 394)), (DictEntry.mk (PyData.keyHash P "law") (Value.str "law" 850) (Value.ref 399))] 39) #[])
@[reducible] noncomputable def o32 (_ : Params) : Obj := (Obj.mk (Value.type "tuple") none (Data.seq #[] 0) #[])
@[reducible] noncomputable def o34 (_ : Params) : Obj := (Obj.mk (Value.type "tuple") none (Data.seq #[(Value.str "k" 285)] 0) #[])
@[reducible] noncomputable def o35 (_ : Params) : Obj := (Obj.mk (Value.type "tuple") none (Data.seq #[] 0) #[])
@[reducible] noncomputable def o37 (_ : Params) : Obj := (Obj.mk (Value.type "code") none (Data.fields #[(Value.str "_wall" 282), (Value.str "_wall" 283), (Value.str "/claim/cut.py" 284), (Value.int 2 0), (Value.int 1 0), (Value.int 0 0), (Value.int 0 0), (Value.int 3 0), (Value.ref 32), (Value.bool true), (Value.int 276 0), (Value.ref 33), Value.none, (Value.ref 34), (Value.ref 35), (Value.ref 36), (Value.int 286 0), (Value.int 2 0), (Value.str "/claim/cut.py" 287)]) #[])
@[reducible] noncomputable def o38 (_ : Params) : Obj := (Obj.mk (Value.type "function") none (Data.func (FuncData.mk "_wall" "_wall" a1 (FuncBody.stmts b1) s1 3 [] Value.none Value.none Value.none (Value.str "__main__" 164) none (Value.ref 37) Value.none 0)) #[])
@[reducible] noncomputable def o49 (_ : Params) : Obj := (Obj.mk (Value.type "tuple") none (Data.seq #[] 0) #[])
@[reducible] noncomputable def o51 (_ : Params) : Obj := (Obj.mk (Value.type "tuple") none (Data.seq #[(Value.str "self" 311), (Value.str "ws" 312), (Value.str "S" 313), (Value.str "T" 314), (Value.str "count" 315), (Value.str "b" 316), (Value.str "n" 317), (Value.str "nt" 318), (Value.str "ch" 319)] 0) #[])
@[reducible] noncomputable def o52 (_ : Params) : Obj := (Obj.mk (Value.type "tuple") none (Data.seq #[] 0) #[])
@[reducible] noncomputable def o54 (_ : Params) : Obj := (Obj.mk (Value.type "code") none (Data.fields #[(Value.str "__init__" 308), (Value.str "Whitespace.__init__" 309), (Value.str "/claim/cut.py" 310), (Value.int 9 0), (Value.int 2 0), (Value.int 0 0), (Value.int 0 0), (Value.int 3 0), (Value.ref 49), (Value.bool true), (Value.int 276 0), (Value.ref 50), Value.none, (Value.ref 51), (Value.ref 52), (Value.ref 53), (Value.int 320 0), (Value.int 9 0), (Value.str "/claim/cut.py" 321)]) #[])
@[reducible] noncomputable def o55 (_ : Params) : Obj := (Obj.mk (Value.type "function") none (Data.func (FuncData.mk "__init__" "Whitespace.__init__" a3m1 (FuncBody.stmts b3m1) s3m1 3 [] Value.none Value.none Value.none (Value.str "cpy313.tabnanny" 289) none (Value.ref 54) Value.none 0)) #[])
@[reducible] noncomputable def o56 (_ : Params) : Obj := (Obj.mk (Value.type "tuple") none (Data.seq #[] 0) #[])
@[reducible] noncomputable def o58 (_ : Params) : Obj := (Obj.mk (Value.type "tuple") none (Data.seq #[(Value.str "self" 326)] 0) #[])
@[reducible] noncomputable def o59 (_ : Params) : Obj := (Obj.mk (Value.type "tuple") none (Data.seq #[] 0) #[])
@[reducible] noncomputable def o61 (_ : Params) : Obj := (Obj.mk (Value.type "code") none (Data.fields #[(Value.str "longest_run_of_spaces" 323), (Value.str "Whitespace.longest_run_of_spaces" 324), (Value.str "/claim/cut.py" 325), (Value.int 32 0), (Value.int 1 0), (Value.int 0 0), (Value.int 0 0), (Value.int 3 0), (Value.ref 56), (Value.bool true), (Value.int 276 0), (Value.ref 57), Value.none, (Value.ref 58), (Value.ref 59), (Value.ref 60), (Value.int 327 0), (Value.int 32 0), (Value.str "/claim/cut.py" 328)]) #[])
@[reducible] noncomputable def o62 (_ : Params) : Obj := (Obj.mk (Value.type "function") none (Data.func (FuncData.mk "longest_run_of_spaces" "Whitespace.longest_run_of_spaces" a3m2 (FuncBody.stmts b3m2) s3m2 3 [] Value.none Value.none Value.none (Value.str "cpy313.tabnanny" 289) none (Value.ref 61) Value.none 0)) #[])
@[reducible] noncomputable def o63 (_ : Params) : Obj := (Obj.mk (Value.type "tuple") none (Data.seq #[] 0) #[])
@[reducible] noncomputable def o65 (_ : Params) : Obj := (Obj.mk (Value.type "tuple") none (Data.seq #[(Value.str "self" 333), (Value.str "tabsize" 334), (Value.str "count" 335), (Value.str "trailing" 336), (Value.str "il" 337), (Value.str "i" 338)] 0) #[])
@[reducible] noncomputable def o66 (_ : Params) : Obj := (Obj.mk (Value.type "tuple") none (Data.seq #[] 0) #[])
@[reducible] noncomputable def o68 (_ : Params) : Obj := (Obj.mk (Value.type "code") none (Data.fields #[(Value.str "indent_level" 330), (Value.str "Whitespace.indent_level" 331), (Value.str "/claim/cut.py" 332), (Value.int 35 0), (Value.int 2 0), (Value.int 0 0), (Value.int 0 0), (Value.int 3 0), (Value.ref 63), (Value.bool true), (Value.int 276 0), (Value.ref 64), Value.none, (Value.ref 65), (Value.ref 66), (Value.ref 67), (Value.int 339 0), (Value.int 35 0), (Value.str "/claim/cut.py" 340)]) #[])
@[reducible] noncomputable def o69 (_ : Params) : Obj := (Obj.mk (Value.type "function") none (Data.func (FuncData.mk "indent_level" "Whitespace.indent_level" a3m3 (FuncBody.stmts b3m3) s3m3 3 [] Value.none Value.none Value.none (Value.str "cpy313.tabnanny" 289) none (Value.ref 68) Value.none 0)) #[])
@[reducible] noncomputable def o70 (_ : Params) : Obj := (Obj.mk (Value.type "tuple") none (Data.seq #[] 0) #[])
@[reducible] noncomputable def o72 (_ : Params) : Obj := (Obj.mk (Value.type "tuple") none (Data.seq #[(Value.str "self" 345), (Value.str "other" 346)] 0) #[])
@[reducible] noncomputable def o73 (_ : Params) : Obj := (Obj.mk (Value.type "tuple") none (Data.seq #[] 0) #[])
@[reducible] noncomputable def o75 (_ : Params) : Obj := (Obj.mk (Value.type "code") none (Data.fields #[(Value.str "equal" 342), (Value.str "Whitespace.equal" 343), (Value.str "/claim/cut.py" 344), (Value.int 42 0), (Value.int 2 0), (Value.int 0 0), (Value.int 0 0), (Value.int 3 0), (Value.ref 70), (Value.bool true), (Value.int 276 0), (Value.ref 71), Value.none, (Value.ref 72), (Value.ref 73), (Value.ref 74), (Value.int 347 0), (Value.int 42 0), (Value.str "/claim/cut.py" 348)]) #[])
@[reducible] noncomputable def o76 (_ : Params) : Obj := (Obj.mk (Value.type "function") none (Data.func (FuncData.mk "equal" "Whitespace.equal" a3m4 (FuncBody.stmts b3m4) s3m4 3 [] Value.none Value.none Value.none (Value.str "cpy313.tabnanny" 289) none (Value.ref 75) Value.none 0)) #[])
@[reducible] noncomputable def o77 (_ : Params) : Obj := (Obj.mk (Value.type "tuple") none (Data.seq #[] 0) #[])
@[reducible] noncomputable def o79 (_ : Params) : Obj := (Obj.mk (Value.type "tuple") none (Data.seq #[(Value.str "self" 353), (Value.str "other" 354)] 0) #[])
@[reducible] noncomputable def o80 (_ : Params) : Obj := (Obj.mk (Value.type "tuple") none (Data.seq #[] 0) #[])
@[reducible] noncomputable def o82 (_ : Params) : Obj := (Obj.mk (Value.type "code") none (Data.fields #[(Value.str "not_equal_witness" 350), (Value.str "Whitespace.not_equal_witness" 351), (Value.str "/claim/cut.py" 352), (Value.int 45 0), (Value.int 2 0), (Value.int 0 0), (Value.int 0 0), (Value.int 3 0), (Value.ref 77), (Value.bool true), (Value.int 276 0), (Value.ref 78), Value.none, (Value.ref 79), (Value.ref 80), (Value.ref 81), (Value.int 355 0), (Value.int 45 0), (Value.str "/claim/cut.py" 356)]) #[])
@[reducible] noncomputable def o83 (_ : Params) : Obj := (Obj.mk (Value.type "function") none (Data.func (FuncData.mk "not_equal_witness" "Whitespace.not_equal_witness" a3m5 (FuncBody.stmts b3m5) s3m7 3 [] Value.none Value.none Value.none (Value.str "cpy313.tabnanny" 289) none (Value.ref 82) Value.none 0)) #[])
@[reducible] noncomputable def o84 (_ : Params) : Obj := (Obj.mk (Value.type "tuple") none (Data.seq #[] 0) #[])
@[reducible] noncomputable def o86 (_ : Params) : Obj := (Obj.mk (Value.type "tuple") none (Data.seq #[(Value.str "self" 361), (Value.str "other" 362)] 0) #[])
@[reducible] noncomputable def o87 (_ : Params) : Obj := (Obj.mk (Value.type "tuple") none (Data.seq #[] 0) #[])
@[reducible] noncomputable def o89 (_ : Params) : Obj := (Obj.mk (Value.type "code") none (Data.fields #[(Value.str "less" 358), (Value.str "Whitespace.less" 359), (Value.str "/claim/cut.py" 360), (Value.int 48 0), (Value.int 2 0), (Value.int 0 0), (Value.int 0 0), (Value.int 3 0), (Value.ref 84), (Value.bool true), (Value.int 276 0), (Value.ref 85), Value.none, (Value.ref 86), (Value.ref 87), (Value.ref 88), (Value.int 363 0), (Value.int 48 0), (Value.str "/claim/cut.py" 364)]) #[])
@[reducible] noncomputable def o90 (_ : Params) : Obj := (Obj.mk (Value.type "function") none (Data.func (FuncData.mk "less" "Whitespace.less" a3m6 (FuncBody.stmts b3m6) s3m7 3 [] Value.none Value.none Value.none (Value.str "cpy313.tabnanny" 289) none (Value.ref 89) Value.none 0)) #[])
@[reducible] noncomputable def o91 (_ : Params) : Obj := (Obj.mk (Value.type "tuple") none (Data.seq #[] 0) #[])
@[reducible] noncomputable def o93 (_ : Params) : Obj := (Obj.mk (Value.type "tuple") none (Data.seq #[(Value.str "self" 369), (Value.str "other" 370)] 0) #[])
@[reducible] noncomputable def o94 (_ : Params) : Obj := (Obj.mk (Value.type "tuple") none (Data.seq #[] 0) #[])
@[reducible] noncomputable def o96 (_ : Params) : Obj := (Obj.mk (Value.type "code") none (Data.fields #[(Value.str "not_less_witness" 366), (Value.str "Whitespace.not_less_witness" 367), (Value.str "/claim/cut.py" 368), (Value.int 51 0), (Value.int 2 0), (Value.int 0 0), (Value.int 0 0), (Value.int 3 0), (Value.ref 91), (Value.bool true), (Value.int 276 0), (Value.ref 92), Value.none, (Value.ref 93), (Value.ref 94), (Value.ref 95), (Value.int 371 0), (Value.int 51 0), (Value.str "/claim/cut.py" 372)]) #[])
@[reducible] noncomputable def o97 (_ : Params) : Obj := (Obj.mk (Value.type "function") none (Data.func (FuncData.mk "not_less_witness" "Whitespace.not_less_witness" a3m7 (FuncBody.stmts b3m7) s3m7 3 [] Value.none Value.none Value.none (Value.str "cpy313.tabnanny" 289) none (Value.ref 96) Value.none 0)) #[])
@[reducible] noncomputable def o98 (_ : Params) : Obj := (Obj.mk (Value.type "tuple") none (Data.seq #[(Value.str "is_simple" 374), (Value.str "n" 375), (Value.str "norm" 376), (Value.str "nt" 377), (Value.str "raw" 378)] 0) #[])
@[reducible] noncomputable def o99 (P : Params) : Obj := (Obj.mk (Value.type "dict") none (Data.dict #[(DictEntry.mk (PyData.keyHash P "__module__") (Value.str "__module__" 298) (Value.str "cpy313.tabnanny" 289)), (DictEntry.mk (PyData.keyHash P "__firstlineno__") (Value.str "__firstlineno__" 302) (Value.int 6 301)), (DictEntry.mk (PyData.keyHash P "S") (Value.str "S" 306) (Value.str " " 304)), (DictEntry.mk (PyData.keyHash P "T") (Value.str "T" 307) (Value.str "\t" 305)), (DictEntry.mk (PyData.keyHash P "__init__") (Value.str "__init__" 322) (Value.ref 55)), (DictEntry.mk (PyData.keyHash P "longest_run_of_spaces") (Value.str "longest_run_of_spaces" 329) (Value.ref 62)), (DictEntry.mk (PyData.keyHash P "indent_level") (Value.str "indent_level" 341) (Value.ref 69)), (DictEntry.mk (PyData.keyHash P "equal") (Value.str "equal" 349) (Value.ref 76)), (DictEntry.mk (PyData.keyHash P "not_equal_witness") (Value.str "not_equal_witness" 357) (Value.ref 83)), (DictEntry.mk (PyData.keyHash P "less") (Value.str "less" 365) (Value.ref 90)), (DictEntry.mk (PyData.keyHash P "not_less_witness") (Value.str "not_less_witness" 373) (Value.ref 97)), (DictEntry.mk (PyData.keyHash P "__static_attributes__") (Value.str "__static_attributes__" 379) (Value.ref 98)), (DictEntry.mk (PyData.keyHash P "__dict__") (Value.str "__dict__" 381) (Value.ref 101)), (DictEntry.mk (PyData.keyHash P "__weakref__") (Value.str "__weakref__" 383) (Value.ref 102)), (DictEntry.mk (PyData.keyHash P "__doc__") (Value.str "__doc__" 384) Value.none)] 4) #[])
@[reducible] noncomputable def o100 (_ : Params) : Obj := (Obj.mk (Value.type "type") none (Data.cls (ClassData.mk "Whitespace" [(Value.type "object")] [(Value.ref 100), (Value.type "object")] 99 "Whitespace" true [] [] false none false)) #[none, none, (some (Value.str "Whitespace" 291)), (some (Value.str "Whitespace" 299)), (some (Value.builtin "object.__new__")), (some (Value.bool true))])
@[reducible] noncomputable def o101 (_ : Params) : Obj := (Obj.mk (Value.type "getset_descriptor") none (Data.fields #[(Value.str "__dict__" 380), (Value.ref 100), (Value.builtin "function.__dict__"), (Value.builtin "function.__dict__#set")]) #[])
@[reducible] noncomputable def o102 (_ : Params) : Obj := (Obj.mk (Value.type "getset_descriptor") none (Data.fields #[(Value.str "__weakref__" 382), (Value.ref 100), (Value.builtin "ExceptionGroup.__weakref__"), Value.none]) #[])
@[reducible] noncomputable def o105 (_ : Params) : Obj := (Obj.mk (Value.type "tuple") none (Data.seq #[] 0) #[])
@[reducible] noncomputable def o107 (_ : Params) : Obj := (Obj.mk (Value.type "tuple") none (Data.seq #[(Value.str "a" 392), (Value.str "b" 393)] 0) #[])
@[reducible] noncomputable def o108 (_ : Params) : Obj := (Obj.mk (Value.type "tuple") none (Data.seq #[] 0) #[])
@[reducible] noncomputable def o110 (_ : Params) : Obj := (Obj.mk (Value.type "code") none (Data.fields #[(Value.str "add" 389), (Value.str "add" 390), (Value.str "/claim/cut.py" 391), (Value.int 54 0), (Value.int 2 0), (Value.int 0 0), (Value.int 0 0), (Value.int 3 0), (Value.ref 105), (Value.bool true), (Value.int 276 0), (Value.ref 106), Value.none, (Value.ref 107), (Value.ref 108), (Value.ref 109), (Value.int 394 0), (Value.int 54 0), (Value.str "/claim/cut.py" 395)]) #[])
@[reducible] noncomputable def o111 (_ : Params) : Obj := (Obj.mk (Value.type "function") none (Data.func (FuncData.mk "add" "add" a5 (FuncBody.stmts b5) s11 3 [] Value.none Value.none Value.none (Value.str "cpy313.operator" 387) none (Value.ref 110) Value.none 0)) #[])
@[reducible] noncomputable def o112 (_ : Params) : Obj := (Obj.mk (Value.type "tuple") none (Data.seq #[] 0) #[])
@[reducible] noncomputable def o114 (_ : Params) : Obj := (Obj.mk (Value.type "tuple") none (Data.seq #[(Value.str "a" 400), (Value.str "b" 401)] 0) #[])
@[reducible] noncomputable def o115 (_ : Params) : Obj := (Obj.mk (Value.type "tuple") none (Data.seq #[] 0) #[])
@[reducible] noncomputable def o117 (_ : Params) : Obj := (Obj.mk (Value.type "code") none (Data.fields #[(Value.str "floordiv" 397), (Value.str "floordiv" 398), (Value.str "/claim/cut.py" 399), (Value.int 56 0), (Value.int 2 0), (Value.int 0 0), (Value.int 0 0), (Value.int 3 0), (Value.ref 112), (Value.bool true), (Value.int 276 0), (Value.ref 113), Value.none, (Value.ref 114), (Value.ref 115), (Value.ref 116), (Value.int 402 0), (Value.int 56 0), (Value.str "/claim/cut.py" 403)]) #[])
@[reducible] noncomputable def o118 (_ : Params) : Obj := (Obj.mk (Value.type "function") none (Data.func (FuncData.mk "floordiv" "floordiv" a6 (FuncBody.stmts b6) s11 3 [] Value.none Value.none Value.none (Value.str "cpy313.operator" 387) none (Value.ref 117) Value.none 0)) #[])
@[reducible] noncomputable def o119 (_ : Params) : Obj := (Obj.mk (Value.type "tuple") none (Data.seq #[] 0) #[])
@[reducible] noncomputable def o121 (_ : Params) : Obj := (Obj.mk (Value.type "tuple") none (Data.seq #[(Value.str "a" 408), (Value.str "b" 409)] 0) #[])
@[reducible] noncomputable def o122 (_ : Params) : Obj := (Obj.mk (Value.type "tuple") none (Data.seq #[] 0) #[])
@[reducible] noncomputable def o124 (_ : Params) : Obj := (Obj.mk (Value.type "code") none (Data.fields #[(Value.str "sub" 405), (Value.str "sub" 406), (Value.str "/claim/cut.py" 407), (Value.int 58 0), (Value.int 2 0), (Value.int 0 0), (Value.int 0 0), (Value.int 3 0), (Value.ref 119), (Value.bool true), (Value.int 276 0), (Value.ref 120), Value.none, (Value.ref 121), (Value.ref 122), (Value.ref 123), (Value.int 410 0), (Value.int 58 0), (Value.str "/claim/cut.py" 411)]) #[])
@[reducible] noncomputable def o125 (_ : Params) : Obj := (Obj.mk (Value.type "function") none (Data.func (FuncData.mk "sub" "sub" a7 (FuncBody.stmts b7) s11 3 [] Value.none Value.none Value.none (Value.str "cpy313.operator" 387) none (Value.ref 124) Value.none 0)) #[])
@[reducible] noncomputable def o126 (_ : Params) : Obj := (Obj.mk (Value.type "tuple") none (Data.seq #[] 0) #[])
@[reducible] noncomputable def o128 (_ : Params) : Obj := (Obj.mk (Value.type "tuple") none (Data.seq #[(Value.str "a" 416), (Value.str "b" 417), (Value.str "msg" 418)] 0) #[])
@[reducible] noncomputable def o129 (_ : Params) : Obj := (Obj.mk (Value.type "tuple") none (Data.seq #[] 0) #[])
@[reducible] noncomputable def o131 (_ : Params) : Obj := (Obj.mk (Value.type "code") none (Data.fields #[(Value.str "concat" 413), (Value.str "concat" 414), (Value.str "/claim/cut.py" 415), (Value.int 60 0), (Value.int 2 0), (Value.int 0 0), (Value.int 0 0), (Value.int 3 0), (Value.ref 126), (Value.bool true), (Value.int 276 0), (Value.ref 127), Value.none, (Value.ref 128), (Value.ref 129), (Value.ref 130), (Value.int 419 0), (Value.int 60 0), (Value.str "/claim/cut.py" 420)]) #[])
@[reducible] noncomputable def o132 (_ : Params) : Obj := (Obj.mk (Value.type "function") none (Data.func (FuncData.mk "concat" "concat" a8 (FuncBody.stmts b8) s8 3 [] Value.none Value.none Value.none (Value.str "cpy313.operator" 387) none (Value.ref 131) Value.none 0)) #[])
@[reducible] noncomputable def o133 (_ : Params) : Obj := (Obj.mk (Value.type "tuple") none (Data.seq #[] 0) #[])
@[reducible] noncomputable def o135 (_ : Params) : Obj := (Obj.mk (Value.type "tuple") none (Data.seq #[(Value.str "a" 425), (Value.str "b" 426), (Value.str "count" 427), (Value.str "i" 428)] 0) #[])
@[reducible] noncomputable def o136 (_ : Params) : Obj := (Obj.mk (Value.type "tuple") none (Data.seq #[] 0) #[])
@[reducible] noncomputable def o138 (_ : Params) : Obj := (Obj.mk (Value.type "code") none (Data.fields #[(Value.str "countOf" 422), (Value.str "countOf" 423), (Value.str "/claim/cut.py" 424), (Value.int 65 0), (Value.int 2 0), (Value.int 0 0), (Value.int 0 0), (Value.int 3 0), (Value.ref 133), (Value.bool true), (Value.int 276 0), (Value.ref 134), Value.none, (Value.ref 135), (Value.ref 136), (Value.ref 137), (Value.int 429 0), (Value.int 65 0), (Value.str "/claim/cut.py" 430)]) #[])
@[reducible] noncomputable def o139 (_ : Params) : Obj := (Obj.mk (Value.type "function") none (Data.func (FuncData.mk "countOf" "countOf" a9 (FuncBody.stmts b9) s9 3 [] Value.none Value.none Value.none (Value.str "cpy313.operator" 387) none (Value.ref 138) Value.none 0)) #[])
@[reducible] noncomputable def o140 (_ : Params) : Obj := (Obj.mk (Value.type "tuple") none (Data.seq #[] 0) #[])
@[reducible] noncomputable def o142 (_ : Params) : Obj := (Obj.mk (Value.type "tuple") none (Data.seq #[(Value.str "a" 435), (Value.str "b" 436)] 0) #[])
@[reducible] noncomputable def o143 (_ : Params) : Obj := (Obj.mk (Value.type "tuple") none (Data.seq #[] 0) #[])
@[reducible] noncomputable def o145 (_ : Params) : Obj := (Obj.mk (Value.type "code") none (Data.fields #[(Value.str "delitem" 432), (Value.str "delitem" 433), (Value.str "/claim/cut.py" 434), (Value.int 71 0), (Value.int 2 0), (Value.int 0 0), (Value.int 0 0), (Value.int 3 0), (Value.ref 140), (Value.bool true), (Value.int 276 0), (Value.ref 141), Value.none, (Value.ref 142), (Value.ref 143), (Value.ref 144), (Value.int 437 0), (Value.int 71 0), (Value.str "/claim/cut.py" 438)]) #[])
@[reducible] noncomputable def o146 (_ : Params) : Obj := (Obj.mk (Value.type "function") none (Data.func (FuncData.mk "delitem" "delitem" a10 (FuncBody.stmts b10) s11 3 [] Value.none Value.none Value.none (Value.str "cpy313.operator" 387) none (Value.ref 145) Value.none 0)) #[])
@[reducible] noncomputable def o147 (_ : Params) : Obj := (Obj.mk (Value.type "tuple") none (Data.seq #[] 0) #[])
@[reducible] noncomputable def o149 (_ : Params) : Obj := (Obj.mk (Value.type "tuple") none (Data.seq #[(Value.str "a" 443), (Value.str "b" 444)] 0) #[])
@[reducible] noncomputable def o150 (_ : Params) : Obj := (Obj.mk (Value.type "tuple") none (Data.seq #[] 0) #[])
@[reducible] noncomputable def o152 (_ : Params) : Obj := (Obj.mk (Value.type "code") none (Data.fields #[(Value.str "getitem" 440), (Value.str "getitem" 441), (Value.str "/claim/cut.py" 442), (Value.int 73 0), (Value.int 2 0), (Value.int 0 0), (Value.int 0 0), (Value.int 3 0), (Value.ref 147), (Value.bool true), (Value.int 276 0), (Value.ref 148), Value.none, (Value.ref 149), (Value.ref 150), (Value.ref 151), (Value.int 445 0), (Value.int 73 0), (Value.str "/claim/cut.py" 446)]) #[])
@[reducible] noncomputable def o153 (_ : Params) : Obj := (Obj.mk (Value.type "function") none (Data.func (FuncData.mk "getitem" "getitem" a11 (FuncBody.stmts b11) s11 3 [] Value.none Value.none Value.none (Value.str "cpy313.operator" 387) none (Value.ref 152) Value.none 0)) #[])
@[reducible] noncomputable def o154 (_ : Params) : Obj := (Obj.mk (Value.type "tuple") none (Data.seq #[] 0) #[])
@[reducible] noncomputable def o156 (_ : Params) : Obj := (Obj.mk (Value.type "tuple") none (Data.seq #[(Value.str "a" 451), (Value.str "b" 452), (Value.str "i" 453), (Value.str "j" 454)] 0) #[])
@[reducible] noncomputable def o157 (_ : Params) : Obj := (Obj.mk (Value.type "tuple") none (Data.seq #[] 0) #[])
@[reducible] noncomputable def o159 (_ : Params) : Obj := (Obj.mk (Value.type "code") none (Data.fields #[(Value.str "indexOf" 448), (Value.str "indexOf" 449), (Value.str "/claim/cut.py" 450), (Value.int 75 0), (Value.int 2 0), (Value.int 0 0), (Value.int 0 0), (Value.int 3 0), (Value.ref 154), (Value.bool true), (Value.int 276 0), (Value.ref 155), Value.none, (Value.ref 156), (Value.ref 157), (Value.ref 158), (Value.int 455 0), (Value.int 75 0), (Value.str "/claim/cut.py" 456)]) #[])
@[reducible] noncomputable def o160 (_ : Params) : Obj := (Obj.mk (Value.type "function") none (Data.func (FuncData.mk "indexOf" "indexOf" a12 (FuncBody.stmts b12) s12 3 [] Value.none Value.none Value.none (Value.str "cpy313.operator" 387) none (Value.ref 159) Value.none 0)) #[])
@[reducible] noncomputable def o161 (_ : Params) : Obj := (Obj.mk (Value.type "tuple") none (Data.seq #[] 0) #[])
@[reducible] noncomputable def o163 (_ : Params) : Obj := (Obj.mk (Value.type "tuple") none (Data.seq #[(Value.str "a" 461), (Value.str "b" 462), (Value.str "c" 463)] 0) #[])
@[reducible] noncomputable def o164 (_ : Params) : Obj := (Obj.mk (Value.type "tuple") none (Data.seq #[] 0) #[])
@[reducible] noncomputable def o166 (_ : Params) : Obj := (Obj.mk (Value.type "code") none (Data.fields #[(Value.str "setitem" 458), (Value.str "setitem" 459), (Value.str "/claim/cut.py" 460), (Value.int 81 0), (Value.int 3 0), (Value.int 0 0), (Value.int 0 0), (Value.int 3 0), (Value.ref 161), (Value.bool true), (Value.int 276 0), (Value.ref 162), Value.none, (Value.ref 163), (Value.ref 164), (Value.ref 165), (Value.int 464 0), (Value.int 81 0), (Value.str "/claim/cut.py" 465)]) #[])
@[reducible] noncomputable def o167 (_ : Params) : Obj := (Obj.mk (Value.type "function") none (Data.func (FuncData.mk "setitem" "setitem" a13 (FuncBody.stmts b13) s13 3 [] Value.none Value.none Value.none (Value.str "cpy313.operator" 387) none (Value.ref 166) Value.none 0)) #[])
@[reducible] noncomputable def o168 (_ : Params) : Obj := (Obj.mk (Value.type "tuple") none (Data.seq #[(Value.int 0 467)] 0) #[])
@[reducible] noncomputable def o169 (_ : Params) : Obj := (Obj.mk (Value.type "tuple") none (Data.seq #[] 0) #[])
@[reducible] noncomputable def o171 (_ : Params) : Obj := (Obj.mk (Value.type "tuple") none (Data.seq #[(Value.str "obj" 471), (Value.str "default" 472), (Value.str "msg" 473), (Value.str "hint" 474), (Value.str "val" 475)] 0) #[])
@[reducible] noncomputable def o172 (_ : Params) : Obj := (Obj.mk (Value.type "tuple") none (Data.seq #[] 0) #[])
@[reducible] noncomputable def o174 (_ : Params) : Obj := (Obj.mk (Value.type "code") none (Data.fields #[(Value.str "length_hint" 468), (Value.str "length_hint" 469), (Value.str "/claim/cut.py" 470), (Value.int 83 0), (Value.int 2 0), (Value.int 0 0), (Value.int 0 0), (Value.int 3 0), (Value.ref 169), (Value.bool true), (Value.int 276 0), (Value.ref 170), Value.none, (Value.ref 171), (Value.ref 172), (Value.ref 173), (Value.int 476 0), (Value.int 83 0), (Value.str "/claim/cut.py" 477)]) #[])
@[reducible] noncomputable def o175 (_ : Params) : Obj := (Obj.mk (Value.type "function") none (Data.func (FuncData.mk "length_hint" "length_hint" a14 (FuncBody.stmts b14) s14 3 [] (Value.ref 168) Value.none Value.none (Value.str "cpy313.operator" 387) none (Value.ref 174) Value.none 0)) #[])
@[reducible] noncomputable def o179 (_ : Params) : Obj := (Obj.mk (Value.type "tuple") none (Data.seq #[(Value.int 14 0), (Value.int 14 0), (Value.int 4 0), (Value.int 1 0), (Value.int 1 0), (Value.int 9 0), (Value.int 0 0), (Value.int 4227896069 0), (Value.int 939524097 0), (Value.int 0 0), (Value.int 0 0), (Value.int 0 0), (Value.int 0 0), (Value.int 0 0), (Value.int 0 0), (Value.int 13 0), (Value.int 11 0), (Value.int 9 0), (Value.int 0 0), (Value.int 4227896069 0), (Value.int 939524097 0), (Value.int 0 0), (Value.int 0 0), (Value.int 0 0), (Value.int 0 0), (Value.int 0 0), (Value.int 0 0), (Value.int 1 0)] 0) #[])
@[reducible] noncomputable def o180 (_ : Params) : Obj := (Obj.mk (Value.type "re.Pattern") none (Data.fields #[(Value.str "[ \\(\\)<>@,;:\\\\\"/\\[\\]\\?=]" 482), (Value.int 32 513), (Value.int 0 0), Value.none, Value.none, (Value.ref 179), (Value.int 0 0)]) #[])
@[reducible] noncomputable def o184 (_ : Params) : Obj := (Obj.mk (Value.type "tuple") none (Data.seq #[(Value.int 14 0), (Value.int 10 0), (Value.int 4 0), (Value.int 1 0), (Value.int 1 0), (Value.int 22 0), (Value.int 0 0), (Value.int 31 0), (Value.int 16 0), (Value.int 127 0), (Value.int 0 0), (Value.int 13 0), (Value.int 7 0), (Value.int 22 0), (Value.int 0 0), (Value.int 31 0), (Value.int 16 0), (Value.int 127 0), (Value.int 0 0), (Value.int 1 0)] 0) #[])
@[reducible] noncomputable def o185 (_ : Params) : Obj := (Obj.mk (Value.type "re.Pattern") none (Data.fields #[(Value.str "[\\x00-\\x1F\\x7F]" 516), (Value.int 32 539), (Value.int 0 0), Value.none, Value.none, (Value.ref 184), (Value.int 0 0)]) #[])
@[reducible] noncomputable def o189 (_ : Params) : Obj := (Obj.mk (Value.type "tuple") none (Data.seq #[(Value.int 14 0), (Value.int 14 0), (Value.int 4 0), (Value.int 1 0), (Value.int 1 0), (Value.int 9 0), (Value.int 4294966783 0), (Value.int 0 0), (Value.int 0 0), (Value.int 2147483648 0), (Value.int 0 0), (Value.int 0 0), (Value.int 0 0), (Value.int 0 0), (Value.int 0 0), (Value.int 13 0), (Value.int 11 0), (Value.int 9 0), (Value.int 4294966783 0), (Value.int 0 0), (Value.int 0 0), (Value.int 2147483648 0), (Value.int 0 0), (Value.int 0 0), (Value.int 0 0), (Value.int 0 0), (Value.int 0 0), (Value.int 1 0)] 0) #[])
@[reducible] noncomputable def o190 (_ : Params) : Obj := (Obj.mk (Value.type "re.Pattern") none (Data.fields #[(Value.str "[\\x00-\\x08\\x0A-\\x1F\\x7F]" 542), (Value.int 32 573), (Value.int 0 0), Value.none, Value.none, (Value.ref 189), (Value.int 0 0)]) #[])
@[reducible] noncomputable def o191 (_ : Params) : Obj := (Obj.mk (Value.type "tuple") none (Data.seq #[Value.none, (Value.int 1 575)] 0) #[])
@[reducible] noncomputable def o192 (_ : Params) : Obj := (Obj.mk (Value.type "tuple") none (Data.seq #[] 0) #[])
@[reducible] noncomputable def o194 (_ : Params) : Obj := (Obj.mk (Value.type "tuple") none (Data.seq #[(Value.str "param" 579), (Value.str "value" 580), (Value.str "quote" 581)] 0) #[])
@[reducible] noncomputable def o195 (_ : Params) : Obj := (Obj.mk (Value.type "tuple") none (Data.seq #[] 0) #[])
@[reducible] noncomputable def o197 (_ : Params) : Obj := (Obj.mk (Value.type "code") none (Data.fields #[(Value.str "_formatparam" 576), (Value.str "_formatparam" 577), (Value.str "/claim/cut.py" 578), (Value.int 112 0), (Value.int 3 0), (Value.int 0 0), (Value.int 0 0), (Value.int 3 0), (Value.ref 192), (Value.bool true), (Value.int 276 0), (Value.ref 193), Value.none, (Value.ref 194), (Value.ref 195), (Value.ref 196), (Value.int 582 0), (Value.int 112 0), (Value.str "/claim/cut.py" 583)]) #[])
@[reducible] noncomputable def o198 (_ : Params) : Obj := (Obj.mk (Value.type "function") none (Data.func (FuncData.mk "_formatparam" "_formatparam" a19 (FuncBody.stmts b19) s19 3 [] (Value.ref 191) Value.none Value.none (Value.str "cpy313.wsgiref.headers" 479) none (Value.ref 197) Value.none 0)) #[])
@[reducible] noncomputable def o206 (_ : Params) : Obj := (Obj.mk (Value.type "tuple") none (Data.seq #[Value.none] 0) #[])
@[reducible] noncomputable def o207 (_ : Params) : Obj := (Obj.mk (Value.type "tuple") none (Data.seq #[] 0) #[])
@[reducible] noncomputable def o209 (_ : Params) : Obj := (Obj.mk (Value.type "tuple") none (Data.seq #[(Value.str "self" 600), (Value.str "headers" 601), (Value.str "k" 602), (Value.str "v" 603)] 0) #[])
@[reducible] noncomputable def o210 (_ : Params) : Obj := (Obj.mk (Value.type "tuple") none (Data.seq #[] 0) #[])
@[reducible] noncomputable def o212 (_ : Params) : Obj := (Obj.mk (Value.type "code") none (Data.fields #[(Value.str "__init__" 597), (Value.str "Headers.__init__" 598), (Value.str "/claim/cut.py" 599), (Value.int 123 0), (Value.int 2 0), (Value.int 0 0), (Value.int 0 0), (Value.int 3 0), (Value.ref 207), (Value.bool true), (Value.int 276 0), (Value.ref 208), Value.none, (Value.ref 209), (Value.ref 210), (Value.ref 211), (Value.int 604 0), (Value.int 123 0), (Value.str "/claim/cut.py" 605)]) #[])
@[reducible] noncomputable def o213 (_ : Params) : Obj := (Obj.mk (Value.type "function") none (Data.func (FuncData.mk "__init__" "Headers.__init__" a20m0 (FuncBody.stmts b20m0) s20m0 3 [] (Value.ref 206) Value.none Value.none (Value.str "cpy313.wsgiref.headers" 479) none (Value.ref 212) Value.none 0)) #[])
@[reducible] noncomputable def o214 (_ : Params) : Obj := (Obj.mk (Value.type "tuple") none (Data.seq #[] 0) #[])
@[reducible] noncomputable def o216 (_ : Params) : Obj := (Obj.mk (Value.type "tuple") none (Data.seq #[(Value.str "self" 610), (Value.str "value" 611), (Value.str "name" 612), (Value.str "regex" 613)] 0) #[])
@[reducible] noncomputable def o217 (_ : Params) : Obj := (Obj.mk (Value.type "tuple") none (Data.seq #[] 0) #[])
@[reducible] noncomputable def o219 (_ : Params) : Obj := (Obj.mk (Value.type "code") none (Data.fields #[(Value.str "_convert_string_type" 607), (Value.str "Headers._convert_string_type" 608), (Value.str "/claim/cut.py" 609), (Value.int 133 0), (Value.int 2 0), (Value.int 0 0), (Value.int 1 0), (Value.int 3 0), (Value.ref 214), (Value.bool true), (Value.int 276 0), (Value.ref 215), Value.none, (Value.ref 216), (Value.ref 217), (Value.ref 218), (Value.int 614 0), (Value.int 133 0), (Value.str "/claim/cut.py" 615)]) #[])
@[reducible] noncomputable def o220 (_ : Params) : Obj := (Obj.mk (Value.type "function") none (Data.func (FuncData.mk "_convert_string_type" "Headers._convert_string_type" a20m1 (FuncBody.stmts b20m1) s20m1 3 [] Value.none Value.none Value.none (Value.str "cpy313.wsgiref.headers" 479) none (Value.ref 219) Value.none 0)) #[])
@[reducible] noncomputable def o221 (_ : Params) : Obj := (Obj.mk (Value.type "tuple") none (Data.seq #[] 0) #[])
@[reducible] noncomputable def o223 (_ : Params) : Obj := (Obj.mk (Value.type "tuple") none (Data.seq #[(Value.str "self" 620)] 0) #[])
@[reducible] noncomputable def o224 (_ : Params) : Obj := (Obj.mk (Value.type "tuple") none (Data.seq #[] 0) #[])
@[reducible] noncomputable def o226 (_ : Params) : Obj := (Obj.mk (Value.type "code") none (Data.fields #[(Value.str "__len__" 617), (Value.str "Headers.__len__" 618), (Value.str "/claim/cut.py" 619), (Value.int 141 0), (Value.int 1 0), (Value.int 0 0), (Value.int 0 0), (Value.int 3 0), (Value.ref 221), (Value.bool true), (Value.int 276 0), (Value.ref 222), Value.none, (Value.ref 223), (Value.ref 224), (Value.ref 225), (Value.int 621 0), (Value.int 141 0), (Value.str "/claim/cut.py" 622)]) #[])
@[reducible] noncomputable def o227 (_ : Params) : Obj := (Obj.mk (Value.type "function") none (Data.func (FuncData.mk "__len__" "Headers.__len__" a20m2 (FuncBody.stmts b20m2) s20m2 3 [] Value.none Value.none Value.none (Value.str "cpy313.wsgiref.headers" 479) none (Value.ref 226) Value.none 0)) #[])
@[reducible] noncomputable def o228 (_ : Params) : Obj := (Obj.mk (Value.type "tuple") none (Data.seq #[] 0) #[])
@[reducible] noncomputable def o230 (_ : Params) : Obj := (Obj.mk (Value.type "tuple") none (Data.seq #[(Value.str "self" 627), (Value.str "name" 628), (Value.str "val" 629)] 0) #[])
@[reducible] noncomputable def o231 (_ : Params) : Obj := (Obj.mk (Value.type "tuple") none (Data.seq #[] 0) #[])
@[reducible] noncomputable def o233 (_ : Params) : Obj := (Obj.mk (Value.type "code") none (Data.fields #[(Value.str "__setitem__" 624), (Value.str "Headers.__setitem__" 625), (Value.str "/claim/cut.py" 626), (Value.int 144 0), (Value.int 3 0), (Value.int 0 0), (Value.int 0 0), (Value.int 3 0), (Value.ref 228), (Value.bool true), (Value.int 276 0), (Value.ref 229), Value.none, (Value.ref 230), (Value.ref 231), (Value.ref 232), (Value.int 630 0), (Value.int 144 0), (Value.str "/claim/cut.py" 631)]) #[])
@[reducible] noncomputable def o234 (_ : Params) : Obj := (Obj.mk (Value.type "function") none (Data.func (FuncData.mk "__setitem__" "Headers.__setitem__" a20m3 (FuncBody.stmts b20m3) s20m3 3 [] Value.none Value.none Value.none (Value.str "cpy313.wsgiref.headers" 479) none (Value.ref 233) Value.none 0)) #[])
@[reducible] noncomputable def o235 (_ : Params) : Obj := (Obj.mk (Value.type "tuple") none (Data.seq #[] 0) #[])
@[reducible] noncomputable def o238 (_ : Params) : Obj := (Obj.mk (Value.type "code") none (Data.fields #[(Value.str "__delitem__" 633), (Value.str "Headers.__delitem__" 634), (Value.str "/claim/cut.py" 635), (Value.int 148 0), (Value.int 2 0), (Value.int 0 0), (Value.int 0 0), (Value.int 3 0), (Value.ref 235), (Value.bool true), (Value.int 276 0), (Value.ref 236), Value.none, Value.none, Value.none, (Value.ref 237), (Value.int 636 0), (Value.int 148 0), (Value.str "/claim/cut.py" 637)]) #[])
@[reducible] noncomputable def o239 (_ : Params) : Obj := (Obj.mk (Value.type "function") none (Data.func (FuncData.mk "__delitem__" "Headers.__delitem__" a20m4 (FuncBody.stmts b20m4) s20m4 3 [] Value.none Value.none Value.none (Value.str "cpy313.wsgiref.headers" 479) none (Value.ref 238) Value.none 0)) #[])
@[reducible] noncomputable def o240 (_ : Params) : Obj := (Obj.mk (Value.type "tuple") none (Data.seq #[] 0) #[])
@[reducible] noncomputable def o242 (_ : Params) : Obj := (Obj.mk (Value.type "tuple") none (Data.seq #[(Value.str "self" 642), (Value.str "name" 643)] 0) #[])
@[reducible] noncomputable def o243 (_ : Params) : Obj := (Obj.mk (Value.type "tuple") none (Data.seq #[] 0) #[])
@[reducible] noncomputable def o245 (_ : Params) : Obj := (Obj.mk (Value.type "code") none (Data.fields #[(Value.str "__getitem__" 639), (Value.str "Headers.__getitem__" 640), (Value.str "/claim/cut.py" 641), (Value.int 152 0), (Value.int 2 0), (Value.int 0 0), (Value.int 0 0), (Value.int 3 0), (Value.ref 240), (Value.bool true), (Value.int 276 0), (Value.ref 241), Value.none, (Value.ref 242), (Value.ref 243), (Value.ref 244), (Value.int 644 0), (Value.int 152 0), (Value.str "/claim/cut.py" 645)]) #[])
@[reducible] noncomputable def o246 (_ : Params) : Obj := (Obj.mk (Value.type "function") none (Data.func (FuncData.mk "__getitem__" "Headers.__getitem__" a20m5 (FuncBody.stmts b20m5) s20m6 3 [] Value.none Value.none Value.none (Value.str "cpy313.wsgiref.headers" 479) none (Value.ref 245) Value.none 0)) #[])
@[reducible] noncomputable def o247 (_ : Params) : Obj := (Obj.mk (Value.type "tuple") none (Data.seq #[] 0) #[])
@[reducible] noncomputable def o249 (_ : Params) : Obj := (Obj.mk (Value.type "tuple") none (Data.seq #[(Value.str "self" 650), (Value.str "name" 651)] 0) #[])
@[reducible] noncomputable def o250 (_ : Params) : Obj := (Obj.mk (Value.type "tuple") none (Data.seq #[] 0) #[])
@[reducible] noncomputable def o252 (_ : Params) : Obj := (Obj.mk (Value.type "code") none (Data.fields #[(Value.str "__contains__" 647), (Value.str "Headers.__contains__" 648), (Value.str "/claim/cut.py" 649), (Value.int 155 0), (Value.int 2 0), (Value.int 0 0), (Value.int 0 0), (Value.int 3 0), (Value.ref 247), (Value.bool true), (Value.int 276 0), (Value.ref 248), Value.none, (Value.ref 249), (Value.ref 250), (Value.ref 251), (Value.int 652 0), (Value.int 155 0), (Value.str "/claim/cut.py" 653)]) #[])
@[reducible] noncomputable def o253 (_ : Params) : Obj := (Obj.mk (Value.type "function") none (Data.func (FuncData.mk "__contains__" "Headers.__contains__" a20m6 (FuncBody.stmts b20m6) s20m6 3 [] Value.none Value.none Value.none (Value.str "cpy313.wsgiref.headers" 479) none (Value.ref 252) Value.none 0)) #[])
@[reducible] noncomputable def o254 (_ : Params) : Obj := (Obj.mk (Value.type "tuple") none (Data.seq #[] 0) #[])
@[reducible] noncomputable def o256 (_ : Params) : Obj := (Obj.mk (Value.type "tuple") none (Data.seq #[(Value.str "self" 658), (Value.str "name" 659)] 0) #[])
@[reducible] noncomputable def o257 (_ : Params) : Obj := (Obj.mk (Value.type "tuple") none (Data.seq #[] 0) #[])
@[reducible] noncomputable def o259 (_ : Params) : Obj := (Obj.mk (Value.type "code") none (Data.fields #[(Value.str "get_all" 655), (Value.str "Headers.get_all" 656), (Value.str "/claim/cut.py" 657), (Value.int 158 0), (Value.int 2 0), (Value.int 0 0), (Value.int 0 0), (Value.int 3 0), (Value.ref 254), (Value.bool true), (Value.int 276 0), (Value.ref 255), Value.none, (Value.ref 256), (Value.ref 257), (Value.ref 258), (Value.int 660 0), (Value.int 158 0), (Value.str "/claim/cut.py" 661)]) #[])
@[reducible] noncomputable def o260 (_ : Params) : Obj := (Obj.mk (Value.type "function") none (Data.func (FuncData.mk "get_all" "Headers.get_all" a20m7 (FuncBody.stmts b20m7) s20m7 3 [] Value.none Value.none Value.none (Value.str "cpy313.wsgiref.headers" 479) none (Value.ref 259) Value.none 0)) #[])
@[reducible] noncomputable def o261 (_ : Params) : Obj := (Obj.mk (Value.type "tuple") none (Data.seq #[Value.none] 0) #[])
@[reducible] noncomputable def o262 (_ : Params) : Obj := (Obj.mk (Value.type "tuple") none (Data.seq #[] 0) #[])
@[reducible] noncomputable def o264 (_ : Params) : Obj := (Obj.mk (Value.type "tuple") none (Data.seq #[(Value.str "self" 666), (Value.str "name" 667), (Value.str "default" 668), (Value.str "k" 669), (Value.str "v" 670)] 0) #[])
@[reducible] noncomputable def o265 (_ : Params) : Obj := (Obj.mk (Value.type "tuple") none (Data.seq #[] 0) #[])
@[reducible] noncomputable def o267 (_ : Params) : Obj := (Obj.mk (Value.type "code") none (Data.fields #[(Value.str "get" 663), (Value.str "Headers.get" 664), (Value.str "/claim/cut.py" 665), (Value.int 161 0), (Value.int 3 0), (Value.int 0 0), (Value.int 0 0), (Value.int 3 0), (Value.ref 262), (Value.bool true), (Value.int 276 0), (Value.ref 263), Value.none, (Value.ref 264), (Value.ref 265), (Value.ref 266), (Value.int 671 0), (Value.int 161 0), (Value.str "/claim/cut.py" 672)]) #[])
@[reducible] noncomputable def o268 (_ : Params) : Obj := (Obj.mk (Value.type "function") none (Data.func (FuncData.mk "get" "Headers.get" a20m8 (FuncBody.stmts b20m8) s20m8 3 [] (Value.ref 261) Value.none Value.none (Value.str "cpy313.wsgiref.headers" 479) none (Value.ref 267) Value.none 0)) #[])
@[reducible] noncomputable def o269 (_ : Params) : Obj := (Obj.mk (Value.type "tuple") none (Data.seq #[] 0) #[])
@[reducible] noncomputable def o272 (_ : Params) : Obj := (Obj.mk (Value.type "code") none (Data.fields #[(Value.str "keys" 674), (Value.str "Headers.keys" 675), (Value.str "/claim/cut.py" 676), (Value.int 168 0), (Value.int 1 0), (Value.int 0 0), (Value.int 0 0), (Value.int 3 0), (Value.ref 269), (Value.bool true), (Value.int 276 0), (Value.ref 270), Value.none, Value.none, Value.none, (Value.ref 271), (Value.int 677 0), (Value.int 168 0), (Value.str "/claim/cut.py" 678)]) #[])
@[reducible] noncomputable def o273 (_ : Params) : Obj := (Obj.mk (Value.type "function") none (Data.func (FuncData.mk "keys" "Headers.keys" a20m9 (FuncBody.stmts b20m9) s20m10 3 [] Value.none Value.none Value.none (Value.str "cpy313.wsgiref.headers" 479) none (Value.ref 272) Value.none 0)) #[])
@[reducible] noncomputable def o274 (_ : Params) : Obj := (Obj.mk (Value.type "tuple") none (Data.seq #[] 0) #[])
@[reducible] noncomputable def o277 (_ : Params) : Obj := (Obj.mk (Value.type "code") none (Data.fields #[(Value.str "values" 680), (Value.str "Headers.values" 681), (Value.str "/claim/cut.py" 682), (Value.int 171 0), (Value.int 1 0), (Value.int 0 0), (Value.int 0 0), (Value.int 3 0), (Value.ref 274), (Value.bool true), (Value.int 276 0), (Value.ref 275), Value.none, Value.none, Value.none, (Value.ref 276), (Value.int 683 0), (Value.int 171 0), (Value.str "/claim/cut.py" 684)]) #[])
@[reducible] noncomputable def o278 (_ : Params) : Obj := (Obj.mk (Value.type "function") none (Data.func (FuncData.mk "values" "Headers.values" a20m10 (FuncBody.stmts b20m10) s20m10 3 [] Value.none Value.none Value.none (Value.str "cpy313.wsgiref.headers" 479) none (Value.ref 277) Value.none 0)) #[])
@[reducible] noncomputable def o279 (_ : Params) : Obj := (Obj.mk (Value.type "tuple") none (Data.seq #[] 0) #[])
@[reducible] noncomputable def o281 (_ : Params) : Obj := (Obj.mk (Value.type "tuple") none (Data.seq #[(Value.str "self" 689)] 0) #[])
@[reducible] noncomputable def o282 (_ : Params) : Obj := (Obj.mk (Value.type "tuple") none (Data.seq #[] 0) #[])
@[reducible] noncomputable def o284 (_ : Params) : Obj := (Obj.mk (Value.type "code") none (Data.fields #[(Value.str "items" 686), (Value.str "Headers.items" 687), (Value.str "/claim/cut.py" 688), (Value.int 174 0), (Value.int 1 0), (Value.int 0 0), (Value.int 0 0), (Value.int 3 0), (Value.ref 279), (Value.bool true), (Value.int 276 0), (Value.ref 280), Value.none, (Value.ref 281), (Value.ref 282), (Value.ref 283), (Value.int 690 0), (Value.int 174 0), (Value.str "/claim/cut.py" 691)]) #[])
@[reducible] noncomputable def o285 (_ : Params) : Obj := (Obj.mk (Value.type "function") none (Data.func (FuncData.mk "items" "Headers.items" a20m11 (FuncBody.stmts b20m11) s20m12 3 [] Value.none Value.none Value.none (Value.str "cpy313.wsgiref.headers" 479) none (Value.ref 284) Value.none 0)) #[])
@[reducible] noncomputable def o286 (_ : Params) : Obj := (Obj.mk (Value.type "tuple") none (Data.seq #[] 0) #[])
@[reducible] noncomputable def o288 (_ : Params) : Obj := (Obj.mk (Value.type "tuple") none (Data.seq #[(Value.str "self" 696)] 0) #[])
@[reducible] noncomputable def o289 (_ : Params) : Obj := (Obj.mk (Value.type "tuple") none (Data.seq #[] 0) #[])
@[reducible] noncomputable def o291 (_ : Params) : Obj := (Obj.mk (Value.type "code") none (Data.fields #[(Value.str "__repr__" 693), (Value.str "Headers.__repr__" 694), (Value.str "/claim/cut.py" 695), (Value.int 177 0), (Value.int 1 0), (Value.int 0 0), (Value.int 0 0), (Value.int 3 0), (Value.ref 286), (Value.bool true), (Value.int 276 0), (Value.ref 287), Value.none, (Value.ref 288), (Value.ref 289), (Value.ref 290), (Value.int 697 0), (Value.int 177 0), (Value.str "/claim/cut.py" 698)]) #[])
@[reducible] noncomputable def o292 (_ : Params) : Obj := (Obj.mk (Value.type "function") none (Data.func (FuncData.mk "__repr__" "Headers.__repr__" a20m12 (FuncBody.stmts b20m12) s20m12 3 [] Value.none Value.none Value.none (Value.str "cpy313.wsgiref.headers" 479) none (Value.ref 291) Value.none 0)) #[])
@[reducible] noncomputable def o293 (_ : Params) : Obj := (Obj.mk (Value.type "tuple") none (Data.seq #[] 0) #[])
@[reducible] noncomputable def o296 (_ : Params) : Obj := (Obj.mk (Value.type "code") none (Data.fields #[(Value.str "__str__" 700), (Value.str "Headers.__str__" 701), (Value.str "/claim/cut.py" 702), (Value.int 180 0), (Value.int 1 0), (Value.int 0 0), (Value.int 0 0), (Value.int 3 0), (Value.ref 293), (Value.bool true), (Value.int 276 0), (Value.ref 294), Value.none, Value.none, Value.none, (Value.ref 295), (Value.int 703 0), (Value.int 180 0), (Value.str "/claim/cut.py" 704)]) #[])
@[reducible] noncomputable def o297 (_ : Params) : Obj := (Obj.mk (Value.type "function") none (Data.func (FuncData.mk "__str__" "Headers.__str__" a20m13 (FuncBody.stmts b20m13) s20m13 3 [] Value.none Value.none Value.none (Value.str "cpy313.wsgiref.headers" 479) none (Value.ref 296) Value.none 0)) #[])
@[reducible] noncomputable def o298 (_ : Params) : Obj := (Obj.mk (Value.type "tuple") none (Data.seq #[] 0) #[])
@[reducible] noncomputable def o300 (_ : Params) : Obj := (Obj.mk (Value.type "tuple") none (Data.seq #[(Value.str "self" 709)] 0) #[])
@[reducible] noncomputable def o301 (_ : Params) : Obj := (Obj.mk (Value.type "tuple") none (Data.seq #[] 0) #[])
@[reducible] noncomputable def o303 (_ : Params) : Obj := (Obj.mk (Value.type "code") none (Data.fields #[(Value.str "__bytes__" 706), (Value.str "Headers.__bytes__" 707), (Value.str "/claim/cut.py" 708), (Value.int 183 0), (Value.int 1 0), (Value.int 0 0), (Value.int 0 0), (Value.int 3 0), (Value.ref 298), (Value.bool true), (Value.int 276 0), (Value.ref 299), Value.none, (Value.ref 300), (Value.ref 301), (Value.ref 302), (Value.int 710 0), (Value.int 183 0), (Value.str "/claim/cut.py" 711)]) #[])
@[reducible] noncomputable def o304 (_ : Params) : Obj := (Obj.mk (Value.type "function") none (Data.func (FuncData.mk "__bytes__" "Headers.__bytes__" a20m14 (FuncBody.stmts b20m14) s20m14 3 [] Value.none Value.none Value.none (Value.str "cpy313.wsgiref.headers" 479) none (Value.ref 303) Value.none 0)) #[])
@[reducible] noncomputable def o305 (_ : Params) : Obj := (Obj.mk (Value.type "tuple") none (Data.seq #[] 0) #[])
@[reducible] noncomputable def o307 (_ : Params) : Obj := (Obj.mk (Value.type "tuple") none (Data.seq #[(Value.str "self" 716), (Value.str "name" 717), (Value.str "value" 718)] 0) #[])
@[reducible] noncomputable def o308 (_ : Params) : Obj := (Obj.mk (Value.type "tuple") none (Data.seq #[] 0) #[])
@[reducible] noncomputable def o310 (_ : Params) : Obj := (Obj.mk (Value.type "code") none (Data.fields #[(Value.str "setdefault" 713), (Value.str "Headers.setdefault" 714), (Value.str "/claim/cut.py" 715), (Value.int 186 0), (Value.int 3 0), (Value.int 0 0), (Value.int 0 0), (Value.int 3 0), (Value.ref 305), (Value.bool true), (Value.int 276 0), (Value.ref 306), Value.none, (Value.ref 307), (Value.ref 308), (Value.ref 309), (Value.int 719 0), (Value.int 186 0), (Value.str "/claim/cut.py" 720)]) #[])
@[reducible] noncomputable def o311 (_ : Params) : Obj := (Obj.mk (Value.type "function") none (Data.func (FuncData.mk "setdefault" "Headers.setdefault" a20m15 (FuncBody.stmts b20m15) s20m15 3 [] Value.none Value.none Value.none (Value.str "cpy313.wsgiref.headers" 479) none (Value.ref 310) Value.none 0)) #[])
@[reducible] noncomputable def o312 (_ : Params) : Obj := (Obj.mk (Value.type "tuple") none (Data.seq #[] 0) #[])
@[reducible] noncomputable def o314 (_ : Params) : Obj := (Obj.mk (Value.type "tuple") none (Data.seq #[(Value.str "self" 725), (Value.str "_name" 726), (Value.str "_value" 727), (Value.str "_params" 728), (Value.str "parts" 729), (Value.str "k" 730), (Value.str "v" 731)] 0) #[])
@[reducible] noncomputable def o315 (_ : Params) : Obj := (Obj.mk (Value.type "tuple") none (Data.seq #[] 0) #[])
@[reducible] noncomputable def o317 (_ : Params) : Obj := (Obj.mk (Value.type "code") none (Data.fields #[(Value.str "add_header" 722), (Value.str "Headers.add_header" 723), (Value.str "/claim/cut.py" 724), (Value.int 189 0), (Value.int 3 0), (Value.int 0 0), (Value.int 0 0), (Value.int 11 0), (Value.ref 312), (Value.bool true), (Value.int 276 0), (Value.ref 313), Value.none, (Value.ref 314), (Value.ref 315), (Value.ref 316), (Value.int 732 0), (Value.int 189 0), (Value.str "/claim/cut.py" 733)]) #[])
@[reducible] noncomputable def o318 (_ : Params) : Obj := (Obj.mk (Value.type "function") none (Data.func (FuncData.mk "add_header" "Headers.add_header" a20m16 (FuncBody.stmts b20m16) s20m16 3 [] Value.none Value.none Value.none (Value.str "cpy313.wsgiref.headers" 479) none (Value.ref 317) Value.none 0)) #[])
@[reducible] noncomputable def o319 (_ : Params) : Obj := (Obj.mk (Value.type "tuple") none (Data.seq #[(Value.str "_headers" 735)] 0) #[])
@[reducible] noncomputable def o320 (P : Params) : Obj := (Obj.mk (Value.type "dict") none (Data.dict #[(DictEntry.mk (PyData.keyHash P "__module__") (Value.str "__module__" 592) (Value.str "cpy313.wsgiref.headers" 479)), (DictEntry.mk (PyData.keyHash P "__firstlineno__") (Value.str "__firstlineno__" 596) (Value.int 121 595)), (DictEntry.mk (PyData.keyHash P "__init__") (Value.str "__init__" 606) (Value.ref 213)), (DictEntry.mk (PyData.keyHash P "_convert_string_type") (Value.str "_convert_string_type" 616) (Value.ref 220)), (DictEntry.mk (PyData.keyHash P "__len__") (Value.str "__len__" 623) (Value.ref 227)), (DictEntry.mk (PyData.keyHash P "__setitem__") (Value.str "__setitem__" 632) (Value.ref 234)), (DictEntry.mk (PyData.keyHash P "__delitem__") (Value.str "__delitem__" 638) (Value.ref 239)), (DictEntry.mk (PyData.keyHash P "__getitem__") (Value.str "__getitem__" 646) (Value.ref 246)), (DictEntry.mk (PyData.keyHash P "__contains__") (Value.str "__contains__" 654) (Value.ref 253)), (DictEntry.mk (PyData.keyHash P "get_all") (Value.str "get_all" 662) (Value.ref 260)), (DictEntry.mk (PyData.keyHash P "get") (Value.str "get" 673) (Value.ref 268)), (DictEntry.mk (PyData.keyHash P "keys") (Value.str "keys" 679) (Value.ref 273)), (DictEntry.mk (PyData.keyHash P "values") (Value.str "values" 685) (Value.ref 278)), (DictEntry.mk (PyData.keyHash P "items") (Value.str "items" 692) (Value.ref 285)), (DictEntry.mk (PyData.keyHash P "__repr__") (Value.str "__repr__" 699) (Value.ref 292)), (DictEntry.mk (PyData.keyHash P "__str__") (Value.str "__str__" 705) (Value.ref 297)), (DictEntry.mk (PyData.keyHash P "__bytes__") (Value.str "__bytes__" 712) (Value.ref 304)), (DictEntry.mk (PyData.keyHash P "setdefault") (Value.str "setdefault" 721) (Value.ref 311)), (DictEntry.mk (PyData.keyHash P "add_header") (Value.str "add_header" 734) (Value.ref 318)), (DictEntry.mk (PyData.keyHash P "__static_attributes__") (Value.str "__static_attributes__" 736) (Value.ref 319)), (DictEntry.mk (PyData.keyHash P "__dict__") (Value.str "__dict__" 738) (Value.ref 322)), (DictEntry.mk (PyData.keyHash P "__weakref__") (Value.str "__weakref__" 740) (Value.ref 323)), (DictEntry.mk (PyData.keyHash P "__doc__") (Value.str "__doc__" 741) Value.none)] 4) #[])
@[reducible] noncomputable def o321 (_ : Params) : Obj := (Obj.mk (Value.type "type") none (Data.cls (ClassData.mk "Headers" [(Value.type "object")] [(Value.ref 321), (Value.type "object")] 320 "Headers" true [] [] false none false)) #[none, none, (some (Value.str "Headers" 585)), (some (Value.str "Headers" 593)), (some (Value.builtin "object.__new__")), (some (Value.bool true))])
@[reducible] noncomputable def o322 (_ : Params) : Obj := (Obj.mk (Value.type "getset_descriptor") none (Data.fields #[(Value.str "__dict__" 737), (Value.ref 321), (Value.builtin "function.__dict__"), (Value.builtin "function.__dict__#set")]) #[])
@[reducible] noncomputable def o323 (_ : Params) : Obj := (Obj.mk (Value.type "getset_descriptor") none (Data.fields #[(Value.str "__weakref__" 739), (Value.ref 321), (Value.builtin "ExceptionGroup.__weakref__"), Value.none]) #[])
@[reducible] noncomputable def o326 (_ : Params) : Obj := (Obj.mk (Value.type "tuple") none (Data.seq #[] 0) #[])
@[reducible] noncomputable def o328 (_ : Params) : Obj := (Obj.mk (Value.type "tuple") none (Data.seq #[(Value.str "text" 749)] 0) #[])
@[reducible] noncomputable def o329 (_ : Params) : Obj := (Obj.mk (Value.type "tuple") none (Data.seq #[] 0) #[])
@[reducible] noncomputable def o331 (_ : Params) : Obj := (Obj.mk (Value.type "code") none (Data.fields #[(Value.str "_raise_serialization_error" 746), (Value.str "_raise_serialization_error" 747), (Value.str "/claim/cut.py" 748), (Value.int 203 0), (Value.int 1 0), (Value.int 0 0), (Value.int 0 0), (Value.int 3 0), (Value.ref 326), (Value.bool true), (Value.int 276 0), (Value.ref 327), Value.none, (Value.ref 328), (Value.ref 329), (Value.ref 330), (Value.int 750 0), (Value.int 203 0), (Value.str "/claim/cut.py" 751)]) #[])
@[reducible] noncomputable def o332 (_ : Params) : Obj := (Obj.mk (Value.type "function") none (Data.func (FuncData.mk "_raise_serialization_error" "_raise_serialization_error" a22 (FuncBody.stmts b22) s22 3 [] Value.none Value.none Value.none (Value.str "cpy313.xml.etree.ElementTree" 744) none (Value.ref 331) Value.none 0)) #[])
@[reducible] noncomputable def o333 (_ : Params) : Obj := (Obj.mk (Value.type "tuple") none (Data.seq #[] 0) #[])
@[reducible] noncomputable def o335 (_ : Params) : Obj := (Obj.mk (Value.type "tuple") none (Data.seq #[(Value.str "text" 756)] 0) #[])
@[reducible] noncomputable def o336 (_ : Params) : Obj := (Obj.mk (Value.type "tuple") none (Data.seq #[] 0) #[])
@[reducible] noncomputable def o338 (_ : Params) : Obj := (Obj.mk (Value.type "code") none (Data.fields #[(Value.str "_escape_attrib" 753), (Value.str "_escape_attrib" 754), (Value.str "/claim/cut.py" 755), (Value.int 205 0), (Value.int 1 0), (Value.int 0 0), (Value.int 0 0), (Value.int 3 0), (Value.ref 333), (Value.bool true), (Value.int 276 0), (Value.ref 334), Value.none, (Value.ref 335), (Value.ref 336), (Value.ref 337), (Value.int 757 0), (Value.int 205 0), (Value.str "/claim/cut.py" 758)]) #[])
@[reducible] noncomputable def o339 (_ : Params) : Obj := (Obj.mk (Value.type "function") none (Data.func (FuncData.mk "_escape_attrib" "_escape_attrib" a23 (FuncBody.stmts b23) s23 3 [] Value.none Value.none Value.none (Value.str "cpy313.xml.etree.ElementTree" 744) none (Value.ref 338) Value.none 0)) #[])
@[reducible] noncomputable def o340 (_ : Params) : Obj := (Obj.mk (Value.type "tuple") none (Data.seq #[] 0) #[])
@[reducible] noncomputable def o343 (_ : Params) : Obj := (Obj.mk (Value.type "code") none (Data.fields #[(Value.str "_law_cells" 762), (Value.str "_law_cells" 763), (Value.str "/claim/cut.py" 764), (Value.int 225 0), (Value.int 1 0), (Value.int 0 0), (Value.int 0 0), (Value.int 3 0), (Value.ref 340), (Value.bool true), (Value.int 276 0), (Value.ref 341), Value.none, Value.none, Value.none, (Value.ref 342), (Value.int 765 0), (Value.int 225 0), (Value.str "/claim/cut.py" 766)]) #[])
@[reducible] noncomputable def o344 (_ : Params) : Obj := (Obj.mk (Value.type "function") none (Data.func (FuncData.mk "_law_cells" "_law_cells" a25 (FuncBody.stmts b25) s25 3 [] Value.none Value.none Value.none (Value.str "law_tc0087_01" 760) none (Value.ref 343) Value.none 0)) #[])
@[reducible] noncomputable def o345 (_ : Params) : Obj := (Obj.mk (Value.type "tuple") none (Data.seq #[] 0) #[])
@[reducible] noncomputable def o347 (_ : Params) : Obj := (Obj.mk (Value.type "tuple") none (Data.seq #[(Value.str "cells" 771), (Value.str "depths" 772), (Value.str "cell" 773)] 0) #[])
@[reducible] noncomputable def o348 (_ : Params) : Obj := (Obj.mk (Value.type "tuple") none (Data.seq #[] 0) #[])
@[reducible] noncomputable def o350 (_ : Params) : Obj := (Obj.mk (Value.type "code") none (Data.fields #[(Value.str "_law_depths" 768), (Value.str "_law_depths" 769), (Value.str "/claim/cut.py" 770), (Value.int 228 0), (Value.int 1 0), (Value.int 0 0), (Value.int 0 0), (Value.int 3 0), (Value.ref 345), (Value.bool true), (Value.int 276 0), (Value.ref 346), Value.none, (Value.ref 347), (Value.ref 348), (Value.ref 349), (Value.int 774 0), (Value.int 228 0), (Value.str "/claim/cut.py" 775)]) #[])
@[reducible] noncomputable def o351 (_ : Params) : Obj := (Obj.mk (Value.type "function") none (Data.func (FuncData.mk "_law_depths" "_law_depths" a26 (FuncBody.stmts b26) s26 3 [] Value.none Value.none Value.none (Value.str "law_tc0087_01" 760) none (Value.ref 350) Value.none 0)) #[])
@[reducible] noncomputable def o352 (_ : Params) : Obj := (Obj.mk (Value.type "tuple") none (Data.seq #[] 0) #[])
@[reducible] noncomputable def o355 (_ : Params) : Obj := (Obj.mk (Value.type "code") none (Data.fields #[(Value.str "_law_heads" 777), (Value.str "_law_heads" 778), (Value.str "/claim/cut.py" 779), (Value.int 233 0), (Value.int 1 0), (Value.int 0 0), (Value.int 0 0), (Value.int 3 0), (Value.ref 352), (Value.bool true), (Value.int 276 0), (Value.ref 353), Value.none, Value.none, Value.none, (Value.ref 354), (Value.int 780 0), (Value.int 233 0), (Value.str "/claim/cut.py" 781)]) #[])
@[reducible] noncomputable def o356 (_ : Params) : Obj := (Obj.mk (Value.type "function") none (Data.func (FuncData.mk "_law_heads" "_law_heads" a27 (FuncBody.stmts b27) s27 3 [] Value.none Value.none Value.none (Value.str "law_tc0087_01" 760) none (Value.ref 355) Value.none 0)) #[])
@[reducible] noncomputable def o357 (_ : Params) : Obj := (Obj.mk (Value.type "tuple") none (Data.seq #[] 0) #[])
@[reducible] noncomputable def o359 (_ : Params) : Obj := (Obj.mk (Value.type "tuple") none (Data.seq #[(Value.str "k" 786), (Value.str "depth" 787), (Value.str "cell" 788), (Value.str "size" 789), (Value.str "lead" 790), (Value.str "j" 791), (Value.str "blanks" 792)] 0) #[])
@[reducible] noncomputable def o360 (_ : Params) : Obj := (Obj.mk (Value.type "tuple") none (Data.seq #[] 0) #[])
@[reducible] noncomputable def o362 (_ : Params) : Obj := (Obj.mk (Value.type "code") none (Data.fields #[(Value.str "_law_lead" 783), (Value.str "_law_lead" 784), (Value.str "/claim/cut.py" 785), (Value.int 236 0), (Value.int 4 0), (Value.int 0 0), (Value.int 0 0), (Value.int 3 0), (Value.ref 357), (Value.bool true), (Value.int 276 0), (Value.ref 358), Value.none, (Value.ref 359), (Value.ref 360), (Value.ref 361), (Value.int 793 0), (Value.int 236 0), (Value.str "/claim/cut.py" 794)]) #[])
@[reducible] noncomputable def o363 (_ : Params) : Obj := (Obj.mk (Value.type "function") none (Data.func (FuncData.mk "_law_lead" "_law_lead" a28 (FuncBody.stmts b28) s28 3 [] Value.none Value.none Value.none (Value.str "law_tc0087_01" 760) none (Value.ref 362) Value.none 0)) #[])
@[reducible] noncomputable def o364 (_ : Params) : Obj := (Obj.mk (Value.type "tuple") none (Data.seq #[] 0) #[])
@[reducible] noncomputable def o366 (_ : Params) : Obj := (Obj.mk (Value.type "tuple") none (Data.seq #[(Value.str "depths" 799), (Value.str "heads" 800), (Value.str "texts" 801), (Value.str "k" 802), (Value.str "depth" 803), (Value.str "row" 804)] 0) #[])
@[reducible] noncomputable def o367 (_ : Params) : Obj := (Obj.mk (Value.type "tuple") none (Data.seq #[] 0) #[])
@[reducible] noncomputable def o369 (_ : Params) : Obj := (Obj.mk (Value.type "code") none (Data.fields #[(Value.str "_law_nested" 796), (Value.str "_law_nested" 797), (Value.str "/claim/cut.py" 798), (Value.int 244 0), (Value.int 2 0), (Value.int 0 0), (Value.int 0 0), (Value.int 3 0), (Value.ref 364), (Value.bool true), (Value.int 276 0), (Value.ref 365), Value.none, (Value.ref 366), (Value.ref 367), (Value.ref 368), (Value.int 805 0), (Value.int 244 0), (Value.str "/claim/cut.py" 806)]) #[])
@[reducible] noncomputable def o370 (_ : Params) : Obj := (Obj.mk (Value.type "function") none (Data.func (FuncData.mk "_law_nested" "_law_nested" a29 (FuncBody.stmts b29) s29 3 [] Value.none Value.none Value.none (Value.str "law_tc0087_01" 760) none (Value.ref 369) Value.none 0)) #[])
@[reducible] noncomputable def o371 (_ : Params) : Obj := (Obj.mk (Value.type "tuple") none (Data.seq #[] 0) #[])
@[reducible] noncomputable def o373 (_ : Params) : Obj := (Obj.mk (Value.type "tuple") none (Data.seq #[(Value.str "depths" 811), (Value.str "heads" 812), (Value.str "references" 813), (Value.str "told" 814), (Value.str "k" 815), (Value.str "sign" 816)] 0) #[])
@[reducible] noncomputable def o374 (_ : Params) : Obj := (Obj.mk (Value.type "tuple") none (Data.seq #[] 0) #[])
@[reducible] noncomputable def o376 (_ : Params) : Obj := (Obj.mk (Value.type "code") none (Data.fields #[(Value.str "_law_told" 808), (Value.str "_law_told" 809), (Value.str "/claim/cut.py" 810), (Value.int 252 0), (Value.int 2 0), (Value.int 0 0), (Value.int 0 0), (Value.int 3 0), (Value.ref 371), (Value.bool true), (Value.int 276 0), (Value.ref 372), Value.none, (Value.ref 373), (Value.ref 374), (Value.ref 375), (Value.int 817 0), (Value.int 252 0), (Value.str "/claim/cut.py" 818)]) #[])
@[reducible] noncomputable def o377 (_ : Params) : Obj := (Obj.mk (Value.type "function") none (Data.func (FuncData.mk "_law_told" "_law_told" a30 (FuncBody.stmts b30) s30 3 [] Value.none Value.none Value.none (Value.str "law_tc0087_01" 760) none (Value.ref 376) Value.none 0)) #[])
@[reducible] noncomputable def o378 (_ : Params) : Obj := (Obj.mk (Value.type "tuple") none (Data.seq #[] 0) #[])
@[reducible] noncomputable def o380 (_ : Params) : Obj := (Obj.mk (Value.type "tuple") none (Data.seq #[(Value.str "text" 823), (Value.str "references" 824), (Value.str "pieces" 825), (Value.str "plain" 826), (Value.str "piece" 827), (Value.str "name" 828), (Value.str "rest" 829)] 0) #[])
@[reducible] noncomputable def o381 (_ : Params) : Obj := (Obj.mk (Value.type "tuple") none (Data.seq #[] 0) #[])
@[reducible] noncomputable def o383 (_ : Params) : Obj := (Obj.mk (Value.type "code") none (Data.fields #[(Value.str "_law_read" 820), (Value.str "_law_read" 821), (Value.str "/claim/cut.py" 822), (Value.int 262 0), (Value.int 1 0), (Value.int 0 0), (Value.int 0 0), (Value.int 3 0), (Value.ref 378), (Value.bool true), (Value.int 276 0), (Value.ref 379), Value.none, (Value.ref 380), (Value.ref 381), (Value.ref 382), (Value.int 830 0), (Value.int 262 0), (Value.str "/claim/cut.py" 831)]) #[])
@[reducible] noncomputable def o384 (_ : Params) : Obj := (Obj.mk (Value.type "function") none (Data.func (FuncData.mk "_law_read" "_law_read" a31 (FuncBody.stmts b31) s31 3 [] Value.none Value.none Value.none (Value.str "law_tc0087_01" 760) none (Value.ref 383) Value.none 0)) #[])
@[reducible] noncomputable def o385 (_ : Params) : Obj := (Obj.mk (Value.type "tuple") none (Data.seq #[] 0) #[])
@[reducible] noncomputable def o388 (_ : Params) : Obj := (Obj.mk (Value.type "code") none (Data.fields #[(Value.str "_law_queue" 833), (Value.str "_law_queue" 834), (Value.str "/claim/cut.py" 835), (Value.int 270 0), (Value.int 1 0), (Value.int 0 0), (Value.int 0 0), (Value.int 3 0), (Value.ref 385), (Value.bool true), (Value.int 276 0), (Value.ref 386), Value.none, Value.none, Value.none, (Value.ref 387), (Value.int 836 0), (Value.int 270 0), (Value.str "/claim/cut.py" 837)]) #[])
@[reducible] noncomputable def o389 (_ : Params) : Obj := (Obj.mk (Value.type "function") none (Data.func (FuncData.mk "_law_queue" "_law_queue" a32 (FuncBody.stmts b32) s32 3 [] Value.none Value.none Value.none (Value.str "law_tc0087_01" 760) none (Value.ref 388) Value.none 0)) #[])
@[reducible] noncomputable def o390 (_ : Params) : Obj := (Obj.mk (Value.type "tuple") none (Data.seq #[] 0) #[])
@[reducible] noncomputable def o393 (_ : Params) : Obj := (Obj.mk (Value.type "code") none (Data.fields #[(Value.str "_law_back" 839), (Value.str "_law_back" 840), (Value.str "/claim/cut.py" 841), (Value.int 287 0), (Value.int 2 0), (Value.int 0 0), (Value.int 0 0), (Value.int 3 0), (Value.ref 390), (Value.bool true), (Value.int 276 0), (Value.ref 391), Value.none, Value.none, Value.none, (Value.ref 392), (Value.int 842 0), (Value.int 287 0), (Value.str "/claim/cut.py" 843)]) #[])
@[reducible] noncomputable def o394 (_ : Params) : Obj := (Obj.mk (Value.type "function") none (Data.func (FuncData.mk "_law_back" "_law_back" a33 (FuncBody.stmts b33) s33 3 [] Value.none Value.none Value.none (Value.str "law_tc0087_01" 760) none (Value.ref 393) Value.none 0)) #[])
@[reducible] noncomputable def o395 (_ : Params) : Obj := (Obj.mk (Value.type "tuple") none (Data.seq #[] 0) #[])
@[reducible] noncomputable def o398 (_ : Params) : Obj := (Obj.mk (Value.type "code") none (Data.fields #[(Value.str "law" 845), (Value.str "law" 846), (Value.str "/claim/cut.py" 847), (Value.int 300 0), (Value.int 1 0), (Value.int 0 0), (Value.int 0 0), (Value.int 3 0), (Value.ref 395), (Value.bool true), (Value.int 276 0), (Value.ref 396), Value.none, Value.none, Value.none, (Value.ref 397), (Value.int 848 0), (Value.int 300 0), (Value.str "/claim/cut.py" 849)]) #[])
@[reducible] noncomputable def o399 (_ : Params) : Obj := (Obj.mk (Value.type "function") none (Data.func (FuncData.mk "law" "law" a34 (FuncBody.stmts b34) s34 3 [] Value.none Value.none Value.none (Value.str "law_tc0087_01" 760) none (Value.ref 398) Value.none 0)) #[])

noncomputable def K : Params → Frag := fun P => (nat_lit 2, o2 P) :: (nat_lit 3, o3 P) :: (nat_lit 32, o32 P) :: (nat_lit 34, o34 P) :: (nat_lit 35, o35 P) :: (nat_lit 37, o37 P) :: (nat_lit 38, o38 P) :: (nat_lit 49, o49 P) :: (nat_lit 51, o51 P) :: (nat_lit 52, o52 P) :: (nat_lit 54, o54 P) :: (nat_lit 55, o55 P) :: (nat_lit 56, o56 P) :: (nat_lit 58, o58 P) :: (nat_lit 59, o59 P) :: (nat_lit 61, o61 P) :: (nat_lit 62, o62 P) :: (nat_lit 63, o63 P) :: (nat_lit 65, o65 P) :: (nat_lit 66, o66 P) :: (nat_lit 68, o68 P) :: (nat_lit 69, o69 P) :: (nat_lit 70, o70 P) :: (nat_lit 72, o72 P) :: (nat_lit 73, o73 P) :: (nat_lit 75, o75 P) :: (nat_lit 76, o76 P) :: (nat_lit 77, o77 P) :: (nat_lit 79, o79 P) :: (nat_lit 80, o80 P) :: (nat_lit 82, o82 P) :: (nat_lit 83, o83 P) :: (nat_lit 84, o84 P) :: (nat_lit 86, o86 P) :: (nat_lit 87, o87 P) :: (nat_lit 89, o89 P) :: (nat_lit 90, o90 P) :: (nat_lit 91, o91 P) :: (nat_lit 93, o93 P) :: (nat_lit 94, o94 P) :: (nat_lit 96, o96 P) :: (nat_lit 97, o97 P) :: (nat_lit 98, o98 P) :: (nat_lit 99, o99 P) :: (nat_lit 100, o100 P) :: (nat_lit 101, o101 P) :: (nat_lit 102, o102 P) :: (nat_lit 105, o105 P) :: (nat_lit 107, o107 P) :: (nat_lit 108, o108 P) :: (nat_lit 110, o110 P) :: (nat_lit 111, o111 P) :: (nat_lit 112, o112 P) :: (nat_lit 114, o114 P) :: (nat_lit 115, o115 P) :: (nat_lit 117, o117 P) :: (nat_lit 118, o118 P) :: (nat_lit 119, o119 P) :: (nat_lit 121, o121 P) :: (nat_lit 122, o122 P) :: (nat_lit 124, o124 P) :: (nat_lit 125, o125 P) :: (nat_lit 126, o126 P) :: (nat_lit 128, o128 P) :: (nat_lit 129, o129 P) :: (nat_lit 131, o131 P) :: (nat_lit 132, o132 P) :: (nat_lit 133, o133 P) :: (nat_lit 135, o135 P) :: (nat_lit 136, o136 P) :: (nat_lit 138, o138 P) :: (nat_lit 139, o139 P) :: (nat_lit 140, o140 P) :: (nat_lit 142, o142 P) :: (nat_lit 143, o143 P) :: (nat_lit 145, o145 P) :: (nat_lit 146, o146 P) :: (nat_lit 147, o147 P) :: (nat_lit 149, o149 P) :: (nat_lit 150, o150 P) :: (nat_lit 152, o152 P) :: (nat_lit 153, o153 P) :: (nat_lit 154, o154 P) :: (nat_lit 156, o156 P) :: (nat_lit 157, o157 P) :: (nat_lit 159, o159 P) :: (nat_lit 160, o160 P) :: (nat_lit 161, o161 P) :: (nat_lit 163, o163 P) :: (nat_lit 164, o164 P) :: (nat_lit 166, o166 P) :: (nat_lit 167, o167 P) :: (nat_lit 168, o168 P) :: (nat_lit 169, o169 P) :: (nat_lit 171, o171 P) :: (nat_lit 172, o172 P) :: (nat_lit 174, o174 P) :: (nat_lit 175, o175 P) :: (nat_lit 179, o179 P) :: (nat_lit 180, o180 P) :: (nat_lit 184, o184 P) :: (nat_lit 185, o185 P) :: (nat_lit 189, o189 P) :: (nat_lit 190, o190 P) :: (nat_lit 191, o191 P) :: (nat_lit 192, o192 P) :: (nat_lit 194, o194 P) :: (nat_lit 195, o195 P) :: (nat_lit 197, o197 P) :: (nat_lit 198, o198 P) :: (nat_lit 206, o206 P) :: (nat_lit 207, o207 P) :: (nat_lit 209, o209 P) :: (nat_lit 210, o210 P) :: (nat_lit 212, o212 P) :: (nat_lit 213, o213 P) :: (nat_lit 214, o214 P) :: (nat_lit 216, o216 P) :: (nat_lit 217, o217 P) :: (nat_lit 219, o219 P) :: (nat_lit 220, o220 P) :: (nat_lit 221, o221 P) :: (nat_lit 223, o223 P) :: (nat_lit 224, o224 P) :: (nat_lit 226, o226 P) :: (nat_lit 227, o227 P) :: (nat_lit 228, o228 P) :: (nat_lit 230, o230 P) :: (nat_lit 231, o231 P) :: (nat_lit 233, o233 P) :: (nat_lit 234, o234 P) :: (nat_lit 235, o235 P) :: (nat_lit 238, o238 P) :: (nat_lit 239, o239 P) :: (nat_lit 240, o240 P) :: (nat_lit 242, o242 P) :: (nat_lit 243, o243 P) :: (nat_lit 245, o245 P) :: (nat_lit 246, o246 P) :: (nat_lit 247, o247 P) :: (nat_lit 249, o249 P) :: (nat_lit 250, o250 P) :: (nat_lit 252, o252 P) :: (nat_lit 253, o253 P) :: (nat_lit 254, o254 P) :: (nat_lit 256, o256 P) :: (nat_lit 257, o257 P) :: (nat_lit 259, o259 P) :: (nat_lit 260, o260 P) :: (nat_lit 261, o261 P) :: (nat_lit 262, o262 P) :: (nat_lit 264, o264 P) :: (nat_lit 265, o265 P) :: (nat_lit 267, o267 P) :: (nat_lit 268, o268 P) :: (nat_lit 269, o269 P) :: (nat_lit 272, o272 P) :: (nat_lit 273, o273 P) :: (nat_lit 274, o274 P) :: (nat_lit 277, o277 P) :: (nat_lit 278, o278 P) :: (nat_lit 279, o279 P) :: (nat_lit 281, o281 P) :: (nat_lit 282, o282 P) :: (nat_lit 284, o284 P) :: (nat_lit 285, o285 P) :: (nat_lit 286, o286 P) :: (nat_lit 288, o288 P) :: (nat_lit 289, o289 P) :: (nat_lit 291, o291 P) :: (nat_lit 292, o292 P) :: (nat_lit 293, o293 P) :: (nat_lit 296, o296 P) :: (nat_lit 297, o297 P) :: (nat_lit 298, o298 P) :: (nat_lit 300, o300 P) :: (nat_lit 301, o301 P) :: (nat_lit 303, o303 P) :: (nat_lit 304, o304 P) :: (nat_lit 305, o305 P) :: (nat_lit 307, o307 P) :: (nat_lit 308, o308 P) :: (nat_lit 310, o310 P) :: (nat_lit 311, o311 P) :: (nat_lit 312, o312 P) :: (nat_lit 314, o314 P) :: (nat_lit 315, o315 P) :: (nat_lit 317, o317 P) :: (nat_lit 318, o318 P) :: (nat_lit 319, o319 P) :: (nat_lit 320, o320 P) :: (nat_lit 321, o321 P) :: (nat_lit 322, o322 P) :: (nat_lit 323, o323 P) :: (nat_lit 326, o326 P) :: (nat_lit 328, o328 P) :: (nat_lit 329, o329 P) :: (nat_lit 331, o331 P) :: (nat_lit 332, o332 P) :: (nat_lit 333, o333 P) :: (nat_lit 335, o335 P) :: (nat_lit 336, o336 P) :: (nat_lit 338, o338 P) :: (nat_lit 339, o339 P) :: (nat_lit 340, o340 P) :: (nat_lit 343, o343 P) :: (nat_lit 344, o344 P) :: (nat_lit 345, o345 P) :: (nat_lit 347, o347 P) :: (nat_lit 348, o348 P) :: (nat_lit 350, o350 P) :: (nat_lit 351, o351 P) :: (nat_lit 352, o352 P) :: (nat_lit 355, o355 P) :: (nat_lit 356, o356 P) :: (nat_lit 357, o357 P) :: (nat_lit 359, o359 P) :: (nat_lit 360, o360 P) :: (nat_lit 362, o362 P) :: (nat_lit 363, o363 P) :: (nat_lit 364, o364 P) :: (nat_lit 366, o366 P) :: (nat_lit 367, o367 P) :: (nat_lit 369, o369 P) :: (nat_lit 370, o370 P) :: (nat_lit 371, o371 P) :: (nat_lit 373, o373 P) :: (nat_lit 374, o374 P) :: (nat_lit 376, o376 P) :: (nat_lit 377, o377 P) :: (nat_lit 378, o378 P) :: (nat_lit 380, o380 P) :: (nat_lit 381, o381 P) :: (nat_lit 383, o383 P) :: (nat_lit 384, o384 P) :: (nat_lit 385, o385 P) :: (nat_lit 388, o388 P) :: (nat_lit 389, o389 P) :: (nat_lit 390, o390 P) :: (nat_lit 393, o393 P) :: (nat_lit 394, o394 P) :: (nat_lit 395, o395 P) :: (nat_lit 398, o398 P) :: (nat_lit 399, o399 P) :: []
abbrev asx : List Nat := [nat_lit 2, nat_lit 3, nat_lit 32, nat_lit 34, nat_lit 35, nat_lit 37, nat_lit 38, nat_lit 49, nat_lit 51, nat_lit 52, nat_lit 54, nat_lit 55, nat_lit 56, nat_lit 58, nat_lit 59, nat_lit 61, nat_lit 62, nat_lit 63, nat_lit 65, nat_lit 66, nat_lit 68, nat_lit 69, nat_lit 70, nat_lit 72, nat_lit 73, nat_lit 75, nat_lit 76, nat_lit 77, nat_lit 79, nat_lit 80, nat_lit 82, nat_lit 83, nat_lit 84, nat_lit 86, nat_lit 87, nat_lit 89, nat_lit 90, nat_lit 91, nat_lit 93, nat_lit 94, nat_lit 96, nat_lit 97, nat_lit 98, nat_lit 99, nat_lit 100, nat_lit 101, nat_lit 102, nat_lit 105, nat_lit 107, nat_lit 108, nat_lit 110, nat_lit 111, nat_lit 112, nat_lit 114, nat_lit 115, nat_lit 117, nat_lit 118, nat_lit 119, nat_lit 121, nat_lit 122, nat_lit 124, nat_lit 125, nat_lit 126, nat_lit 128, nat_lit 129, nat_lit 131, nat_lit 132, nat_lit 133, nat_lit 135, nat_lit 136, nat_lit 138, nat_lit 139, nat_lit 140, nat_lit 142, nat_lit 143, nat_lit 145, nat_lit 146, nat_lit 147, nat_lit 149, nat_lit 150, nat_lit 152, nat_lit 153, nat_lit 154, nat_lit 156, nat_lit 157, nat_lit 159, nat_lit 160, nat_lit 161, nat_lit 163, nat_lit 164, nat_lit 166, nat_lit 167, nat_lit 168, nat_lit 169, nat_lit 171, nat_lit 172, nat_lit 174, nat_lit 175, nat_lit 179, nat_lit 180, nat_lit 184, nat_lit 185, nat_lit 189, nat_lit 190, nat_lit 191, nat_lit 192, nat_lit 194, nat_lit 195, nat_lit 197, nat_lit 198, nat_lit 206, nat_lit 207, nat_lit 209, nat_lit 210, nat_lit 212, nat_lit 213, nat_lit 214, nat_lit 216, nat_lit 217, nat_lit 219, nat_lit 220, nat_lit 221, nat_lit 223, nat_lit 224, nat_lit 226, nat_lit 227, nat_lit 228, nat_lit 230, nat_lit 231, nat_lit 233, nat_lit 234, nat_lit 235, nat_lit 238, nat_lit 239, nat_lit 240, nat_lit 242, nat_lit 243, nat_lit 245, nat_lit 246, nat_lit 247, nat_lit 249, nat_lit 250, nat_lit 252, nat_lit 253, nat_lit 254, nat_lit 256, nat_lit 257, nat_lit 259, nat_lit 260, nat_lit 261, nat_lit 262, nat_lit 264, nat_lit 265, nat_lit 267, nat_lit 268, nat_lit 269, nat_lit 272, nat_lit 273, nat_lit 274, nat_lit 277, nat_lit 278, nat_lit 279, nat_lit 281, nat_lit 282, nat_lit 284, nat_lit 285, nat_lit 286, nat_lit 288, nat_lit 289, nat_lit 291, nat_lit 292, nat_lit 293, nat_lit 296, nat_lit 297, nat_lit 298, nat_lit 300, nat_lit 301, nat_lit 303, nat_lit 304, nat_lit 305, nat_lit 307, nat_lit 308, nat_lit 310, nat_lit 311, nat_lit 312, nat_lit 314, nat_lit 315, nat_lit 317, nat_lit 318, nat_lit 319, nat_lit 320, nat_lit 321, nat_lit 322, nat_lit 323, nat_lit 326, nat_lit 328, nat_lit 329, nat_lit 331, nat_lit 332, nat_lit 333, nat_lit 335, nat_lit 336, nat_lit 338, nat_lit 339, nat_lit 340, nat_lit 343, nat_lit 344, nat_lit 345, nat_lit 347, nat_lit 348, nat_lit 350, nat_lit 351, nat_lit 352, nat_lit 355, nat_lit 356, nat_lit 357, nat_lit 359, nat_lit 360, nat_lit 362, nat_lit 363, nat_lit 364, nat_lit 366, nat_lit 367, nat_lit 369, nat_lit 370, nat_lit 371, nat_lit 373, nat_lit 374, nat_lit 376, nat_lit 377, nat_lit 378, nat_lit 380, nat_lit 381, nat_lit 383, nat_lit 384, nat_lit 385, nat_lit 388, nat_lit 389, nat_lit 390, nat_lit 393, nat_lit 394, nat_lit 395, nat_lit 398, nat_lit 399]
end Mine
end

section
open PySem PySem.W PyProof.Rows
set_option Elab.async false
set_option maxRecDepth 100000
set_option maxHeartbeats 8000000
namespace Mine
abbrev pw : Program := PySem.Challenge.pw_tc0087_01
abbrev loose : List Str := ["Whitespace", "length_hint", "tspecials", "_name_disallowed_re", "_value_disallowed_re", "_formatparam"]
def keepL : List Nat := [0, 1, 3, 5, 6, 7, 8, 9, 10, 11, 12, 13, 16, 17, 18, 20, 22, 23, 25, 26, 27, 28, 29, 30, 31, 32, 33, 34]
def vw : Program := PySem.W.view PySem.Challenge.pw_tc0087_01 keepL
theorem said : OpenLaw.wellSaid PySem.Challenge.rw_tc0087_01 = true := by kernel_rfl
theorem asx_eq : ∀ P, asx = (K P).map (·.1) := fun P => by kernel_rfl
noncomputable abbrev HH : Hook := kHook K asx asx_eq
end Mine
end

section
open PySem PySem.W PyProof.Rows
set_option Elab.async false
set_option maxRecDepth 100000
set_option maxHeartbeats 8000000
namespace Mine
noncomputable def seeF (s : Shared) := (PySem.W.Fast.tw4187177175401517315 vw loose (PySem.W.Fast.tw5923862056798008813 pw.main.body) (fun s => xlAt vw [] s && recOk (RowW.records PySem.Challenge.rw_tc0087_01.row.toRowW) s) true s, HH.obs s)
theorem seen_f : ∀ w : World, wholeQ pw (w.withFollow "special-get-raises" false) 4558 seeF = some (openGood vw loose, HH.val (w.withFollow "special-get-raises" false)) := fun w => by kernel_rfl
theorem seen_t : ∀ w : World, wholeQ pw (w.withFollow "special-get-raises" true) 4558 seeF = some (openGood vw loose, HH.val (w.withFollow "special-get-raises" true)) := fun w => by kernel_rfl
theorem seen_all (w : World) : wholeQ pw w 4558 seeF = some (openGood vw loose, HH.val w) :=
  byRow2 "special-get-raises" (P := fun w => wholeQ pw w 4558 seeF = some (openGood vw loose, HH.val w)) seen_f seen_t w
theorem left : LeftO pw vw loose (fun s => xlAt vw [] s && recOk (RowW.records PySem.Challenge.rw_tc0087_01.row.toRowW) s) HH.obs HH.val 4558 := fun w => by
  have h := wholeQ_of (seen_all w)
  unfold seeF at h
  rw [← PySem.W.Fast.te4187177175401517315, ← PySem.W.Fast.te5923862056798008813] at h
  exact h
end Mine
end

section
open PySem PySem.W PyProof.Rows
set_option Elab.async false
set_option maxRecDepth 100000
set_option maxHeartbeats 8000000
namespace Mine
noncomputable def lawRec : DefRec := { name := "law", params := a34, body := b34, scope := s34, pos := ⟨300, 0, 325, 117⟩ }
theorem head (hw : PySem.Challenge.rw_tc0087_01.row.toRowW.promised) (hc : WalkO vw loose (XL vw []) HH.says PySem.Challenge.rw_tc0087_01.row.toRowW lawRec [] fun f vs => PySem.call f vs) : PySem.Challenge.rw_tc0087_01.Holds :=
  holds_law said fun k1 => holds_open (q := vw) (loose := loose) (Xt := fun s => xlAt vw [] s && recOk (RowW.records PySem.Challenge.rw_tc0087_01.row.toRowW) s) (XP := XL vw []) (Yf := HH.obs) (Ya := HH.val) (YP := HH.says) (N := 4558)
    left HH.of HH.keeps (fun s e => xl_of s (Bool.and_eq_true_iff.mp e).1) XL.keeps (by rfl) (by rfl) (by rfl) (fun s e => recFacts_of (Bool.and_eq_true_iff.mp e).2) (by rfl) k1 (by decide +kernel) ⟨rfl, rfl, rfl, rfl, rfl, by decide +kernel⟩ hw hc
end Mine
end

section
open PySem PySem.W PyProof.Rows
set_option Elab.async false
set_option maxRecDepth 100000
set_option maxHeartbeats 8000000
namespace Mine
abbrev Led := List (Addr × Obj)
/-- what a call does: the contract of a def -/
def Does (w : World) (D U : Nat) (f : Value) (vs : List Value) (news : Led) (post : Value → Led → Nat → Prop) (kw : List (Str × Value) := []) (lo : Nat := 0) : Prop :=
  ∀ (mean : ExcName → Option Value) (mg mb : Str → Option Value) (dp un : Nat) (gd : Option (List Code)) (cn : Str) (cs : Scope) (a : Addr) (ccd : Value) (cl : List (Str × Addr)) (outer : List Env) (A₀ : Around) (base h₀ : Heap) (L : Addr) (m : Str → Option Value) (s : Shared) (R : Result → Shared → Prop),
    Below A₀ base outer h₀ → Fr h₀ L s.heap m → (K w.params).In h₀ → News h₀ L s.heap news → Top vw (looseW vw loose) mean mg mb h₀ → cs.kind = .function → lo + 1 ≤ s.toks → dp + D < recursionLimit → un + U < cLine →
    (∀ v h' tk' news', post v news' tk' → s.toks ≤ tk' → Fr h₀ L h' m → News h₀ L h' news' → R (.ok (.ret v)) { s with heap := h', toks := tk' }) →
    codeAny (model pw w) (ktrTop dp un gd cn cs L a ccd cl outer) (.call f ⟨vs, kw⟩) R s

def BodyPost (g : Heap) (L : Addr) (post : Value → Led → Nat → Prop) (s : Shared) : Flow → Shared → Prop := fun fl s' =>
  ∃ h' tk' m' news', s' = { s with heap := h', toks := tk' } ∧ Fr g L h' m' ∧ News g L h' news' ∧ post (match fl with | .ret v => v | _ => .none) news' tk'

def Body (w : World) (D U : Nat) (qual : Str) (scope : Scope) (body : List Stmt) (f : Addr) (cdv : Value) (m : Str → Option Value) (news : Led) (post : Value → Led → Nat → Prop) (lo : Nat := 0) : Prop :=
  ∀ (mean : ExcName → Option Value) (mg mb : Str → Option Value) (dp un : Nat) (gd : Option (List Code)) (outer : List Env) (A₀ : Around) (base g : Heap) (L : Addr) (s : Shared),
    Below A₀ base outer g → Fr g L s.heap m → (K w.params).In g → News g L s.heap news → Top vw (looseW vw loose) mean mg mb g → lo + 1 ≤ s.toks → dp + D < recursionLimit → un + U < cLine →
    let Aa : Around := ktrTop dp un gd qual scope L f cdv [] outer
    wpAny (model pw w) Aa (execs body (envOf qual scope L f cdv)) (BodyPost g L post s) (fun _ _ => False) s

theorem o_dp {a b c : Nat} (h : a + (b + 1) < c) : a + 1 + b < c := Nat.lt_of_le_of_lt (Nat.le_of_eq (Nat.add_right_comm a 1 b)) h

theorem o_un {a b c : Nat} (h : a + (b + 3) < c) : a + 3 + b < c := Nat.lt_of_le_of_lt (Nat.le_of_eq (Nat.add_right_comm a 3 b)) h

theorem does_fn {w : World} {D U : Nat} {name qual : Str} {params : Arguments} {body : List Stmt} {scope : Scope} {dV kV doc pm cdv ct oc : Value} {an od : Option Addr} {osl : Array (Option Value)} {f : Addr} {vs : List Value} {binds : List (Str × Value)} {m : Str → Option Value} {news : Led} {post : Value → Led → Nat → Prop} {kw : List (Str × Value)} {lo : Nat}
    (ho : (K w.params).lookup f = some ⟨oc, od, .func (fnOf name qual params body scope dV kV doc pm an cdv ct), osl⟩) (hcd : codeIn (K w.params) cdv qual = true)
    (hbind : ∀ s, (K w.params).In s.heap → BindsTo s (fnOf name qual params body scope dV kV doc pm an cdv ct) ⟨vs, kw⟩ binds) (hloc : ∀ y ∈ binds, scope.names.lookup y.1 = some .local)
    (hm : ∀ y, binds.reverse.lookup y = m y)
    (hco : scope.isCoroutine = false) (hgen : scope.isGenerator = false) (hk : scope.kind = .function) (hcell : ∀ x ∈ scope.names, x.2 ≠ .cell)
    (h : Body w D U qual scope body f cdv m news post lo) : Does w (D + 1) (U + 3) (.ref f) vs news post kw lo := by
  intro mean mg mb dp un gd cn cs a ccd cl outer A₀ base h₀ L m₀ s R B F X N T hkc ht hd hu hret
  refine codeAny_mono (codeAny_toks_of (n := s.toks) (Nat.le_refl _) (R := fun r s' => s.toks ≤ s'.toks → R r s') (code_def B F X N T rfl rfl hkc ho hcd ?_ (hbind s (X.keeps F.keep)) hloc (fun g L' h₁ FG F' N' B' X' T' => ?_) hco hgen hk hcell)) fun _ _ q => q.2 q.1
  · exact Nat.lt_of_le_of_lt (Nat.le_add_right dp _) hd
  have F2 : Fr g L' h₁ m := (funext hm : (fun y => binds.reverse.lookup y) = m) ▸ F'
  refine wpAny_mono (h mean mg mb (dp + 1) (un + 3) gd (envX cn cs L a ccd cl :: outer) _ base g L' { s with heap := h₁, toks := s.toks + binds.length } B' F2 X' N' T' (Nat.le_trans ht (Nat.le_add_right _ _)) (o_dp hd) (o_un hu)) ?_ ?_
  · rintro fl s' ⟨h', tk', m', news', rfl, F3, N3, hp⟩
    exact leaveK_ F3 N3 fun Fb Nb => fun ht' => hret _ h' tk' news' hp ht' Fb Nb
  · intro _ _ h; exact h.elim

theorem does_call {w : World} {D U : Nat} {f : Value} {vs : List Value} {news : Led} {post : Value → Led → Nat → Prop} {kw : List (Str × Value)} {lo : Nat} (C : Does w D U f vs news post kw lo) {mean : ExcName → Option Value} {mg mb : Str → Option Value} {dp un : Nat} {gd : Option (List Code)} {cn : Str} {cs : Scope} {a : Addr} {ccd : Value} {cl : List (Str × Addr)} {outer : List Env} {A₀ : Around} {base h₀ : Heap} {L : Addr} {m : Str → Option Value} {s : Shared} {Q E : Value → Shared → Prop}
    (B : Below A₀ base outer h₀) (F : Fr h₀ L s.heap m) (X : (K w.params).In h₀) (N : News h₀ L s.heap news) (T : Top vw (looseW vw loose) mean mg mb h₀) (hk : cs.kind = .function) (ht : lo + 1 ≤ s.toks) (hd : dp + D < recursionLimit) (hu : un + U < cLine)
    (ret : ∀ v h' tk' news', post v news' (tk' + 1) → s.toks ≤ tk' + 1 → Fr h₀ L h' m → News h₀ L h' news' → Q v { s with heap := h', toks := tk' + 1 }) :
    wpAny (model pw w) (ktrTop dp un gd cn cs L a ccd cl outer) (call f vs kw) Q E s :=
  wpAny_call (C mean mg mb dp un gd cn cs a ccd cl outer A₀ base h₀ L m s _ B F X N T hk ht hd hu fun v h' tk' news' hp h1 F' N' => by
    cases tk' with
    | zero => exact absurd (Nat.le_trans ht h1) (Nat.not_succ_le_zero lo)
    | succ k => exact ret v h' k news' hp h1 F' N')

theorem lk (y a : Str) (v : Value) (r : List (Str × Value)) : List.lookup y ((a, v) :: r) = if y = a then some v else List.lookup y r := by
  by_cases h : y = a <;> simp [List.lookup, h]
  split <;> simp_all
theorem frc {h₀ h : Heap} {L : Addr} {m m' : Str → Option Value} (F : Fr h₀ L h m) (e : ∀ y, m y = m' y) : Fr h₀ L h m' := (funext e : m = m') ▸ F
theorem hide_post {M : Model} {A : Around} {t : Sem Flow} {E : Value → Shared → Prop} {s : Shared} {Q : Flow → Shared → Prop} (h : ∀ P : Flow → Shared → Prop, (∀ f s', Q f s' → P f s') → wpAny M A t P E s) : wpAny M A t Q E s := h Q fun _ _ x => x
theorem o_pos {a b : Nat} (h : a + 1 ≤ b) : 1 ≤ b := Nat.le_trans (Nat.le_add_left 1 a) h
theorem o_z1 (n : Nat) : 0 + 1 ≤ n + 1 := Nat.le_add_left 1 n
theorem o_z {x : Nat} (h : 1 ≤ x) : 0 + 1 ≤ x := h
theorem o_zp {a x : Nat} (h : a + 1 ≤ x) : 0 + 1 ≤ x := o_pos h
theorem o_room {x a b c : Nat} (h : x + b < c) (h2 : a ≤ b) : x + a < c := Nat.lt_of_le_of_lt (Nat.add_le_add_left h2 x) h
theorem o_room0 {x b c : Nat} (h : x + b < c) : x < c := Nat.lt_of_le_of_lt (Nat.le_add_right x b) h
theorem o_room2 {x a d b c : Nat} (h : x + b < c) (h2 : a + d ≤ b) : x + a + d < c := Nat.lt_of_le_of_lt (Nat.le_trans (Nat.le_of_eq (Nat.add_assoc x a d)) (Nat.add_le_add_left h2 x)) h
theorem o_63 {i k : Nat} (h : i < k) (hk : k ≤ 16777216) : (i : Int) < 2 ^ 63 := Int.lt_of_lt_of_le (Int.ofNat_lt.mpr h) (Int.le_trans (Int.ofNat_le.mpr hk) (by decide))
theorem o_63l {i k : Nat} (h : i ≤ k) (hk : k ≤ 16777216) : (i : Int) < 2 ^ 63 := Int.lt_of_le_of_lt (Int.ofNat_le.mpr (Nat.le_trans h hk)) (by decide)
theorem o_le {x k n : Nat} (h : x ≤ k) (hk : k ≤ n) : x ≤ n := Nat.le_trans h hk
theorem o_lel {x k n : Nat} (h : x < k) (hk : k ≤ n) : x ≤ n := Nat.le_trans (Nat.le_of_lt h) hk
theorem o_lt {x k n : Nat} (h : x ≤ k) (hk : k < n) : x < n := Nat.lt_of_le_of_lt h hk
theorem o_ltl {x k n : Nat} (h : x < k) (hk : k ≤ n) : x < n := Nat.lt_of_lt_of_le h hk
theorem o_lea {x k n c : Nat} (h : x ≤ k) (hk : k + c ≤ n) : x + c ≤ n := Nat.le_trans (Nat.add_le_add_right h c) hk
theorem o_leal {x k n c : Nat} (h : x < k) (hk : k + c ≤ n) : x + c ≤ n := Nat.le_trans (Nat.add_le_add_right (Nat.le_of_lt h) c) hk
theorem o_eqlt {a k x : Nat} (h : a = k) (h2 : x < k) : x < a := h ▸ h2
theorem o_lteq {a k x : Nat} (h2 : x < a) (h : a = k) : x < k := h ▸ h2
theorem o_eqle {a k n : Nat} (h : a = k) (h2 : k ≤ n) : a ≤ n := h ▸ h2
theorem o_01 (i : Int) : 0 + i * 1 = i := (Int.zero_add _).trans (Int.mul_one i)
theorem o_s1 {a b c : Nat} (h : a + 1 ≤ b) (h2 : b ≤ c) : a ≤ c := Nat.le_trans (Nat.le_of_succ_le h) h2
theorem o_s2 {a b c : Nat} (h : a + 1 + 1 ≤ b) (h2 : b ≤ c) : a ≤ c := o_s1 (Nat.le_of_succ_le h) h2
theorem o_s3 {a b c : Nat} (h : a + 1 + 1 + 1 ≤ b) (h2 : b ≤ c) : a ≤ c := o_s2 (Nat.le_of_succ_le h) h2
theorem o_s4 {a b c : Nat} (h : a + 1 + 1 + 1 + 1 ≤ b) (h2 : b ≤ c) : a ≤ c := o_s3 (Nat.le_of_succ_le h) h2
theorem o_l1 {a b c : Nat} (h : a + 1 < b) (h2 : b < c) : a < c := Nat.lt_trans (Nat.lt_of_succ_lt h) h2
theorem o_l2 {a b c : Nat} (h : a + 1 + 1 < b) (h2 : b < c) : a < c := o_l1 (Nat.lt_of_succ_lt h) h2
theorem o_l3 {a b c : Nat} (h : a + 1 + 1 + 1 < b) (h2 : b < c) : a < c := o_l2 (Nat.lt_of_succ_lt h) h2
theorem o_m1 {a b : Nat} (h : a + 1 < b) : a < b := Nat.lt_of_succ_lt h
theorem o_m2 {a b : Nat} (h : a + 1 + 1 < b) : a < b := Nat.lt_of_succ_lt (Nat.lt_of_succ_lt h)
theorem o_m3 {a b : Nat} (h : a + 1 + 1 + 1 < b) : a < b := o_m2 (Nat.lt_of_succ_lt h)
theorem o_lts {a b : Nat} (h : a + 1 ≤ b) : a < b := h
theorem o_eqle2 {a k n b : Nat} (h : a = b) (h1 : b ≤ k) (h2 : k ≤ n) : a ≤ n := h ▸ Nat.le_trans h1 h2
theorem o_eqlt2 {a k n : Nat} (h : a = k) (h2 : k < n) : a < n := h ▸ h2
theorem o_castlt {i k : Nat} (h : i < k) : (i : Int) < (k : Int) := Int.ofNat_lt.mpr h
def Marked (p : Prop) : Prop := p
theorem unmark {p : Prop} (h : Marked p) : p := h
theorem mark {p : Prop} (h : p) : Marked p := h
theorem hide2 {α β : Type} {T : α → β → Prop} {a : α} {b : β} (h : ∀ P : α → β → Prop, (∀ x y, T x y → P x y) → P a b) : T a b := h T fun _ _ x => x
theorem eta_post {M : Model} {A : Around} {t : Sem Flow} {E : Value → Shared → Prop} {s : Shared} {Q : Flow → Shared → Prop} (h : ∀ (g : Array GenState) (d : Drawn) (o : OsState) (P : Flow → Shared → Prop), (∀ f h' k', Q f { s with heap := h', toks := k' } → P f ⟨h', g, d, k', o⟩) → wpAny M A t P E ⟨s.heap, g, d, s.toks, o⟩) : wpAny M A t Q E s := h s.gens s.drawn s.os Q fun _ _ _ x => x
theorem foldQ {α : Type} {M : Model} {A : Around} {t : Sem α} {E : Value → Shared → Prop} {s : Shared} {Q : α → Shared → Prop} (h : let qk0 := Q; wpAny M A t qk0 E s) : wpAny M A t Q E s := h
theorem o_ne1 (a : Nat) : a + 1 ≠ a := Nat.succ_ne_self a
theorem o_en1 (a : Nat) : a ≠ a + 1 := (Nat.succ_ne_self a).symm
theorem o_ne2 (a : Nat) : a + 1 + 1 ≠ a := Nat.ne_of_gt (Nat.lt_add_of_pos_right (by decide : 0 < 2))
theorem o_en2 (a : Nat) : a ≠ a + 1 + 1 := (o_ne2 a).symm
theorem o_ne3 (a : Nat) : a + 1 + 1 + 1 ≠ a := Nat.ne_of_gt (Nat.lt_add_of_pos_right (by decide : 0 < 3))
theorem o_en3 (a : Nat) : a ≠ a + 1 + 1 + 1 := (o_ne3 a).symm
theorem o_cq {i k n : Nat} (h : n = k) (h2 : i < k) : (i : Int) < (n : Int) := Int.ofNat_lt.mpr (h ▸ h2)
theorem o_neg {x : Nat} {k : Int} (hk : k ≤ 0) : k ≤ (x : Int) := Int.le_trans hk (Int.natCast_nonneg x)
theorem o_negl {x : Nat} {k : Int} (hk : k < 0) : k < (x : Int) := Int.lt_of_lt_of_le hk (Int.natCast_nonneg x)
theorem o_cle {x n : Nat} {k : Int} (h : x ≤ n) (hk : (n : Int) ≤ k) : (x : Int) ≤ k := Int.le_trans (Int.ofNat_le.mpr h) hk
theorem o_clt {x n : Nat} {k : Int} (h : x ≤ n) (hk : (n : Int) < k) : (x : Int) < k := Int.lt_of_le_of_lt (Int.ofNat_le.mpr h) hk
theorem o_cltl {x n : Nat} {k : Int} (h : x < n) (hk : (n : Int) ≤ k) : (x : Int) < k := Int.lt_of_lt_of_le (Int.ofNat_lt.mpr h) hk
theorem reg : (PySem.Challenge.rw_tc0087_01, K) = (PySem.Challenge.rw_tc0087_01, K) := by
  k_fill
  rfl
end Mine
end

section
open PySem PySem.W PyProof.Rows
set_option Elab.async false
set_option maxRecDepth 100000
set_option maxHeartbeats 8000000
namespace Mine
/-- a text from its signs -/
abbrev tx (l : List Nat) : Str := ⟨l.toArray⟩
abbrev ls (x : Str) : List Nat := x.cps.toList
theorem ls_tx (l : List Nat) : ls (tx l) = l := rfl
theorem tx_ls (x : Str) : tx (ls x) = x := rfl
theorem ext_ls {x y : Str} (h : ls x = ls y) : x = y := Str.ext' (Array.ext' h)
theorem len_ls (x : Str) : x.length = (ls x).length := by simp [Str.length, ls]
theorem ls_append (x y : Str) : ls (x ++ y) = ls x ++ ls y := by simp [ls, Str.cps_append]
def cm (c : Nat) (r : List Nat) : Nat → List Nat := fun k => if k = c then r else [k]
theorem cm_free (c : Nat) (r : List Nat) : ∀ l : List Nat, c ∉ l → l.flatMap (cm c r) = l
  | [], _ => rfl
  | k :: t, h => by
    have h1 : ¬ k = c := fun e => h (e ▸ List.mem_cons_self ..)
    have h2 : c ∉ t := fun m => h (List.mem_cons_of_mem _ m)
    rw [List.flatMap_cons, cm_free c r t h2]
    simp [cm, h1]
theorem cm_join (c : Nat) (z : Str) : ∀ parts : List Str, (∀ p ∈ parts, c ∉ ls p) → (ls (Str.join ⟨#[c]⟩ parts)).flatMap (cm c (ls z)) = ls (Str.join z parts)
  | [], _ => rfl
  | [p], h => cm_free c _ _ (h p (List.mem_singleton.mpr rfl))
  | p :: q :: r, h => by
    have ih := cm_join c z (q :: r) fun a ha => h a (List.mem_cons_of_mem _ ha)
    show (ls (p ++ ⟨#[c]⟩ ++ Str.join ⟨#[c]⟩ (q :: r))).flatMap _ = ls (p ++ z ++ Str.join z (q :: r))
    simp only [ls_append, List.flatMap_append]
    rw [ih, cm_free c _ _ (h p (List.mem_cons_self ..))]
    show _ ++ [c].flatMap (cm c (ls z)) ++ _ = _
    simp [cm]
theorem repl_list (x z : Str) (c : Nat) : ls (Txt.replace x ⟨#[c]⟩ z) = (ls x).flatMap (cm c (ls z)) := by
  rw [StrLaws.replace_one, ← cm_join c z _ (StrLaws.split_free x c), StrLaws.join_split]
open Builtin.Str in
theorem repl_absent {x r : Str} {c : Nat} (h : (occurrences x ⟨#[c]⟩ 0 x.length 1).isEmpty = true) : Txt.replace x ⟨#[c]⟩ r = x := by
  have hf := StrLaws.found_one x c
  rw [h] at hf
  have hn : c ∉ x.cps.toList := by simpa using hf.symm
  exact ext_ls (by rw [repl_list, cm_free c _ _ hn])
/-- the seven steps of the escape, as maps of a sign -/
def escR : List (Nat × List Nat) := [(38, [38, 97, 109, 112, 59]), (60, [38, 108, 116, 59]), (62, [38, 103, 116, 59]), (34, [38, 113, 117, 111, 116, 59]), (13, [38, 35, 49, 51, 59]), (10, [38, 35, 49, 48, 59]), (9, [38, 35, 48, 57, 59])]
def escC (n : Nat) (a : Nat) : List Nat := (escR.take n).foldl (fun l p => l.flatMap (cm p.1 p.2)) [a]
def escL (n : Nat) (l : List Nat) : List Nat := l.flatMap (escC n)
theorem escC_other (n a : Nat) (h : a ≠ 38 ∧ a ≠ 60 ∧ a ≠ 62 ∧ a ≠ 34 ∧ a ≠ 13 ∧ a ≠ 10 ∧ a ≠ 9) : escC n a = [a] := by
  obtain ⟨h1, h2, h3, h4, h5, h6, h7⟩ := h
  unfold escC escR
  match n with
  | 0 => rfl
  | 1 => simp [cm, h1]
  | 2 => simp [cm, h1, h2]
  | 3 => simp [cm, h1, h2, h3]
  | 4 => simp [cm, h1, h2, h3, h4]
  | 5 => simp [cm, h1, h2, h3, h4, h5]
  | 6 => simp [cm, h1, h2, h3, h4, h5, h6]
  | n + 7 => simp [cm, h1, h2, h3, h4, h5, h6, h7]
theorem escC_len (n a : Nat) (hn : n ≤ 7) : (escC n a).length ≤ 6 := by
  by_cases h : a ∈ [38, 60, 62, 34, 13, 10, 9]
  · have key : ∀ b ∈ [38, 60, 62, 34, 13, 10, 9], ∀ n ∈ List.range 8, (escC n b).length ≤ 6 := by decide +kernel
    exact key a h n (List.mem_range.mpr (Nat.lt_succ_of_le hn))
  · rw [escC_other n a (by simpa using h)]; simp
theorem escL_len (n : Nat) (hn : n ≤ 7) : ∀ l : List Nat, (escL n l).length ≤ 6 * l.length
  | [] => by simp [escL]
  | a :: l => by
    have := escL_len n hn l
    have h := escC_len n a hn
    unfold escL at this ⊢
    rw [List.flatMap_cons, List.length_append, List.length_cons]
    exact Nat.le_trans (Nat.add_le_add h this) (Nat.le_of_eq (Nat.add_comm 6 _))
theorem escL_step (n c : Nat) (r : List Nat) (l : List Nat) (h : escR[n]? = some (c, r)) : (escL n l).flatMap (cm c r) = escL (n + 1) l := by
  unfold escL
  rw [List.flatMap_assoc]
  congr 1
  funext a
  unfold escC
  rw [List.take_add_one, h]
  simp
theorem escL_zero (l : List Nat) : escL 0 l = l := by
  unfold escL escC
  simp
/-- the text behind n steps -/
def escS (n : Nat) (x : Str) : Str := tx (escL n (ls x))
theorem escS_step {n c : Nat} {r : List Nat} {C R : Str} (x : Str) (h : escR[n]? = some (c, r)) (hC : C = ⟨#[c]⟩) (hR : R = tx r) : Txt.replace (escS n x) C R = escS (n + 1) x := by
  subst hC; subst hR
  exact ext_ls (by rw [repl_list, ls_tx]; exact escL_step n c r (ls x) h)
theorem escS_zero (x : Str) : escS 0 x = x := ext_ls (escL_zero _)
theorem escS_len {n : Nat} (hn : n ≤ 7) (x : Str) : (escS n x).length ≤ 6 * x.length := by
  rw [len_ls, len_ls]; exact escL_len n hn _
theorem wp_replace {prog : Program} {w : World} {A : Around} {E : Value → Shared → Prop} {s : Shared} {x y z : Str} {t u v : Tok} {Q : Value → Shared → Prop}
    (hs : 1 ≤ s.toks) (hu : @Ne Nat u 0) (hv : @Ne Nat v 0) (huv : @Ne Nat u v) (hyz : (y == z) = false) (hb : x.length + (x.length + 1) * z.length ≤ 16777216)
    (hq : ∀ t' k, Q (.str (Txt.replace x y z) t') { s with toks := k + 1 }) : wpAny (model prog w) A (call (.builtin "str.replace") [.str x t, .str y u, .str z v]) Q E s := by
  refine wpAny_with_toks (n := 1) hs (SC.replace hu hv huv hyz hb fun t' k hk => ?_)
  cases k with
  | zero => exact absurd hk (Nat.not_succ_le_zero 0)
  | succ k => exact hq t' k
theorem wp_lower {w : World} {A : Around} {E : Value → Shared → Prop} {s : Shared} {x y : Str} {t : Tok} {Q : Value → Shared → Prop} (e : Txt.lower x = y) (hf : PySem.Builtin.Str.tooLong (Txt.lower x).length = false) (ht : 1 ≤ s.toks) (h : ∀ t' k, Q (.str y t') { s with toks := k + 1 }) :
    wpAny (model pw w) A (call (.builtin "str.lower") [.str x t]) Q E s :=
  wpAny_with_toks ht (KXw.lower e hf fun t' k hk => by
    cases k with
    | zero => exact absurd hk (Nat.not_succ_le_zero 0)
    | succ k => exact h t' k)
theorem wp_upper {w : World} {A : Around} {E : Value → Shared → Prop} {s : Shared} {x y : Str} {t : Tok} {Q : Value → Shared → Prop} (e : Txt.upper x = y) (hf : PySem.Builtin.Str.tooLong (Txt.upper x).length = false) (ht : 1 ≤ s.toks) (h : ∀ t' k, Q (.str y t') { s with toks := k + 1 }) :
    wpAny (model pw w) A (call (.builtin "str.upper") [.str x t]) Q E s :=
  wpAny_with_toks ht (KXw.upper e hf fun t' k hk => by
    cases k with
    | zero => exact absurd hk (Nat.not_succ_le_zero 0)
    | succ k => exact h t' k)
/-- a name that Headers may hold: seven small letters, seven great ones -/
def IsNm (z : Str) : Prop := ∃ j, j < 7 ∧ (z = ⟨#[97 + j]⟩ ∨ z = ⟨#[65 + j]⟩)
def lowN (z : Str) : Str := if z.cps.getD 0 0 < 97 then ⟨#[z.cps.getD 0 0 + 32]⟩ else z
def uppN (z : Str) : Str := if z.cps.getD 0 0 < 97 then z else ⟨#[z.cps.getD 0 0 - 32]⟩
theorem nm_lower {z : Str} (h : IsNm z) : Txt.lower z = lowN z := by
  obtain ⟨j, hj, rfl | rfl⟩ := h
  · have : ∀ j < 7, Txt.lower ⟨#[97 + j]⟩ = lowN ⟨#[97 + j]⟩ := by decide +kernel
    exact this j hj
  · have : ∀ j < 7, Txt.lower ⟨#[65 + j]⟩ = lowN ⟨#[65 + j]⟩ := by decide +kernel
    exact this j hj
theorem nm_lowfit {z : Str} (h : IsNm z) : PySem.Builtin.Str.tooLong (Txt.lower z).length = false := by
  obtain ⟨j, hj, rfl | rfl⟩ := h
  · have : ∀ j < 7, PySem.Builtin.Str.tooLong (Txt.lower ⟨#[97 + j]⟩).length = false := by decide +kernel
    exact this j hj
  · have : ∀ j < 7, PySem.Builtin.Str.tooLong (Txt.lower ⟨#[65 + j]⟩).length = false := by decide +kernel
    exact this j hj
theorem nm_upper {z : Str} (h : IsNm z) : Txt.upper z = uppN z := by
  obtain ⟨j, hj, rfl | rfl⟩ := h
  · have : ∀ j < 7, Txt.upper ⟨#[97 + j]⟩ = uppN ⟨#[97 + j]⟩ := by decide +kernel
    exact this j hj
  · have : ∀ j < 7, Txt.upper ⟨#[65 + j]⟩ = uppN ⟨#[65 + j]⟩ := by decide +kernel
    exact this j hj
theorem nm_uppfit {z : Str} (h : IsNm z) : PySem.Builtin.Str.tooLong (Txt.upper z).length = false := by
  obtain ⟨j, hj, rfl | rfl⟩ := h
  · have : ∀ j < 7, PySem.Builtin.Str.tooLong (Txt.upper ⟨#[97 + j]⟩).length = false := by decide +kernel
    exact this j hj
  · have : ∀ j < 7, PySem.Builtin.Str.tooLong (Txt.upper ⟨#[65 + j]⟩).length = false := by decide +kernel
    exact this j hj
end Mine
end

section
open PySem PySem.W PyProof.Rows
set_option Elab.async false
set_option maxRecDepth 100000
set_option maxHeartbeats 8000000
namespace Mine
abbrev up (x : Str) (v : Option Value) (m : Str → Option Value) : Str → Option Value := fun y => if y = x then v else m y
theorem up_up (x : Str) (a b : Option Value) (m : Str → Option Value) : up x a (up x b m) = up x a m := funext fun y => by by_cases h : y = x <;> simp [up, h]
theorem body_ret {g h' : Heap} {L : Addr} {post : Value → Led → Nat → Prop} {s : Shared} {tk' : Nat} {m' : Str → Option Value} {v : Value} {news' : Led} (F : Fr g L h' m') (N : News g L h' news') (hp : post v news' tk') : BodyPost g L post s (.ret v) { heap := h', gens := s.gens, drawn := s.drawn, toks := tk', os := s.os } :=
  ⟨h', tk', m', news', rfl, F, N, hp⟩
theorem body_fall {g h' : Heap} {L : Addr} {post : Value → Led → Nat → Prop} {s : Shared} {tk' : Nat} {m' : Str → Option Value} {news' : Led} (F : Fr g L h' m') (N : News g L h' news') (hp : post .none news' tk') : BodyPost g L post s .next { heap := h', gens := s.gens, drawn := s.drawn, toks := tk', os := s.os } :=
  ⟨h', tk', m', news', rfl, F, N, hp⟩
/-- the end of a turn that goes on: what the iterator keeps stands, the invariant holds of a part of the ledger off the iterator -/
def NextOK (own : Led) (I : Addr) (J : (Str → Option Value) → Led → Prop) (m' : Str → Option Value) (all : Led) : Prop :=
  ∃ nx : Led, (∀ p ∈ own, p ∈ all) ∧ (∀ p ∈ nx, p ∈ all) ∧ (∀ p ∈ nx, p.1 ≠ I) ∧ J m' nx
def TurnPost (g : Heap) (L : Addr) (own : Led) (I : Addr) (J : (Str → Option Value) → Led → Nat → Prop) (Bk : (Str → Option Value) → Led → Prop) (Rt : Value → Led → Prop) (s : Shared) : Flow → Shared → Prop := fun f s' =>
  ∃ h' tk' m' all, s' = { s with heap := h', toks := tk' } ∧ Fr g L h' m' ∧ News g L h' all ∧ (match f with
    | .ret v => Rt v all
    | .brk => Bk m' all
    | _ => NextOK own I (fun m nx => J m nx tk') m' all)
section
variable {w : World} {A : Around} {env : Env} {target : Expr} {body : List Stmt} {s : Shared} {g : Heap} {I : Addr} {fp : List Addr} {n : Nat} {P : Nat → Value → Prop} {St : Nat → Heap → Prop}
theorem ownOf_get {h : Heap} {L : Addr} (hLf : L ∉ fp) : News g L h (ownOf g fp h) := news_ownOf hLf
/-- a for loop by an invariant over the frame's map and the ledger -/
theorem for_core (W : Walks pw w A I fp [I] n P St) (hnl : ∀ i v s Q E, St i s.heap → Q () s → wpAny (model pw w) A (letOwnedTupleGo target (.ref I) v) Q E s)
    (hLf : env.locals ∉ fp) (hI : g.get? I = none) {m : Str → Option Value} {news : Led} (hst : St 0 s.heap) (F : Fr g env.locals s.heap m) (N : News g env.locals s.heap news) (hoff : ∀ p ∈ news, p.1 ≠ I) (ht : 1 ≤ s.toks)
    (J : Nat → (Str → Option Value) → Led → Nat → Prop) (h0 : J 0 m news s.toks) (Bk : (Str → Option Value) → Led → Prop) (Rt : Value → Led → Prop)
    (Up : Nat → Value → Led → (Str → Option Value) → (Str → Option Value) → Prop)
    (asg : ∀ i v s₁ m₁ nx (Q : Unit → Shared → Prop) (E : Value → Shared → Prop), i < n → P i v → J i m₁ nx s₁.toks → Fr g env.locals s₁.heap m₁ → News g env.locals s₁.heap nx → 1 ≤ s₁.toks →
      (∀ h' tk' m₂, Up i v nx m₁ m₂ → Fr g env.locals h' m₂ → Heap.ExtBut env.locals s₁.heap h' → Q () { s₁ with heap := h', toks := tk' }) → wpAny (model pw w) A (assign target env v) Q E s₁)
    (turn : ∀ i v m₁ m₂ nx h tk own, i < n → P i v → J i m₁ nx tk → Up i v nx m₁ m₂ → (∀ p ∈ nx, p.1 ≠ I) → (∀ p ∈ own, p.1 ∈ fp) → St (i + 1) h → 1 ≤ tk → Fr g env.locals h m₂ → News g env.locals h (nx ++ own) →
      wpAny (model pw w) A (execs body env) (TurnPost g env.locals own I (J (i + 1)) Bk Rt { s with heap := h, toks := tk }) (fun _ _ => False) { s with heap := h, toks := tk })
    {R : Result → Shared → Prop}
    (done : ∀ m₁ nx h tk, J n m₁ nx tk → 1 ≤ tk → Fr g env.locals h m₁ → News g env.locals h nx → R (.ok .next) { s with heap := h, toks := tk })
    (brk : ∀ m₁ nx h tk, Bk m₁ nx → 1 ≤ tk → Fr g env.locals h m₁ → News g env.locals h nx → R (.ok .next) { s with heap := h, toks := tk })
    (ret : ∀ v m₁ nx h tk, Rt v nx → 1 ≤ tk → Fr g env.locals h m₁ → News g env.locals h nx → R (.ok (.ret v)) { s with heap := h, toks := tk })
    (hJm : ∀ i m nx a b, a ≤ b → J i m nx a → J i m nx b := by intro _ _ _ _ _ _ hJm; exact hJm) :
    codeAny (model pw w) A (.forLoop target (.ref I) body [] env) R s := by
  have hLI : env.locals ≠ I := fun e => hLf (e ▸ W.sub I (List.mem_singleton.mpr rfl))
  have old : ∀ b o, g.get? b = some o → b ∉ [I] := fun b o e hb => by rw [List.mem_singleton.mp hb, hI] at e; cases e
  refine codeAny_forLoop_any
    (fun k s' => ∃ h' tk m' nx i, s' = { s with heap := h', toks := tk } ∧ St i h' ∧ Fr g env.locals h' m' ∧ News g env.locals h' nx ∧ (∀ p ∈ nx, p.1 ≠ I) ∧ J i m' nx tk ∧ 1 ≤ tk ∧ i ≤ n ∧ k = n + 1 - i) ?_ (n + 1)
    ⟨s.heap, s.toks, m, news, 0, rfl, hst, F, N, hoff, h0, ht, Nat.zero_le _, rfl⟩
  rintro k s' ⟨h', tk, m', nx, i, rfl, hst', F', N', hoff', hJ, htk, hi, rfl⟩
  have next : ∀ h₁ : Heap, (∀ b o, b ∉ [I] → h'.get? b = some o → h₁.get? b = some o) → Fr g env.locals h₁ m' ∧ News g env.locals h₁ nx := fun h₁ hk₁ =>
    ⟨⟨F'.ns.at' fun o e => hk₁ _ o (fun hb => hLI (List.mem_singleton.mp hb)) e, fun b o e => hk₁ b o (old b o e) (F'.keep b o e), F'.above⟩, fun p hp => ⟨hk₁ _ _ (fun hb => hoff' p hp (List.mem_singleton.mp hb)) (N' p hp).1, (N' p hp).2⟩⟩
  by_cases hlt : i < n
  · refine wpAny_with_toks (n := tk) (Nat.le_refl _) (W.item i _ _ _ hlt hst' fun v h₁ tk₁ hP hst₁ hk₁ htk₁ => ?_)
    have hJ := hJm _ _ _ _ _ htk₁ hJ
    have htk₁ := Nat.le_trans htk htk₁
    obtain ⟨F₁, N₁⟩ := next h₁ hk₁
    refine hnl _ _ _ _ _ hst₁ ?_
    refine wpAny_with_toks (n := tk₁) (Nat.le_refl _) (asg i v _ m' nx _ _ hlt hP hJ F₁ N₁ htk₁ fun h₂ tk₂ m₂ hUp F₂ hs₂ htk₂ => ?_)
    have hJ := hJm _ _ _ _ _ htk₂ hJ
    have htk₂ := Nat.le_trans htk₁ htk₂
    have Nown : News g env.locals h₂ (ownOf g fp h₂) := news_ownOf hLf
    have hst₂ : St (i + 1) h₂ := W.frame _ _ _ hst₁ fun b hb o e => hs₂ b o (fun q => hLf (q ▸ hb)) e
    refine wpAny_with_toks (n := 1) htk₂ (wpAny_mono (turn i v m' m₂ nx h₂ tk₂ (ownOf g fp h₂) hlt hP hJ hUp hoff' (fun p hp => ownOf_sub p hp) hst₂ htk₂ F₂ (News.append (fun p hp => ⟨hs₂ _ _ (N₁ p hp).2.1 (N₁ p hp).1, (N₁ p hp).2⟩) Nown)) (fun f s₃ h₃ htk₃ => ?_) fun _ _ e => e.elim)
    obtain ⟨h₃', tk₃, m₃, all, rfl, F₃, N₃, hf⟩ := h₃
    have goon : NextOK (ownOf g fp h₂) I (fun m nx => J (i + 1) m nx tk₃) m₃ all → ∃ m_1, m_1 < n + 1 - i ∧ ∃ h'_1 tk_1 m'_1 nx_1 i_1, ({ s with heap := h₃', toks := tk₃ } : Shared) = { s with heap := h'_1, toks := tk_1 } ∧ St i_1 h'_1 ∧ Fr g env.locals h'_1 m'_1 ∧ News g env.locals h'_1 nx_1 ∧ (∀ p ∈ nx_1, p.1 ≠ I) ∧ J i_1 m'_1 nx_1 tk_1 ∧ 1 ≤ tk_1 ∧ i_1 ≤ n ∧ m_1 = n + 1 - i_1 := by
      rintro ⟨nx', hown, hnx, hoff₃, hJ₃⟩
      refine ⟨n + 1 - (i + 1), Nat.sub_lt_sub_left (Nat.lt_succ_of_lt hlt) (Nat.lt_succ_self i), h₃', tk₃, m₃, nx', i + 1, rfl, ?_, F₃, fun p hp => N₃ p (hnx p hp), hoff₃, hJ₃, htk₃, hlt, rfl⟩
      refine W.frame _ _ _ hst₁ fun b hb o e => ?_
      have e₂ : h₂.get? b = some o := hs₂ b o (fun q => hLf (q ▸ hb)) e
      cases hn : g.get? b with
      | some o₀ =>
        have : o₀ = o := by have := F₂.keep b o₀ hn; rw [e₂] at this; exact (Option.some.inj this).symm
        exact this ▸ F₃.keep b o₀ hn
      | none => exact (N₃ _ (hown _ (mem_ownOf hb hn e₂))).1
    cases f with
    | ret v => exact ret v m₃ all h₃' tk₃ hf htk₃ F₃ N₃
    | brk => exact brk m₃ all h₃' tk₃ hf htk₃ F₃ N₃
    | cont => exact goon hf
    | next => exact goon hf
  · have hin : i = n := Nat.le_antisymm hi (Nat.le_of_not_lt hlt)
    subst hin
    refine wpAny_with_toks (n := tk) (Nat.le_refl _) (W.done _ _ _ hst' fun h₁ tk₁ hk₁ htk₁ => wpAny_execs_nil ?_)
    obtain ⟨F₁, N₁⟩ := next h₁ hk₁
    exact done m' nx h₁ tk₁ (hJm _ _ _ _ _ htk₁ hJ) (Nat.le_trans htk htk₁) F₁ N₁
/-- the same; what the iterator keeps is the iterator itself and parts that stand fixed -/
theorem for_fix (W : Walks pw w A I fp [I] n P St) (live : ∀ i h, St i h → ∃ io, h.get? I = some io) (fixed : Led) (hfp : ∀ b ∈ fp, b = I ∨ (∃ o, (b, o) ∈ fixed) ∨ ∃ o, g.get? b = some o) (hnl : ∀ i v s Q E, St i s.heap → Q () s → wpAny (model pw w) A (letOwnedTupleGo target (.ref I) v) Q E s)
    (hLf : env.locals ∉ fp) (hI : g.get? I = none) {m : Str → Option Value} {news : Led} (hst : St 0 s.heap) (F : Fr g env.locals s.heap m) (N : News g env.locals s.heap news) (hoff : ∀ p ∈ news, p.1 ≠ I) (ht : 1 ≤ s.toks) (hfix : ∀ p ∈ fixed, p ∈ news)
    (J : Nat → (Str → Option Value) → Led → Nat → Prop) (h0 : J 0 m news s.toks) (Bk : (Str → Option Value) → Led → Prop) (Rt : Value → Led → Prop)
    (Up : Nat → Value → Led → (Str → Option Value) → (Str → Option Value) → Prop)
    (asg : ∀ i v s₁ m₁ nx (Q : Unit → Shared → Prop) (E : Value → Shared → Prop), i < n → P i v → J i m₁ nx s₁.toks → Fr g env.locals s₁.heap m₁ → News g env.locals s₁.heap nx → 1 ≤ s₁.toks →
      (∀ h' tk' m₂, Up i v nx m₁ m₂ → Fr g env.locals h' m₂ → Heap.ExtBut env.locals s₁.heap h' → Q () { s₁ with heap := h', toks := tk' }) → wpAny (model pw w) A (assign target env v) Q E s₁)
    (turn : ∀ i v m₁ m₂ nx h tk io, i < n → P i v → (∀ p ∈ fixed, p ∈ nx) → J i m₁ nx tk → Up i v nx m₁ m₂ → (∀ p ∈ nx, p.1 ≠ I) → 1 ≤ tk → Fr g env.locals h m₂ → News g env.locals h (nx ++ [(I, io)]) →
      wpAny (model pw w) A (execs body env) (TurnPost g env.locals [(I, io)] I (fun m' nx' t' => (∀ p ∈ fixed, p ∈ nx') ∧ J (i + 1) m' nx' t') Bk Rt { s with heap := h, toks := tk }) (fun _ _ => False) { s with heap := h, toks := tk })
    {R : Result → Shared → Prop}
    (done : ∀ m₁ nx h tk, (∀ p ∈ fixed, p ∈ nx) → J n m₁ nx tk → 1 ≤ tk → Fr g env.locals h m₁ → News g env.locals h nx → R (.ok .next) { s with heap := h, toks := tk })
    (brk : ∀ m₁ nx h tk, Bk m₁ nx → 1 ≤ tk → Fr g env.locals h m₁ → News g env.locals h nx → R (.ok .next) { s with heap := h, toks := tk })
    (ret : ∀ v m₁ nx h tk, Rt v nx → 1 ≤ tk → Fr g env.locals h m₁ → News g env.locals h nx → R (.ok (.ret v)) { s with heap := h, toks := tk })
    (hJm : ∀ i m nx a b, a ≤ b → J i m nx a → J i m nx b := by intro _ _ _ _ _ _ hJm; exact hJm) :
    codeAny (model pw w) A (.forLoop target (.ref I) body [] env) R s := by
  refine for_core W hnl hLf hI hst F N hoff ht (fun i m nx t => (∀ p ∈ fixed, p ∈ nx) ∧ J i m nx t) ⟨hfix, h0⟩ Bk Rt Up (fun i v s₁ m₁ nx Q E hi hP hJ => asg i v s₁ m₁ nx Q E hi hP hJ.2) ?_ (fun m₁ nx h tk hJ => done m₁ nx h tk hJ.1 hJ.2) brk ret (fun i m nx a b hab h => ⟨h.1, hJm _ _ _ _ _ hab h.2⟩)
  intro i v m₁ m₂ nx h tk own hi hP hJ hUp hoff' hown hst' htk F' N'
  obtain ⟨io, hio⟩ := live _ _ hst'
  have hLI : I ≠ env.locals := fun e => hLf (e ▸ W.sub I (List.mem_singleton.mpr rfl))
  have NI : News g env.locals h (nx ++ [(I, io)]) := fun p hp => (List.mem_append.mp hp).elim (fun q => N' p (List.mem_append_left _ q)) fun q => by
    rw [List.mem_singleton.mp q]; exact ⟨hio, hLI, hI⟩
  refine wpAny_mono (turn i v m₁ m₂ nx h tk io hi hP hJ.1 hJ.2 hUp hoff' htk F' NI) ?_ fun _ _ e => e
  rintro f s' ⟨h', tk', m', all, rfl, F₁, N₁, hf⟩
  refine ⟨h', tk', m', all, rfl, F₁, N₁, ?_⟩
  have go : NextOK [(I, io)] I (fun m' nx' => (∀ p ∈ fixed, p ∈ nx') ∧ J (i + 1) m' nx' tk') m' all → NextOK own I (fun m' nx' => (∀ p ∈ fixed, p ∈ nx') ∧ J (i + 1) m' nx' tk') m' all := by
    rintro ⟨nx', ho, hn, hoff₂, hfx, hJ'⟩
    refine ⟨nx', fun p hp => ?_, hn, hoff₂, hfx, hJ'⟩
    have hg : h.get? p.1 = some p.2 := (N' p (List.mem_append_right _ hp)).1
    rcases hfp _ (hown p hp) with e | ⟨o, ho'⟩ | ⟨o, ho'⟩
    · rw [e, hio] at hg
      have : p = (I, io) := Prod.ext e (Option.some.inj hg).symm
      rw [this]; exact ho _ (List.mem_singleton.mpr rfl)
    · have h2 := (N' _ (List.mem_append_left _ (hJ.1 _ ho'))).1
      rw [hg] at h2
      have : p = (p.1, o) := Prod.ext rfl (Option.some.inj h2)
      rw [this]; exact hn _ (hfx _ ho')
    · have h2 := (N' p (List.mem_append_right _ hp)).2.2
      rw [ho'] at h2; cases h2
  cases f with
  | ret v => exact hf
  | brk => exact hf
  | cont => exact go hf
  | next => exact go hf
theorem asg_name {x : Str} {px : Pos} (hk : env.scope.kind = .function) (hl : env.kindOf x = some .local) {v : Value} {s₁ : Shared} {m₁ : Str → Option Value} {Q : Unit → Shared → Prop} {E : Value → Shared → Prop} (F : Fr g env.locals s₁.heap m₁)
    (h : ∀ h' tk', Fr g env.locals h' (fun y => if y = x then some v else m₁ y) → Heap.SameBut env.locals s₁.heap h' → Q () { s₁ with heap := h', toks := tk' }) : wpAny (model pw w) A (assign (.Name x px) env v) Q E s₁ :=
  wpAny_assign_Name (wpAny_storeName_local hl F.ns (fun h' hn hs => h h' _ (F.set hn hs) hs) (by rw [hk]; rfl))
end
section
variable {w : World} {A : Around} {env : Env} {x : Str} {px : Pos} {body : List Stmt} {s : Shared} {g : Heap} {E : Value → Shared → Prop}
/-- over a list of the ledger -/
theorem for_list {l : Addr} {lo : Obj} {vs : List Value} {m : Str → Option Value} {news : Led} (hh : A.handled = none) (hk : env.scope.kind = .function) (hx : env.kindOf x = some .local) (hl : (l, lo) ∈ news) (hlo : lo.cls = .type "list" ∧ ∃ k, lo.data = .seq vs.toArray k)
    (F : Fr g env.locals s.heap m) (N : News g env.locals s.heap news) (ht : 1 ≤ s.toks)
    (J : Nat → (Str → Option Value) → Led → Nat → Prop) (h0 : J 0 m news s.toks) (Bk : (Str → Option Value) → Led → Prop) (Rt : Value → Led → Prop)
    (turn : ∀ i v m₁ nx h tk I io, vs[i]? = some v → (l, lo) ∈ nx → J i m₁ nx tk → (∀ p ∈ nx, p.1 ≠ I) → 1 ≤ tk → Fr g env.locals h (fun y => if y = x then some v else m₁ y) → News g env.locals h (nx ++ [(I, io)]) →
      wpAny (model pw w) A (execs body env) (TurnPost g env.locals [(I, io)] I (fun m' nx' t' => (l, lo) ∈ nx' ∧ J (i + 1) m' nx' t') Bk Rt { s with heap := h, toks := tk }) (fun _ _ => False) { s with heap := h, toks := tk })
    {R : Result → Shared → Prop}
    (done : ∀ m₁ nx h tk, (l, lo) ∈ nx → J vs.length m₁ nx tk → 1 ≤ tk → Fr g env.locals h m₁ → News g env.locals h nx → R (.ok .next) { s with heap := h, toks := tk })
    (brk : ∀ m₁ nx h tk, Bk m₁ nx → 1 ≤ tk → Fr g env.locals h m₁ → News g env.locals h nx → R (.ok .next) { s with heap := h, toks := tk })
    (ret : ∀ v m₁ nx h tk, Rt v nx → 1 ≤ tk → Fr g env.locals h m₁ → News g env.locals h nx → R (.ok (.ret v)) { s with heap := h, toks := tk })
    (hJm : ∀ i m nx a b, a ≤ b → J i m nx a → J i m nx b := by intro _ _ _ _ _ _ hJm; exact hJm) :
    wpAny (model pw w) A (pyIter (.ref l)) (fun it s₂ => codeAny (model pw w) A (.forLoop (.Name x px) it body [] env) R s₂) E s := by
  have hol : s.heap.get? l = some lo := (N _ hl).1
  obtain ⟨hc, k, hd⟩ := hlo
  have hls : s.heap.IsList l vs.toArray := ⟨_, hol, hc, k, hd⟩
  have hne : l ≠ s.heap.objs.size := Nat.ne_of_lt (Heap.lt_size hol)
  refine wpAny_pyIter_list hls ?_
  have W := Walks.list (prog := pw) (w := w) hh s.heap.objs.size l hne vs.toArray
  refine for_fix (s := { s with heap := s.heap.push { cls := .type "list_iterator", data := .fields #[.ref l, .int 0 0] } }) W (fun i h st => let ⟨o, ho, _⟩ := st.1; ⟨o, ho⟩) [(l, lo)] ?_ (fun _ _ _ _ _ _ q => wpAny_of_eq (a := ()) rfl q) ?_ ?_ ?_ ?_ ?_ (fun p hp e => ?_) ht (fun p hp => by rw [List.mem_singleton.mp hp]; exact hl) J h0 Bk Rt (fun _ v _ m m' => m' = up x (some v) m)
    (fun i v s₁ m₁ nx Q E _ _ _ F _ _ h => asg_name hk hx F fun h' tk' F' hs => h h' tk' _ rfl F' hs.extBut) ?_ ?_ brk ret hJm
  · intro b hb
    rcases List.mem_cons.mp hb with e | hb
    · exact .inl e
    · exact .inr (.inl ⟨lo, by rw [List.mem_singleton.mp hb]; exact List.mem_singleton.mpr rfl⟩)
  · intro hm
    rcases List.mem_cons.mp hm with e | hm
    · exact absurd F.ns.lt (e ▸ Nat.lt_irrefl _)
    · exact (N _ hl).2.1 ((List.mem_singleton.mp hm).symm)
  · exact next_is_new F
  · exact ⟨⟨_, Heap.get?_push_size _ rfl, rfl, rfl⟩, hls.at fun o e => Heap.get?_push_of_some _ e⟩
  · exact F.push _
  · exact fun p hp => ⟨Heap.get?_push_of_some _ (N p hp).1, (N p hp).2⟩
  · exact absurd (Heap.lt_size (N p hp).1) (e ▸ Nat.lt_irrefl _)
  · rintro i v m₁ _ nx h tk io hi hP hfx hJ rfl hoff htk F' N'
    refine wpAny_mono (turn i v m₁ nx h tk _ io (by simpa using hP) (hfx _ (List.mem_singleton.mpr rfl)) hJ hoff htk F' N') ?_ fun _ _ e => e
    rintro f s' ⟨h', tk', m', all, rfl, F₁, N₁, hf⟩
    refine ⟨h', tk', m', all, rfl, F₁, N₁, ?_⟩
    have go : NextOK [(s.heap.objs.size, io)] s.heap.objs.size (fun m' nx' => (l, lo) ∈ nx' ∧ J (i + 1) m' nx' tk') m' all → NextOK [(s.heap.objs.size, io)] s.heap.objs.size (fun m' nx' => (∀ p ∈ [(l, lo)], p ∈ nx') ∧ J (i + 1) m' nx' tk') m' all := by
      rintro ⟨nx', a, b, c, d, e⟩
      exact ⟨nx', a, b, c, fun p hp => by rw [List.mem_singleton.mp hp]; exact d, e⟩
    cases f with
    | ret v => exact hf
    | brk => exact hf
    | cont => exact go hf
    | next => exact go hf
  · intro m₁ nx h tk hfx hJ
    exact done m₁ nx h tk (hfx _ (List.mem_singleton.mpr rfl)) (by simpa using hJ)
/-- an iterator that keeps nothing but itself -/
theorem for_own {I : Addr} {n : Nat} {P : Nat → Value → Prop} {St : Nat → Heap → Prop} {io : Obj} {m : Str → Option Value} {news : Led} (W : Walks pw w A I [I] [I] n P St) (live : ∀ i h, St i h → ∃ io, h.get? I = some io) (hI : I = s.heap.objs.size) (hst : St 0 (s.heap.push io))
    (hk : env.scope.kind = .function) (hx : env.kindOf x = some .local)
    (F : Fr g env.locals s.heap m) (N : News g env.locals s.heap news) (ht : 1 ≤ s.toks)
    (J : Nat → (Str → Option Value) → Led → Nat → Prop) (h0 : J 0 m news s.toks) (Bk : (Str → Option Value) → Led → Prop) (Rt : Value → Led → Prop)
    (turn : ∀ i v m₁ nx h tk I io, i < n → P i v → J i m₁ nx tk → (∀ p ∈ nx, p.1 ≠ I) → 1 ≤ tk → Fr g env.locals h (fun y => if y = x then some v else m₁ y) → News g env.locals h (nx ++ [(I, io)]) →
      wpAny (model pw w) A (execs body env) (TurnPost g env.locals [(I, io)] I (J (i + 1)) Bk Rt { s with heap := h, toks := tk }) (fun _ _ => False) { s with heap := h, toks := tk })
    {R : Result → Shared → Prop}
    (done : ∀ m₁ nx h tk, J n m₁ nx tk → 1 ≤ tk → Fr g env.locals h m₁ → News g env.locals h nx → R (.ok .next) { s with heap := h, toks := tk })
    (brk : ∀ m₁ nx h tk, Bk m₁ nx → 1 ≤ tk → Fr g env.locals h m₁ → News g env.locals h nx → R (.ok .next) { s with heap := h, toks := tk })
    (ret : ∀ v m₁ nx h tk, Rt v nx → 1 ≤ tk → Fr g env.locals h m₁ → News g env.locals h nx → R (.ok (.ret v)) { s with heap := h, toks := tk })
    (hJm : ∀ i m nx a b, a ≤ b → J i m nx a → J i m nx b := by intro _ _ _ _ _ _ hJm; exact hJm) :
    codeAny (model pw w) A (.forLoop (.Name x px) (.ref I) body [] env) R { s with heap := s.heap.push io } := by
  subst hI
  refine for_fix (s := { s with heap := s.heap.push io }) W live [] ?_ (fun _ _ _ _ _ _ q => wpAny_of_eq (a := ()) rfl q) ?_ ?_ hst ?_ ?_ (fun p hp e => ?_) ht (fun p hp => nomatch hp) J h0 Bk Rt (fun _ v _ m m' => m' = up x (some v) m)
    (fun i v s₁ m₁ nx Q E _ _ _ F _ _ h => asg_name hk hx F fun h' tk' F' hs => h h' tk' _ rfl F' hs.extBut) ?_ ?_ brk ret hJm
  · intro b hb; exact .inl (List.mem_singleton.mp hb)
  · intro hm; exact absurd F.ns.lt ((List.mem_singleton.mp hm) ▸ Nat.lt_irrefl _)
  · exact next_is_new F
  · exact F.push _
  · exact fun p hp => ⟨Heap.get?_push_of_some _ (N p hp).1, (N p hp).2⟩
  · exact absurd (Heap.lt_size (N p hp).1) (e ▸ Nat.lt_irrefl _)
  · rintro i v m₁ _ nx h tk io' hi hP _ hJ rfl hoff htk F' N'
    refine wpAny_mono (turn i v m₁ nx h tk _ io' hi hP hJ hoff htk F' N') ?_ fun _ _ e => e
    rintro f s' ⟨h', tk', m', all, rfl, F₁, N₁, hf⟩
    refine ⟨h', tk', m', all, rfl, F₁, N₁, ?_⟩
    have go : NextOK [(s.heap.objs.size, io')] s.heap.objs.size (fun m' nx' => J (i + 1) m' nx' tk') m' all → NextOK [(s.heap.objs.size, io')] s.heap.objs.size (fun m' nx' => (∀ p ∈ ([] : Led), p ∈ nx') ∧ J (i + 1) m' nx' tk') m' all := by
      rintro ⟨nx', a, b, c, d⟩
      exact ⟨nx', a, b, c, fun p hp => (nomatch hp), d⟩
    cases f with
    | ret v => exact hf
    | brk => exact hf
    | cont => exact go hf
    | next => exact go hf
  · intro m₁ nx h tk _ hJ
    exact done m₁ nx h tk hJ
theorem for_range {r : Addr} {a b c : Int} {t₀ u₀ v₀ : Tok} {n : Nat} {m : Str → Option Value} {news : Led} (hh : A.handled = none) (hr : IsRange s.heap r a b c t₀ u₀ v₀) (hsmall : Builtin.Range.small a b c = true) (hn : Builtin.Range.rangeSize a b c = (n : Int))
    (hk : env.scope.kind = .function) (hx : env.kindOf x = some .local)
    (F : Fr g env.locals s.heap m) (N : News g env.locals s.heap news) (ht : 1 ≤ s.toks)
    (J : Nat → (Str → Option Value) → Led → Nat → Prop) (h0 : J 0 m news s.toks) (Bk : (Str → Option Value) → Led → Prop) (Rt : Value → Led → Prop)
    (turn : ∀ i t m₁ nx h tk I io, i < n → J i m₁ nx tk → (∀ p ∈ nx, p.1 ≠ I) → 1 ≤ tk → Fr g env.locals h (fun y => if y = x then some (.int (a + (i : Int) * c) t) else m₁ y) → News g env.locals h (nx ++ [(I, io)]) →
      wpAny (model pw w) A (execs body env) (TurnPost g env.locals [(I, io)] I (J (i + 1)) Bk Rt { s with heap := h, toks := tk }) (fun _ _ => False) { s with heap := h, toks := tk })
    {R : Result → Shared → Prop}
    (done : ∀ m₁ nx h tk, J n m₁ nx tk → 1 ≤ tk → Fr g env.locals h m₁ → News g env.locals h nx → R (.ok .next) { s with heap := h, toks := tk })
    (brk : ∀ m₁ nx h tk, Bk m₁ nx → 1 ≤ tk → Fr g env.locals h m₁ → News g env.locals h nx → R (.ok .next) { s with heap := h, toks := tk })
    (ret : ∀ v m₁ nx h tk, Rt v nx → 1 ≤ tk → Fr g env.locals h m₁ → News g env.locals h nx → R (.ok (.ret v)) { s with heap := h, toks := tk })
    (hJm : ∀ i m nx a b, a ≤ b → J i m nx a → J i m nx b := by intro _ _ _ _ _ _ hJm; exact hJm) :
    wpAny (model pw w) A (pyIter (.ref r)) (fun it s₂ => codeAny (model pw w) A (.forLoop (.Name x px) it body [] env) R s₂) E s := by
  refine wpAny_pyIter_range hr hsmall ?_
  refine for_own (I := s.heap.objs.size) (Walks.range hh _ a c n) (fun i h st => ⟨_, st⟩) rfl ?_ hk hx F N ht J h0 Bk Rt ?_ done brk ret hJm
  · show IsRangeIter _ _ _ _ _
    rw [hn]; simpa using Heap.get?_push_size _ rfl
  · rintro i v m₁ nx h tk I io hi ⟨t, rfl⟩ hJ hoff htk F' N'
    exact turn i t m₁ nx h tk I io hi hJ hoff htk F' N'
theorem for_str {z : Str} {tz : Tok} {m : Str → Option Value} {news : Led} (hh : A.handled = none)
    (hk : env.scope.kind = .function) (hx : env.kindOf x = some .local)
    (F : Fr g env.locals s.heap m) (N : News g env.locals s.heap news) (ht : 1 ≤ s.toks)
    (J : Nat → (Str → Option Value) → Led → Nat → Prop) (h0 : J 0 m news s.toks) (Bk : (Str → Option Value) → Led → Prop) (Rt : Value → Led → Prop)
    (turn : ∀ i c t m₁ nx h tk I io, z.cps[i]? = some c → J i m₁ nx tk → (∀ p ∈ nx, p.1 ≠ I) → 1 ≤ tk → Fr g env.locals h (fun y => if y = x then some (.str ⟨#[c]⟩ t) else m₁ y) → News g env.locals h (nx ++ [(I, io)]) →
      wpAny (model pw w) A (execs body env) (TurnPost g env.locals [(I, io)] I (J (i + 1)) Bk Rt { s with heap := h, toks := tk }) (fun _ _ => False) { s with heap := h, toks := tk })
    {R : Result → Shared → Prop}
    (done : ∀ m₁ nx h tk, J z.cps.size m₁ nx tk → 1 ≤ tk → Fr g env.locals h m₁ → News g env.locals h nx → R (.ok .next) { s with heap := h, toks := tk })
    (brk : ∀ m₁ nx h tk, Bk m₁ nx → 1 ≤ tk → Fr g env.locals h m₁ → News g env.locals h nx → R (.ok .next) { s with heap := h, toks := tk })
    (ret : ∀ v m₁ nx h tk, Rt v nx → 1 ≤ tk → Fr g env.locals h m₁ → News g env.locals h nx → R (.ok (.ret v)) { s with heap := h, toks := tk })
    (hJm : ∀ i m nx a b, a ≤ b → J i m nx a → J i m nx b := by intro _ _ _ _ _ _ hJm; exact hJm) :
    wpAny (model pw w) A (pyIter (.str z tz)) (fun it s₂ => codeAny (model pw w) A (.forLoop (.Name x px) it body [] env) R s₂) E s := by
  have go : ∀ (o : Obj) (St : Nat → Heap → Prop), Walks pw w A s.heap.objs.size [s.heap.objs.size] [s.heap.objs.size] z.cps.size (SignAt z) St → (∀ i h, St i h → ∃ io, h.get? s.heap.objs.size = some io) → St 0 (s.heap.push o) →
      codeAny (model pw w) A (.forLoop (.Name x px) (.ref s.heap.objs.size) body [] env) R { s with heap := s.heap.push o } := by
    intro o St W live hst
    refine for_own W live rfl hst hk hx F N ht J h0 Bk Rt ?_ done brk ret hJm
    rintro i v m₁ nx h tk I io hi ⟨c, u, hc, rfl⟩ hJ hoff htk F' N'
    exact turn i c u m₁ nx h tk I io hc hJ hoff htk F' N'
  cases ha : z.cps.all (· < 128)
  · exact wpAny_pyIter_wide ha (go _ _ (Walks.strWide hh _ z tz) (fun i h st => let ⟨o, ho, _⟩ := st; ⟨o, ho⟩) ⟨_, Heap.get?_push_size _ rfl, rfl, rfl⟩)
  · exact wpAny_pyIter_ascii ha (go _ _ (Walks.strAscii hh _ z tz) (fun i h st => let ⟨o, ho, _⟩ := st; ⟨o, ho⟩) ⟨_, Heap.get?_push_size _ rfl, rfl, rfl⟩)
end
theorem turn_next {g : Heap} {L I : Addr} {own : Led} {J : (Str → Option Value) → Led → Nat → Prop} {Bk : (Str → Option Value) → Led → Prop} {Rt : Value → Led → Prop} {s : Shared} {h' : Heap} {tk' : Nat} {m' : Str → Option Value} (nx : Led) (F : Fr g L h' m') (N : News g L h' (nx ++ own)) (hoff : ∀ p ∈ nx, p.1 ≠ I) (hJ : J m' nx tk') :
    TurnPost g L own I J Bk Rt s .next { heap := h', gens := s.gens, drawn := s.drawn, toks := tk', os := s.os } :=
  ⟨h', tk', m', _, rfl, F, N, nx, fun _ hp => List.mem_append_right _ hp, fun _ hp => List.mem_append_left _ hp, hoff, hJ⟩
end Mine
end

section
open PySem PySem.W PySem.Calls PyProof.Rows
set_option Elab.async false
set_option maxRecDepth 100000
set_option maxHeartbeats 8000000
namespace Mine
def BodyC (w : World) (D U : Nat) (qual : Str) (scope : Scope) (body : List Stmt) (f : Addr) (cdv : Value) (m cm : Str → Option Value) (news : Led) (post : Value → Led → Nat → Prop) (lo : Nat := 0) : Prop :=
  ∀ (mean : ExcName → Option Value) (mg mb : Str → Option Value) (dp un : Nat) (gd : Option (List Code)) (outer : List Env) (A₀ : Around) (base g : Heap) (L : Addr) (s : Shared) (cells : Led),
    Below A₀ base outer g → Fr g L s.heap m → (K w.params).In g → News g L s.heap (cells ++ news) → CellsAre cm (cellsFrom (L + 1) scope.names []) cells → Top vw (looseW vw loose) mean mg mb g → (∀ p ∈ news, p.1 < L) → lo + 1 ≤ s.toks → dp + D < recursionLimit → un + U < cLine →
    let Aa : Around := ktrTop dp un gd qual scope L f cdv (cellsFrom (L + 1) scope.names []) outer
    wpAny (model pw w) Aa (execs body (envOfC qual scope L f cdv)) (BodyPost g L post s) (fun _ _ => False) s
theorem does_fnC {w : World} {D U : Nat} {name qual : Str} {params : Arguments} {body : List Stmt} {scope : Scope} {dV kV doc pm cdv ct oc : Value} {an od : Option Addr} {osl : Array (Option Value)} {f : Addr} {vs : List Value} {binds : List (Str × Value)} {m cm : Str → Option Value} {news : Led} {post : Value → Led → Nat → Prop} {kw : List (Str × Value)} {lo : Nat}
    (ho : (K w.params).lookup f = some ⟨oc, od, .func (fnOf name qual params body scope dV kV doc pm an cdv ct), osl⟩) (hcd : codeIn (K w.params) cdv qual = true)
    (hbind : ∀ s, (K w.params).In s.heap → BindsTo s (fnOf name qual params body scope dV kV doc pm an cdv ct) ⟨vs, kw⟩ binds) (hkind : (binds.all fun y => scope.names.lookup y.1 == some .local || scope.names.lookup y.1 == some .cell) = true)
    (hnd : ((cellsFrom 0 scope.names []).map (·.1)).Nodup)
    (hm : ∀ L, bindL (envOfC qual scope L f cdv).kindOf binds (fun _ => none) = m) (hcm : ∀ L, bindC (envOfC qual scope L f cdv).kindOf binds (fun _ => none) = cm)
    (hco : scope.isCoroutine = false) (hgen : scope.isGenerator = false) (hk : scope.kind = .function)
    (h : BodyC w D U qual scope body f cdv m cm news post lo) : Does w (D + 1) (U + 3) (.ref f) vs news post kw lo := by
  intro mean mg mb dp un gd cn cs a ccd cl outer A₀ base h₀ L m₀ s R B F X N T hkc ht hd hu hret
  refine codeAny_mono (codeAny_toks_of (n := s.toks) (Nat.le_refl _) (R := fun r s' => s.toks ≤ s'.toks → R r s') ?_) fun _ _ q => q.2 q.1
  have hX := X.keeps F.keep
  obtain ⟨FG, BG, st, lv⟩ := groundX (R := fun r s' => s.toks ≤ s'.toks → R r s') B F N (env := envX cn cs L a ccd cl) (A := ktrTop dp un gd cn cs L a ccd cl outer) rfl rfl hkc
  refine codeAny_call_function (Nat.lt_of_le_of_lt (Nat.le_add_right dp _) hd) (hX _ _ ho) rfl hco hgen rfl (codeRec_of hX hcd) (hbind _ hX _ _ _ _ ?_)
  refine wpAny_with_toks (n := lo + 1) ht (wpAny_newFunctionEnv_cells hk (kindsX hkind _) fun env' he s' x => ?_)
  intro htk
  subst he
  refine ⟨(T.nolimit.keeps F.keep).keeps x.toInCall.keep, codeAny_func ?_⟩
  obtain ⟨h₁, tk, rfl, _⟩ := x.done
  have hk₁ := x.toInCall.keep
  obtain ⟨cells, NC, Y⟩ := Cl.news (h₀ := s.heap) (Nat.le_refl _) fun n c hm => ⟨x.cell n c (lookup_of_mem_nodup (cellsFrom_names scope.names 0 (s.heap.objs.size + 1) [] [] rfl ▸ hnd) hm), x.above n c hm⟩
  have hns : Heap.Ns h₁ s.heap.objs.size m := hm s.heap.objs.size ▸ x.toInCall.ns
  have Y : CellsAre cm (cellsFrom (s.heap.objs.size + 1) scope.names []) cells := hcm s.heap.objs.size ▸ Y
  refine wpAny_mono (h mean mg mb (dp + 1) (un + 3) gd (envX cn cs L a ccd cl :: outer) _ base _ s.heap.objs.size { s with heap := h₁, toks := tk } cells BG ⟨hns, fun b o e => hk₁ b o (of_hideAll _ e), Nat.le_of_eq (hideAll_size _ _)⟩ (X.keeps st) (fun p hp => ?_) Y (T.keeps st) (fun p hp => Heap.lt_size (N p hp).1) htk (o_dp hd) (o_un hu)) ?_ ?_
  · rcases List.mem_append.mp hp with hp | hp
    · refine ⟨(NC p hp).1, (NC p hp).2.1, ?_⟩
      cases q : (hideAll s.heap (news.map (·.1))).get? p.1 with
      | none => rfl
      | some o => have := of_hideAll _ q; rw [(NC p hp).2.2] at this; cases this
    · exact ⟨hk₁ _ _ (N p hp).1, Nat.ne_of_lt (Heap.lt_size (N p hp).1), hideAll_none _ (List.mem_map_of_mem hp)⟩
  · rintro fl s' ⟨h', tk', m', news', rfl, F3, N3, hp⟩
    exact lv _ _ (leaveK_ F3 N3 fun Fb Nb => fun ht' => hret _ h' tk' news' hp ht' Fb Nb)
  · intro _ _ h; exact h.elim

theorem does_same {w : World} {D U : Nat} {f V : Value} {vs : List Value} {news : Led} {kw : List (Str × Value)} (C : Does w D U f vs news (fun v n' _ => v = V ∧ n' = news) kw) {mean : ExcName → Option Value} {mg mb : Str → Option Value} {dp un : Nat} {gd : Option (List Code)} {cn : Str} {cs : Scope} {a : Addr} {ccd : Value} {cl : List (Str × Addr)} {outer : List Env} {A₀ : Around} {base h₀ : Heap} {L : Addr} {m : Str → Option Value} {s : Shared} {Q E : Value → Shared → Prop}
    (B : Below A₀ base outer h₀) (F : Fr h₀ L s.heap m) (X : (K w.params).In h₀) (N : News h₀ L s.heap news) (T : Top vw (looseW vw loose) mean mg mb h₀) (hk : cs.kind = .function) (ht : 1 ≤ s.toks) (hd : dp + D < recursionLimit) (hu : un + U < cLine)
    (ret : ∀ h' tk', s.toks ≤ tk' + 1 → Fr h₀ L h' m → News h₀ L h' news → Q V { s with heap := h', toks := tk' + 1 }) :
    wpAny (model pw w) (ktrTop dp un gd cn cs L a ccd cl outer) (call f vs kw) Q E s :=
  does_call C B F X N T hk ht hd hu fun v h' tk' n' hp h1 F' N' => by obtain ⟨rfl, rfl⟩ := hp; exact ret h' tk' h1 F' N'
abbrev lst (ys : List Value) : Obj := LCg.lst ys
def CEnd (g : Heap) (L : Addr) (m : Str → Option Value) (s : Shared) (I : Addr) (oI : Obj) (C : Addr) (oC : Obj) (D : Addr) (oD : Obj) (S : Led → Prop) (J : Led → Nat → Prop) (s' : Shared) : Prop :=
  ∃ h' tk nx, s' = { s with heap := h', toks := tk } ∧ Fr g L h' m ∧ News g L h' ((I, oI) :: (C, oC) :: (D, oD) :: nx) ∧ (∀ p ∈ nx, p.1 ≠ I ∧ p.1 ≠ C ∧ p.1 ≠ D) ∧ S nx ∧ J nx tk
abbrev testsC (ifs : List PySem.Expr) (env : Env) : Sem Bool := forIn ifs true fun c r => if r = true then do let ok ← isTrue c env (eval c env); pure (ForInStep.yield ok) else pure (ForInStep.yield r)
section
variable {w : World} {A : Around} {E : Value → Shared → Prop} {env : Env} {g : Heap} {L : Addr} {m : Str → Option Value}
theorem compLoop_any {s : Shared} {R : Result → Shared → Prop} {elt target iter : PySem.Expr} {ifs : List PySem.Expr} {scope : Scope} {pos : Pos} {it acc : Value} {env : Env} (I : Nat → Shared → Prop)
    (turn : ∀ n s, I n s → wpAny (model pw w) A (pyNext it) (fun r s₁ => match r with
      | none => R (.ok .next) s₁
      | some v => wpAny (model pw w) A (letOwnedTupleGo target it v) (fun _ s₁' => wpAny (model pw w) A (assign target env v) (fun _ s₂ =>
          wpAny (model pw w) A (testsC ifs env) (fun ok s₃ =>
            if ok = true then wpAny (model pw w) A (eval elt env) (fun x s₄ =>
              wpAny (model pw w) A (call (.builtin "list.append") [acc, x]) (fun _ s₅ => ∃ m, m < n ∧ I m s₅) (notedBy (model pw w) A env fun e s' => R (.error e) s') s₄) (notedBy (model pw w) A env fun e s' => R (.error e) s') s₃
            else ∃ m, m < n ∧ I m s₃) (notedBy (model pw w) A env fun e s' => R (.error e) s') s₂) (notedBy (model pw w) A env fun e s' => R (.error e) s') s₁') (notedBy (model pw w) A env fun e s' => R (.error e) s') s₁) (notedBy (model pw w) A env fun e s' => R (.error e) s') s)
    (n : Nat) (h : I n s) :
    codeAny (model pw w) A (.compLoop (.ListComp elt [⟨target, iter, ifs, 0⟩] scope pos) 0 it acc env) R s := by
  refine codeAny_loop rfl I (fun n s hI => ?_) n h
  show wpAny _ A ((compTurn (.ListComp elt [⟨target, iter, ifs, 0⟩] scope pos) 0 it acc env).onRaise (fun x => do noteFrame x env; theTreesLotGoes x)) _ _ s
  refine wpAny_noted ?_
  rw [compTurn_list]
  refine wpAny_bind (wpAny_standAt (wpAny_bind (wpAny_mono (turn n s hI) (fun r s₁ h₁ => ?_) fun _ _ h' => h')))
  cases r with
  | none => exact wpAny_pure h₁
  | some v =>
    refine wpAny_bind (wpAny_mono h₁ (fun _ s₁' h₁' => ?_) fun _ _ h' => h')
    refine wpAny_bind (wpAny_mono h₁' (fun _ s₂ h₂ => wpAny_bind (wpAny_mono h₂ (fun ok s₃ h₃ => ?_) fun _ _ h' => h')) fun _ _ h' => h')
    cases ok with
    | false => exact wpAny_pure ⟨rfl, h₃⟩
    | true =>
      exact wpAny_bind (wpAny_bind (wpAny_mono h₃ (fun x s₄ h₄ => wpAny_bind (wpAny_mono h₄ (fun _ s₅ h₅ => wpAny_pure (wpAny_pure ⟨rfl, h₅⟩)) fun _ _ h' => h')) fun _ _ h' => h'))
theorem comp_block {target elt iter : PySem.Expr} {ifs : List PySem.Expr} {scope : Scope} {cl : List (Str × Addr)} {pos : Pos} {s₂ : Shared} {I : Addr} {fp : List Addr} {n : Nat} {P : Nat → Value → Prop} {St : Nat → Heap → Prop} {S : Led → Prop} {news : Led}
    {RR : Value → Addr → Result → Shared → Prop}
    (W : Walks pw w A I fp [I] n P St) (hsz : n ≤ sizeLine) (hIo : ∀ i h, St i h → ∃ o, h.get? I = some o)
    (hSt : ∀ i h h' o nw, St i h → h.get? I = some o → h'.get? I = some o → (∀ b o, g.get? b = some o → h'.get? b = some o) → News g L h' nw → S nw → St i h')
    (hcell : ∀ y ∈ scope.names, y.2 ≠ .cell) (hkind : scope.kind = .function) (hst : St 0 s₂.heap) (hfp : ∀ b ∈ fp, b < s₂.heap.objs.size) (ht : 1 ≤ s₂.toks)
    (F : Fr g L s₂.heap m) (N : News g L s₂.heap news) (hIL : L ≠ I) (hI₀ : g.get? I = none) (off : ∀ p ∈ news, p.1 ≠ I) (hS : S news)
    (hnl : ∀ i v s Q E, St i s.heap → Q () s → wpAny (model pw w) A (letOwnedTupleGo target (.ref I) v) Q E s)
    (J : Nat → List Value → Led → Nat → Prop) (h0 : J 0 [] news s₂.toks) (Tg : Nat → Value → List Value → Led → (Str → Option Value) → Prop)
    (asg : ∀ i ys C v s₁ m₁ all (Q : Unit → Shared → Prop) (E : Value → Shared → Prop), i < n → P i v → J i ys all s₁.toks → Fr g L s₁.heap m → News g L s₁.heap all → s₁.heap.Ns C m₁ → (∀ p ∈ all, p.1 ≠ C) → (∀ h' m' tk', h'.Ns C m' → Tg i v ys all m' → Heap.ExtBut C s₁.heap h' → Q () { s₁ with heap := h', toks := tk' }) →
      wpAny (model pw w) A (assign target (compEnvC scope cl C env) v) Q E s₁)
    (turn : ∀ i v ys nx I oI C oC D m₂ h tk, i < n → P i v → S nx → J i ys nx tk → LCg.NsObj oC m₂ → Tg i v ys nx m₂ → 1 ≤ tk → Fr g L h m → News g L h ((I, oI) :: (C, oC) :: (D, lst ys) :: nx) → (∀ p ∈ nx, p.1 ≠ I ∧ p.1 ≠ C ∧ p.1 ≠ D) → ((@Ne Nat I C) ∧ (@Ne Nat I D) ∧ (@Ne Nat C D)) →
      wpAny (model pw w) A (testsC ifs (compEnvC scope cl C env)) (fun ok s₃ => if ok = true then wpAny (model pw w) A (eval elt (compEnvC scope cl C env)) (fun y s₄ => CEnd g L m { s₂ with heap := h, toks := tk } I oI C oC D (lst ys) S (J (i + 1) (ys ++ [y])) s₄) (fun _ _ => False) s₃ else CEnd g L m { s₂ with heap := h, toks := tk } I oI C oC D (lst ys) S (J (i + 1) ys) s₃) (fun _ _ => False) { s₂ with heap := h, toks := tk })
    (hRR : ∀ D C h tk m' ys nx, Fr g L h m → News g L h ((D, lst ys) :: nx) → (∀ p ∈ nx, p.1 ≠ D) → h.Ns C m' → g.get? C = none → g.get? D = none → C ≠ L → D ≠ L → C ≠ D → (∀ p ∈ nx, p.1 ≠ C) → 1 ≤ tk → S nx → J n ys nx tk → RR (.ref D) C (.ok .next) { s₂ with heap := h, toks := tk })
    (hJm : ∀ i ys nx a b, a ≤ b → J i ys nx a → J i ys nx b := by intro _ _ _ _ _ _ hJm; exact hJm) :
    wpAny (model pw w) A (newList []) (fun acc s₃ => wpAny (model pw w) A (newFunctionEnv scope env.globals cl [] env.qual none .none (some env)) (fun cenv s₄ =>
      codeAny (model pw w) A (.compStart (.ListComp elt [⟨target, iter, ifs, 0⟩] scope pos) 0 (.ref I) acc { cenv with scope := relabel scope env }) (RR acc cenv.locals) s₄) E s₃) E s₂ := by
  refine wpAny_with_toks (n := s₂.toks) (Nat.le_refl _) (wpAny_newObj_type (fun ht1 => wpAny_with_toks (n := s₂.toks) ht1 (wpAny_newFunctionEnv hcell (by intro y hy; simp at hy) (fun h₁ hns₁ hsb₁ => ?_) hkind)))
  intro ht2
  have h0 := hJm _ _ _ _ _ ht2 h0
  have ht2 := Nat.le_trans ht ht2
  dsimp only at hns₁ hsb₁ ht2 h0 ⊢
  generalize hH2 : s₂.heap.push { cls := .type "list", dict := none, data := .seq ([] : List Value).toArray } = H2 at hns₁ hsb₁ ⊢
  have hC : H2.objs.size = s₂.heap.objs.size + 1 := by rw [← hH2, Heap.size_push]
  have hDC : s₂.heap.objs.size ≠ H2.objs.size := by rw [hC]; exact Nat.ne_of_lt (Nat.lt_succ_self _)
  have below : ∀ b, b < s₂.heap.objs.size → b ≠ H2.objs.size ∧ b ≠ s₂.heap.objs.size := fun b hb => ⟨by rw [hC]; exact Nat.ne_of_lt (Nat.lt_succ_of_lt hb), Nat.ne_of_lt hb⟩
  have hDf : s₂.heap.objs.size ∉ fp := fun hm => Nat.lt_irrefl _ (hfp _ hm)
  have hCf : H2.objs.size ∉ fp := fun hm => by have := hfp _ hm; rw [hC] at this; exact Nat.lt_irrefl _ (Nat.lt_of_succ_lt this)
  have hIlt : I < s₂.heap.objs.size := hfp I (W.sub I (List.mem_singleton.mpr rfl))
  have old : ∀ b o, s₂.heap.get? b = some o → h₁.get? b = some o := fun b o e => hsb₁.extBut b o (below b (Heap.lt_size e)).1 (Heap.get?_push_of_some _ (hH2 ▸ Heap.get?_push_of_some _ e))
  have hacc : h₁.get? s₂.heap.objs.size = some (lst []) := hsb₁.extBut _ _ hDC (Heap.get?_push_of_some _ (hH2 ▸ Heap.get?_push_size _ rfl))
  have hst₁ : St 0 h₁ := W.frame _ _ _ hst fun b _ o e => old b o e
  have fresh₀ : ∀ a, s₂.heap.objs.size ≤ a → g.get? a = none := fun a ha => by
    cases e : g.get? a with
    | none => rfl
    | some o' => exact absurd (Heap.lt_size (F.keep a o' e)) (Nat.not_lt.mpr ha)
  have hD₀ : g.get? s₂.heap.objs.size = none := fresh₀ _ (Nat.le_refl _)
  have hC₀ : g.get? H2.objs.size = none := fresh₀ _ (by rw [hC]; exact Nat.le_succ _)
  have hLlt : L < s₂.heap.objs.size := F.ns.lt
  have hDL : s₂.heap.objs.size ≠ L := Ne.symm (below L hLlt).2
  have hCL : H2.objs.size ≠ L := Ne.symm (below L hLlt).1
  have hCI : I ≠ H2.objs.size := (below I hIlt).1
  have hDI : I ≠ s₂.heap.objs.size := (below I hIlt).2
  have off₀ : ∀ p ∈ news, p.1 ≠ I ∧ p.1 ≠ H2.objs.size ∧ p.1 ≠ s₂.heap.objs.size := fun p hp => ⟨off p hp, (below _ (Heap.lt_size (N p hp).1)).1, (below _ (Heap.lt_size (N p hp).1)).2⟩
  have loop : ∀ s₃ : Shared, s₃ = { s₂ with heap := h₁, toks := s₂.toks + ([] : List (Str × Value)).length } →
      codeAny (model pw w) A (.compLoop (.ListComp elt [⟨target, iter, ifs, 0⟩] scope pos) 0 (.ref I) (.ref s₂.heap.objs.size) (compEnvC scope cl H2.objs.size env))
        (RR (.ref s₂.heap.objs.size) H2.objs.size) s₃ := by
    rintro s₃ rfl
    refine compLoop_any
      (fun k s' => ∃ h' tk i ys m' nx, s' = { s₂ with heap := h', toks := tk } ∧ i ≤ n ∧ k = n + 1 - i ∧ ys.length ≤ i ∧ 1 ≤ tk ∧ St i h' ∧ Fr g L h' m ∧ h'.Ns H2.objs.size m' ∧ News g L h' ((s₂.heap.objs.size, lst ys) :: nx) ∧
        (∀ p ∈ nx, p.1 ≠ I ∧ p.1 ≠ H2.objs.size ∧ p.1 ≠ s₂.heap.objs.size) ∧ S nx ∧ J i ys nx tk) ?_ (n + 1)
      ⟨h₁, _, 0, [], _, news, rfl, Nat.zero_le _, rfl, Nat.zero_le _, ht2, hst₁, F.keeps old, hns₁, fun p hp => ?_, off₀, hS, h0⟩
    · rintro k s' ⟨h', tk, i, ys, m', nx, rfl, hi, rfl, hyl, htk, hst', F', hn', N', off', hS', hJ⟩
      by_cases hlt : i < n
      · refine wpAny_with_toks (n := tk) (Nat.le_refl _) (W.item i _ _ _ hlt hst' fun v h₂ tk₂ hPv hst₂ hk₂ htk₂ => ?_)
        have hJ := hJm _ _ _ _ _ htk₂ hJ
        have htk₂ := Nat.le_trans htk htk₂
        have hn₂ : h₂.Ns H2.objs.size m' := hn'.at' fun o e => hk₂ _ o (by simpa using Ne.symm hCI) e
        have F₂ : Fr g L h₂ m := LCg.fr_but F' hk₂ hIL hI₀
        have N₂ : News g L h₂ ((s₂.heap.objs.size, lst ys) :: nx) := LCg.news_but N' hk₂ fun p hp => by
          rcases List.mem_cons.mp hp with rfl | hp
          · exact Ne.symm hDI
          · exact (off' p hp).1
        refine hnl _ _ _ _ _ hst₂ ?_
        refine wpAny_with_toks (n := tk₂) (Nat.le_refl _) (asg i ys H2.objs.size v _ m' nx _ _ hlt hPv hJ F₂ (fun p hp => N₂ p (List.mem_cons_of_mem _ hp)) hn₂ (fun p hp => (off' p hp).2.1) fun h₃ m₃ tk₃ hn₃ hTg hs₃ htk₃ => ?_)
        have hJ := hJm _ _ _ _ _ htk₃ hJ
        have htk₃ := Nat.le_trans htk₂ htk₃
        have hst₃ : St (i + 1) h₃ := W.frame _ _ _ hst₂ fun b hb o e => hs₃ b o (fun q => hCf (by have q' : b = H2.objs.size := q; rw [← q']; exact hb)) e
        obtain ⟨oI, heI⟩ := hIo _ _ hst₃
        obtain ⟨oC, heC, hoC⟩ := LCg.ns_obj hn₃
        have F₃ : Fr g L h₃ m := ⟨F₂.ns.at' fun o e => hs₃ _ o (Ne.symm hCL) e, fun b o e => hs₃ b o (fun q => by rw [q, hC₀] at e; cases e) (F₂.keep b o e), F₂.above⟩
        have N₃ : News g L h₃ ((I, oI) :: (H2.objs.size, oC) :: (s₂.heap.objs.size, lst ys) :: nx) := fun p hp => by
          rcases List.mem_cons.mp hp with rfl | hp
          · exact ⟨heI, Ne.symm hIL, hI₀⟩
          · rcases List.mem_cons.mp hp with rfl | hp
            · exact ⟨heC, hCL, hC₀⟩
            · have z := N₂ p hp
              refine ⟨hs₃ _ _ ?_ z.1, z.2⟩
              rcases List.mem_cons.mp hp with rfl | hp
              · exact hDC
              · exact (off' p hp).2.1
        have step : ∀ ys' s₅, 1 ≤ s₅.toks → ys'.length ≤ i + 1 → (∃ h' tk nx', s₅ = { s₂ with heap := h', toks := tk } ∧ Fr g L h' m ∧ News g L h' ((I, oI) :: (H2.objs.size, oC) :: (s₂.heap.objs.size, lst ys') :: nx') ∧ (∀ p ∈ nx', p.1 ≠ I ∧ p.1 ≠ H2.objs.size ∧ p.1 ≠ s₂.heap.objs.size) ∧ S nx' ∧ J (i + 1) ys' nx' tk) →
            ∃ k, k < n + 1 - i ∧ ∃ h' tk i ys m' nx, s₅ = { s₂ with heap := h', toks := tk } ∧ i ≤ n ∧ k = n + 1 - i ∧ ys.length ≤ i ∧ 1 ≤ tk ∧ St i h' ∧ Fr g L h' m ∧ h'.Ns H2.objs.size m' ∧ News g L h' ((s₂.heap.objs.size, lst ys) :: nx) ∧
              (∀ p ∈ nx, p.1 ≠ I ∧ p.1 ≠ H2.objs.size ∧ p.1 ≠ s₂.heap.objs.size) ∧ S nx ∧ J i ys nx tk := by
          rintro ys' s₅ ht5 hl5 ⟨h₅, tk₅, nx₅, rfl, F₅, N₅, off₅, hS₅, hJ₅⟩
          have zI := (N₅ (I, oI) List.mem_cons_self).1
          have zC := (N₅ (H2.objs.size, oC) (List.mem_cons_of_mem _ List.mem_cons_self)).1
          have N₅' : News g L h₅ ((s₂.heap.objs.size, lst ys') :: nx₅) := fun p hp => N₅ p (List.mem_cons_of_mem _ (List.mem_cons_of_mem _ hp))
          exact ⟨n + 1 - (i + 1), Nat.sub_lt_sub_left (Nat.lt_succ_of_lt hlt) (Nat.lt_succ_self i), h₅, tk₅, i + 1, ys', m₃, nx₅, rfl, hlt, rfl, hl5, ht5, hSt _ _ _ _ _ hst₃ heI zI F₅.keep (fun p hp => N₅' p (List.mem_cons_of_mem _ hp)) hS₅, F₅, hoC.ns zC, N₅', off₅, hS₅, hJ₅⟩
        refine wpAny_with_toks (n := 1) htk₃ (wpAny_mono (turn i v ys nx I oI H2.objs.size oC s₂.heap.objs.size _ h₃ _ hlt hPv hS' hJ hoC hTg htk₃ F₃ N₃ off' ⟨hCI, hDI, Ne.symm hDC⟩) (fun ok s₄ h₄ htk₄ => ?_) fun _ _ e => e.elim)
        cases ok with
        | false =>
          simp only [Bool.false_eq_true, if_false] at h₄ ⊢
          obtain ⟨h₅, tk₅, nx₅, rfl, F₅, N₅, off₅, hS₅, hJ₅⟩ := h₄
          exact step ys _ htk₄ (Nat.le_succ_of_le hyl) ⟨h₅, tk₅, nx₅, rfl, F₅, N₅, off₅, hS₅, hJ₅⟩
        | true =>
          simp only [if_true] at h₄ ⊢
          refine wpAny_with_toks (n := 1) htk₄ (wpAny_mono h₄ (fun y s₅ h₅ htk₅ => ?_) fun _ _ e => e.elim)
          obtain ⟨h₅, tk₅, nx₅, rfl, F₅, N₅, off₅, hS₅, hJ₅⟩ := h₅
          have zD := (N₅ (s₂.heap.objs.size, lst ys) (List.mem_cons_of_mem _ (List.mem_cons_of_mem _ List.mem_cons_self))).1
          refine append_at (hsz := Nat.le_trans hyl (Nat.le_trans hi hsz)) zD fun h₆ hs₆ hD₆ => ?_
          refine step (ys ++ [y]) _ htk₅ (by rw [List.length_append, List.length_singleton]; exact Nat.succ_le_succ hyl) ⟨h₆, tk₅, nx₅, rfl, F₅.change hs₆ hDL hD₀, fun p hp => ?_, off₅, hS₅, hJ₅⟩
          rcases List.mem_cons.mp hp with rfl | hp
          · exact ⟨hs₆.extBut _ _ hDI (N₅ _ List.mem_cons_self).1, (N₅ _ List.mem_cons_self).2⟩
          rcases List.mem_cons.mp hp with rfl | hp
          · exact ⟨hs₆.extBut _ _ (Ne.symm hDC) (N₅ _ (List.mem_cons_of_mem _ List.mem_cons_self)).1, (N₅ _ (List.mem_cons_of_mem _ List.mem_cons_self)).2⟩
          rcases List.mem_cons.mp hp with rfl | hp
          · exact ⟨hD₆.trans (congrArg some (LCg.lst_snoc ys y)), hDL, hD₀⟩
          · have z := N₅ p (List.mem_cons_of_mem _ (List.mem_cons_of_mem _ (List.mem_cons_of_mem _ hp)))
            exact ⟨hs₆.extBut _ _ (off₅ p hp).2.2 z.1, z.2⟩
      · obtain rfl : i = n := Nat.le_antisymm hi (Nat.not_lt.mp hlt)
        refine wpAny_with_toks (n := tk) (Nat.le_refl _) (W.done _ _ _ hst' fun h₂ tk₂ hk₂ htk₂ => ?_)
        have hJ := hJm _ _ _ _ _ htk₂ hJ
        have htk₂ := Nat.le_trans htk htk₂
        exact hRR _ _ h₂ tk₂ _ ys nx (LCg.fr_but F' hk₂ hIL hI₀) (LCg.news_but N' hk₂ fun p hp => by
          rcases List.mem_cons.mp hp with rfl | hp
          · exact Ne.symm hDI
          · exact (off' p hp).1) (fun p hp => (off' p hp).2.2) (hn'.at' fun o e => hk₂ _ o (by simpa using Ne.symm hCI) e) hC₀ hD₀ hCL hDL (Ne.symm hDC) (fun p hp => (off' p hp).2.1) htk₂ hS' hJ
    · rcases List.mem_cons.mp hp with rfl | hp
      · exact ⟨hacc, hDL, hD₀⟩
      · exact ⟨old _ _ (N p hp).1, (N p hp).2⟩
  exact codeAny_compStart_list (loop _ rfl) (W.self 0 _ _ _ hst₁ (loop _ rfl))

/-- what stands behind the source of a list comprehension -/
def CompK (w : World) (A : Around) (target elt iter : PySem.Expr) (ifs : List PySem.Expr) (scope : Scope) (cl : List (Str × Addr)) (pos : Pos) (env : Env) (use : Option (Value → Sem Unit)) (E : Value → Shared → Prop) (Q : Value → Shared → Prop) (it : Value) (s₂ : Shared) : Prop :=
  wpAny (model pw w) A (newList []) (fun acc s₃ => wpAny (model pw w) A (newFunctionEnv scope env.globals cl [] env.qual none .none (some env)) (fun cenv s₄ =>
      codeAny (model pw w) A (.compStart (.ListComp elt [⟨target, iter, ifs, 0⟩] scope pos) 0 it acc { cenv with scope := relabel scope env }) (compPost (model pw w) A E use Q acc cenv.locals) s₄) E s₃) E s₂
theorem comp_expr {s : Shared} {target elt iter : PySem.Expr} {ifs : List PySem.Expr} {scope : Scope} {cl : List (Str × Addr)} {pos : Pos} {Q : Value → Shared → Prop}
    (hclos : closureFor scope env = pure cl) (hkind : scope.kind = .function) (hnames : ∀ y ∈ scope.names, y.2 = .local → scope.names.lookup y.1 = some .local)
    (hs : ∀ x, foldedSetIterable iter env x = pure x)
    (h : wpAny (model pw w) A (eval iter env) (fun xv s₁ => wpAny (model pw w) A (pyIter xv) (CompK w A target elt iter ifs scope cl pos env none E Q) E s₁) E s) :
    wpAny (model pw w) A (eval (.ListComp elt [⟨target, iter, ifs, 0⟩] scope pos) env) Q E s := by
  rw [eval_ListComp]
  exact wpAny_comprehension_free (use := none) rfl hs hclos hkind hnames h
theorem comp_assign {s : Shared} {y : Str} {py spos : Pos} {target elt iter : PySem.Expr} {ifs : List PySem.Expr} {scope : Scope} {cl : List (Str × Addr)} {pos : Pos} {Q : Flow → Shared → Prop}
    (hsw : swapsWith (.ListComp elt [⟨target, iter, ifs, 0⟩] scope pos) (some (.Name y py)) spos.line env = pure true)
    (hclos : closureFor scope env = pure cl) (hkind : scope.kind = .function) (hnames : ∀ y ∈ scope.names, y.2 = .local → scope.names.lookup y.1 = some .local)
    (hs : ∀ x, foldedSetIterable iter env x = pure x)
    (h : wpAny (model pw w) A (eval iter env) (fun xv s₁ => wpAny (model pw w) A (pyIter xv) (CompK w A target elt iter ifs scope cl pos env (some (assign (.Name y py) env)) E (fun _ s' => Q .next s')) E s₁) E s) :
    wpAny (model pw w) A (exec (.Assign [.Name y py] (.ListComp elt [⟨target, iter, ifs, 0⟩] scope pos) spos) env) Q E s := by
  rw [exec_Assign_Name_used _ _ _ _ hsw]
  refine wpAny_bind (wpAny_standAt (wpAny_bind ?_))
  show wpAny _ A (do let _ ← comprehension (.ListComp elt [⟨target, iter, ifs, 0⟩] scope pos) scope env _ (newList []) false (eval iter env) (some (assign (.Name y py) env))) _ _ s
  exact wpAny_bind (wpAny_mono (wpAny_comprehension_free (use := some (assign (.Name y py) env)) (Q := fun _ s' => Q .next s') rfl hs hclos hkind hnames h) (fun _ s' hq => wpAny_pure (wpAny_pure hq)) fun _ _ e => e)
/-- how the block ends: its value, or its name stored -/
inductive Ends (g : Heap) (L : Addr) (m : Str → Option Value) (J : List Value → Led → Nat → Prop) (env : Env) (Q : Value → Shared → Prop) (s : Shared) : Option (Value → Sem Unit) → Prop where
  | expr : (∀ D h tk ys nx, Fr g L h m → News g L h ((D, lst ys) :: nx) → (∀ p ∈ nx, p.1 ≠ D) → 1 ≤ tk → J ys nx tk → Q (.ref D) { s with heap := h, toks := tk }) → Ends g L m J env Q s none
  | name (y : Str) (py : Pos) : env.locals = L → env.kindOf y = some .local → (env.scope.kind == .class || (env.scope.kind == .module && env.locals != env.globals)) = false →
      (∀ D h tk ys nx, Fr g L h (up y (some (.ref D)) m) → News g L h ((D, lst ys) :: nx) → (∀ p ∈ nx, p.1 ≠ D) → 1 ≤ tk → J ys nx tk → Q .none { s with heap := h, toks := tk }) → Ends g L m J env Q s (some (assign (.Name y py) env))
theorem ends_post {J : List Value → Led → Nat → Prop} {Q : Value → Shared → Prop} {s : Shared} {use : Option (Value → Sem Unit)} (X : Ends g L m J env Q s use)
    {D C : Addr} {h : Heap} {tk : Nat} {m' : Str → Option Value} {ys : List Value} {nx : Led} (F : Fr g L h m) (N : News g L h ((D, lst ys) :: nx)) (hD : ∀ p ∈ nx, p.1 ≠ D) (hn : h.Ns C m') (hC₀ : g.get? C = none) (hCL : C ≠ L) (hCD : C ≠ D) (hC : ∀ p ∈ nx, p.1 ≠ C) (ht : 1 ≤ tk) (hJ : J ys nx tk) (hJm : ∀ ys nx a b, a ≤ b → J ys nx a → J ys nx b) :
    compPost (model pw w) A E use Q (.ref D) C (.ok .next) { s with heap := h, toks := tk } := by
  have nC : ∀ p ∈ (D, lst ys) :: nx, p.1 ≠ C := fun p hp => by
    rcases List.mem_cons.mp hp with rfl | hp
    · exact Ne.symm hCD
    · exact hC p hp
  cases X with
  | expr q =>
    exact ⟨m', hn, fun h'' hs'' => q D h'' tk ys nx (F.change hs'' hCL hC₀) (fun p hp => ⟨hs''.extBut _ _ (nC p hp) (N p hp).1, (N p hp).2⟩) hD ht hJ⟩
  | name y py hL hy hp q =>
    subst hL
    refine wpAny_with_toks (n := tk) (Nat.le_refl _) (wpAny_assign_Name (wpAny_storeName_local hy F.ns (fun h₁ hn₁ hs₁ ht₁ => ?_) hp))
    have hJ := hJm _ _ _ _ ht₁ hJ
    have ht₁ := Nat.le_trans ht ht₁
    have F₁ := F.set hn₁ hs₁
    have N₁ := N.set hs₁
    refine ⟨m', hn.at' fun o e => hs₁.extBut _ _ hCL e, fun h'' hs'' => q D h'' _ ys nx (F₁.change hs'' hCL hC₀) (fun p hp => ⟨hs''.extBut _ _ (nC p hp) (N₁ p hp).1, (N₁ p hp).2⟩) hD ht₁ hJ⟩
def TurnC (w : World) (A : Around) (env : Env) (g : Heap) (L : Addr) (m : Str → Option Value) (s : Shared) (elt : PySem.Expr) (ifs : List PySem.Expr) (scope : Scope) (cl : List (Str × Addr)) (S : Led → Prop) (J : Nat → List Value → Led → Nat → Prop) (i : Nat) (ys : List Value) (nx : Led) (tk : Nat) (tgt : (Str → Option Value) → Prop) : Prop :=
  ∀ I oI C oC D m₂ h, LCg.NsObj oC m₂ → tgt m₂ → 1 ≤ tk → Fr g L h m → News g L h ((I, oI) :: (C, oC) :: (D, lst ys) :: nx) → (∀ p ∈ nx, p.1 ≠ I ∧ p.1 ≠ C ∧ p.1 ≠ D) → ((@Ne Nat I C) ∧ (@Ne Nat I D) ∧ (@Ne Nat C D)) →
      wpAny (model pw w) A (testsC ifs (compEnvC scope cl C env)) (fun ok s₃ => if ok = true then wpAny (model pw w) A (eval elt (compEnvC scope cl C env)) (fun y s₄ => CEnd g L m { s with heap := h, toks := tk } I oI C oC D (lst ys) S (J (i + 1) (ys ++ [y])) s₄) (fun _ _ => False) s₃ else CEnd g L m { s with heap := h, toks := tk } I oI C oC D (lst ys) S (J (i + 1) ys) s₃) (fun _ _ => False) { s with heap := h, toks := tk }
theorem kind_rel {scope : Scope} {cl : List (Str × Addr)} {C : Addr} {x : Str} (hx : scope.names.lookup x = some .local) : (compEnvC scope cl C env).kindOf x = some .local := lookup_relabel_local hx
theorem comp_list {elt iter : PySem.Expr} {x : Str} {px : Pos} {ifs : List PySem.Expr} {scope : Scope} {cl : List (Str × Addr)} {pos : Pos} {s : Shared} {l : Addr} {lo : Obj} {vs : List Value} {news : Led} {use : Option (Value → Sem Unit)} {Q : Value → Shared → Prop}
    (hh : A.handled = none) (hcell : ∀ y ∈ scope.names, y.2 ≠ .cell) (hkind : scope.kind = .function) (hx : scope.names.lookup x = some .local)
    (hl : (l, lo) ∈ news) (hlo : lo.cls = .type "list" ∧ ∃ k, lo.data = .seq vs.toArray k) (hsz : vs.length ≤ sizeLine)
    (F : Fr g L s.heap m) (N : News g L s.heap news) (ht : 1 ≤ s.toks)
    (J : Nat → List Value → Led → Nat → Prop) (h0 : J 0 [] news s.toks)
    (turn : ∀ i v ys nx tk, vs[i]? = some v → (l, lo) ∈ nx → J i ys nx tk → TurnC w A env g L m s elt ifs scope cl (fun nx => (l, lo) ∈ nx) J i ys nx tk (fun m₂ => m₂ x = some v))
    (X : Ends g L m (fun ys nx t => (l, lo) ∈ nx ∧ J vs.length ys nx t) env Q s use)
    (hJm : ∀ i ys nx a b, a ≤ b → J i ys nx a → J i ys nx b := by intro _ _ _ _ _ _ hJm; exact hJm) :
    wpAny (model pw w) A (pyIter (.ref l)) (CompK w A (.Name x px) elt iter ifs scope cl pos env use E Q) E s := by
  have hol : s.heap.get? l = some lo := (N _ hl).1
  obtain ⟨hc, k, hd⟩ := hlo
  have hls : s.heap.IsList l vs.toArray := ⟨_, hol, hc, k, hd⟩
  have hlt := Heap.lt_size hol
  refine wpAny_pyIter_list hls ?_
  have upp : ∀ b o, s.heap.get? b = some o → (s.heap.push { cls := .type "list_iterator", data := .fields #[.ref l, .int 0 0] }).get? b = some o := fun b o e => Heap.get?_push_of_some _ e
  have hnil : g.get? l = none := (N _ hl).2.2
  refine comp_block (s₂ := { s with heap := s.heap.push { cls := .type "list_iterator", data := .fields #[.ref l, .int 0 0] } }) (S := fun nx => (l, lo) ∈ nx) (Walks.list hh s.heap.objs.size l (Nat.ne_of_lt hlt) vs.toArray) (by simpa using hsz) (fun i h st => by obtain ⟨o, e, _⟩ := st.1; exact ⟨o, e⟩) ?_ hcell hkind
    ?_ (fun b hb => ?_) ht (F.keeps upp) (N.grown upp) (Nat.ne_of_lt F.ns.lt) (next_is_new F) (fun p hp => Nat.ne_of_lt (Heap.lt_size (N p hp).1)) hl (fun _ _ _ _ _ _ q => wpAny_of_eq (a := ()) rfl q) J h0 (fun _ v _ _ m₂ => m₂ x = some v) ?_ ?_ ?_ hJm
  · intro i h h' o nw st e e' _ N' hS
    refine ⟨by obtain ⟨o', q, r⟩ := st.1; rw [e] at q; cases q; exact ⟨o, e', r⟩, ⟨_, (N' _ hS).1, hc, k, hd⟩⟩
  · exact ⟨⟨_, Heap.get?_push_size _ rfl, rfl, rfl⟩, hls.push _⟩
  · show b < (s.heap.push _).objs.size
    rw [Heap.size_push]
    rcases List.mem_cons.mp hb with rfl | hb
    · exact Nat.lt_succ_self _
    · rw [List.mem_singleton.mp hb]; exact Nat.lt_succ_of_lt hlt
  · intro i ys C v s₁ m₁ all Q E _ _ _ _ _ hn _ hq
    exact wpAny_assign_Name (wpAny_storeName_local (kind_rel (cl := cl) (C := C) hx) hn (fun h' hn' hs' => hq h' _ _ hn' (by simp) hs'.extBut) (by simp [compEnvC, relabel, hkind]))
  · intro i v ys nx I oI C oC D m₂ h tk hi hP hS hJ hoC hTg htk F' N' hoff hne
    exact turn i v ys nx tk (by simpa using hP) hS hJ I oI C oC D m₂ h hoC hTg htk F' N' hoff hne
  · intro D C h tk m' ys nx F' N' o1 hn hC₀ hD₀ hCL hDL hCD offC ht' hS hJ
    exact ends_post X F' N' o1 hn hC₀ hCL hCD offC ht' ⟨hS, by simpa using hJ⟩ (fun ys nx a b hab h => ⟨h.1, hJm _ _ _ _ _ hab h.2⟩)

/-- the source: items that are pairs, each target two names -/
theorem comp_pairs {elt iter : PySem.Expr} {a b : Str} {pa pb tp : Pos} {kk : Nat} {ifs : List PySem.Expr} {scope : Scope} {cl : List (Str × Addr)} {pos : Pos} {s : Shared} {l : Addr} {lo : Obj} {vs : List Value} {news : Led} {use : Option (Value → Sem Unit)} {Q : Value → Shared → Prop}
    (hh : A.handled = none) (hcell : ∀ y ∈ scope.names, y.2 ≠ .cell) (hkind : scope.kind = .function) (ha : scope.names.lookup a = some .local) (hb : scope.names.lookup b = some .local) (hab : a ≠ b)
    (hl : (l, lo) ∈ news) (hlo : lo.cls = .type "list" ∧ ∃ k, lo.data = .seq vs.toArray k) (hsz : vs.length ≤ sizeLine)
    (F : Fr g L s.heap m) (N : News g L s.heap news) (ht : 1 ≤ s.toks)
    (J : Nat → List Value → Led → Nat → Prop) (h0 : J 0 [] news s.toks)
    (pr : Nat → Value → Value → Prop)
    (hpr : ∀ i v ys nx tk, vs[i]? = some v → J i ys nx tk → ∃ q o x y n, v = .ref q ∧ (q, o) ∈ nx ∧ o.cls = .type "tuple" ∧ o.data = .seq #[x, y] n ∧ pr i x y)
    (turn : ∀ i x y ys nx tk, i < vs.length → pr i x y → (l, lo) ∈ nx → J i ys nx tk → TurnC w A env g L m s elt ifs scope cl (fun nx => (l, lo) ∈ nx) J i ys nx tk (fun m₂ => m₂ a = some x ∧ m₂ b = some y))
    (X : Ends g L m (fun ys nx t => (l, lo) ∈ nx ∧ J vs.length ys nx t) env Q s use)
    (hJm : ∀ i ys nx a b, a ≤ b → J i ys nx a → J i ys nx b := by intro _ _ _ _ _ _ hJm; exact hJm) :
    wpAny (model pw w) A (pyIter (.ref l)) (CompK w A (.Tuple [.Name a pa, .Name b pb] kk tp) elt iter ifs scope cl pos env use E Q) E s := by
  have hol : s.heap.get? l = some lo := (N _ hl).1
  obtain ⟨hc, k, hd⟩ := hlo
  have hls : s.heap.IsList l vs.toArray := ⟨_, hol, hc, k, hd⟩
  have hlt := Heap.lt_size hol
  refine wpAny_pyIter_list hls ?_
  have upp : ∀ b o, s.heap.get? b = some o → (s.heap.push { cls := .type "list_iterator", data := .fields #[.ref l, .int 0 0] }).get? b = some o := fun b o e => Heap.get?_push_of_some _ e
  have hnil : g.get? l = none := (N _ hl).2.2
  refine comp_block (s₂ := { s with heap := s.heap.push { cls := .type "list_iterator", data := .fields #[.ref l, .int 0 0] } }) (S := fun nx => (l, lo) ∈ nx) (Walks.list hh s.heap.objs.size l (Nat.ne_of_lt hlt) vs.toArray) (by simpa using hsz) (fun i h st => by obtain ⟨o, e, _⟩ := st.1; exact ⟨o, e⟩) ?_ hcell hkind
    ?_ (fun b hb => ?_) ht (F.keeps upp) (N.grown upp) (Nat.ne_of_lt F.ns.lt) (next_is_new F) (fun p hp => Nat.ne_of_lt (Heap.lt_size (N p hp).1)) hl (fun _ v _ _ _ st q => by cases v <;> first | exact wpAny_letOwnedTupleGo_listiter st.1 q | exact wpAny_of_eq (a := ()) rfl q) J h0 (fun i _ _ _ m₂ => ∃ x y, pr i x y ∧ m₂ a = some x ∧ m₂ b = some y) ?_ ?_ ?_ hJm
  · intro i h h' o nw st e e' _ N' hS
    refine ⟨by obtain ⟨o', q, r⟩ := st.1; rw [e] at q; cases q; exact ⟨o, e', r⟩, ⟨_, (N' _ hS).1, hc, k, hd⟩⟩
  · exact ⟨⟨_, Heap.get?_push_size _ rfl, rfl, rfl⟩, hls.push _⟩
  · show b < (s.heap.push _).objs.size
    rw [Heap.size_push]
    rcases List.mem_cons.mp hb with rfl | hb
    · exact Nat.lt_succ_self _
    · rw [List.mem_singleton.mp hb]; exact Nat.lt_succ_of_lt hlt
  · intro i ys C v s₁ m₁ all Q E _ hP hJ _ N₁ hn _ hq
    obtain ⟨q, o, x, y, n, rfl, hm, ho1, ho2, hp⟩ := hpr i v ys all _ (by simpa using hP) hJ
    refine kcp_assign hh ⟨_, (N₁ _ hm).1, ho1, n, ho2⟩ (kind_rel (cl := cl) (C := C) ha) (kind_rel (cl := cl) (C := C) hb) (by simp [compEnvC, relabel, hkind]) hn fun h' tk hn' hs' => ?_
    exact hq h' _ tk hn' ⟨x, y, hp, by simp [hab], by simp⟩ hs'
  · rintro i v ys nx I oI C oC D m₂ h tk hi hP hS hJ hoC ⟨x, y, hp, h1, h2⟩ htk F' N' hoff hne
    exact turn i x y ys nx tk (by simpa using hi) hp hS hJ I oI C oC D m₂ h hoC ⟨h1, h2⟩ htk F' N' hoff hne
  · intro D C h tk m' ys nx F' N' o1 hn hC₀ hD₀ hCL hDL hCD offC ht' hS hJ
    exact ends_post X F' N' o1 hn hC₀ hCL hCD offC ht' ⟨hS, by simpa using hJ⟩ (fun ys nx a b hab h => ⟨h.1, hJm _ _ _ _ _ hab h.2⟩)
theorem comp_range {elt iter : PySem.Expr} {x : Str} {px : Pos} {ifs : List PySem.Expr} {scope : Scope} {cl : List (Str × Addr)} {pos : Pos} {s : Shared} {r : Addr} {a b c : Int} {t₀ u₀ v₀ : Tok} {n : Nat} {news : Led} {use : Option (Value → Sem Unit)} {Q : Value → Shared → Prop}
    (hh : A.handled = none) (hcell : ∀ y ∈ scope.names, y.2 ≠ .cell) (hkind : scope.kind = .function) (hx : scope.names.lookup x = some .local)
    (hr : IsRange s.heap r a b c t₀ u₀ v₀) (hsmall : Builtin.Range.small a b c = true) (hn : Builtin.Range.rangeSize a b c = (n : Int)) (hsz : n ≤ sizeLine)
    (F : Fr g L s.heap m) (N : News g L s.heap news) (ht : 1 ≤ s.toks)
    (J : Nat → List Value → Led → Nat → Prop) (h0 : J 0 [] news s.toks)
    (turn : ∀ i t ys nx tk, i < n → J i ys nx tk → TurnC w A env g L m s elt ifs scope cl (fun _ => True) J i ys nx tk (fun m₂ => m₂ x = some (.int (a + (i : Int) * c) t)))
    (X : Ends g L m (fun ys nx t => J n ys nx t) env Q s use)
    (hJm : ∀ i ys nx a b, a ≤ b → J i ys nx a → J i ys nx b := by intro _ _ _ _ _ _ hJm; exact hJm) :
    wpAny (model pw w) A (pyIter (.ref r)) (CompK w A (.Name x px) elt iter ifs scope cl pos env use E Q) E s := by
  refine wpAny_pyIter_range hr hsmall ?_
  have upp : ∀ io b o, s.heap.get? b = some o → (s.heap.push io).get? b = some o := fun io b o e => Heap.get?_push_of_some _ e
  refine comp_block (s₂ := { s with heap := s.heap.push _ }) (S := fun _ => True) (Walks.range hh s.heap.objs.size a c n) hsz (fun i h st => ⟨_, st⟩) ?_ hcell hkind
    ?_ (fun b hb => ?_) ht (F.keeps (upp _)) (N.grown (upp _)) (Nat.ne_of_lt F.ns.lt) (next_is_new F) (fun p hp => Nat.ne_of_lt (Heap.lt_size (N p hp).1)) trivial (fun _ _ _ _ _ _ q => wpAny_of_eq (a := ()) rfl q) J h0 (fun _ v _ _ m₂ => m₂ x = some v) ?_ ?_ ?_ hJm
  · intro i h h' o nw st e e' _ N' hS
    have st' : h.get? _ = some _ := st
    show h'.get? _ = some _
    rw [e', ← e]; exact st'
  · show IsRangeIter _ _ _ _ _
    rw [hn]; simpa using Heap.get?_push_size _ rfl
  · rw [List.mem_singleton.mp hb]
    show s.heap.objs.size < (s.heap.push _).objs.size
    rw [Heap.size_push]; exact Nat.lt_succ_self _
  · intro i ys C v s₁ m₁ all Q E _ _ _ _ _ hn _ hq
    exact wpAny_assign_Name (wpAny_storeName_local (kind_rel (cl := cl) (C := C) hx) hn (fun h' hn' hs' => hq h' _ _ hn' (by simp) hs'.extBut) (by simp [compEnvC, relabel, hkind]))
  · rintro i v ys nx I oI C oC D m₂ h tk hi ⟨t, rfl⟩ hS hJ hoC hTg htk F' N' hoff hne
    exact turn i t ys nx tk hi hJ I oI C oC D m₂ h hoC hTg htk F' N' hoff hne
  · intro D C h tk m' ys nx F' N' o1 hn hC₀ hD₀ hCL hDL hCD offC ht' hS hJ
    exact ends_post X F' N' o1 hn hC₀ hCL hCD offC ht' hJ (fun ys nx a b hab h => hJm _ _ _ _ _ hab h)
end
section
variable {w : World} {A : Around} {env : Env} {body : List Stmt} {s : Shared} {g : Heap} {E : Value → Shared → Prop}
theorem for_pairs {a b : Str} {pa pb tp : Pos} {kk : Nat} {l : Addr} {lo : Obj} {vs : List Value} {m : Str → Option Value} {news : Led} (hh : A.handled = none) (hk : env.scope.kind = .function) (ha : env.kindOf a = some .local) (hb : env.kindOf b = some .local) (hl : (l, lo) ∈ news) (hlo : lo.cls = .type "list" ∧ ∃ k, lo.data = .seq vs.toArray k)
    (F : Fr g env.locals s.heap m) (N : News g env.locals s.heap news) (ht : 1 ≤ s.toks)
    (J : Nat → (Str → Option Value) → Led → Nat → Prop) (h0 : J 0 m news s.toks) (Bk : (Str → Option Value) → Led → Prop) (Rt : Value → Led → Prop)
    (pr : Nat → Value → Value → Prop)
    (hpr : ∀ i v m nx tk, vs[i]? = some v → J i m nx tk → ∃ q o x y n, v = .ref q ∧ (q, o) ∈ nx ∧ o.cls = .type "tuple" ∧ o.data = .seq #[x, y] n ∧ pr i x y)
    (turn : ∀ i x y m₁ nx h tk I io, i < vs.length → pr i x y → (l, lo) ∈ nx → J i m₁ nx tk → (∀ p ∈ nx, p.1 ≠ I) → 1 ≤ tk → Fr g env.locals h (up b (some y) (up a (some x) m₁)) → News g env.locals h (nx ++ [(I, io)]) →
      wpAny (model pw w) A (execs body env) (TurnPost g env.locals [(I, io)] I (fun m' nx' t' => (l, lo) ∈ nx' ∧ J (i + 1) m' nx' t') Bk Rt { s with heap := h, toks := tk }) (fun _ _ => False) { s with heap := h, toks := tk })
    {R : Result → Shared → Prop}
    (done : ∀ m₁ nx h tk, (l, lo) ∈ nx → J vs.length m₁ nx tk → 1 ≤ tk → Fr g env.locals h m₁ → News g env.locals h nx → R (.ok .next) { s with heap := h, toks := tk })
    (brk : ∀ m₁ nx h tk, Bk m₁ nx → 1 ≤ tk → Fr g env.locals h m₁ → News g env.locals h nx → R (.ok .next) { s with heap := h, toks := tk })
    (ret : ∀ v m₁ nx h tk, Rt v nx → 1 ≤ tk → Fr g env.locals h m₁ → News g env.locals h nx → R (.ok (.ret v)) { s with heap := h, toks := tk })
    (hJm : ∀ i m nx a b, a ≤ b → J i m nx a → J i m nx b := by intro _ _ _ _ _ _ hJm; exact hJm) :
    wpAny (model pw w) A (pyIter (.ref l)) (fun it s₂ => codeAny (model pw w) A (.forLoop (.Tuple [.Name a pa, .Name b pb] kk tp) it body [] env) R s₂) E s := by
  have hol : s.heap.get? l = some lo := (N _ hl).1
  obtain ⟨hc, k, hd⟩ := hlo
  have hls : s.heap.IsList l vs.toArray := ⟨_, hol, hc, k, hd⟩
  have hne : l ≠ s.heap.objs.size := Nat.ne_of_lt (Heap.lt_size hol)
  refine wpAny_pyIter_list hls ?_
  have W := Walks.list (prog := pw) (w := w) hh s.heap.objs.size l hne vs.toArray
  refine for_fix (s := { s with heap := s.heap.push { cls := .type "list_iterator", data := .fields #[.ref l, .int 0 0] } }) W (fun i h st => let ⟨o, ho, _⟩ := st.1; ⟨o, ho⟩) [(l, lo)] ?_ (fun _ v _ _ _ st q => by cases v <;> first | exact wpAny_letOwnedTupleGo_listiter st.1 q | exact wpAny_of_eq (a := ()) rfl q) ?_ ?_ ?_ ?_ ?_ (fun p hp e => ?_) ht (fun p hp => by rw [List.mem_singleton.mp hp]; exact hl) J h0 Bk Rt (fun i _ _ m m' => ∃ x y, pr i x y ∧ m' = up b (some y) (up a (some x) m))
    ?_ ?_ ?_ brk ret hJm
  · intro b hb
    rcases List.mem_cons.mp hb with e | hb
    · exact .inl e
    · exact .inr (.inl ⟨lo, by rw [List.mem_singleton.mp hb]; exact List.mem_singleton.mpr rfl⟩)
  · intro hm
    rcases List.mem_cons.mp hm with e | hm
    · exact absurd F.ns.lt (e ▸ Nat.lt_irrefl _)
    · exact (N _ hl).2.1 ((List.mem_singleton.mp hm).symm)
  · exact next_is_new F
  · exact ⟨⟨_, Heap.get?_push_size _ rfl, rfl, rfl⟩, hls.at fun o e => Heap.get?_push_of_some _ e⟩
  · exact F.push _
  · exact fun p hp => ⟨Heap.get?_push_of_some _ (N p hp).1, (N p hp).2⟩
  · exact absurd (Heap.lt_size (N p hp).1) (e ▸ Nat.lt_irrefl _)
  · intro i v s₁ m₁ nx Q E _ hP hJ F₁ N₁ _ hq
    obtain ⟨q, o, x, y, n, rfl, hm, ho1, ho2, hp⟩ := hpr i v m₁ nx _ (by simpa using hP) hJ
    refine kcp_assign hh ⟨_, (N₁ _ hm).1, ho1, n, ho2⟩ ha hb (by rw [hk]; rfl) F₁.ns fun h' tk hn' hs' => ?_
    exact hq h' tk _ ⟨x, y, hp, rfl⟩ ⟨hn', fun c o e => hs' c o (Nat.ne_of_lt (Nat.lt_of_lt_of_le (Heap.lt_size e) F₁.above)) (F₁.keep c o e), F₁.above⟩ hs'
  · rintro i v m₁ _ nx h tk io hi hP hfx hJ ⟨x, y, hp, rfl⟩ hoff htk F' N'
    refine wpAny_mono (turn i x y m₁ nx h tk _ io (by simpa using hi) hp (hfx _ (List.mem_singleton.mpr rfl)) hJ hoff htk F' N') ?_ fun _ _ e => e
    rintro f s' ⟨h', tk', m', all, rfl, F₁, N₁, hf⟩
    refine ⟨h', tk', m', all, rfl, F₁, N₁, ?_⟩
    have go : NextOK [(s.heap.objs.size, io)] s.heap.objs.size (fun m' nx' => (l, lo) ∈ nx' ∧ J (i + 1) m' nx' tk') m' all → NextOK [(s.heap.objs.size, io)] s.heap.objs.size (fun m' nx' => (∀ p ∈ [(l, lo)], p ∈ nx') ∧ J (i + 1) m' nx' tk') m' all := by
      rintro ⟨nx', a, b, c, d, e⟩
      exact ⟨nx', a, b, c, fun p hp => by rw [List.mem_singleton.mp hp]; exact d, e⟩
    cases f with
    | ret v => exact hf
    | brk => exact hf
    | cont => exact go hf
    | next => exact go hf
  · intro m₁ nx h tk hfx hJ
    exact done m₁ nx h tk (hfx _ (List.mem_singleton.mpr rfl)) (by simpa using hJ)
end
end Mine
end

section
open PySem PySem.W PySem.Calls PyProof.Rows
set_option Elab.async false
set_option maxRecDepth 100000
set_option maxHeartbeats 8000000
namespace Mine
section
variable {w : World} {A : Around} {E : Value → Shared → Prop} {s : Shared} {g : Heap} {L : Addr} {m : Str → Option Value} {news : Led} {Q : Value → Shared → Prop}
theorem range1_led {n : Int} {t : Tok} (F : Fr g L s.heap m) (N : News g L s.heap news)
    (h : ∀ h' tk t₁ u₁ v₁, s.toks ≤ tk → IsRange h' s.heap.objs.size 0 n 1 t₁ u₁ v₁ → Fr g L h' m → News g L h' news → Q (.ref s.heap.objs.size) { s with heap := h', toks := tk }) :
    wpAny (model pw w) A (call (.type "range") [.int n t]) Q E s :=
  wpAny_with_toks (n := s.toks) (Nat.le_refl _) (range1_rows F N fun h' tk t₁ u₁ v₁ R F N _ htk => h h' tk t₁ u₁ v₁ htk R F N)
theorem range2_led {a b : Int} {t u : Tok} (F : Fr g L s.heap m) (N : News g L s.heap news)
    (h : ∀ h' tk t₁ u₁ v₁, s.toks ≤ tk → IsRange h' s.heap.objs.size a b 1 t₁ u₁ v₁ → Fr g L h' m → News g L h' news → Q (.ref s.heap.objs.size) { s with heap := h', toks := tk }) :
    wpAny (model pw w) A (call (.type "range") [.int a t, .int b u]) Q E s :=
  wpAny_with_toks (n := s.toks) (Nat.le_refl _) (range2_rows F N fun h' tk t₁ u₁ v₁ R F N _ htk => h h' tk t₁ u₁ v₁ htk R F N)
theorem range3_led {a b : Int} {t u v : Tok} (F : Fr g L s.heap m) (N : News g L s.heap news)
    (h : ∀ h' tk t₁ u₁ v₁, s.toks ≤ tk → IsRange h' s.heap.objs.size a b (-1) t₁ u₁ v₁ → Fr g L h' m → News g L h' news → Q (.ref s.heap.objs.size) { s with heap := h', toks := tk }) :
    wpAny (model pw w) A (call (.type "range") [.int a t, .int b u, .int (-1) v]) Q E s :=
  wpAny_with_toks (n := s.toks) (Nat.le_refl _) (range3_rows F N (by decide) (fun h' tk t₁ u₁ v₁ R F N _ htk => h h' tk t₁ u₁ v₁ htk R F N) (Or.inl (PyProof.noPylong_small (by decide))))
end
theorem fits {a : Int} (h1 : -100000 ≤ a) (h2 : a ≤ 100000) : Builtin.Range.rangeFitsLong a = true := by
  unfold Builtin.Range.rangeFitsLong
  simp only [Bool.and_eq_true, decide_eq_true_eq]
  exact ⟨Int.le_trans (by decide) h1, Int.lt_of_le_of_lt h2 (by decide)⟩
theorem fi {a : Int} (h1 : -10000 ≤ a) (h2 : a ≤ 10000) : Builtin.Range.rangeFitsLong a = true := fits (Int.le_trans (by decide) h1) (Int.le_trans h2 (by decide))
theorem fz {a b : Int} (h1 : b ≤ 10000) (h2 : -10000 ≤ a) : ((b - a).toNat : Int) ≤ 100000 := Int.ofNat_le.mpr (Int.toNat_le.mpr (Int.le_trans (Int.sub_le_sub h1 h2) (by decide)))
theorem rsize_up {a b : Int} : Builtin.Range.rangeSize a b 1 = ((b - a).toNat : Int) := by
  unfold Builtin.Range.rangeSize
  rw [if_pos (by decide)]
  split
  · rw [Int.ediv_one, Int.sub_add_cancel]; exact (Int.toNat_of_nonneg (Int.sub_nonneg_of_le (Int.le_of_lt (by assumption)))).symm
  · exact (congrArg Nat.cast (Int.toNat_of_nonpos (Int.sub_nonpos_of_le (Int.not_lt.mp (by assumption))))).symm
theorem rsize_down {a b : Int} : Builtin.Range.rangeSize a b (-1) = ((a - b).toNat : Int) := by
  unfold Builtin.Range.rangeSize
  rw [if_neg (by decide)]
  split
  · rw [show (-(-1) : Int) = 1 from rfl, Int.ediv_one, Int.sub_add_cancel]; exact (Int.toNat_of_nonneg (Int.sub_nonneg_of_le (Int.le_of_lt (by assumption)))).symm
  · exact (congrArg Nat.cast (Int.toNat_of_nonpos (Int.sub_nonpos_of_le (Int.not_lt.mp (by assumption))))).symm
theorem rsmall_up {a b : Int} (h1 : -10000 ≤ a) (h2 : a ≤ 10000) (h3 : -10000 ≤ b) (h4 : b ≤ 10000) : Builtin.Range.small a b 1 = true := by
  unfold Builtin.Range.small
  rw [rsize_up, fi h1 h2, fi h3 h4, fi (by decide) (by decide), fits (Int.le_trans (by decide) (Int.natCast_nonneg _)) (fz h4 h1), if_pos (by decide), show b + (1 - 1) = b from Int.add_zero b, fi h3 h4]
  simp
theorem rsmall_down {a b : Int} (h1 : -10000 ≤ a) (h2 : a ≤ 10000) (h3 : -10000 ≤ b) (h4 : b ≤ 10000) : Builtin.Range.small a b (-1) = true := by
  unfold Builtin.Range.small
  rw [rsize_down, fi h1 h2, fi h3 h4, fi (by decide) (by decide), fits (Int.le_trans (by decide) (Int.natCast_nonneg _)) (fz h2 h3), if_neg (by decide), show b + (-1 + 1) = b from Int.add_zero b, fi h3 h4]
  simp
end Mine
end

section
open PySem PySem.W PySem.Calls PyProof.Rows
set_option Elab.async false
set_option maxRecDepth 100000
set_option maxHeartbeats 8000000
namespace Mine
theorem set_all {w : World} {A : Around} {E : Value → Shared → Prop} {s : Shared} {l D sl : Addr} {xs ys : Array Value} {n k : Nat} {Q : Unit → Shared → Prop} (hol : s.heap.get? l = some (listOf xs n)) (hoD : s.heap.get? D = some (listOf ys k)) (hs : s.heap.IsSliceOf sl .none .none .none) (hne : l ≠ D)
    (hx : xs.size ≤ 1000) (hy : ys.size ≤ 1000)
    (hQ : ∀ h' n', Heap.SameBut l s.heap h' → h'.get? l = some (listOf ys n') → Q () { s with heap := h' }) :
    wpAny (model pw w) A (setItem (.ref l) (.ref sl) (.ref D)) Q E s := by
  have hl : s.heap.IsList l xs := PySem.IsL.isList (n := n) hol
  have hD : s.heap.IsList D ys := PySem.IsL.isList (n := k) hoD
  obtain ⟨os, hos, hcs, hds⟩ := id hs
  have hTs : s.TypeIs (.ref sl) "slice" := ⟨os, hos, hcs⟩
  unfold setItem
  try with_reducible refine wpAny_holding ?_
  first | refine wpAny_bind (wpAny_pure ?_) | skip
  refine wpAny_bind (wpAny_sequenceKey hl.typeIs (by decide) ?_)
  refine wpAny_bind (wpAny_callSpecial?_slot (name := Str.ofString "__setitem__") hl.typeIs slot_list_setitem
    (wpAny_call_entry slot_list_setitem hl.typeIs entry_list_setitem ?_ (args_list_setitem _ _ _)))
  show wpAny _ _ (Builtin.List.listSubscript? (.ref sl) >>= _) _ _ s
  refine wpAny_bind ?_
  unfold Builtin.List.listSubscript?
  refine wpAny_bind (wpAny_specialOf hTs slice_no_index ?_)
  simp only [Option.isNone_none, if_true]
  refine wpAny_pure ?_
  show wpAny _ _ (typeOf (.ref sl) >>= _) _ _ s
  refine wpAny_bind (wpAny_typeOf hTs ?_)
  rw [if_neg (by decide)]
  rw [listSliceParts_eq]
  have hstep : ¬ ((rawPart none == rawInt 0) = true) := Bool.false_ne_true
  refine wpAny_bind (wpAny_bind (wpAny_field hos hds (x := .none) rfl (wpAny_bind (wpAny_listPart .none ?_))))
  rw [if_neg hstep]
  refine wpAny_bind (wpAny_field hos hds (x := .none) rfl (wpAny_bind (wpAny_listPart .none ?_)))
  refine wpAny_bind (wpAny_field hos hds (x := .none) rfl (wpAny_bind (wpAny_listPart .none (wpAny_pure ?_))))
  have hsame : Builtin.List.listSameRef (.ref l) (.ref D) = false := by
    show (l == D) = false
    simpa using hne
  rw [hsame]
  simp only [Bool.false_eq_true, if_false]
  refine wpAny_bind (m := Builtin.List.listAllItems (.ref D) "must assign iterable to extended slice") ?_
  unfold Builtin.List.listAllItems
  refine wpAny_bind (wpAny_typeOf hD.typeIs ?_)
  rw [if_pos (by decide)]
  unfold Builtin.List.listItems
  refine wpAny_bind (wpAny_seqItems hoD rfl (wpAny_pure ?_))
  refine wpAny_bind (wpAny_bind (wpAny_seqItems hol rfl (wpAny_pure ?_)))
  refine wpAny_bind (wpAny_of_eq (sliceIndices_raw none none none xs.size (by simp)) ?_)
  have eb : sliceBounds none none none xs.size = (((0 : Nat) : Int), (xs.size : Int), 1) := by simp [sliceBounds]
  rw [eb]
  simp only [beq_self_eq_true, if_true]
  refine wpAny_bind (wpAny_rule ?_)
  have hfit : Builtin.List.listTooLong (xs.size + ys.size) = false := by
    unfold Builtin.List.listTooLong sizeLine
    simp only [gt_iff_lt, decide_eq_false_iff_not]; exact Nat.not_lt.mpr (Nat.le_trans (Nat.add_le_add hx hy) (by decide))
  rw [hfit]
  simp only [Bool.false_eq_true, if_false]
  have ef : ∀ zs : Array Value, zs.size = xs.size → zs.extract 0 ((0 : Nat) : Int).toNat ++ ys ++ zs.extract (max ((0 : Nat) : Int) (xs.size : Int)).toNat = ys := by
    intro zs hz
    have : (max ((0 : Nat) : Int) (xs.size : Int)).toNat = xs.size := congrArg Int.toNat (Int.max_eq_right (Int.natCast_nonneg _))
    rw [this]
    simp [← hz]
  refine wpAny_bind (wpAny_updateSeq hol rfl ?_ (by unfold sizeLine; (with_reducible exact o_le (by assumption) (by decide))) (by rw [ef xs rfl]; unfold sizeLine; (with_reducible exact o_le (by assumption) (by decide))))
  refine wpAny_bind (wpAny_letGo ?_)
  have hu := PySem.IsL.update (items := xs) (n := n) hol fun zs => zs.extract 0 ((0 : Nat) : Int).toNat ++ ys ++ zs.extract (max ((0 : Nat) : Int) (xs.size : Int)).toNat
  rw [ef xs rfl] at hu
  exact wpAny_pure ⟨.none, rfl, wpAny_pure (hQ _ _ (Heap.SameBut.update ..) hu)⟩
theorem set_slice {w : World} {A : Around} {E : Value → Shared → Prop} {s : Shared} {h : Heap} {g : Heap} {L : Addr} {m : Str → Option Value} {l D : Addr} {xs ys : Array Value} {n k : Nat} {rest : Led} {Q : Unit → Shared → Prop} (F : Fr g L h m) (N : News g L h ((l, listOf xs n) :: rest)) (hr : ∀ p ∈ rest, p.1 ≠ l) (hD : (D, listOf ys k) ∈ rest)
    (hx : xs.size ≤ 1000) (hy : ys.size ≤ 1000) (he : s.heap = h.push { cls := .type "slice", data := .fields #[.none, .none, .none] })
    (hQ : ∀ h' n', Fr g L h' m → News g L h' ((l, listOf ys n') :: rest) → Q () { s with heap := h' }) :
    wpAny (model pw w) A (setItem (.ref l) (.ref h.objs.size) (.ref D)) Q E s := by
  have hN := N (l, listOf xs n) (List.mem_cons_self ..)
  have upp : ∀ b o, h.get? b = some o → s.heap.get? b = some o := fun b o e => he ▸ Heap.get?_push_of_some _ e
  have F' : Fr g L s.heap m := he ▸ F.push _
  refine set_all (upp _ _ hN.1) (upp _ _ (N (D, listOf ys k) (List.mem_cons_of_mem _ hD)).1) ⟨_, by rw [he]; exact Heap.get?_push_size _ rfl, rfl, rfl⟩ (fun e => hr _ hD e.symm) hx hy fun h' n' hs' hl' => ?_
  refine hQ h' n' (F'.change hs' hN.2.1 hN.2.2) fun p hp => ?_
  rcases List.mem_cons.mp hp with rfl | hp
  · exact ⟨hl', hN.2⟩
  · have z := N p (List.mem_cons_of_mem _ hp)
    exact ⟨hs'.extBut _ _ (hr p hp) (upp _ _ z.1), z.2⟩
theorem del_item {M : Model} {A : Around} {E : Value → Shared → Prop} {s : Shared} {K : Frag} {x C L f : Addr} {h₀ : Heap} {m : Str → Option Value} {ox : Obj} {od : Option Obj} {i : Value} {Q : Unit → Shared → Prop} (F : Fr h₀ L s.heap m) (X₀ : K.In h₀) (I : InstAt s.heap x ox C od) (hq : noSeq K C = true) (hs : findIn K (.ref C) "__delitem__" = some (some (.ref f))) (hf : isFn K (.ref f) = true)
    (h : wpAny M A (call (.ref f) [.ref x, i]) (fun _ s' => Q () s') E s) : wpAny M A (delItem (.ref x) i) Q E s := by
  have X := X₀.keeps F.keep
  unfold delItem sequenceKey
  refine wpAny_holding (wpAny_bind (wpAny_bind (I.type.here ?_)))
  refine wpAny_bind ((anyM_none X hq).here ?_)
  rw [if_pos (show (!false) = true from rfl)]
  exact wpAny_pure (wpAny_bind (special_fn X I hs (beq_iff_eq.mp hf) (wpAny_mono h (fun _ _ z => wpAny_pure z) fun _ _ z => z)))
theorem allLt_mem {d : Addr} : ∀ {l : Led}, AllLt d l → ∀ p ∈ l, p.1 < d
  | [], _, _, h => nomatch h
  | q :: r, ⟨a, b⟩, p, h => by
    rcases List.mem_cons.mp h with rfl | h
    · exact a
    · exact allLt_mem b p h
theorem app_led {w : World} {A : Around} {E : Value → Shared → Prop} {s : Shared} {g : Heap} {L : Addr} {m : Str → Option Value} {l : Addr} {xs : List Value} {v : Value} {n : Nat} {rest : Led} {Q : Value → Shared → Prop} (F : Fr g L s.heap m) (N : News g L s.heap ((l, listOf xs.toArray n) :: rest)) (hr : ∀ p ∈ rest, p.1 ≠ l) (hx : xs.length ≤ 1000)
    (hQ : ∀ h', Fr g L h' m → News g L h' ((l, listOf (xs ++ [v]).toArray (n + 1)) :: rest) → Q .none { s with heap := h' }) :
    wpAny (model pw w) A (call (.builtin "list.append") [.ref l, v]) Q E s := by
  have hN := N (l, listOf xs.toArray n) (List.mem_cons_self ..)
  refine append_at (hsz := by show xs.toArray.size ≤ sizeLine; rw [List.size_toArray]; unfold sizeLine; (with_reducible exact o_le (by assumption) (by decide))) hN.1 fun h' hs' hl' => hQ h' (F.change hs' hN.2.1 hN.2.2) fun p hp => ?_
  rcases List.mem_cons.mp hp with rfl | hp
  · exact ⟨by rw [hl', List.push_toArray], hN.2⟩
  · have z := N p (List.mem_cons_of_mem _ hp)
    exact ⟨hs'.extBut _ _ (hr p hp) z.1, z.2⟩
theorem news_swap {g h : Heap} {L : Addr} {a b : Addr × Obj} {r : Led} (N : News g L h (a :: b :: r)) : News g L h (b :: a :: r) := fun p hp => N p (by simp only [List.mem_cons] at hp ⊢; rcases hp with h | h | h <;> simp [h])
theorem set_led {w : World} {A : Around} {E : Value → Shared → Prop} {s : Shared} {g : Heap} {L : Addr} {m : Str → Option Value} {l : Addr} {xs : List Value} {v : Value} {n : Nat} {rest : Led} {k : Int} {t : Tok} {Q : Unit → Shared → Prop} (F : Fr g L s.heap m) (N : News g L s.heap ((l, listOf xs.toArray n) :: rest)) (hr : ∀ p ∈ rest, p.1 ≠ l) (h0 : 0 ≤ k) (hk : k < xs.length) (hx : xs.length ≤ 100000)
    (hQ : ∀ h', Fr g L h' m → News g L h' ((l, listOf (xs.set k.toNat v).toArray n) :: rest) → Q () { s with heap := h' }) :
    wpAny (model pw w) A (setItem (.ref l) (.int k t) v) Q E s := by
  have hN := N (l, listOf xs.toArray n) (List.mem_cons_self ..)
  have hu := PySem.IsL.update (items := xs.toArray) (n := n) hN.1 fun zs => zs.setIfInBounds k.toNat v
  have hs' := Heap.SameBut.update (h := s.heap) (a := l) (f := Obj.mapSeq fun zs => zs.setIfInBounds k.toNat v)
  refine ki_setAt hN.1 h0 (Int.lt_of_lt_of_le hk (Int.le_trans (Int.ofNat_le.mpr hx) (by decide))) (by simpa using hk) (hQ _ (F.change hs' hN.2.1 hN.2.2) fun p hp => ?_)
  rcases List.mem_cons.mp hp with rfl | hp
  · exact ⟨by simpa using hu, hN.2⟩
  · have z := N p (List.mem_cons_of_mem _ hp)
    exact ⟨hs'.extBut _ _ (hr p hp) z.1, z.2⟩
end Mine
end

section
open PySem PySem.W PySem.Calls PyProof.Rows
set_option Elab.async false
set_option maxRecDepth 100000
set_option maxHeartbeats 4000000
namespace Mine
theorem ext_led {w : World} {A : Around} {E : Value → Shared → Prop} {s : Shared} {g : Heap} {L : Addr} {m : Str → Option Value} {l b : Addr} {xs ys : List Value} {n k : Nat} {rest : Led} {Q : Value → Shared → Prop} (F : Fr g L s.heap m) (N : News g L s.heap ((l, listOf xs.toArray n) :: rest)) (hr : ∀ p ∈ rest, p.1 ≠ l) (hb : (b, listOf ys.toArray k) ∈ rest) (hx : xs.length ≤ 1000) (hy : ys.length ≤ 1000)
    (hQ : ∀ h' n', Fr g L h' m → News g L h' ((l, listOf (xs ++ ys).toArray n') :: rest) → Q .none { s with heap := h' }) :
    wpAny (model pw w) A (call (.builtin "list.extend") [.ref l, .ref b]) Q E s := by
  have hd : ¬(!xs.toArray.isEmpty && Builtin.List.listTooLong (xs.toArray.size + ys.toArray.size)) = true := by
    have : Builtin.List.listTooLong (xs.toArray.size + ys.toArray.size) = false := by
      rw [List.size_toArray, List.size_toArray]
      unfold Builtin.List.listTooLong
      refine decide_eq_false ?_
      exact Nat.not_lt.mpr (Nat.le_trans (Nat.add_le_add hx hy) (by decide))
    rw [this]
    simp
  have z1 : xs.toArray.toList.length ≤ sizeLine := Nat.le_trans hx (by decide)
  have z2 : xs.toArray.size + ys.toArray.size ≤ sizeLine + 1 := Nat.le_trans (Nat.add_le_add hx hy) (by decide)
  by_cases hy0 : ys = []
  · subst hy0
    refine kxn_extend F N (List.mem_cons_of_mem _ hb) rfl (.head hr) hd z1 z2 fun h' F' N' => hQ h' n F' ?_
    rw [List.append_nil]
    exact N'
  · refine kl_extend (l := xs ++ ys) F N (List.mem_cons_of_mem _ hb) rfl ?_ (.head hr) hd z1 z2 fun h' F' N' => hQ h' (n + 1) F' N'
    show ys.length ≠ 0
    exact fun e => hy0 (List.length_eq_zero_iff.mp e)
theorem slice_from {l : List Nat} {n : Nat} (h : n ≤ l.length) : Txt.slice (tx l) (some (n : Int)) none = tx (l.drop n) := by
  refine (StrLaws.sliceText_from (x := tx l) (i := (n : Int)) ⟨Int.natCast_nonneg _, Int.ofNat_le.mpr h⟩).trans ?_
  refine ext_ls ?_
  show (l.drop (n : Int).toNat).take _ = l.drop n
  rw [Int.toNat_natCast]
  refine List.take_of_length_le ?_
  rw [List.length_drop]
  exact Nat.le_of_eq (Int.toNat_sub ..).symm
theorem slice_led {w : World} {A : Around} {E : Value → Shared → Prop} {s : Shared} {g : Heap} {L : Addr} {m : Str → Option Value} {news : Led} {value slice : PySem.Expr} {x : Str} {t ui : Tok} {i : Int} {Q : Value → Shared → Prop} (F : Fr g L s.heap m) (N : News g L s.heap news) (hsz : x.length ≤ 1000000)
    (h : ∀ h' t' k, s.toks ≤ k → Fr g L h' m → News g L h' news → Q (.str (Txt.slice x (some i) none) t') { s with heap := h', toks := k })
    (hs : subscripted slice false (.str x t) (.ref s.heap.objs.size) = operate [.ref s.heap.objs.size, .str x t] (getItem (.str x t) (.ref s.heap.objs.size)) := by with_unfolding_all rfl)
    (ht : ∀ r, letTemporaryGo value (.str x t) r = pure () := by intro _; with_unfolding_all rfl) :
    wpAny (model pw w) A (subscriptTail value slice (.str x t) (.ref s.heap.objs.size)) Q E { s with heap := s.heap.push { cls := .type "slice", data := .fields #[.int i ui, .none, .none] } } :=
  wpAny_with_toks (n := s.toks) (Nat.le_refl _) (slice_strN_sn F N (fun h' t' k F' N' hk => h h' t' k hk F' N') hs ht (Nat.le_trans hsz (by decide)))
end Mine
end

section
open PySem PySem.W PyProof.Rows
set_option Elab.async false
set_option maxRecDepth 100000
set_option maxHeartbeats 8000000
namespace Mine
local macro_rules | `(tactic| walk_at "execs cons") => `(tactic| ((with_reducible refine wpAny_execs_cons ?_); try dsimp only))
local macro_rules | `(tactic| walk_at "execs nil") => `(tactic| refine wpAny_execs_nil ?_)
local macro_rules | `(tactic| walk_at "call builtin:str.replace") => `(tactic| (refine wp_replace (Nat.le_add_left 1 _) (Nat.succ_ne_zero _) (Nat.succ_ne_zero _) (Nat.ne_of_lt (Nat.lt_succ_self _)) (by decide +kernel) (by assumption) ?_; intro _ _; (try dsimp only)))
def EscPost (g : Heap) (L : Addr) (news : Led) (s : Shared) (x' : Str) : Flow → Shared → Prop := fun f s' =>
  f = .next ∧ ∃ t h' tk', 1 ≤ tk' ∧ s' = { s with heap := h', toks := tk' } ∧ Fr g L h' (fun y => if y = "text" then some (.str x' t) else none) ∧ News g L h' news
theorem esc_cut {M : Model} {A : Around} {env : Env} {st : Stmt} {Q : Flow → Shared → Prop} {E : Value → Shared → Prop} {s : Shared} {g : Heap} {L : Addr} {news : Led} (x' : Str)
    (h1 : wpAny M A (exec st env) (EscPost g L news s x') (fun _ _ => False) s)
    (h2 : ∀ t h' tk', 1 ≤ tk' → Fr g L h' (fun y => if y = "text" then some (.str x' t) else none) → News g L h' news → Q .next { s with heap := h', toks := tk' }) : wpAny M A (exec st env) Q E s :=
  wpAny_mono h1 (fun f s' => by rintro ⟨rfl, t, h', tk', ht, rfl, F, N⟩; exact h2 t h' tk' ht F N) fun _ _ h => h.elim
theorem esc_no {g h : Heap} {L : Addr} {news : Led} {s : Shared} {n c : Nat} {r : List Nat} {C x : Str} {t tk : Nat}
    (ha : (Builtin.Str.occurrences (escS n x) C 0 (escS n x).length 1).isEmpty = true) (F : Fr g L h (fun y => if y = "text" then some (.str (escS n x) t) else none)) (N : News g L h news) (ht : 1 ≤ tk) (e : escR[n]? = some (c, r)) (hC : C = ⟨#[c]⟩) (R : Str) (hR : R = tx r) :
    EscPost g L news s (escS (n + 1) x) .next { heap := h, gens := s.gens, drawn := s.drawn, toks := tk, os := s.os } := by
  have : escS (n + 1) x = escS n x := by rw [← escS_step x e hC hR, hC, repl_absent (hC ▸ ha)]
  exact ⟨rfl, t, h, tk, ht, rfl, by rw [this]; exact F, N⟩
theorem esc_yes {g h : Heap} {L : Addr} {news : Led} {s : Shared} {n c : Nat} {r : List Nat} {C R x : Str} {t t₀ tk : Nat}
    (F : Fr g L h (fun y => if y = "text" then some (.str (Txt.replace (escS n x) C R) t) else if y = "text" then some (.str (escS n x) t₀) else none)) (N : News g L h news) (ht : 1 ≤ tk) (e : escR[n]? = some (c, r)) (hC : C = ⟨#[c]⟩) (hR : R = tx r) :
    EscPost g L news s (escS (n + 1) x) .next { heap := h, gens := s.gens, drawn := s.drawn, toks := tk, os := s.os } := by
  refine ⟨rfl, t, h, tk, ht, rfl, frc F fun y => ?_, N⟩
  rw [escS_step x e hC hR]
  by_cases hy : y = "text" <;> simp [hy]
theorem esc_fit {n : Nat} (hn : n ≤ 7) {x R : Str} (hx : x.length ≤ 2000) (hR : R.length ≤ 6) : (escS n x).length + ((escS n x).length + 1) * R.length ≤ 16777216 := by
  have h : (escS n x).length ≤ 12000 := Nat.le_trans (escS_len hn x) (Nat.mul_le_mul_left 6 hx)
  exact Nat.le_trans (Nat.add_le_add h (Nat.mul_le_mul (Nat.succ_le_succ h) hR)) (by decide)
set_option hygiene false
local macro_rules | `(tactic| tb_start) => `(tactic| (
  clear ht F N
  intro t h' tk' ht F N
  dsimp only
  walk1))
local macro_rules | `(tactic| tb_rel) => `(tactic| (
  k_steps
  · exact esc_no (by assumption) (by assumption) (by assumption) (Nat.le_add_left 1 _) (by rfl) (by decide +kernel) _ rfl
  · exact esc_yes (by assumption) (by assumption) (Nat.le_add_left 1 _) (by rfl) (by decide +kernel) (by decide +kernel)))
theorem b_esc {w : World} (x : Str) (tx : Tok) (news : Led) (hx : x.length ≤ 2000) : Body w 0 0 "_escape_attrib" s23 b23 339 (.ref 338) (fun y => if y = "text" then some (.str x tx) else none) news (fun v n' _ => ∃ t, v = .str (escS 7 x) t ∧ n' = news) := by
  intro mean mg mb dp un gd outer A₀ base g L s B F X N T ht hd hu Aa
  rw [← escS_zero x] at F
  dsimp only [b23, b23x]
  walk1
  walk1
  walk1
  refine esc_cut (g := g) (L := L) (news := news) (escS 1 x) ?_ ?_
  · have hb := esc_fit (n := 0) (R := "&amp;") (by decide) hx (by decide +kernel)
    tb_rel
  tb_start
  refine esc_cut (g := g) (L := L) (news := news) (escS 2 x) ?_ ?_
  · have hb := esc_fit (n := 1) (R := "&lt;") (by decide) hx (by decide +kernel)
    tb_rel
  tb_start
  refine esc_cut (g := g) (L := L) (news := news) (escS 3 x) ?_ ?_
  · have hb := esc_fit (n := 2) (R := "&gt;") (by decide) hx (by decide +kernel)
    tb_rel
  tb_start
  refine esc_cut (g := g) (L := L) (news := news) (escS 4 x) ?_ ?_
  · have hb := esc_fit (n := 3) (R := "&quot;") (by decide) hx (by decide +kernel)
    tb_rel
  tb_start
  refine esc_cut (g := g) (L := L) (news := news) (escS 5 x) ?_ ?_
  · have hb := esc_fit (n := 4) (R := "&#13;") (by decide) hx (by decide +kernel)
    tb_rel
  tb_start
  refine esc_cut (g := g) (L := L) (news := news) (escS 6 x) ?_ ?_
  · have hb := esc_fit (n := 5) (R := "&#10;") (by decide) hx (by decide +kernel)
    tb_rel
  tb_start
  refine esc_cut (g := g) (L := L) (news := news) (escS 7 x) ?_ ?_
  · have hb := esc_fit (n := 6) (R := "&#09;") (by decide) hx (by decide +kernel)
    tb_rel
  tb_start
  k_steps
  exact ⟨h', tk', _, news, rfl, F, N, t, rfl, rfl⟩
theorem does_esc {w : World} (x : Str) (tx : Tok) (news : Led) (hx : x.length ≤ 2000) : Does w 1 3 (.ref 339) [.str x tx] news (fun v n' _ => ∃ t, v = .str (escS 7 x) t ∧ n' = news) := by
  refine does_fn (by k_is) (by k_is) (fun s _ => BindsTo.of_eq rfl) (locs rfl) (fun y => ?_) rfl rfl rfl (by decide) (@b_esc w x tx news hx)
  show List.lookup y [(("text" : Str), Value.str x tx)] = _
  rw [lk]; rfl
end Mine
end

section
open PySem PySem.W PyProof.Rows
set_option Elab.async false
set_option maxRecDepth 100000
set_option maxHeartbeats 8000000
namespace Mine
theorem rx_plain : PlainAttrs "re.Pattern" :=
  ⟨⟨"object.__getattribute__", by rw [typeLookup_type, builtinLookup_eq_fast]; kernel_rfl, by decide +kernel⟩, by rw [typeLookup_type, builtinLookup_eq_fast]; kernel_rfl⟩
theorem rx_slot : Slot "re.Pattern" "search" "re.Pattern.search" :=
  .of (owner := "re.Pattern") (n := "search") (by rw [typeLookup_type, builtinLookup_eq_fast]; kernel_rfl) (by decide +kernel) (by decide +kernel) (by decide +kernel)
    (by first | exact .inl (by decide +kernel) | exact .inr (by decide +kernel)) (by rw [isSubtype_type]; kernel_rfl)
theorem rx_type : typeOf (.builtin "re.Pattern.search") = pure (.type "method_descriptor") := by show builtinType _ = _; rw [builtinType_eq_fast]; kernel_rfl
theorem rx_entry : entryFor table "re.Pattern.search" = some Builtin.«re.Pattern.search» := entryFor_of_tree (by kernel_rfl)
theorem rx_args (a b : Value) : argsOk "re.Pattern.search" ⟨[a, b], []⟩ := by
  unfold argsOk; kernel_rfl
end Mine
end

section
open PySem PySem.W PyProof.Rows
set_option Elab.async false
set_option maxRecDepth 100000
set_option maxHeartbeats 8000000
namespace Mine
open PySem.Sre PySem.Builtin
theorem admitted_none (m : Sre.M) (h : ∀ c ∈ m.text.toList, ∀ seen, ∃ seen', inSet m.code c m.code.size 5 true seen = .ok (false, seen')) (hl : m.lim ≤ m.text.size) : ∀ (fuel s : Nat) (seen : Sre.Seen), ∃ seen', M.admitted m fuel s seen = .ok (none, seen')
  | 0, s, seen => ⟨seen, rfl⟩
  | fuel + 1, s, seen => by
    unfold M.admitted
    by_cases hs : s ≥ m.lim
    · exact ⟨seen, by rw [if_pos hs]⟩
    · rw [if_neg hs]
      have hlt : s < m.text.size := Nat.lt_of_lt_of_le (Nat.lt_of_not_le hs) hl
      have hc : m.text.getD s 0 ∈ m.text.toList := by
        rw [Array.getD_eq_getD_getElem?, Array.getElem?_eq_getElem hlt]; simp
      obtain ⟨seen', e⟩ := h _ hc seen
      rw [e]
      exact admitted_none m h hl fuel (s + 1) seen'
def Ended (m : Sre.M) : Prop := m.answer = some false ∧ m.frames = [] ∧ m.outcome = none
theorem search_none (code text : Array Nat) (h14 : code.getD 0 0 = 14) (h4 : code.getD 2 0 = 4) (h : ∀ c ∈ text.toList, ∀ seen, ∃ seen', inSet code c code.size 5 true seen = .ok (false, seen')) :
    Ended (forSearch code text 0 0 text.size false) := by
  unfold forSearch
  dsimp only
  split
  · exact ⟨rfl, rfl, rfl⟩
  · unfold M.attemptFrom
    have hf : ∀ m : Sre.M, m.code = code → m.hasFirstSet = true := by
      intro m e
      unfold M.hasFirstSet
      rw [e, h14, h4]; rfl
    have no : ∀ (m : Sre.M) fuel s seen (r : Except String (Option Nat × Sre.Seen)), m.code = code → m.text = text → m.lim = text.size → M.admitted m fuel s seen = r → ∃ seen', r = .ok (none, seen') := by
      intro m fuel s seen r e1 e2 e3 e
      obtain ⟨seen', e'⟩ := admitted_none m (by rw [e1, e2]; exact h) (by rw [e2, e3]; exact Nat.le_refl _) fuel s seen
      exact ⟨seen', e.symm.trans e'⟩
    have key : ∀ m : Sre.M, m.code = code → m.text = text → m.lim = text.size → ∀ fuel s seen, ∃ seen', M.admitted m fuel s seen = .ok (none, seen') := by
      intro m e1 e2 e3
      refine admitted_none m (by rw [e1, e2]; exact h) (by rw [e2, e3]; exact Nat.le_refl _)
    rw [hf _ rfl]
    simp only [Bool.not_true, Bool.false_eq_true, if_false]
    split
    · rename_i s seen e
      obtain ⟨seen', e'⟩ := no _ _ _ _ _ rfl rfl rfl e
      cases e'
    · exact ⟨rfl, rfl, rfl⟩
    · rename_i why e
      obtain ⟨seen', e'⟩ := no _ _ _ _ _ rfl rfl rfl e
      cases e'
theorem ended_run {m : Sre.M} (h : Ended m) : ∃ m', m.runFor Re.reTurnSteps = m' ∧ m'.outcome = some .failed := by
  obtain ⟨h1, h2, h3⟩ := h
  refine ⟨_, rfl, ?_⟩
  have s1 : m.step = { m with outcome := some .failed } := by
    unfold M.step
    rw [h3, h1, h2]; rfl
  show (M.runFor 4 m).outcome = _
  unfold M.runFor
  rw [h3]
  simp only [Option.isSome_none, Bool.false_eq_true, if_false]
  rw [s1]
  rfl
theorem wp_rules {M : Model} {A : Around} {E : Value → Shared → Prop} {s : Shared} (c : Nat → Bool) (f : Nat → String) {Q : PUnit → Shared → Prop} (h : Q PUnit.unit s) : ∀ l : List Nat,
    wpAny M A (forIn (m := Sem) l PUnit.unit fun i _ => if c i = true then (do rule (f i); pure (ForInStep.yield PUnit.unit)) else pure (ForInStep.yield PUnit.unit)) Q E s
  | [] => by rw [List.forIn_nil]; exact wpAny_pure h
  | i :: r => by
    rw [List.forIn_cons]
    refine wpAny_bind (wpAny_ite ?_)
    split
    · exact wpAny_bind (wpAny_rule (wpAny_pure (wp_rules c f h r)))
    · exact wpAny_pure (wp_rules c f h r)
open PySem.Builtin.Re in
theorem wp_run {M : Model} {A : Around} {E : Value → Shared → Prop} {s : Shared} {m : Sre.M} (he : Ended m) {Q : Option Sre.M → Shared → Prop} (h : Q none s) : wpAny M A (reRunToEnd m) Q E s := by
  obtain ⟨m', e, ho⟩ := ended_run he
  unfold reRunToEnd
  have hd : reDrive (2 ^ 64) m = pure m' := by
    rw [show (2 : Nat) ^ 64 = 18446744073709551615 + 1 from rfl]
    unfold reDrive
    rw [e]
    dsimp only
    rw [ho]
    rfl
  rw [hd]
  refine wpAny_bind (wpAny_pure (wpAny_bind (wp_rules _ _ ?_ _)))
  rw [ho]
  exact wpAny_pure h
end Mine
end

section
open PySem PySem.W PyProof.Rows
set_option Elab.async false
set_option maxRecDepth 100000
set_option maxHeartbeats 8000000
namespace Mine
open PySem.Sre PySem.Builtin
/-- a printable sign -/
def Pl (c : Nat) : Prop := 32 ≤ c ∧ c < 127
def nameCode : Array Nat := #[14, 10, 4, 1, 1, 22, 0, 31, 16, 127, 0, 13, 7, 22, 0, 31, 16, 127, 0, 1]
def valCode : Array Nat := #[14, 14, 4, 1, 1, 9, 4294966783, 0, 0, 2147483648, 0, 0, 0, 0, 0, 13, 11, 9, 4294966783, 0, 0, 2147483648, 0, 0, 0, 0, 0, 1]
theorem in_name {c : Nat} (h : Pl c) (seen : Sre.Seen) : ∃ seen', inSet nameCode c nameCode.size 5 true seen = .ok (false, seen') := by
  obtain ⟨h1, h2⟩ := h
  refine ⟨((seen.add 22).add 16).add 0, ?_⟩
  have e1 : (decide (0 ≤ c) && decide (c ≤ 31)) = false := by simp; exact h1
  have e2 : (c == 127) = false := by simp; exact Nat.ne_of_lt h2
  show inSet nameCode c 20 5 true seen = _
  unfold inSet
  show (if (decide (0 ≤ c) && decide (c ≤ 31)) = true then _ else inSet nameCode c 19 8 true (seen.add 22)) = _
  rw [e1, if_neg Bool.false_ne_true]
  unfold inSet
  show (if (c == 127) = true then _ else inSet nameCode c 18 10 true ((seen.add 22).add 16)) = _
  rw [e2, if_neg Bool.false_ne_true]
  rfl
theorem val_bit : ∀ c ∈ List.range 127, 32 ≤ c → (valCode.getD (5 + (1 + c / 32)) 0).testBit (c % 32) = false := by decide +kernel
theorem in_val {c : Nat} (h : Pl c) (seen : Sre.Seen) : ∃ seen', inSet valCode c valCode.size 5 true seen = .ok (false, seen') := by
  obtain ⟨h1, h2⟩ := h
  refine ⟨(seen.add 9).add 0, ?_⟩
  have e1 : (decide (c < 256) && (valCode.getD (5 + (1 + c / 32)) 0).testBit (c % 32)) = false := by
    rw [val_bit c (List.mem_range.mpr h2) h1, Bool.and_false]
  show inSet valCode c 28 5 true seen = _
  unfold inSet
  show (if (decide (c < 256) && (valCode.getD (5 + (1 + c / 32)) 0).testBit (c % 32)) = true then _ else inSet valCode c 27 14 true (seen.add 9)) = _
  rw [e1, if_neg Bool.false_ne_true]
  rfl
open PySem.Builtin.Re in
theorem wp_search {w : World} {A : Around} {E : Value → Shared → Prop} {s : Shared} {a b : Addr} {p0 p1 : Value} {items : Array Value} {n : Nat} {code : Array Nat} {x : Str} {t : Tok} {Q : Value → Shared → Prop}
    (ho : s.heap.get? a = some ⟨.type "re.Pattern", none, .fields #[p0, p1, .int 0 0, .none, .none, .ref b, .int 0 0], #[]⟩) (hb : s.heap.get? b = some ⟨.type "tuple", none, .seq items n, #[]⟩)
    (hc : (items.map reRawOf).map (·.toNat) = code) (h14 : code.getD 0 0 = 14) (h4 : code.getD 2 0 = 4) (h : ∀ c ∈ x.cps.toList, ∀ seen, ∃ seen', inSet code c code.size 5 true seen = .ok (false, seen'))
    (hx : x.length ≤ 16777216) (hq : Q .none s) : wpAny (model pw w) A (call (.builtin "re.Pattern.search") [.ref a, .str x t]) Q E s := by
  refine wpAny_call_entry rx_slot ⟨_, ho, rfl⟩ rx_entry ?_ (rx_args _ _)
  show wpAny _ _ (reTarget "re.Pattern.search" "search" ⟨[.ref a, .str x t], []⟩ >>= _) _ _ _
  refine wpAny_bind ?_
  unfold reTarget
  dsimp only
  have hn : reNamed "re.Pattern.search" "search" ["string", "pos", "endpos"] 1 [.str x t] [] = pure [some (.str x t), none, none] := by rfl
  rw [hn]
  refine wpAny_bind (wpAny_pure ?_)
  dsimp only
  refine wpAny_bind (wpAny_pure (wpAny_bind (wpAny_pure ?_)))
  refine wpAny_bind (wpAny_fieldsOf ho rfl ?_)
  have hr : reTextOf (.str x t) = pure (x.cps, 0) := rfl
  rw [hr]
  refine wpAny_bind (wpAny_pure ?_)
  dsimp only
  show wpAny _ _ (do let __do_lift ← reRawItems (.ref b); pure _) _ _ _
  refine wpAny_bind ?_
  unfold reRawItems
  refine wpAny_bind (wpAny_seqItems hb rfl (wpAny_pure (wpAny_pure ?_)))
  show wpAny _ _ (reAnswer _ _) _ _ _
  unfold reAnswer
  refine wpAny_bind (wp_run ?_ (wpAny_pure ⟨_, rfl, hq⟩))
  have e : ((((some items).getD #[]).map reRawOf).map (·.toNat)) = code := hc
  show Ended (forSearch ((((some items).getD #[]).map reRawOf).map (·.toNat)) x.cps 0 (min (0 : Int).toNat x.cps.size) (min ((2 : Int) ^ 63 - 1).toNat x.cps.size) false)
  rw [e]
  have e1 : min (0 : Int).toNat x.cps.size = 0 := Nat.zero_min _
  have e2 : min ((2 : Int) ^ 63 - 1).toNat x.cps.size = x.cps.size := Nat.min_eq_right (by
    have : ((2 : Int) ^ 63 - 1).toNat = 9223372036854775807 := by decide
    rw [this]
    exact Nat.le_trans hx (by decide))
  rw [e1, e2]
  exact search_none code x.cps h14 h4 h
/-- the text is of printable signs -/
def Plain (x : Str) : Prop := ∀ c ∈ x.cps.toList, Pl c
theorem search_name {w : World} {A : Around} {E : Value → Shared → Prop} {s : Shared} {x : Str} {t : Tok} {Q : Value → Shared → Prop} (X : (K w.params).In s.heap) (hp : Plain x) (hx : x.length ≤ 16777216) (hq : Q .none s) : wpAny (model pw w) A (call (.builtin "re.Pattern.search") [.ref 185, .str x t]) Q E s :=
  wp_search (X 185 _ (by k_is)) (X 184 _ (by k_is)) (code := nameCode) (by decide +kernel) rfl rfl (fun c hc seen => in_name (hp c hc) seen) hx hq
theorem search_val {w : World} {A : Around} {E : Value → Shared → Prop} {s : Shared} {x : Str} {t : Tok} {Q : Value → Shared → Prop} (X : (K w.params).In s.heap) (hp : Plain x) (hx : x.length ≤ 16777216) (hq : Q .none s) : wpAny (model pw w) A (call (.builtin "re.Pattern.search") [.ref 190, .str x t]) Q E s :=
  wp_search (X 190 _ (by k_is)) (X 189 _ (by k_is)) (code := valCode) (by decide +kernel) rfl rfl (fun c hc seen => in_val (hp c hc) seen) hx hq
theorem getm_search {w : World} {A : Around} {E : Value → Shared → Prop} {s : Shared} {a : Addr} {o : Obj} {pl : Sem Bool} {Q : Value × List Value → Shared → Prop} (ho : s.heap.get? a = some o) (hc : o.cls = .type "re.Pattern") (hd : o.dict = none) (h : Q (.builtin "re.Pattern.search", [.ref a]) s) : wpAny (model pw w) A (getMethod (.ref a) "search" pl) Q E s :=
  getMethod_builtin ⟨_, ho, hc⟩ rx_plain rx_slot rx_type (fun b e => by cases e; exact ⟨_, ho, hd⟩) h
theorem kin_fr {w : World} {g h : Heap} {L : Addr} {m : Str → Option Value} (X : (K w.params).In g) (F : Fr g L h m) : (K w.params).In h := X.keeps F.keep
end Mine
end

section
open PySem PySem.W PySem.Calls PyProof.Rows
set_option Elab.async false
set_option maxRecDepth 100000
set_option maxHeartbeats 8000000
namespace Mine
/-- a def with **kw, called without any -/
theorem does_fnK {w : World} {D U : Nat} {name qual : Str} {params : Arguments} {body : List Stmt} {scope : Scope} {dV kV doc pm cdv ct oc : Value} {an od : Option Addr} {osl : Array (Option Value)} {f : Addr} {vs : List Value} {nm : Str} {front : List (Str × Value)} {g₁ : Addr → Sem (List (Str × Value))} {m : Addr → Str → Option Value} {news : Led} {post : Value → Led → Nat → Prop}
    (ho : (K w.params).lookup f = some ⟨oc, od, .func (fnOf name qual params body scope dV kV doc pm an cdv ct), osl⟩) (hcd : codeIn (K w.params) cdv qual = true)
    (hp : peekA (K w.params) ⟨pw, w.params⟩ (bindArgs (fnOf name qual params body scope dV kV doc pm an cdv ct) ⟨vs, []⟩) = some (W.dictOf [] 0, g₁))
    (hk₁ : ∀ D, g₁ D = (forIn ([] : List (Str × Value)) PUnit.unit (fun x _ => (nsSet D x.1 x.2 >>= fun _ => pure (ForInStep.yield PUnit.unit))) >>= fun _ => pure (front ++ [(nm, Value.ref D)])))
    (hloc : ∀ D, ∀ y ∈ front ++ [(nm, Value.ref D)], scope.names.lookup y.1 = some .local)
    (hm : ∀ D y, (front ++ [(nm, Value.ref D)]).reverse.lookup y = m D y)
    (hco : scope.isCoroutine = false) (hgen : scope.isGenerator = false) (hk : scope.kind = .function) (hcell : ∀ x ∈ scope.names, x.2 ≠ .cell)
    (h : ∀ P, (∀ p ∈ news, p.1 < P) → (P == sysModules) = false → Body w D U qual scope body f cdv (m P) ((P, W.dictOf [] 0) :: news) post) : Does w (D + 1) (U + 3) (.ref f) vs news post := by
  intro mean mg mb dp un gd cn cs a ccd cl outer A₀ base h₀ L m₀ s R B F X N T hkc ht hd hu hret
  refine codeAny_mono (codeAny_toks_of (n := s.toks) (Nat.le_refl _) (R := fun r s' => s.toks ≤ s'.toks → R r s') ?_) fun _ _ q => q.2 q.1
  have hX := X.keeps F.keep
  refine codeAny_call_function (fd := fnOf name qual params body scope dV kV doc pm an cdv ct) (body := body) (Nat.lt_of_le_of_lt (Nat.le_add_right dp _) hd) (hX _ _ ho) rfl hco hgen rfl (codeRec_of hX hcd) ?_
  refine wp_of_peekA (o := W.dictOf [] 0) F N hX rfl _ g₁ hp fun h' F' N' l => ?_
  rw [hk₁, List.forIn_nil]
  refine wpAny_bind (wpAny_pure (wpAny_pure ?_))
  refine kp_frame (cl := []) (s := { s with heap := h' }) (env := envX cn cs L a ccd cl) B F' N' T.nolimit rfl rfl hkc (hloc _) (fun g L' h₁ FG FL NG BG st => ?_) hcell hk
  have F2 : Fr g L' h₁ (m s.heap.objs.size) := (funext (hm s.heap.objs.size) : (fun y => (front ++ [(nm, Value.ref s.heap.objs.size)]).reverse.lookup y) = m s.heap.objs.size) ▸ FL
  refine wpAny_mono (h s.heap.objs.size l (F.notModules (modules_low T.nolimit)) mean mg mb (dp + 1) (un + 3) gd (envX cn cs L a ccd cl :: outer) _ base g L' { s with heap := h₁, toks := s.toks + (front ++ [(nm, Value.ref s.heap.objs.size)]).length } BG F2 (X.keeps st) NG (T.keeps st) (Nat.le_trans ht (Nat.le_add_right _ _)) (o_dp hd) (o_un hu)) ?_ ?_
  · rintro fl s' ⟨h', tk', m', news', rfl, F3, N3, hp⟩
    exact leaveK_ F3 N3 fun Fb Nb => fun ht' => hret _ h' tk' news' hp ht' Fb Nb
  · intro _ _ h; exact h.elim
end Mine
namespace Mine
theorem for_noitems {w : World} {A : Around} {E : Value → Shared → Prop} {s : Shared} {g : Heap} {env : Env} {m : Str → Option Value} {news : Led} {target : PySem.Expr} {body : List Stmt} {v d : Addr} {ep : Nat} {R : Result → Shared → Prop}
    (hh : A.handled = none) (hv : s.heap.IsItemsView v d) (hm : s.heap.DictAt (strKind pw w) d [] ep) (F : Fr g env.locals s.heap m) (N : News g env.locals s.heap news)
    (done : ∀ h', Fr g env.locals h' m → News g env.locals h' news → R (.ok .next) { s with heap := h' }) :
    wpAny (model pw w) A (pyIter (.ref v)) (fun it s₂ => codeAny (model pw w) A (.forLoop target it body [] env) R s₂) E s := by
  refine wpAny_pyIter_items hv hm ?_
  have upp : ∀ io b o, s.heap.get? b = some o → (s.heap.push io).get? b = some o := fun io b o e => Heap.get?_push_of_some _ e
  refine codeAny_forLoop_any (fun _ s' => s' = { s with heap := s.heap.push { cls := .type "dict_itemiterator", data := .fields #[.none, .bool false, .ref d, .int 0 0, .int (([] : List (Str × Value)).length : Nat) 0, .int ep 0, .none, .none] } }) ?_ 0 rfl
  rintro n _ rfl
  refine wpAny_pyNext_items_end (knd := strKind pw w) (kvs := []) (i := 0) hh (Heap.get?_push_size _ rfl) ?_ rfl fun h' hx => wpAny_execs_nil ?_
  · obtain ⟨o, es, ho, r⟩ := hm
    exact ⟨o, es, upp _ _ _ ho, r⟩
  · have lt : ∀ b o, s.heap.get? b = some o → h'.get? b = some o := fun b o e => hx b o (Nat.ne_of_lt (Heap.lt_size e)) (upp _ _ _ e)
    exact done h' (F.keeps lt) (N.grown lt)
end Mine
end

section
open PySem PySem.W PyProof.Rows
open PySem.Sem (wp)
set_option Elab.async false
set_option maxRecDepth 100000
set_option maxHeartbeats 8000000
namespace Mine
theorem gi_type : typeOf (.builtin "str.__getitem__") = pure (.type "wrapper_descriptor") := by show builtinType _ = _; rw [builtinType_eq_fast]; kernel_rfl
theorem wd_get : Slot "wrapper_descriptor" "__get__" "wrapper_descriptor.__get__" :=
  .of (owner := "wrapper_descriptor") (n := "__get__") (by rw [typeLookup_type, builtinLookup_eq_fast]; kernel_rfl) (by decide +kernel) (by decide +kernel) (by decide +kernel)
    (by first | exact .inl (by decide +kernel) | exact .inr (by decide +kernel)) (by rw [isSubtype_type]; kernel_rfl)
theorem wd_set : typeLookup (.type "wrapper_descriptor") "__set__" = pure none := by rw [typeLookup_type, builtinLookup_eq_fast]; kernel_rfl
theorem wd_delete : typeLookup (.type "wrapper_descriptor") "__delete__" = pure none := by rw [typeLookup_type, builtinLookup_eq_fast]; kernel_rfl
theorem wd_entry : entryFor table "wrapper_descriptor.__get__" = some Builtin.«wrapper_descriptor.__get__» := entryFor_of_tree (by kernel_rfl)
theorem wd_args (a b c : Value) : argsOk "wrapper_descriptor.__get__" ⟨[a, b, c], []⟩ := by unfold argsOk; kernel_rfl
theorem gi_owner : (".".intercalate ("str.__getitem__".cutAt '.').dropLast) = "str" := by
  have e0 : "str.__getitem__".cutAt '.' = ["str", "__getitem__"] := by first | rfl | decide +kernel
  rw [e0]; decide +kernel
theorem sub_str_str : isSubtype (.type "str") (.type (".".intercalate ("str.__getitem__".cutAt '.').dropLast)) = pure true := by
  rw [gi_owner, isSubtype_type]; kernel_rfl
theorem ha_entry : entryFor table "hasattr" = some Builtin.«hasattr» := entryFor_of_tree (by kernel_rfl)
theorem ha_args (a b : Value) : argsOk "hasattr" ⟨[a, b], []⟩ := by unfold argsOk; kernel_rfl
section
variable {prog : Program} {w : World} {A : Around} {E : Value → Shared → Prop} {h : Heap} {g : Array GenState} {d : Drawn} {t : Nat} {os : OsState} {x : Str} {u : Tok}
abbrev gwO (x : Str) (u : Tok) : Obj := { cls := .type "method-wrapper", data := .fields #[.builtin "str.__getitem__", .str x u] }
theorem ha_get {R : Result → Shared → Prop} (hq : R (.ok (.ret (.ref h.objs.size))) ⟨h.push (gwO x u), g, d, t, os⟩) :
    codeAny (model prog w) A (.call (.builtin "wrapper_descriptor.__get__") ⟨[.builtin "str.__getitem__", .str x u, .type "str"], []⟩) R ⟨h, g, d, t, os⟩ := by
  have hT : (⟨h, g, d, t, os⟩ : Shared).TypeIs (.str x u) "str" := rfl
  have hT5 : (⟨h, g, d, t, os⟩ : Shared).TypeIs (.builtin "str.__getitem__") "wrapper_descriptor" := gi_type
  have f8 := sub_str_str
  refine codeAny_call_builtin wd_get.plain wd_entry (wd_get.check _ _ _ _ _ _ _ _ hT5 (wd_args _ _ _) ?_)
  repeat (any_goals (first | assumption | wp_step))
theorem ha_find {tk : Tok} {Q : Fin → Shared → Prop} (hq : Q (.done (.ret (.ref h.objs.size))) ⟨h.push (gwO x u), g, d, t, os⟩) :
    wpAny (model prog w) A (Builtin.«object.__getattribute__» ⟨[.str x u, .str "__getitem__" tk], []⟩) Q E ⟨h, g, d, t, os⟩ := by
  have hT : (⟨h, g, d, t, os⟩ : Shared).TypeIs (.str x u) "str" := rfl
  have hT5 : (⟨h, g, d, t, os⟩ : Shared).TypeIs (.builtin "str.__getitem__") "wrapper_descriptor" := gi_type
  have f4 := F.slot_str_getitem.lookup
  have f5 := gi_type
  have f6 := wd_get.lookup
  have f7 := wd_set
  have f9 := wd_delete
  repeat (any_goals (first | assumption | wp_step))
  refine ha_get ?_
  repeat (any_goals (first | assumption | wp_step))
theorem ha_call {tk : Tok} {R : Result → Shared → Prop} (hq : R (.ok (.ret (.ref h.objs.size))) ⟨h.push (gwO x u), g, d, t, os⟩) :
    codeAny (model prog w) A (.call (.builtin "object.__getattribute__") ⟨[.str x u, .str "__getitem__" tk], []⟩) R ⟨h, g, d, t, os⟩ :=
  codeAny_call_builtin F.slot_str_getattribute.plain F.entry_object_getattribute (F.slot_str_getattribute.check _ _ _ _ _ _ _ _ (show (⟨h, g, d, t, os⟩ : Shared).TypeIs (.str x u) "str" from rfl) (F.args_object_getattribute_2 _ _) (ha_find hq))
theorem ha_by {tk : Tok} {Q : Value → Shared → Prop} (hq : Q (.ref h.objs.size) ⟨h.push (gwO x u), g, d, t, os⟩) : wpAny (model prog w) A (getAttrBy (.str x u) (.str "__getitem__" tk) false) Q E ⟨h, g, d, t, os⟩ := by
  have hT : (⟨h, g, d, t, os⟩ : Shared).TypeIs (.str x u) "str" := rfl
  have f2 := F.slot_str_getattribute.lookup
  have f3 := F.slot_str_getattribute.bind (.str x u)
  repeat (any_goals (first | assumption | wp_step))
  refine ha_call ?_
  repeat (any_goals (first | assumption | wp_step))
theorem ha_by? {tk : Tok} {Q : Option Value → Shared → Prop} (hq : Q (some (.ref h.objs.size)) ⟨h.push (gwO x u), g, d, t, os⟩) : wpAny (model prog w) A (getAttrBy? (.str x u) (.str "__getitem__" tk)) Q E ⟨h, g, d, t, os⟩ := by
  unfold getAttrBy?
  repeat (any_goals (first | assumption | with_reducible apply ha_by | wp_step))
theorem ha_str {tk : Tok} {Q : Value → Shared → Prop} (hq : Q (.bool true) ⟨h.push (gwO x u), g, d, t, os⟩) : wpAny (model prog w) A (call (.builtin "hasattr") [.str x u, .str "__getitem__" tk]) Q E ⟨h, g, d, t, os⟩ := by
  have hT : (⟨h, g, d, t, os⟩ : Shared).TypeIs (.str x u) "str" := rfl
  have f4 := F.slot_str_getitem.lookup
  have f2 := F.slot_str_getattribute.lookup
  have f8 : (withoutEnding? "str.__getitem__" "#data").isSome = false := by decide +kernel
  refine Calls.call_function_entry (by kernel_rfl) (by kernel_rfl) ha_entry (ha_args _ _) ?_
  unfold Builtin.«hasattr»
  refine wpAny_bind (m := someArgs "hasattr" 2 2 _) (wpAny_pure ?_)
  refine wpAny_bind (wpAny_pure ?_)
  dsimp only
  rw [if_neg (show ¬ ((Value.str x u == Value.builtin "__main__.__loader__#opaque") = true) from Bool.false_ne_true)]
  refine wpAny_bind (m := typeOf (Value.str x u)) (wpAny_pure ?_)
  dsimp only
  refine wpAny_bind (m := asStr? _) (wpAny_pure ?_)
  dsimp only
  rw [f4]
  refine wpAny_bind (wpAny_pure ?_)
  dsimp only
  rw [f2]
  refine wpAny_bind (wpAny_pure ?_)
  rw [f8, if_neg (show ¬ ((false && _) = true) from Bool.false_ne_true)]
  refine wpAny_bind (wpAny_pure ?_)
  rw [if_neg (by decide)]
  refine wpAny_bind (ha_by? ?_)
  rw [if_neg (show ¬ (((some (Value.ref h.objs.size)).isNone && (0 : Nat) == 2) = true) from Bool.false_ne_true)]
  refine wpAny_pure ?_
  exact ⟨_, rfl, hq⟩
end
theorem has_led {w : World} {A : Around} {E : Value → Shared → Prop} {s : Shared} {g : Heap} {L : Addr} {m : Str → Option Value} {news : Led} {x : Str} {u tk : Tok} {Q : Value → Shared → Prop} (F : Fr g L s.heap m) (N : News g L s.heap news)
    (hQ : ∀ h', Fr g L h' m → News g L h' news → Q (.bool true) { s with heap := h' }) :
    wpAny (model pw w) A (call (.builtin "hasattr") [.str x u, .str "__getitem__" tk]) Q E s :=
  ha_str (hQ _ (F.push _) (N.grown fun _ _ e => Heap.get?_push_of_some _ e))
end Mine
end

section
open PySem PySem.W PySem.Calls PyProof.Rows
set_option Elab.async false
set_option maxRecDepth 100000
set_option maxHeartbeats 8000000
namespace Mine
/-- the next pair of an enumerate over a text: the sign's token is the count at that moment -/
theorem enum_sign {prog : Program} {w : World} {A : Around} {E : Value → Shared → Prop} {s : Shared} {e it : Addr} {z : Str} {tz : Tok} {i c : Nat} {old : Value} {Q : Option Value → Shared → Prop}
    (he : IsEnum s.heap e it i old) (hit : s.heap.IsStrIter it "str_ascii_iterator" z tz i) (hc : z.cps[i]? = some c) (hne : e ≠ it)
    (hQ : ∀ h', IsEnumOut h' e it ((i : Int) + 1) (.str ⟨#[c]⟩ s.toks) s.heap.objs.size → h'.IsStrIter it "str_ascii_iterator" z tz (i + 1) →
      h'.get? s.heap.objs.size = some { cls := .type "tuple", data := .seq #[.int i (s.toks + 1), .str ⟨#[c]⟩ s.toks] } → h'.objs.size = s.heap.objs.size + 1 →
      (∀ b o, b ≠ e → b ≠ it → s.heap.get? b = some o → h'.get? b = some o) → Q (some (.ref s.heap.objs.size)) { s with heap := h', toks := s.toks + 1 + 1 }) :
    wpAny (model prog w) A (pyNext (.ref e)) Q E s := by
  obtain ⟨h₀, gs, dr, tk, os⟩ := s
  have hel : e < h₀.objs.size := Heap.lt_size he
  have hty : (⟨h₀, gs, dr, tk, os⟩ : Shared).TypeIs (.ref e) "enumerate" := ⟨_, he, rfl⟩
  unfold pyNext
  refine wpAny_bind (wpAny_attempt (wpAny_callSpecial?_slot (name := Str.ofString "__next__") hty F.slot_enumerate_next
    (wpAny_call_entry F.slot_enumerate_next hty F.entry_enumerate_next ?_ (F.args_enumerate_next_1 _))))
  show wpAny _ _ (field (.ref e) 2 >>= _) _ _ _
  refine wpAny_bind (wpAny_field he rfl (x := .ref it) rfl (wpAny_bind (wpAny_nextOf_ascii_item hit hc fun a hia hsa => ?_)))
  have hea : IsEnum a e it i old := (hsa.2 e hne).trans he
  refine wpAny_bind (m := field (.ref e) 3) (wpAny_field hea rfl (x := rawInt i) rfl ?_)
  refine wpAny_bind (m := field (.ref e) 4) (wpAny_field hea rfl (x := .none) rfl ?_)
  refine wpAny_bind (m := mkInt i) (wpAny_mkInt ?_)
  refine wpAny_bind (m := setField (.ref e) 3 (rawInt ((i : Int) + 1))) (wpAny_setField_rec hea (by simp) fun b heb hsb => ?_)
  have heb : IsEnum b e it ((i : Int) + 1) old := heb
  refine wpAny_bind (m := setField (.ref e) 4 .none) (wpAny_setField_rec heb (by simp) fun c₁ hec hsc => ?_)
  have hec : IsEnum c₁ e it ((i : Int) + 1) old := hec
  have hsz : c₁.objs.size = h₀.objs.size := (hsc.1.trans hsb.1).trans hsa.1
  refine wpAny_bind (m := newTuple [.int i (tk + 1), .str ⟨#[c]⟩ tk]) (wpAny_newTuple ?_)
  have hT := Heap.get?_push_size c₁ (o := { cls := .type "tuple", data := .seq #[.int i (tk + 1), .str ⟨#[c]⟩ tk] }) rfl
  have hed : IsEnum (c₁.push { cls := .type "tuple", data := .seq #[.int i (tk + 1), .str ⟨#[c]⟩ tk] }) e it ((i : Int) + 1) old := Heap.get?_push_of_some _ hec
  have hup : ∀ q o, q ≠ e → q ≠ it → h₀.get? q = some o → (c₁.push { cls := .type "tuple", data := .seq #[.int i (tk + 1), .str ⟨#[c]⟩ tk] }).get? q = some o := fun q o n1 n2 hq => Heap.get?_push_of_some _ (hsc.extBut q o n1 (hsb.extBut q o n1 (hsa.extBut q o n2 hq)))
  have hid : (c₁.push { cls := .type "tuple", data := .seq #[.int i (tk + 1), .str ⟨#[c]⟩ tk] }).IsStrIter it "str_ascii_iterator" z tz (i + 1) := by
    obtain ⟨o, ho, r⟩ := hia
    exact ⟨o, Heap.get?_push_of_some _ (hsc.extBut _ _ (Ne.symm hne) (hsb.extBut _ _ (Ne.symm hne) ho)), r⟩
  have hzd : (c₁.push { cls := .type "tuple", data := .seq #[.int i (tk + 1), .str ⟨#[c]⟩ tk] }).objs.size = h₀.objs.size + 1 := by rw [Heap.size_push, hsz]
  rw [hsz] at hT
  show wpAny _ _ (Builtin.SmallTypes.ownedTupleIsFree (.ref e) >>= _) _ _ ⟨c₁.push { cls := .type "tuple", data := .seq #[.int i (tk + 1), .str ⟨#[c]⟩ tk] }, gs, dr, tk + 1 + 1, os⟩
  rw [hsz]
  generalize c₁.push { cls := .type "tuple", data := .seq #[.int i (tk + 1), .str ⟨#[c]⟩ tk] } = d at hT hed hup hid hzd
  clear hea heb hec hsa hsb hsc hsz hia
  refine wpAny_bind ?_
  unfold Builtin.SmallTypes.ownedTupleIsFree
  refine wpAny_bind (wpAny_field hed rfl (x := .none) rfl (wpAny_pure ?_))
  simp only [if_true]
  refine wpAny_bind (wpAny_rule (wpAny_bind (wpAny_field hed rfl (x := old) rfl (wpAny_bind (wpAny_setField_rec hed (by simp) fun d₁ he₁ hs₁ => ?_)))))
  refine wpAny_bind ?_
  unfold Builtin.SmallTypes.ownedTupleHandOut
  refine wpAny_bind (wpAny_setField_rec he₁ (by simp) fun d₂ he₂ hs₂ => wpAny_setField_rec he₂ (by simp) fun d₃ he₃ hs₃ => wpAny_bind (wpAny_letGo (wpAny_pure ⟨_, rfl, wpAny_pure ?_⟩)))
  have all : ∀ q o, q ≠ e → d.get? q = some o → d₃.get? q = some o := fun q o n1 hq => hs₃.extBut q o n1 (hs₂.extBut q o n1 (hs₁.extBut q o n1 hq))
  refine hQ d₃ he₃ ?_ (all _ _ (Nat.ne_of_gt hel) hT) ((hs₃.1.trans hs₂.1).trans (hs₁.1.trans hzd)) fun q o n1 n2 hq => all q o n1 (hup q o n1 n2 hq)
  obtain ⟨o, ho, r⟩ := hid
  exact ⟨o, all _ _ (Ne.symm hne) ho, r⟩
def EnumPost (g : Heap) (L : Addr) (own news : Led) (s : Shared) (R : Result → Shared → Prop) (J : (Str → Option Value) → Prop) : Flow → Shared → Prop := fun f s' =>
  ∃ h' tk' m', s' = { s with heap := h', toks := tk' } ∧ Fr g L h' m' ∧ News g L h' (own ++ news) ∧ (match f with
        | .ret v => R (.ok (.ret v)) s'
        | .brk => False
        | _ => J m')
theorem for_enum {w : World} {A : Around} {E : Value → Shared → Prop} {s : Shared} {g : Heap} {env : Env} {body els : List Stmt} {a b : Str} {pa pb tp : Pos} {kk : Nat} {z : Str} {tz : Tok} {h₅ : Heap} {m : Str → Option Value} {news : Led} {R : Result → Shared → Prop}
    (hh : A.handled = none) (hk : env.scope.kind = .function) (ha : env.kindOf a = some .local) (hb : env.kindOf b = some .local)
    (he : IsEnum h₅ (s.heap.objs.size + 1) s.heap.objs.size 0 .none) (hit : h₅.IsStrIter s.heap.objs.size (strIterType z) z tz 0) (hkp : ∀ b o, s.heap.get? b = some o → h₅.get? b = some o)
    (F : Fr g env.locals s.heap m) (N : News g env.locals s.heap news) (ht : 1 ≤ s.toks)
    (J : Nat → (Str → Option Value) → Prop) (h0 : J 0 m)
    (hz : z.cps.all (· < 128) = true)
    (turn : ∀ i c t u m₁ h tk own, z.cps[i]? = some c → J i m₁ → s.toks ≤ u → s.toks ≤ tk → Fr g env.locals h (up b (some (.str ⟨#[c]⟩ u)) (up a (some (.int i t)) m₁)) → News g env.locals h (own ++ news) →
      wpAny (model pw w) A (execs body env) (EnumPost g env.locals own news s R (J (i + 1))) (fun _ _ => False) { s with heap := h, toks := tk })
    (done : ∀ m₁, J z.cps.size m₁ → False) :
    wpAny (model pw w) A (pyIter (.ref (s.heap.objs.size + 1))) (fun it s₂ => codeAny (model pw w) A (.forLoop (.Tuple [.Name a pa, .Name b pb] kk tp) it body els env) R s₂) E { s with heap := h₅ } := by
  refine wpAny_pyIter_enum he ?_
  have hLs : env.locals < s.heap.objs.size := F.ns.lt
  have hab : g.objs.size ≤ env.locals := F.above
  have hit : h₅.IsStrIter s.heap.objs.size "str_ascii_iterator" z tz 0 := by simpa [strIterType, hz] using hit
  · have W := WalksT.enumerateD (prog := pw) (w := w) (Draws.strAscii (A := A.in1) hh s.heap.objs.size z tz) (s.heap.objs.size + 1) (Nat.succ_ne_self _) (fun hm => Nat.succ_ne_self _ (List.mem_singleton.mp hm)) (List.mem_singleton.mpr rfl)
    have lowL : ∀ b ∈ [s.heap.objs.size + 1, s.heap.objs.size], env.locals ≠ b := fun b hb => by
      simp only [List.mem_cons, List.not_mem_nil, or_false] at hb
      rcases hb with rfl | rfl <;> exact Nat.ne_of_lt (by first | exact hLs | exact Nat.lt_succ_of_lt hLs)
    have lowg : ∀ b ∈ [s.heap.objs.size + 1, s.heap.objs.size], g.get? b = none := fun b hb => Heap.get?_none_of_le (by
      simp only [List.mem_cons, List.not_mem_nil, or_false] at hb
      rcases hb with rfl | rfl
      · exact Nat.le_trans hab (Nat.le_of_lt (Nat.lt_succ_of_lt hLs))
      · exact Nat.le_trans hab (Nat.le_of_lt hLs))
    have lown : ∀ p ∈ news, p.1 ∉ [s.heap.objs.size + 1, s.heap.objs.size] := fun p hp hm => by
      have hq := Heap.lt_size (N p hp).1
      simp only [List.mem_cons, List.not_mem_nil, or_false] at hm
      rcases hm with e | e
      · exact absurd hq (by rw [e]; exact Nat.not_lt.mpr (Nat.le_succ _))
      · exact absurd hq (by rw [e]; exact Nat.lt_irrefl _)
    have keepg : ∀ (h h' : Heap), (∀ b o, b ∉ [s.heap.objs.size + 1, s.heap.objs.size] → h.get? b = some o → h'.get? b = some o) → ∀ m', Fr g env.locals h m' → News g env.locals h news → Fr g env.locals h' m' ∧ News g env.locals h' news := fun h h' hk m' F' N' =>
      ⟨⟨F'.ns.at' fun o e => hk _ o (fun hm => lowL _ hm rfl) e, fun b o e => hk b o (fun hm => by rw [lowg b hm] at e; cases e) (F'.keep b o e), F'.above⟩, fun p hp => ⟨hk _ _ (lown p hp) (N' p hp).1, (N' p hp).2⟩⟩
    refine codeAny_forLoop_any
      (fun k s' => ∃ h' tk m', ∃ i : Nat, s' = { s with heap := h', toks := tk } ∧ ((∃ old, IsEnum h' (s.heap.objs.size + 1) s.heap.objs.size i old) ∧ h'.IsStrIter s.heap.objs.size "str_ascii_iterator" z tz i) ∧ Fr g env.locals h' m' ∧ News g env.locals h' news ∧ J i m' ∧ s.toks ≤ tk ∧ i ≤ z.cps.size ∧ k = z.cps.size + 1 - i) ?_ (z.cps.size + 1)
      ⟨h₅, s.toks, m, 0, rfl, ⟨⟨_, he⟩, hit⟩, F.keeps hkp, fun p hp => ⟨hkp _ _ (N p hp).1, (N p hp).2⟩, h0, Nat.le_refl _, Nat.zero_le _, rfl⟩
    rintro k s' ⟨h', tk, m', i, rfl, hst', F', N', hJ, htk, hi, rfl⟩
    by_cases hlt : i < z.cps.size
    · obtain ⟨⟨old, he'⟩, hit'⟩ := hst'
      obtain ⟨c, hc⟩ : ∃ c, z.cps[i]? = some c := ⟨_, Array.getElem?_eq_getElem hlt⟩
      refine enum_sign he' hit' hc (Nat.succ_ne_self _) fun h₁ ho₁ hit₁ hT₁ hsz₁ hkk₁ => ?_
      have hk₁ : ∀ b o, b ∉ [s.heap.objs.size + 1, s.heap.objs.size] → h'.get? b = some o → h₁.get? b = some o := fun b o hb => hkk₁ b o (fun q => hb (by simp [q])) (fun q => hb (by simp [q]))
      have hne1 : h'.objs.size ≠ s.heap.objs.size + 1 := Nat.ne_of_gt (Heap.lt_size he')
      have hne2 : h'.objs.size ≠ s.heap.objs.size := Nat.ne_of_gt (by obtain ⟨_, q, _⟩ := hit'; exact Heap.lt_size q)
      obtain ⟨F₁, N₁⟩ := keepg _ _ hk₁ _ F' N'
      refine wpAny_with_toks (n := tk) (Nat.le_add_right tk 2) (W.go _ _ _ i _ _ _ _ ⟨⟨_, ho₁⟩, hit₁, hne1, hne2⟩ fun h₂ hst₂ hk₂ htk₂ => ?_)
      obtain ⟨F₂, N₂⟩ := keepg _ _ hk₂ _ F₁ N₁
      have hT₂ : h₂.IsTuple h'.objs.size #[.int i (tk + 1), .str ⟨#[c]⟩ tk] :=
        ⟨_, hk₂ _ _ (by simp [hne1, hne2]) hT₁, rfl, _, rfl⟩
      refine wpAny_with_toks (n := tk) htk₂ (kcp_assign hh hT₂ ha hb (by rw [hk]; rfl) F₂.ns fun h₃ tk₃ hn₃ hs₃ htk₃ => ?_)
      have F₃ : Fr g env.locals h₃ (up b (some (.str ⟨#[c]⟩ tk)) (up a (some (.int i (tk + 1))) m')) := ⟨hn₃, fun c o e => hs₃ c o (Nat.ne_of_lt (Nat.lt_of_lt_of_le (Heap.lt_size e) hab)) (F₂.keep c o e), hab⟩
      have N₃ : News g env.locals h₃ news := fun p hp => ⟨hs₃ _ _ (N₂ p hp).2.1 (N₂ p hp).1, (N₂ p hp).2⟩
      have hLf : env.locals ∉ [s.heap.objs.size + 1, s.heap.objs.size] := fun hm => lowL _ hm rfl
      have Nown : News g env.locals h₃ (ownOf g [s.heap.objs.size + 1, s.heap.objs.size] h₃) := news_ownOf hLf
      have hst₃ : (∃ old, IsEnum h₃ (s.heap.objs.size + 1) s.heap.objs.size ((i + 1 : Nat) : Int) old) ∧ h₃.IsStrIter s.heap.objs.size "str_ascii_iterator" z tz (i + 1) := W.frame _ _ _ hst₂ fun b hb o e => hs₃ b o (fun q => hLf (q ▸ hb)) e
      refine wpAny_with_toks (n := tk) htk₃ (wpAny_mono (turn i c _ tk m' h₃ tk₃ _ hc hJ htk (Nat.le_trans htk htk₃) F₃ (News.append Nown N₃)) (fun f s₃ h₃' htk₄ => ?_) fun _ _ e => e.elim)
      obtain ⟨h₄, tk₄, m₄, rfl, F₄, N₄, hf⟩ := h₃'
      have goon : J (i + 1) m₄ → ∃ m_1, m_1 < z.cps.size + 1 - i ∧ ∃ h' tk m', ∃ i : Nat, ({ s with heap := h₄, toks := tk₄ } : Shared) = { s with heap := h', toks := tk } ∧ ((∃ old, IsEnum h' (s.heap.objs.size + 1) s.heap.objs.size i old) ∧ h'.IsStrIter s.heap.objs.size "str_ascii_iterator" z tz i) ∧ Fr g env.locals h' m' ∧ News g env.locals h' news ∧ J i m' ∧ s.toks ≤ tk ∧ i ≤ z.cps.size ∧ m_1 = z.cps.size + 1 - i := by
        intro hJ₄
        refine ⟨z.cps.size + 1 - (i + 1), Nat.sub_lt_sub_left (Nat.lt_succ_of_lt hlt) (Nat.lt_succ_self i), h₄, tk₄, m₄, i + 1, rfl, ?_, F₄, fun p hp => N₄ p (List.mem_append_right _ hp), hJ₄, Nat.le_trans htk htk₄, hlt, rfl⟩
        refine W.frame _ _ _ hst₃ fun b hb o e => ?_
        exact (N₄ _ (List.mem_append_left _ (mem_ownOf hb (lowg b hb) e))).1
      cases f with
      | ret v => exact hf
      | brk => exact hf.elim
      | cont => exact goon hf
      | next => exact goon hf
    · have hin : i = z.cps.size := Nat.le_antisymm hi (Nat.le_of_not_lt hlt)
      subst hin
      exact (done _ hJ).elim
end Mine
end

section
open PySem PySem.W PySem.Calls PyProof.Rows
set_option Elab.async false
set_option maxRecDepth 100000
set_option maxHeartbeats 8000000
namespace Mine
theorem booked {w : World} {g h : Heap} {L : Addr} {m : Str → Option Value} {mean : ExcName → Option Value} {mg mb : Str → Option Value} (F : Fr g L h m) (X : (K w.params).In g) (T : Top vw (looseW vw loose) mean mg mb g) : NoneBooked h := by
  obtain ⟨mc, hn, _⟩ := T.nolimit
  exact ⟨mc, hn.keeps F.keep, ns_none_of X hn (by k_is)⟩
theorem is_created {M : Model} {A : Around} {E : Value → Shared → Prop} {s : Shared} {c : Bool} {u v : Tok} {Q : Bool → Shared → Prop}
    (hu : @Ne Nat u 0) (hv : @Ne Nat v 0) (hb : NoneBooked s.heap) (huv : @Eq Nat u v → c = true) (hq : ∀ r, (r = true → c = true) → Q r s) : wpAny M A (isSame.created c u v) Q E s := by
  unfold isSame.created
  refine wpAny_ite ?_
  have h0 : ¬ ((u == 0 || v == 0) = true) := by
    intro h
    rcases Bool.or_eq_true_iff.mp h with h | h
    · exact hu (beq_iff_eq.mp h)
    · exact hv (beq_iff_eq.mp h)
  rw [if_neg h0]
  refine wpAny_ite ?_
  split
  · rename_i h
    exact wpAny_pure (hq _ fun _ => huv (beq_iff_eq.mp h))
  refine wpAny_ite ?_
  split
  · exact wpAny_pure (hq _ fun h => nomatch h)
  rename_i hc
  have hc : c = true := by simpa using hc
  refine wpAny_bind (wpAny_sharingNotTold_none hb ?_)
  rw [if_neg Bool.false_ne_true]
  refine wpAny_bind (wpAny_sharingNotTold_none hb ?_)
  rw [if_neg Bool.false_ne_true]
  exact wpAny_bind (wpAny_rule (wpAny_bind (wpAny_askSetting (wpAny_pure (hq _ fun _ => hc)))))
theorem is_int {M : Model} {A : Around} {E : Value → Shared → Prop} {s : Shared} {a b : Int} {u v : Tok} {Q : Value → Shared → Prop}
    (hu : @Ne Nat u 0) (hv : @Ne Nat v 0) (hb : NoneBooked s.heap) (huv : @Eq Nat u v → a = b) (hq : ∀ r : Bool, (r = true → a = b) → Q (.bool r) s) : wpAny M A (compareOp .Is (.int a u) (.int b v)) Q E s := by
  show wpAny M A (do return .bool (← isSame (.int a u) (.int b v))) Q E s
  refine wpAny_bind ?_
  show wpAny M A (if a == b && smallInt a then isSame.cachedInt u v else isSame.created (a == b) u v) _ E s
  refine wpAny_ite ?_
  split
  · rename_i h
    unfold isSame.cachedInt
    refine wpAny_ite ?_
    have h0 : ¬ ((u == 0 || v == 0) = true) := by
      intro h
      rcases Bool.or_eq_true_iff.mp h with h | h
      · exact hu (beq_iff_eq.mp h)
      · exact hv (beq_iff_eq.mp h)
    rw [if_neg h0]
    exact wpAny_bind (wpAny_rule (wpAny_pure (wpAny_pure (hq _ fun _ => by simpa using (Bool.and_eq_true_iff.mp h).1))))
  · exact is_created hu hv hb (fun e => by simpa using huv e) fun r hr => wpAny_pure (hq r fun e => by simpa using hr e)
theorem is_str {M : Model} {A : Around} {E : Value → Shared → Prop} {s : Shared} {a b : Str} {u v : Tok} {Q : Value → Shared → Prop}
    (hu : @Ne Nat u 0) (hv : @Ne Nat v 0) (hb : NoneBooked s.heap) (huv : @Eq Nat u v → a = b) (hq : ∀ r : Bool, (r = true → a = b) → Q (.bool r) s) : wpAny M A (compareOp .Is (.str a u) (.str b v)) Q E s := by
  show wpAny M A (do return .bool (← isSame (.str a u) (.str b v))) Q E s
  refine wpAny_bind ?_
  show wpAny M A (isSame.created (a == b) u v) _ E s
  exact is_created hu hv hb (fun e => by simpa using huv e) fun r hr => wpAny_pure (hq r fun e => by simpa using hr e)
end Mine
end

section
open PySem PySem.W PyProof.Rows
set_option Elab.async false
set_option maxRecDepth 100000
set_option maxHeartbeats 8000000
namespace Mine
theorem len_app (x y : Str) : (x ++ y).length = x.length + y.length := by rw [len_ls, len_ls, len_ls, ls_append, List.length_append]
theorem len_tx (l : List Nat) : (tx l).length = l.length := rfl
theorem foldl_app (c : Array Nat) : ∀ (k : Nat) (acc : Array Nat), ((List.replicate k c).foldl (· ++ ·) acc).toList = acc.toList ++ (List.replicate k c.toList).flatten
  | 0, acc => by simp
  | k + 1, acc => by
    rw [List.replicate_succ, List.foldl_cons, foldl_app c k, Array.toList_append, List.replicate_succ, List.flatten_cons, List.append_assoc]
theorem ls_mul (x : Str) (n : Nat) : ls (Txt.mul x (n : Int)) = (List.replicate n (ls x)).flatten := by
  unfold Txt.mul
  cases n with
  | zero => rfl
  | succ n =>
    rw [if_neg (show ¬((n + 1 : Nat) : Int) < 1 from Int.not_lt.mpr (Int.ofNat_le.mpr (Nat.succ_le_succ (Nat.zero_le n))))]
    split
    · rename_i h
      rcases Bool.or_eq_true_iff.mp h with h | h
      · have : n = 0 := Nat.succ.inj (Int.ofNat.inj (beq_iff_eq.mp h : Int.ofNat (n + 1) = Int.ofNat 1))
        subst this; simp
      · have : ls x = [] := List.eq_nil_of_length_eq_zero (by rw [← len_ls]; exact beq_iff_eq.mp h)
        rw [this]; simp
    · rw [Int.toNat_natCast]
      show ((List.replicate (n + 1) x.cps).foldl (· ++ ·) #[]).toList = _
      rw [foldl_app]; rfl
theorem flat_len {α : Type} (n : Nat) (l : List α) : (List.replicate n l).flatten.length = n * l.length := by
  induction n with
  | zero => simp
  | succ n ih => rw [List.replicate_succ, List.flatten_cons, List.length_append, ih, Nat.succ_mul, Nat.add_comm]
theorem len_mulN (x : Str) (n : Nat) : (Txt.mul x (n : Int)).length = n * x.length := by rw [len_ls, ls_mul, flat_len, len_ls]
section
variable {w : World} {A : Around} {E : Value → Shared → Prop} {s : Shared} {Q : Value → Shared → Prop}
theorem add_ls {x y : Str} {t u : Tok} (h : x.length + y.length ≤ 1000000) (hq : ∀ t' k, s.toks ≤ k → Q (.str (x ++ y) t') { s with toks := k }) :
    wpAny (model pw w) A (binaryOp .Add (.str x t) (.str y u)) Q E s :=
  wpAny_with_toks (n := s.toks) (Nat.le_refl _) (SB.add (fun t' k hk => hq t' k hk) (by unfold sizeLine; (with_reducible exact o_le (by assumption) (by decide))))
theorem mul_ls {x : Str} {n : Int} {N : Nat} {t u : Tok} (hn : n = (N : Int)) (h1 : x.length ≤ 1000) (h2 : N ≤ 1000) (hq : ∀ t' k, s.toks ≤ k → Q (.str (Txt.mul x (N : Int)) t') { s with toks := k }) :
    wpAny (model pw w) A (binaryOp .Mult (.str x t) (.int n u)) Q E s := by
  subst hn
  refine wpAny_with_toks (n := s.toks) (Nat.le_refl _) (SB.mul ⟨?_, ?_, ?_⟩ fun t' k hk => hq t' k hk)
  · simp only [Bool.or_eq_false_iff, decide_eq_false_iff_not]; exact ⟨Int.not_lt.mpr (Int.le_trans (by decide) (Int.natCast_nonneg N)), Int.not_le.mpr (Int.lt_of_le_of_lt (Int.ofNat_le.mpr h2) (by decide))⟩
  · intro h0 _ h3
    have : ((2 : Int) ^ 63 - 1) / (N : Int) ≥ 9223372036854775 := by
      have hN : (0 : Int) < N := Int.lt_of_lt_of_le (by decide) (Int.not_lt.mp h0)
      exact (Int.le_ediv_iff_mul_le hN).mpr (Int.le_trans (Int.mul_le_mul_of_nonneg_left (Int.ofNat_le.mpr h2) (by decide)) (by decide))
    exact absurd (Int.lt_of_le_of_lt this h3) (Int.not_lt.mpr (Int.le_trans (Int.ofNat_le.mpr h1) (by decide)))
  · intro _ _
    rw [Int.toNat_natCast]
    have : x.length * N ≤ 1000 * 1000 := Nat.mul_le_mul h1 h2
    unfold PySem.Builtin.Str.tooLong sizeLine
    simp only [gt_iff_lt, decide_eq_false_iff_not]; exact Nat.not_lt.mpr (Nat.le_trans this (by decide))
end
end Mine
end

section
open PySem PySem.W PyProof.Rows
set_option Elab.async false
set_option maxRecDepth 100000
set_option maxHeartbeats 4000000
namespace Mine
def nestStep (hs : Nat → Str) (ds : List Int) (T : List Str) (k : Nat) : List Str :=
  (T.set ((ds.getD k 0).toNat + 1) Str.empty).set (ds.getD k 0).toNat ((hs k ++ escS 7 (T.getD ((ds.getD k 0).toNat + 1) Str.empty)) ++ (T.set ((ds.getD k 0).toNat + 1) Str.empty).getD (ds.getD k 0).toNat Str.empty)
def nestN (hs : Nat → Str) (ds : List Int) : Nat → List Str
  | 0 => [Str.empty, Str.empty, Str.empty, Str.empty, Str.empty]
  | i + 1 => nestStep hs ds (nestN hs ds i) (6 - i)
def nestF (hs : Nat → Str) (ds : List Int) : Str := (nestN hs ds 7).getD 0 Str.empty
def phi (T : List Str) : Nat := (T.getD 0 Str.empty).length + 6 * (T.getD 1 Str.empty).length + 36 * (T.getD 2 Str.empty).length + 216 * (T.getD 3 Str.empty).length + 1296 * (T.getD 4 Str.empty).length
theorem ns_w {A B s : Nat} (h : A ≤ B + 864) : A + s ≤ B + s + 864 := Nat.le_trans (Nat.add_le_add_right h s) (Nat.le_of_eq (Nat.add_right_comm B 864 s))
theorem ns_y {y a z : Nat} (h : y ≤ z + 864) : y + a ≤ a + z + 864 := by rw [Nat.add_comm, Nat.add_assoc]; exact Nat.add_le_add_left h a
theorem ns_a {x a b : Nat} (h : x ≤ 6 * b) : 4 + x + a ≤ a + 6 * b + 864 := ns_y (Nat.le_trans (Nat.le_of_eq (Nat.add_comm 4 x)) (Nat.add_le_add h (by decide)))
theorem ns_p (w : Nat) {p b c x : Nat} (h : x ≤ 6 * c) (hw : w * 4 ≤ 864) : p + w * (4 + x + b) ≤ p + w * b + w * 6 * c + 864 := by
  have q : w * (4 + x) ≤ w * 6 * c + 864 := by
    rw [Nat.mul_add, Nat.add_comm, Nat.mul_assoc]
    exact Nat.add_le_add (Nat.mul_le_mul_left w h) hw
  rw [Nat.mul_add w (4 + x) b]
  exact Nat.le_trans (Nat.add_le_add_left (ns_y q) p) (Nat.le_of_eq (by rw [← Nat.add_assoc, ← Nat.add_assoc]))
theorem pg {w x : Nat} (hw : 6 ≤ w) (h : w * x ≤ 6048) : x ≤ 6048 ∧ (1 ≤ 1 → x ≤ 1008) := by
  have q : x ≤ 1008 := Nat.le_of_mul_le_mul_left (Nat.le_trans (Nat.mul_le_mul_right x hw) h : 6 * x ≤ 6 * 1008) (by decide)
  exact ⟨Nat.le_trans q (by decide), fun _ => q⟩
theorem nest_step_ok (hs : Nat → Str) (ds : List Int) (T : List Str) (k : Nat) (hl : T.length = 5) (hh : (hs k).length = 4) (h0 : 0 ≤ ds.getD k 0) (h3 : ds.getD k 0 ≤ 3) :
    (nestStep hs ds T k).length = 5 ∧ phi (nestStep hs ds T k) ≤ phi T + 864 := by
  refine ⟨by unfold nestStep; rw [List.length_set, List.length_set, hl], ?_⟩
  unfold nestStep
  obtain ⟨d, hd⟩ : ∃ d : Nat, (ds.getD k 0).toNat = d := ⟨_, rfl⟩
  have hd3 : d ≤ 3 := hd ▸ Int.toNat_le.mpr h3
  rw [hd]
  match T, hl with
  | [a, b, c, e, f], _ =>
    have hE : Str.empty.length = 0 := rfl
    have esc : ∀ x : Str, (escS 7 x).length ≤ 6 * x.length := fun x => escS_len (by decide) x
    match d, hd3 with
    | 0, _ => simp [phi, len_app, hh, hE]; exact ns_w (ns_w (ns_w (ns_a (esc b))))
    | 1, _ => simp [phi, len_app, hh, hE]; exact ns_w (ns_w (ns_p 6 (esc c) (by decide)))
    | 2, _ => simp [phi, len_app, hh, hE]; exact ns_w (ns_p 36 (esc e) (by decide))
    | 3, _ => simp [phi, len_app, hh, hE]; exact ns_p 216 (esc f) (by decide)
theorem nest_ok (hs : Nat → Str) (ds : List Int) (hh : ∀ k, k < 7 → (hs k).length = 4) (hd : ∀ k, k < 7 → 0 ≤ ds.getD k 0 ∧ ds.getD k 0 ≤ 3) : ∀ i, i ≤ 7 → (nestN hs ds i).length = 5 ∧ phi (nestN hs ds i) ≤ 864 * i
  | 0, _ => ⟨rfl, Nat.le_refl _⟩
  | i + 1, h => by
    obtain ⟨a, b⟩ := nest_ok hs ds hh hd i (by (with_reducible exact Nat.le_of_succ_le (by assumption)))
    have h7 : 6 - i < 7 := Nat.lt_of_le_of_lt (Nat.sub_le 6 i) (by decide)
    obtain ⟨c, e⟩ := nest_step_ok hs ds (nestN hs ds i) (6 - i) a (hh _ h7) (hd _ h7).1 (hd _ h7).2
    exact ⟨c, Nat.le_trans e (Nat.add_le_add_right b 864)⟩
theorem phi_get (T : List Str) (j : Nat) (hj : j ≤ 4) (hp : phi T ≤ 6048) : (T.getD j Str.empty).length ≤ 6048 ∧ (1 ≤ j → (T.getD j Str.empty).length ≤ 1008) := by
  unfold phi at hp
  match j, hj with
  | 0, _ => exact ⟨Nat.le_of_add_right_le (Nat.le_of_add_right_le (Nat.le_of_add_right_le (Nat.le_of_add_right_le hp))), fun h => absurd h (by decide)⟩
  | 1, _ => exact pg (by decide) (Nat.le_trans (Nat.le_add_left _ _) (Nat.le_of_add_right_le (Nat.le_of_add_right_le (Nat.le_of_add_right_le hp))))
  | 2, _ => exact ((pg (by decide) (Nat.le_trans (Nat.le_add_left _ _) (Nat.le_of_add_right_le (Nat.le_of_add_right_le hp))))).imp_right fun h _ => h (by decide)
  | 3, _ => exact ((pg (by decide) (Nat.le_trans (Nat.le_add_left _ _) (Nat.le_of_add_right_le hp)))).imp_right fun h _ => h (by decide)
  | 4, _ => exact ((pg (by decide) (Nat.le_trans (Nat.le_add_left _ _) hp))).imp_right fun h _ => h (by decide)
theorem strs_set : ∀ {vs : List Value} {zs : List Str}, StrsAre vs zs → ∀ (i : Nat) (z : Str) (t : Tok), StrsAre (vs.set i (.str z t)) (zs.set i z)
  | _, _, .nil, _, _, _ => .nil
  | _, _, .cons _ _ h, 0, _, _ => .cons _ _ h
  | _, _, .cons _ _ h, i + 1, z, t => .cons _ _ (strs_set h i z t)
theorem strs_len : ∀ {vs : List Value} {zs : List Str}, StrsAre vs zs → vs.length = zs.length
  | _, _, .nil => rfl
  | _, _, .cons _ _ h => congrArg (· + 1) (strs_len h)
theorem strs_of : ∀ {ys : List Value} {n : Nat} (f : Nat → Str), ys.length = n → (∀ i, i < n → ∃ t, ys[i]? = some (.str (f i) t)) → StrsAre ys ((List.range n).map f)
  | [], n, f, hl, _ => by
    obtain rfl : n = 0 := by simpa using hl.symm
    exact .nil
  | v :: r, n, f, hl, h => by
    obtain ⟨n, rfl⟩ : ∃ k, n = k + 1 := ⟨r.length, by simpa using hl.symm⟩
    obtain ⟨t, e⟩ := h 0 (Nat.succ_pos n)
    obtain rfl : v = .str (f 0) t := by simpa using e
    rw [List.range_succ_eq_map, List.map_cons, List.map_map]
    exact .cons _ _ (strs_of (fun i => f (i + 1)) (by simpa using hl) fun i hi => by
      obtain ⟨t, e⟩ := h (i + 1) (Nat.succ_lt_succ hi)
      exact ⟨t, by simpa using e⟩)
end Mine
end

section
open PySem PySem.W PyProof.Rows
set_option Elab.async false
set_option maxRecDepth 100000
set_option maxHeartbeats 4000000
namespace Mine
abbrev refKvs (t1 t2 t3 t4 t5 t6 t7 : Tok) : List (Str × Value) := [("&", .str "amp;" t1), ("<", .str "lt;" t2), (">", .str "gt;" t3), ("\"", .str "quot;" t4), ("\r", .str "#13;" t5), ("\n", .str "#10;" t6), ("\t", .str "#09;" t7)]
/-- the table of references: what stands behind the sign & -/
def refL (c : Nat) : List Nat := if c = 38 then [97, 109, 112, 59] else if c = 60 then [108, 116, 59] else if c = 62 then [103, 116, 59] else if c = 34 then [113, 117, 111, 116, 59] else if c = 13 then [35, 49, 51, 59] else if c = 10 then [35, 49, 48, 59] else if c = 9 then [35, 48, 57, 59] else []
def isRef (c : Nat) : Bool := c == 38 || c == 60 || c == 62 || c == 34 || c == 13 || c == 10 || c == 9
theorem isRef_cases {c : Nat} (h : isRef c = true) : c = 38 ∨ c = 60 ∨ c = 62 ∨ c = 34 ∨ c = 13 ∨ c = 10 ∨ c = 9 := by
  unfold isRef at h
  simp only [Bool.or_eq_true, beq_iff_eq] at h
  rcases h with (((((h | h) | h) | h) | h) | h) | h <;> simp [h]
theorem isRef_not {c : Nat} (h : isRef c = false) : c ≠ 38 ∧ c ≠ 60 ∧ c ≠ 62 ∧ c ≠ 34 ∧ c ≠ 13 ∧ c ≠ 10 ∧ c ≠ 9 := by
  unfold isRef at h
  simp only [Bool.or_eq_false_iff, beq_eq_false_iff_ne] at h
  obtain ⟨⟨⟨⟨⟨⟨a, b⟩, c⟩, d⟩, e⟩, f⟩, g⟩ := h
  exact ⟨a, b, c, d, e, f, g⟩
theorem refL_len (c : Nat) : (refL c).length ≤ 5 := by
  unfold refL
  repeat' split
  all_goals decide
theorem lit_ne {l : Str} {n c : Nat} (hl : l = ⟨#[n]⟩) (h : c ≠ n) : ¬ l = ⟨#[c]⟩ := fun e => h (by rw [hl] at e; simpa using e.symm)
theorem ref_val {c : Nat} (t1 t2 t3 t4 t5 t6 t7 : Tok) (h : isRef c = true) : ∃ t, valueAt (refKvs t1 t2 t3 t4 t5 t6 t7) (⟨#[c]⟩ : Str) = some (.str (tx (refL c)) t) := by
  rcases isRef_cases h with rfl | rfl | rfl | rfl | rfl | rfl | rfl
  · exact ⟨t1, rfl⟩
  · exact ⟨t2, rfl⟩
  · exact ⟨t3, rfl⟩
  · exact ⟨t4, rfl⟩
  · exact ⟨t5, rfl⟩
  · exact ⟨t6, rfl⟩
  · exact ⟨t7, rfl⟩
theorem ref_none {c : Nat} (t1 t2 t3 t4 t5 t6 t7 : Tok) (h : isRef c = false) : valueAt (refKvs t1 t2 t3 t4 t5 t6 t7) (⟨#[c]⟩ : Str) = none := by
  obtain ⟨h1, h2, h3, h4, h5, h6, h7⟩ := isRef_not h
  have e1 := lit_ne (l := ("&" : Str)) (n := 38) (by decide) h1
  have e2 := lit_ne (l := ("<" : Str)) (n := 60) (by decide) h2
  have e3 := lit_ne (l := (">" : Str)) (n := 62) (by decide) h3
  have e4 := lit_ne (l := ("\"" : Str)) (n := 34) (by decide) h4
  have e5 := lit_ne (l := ("\r" : Str)) (n := 13) (by decide) h5
  have e6 := lit_ne (l := ("\n" : Str)) (n := 10) (by decide) h6
  have e7 := lit_ne (l := ("\t" : Str)) (n := 9) (by decide) h7
  simp [valueAt, refKvs, List.find?, e1, e2, e3, e4, e5, e6, e7]
def toldSign (d c : Nat) : List Nat := if 0 < d ∧ isRef c = true then 38 :: ((List.replicate (d - 1) [97, 109, 112, 59]).flatten ++ refL c) else [c]
def toldRow (hs : Nat → Str) (ds : List Int) (k : Nat) : List Nat := (ls (hs k)).flatMap (toldSign (ds.getD k 0).toNat)
def toldF (hs : Nat → Str) (ds : List Int) : Str := tx ((List.range 7).flatMap (toldRow hs ds))
theorem toldSign_len {d c : Nat} (h : d ≤ 3) : (toldSign d c).length ≤ 14 := by
  unfold toldSign
  split
  · rw [List.length_cons, List.length_append, flat_len]
    have := refL_len c
    simp only [List.length_cons, List.length_nil]
    exact Nat.succ_le_succ (Nat.add_le_add (Nat.mul_le_mul_right 4 (Nat.sub_le_sub_right h 1)) this)
  · simp
theorem flatMap_len {f : Nat → List Nat} {n : Nat} (h : ∀ c, (f c).length ≤ n) : ∀ l : List Nat, (l.flatMap f).length ≤ n * l.length
  | [] => Nat.le_refl _
  | c :: r => by
    rw [List.flatMap_cons, List.length_append, List.length_cons, Nat.mul_succ]
    exact Nat.le_trans (Nat.add_le_add (h c) (flatMap_len h r)) (Nat.le_of_eq (Nat.add_comm _ _))
theorem toldRow_len {hs : Nat → Str} {ds : List Int} {k : Nat} (hh : (hs k).length = 4) (h3 : ds.getD k 0 ≤ 3) (j : Nat) : (((ls (hs k)).take j).flatMap (toldSign (ds.getD k 0).toNat)).length ≤ 56 := by
  have := flatMap_len (f := toldSign (ds.getD k 0).toNat) (n := 14) (fun c => toldSign_len (Int.toNat_le.mpr h3)) ((ls (hs k)).take j)
  have h4 : ((ls (hs k)).take j).length ≤ 4 := by rw [List.length_take, ← len_ls, hh]; exact Nat.min_le_right _ _
  exact Nat.le_trans this (Nat.mul_le_mul_left 14 h4)
theorem toldRows_len {hs : Nat → Str} {ds : List Int} (hh : ∀ k, k < 7 → (hs k).length = 4) (h3 : ∀ k, k < 7 → ds.getD k 0 ≤ 3) : ∀ i, i ≤ 7 → ((List.range i).flatMap (toldRow hs ds)).length ≤ 56 * i
  | 0, _ => Nat.le_refl _
  | i + 1, h => by
    rw [List.range_succ, List.flatMap_append, List.length_append]
    have := toldRows_len hh h3 i (by (with_reducible exact Nat.le_of_succ_le (by assumption)))
    have h2 := toldRow_len (hs := hs) (ds := ds) (hh i (by (with_reducible (refine o_lts ?_; ((iterate 7 (try (first | assumption | exact Nat.le_refl _ | refine Nat.le_trans (by assumption) ?_ | refine o_s1 (by assumption) ?_ | refine o_s2 (by assumption) ?_ | refine o_s3 (by assumption) ?_ | refine o_s4 (by assumption) ?_ | refine Nat.le_succ_of_le ?_))); done))))) (h3 i (by (with_reducible (refine o_lts ?_; ((iterate 7 (try (first | assumption | exact Nat.le_refl _ | refine Nat.le_trans (by assumption) ?_ | refine o_s1 (by assumption) ?_ | refine o_s2 (by assumption) ?_ | refine o_s3 (by assumption) ?_ | refine o_s4 (by assumption) ?_ | refine Nat.le_succ_of_le ?_))); done))))) 4
    rw [List.take_of_length_le (by rw [← len_ls, hh i (by (with_reducible (refine o_lts ?_; ((iterate 7 (try (first | assumption | exact Nat.le_refl _ | refine Nat.le_trans (by assumption) ?_ | refine o_s1 (by assumption) ?_ | refine o_s2 (by assumption) ?_ | refine o_s3 (by assumption) ?_ | refine o_s4 (by assumption) ?_ | refine Nat.le_succ_of_le ?_))); done))))]; exact Nat.le_refl _)] at h2
    simp only [List.flatMap_cons, List.flatMap_nil, List.append_nil]
    exact Nat.add_le_add this h2
end Mine
end

section
open PySem PySem.W PyProof.Rows PySem.Builtin.Str
set_option Elab.async false
set_option maxRecDepth 100000
set_option maxHeartbeats 4000000
namespace Mine
/-- a text cut at its references -/
def cutR : List Nat → List Nat × List (Nat × List Nat)
  | [] => ([], [])
  | c :: r => if isRef c then ([], (c, (cutR r).1) :: (cutR r).2) else (c :: (cutR r).1, (cutR r).2)
def gluR (q : List (Nat × List Nat)) : List Nat := q.flatMap fun e => e.1 :: e.2
def gluE (q : List (Nat × List Nat)) : List Nat := q.flatMap fun e => 38 :: (refL e.1 ++ e.2)
theorem cut_glu : ∀ l, (cutR l).1 ++ gluR (cutR l).2 = l
  | [] => rfl
  | c :: r => by
    have ih := cut_glu r
    unfold cutR
    split
    · show [] ++ ((c :: (cutR r).1) ++ gluR (cutR r).2) = _
      rw [List.nil_append, List.cons_append, ih]
    · show (c :: (cutR r).1) ++ gluR (cutR r).2 = _
      rw [List.cons_append, ih]
theorem escC_ref {c : Nat} (h : isRef c = true) : escC 7 c = 38 :: refL c := by
  rcases isRef_cases h with rfl | rfl | rfl | rfl | rfl | rfl | rfl <;> decide
theorem escC_free {c : Nat} (h : isRef c = false) : escC 7 c = [c] := by
  obtain ⟨h1, h2, h3, h4, h5, h6, h7⟩ := isRef_not h
  exact escC_other 7 c ⟨h1, h2, h3, h4, h5, h6, h7⟩
theorem cut_esc : ∀ l, (cutR l).1 ++ gluE (cutR l).2 = escL 7 l
  | [] => rfl
  | c :: r => by
    have ih := cut_esc r
    unfold cutR
    show _ = escC 7 c ++ escL 7 r
    split
    · rename_i h
      show [] ++ ((38 :: (refL c ++ (cutR r).1)) ++ gluE (cutR r).2) = _
      rw [escC_ref h, ← ih]; simp
    · rename_i h
      show (c :: (cutR r).1) ++ gluE (cutR r).2 = _
      rw [escC_free (by simpa using h), ← ih]; rfl
theorem cut_free : ∀ l, (∀ c ∈ (cutR l).1, isRef c = false) ∧ ∀ e ∈ (cutR l).2, isRef e.1 = true ∧ ∀ c ∈ e.2, isRef c = false
  | [] => ⟨fun _ h => (nomatch h), fun _ h => (nomatch h)⟩
  | c :: r => by
    obtain ⟨a, b⟩ := cut_free r
    unfold cutR
    split
    · rename_i h
      exact ⟨fun _ h => (nomatch h), fun e he => by
        rcases List.mem_cons.mp he with rfl | he
        · exact ⟨h, a⟩
        · exact b e he⟩
    · rename_i h
      exact ⟨fun k hk => by
        rcases List.mem_cons.mp hk with rfl | hk
        · simpa using h
        · exact a k hk, b⟩
theorem app_inj {c : Nat} : ∀ {p q A B : List Nat}, c ∉ p → c ∉ q → p ++ c :: A = q ++ c :: B → p = q ∧ A = B
  | [], [], _, _, _, _, h => ⟨rfl, by simpa using h⟩
  | [], b :: q, _, _, _, hq, h => by
    rw [List.nil_append, List.cons_append, List.cons.injEq] at h
    exact absurd (h.1 ▸ List.mem_cons_self ..) hq
  | a :: p, [], _, _, hp, _, h => by
    rw [List.nil_append, List.cons_append, List.cons.injEq] at h
    exact absurd (h.1 ▸ List.mem_cons_self ..) hp
  | a :: p, b :: q, _, _, hp, hq, h => by
    rw [List.cons_append, List.cons_append, List.cons.injEq] at h
    obtain ⟨r, s⟩ := app_inj (fun m => hp (List.mem_cons_of_mem _ m)) (fun m => hq (List.mem_cons_of_mem _ m)) h.2
    exact ⟨by rw [h.1, r], s⟩
theorem join_cons (c : Nat) (p q : Str) (r : List Str) : ls (Str.join ⟨#[c]⟩ (p :: q :: r)) = ls p ++ c :: ls (Str.join ⟨#[c]⟩ (q :: r)) := by
  show ls (p ++ ⟨#[c]⟩ ++ Str.join ⟨#[c]⟩ (q :: r)) = _
  rw [ls_append, ls_append]
  show (ls p ++ [c]) ++ _ = _
  simp
theorem join_inj (c : Nat) : ∀ (a b : List Str), a ≠ [] → b ≠ [] → (∀ p ∈ a, c ∉ ls p) → (∀ p ∈ b, c ∉ ls p) → ls (Str.join ⟨#[c]⟩ a) = ls (Str.join ⟨#[c]⟩ b) → a = b
  | [], _, h, _, _, _, _ => absurd rfl h
  | _, [], _, h, _, _, _ => absurd rfl h
  | [p], [q], _, _, _, _, h => by rw [ext_ls (show ls p = ls q from h)]
  | [p], q :: q2 :: r, _, _, hp, _, h => by
    rw [join_cons] at h
    have h : ls p = _ := h
    exact absurd (h ▸ List.mem_append_right _ (List.mem_cons_self ..)) (hp p (List.mem_singleton.mpr rfl))
  | p :: p2 :: r, [q], _, _, _, hq, h => by
    rw [join_cons] at h
    have h : _ = ls q := h
    exact absurd (h ▸ List.mem_append_right _ (List.mem_cons_self ..)) (hq q (List.mem_singleton.mpr rfl))
  | p :: p2 :: r, q :: q2 :: r2, _, _, hp, hq, h => by
    rw [join_cons, join_cons] at h
    obtain ⟨e1, e2⟩ := app_inj (hp p (List.mem_cons_self ..)) (hq q (List.mem_cons_self ..)) h
    rw [ext_ls e1, join_inj c (p2 :: r) (q2 :: r2) (by simp) (by simp) (fun z hz => hp z (List.mem_cons_of_mem _ hz)) (fun z hz => hq z (List.mem_cons_of_mem _ hz)) e2]
def partsE (p : List Nat) (q : List (Nat × List Nat)) : List Str := tx p :: q.map fun e => tx (refL e.1 ++ e.2)
theorem join_parts : ∀ (p : List Nat) (q : List (Nat × List Nat)), ls (Str.join ⟨#[38]⟩ (partsE p q)) = p ++ gluE q
  | p, [] => by simp [partsE, gluE, Str.join]
  | p, e :: q => by
    have ih := join_parts (refL e.1 ++ e.2) q
    unfold partsE at ih ⊢
    rw [List.map_cons, join_cons, ih]
    simp [gluE]
theorem refL_free (c : Nat) : 38 ∉ refL c := by
  unfold refL
  repeat' split
  all_goals decide
theorem split_esc (l : List Nat) : Txt.split (tx (escL 7 l)) ⟨#[38]⟩ = partsE (cutR l).1 (cutR l).2 := by
  have h2 := StrLaws.split_free (tx (escL 7 l)) 38
  have h1 : Str.join ⟨#[38]⟩ (Txt.split (tx (escL 7 l)) ⟨#[38]⟩) = tx (escL 7 l) := StrLaws.join_split _ _
  obtain ⟨f1, f2⟩ := cut_free l
  have n38 : ∀ c, isRef c = false → c ≠ 38 := fun c h => (isRef_not h).1
  refine join_inj 38 _ _ ?_ (by simp [partsE]) h2 ?_ ?_
  · intro e
    unfold Txt.split at e
    split at e
    · cases e
    · split at e
      · cases e
      · have := congrArg List.length e
        rw [length_partsBetween] at this
        cases this
  · intro p hp
    unfold partsE at hp
    rcases List.mem_cons.mp hp with rfl | hp
    · exact fun m => n38 _ (f1 _ m) rfl
    · obtain ⟨e, he, rfl⟩ := List.mem_map.mp hp
      obtain ⟨g1, g2⟩ := f2 e he
      intro m
      rcases List.mem_append.mp m with m | m
      · exact refL_free _ m
      · exact n38 _ (g2 _ m) rfl
  · rw [h1, join_parts, cut_esc]
def nmR (c : Nat) : List Nat := (refL c).dropLast
theorem refL_nm {c : Nat} (h : isRef c = true) : refL c = nmR c ++ [59] := by
  rcases isRef_cases h with rfl | rfl | rfl | rfl | rfl | rfl | rfl <;> decide
theorem nmR_free (c : Nat) : 59 ∉ nmR c := by
  unfold nmR refL
  repeat' split
  all_goals decide
theorem at_one {l : List Nat} {i c : Nat} : StrLaws.At (tx l) ⟨#[c]⟩ (tx l).length i ↔ l[i]? = some c := by
  unfold StrLaws.At
  rw [StrLaws.subAt_eq]
  show i + 1 ≤ l.length ∧ ((l.drop i).take 1 == [c]) = true ↔ _
  rw [beq_iff_eq]
  constructor
  · rintro ⟨h1, h2⟩
    rw [List.getElem?_eq_getElem (by (with_reducible (refine o_lts ?_; ((iterate 7 (try (first | assumption | exact Nat.le_refl _ | refine Nat.le_trans (by assumption) ?_ | refine o_s1 (by assumption) ?_ | refine o_s2 (by assumption) ?_ | refine o_s3 (by assumption) ?_ | refine o_s4 (by assumption) ?_ | refine Nat.le_succ_of_le ?_))); done))))]
    rw [List.drop_eq_getElem_cons (by (with_reducible (refine o_lts ?_; ((iterate 7 (try (first | assumption | exact Nat.le_refl _ | refine Nat.le_trans (by assumption) ?_ | refine o_s1 (by assumption) ?_ | refine o_s2 (by assumption) ?_ | refine o_s3 (by assumption) ?_ | refine o_s4 (by assumption) ?_ | refine Nat.le_succ_of_le ?_))); done)))), List.take_succ_cons, List.take_zero] at h2
    simpa using h2
  · intro h
    have h1 := (List.getElem?_eq_some_iff.mp h).1
    refine ⟨h1, ?_⟩
    rw [List.drop_eq_getElem_cons h1, List.take_succ_cons, List.take_zero]
    rw [List.getElem?_eq_getElem h1] at h
    simpa using h
theorem split_semi {nm p : List Nat} (h : 59 ∉ nm) : Txt.splitMax (tx (nm ++ 59 :: p)) ⟨#[59]⟩ 1 = [tx nm, tx p] := by
  have hlen : (tx (nm ++ 59 :: p)).length = nm.length + (p.length + 1) := by rw [len_tx, List.length_append, List.length_cons]
  have hk : ∀ x : Str, 1 ≤ Builtin.Str.strKind x := fun x => by unfold Builtin.Str.strKind; split <;> (try split) <;> decide
  unfold Txt.splitMax
  rw [if_neg (by
    have := hk (tx (nm ++ 59 :: p))
    have h1 : Builtin.Str.strKind (⟨#[59]⟩ : Str) = 1 := by decide +kernel
    have h2 : (⟨#[59]⟩ : Str).length = 1 := rfl
    simp only [Bool.or_eq_true, decide_eq_true_eq, hlen, h1, h2]
    exact fun h => h.elim (fun h => Nat.not_lt_zero _ (Nat.lt_of_succ_lt_succ h)) (Nat.not_lt.mpr this))]
  have hat : (nm ++ 59 :: p)[nm.length]? = some 59 := by rw [List.getElem?_append_right (Nat.le_refl _)]; simp
  have hl1 := StrLaws.occ_length_le (tx (nm ++ 59 :: p)) ⟨#[59]⟩ 0 (tx (nm ++ 59 :: p)).length 1
  show (if (occurrences (tx (nm ++ 59 :: p)) ⟨#[59]⟩ 0 (tx (nm ++ 59 :: p)).length 1).isEmpty = true then _ else partsBetween _ (occurrences (tx (nm ++ 59 :: p)) ⟨#[59]⟩ 0 (tx (nm ++ 59 :: p)).length 1) 1) = _
  rcases StrLaws.occ_head (tx (nm ++ 59 :: p)) ⟨#[59]⟩ 1 (Nat.le_refl _) with ⟨_, hn⟩ | ⟨i, r, e, ha, hf⟩
  · exact absurd (at_one.mpr hat) (hn nm.length)
  · rw [e] at hl1 ⊢
    obtain rfl : r = [] := List.eq_nil_of_length_eq_zero (by exact Nat.le_zero.mp (Nat.le_of_succ_le_succ hl1))
    have ha := at_one.mp ha
    obtain rfl : i = nm.length := by
      rcases Nat.lt_trichotomy i nm.length with q | q | q
      · rw [List.getElem?_append_left q] at ha
        exact absurd (List.mem_of_getElem? ha) h
      · exact q
      · exact absurd (at_one.mpr hat) (hf _ q)
    rw [if_neg (by simp)]
    unfold partsBetween
    rw [hlen]
    show [strSub _ 0 nm.length, strSub _ (nm.length + 1) (nm.length + (p.length + 1))] = _
    have s1 : strSub (tx (nm ++ 59 :: p)) 0 nm.length = tx nm := ext_ls (by
      unfold strSub
      show ((nm ++ 59 :: p).toArray.extract 0 nm.length).toList = nm
      simp)
    have s2 : strSub (tx (nm ++ 59 :: p)) (nm.length + 1) (nm.length + (p.length + 1)) = tx p := ext_ls (by
      unfold strSub
      show ((nm ++ 59 :: p).toArray.extract (nm.length + 1) (nm.length + (p.length + 1))).toList = p
      simp only [Array.toList_extract, List.extract_eq_take_drop]
      rw [show nm.length + (p.length + 1) - (nm.length + 1) = p.length from (Nat.succ_sub_succ (nm.length + p.length) nm.length).trans (Nat.add_sub_cancel_left ..), List.drop_append, List.drop_eq_nil_of_le (by (with_reducible ((iterate 7 (try (first | assumption | exact Nat.le_refl _ | refine Nat.le_trans (by assumption) ?_ | refine o_s1 (by assumption) ?_ | refine o_s2 (by assumption) ?_ | refine o_s3 (by assumption) ?_ | refine o_s4 (by assumption) ?_ | refine Nat.le_succ_of_le ?_))); done))), List.nil_append, show nm.length + 1 - nm.length = 1 from Nat.add_sub_cancel_left ..]
      simp)
    rw [s1, s2]
abbrev nameKvs (t1 t2 t3 t4 t5 t6 t7 : Tok) : List (Str × Value) := [("amp", .str "&" t1), ("lt", .str "<" t2), ("gt", .str ">" t3), ("quot", .str "\"" t4), ("#13", .str "\r" t5), ("#10", .str "\n" t6), ("#09", .str "\t" t7)]
theorem name_val {c : Nat} (t1 t2 t3 t4 t5 t6 t7 : Tok) (h : isRef c = true) : ∃ t, valueAt (nameKvs t1 t2 t3 t4 t5 t6 t7) (tx (nmR c)) = some (.str ⟨#[c]⟩ t) := by
  rcases isRef_cases h with rfl | rfl | rfl | rfl | rfl | rfl | rfl
  · exact ⟨t1, rfl⟩
  · exact ⟨t2, rfl⟩
  · exact ⟨t3, rfl⟩
  · exact ⟨t4, rfl⟩
  · exact ⟨t5, rfl⟩
  · exact ⟨t6, rfl⟩
  · exact ⟨t7, rfl⟩
end Mine
end

section
set_option Elab.async false
set_option maxRecDepth 100000
set_option maxHeartbeats 4000000
namespace Mine
/-- rows of a forest: (row, how deep) -/
abbrev Fst := List (Nat × Nat)
/-- the rows that stand bare, each with what is in it, one step less deep -/
def grp : Fst → List (Nat × Fst)
  | [] => []
  | (k, 0) :: r => (k, (r.takeWhile fun e => e.2 != 0).map fun e => (e.1, e.2 - 1)) :: grp r
  | (_, _ + 1) :: r => grp r
structure Qst where
  F : Fst
  Q : List (Nat × Fst)
  taken : List Nat
  waits : List Nat
def qStep (s : Qst) : Qst := match s.Q ++ grp s.F with
  | [] => s
  | (k, f) :: r => { F := f, Q := r, taken := s.taken ++ [k], waits := s.waits ++ [r.length] }
def qN (F : Fst) : Nat → Qst
  | 0 => ⟨F, [], [], []⟩
  | n + 1 => qStep (qN F n)
def rowsOf (ds : List Nat) : Fst := (List.range 7).map fun k => (k, ds.getD k 0)
def dueF (ds : List Nat) (p : Nat) : Nat := ((ds.drop (p + 1)).filter (· == ds.getD p 0)).length + ((ds.take p).filter (· == ds.getD p 0 + 1)).length
/-- the way back: within, behind, the pile -/
def withinF (w : List Nat) : List Nat := ((List.range 6).map fun i => w.getD (i + 1) 0 + 1 - w.getD i 0) ++ [0]
def behindF (w : List Nat) : List Nat := (List.range 6).foldl (fun b i => b ++ [b.getD i 0 + (withinF w).getD i 0]) [w.getD 0 0 + 1]
structure Bst where
  pile : List (Nat × Nat)
  page : List (Nat × Nat)
def bStep (w : List Nat) (s : Bst) : Bst := match s.pile.reverse with
  | [] => s
  | (p, d) :: r => { pile := r.reverse ++ ((List.range ((withinF w).getD p 0)).reverse.map fun j => ((behindF w).getD p 0 + j, d + 1)), page := s.page ++ [(p, d)] }
def bN (w : List Nat) : Nat → Bst
  | 0 => ⟨(List.range (w.getD 0 0 + 1)).reverse.map fun i => (i, 0), []⟩
  | n + 1 => bStep w (bN w n)
def next (l : List Nat) : List (List Nat) := (List.range (if l.getLastD 0 < 3 then l.getLastD 0 + 2 else 4)).map fun c => l ++ [c]
def allRows : List (List Nat) := (((((([[0]] : List (List Nat)).flatMap next).flatMap next).flatMap next).flatMap next).flatMap next).flatMap next
def okRow (ds : List Nat) : Bool :=
  let q := qN (rowsOf ds) 7
  q.Q.isEmpty && q.F.isEmpty && q.taken.length == 7 && q.waits.length == 7 && q.taken.all (· < 7) &&
  q.waits == q.taken.map (dueF ds) &&
  (List.range 6).all (fun i => q.waits.getD i 0 ≤ q.waits.getD (i + 1) 0 + 1) &&
  (bN q.waits 7).page.map (fun e => (q.taken.getD e.1 0, e.2)) == rowsOf ds &&
  (List.range 7).all (fun i => match (bN q.waits i).pile.reverse with | [] => false | (p, _) :: _ => p < 7)
theorem all_ok : allRows.all okRow = true := by decide +kernel
theorem cnt : allRows.length = 365 := by decide +kernel
/-- what each turn of the queue needs: a row to take, distinct letters, small forests -/
def okTurns (F0 : Fst) : Bool := (List.range 7).all fun i =>
  let s := qN F0 i
  let A := s.Q ++ grp s.F
  !A.isEmpty && decide ((A.map (·.1)).Nodup) && A.length ≤ 7 && A.all (fun g => g.1 < 7 && g.2.length ≤ 7 && g.2.all (fun e => e.1 < 7 && e.2 ≤ 3)) && s.F.length ≤ 7 && s.F.all (fun e => e.1 < 7 && e.2 ≤ 3)
theorem turns_ok : allRows.all (fun ds => okTurns (rowsOf ds)) = true := by decide +kernel
theorem next_mem {X : List (List Nat)} {l : List Nat} {c : Nat} (h : l ∈ X) (hc : c < if l.getLastD 0 < 3 then l.getLastD 0 + 2 else 4) : l ++ [c] ∈ X.flatMap next := by
  refine List.mem_flatMap.mpr ⟨l, h, ?_⟩
  unfold next
  exact List.mem_map.mpr ⟨c, List.mem_range.mpr hc, rfl⟩
theorem mem_rows {a b c d e f : Nat} (h1 : a < 2) (h2 : b < if a < 3 then a + 2 else 4) (h3 : c < if b < 3 then b + 2 else 4) (h4 : d < if c < 3 then c + 2 else 4) (h5 : e < if d < 3 then d + 2 else 4) (h6 : f < if e < 3 then e + 2 else 4) : [0, a, b, c, d, e, f] ∈ allRows :=
  next_mem (l := [0, a, b, c, d, e]) (next_mem (l := [0, a, b, c, d]) (next_mem (l := [0, a, b, c]) (next_mem (l := [0, a, b]) (next_mem (l := [0, a]) (next_mem (l := [0]) (List.mem_singleton.mpr rfl) h1) h2) h3) h4) h5) h6
end Mine
end

section
open PySem PySem.W PyProof.Rows
set_option Elab.async false
set_option maxRecDepth 100000
set_option maxHeartbeats 4000000
namespace Mine
def rowT (hs : Nat → Str) (e : Nat × Nat) : List Nat := (ls (hs e.1)).flatMap (toldSign e.2)
/-- a forest as it is written -/
def fT (hs : Nat → Str) (F : Fst) : List Nat := F.flatMap (rowT hs)
theorem escL_app (a b : List Nat) : escL 7 (a ++ b) = escL 7 a ++ escL 7 b := by unfold escL; rw [List.flatMap_append]
theorem escL_free : ∀ l : List Nat, (∀ c ∈ l, isRef c = false) → escL 7 l = l
  | [], _ => rfl
  | c :: r, h => by
    show escC 7 c ++ escL 7 r = _
    rw [escC_free (h c (List.mem_cons_self ..)), escL_free r fun k hk => h k (List.mem_cons_of_mem _ hk)]; rfl
theorem refL_plain (c : Nat) : ∀ k ∈ refL c, isRef k = false := by
  unfold refL
  repeat' split
  all_goals decide
theorem rep_free (n : Nat) : ∀ k ∈ (List.replicate n [97, 109, 112, 59]).flatten, isRef k = false := by
  intro k hk
  obtain ⟨l, hl, hk⟩ := List.mem_flatten.mp hk
  rw [List.eq_of_mem_replicate hl] at hk
  exact (show ∀ k ∈ ([97, 109, 112, 59] : List Nat), isRef k = false by decide) k hk
theorem told_succ (d c : Nat) : toldSign (d + 1) c = escL 7 (toldSign d c) := by
  unfold toldSign
  by_cases h : isRef c = true
  · rw [if_pos ⟨Nat.succ_pos d, h⟩]
    cases d with
    | zero =>
      rw [if_neg (by simp)]
      show 38 :: ([] ++ refL c) = escC 7 c ++ []
      rw [escC_ref h]; simp
    | succ d =>
      rw [if_pos ⟨Nat.succ_pos d, h⟩]
      show 38 :: _ = escC 7 38 ++ escL 7 _
      rw [escC_ref (by decide), escL_app, escL_free _ (rep_free _), escL_free _ (refL_plain c)]
      show _ = 38 :: ([97, 109, 112, 59] ++ _)
      rw [show d + 1 + 1 - 1 = (d + 1 - 1) + 1 from rfl, List.replicate_succ, List.flatten_cons, List.append_assoc]
  · have h : isRef c = false := by simpa using h
    rw [if_neg (fun e => by rw [h] at e; exact Bool.false_ne_true e.2), if_neg (fun e => by rw [h] at e; exact Bool.false_ne_true e.2)]
    show _ = escC 7 c ++ []
    rw [escC_free h]; rfl
theorem told_zero : ∀ l : List Nat, l.flatMap (toldSign 0) = l
  | [] => rfl
  | c :: r => by
    rw [List.flatMap_cons, told_zero r]
    rfl
theorem row_succ (hs : Nat → Str) (k d : Nat) : rowT hs (k, d + 1) = escL 7 (rowT hs (k, d)) := by
  unfold rowT
  dsimp only
  induction ls (hs k) with
  | nil => rfl
  | cons c r ih => rw [List.flatMap_cons, List.flatMap_cons, escL_app, ih, told_succ]
def lift (F : Fst) : Fst := F.map fun e => (e.1, e.2 + 1)
def lower (d : Nat) (F : Fst) : Fst := F.map fun e => (e.1, e.2 - d)
theorem fT_lift (hs : Nat → Str) : ∀ F : Fst, escL 7 (fT hs F) = fT hs (lift F)
  | [] => rfl
  | e :: r => by
    show escL 7 (rowT hs e ++ fT hs r) = rowT hs (e.1, e.2 + 1) ++ fT hs (lift r)
    rw [escL_app, fT_lift hs r, row_succ]
def ge (d : Nat) (e : Nat × Nat) : Bool := decide (d ≤ e.2)
theorem lift_lower (d : Nat) : ∀ F : Fst, (∀ e ∈ F, d + 1 ≤ e.2) → lift (lower (d + 1) F) = lower d F
  | [], _ => rfl
  | e :: r, h => by
    have := h e (List.mem_cons_self ..)
    show (e.1, e.2 - (d + 1) + 1) :: lift (lower (d + 1) r) = (e.1, e.2 - d) :: lower d r
    rw [lift_lower d r fun x hx => h x (List.mem_cons_of_mem _ hx), show e.2 - (d + 1) + 1 = e.2 - d from Nat.succ_pred_eq_of_pos (Nat.sub_pos_of_lt this)]
theorem tw_all {p : Nat × Nat → Bool} : ∀ {F : Fst}, ∀ e ∈ F.takeWhile p, p e = true
  | a :: r, e, h => by
    rw [List.takeWhile_cons] at h
    split at h
    · rcases List.mem_cons.mp h with rfl | h
      · assumption
      · exact tw_all e h
    · cases h
theorem tw_split (d : Nat) : ∀ F : Fst, F.takeWhile (ge d) = F.takeWhile (ge (d + 1)) ++ (F.dropWhile (ge (d + 1))).takeWhile (ge d)
  | [] => rfl
  | e :: r => by
    by_cases h : ge (d + 1) e = true
    · have h2 : ge d e = true := by unfold ge at h ⊢; simp only [decide_eq_true_eq] at h ⊢; (with_reducible exact Nat.le_of_succ_le (by assumption))
      rw [List.takeWhile_cons, List.takeWhile_cons, List.dropWhile_cons, if_pos h2, if_pos h, if_pos h, tw_split d r]; rfl
    · rw [List.takeWhile_cons (p := ge (d + 1)), List.dropWhile_cons, if_neg h, if_neg h]; rfl
def seg (j : Nat) (R : Fst) : Fst := (R.dropWhile (ge (j + 1))).takeWhile (ge j)
/-- the rows from k on -/
def rowsFrom (dn : Nat → Nat) (k n : Nat) : Fst := (List.range' k n).map fun j => (j, dn j)
theorem seg_high {e : Nat × Nat} {R : Fst} {j : Nat} (h : e.2 < j) : seg j (e :: R) = [] := by
  unfold seg
  rw [List.dropWhile_cons, if_neg (by unfold ge; simp; (with_reducible (refine Nat.lt_of_lt_of_le (by assumption) ?_; ((iterate 7 (try (first | assumption | exact Nat.le_refl _ | refine Nat.le_trans (by assumption) ?_ | refine o_s1 (by assumption) ?_ | refine o_s2 (by assumption) ?_ | refine o_s3 (by assumption) ?_ | refine o_s4 (by assumption) ?_ | refine Nat.le_succ_of_le ?_))); done)))), List.takeWhile_cons, if_neg (by unfold ge; simp; (with_reducible assumption))]
theorem seg_low {e : Nat × Nat} {R : Fst} {j : Nat} (h : j < e.2) : seg j (e :: R) = seg j R := by
  unfold seg
  rw [List.dropWhile_cons, if_pos (by unfold ge; simp; (with_reducible exact Nat.succ_le_of_lt (by assumption)))]
theorem seg_same {e : Nat × Nat} {R : Fst} : seg e.2 (e :: R) = e :: R.takeWhile (ge e.2) := by
  unfold seg
  rw [List.dropWhile_cons, if_neg (by unfold ge; simp), List.takeWhile_cons, if_pos (by unfold ge; simp)]
theorem seg_next {R : Fst} {j : Nat} (h : ∀ e, R.head? = some e → e.2 ≤ j) : seg j R = R.takeWhile (ge j) := by
  unfold seg
  cases R with
  | nil => rfl
  | cons e r =>
    have := h e rfl
    rw [List.dropWhile_cons, if_neg (by unfold ge; simp; exact Nat.lt_succ_of_le this)]
theorem nest_seg (hs : Nat → Str) (ds : List Int) (dn : Nat → Nat) (hdn : ∀ k, k < 7 → (ds.getD k 0).toNat = dn k) (hd3 : ∀ k, k < 7 → dn k ≤ 3) (hnx : ∀ k, k + 1 < 7 → dn (k + 1) ≤ dn k + 1) :
    ∀ i, i ≤ 7 → ∀ j, j ≤ 4 → ls ((nestN hs ds i).getD j Str.empty) = fT hs (lower j (seg j (rowsFrom dn (7 - i) i)))
  | 0, _, j, hj => by
    have : (nestN hs ds 0).getD j Str.empty = Str.empty := by
      match j, hj with
      | 0, _ => rfl
      | 1, _ => rfl
      | 2, _ => rfl
      | 3, _ => rfl
      | 4, _ => rfl
    rw [this]; rfl
  | i + 1, hi, j, hj => by
    have ih := nest_seg hs ds dn hdn hd3 hnx i (by (with_reducible exact Nat.le_of_succ_le (by assumption)))
    have hR : rowsFrom dn (7 - (i + 1)) (i + 1) = (6 - i, dn (6 - i)) :: rowsFrom dn (7 - i) i := by
      unfold rowsFrom
      rw [show 7 - (i + 1) = 6 - i from Nat.succ_sub_succ 6 i, List.range'_succ, show 6 - i + 1 = 7 - i from (Nat.succ_sub (Nat.le_of_succ_le_succ hi)).symm]; rfl
    have hhead : ∀ e, (rowsFrom dn (7 - i) i).head? = some e → e.2 ≤ dn (6 - i) + 1 := by
      intro e he
      cases i with
      | zero => cases he
      | succ i =>
        unfold rowsFrom at he
        rw [List.range'_succ] at he
        obtain rfl : (7 - (i + 1), dn (7 - (i + 1))) = e := by simpa using he
        have := hnx (6 - (i + 1)) (Nat.succ_lt_succ (Nat.sub_lt (by decide) (Nat.succ_pos i)))
        rw [show 6 - (i + 1) + 1 = 7 - (i + 1) from (Nat.succ_sub (Nat.le_of_succ_le_succ hi)).symm] at this
        exact this
    have hlen : (nestN hs ds i).length = 5 := by
      clear ih hR hhead hj
      induction i with
      | zero => rfl
      | succ i ihh => show (nestStep _ _ _ _).length = 5; unfold nestStep; rw [List.length_set, List.length_set]; exact ihh (by (with_reducible exact Nat.le_of_succ_le (by assumption)))
    have h7 : 6 - i < 7 := Nat.lt_of_le_of_lt (Nat.sub_le 6 i) (by decide)
    have hk := hdn (6 - i) h7
    have hk3 := hd3 (6 - i) h7
    rw [hR]
    show ls ((nestStep hs ds (nestN hs ds i) (6 - i)).getD j Str.empty) = _
    unfold nestStep
    rw [hk]
    generalize dn (6 - i) = d at hk3 hhead
    generalize rowsFrom dn (7 - i) i = R at ih hhead
    generalize nestN hs ds i = T at ih hlen
    have g1 : ∀ (T : List Str) (a b : Nat) (z : Str), a ≠ b → (T.set a z).getD b Str.empty = T.getD b Str.empty := fun T a b z h => by
      rw [List.getD_eq_getElem?_getD, List.getElem?_set_ne h, ← List.getD_eq_getElem?_getD]
    have g2 : ∀ (T : List Str) (a : Nat) (z : Str), a < T.length → (T.set a z).getD a Str.empty = z := fun T a z h => by
      rw [List.getD_eq_getElem?_getD, List.getElem?_set_self h]; rfl
    rcases Nat.lt_trichotomy j d with h | h | h
    · rw [g1 _ _ _ _ (by (with_reducible exact Nat.ne_of_gt (by assumption))), g1 _ _ _ _ (by (with_reducible (refine Nat.ne_of_gt ?_; ((iterate 7 (try (first | assumption | exact Nat.lt_succ_self _ | refine Nat.lt_succ_of_lt ?_ | refine Nat.lt_trans (by assumption) ?_ | refine o_l1 (by assumption) ?_ | refine o_l2 (by assumption) ?_ | refine o_l3 (by assumption) ?_ | exact o_m1 (by assumption) | exact o_m2 (by assumption) | exact o_m3 (by assumption)))); done)))), ih j hj, seg_low h]
    · subst h
      rw [g2 _ _ _ (by rw [List.length_set, hlen]; exact Nat.lt_succ_of_le hj), g1 _ _ _ _ (by (with_reducible (refine Nat.ne_of_gt ?_; ((iterate 7 (try (first | assumption | exact Nat.lt_succ_self _ | refine Nat.lt_succ_of_lt ?_ | refine Nat.lt_trans (by assumption) ?_ | refine o_l1 (by assumption) ?_ | refine o_l2 (by assumption) ?_ | refine o_l3 (by assumption) ?_ | exact o_m1 (by assumption) | exact o_m2 (by assumption) | exact o_m3 (by assumption)))); done))))]
      rw [ls_append, ls_append, show ls (escS 7 (T.getD (j + 1) Str.empty)) = escL 7 (ls (T.getD (j + 1) Str.empty)) from rfl, ih (j + 1) (by (with_reducible exact o_lea (by assumption) (by decide))), ih j hj, fT_lift, seg_next hhead, lift_lower j _ (fun e he => by
        have := tw_all (p := ge (j + 1)) e he
        unfold ge at this
        simpa using this)]
      rw [show seg j ((6 - i, j) :: R) = (6 - i, j) :: R.takeWhile (ge j) from seg_same (e := (6 - i, j)), tw_split j R]
      show _ = rowT hs (6 - i, j - j) ++ fT hs (lower j _)
      unfold lower fT
      rw [List.map_append, List.flatMap_append, Nat.sub_self]
      unfold rowT
      rw [told_zero, List.append_assoc]
      rfl
    · rw [g1 _ _ _ _ (by (with_reducible exact Nat.ne_of_lt (by assumption))), seg_high h]
      show _ = []
      by_cases h2 : j = d + 1
      · subst h2
        rw [g2 _ _ _ (by rw [hlen]; exact Nat.succ_lt_succ (Nat.lt_succ_of_le hk3))]; rfl
      · rw [g1 _ _ _ _ (fun e => h2 e.symm), ih j hj]
        cases R with
        | nil => rfl
        | cons e r =>
          have := hhead e rfl
          rw [seg_high (Nat.lt_of_le_of_lt this (Nat.lt_of_le_of_ne h (fun e => h2 e.symm)))]; rfl
theorem nest_told (hs : Nat → Str) (ds : List Int) (dn : Nat → Nat) (hdn : ∀ k, k < 7 → (ds.getD k 0).toNat = dn k) (hd3 : ∀ k, k < 7 → dn k ≤ 3) (hnx : ∀ k, k + 1 < 7 → dn (k + 1) ≤ dn k + 1) (h0 : dn 0 = 0) : nestF hs ds = toldF hs ds := by
  have h := nest_seg hs ds dn hdn hd3 hnx 7 (Nat.le_refl _) 0 (by (with_reducible exact Nat.zero_le _))
  refine ext_ls (h.trans ?_)
  have hz : seg 0 (rowsFrom dn (7 - 7) 7) = rowsFrom dn 0 7 := by
    rw [seg_next (by
      intro e he
      unfold rowsFrom at he
      rw [show 7 - 7 = 0 from rfl, List.range'_succ] at he
      obtain rfl : (0, dn 0) = e := by simpa using he
      exact Nat.le_of_eq h0)]
    have : ∀ F : Fst, F.takeWhile (ge 0) = F := fun F => by
      induction F with
      | nil => rfl
      | cons e r ih => rw [List.takeWhile_cons, if_pos (by unfold ge; simp), ih]
    exact this _
  rw [hz]
  unfold toldF fT lower rowsFrom
  rw [ls_tx, List.map_map, ← List.range_eq_range']
  rw [List.flatMap_map]
  refine congrArg List.flatten (List.map_congr_left fun k hk => ?_)
  unfold rowT toldRow
  have hk : k < 7 := List.mem_range.mp hk
  dsimp only [Function.comp]
  rw [hdn k hk, Nat.sub_zero]
end Mine
end

section
open PySem PySem.W PyProof.Rows
set_option Elab.async false
set_option maxRecDepth 100000
set_option maxHeartbeats 4000000
namespace Mine
theorem join_gen (c : Nat) : ∀ (p : List Nat) (q : List (List Nat)), ls (Str.join ⟨#[c]⟩ (tx p :: q.map tx)) = p ++ q.flatMap (fun e => c :: e)
  | p, [] => by simp [Str.join]
  | p, e :: q => by
    rw [List.map_cons, join_cons, join_gen c e q]
    simp
theorem split_gen {c : Nat} {p : List Nat} {q : List (List Nat)} (hp : c ∉ p) (hq : ∀ e ∈ q, c ∉ e) : Txt.split (tx (p ++ q.flatMap (fun e => c :: e))) ⟨#[c]⟩ = tx p :: q.map tx := by
  have h2 := StrLaws.split_free (tx (p ++ q.flatMap (fun e => c :: e))) c
  have h1 : Str.join ⟨#[c]⟩ (Txt.split (tx (p ++ q.flatMap (fun e => c :: e))) ⟨#[c]⟩) = _ := StrLaws.join_split _ _
  refine join_inj c _ _ ?_ (by simp) h2 ?_ ?_
  · intro e
    unfold Txt.split at e
    split at e
    · cases e
    · split at e
      · cases e
      · have := congrArg List.length e
        rw [length_partsBetween] at this
        cases this
  · intro z hz
    rcases List.mem_cons.mp hz with rfl | hz
    · exact hp
    · obtain ⟨e, he, rfl⟩ := List.mem_map.mp hz
      exact hq e he
  · rw [h1, join_gen]
theorem told_no60 (d c : Nat) : 60 ∉ toldSign (d + 1) c := by
  unfold toldSign
  by_cases h : isRef c = true
  · rw [if_pos ⟨Nat.succ_pos d, h⟩]
    intro m
    rcases List.mem_cons.mp m with m | m
    · exact absurd m (by decide)
    · rcases List.mem_append.mp m with m | m
      · exact absurd (rep_free _ 60 m) (by decide)
      · exact absurd (refL_plain c 60 m) (by decide)
  · rw [if_neg (fun e => h e.2)]
    intro m
    rw [List.mem_singleton] at m
    subst m
    exact h (by decide)
theorem row_no60 (hs : Nat → Str) (e : Nat × Nat) (h : e.2 ≠ 0) : 60 ∉ rowT hs e := by
  obtain ⟨k, d⟩ := e
  obtain ⟨d, rfl⟩ : ∃ n, d = n + 1 := ⟨d - 1, by have : d ≠ 0 := h; omega⟩
  intro m
  obtain ⟨c, _, m⟩ := List.mem_flatMap.mp m
  exact told_no60 d c m
theorem fT_no60 (hs : Nat → Str) (F : Fst) (h : ∀ e ∈ F, e.2 ≠ 0) : 60 ∉ fT hs F := by
  intro m
  obtain ⟨e, he, m⟩ := List.mem_flatMap.mp m
  exact row_no60 hs e (h e he) m
/-- a piece: letter, sign, line feed, and what is in the row as it is written -/
def pieceL (hs : Nat → Str) (g : Nat × Fst) : List Nat := (ls (hs g.1)).drop 1 ++ escL 7 (fT hs g.2)
theorem tw_ne : ∀ (r : Fst) (e : Nat × Nat), e ∈ (r.takeWhile fun e => e.2 != 0) → e.2 ≠ 0 := fun r e h => by
  have := tw_all (p := fun e : Nat × Nat => e.2 != 0) e h
  simpa using this
theorem lift_pred : ∀ F : Fst, (∀ e ∈ F, e.2 ≠ 0) → lift (F.map fun e => (e.1, e.2 - 1)) = F
  | [], _ => rfl
  | e :: r, h => by
    have := h e (List.mem_cons_self ..)
    show (e.1, e.2 - 1 + 1) :: lift (r.map fun e => (e.1, e.2 - 1)) = e :: r
    rw [lift_pred r fun x hx => h x (List.mem_cons_of_mem _ hx), show e.2 - 1 + 1 = e.2 from Nat.succ_pred_eq_of_ne_zero this]
theorem fT_grp (hs : Nat → Str) (hh : ∀ k, ∃ a b, ls (hs k) = [60, a, b, 10]) : ∀ F : Fst, fT hs F = fT hs (F.takeWhile fun e => e.2 != 0) ++ ((grp F).map (pieceL hs)).flatMap (fun e => 60 :: e)
  | [] => rfl
  | (k, 0) :: r => by
    obtain ⟨a, b, e⟩ := hh k
    have ih := fT_grp hs hh r
    show rowT hs (k, 0) ++ fT hs r = fT hs [] ++ (60 :: pieceL hs (k, (r.takeWhile fun e => e.2 != 0).map fun e => (e.1, e.2 - 1)) ++ ((grp r).map (pieceL hs)).flatMap (fun e => 60 :: e))
    have e1 : pieceL hs (k, (r.takeWhile fun e => e.2 != 0).map fun e => (e.1, e.2 - 1)) = [a, b, 10] ++ fT hs (r.takeWhile fun e => e.2 != 0) := by
      unfold pieceL
      rw [fT_lift, lift_pred _ (tw_ne r), e]; rfl
    have e2 : rowT hs (k, 0) = [60, a, b, 10] := by
      unfold rowT
      rw [told_zero, e]
    have e3 : fT hs [] = [] := rfl
    rw [e1, e2, e3, ih]
    simp
  | (k, d + 1) :: r => by
    have ih := fT_grp hs hh r
    show rowT hs (k, d + 1) ++ fT hs r = fT hs ((k, d + 1) :: (r.takeWhile fun e => e.2 != 0)) ++ ((grp r).map (pieceL hs)).flatMap (fun e => 60 :: e)
    rw [ih]
    simp [fT]
theorem split_forest (hs : Nat → Str) (hh : ∀ k, ∃ a b, ls (hs k) = [60, a, b, 10] ∧ a ≠ 60 ∧ b ≠ 60) (F : Fst) : Txt.split (tx (fT hs F)) ⟨#[60]⟩ = tx (fT hs (F.takeWhile fun e => e.2 != 0)) :: (grp F).map (fun g => tx (pieceL hs g)) := by
  rw [fT_grp hs (fun k => let ⟨a, b, e, _⟩ := hh k; ⟨a, b, e⟩) F, split_gen (fT_no60 hs _ (tw_ne F)) ?_, List.map_map]
  · rfl
  · intro e he
    obtain ⟨g, _, rfl⟩ := List.mem_map.mp he
    obtain ⟨a, b, e, ha, hb⟩ := hh g.1
    unfold pieceL
    rw [e, fT_lift]
    intro m
    rcases List.mem_append.mp m with m | m
    · simp only [List.drop_succ_cons, List.drop_zero, List.mem_cons, List.not_mem_nil, or_false] at m
      rcases m with m | m | m
      · exact ha m.symm
      · exact hb m.symm
      · exact absurd m (by decide)
    · refine fT_no60 hs _ (fun x hx => ?_) m
      obtain ⟨y, _, rfl⟩ := List.mem_map.mp hx
      exact Nat.succ_ne_zero _
end Mine
end

section
open PySem PySem.W PySem.Calls PyProof.Rows
set_option maxRecDepth 100000
set_option maxHeartbeats 8000000
set_option linter.all false
namespace Mine

local macro_rules | `(tactic| omega) => `(tactic| first | (with_reducible first | assumption | exact Int.natCast_nonneg _ | exact o_ne1 _ | exact o_en1 _ | exact o_ne2 _ | exact o_en2 _ | exact o_ne3 _ | exact o_en3 _ | exact Nat.ne_of_lt (by assumption) | exact Nat.ne_of_gt (by assumption) | exact Ne.symm (by assumption) | exact o_le (by assumption) (by decide) | exact o_lel (by assumption) (by decide) | exact o_lt (by assumption) (by decide) | exact o_ltl (by assumption) (by decide) | exact o_neg (by decide) | exact o_negl (by decide) | exact o_castlt (by assumption) | exact o_cq (by assumption) (by assumption) | exact o_cle (by assumption) (by decide) | exact o_clt (by assumption) (by decide) | exact o_cltl (by assumption) (by decide) | exact o_eqlt (by assumption) (by assumption) | exact o_eqle2 (by assumption) (by assumption) (by decide)) | decide | omega +splitDisjunctions)
set_option hygiene false in
local macro_rules | `(tactic| walk_at "execs cons") => `(tactic| ((with_reducible refine wpAny_execs_cons ?_); (try dsimp only); (try clear qk0); (try (refine foldQ ?_; intro qk0))))
local macro_rules | `(tactic| walk_at "execs nil") => `(tactic| refine wpAny_execs_nil ?_)
local macro_rules | `(tactic| walk_at "exec For") => `(tactic| refine wpAny_For ?_)
local macro_rules | `(tactic| walk_at "exec For Name Attribute cons nil") => `(tactic| k_dflt (refine wpAny_For ?_ (by intro _; rfl)))
local macro_rules | `(tactic| walk_at "exec For Name Call cons nil") => `(tactic| k_dflt (refine wpAny_For ?_ (by intro _; rfl)))
local macro_rules | `(tactic| walk_at "call builtin:str.replace") => `(tactic| (refine wp_replace (by (try dsimp only); omega) (by (try dsimp only); omega) (by (try dsimp only); omega) (by (try dsimp only); omega) (by decide +kernel) (by assumption) ?_; intro _ _; (try dsimp only)))
local macro_rules | `(tactic| walk_at "subscriptTail Name Slice ref ref") => `(tactic| (k_here; (with_reducible show wpAny _ _ (subscriptTail _ (PySem.Expr.Slice _ _ none _) _ _) _ _ _); k_dflt (refine kms_slice_lit (by k_asm) (by k_asm) (by kmk_list) (by kmk_part) (by kmk_part) rfl ?_ (by with_unfolding_all rfl) (by kmk_pure) (by assumption)); intro D' h' F' N' l1; (try k_lt l1)))
local macro_rules | `(tactic| k_mem) => `(tactic| first | assumption | exact List.Mem.head _ | (refine List.Mem.tail _ ?_; k_mem))
local macro_rules | `(tactic| k_all) => `(tactic| first | assumption | exact List.forall_mem_nil _ | (refine' List.forall_mem_cons.mpr ⟨?a, ?b⟩; (case a => k_ne); (case b => k_all)))
local macro_rules | `(tactic| k_room) => `(tactic| ((try simp only [depth_under_make, depth_under_kw, depth_in1, depth_deeper, depth_caller]); (try dsimp only); first | exact o_room (by assumption) (by decide) | omega))
local macro_rules | `(tactic| walk_at "call builtin:str.lower") => `(tactic| (refine wp_lower (by assumption) (by assumption) (by (try dsimp only); omega) ?_; intro _ _; (try dsimp only)))
local macro_rules | `(tactic| walk_at "eval ListComp") => `(tactic| k_dflt (refine comp_expr (by with_unfolding_all rfl) rfl (by decide) (by intro _; rfl) ?_))
local macro_rules | `(tactic| walk_at "exec Assign cons ListComp") => `(tactic| k_dflt (refine comp_assign (by with_unfolding_all rfl) (by with_unfolding_all rfl) rfl (by decide) (by intro _; rfl) ?_))
local macro_rules | `(tactic| walk_at "call type:range") => `(tactic| first
  | (refine range1_led (by assumption) (by assumption) ?_; intro hR tkR tR1 tR2 tR3 htkR RR FR NR; (try dsimp only at htkR RR); (try dsimp only))
  | (refine range2_led (by assumption) (by assumption) ?_; intro hR tkR tR1 tR2 tR3 htkR RR FR NR; (try dsimp only at htkR RR); (try dsimp only))
  | (refine range3_led (by assumption) (by assumption) ?_; intro hR tkR tR1 tR2 tR3 htkR RR FR NR; (try dsimp only at htkR RR); (try dsimp only)))
local macro_rules | `(tactic| walk_at "subscriptTail Name Slice ref ref") => `(tactic| (k_here; (with_reducible show wpAny _ _ (subscriptTail _ (PySem.Expr.Slice none none _ _) _ _) _ _ _); k_dflt (refine krv_lit (by k_asm) (by k_asm) (by kmk_list) (IsPart.int _ _) rfl ?_ (by with_unfolding_all rfl) (by kmk_pure) (by assumption)); intro D' h' F' N' l1; (try k_lt l1)))

section
open PySem PySem.W PyProof.Rows
set_option Elab.async false
set_option maxRecDepth 100000
set_option maxHeartbeats 8000000
def depthStep (ds : List Int) (c : Int) : List Int := ds ++ [c % (if ds.getLastD 0 < 3 then ds.getLastD 0 + 2 else 4)]
def depthsF (cs : List Int) : List Int := (cs.drop 1).foldl depthStep [0]
def DepthOk (ds : List Int) : Prop := ds ≠ [] ∧ ∀ d ∈ ds, 0 ≤ d ∧ d ≤ 3
theorem last_mem {ds : List Int} (h : ds ≠ []) : ds.getLastD 0 ∈ ds := by
  rw [List.getLastD_eq_getLast?, List.getLast?_eq_some_getLast h]; exact List.getLast_mem h
theorem depthStep_ok {ds : List Int} (h : DepthOk ds) (c : Int) : DepthOk (depthStep ds c) := by
  obtain ⟨h1, h2⟩ := h
  refine ⟨by simp [depthStep], fun d hd => ?_⟩
  rcases List.mem_append.mp hd with q | q
  · exact h2 d q
  · rw [List.mem_singleton.mp q]
    have hl := h2 _ (last_mem h1)
    generalize ds.getLastD 0 = e at hl
    have hm : 0 < (if e < 3 then e + 2 else 4) := by split <;> omega
    have a := Int.emod_nonneg c (Int.ne_of_gt hm)
    have b := Int.emod_lt_of_pos c hm
    revert a b
    clear hm
    split <;> intro a b <;> omega
theorem depths_fold_ok : ∀ (cs : List Int) {ds : List Int}, DepthOk ds → DepthOk (cs.foldl depthStep ds)
  | [], _, h => h
  | c :: r, _, h => depths_fold_ok r (depthStep_ok h c)
theorem depths_ok (cs : List Int) : DepthOk (depthsF cs) := depths_fold_ok _ ⟨by simp, by simp⟩
theorem depths_fold_len : ∀ (cs : List Int) (ds : List Int), (cs.foldl depthStep ds).length = ds.length + cs.length
  | [], _ => rfl
  | c :: r, ds => by rw [List.foldl_cons, depths_fold_len r]; simp only [depthStep, List.length_append, List.length_cons, List.length_nil]; omega
theorem depths_len (cs : List Int) (h : cs ≠ []) : (depthsF cs).length = cs.length := by
  unfold depthsF
  rw [depths_fold_len]
  cases cs with
  | nil => exact absurd rfl h
  | cons a r => show 1 + r.length = r.length + 1; omega
theorem depths_succ {cs : List Int} {i : Nat} (h : 1 + i < cs.length) : depthsF (cs.take (i + 1 + 1)) = depthStep (depthsF (cs.take (i + 1))) cs[1 + i] := by
  unfold depthsF
  rw [List.take_add_one, List.drop_append_of_le_length (by simp; omega), List.foldl_append]
  have : cs[i + 1]? = some cs[1 + i] := by
    rw [List.getElem?_eq_getElem (by omega)]; simp [Nat.add_comm]
  rw [this]; rfl
theorem getD_last {ds : List Int} (h : ds ≠ []) : ds.getD (-1 + (ds.length : Int)).toNat 0 = ds.getLastD 0 := by
  have hp : 0 < ds.length := List.length_pos_iff.mpr h
  have : (-1 + (ds.length : Int)).toNat = ds.length - 1 := by omega
  rw [this, List.getLastD_eq_getLast?, List.getLast?_eq_getElem?, List.getD_eq_getElem?_getD]
theorem b_depths {w : World} (lc : Addr) (vs : List Value) (k : Nat) (cs : List Int) (news : Led) (hl : (lc, listOf vs.toArray k) ∈ news) (hi : IntsAre vs cs) (h7 : cs.length = 7) :
    Body w 0 0 "_law_depths" s26 b26 351 (.ref 350) (fun y => if y = "cells" then some (.ref lc) else none) news
      (fun v n' _ => ∃ r dvs k', v = .ref r ∧ n' = (r, listOf dvs.toArray k') :: news ∧ IntsAre dvs (depthsF cs) ∧ ∀ p ∈ news, p.1 < r) := by
  intro mean mg mb dp un gd outer A₀ base g L s B F X N T ht hd hu Aa
  refine hide_post fun Post0 hP0 => ?_
  dsimp only [b26, b26x]
  have hz : vs.toArray.size ≤ sizeLine := by rw [List.size_toArray, hi.length, h7]; decide
  k_steps
  rename_i l' h0 l1 h1 F1 N1 D' h2 F2 N2 l2
  refine for_list (lo := listOf (kms_pick vs (some 1) none).toArray 0) (vs := kms_pick vs (some 1) none) rfl rfl rfl (List.Mem.head _) ⟨rfl, _, rfl⟩ F2 N2 (by (try dsimp only); (with_reducible exact Nat.le_add_left 1 _))
    (fun i m nx _ => (∃ u, m = up "cell" u (up "depths" (some (.ref l')) (up "cells" (some (.ref lc)) fun _ => none))) ∧
      ∃ dvs k', nx = (D', listOf (kms_pick vs (some 1) none).toArray 0) :: (l', listOf dvs.toArray k') :: news ∧ IntsAre dvs (depthsF (cs.take (i + 1)))) ?_ (fun _ _ => False) (fun _ _ => False) ?_ ?_ (fun _ _ _ _ h => h.elim) (fun _ _ _ _ _ h => h.elim)
  · refine ⟨⟨none, funext fun y => ?_⟩, [.int 0 s.toks], 0, rfl, ?_⟩
    · by_cases h : y = "cell"
      · subst h
        simp only [up, if_true]
        rw [if_neg (by decide +kernel), if_neg (by decide +kernel)]
      · simp [up, h]
    · have : depthsF (cs.take (0 + 1)) = [0] := by
        unfold depthsF
        rw [List.drop_eq_nil_of_le (by simp; omega)]; rfl
      rw [this]; exact IntsAre.cons _ _ IntsAre.nil
  · clear F2 N2
    rintro i v m₁ nx h tk I io hv hl' ⟨⟨u, rfl⟩, dvs, k', rfl, hd'⟩ hoff htk F2 N2
    refine hide_post fun Post1 hP1 => ?_
    have hp : kms_pick vs (some 1) none = vs.drop 1 := by
      unfold kms_pick
      rw [hi.length, h7]
      show (vs.drop 1).take 6 = _
      rw [List.take_of_length_le]
      rw [List.length_drop, hi.length, h7]; decide
    rw [hp] at hv
    rw [List.getElem?_drop] at hv
    have hlt : 1 + i < cs.length := by
      rw [← hi.length]
      exact (List.getElem?_eq_some_iff.mp hv).1
    obtain ⟨t, hvt⟩ := hi.get (1 + i) cs[1 + i] (by simp [hlt])
    obtain rfl : v = .int cs[1 + i] t := Option.some.inj (hv.symm.trans hvt)
    clear hv hvt
    have hok := depths_ok (cs.take (i + 1))
    have hdl : (depthsF (cs.take (i + 1))).length = i + 1 := by
      rw [depths_len _ (fun e => by have := congrArg List.length e; rw [List.length_take, List.length_nil] at this; omega), List.length_take]; omega
    have hsucc := depths_succ hlt
    have hds := hd'.length
    generalize hD : depthsF (cs.take (i + 1)) = ds at hd' hds hok hsucc hdl
    generalize hC : cs[1 + i] = c at F2 hsucc
    have hpos : 0 < ds.length := List.length_pos_iff.mpr hok.1
    have hlast := getD_last hok.1
    have h0 : 0 ≤ ds.getD (-1 + (ds.length : Int)).toNat 0 := by rw [hlast]; exact (hok.2 _ (last_mem hok.1)).1
    have hnI : l' ≠ I := hoff (l', _) (List.mem_cons_of_mem _ (List.mem_cons_self ..))
    have hne : ∀ p ∈ news ++ [(I, io)], p.1 ≠ l' := by
      intro p hp
      rcases List.mem_append.mp hp with q | q
      · exact Nat.ne_of_lt (l1 p q)
      · rw [List.mem_singleton.mp q]; exact Ne.symm hnI
    simp only [List.cons_append] at N2
    k_steps
    · rename Fr _ _ _ _ => F3
      rename News _ _ _ (_ :: _) => N3
      rename ds.getD _ 0 < 3 => hc
      refine hP1 _ _ <| turn_next ((D', listOf (kms_pick vs (some 1) none).toArray 0) :: (l', _) :: news) (m' := up "cell" (some (.int c t)) (up "depths" (some (.ref l')) (up "cells" (some (.ref lc)) fun _ => none))) (frc F3 fun y => congrFun (up_up "cell" _ _ _) y) N3 ?_ ⟨List.mem_cons_self .., ⟨_, rfl⟩, dvs ++ [_], _, by rw [← List.push_toArray], ?_⟩
      · intro p hp
        rcases List.mem_cons.mp hp with rfl | hp
        · exact hoff _ (List.mem_cons_self ..)
        rcases List.mem_cons.mp hp with rfl | hp
        · exact hnI
        · exact hoff _ (List.mem_cons_of_mem _ (List.mem_cons_of_mem _ hp))
      · rw [hsucc]
        unfold depthStep
        rw [hlast] at hc ⊢
        rw [if_pos hc, Int.fmod_eq_emod_of_nonneg _ (by have := (hok.2 _ (last_mem hok.1)).1; omega)]
        exact IntsAre.append hd' (.cons _ _ .nil)
    · rename Fr _ _ _ _ => F3
      rename News _ _ _ (_ :: _) => N3
      rename ¬ ds.getD _ 0 < 3 => hc
      refine hP1 _ _ <| turn_next ((D', listOf (kms_pick vs (some 1) none).toArray 0) :: (l', _) :: news) (m' := up "cell" (some (.int c t)) (up "depths" (some (.ref l')) (up "cells" (some (.ref lc)) fun _ => none))) (frc F3 fun y => congrFun (up_up "cell" _ _ _) y) N3 ?_ ⟨List.mem_cons_self .., ⟨_, rfl⟩, dvs ++ [_], _, by rw [← List.push_toArray], ?_⟩
      · intro p hp
        rcases List.mem_cons.mp hp with rfl | hp
        · exact hoff _ (List.mem_cons_self ..)
        rcases List.mem_cons.mp hp with rfl | hp
        · exact hnI
        · exact hoff _ (List.mem_cons_of_mem _ (List.mem_cons_of_mem _ hp))
      · rw [hsucc]
        unfold depthStep
        rw [hlast] at hc
        rw [if_neg hc, Int.fmod_eq_emod_of_nonneg _ (by decide)]
        exact IntsAre.append hd' (.cons _ _ .nil)
  · clear F2 N2
    rintro m₁ nx h tk hl' ⟨⟨u, rfl⟩, dvs, k', rfl, hd'⟩ htk F2 N2
    (try dsimp only)
    k_steps
    refine hP0 _ _ ?_
    refine ⟨h, tk, _, _, rfl, F2, fun p hp => N2 p (List.mem_cons_of_mem _ hp), l', dvs, k', rfl, rfl, ?_, l1⟩
    have : (kms_pick vs (some 1) none).length + 1 = cs.length := by
      unfold kms_pick
      rw [hi.length, h7]
      show ((vs.drop 1).take 6).length + 1 = _
      simp [hi.length, h7]
    rw [this, List.take_length] at hd'
    exact hd'
end

section
open PySem PySem.W PyProof.Rows
set_option Elab.async false
set_option maxRecDepth 100000
set_option maxHeartbeats 8000000
local macro_rules | `(tactic| walk_at "getMethod ref") => `(tactic| ((with_reducible show wpAny _ _ (getMethod (Value.ref _) (PySem.Str.ofString "search") _) _ _ _); refine getm_search (kin_fr (by assumption) (by assumption) _ _ (by k_is)) rfl rfl ?_))
local macro_rules | `(tactic| walk_at "call builtin:re.Pattern.search") => `(tactic| first | refine search_name (kin_fr (by assumption) (by assumption)) (by assumption) (by assumption) ?_ | refine search_val (kin_fr (by assumption) (by assumption)) (by assumption) (by assumption) ?_)
theorem b_conv {w : World} (self : Value) (x : Str) (tx : Tok) (b : Bool) (hp : Plain x) (hx : x.length ≤ 16777216) (news : Led) :
    Body w 0 0 "Headers._convert_string_type" s20m1 b20m1 220 (.ref 219) (fun y => if y = "name" then some (.bool b) else if y = "value" then some (.str x tx) else if y = "self" then some self else none) news
      (fun v n' _ => v = .str x tx ∧ n' = news) := by
  intro mean mg mb dp un gd outer A₀ base g L s B F X N T ht hd hu Aa
  refine hide_post fun Post0 hP0 => ?_
  dsimp only [b20m1, b20m1x]
  cases b
  all_goals
    k_steps
    exact hP0 _ _ <| body_ret (by assumption) (by assumption) ⟨rfl, rfl⟩
theorem does_conv {w : World} (self : Value) (x : Str) (tx : Tok) (b : Bool) (hp : Plain x) (hx : x.length ≤ 16777216) (news : Led) :
    Does w 1 3 (.ref 220) [self, .str x tx] news (fun v n' _ => v = .str x tx ∧ n' = news) [("name", .bool b)] := by
  refine does_fn (by k_is) (by k_is) (fun s _ => BindsTo.of_eq rfl) (locs rfl) (fun y => ?_) rfl rfl rfl (by decide) (@b_conv w self x tx b hp hx news)
  show List.lookup y [(("name" : Str), Value.bool b), ("value", Value.str x tx), ("self", self)] = _
  rw [lk, lk, lk]; rfl
end

section
open PySem PySem.W PyProof.Rows
set_option Elab.async false
set_option maxRecDepth 100000
set_option maxHeartbeats 8000000
abbrev hdD (w : World) (t : Tok) (l : Addr) : Obj := W.dictOf [⟨PyData.keyHash w.params "_headers", .str "_headers" t, .ref l⟩] 1
theorem b_init {w : World} (x d : Addr) (rest : Led) (l1 : ∀ p ∈ rest, p.1 < d) (l2 : @LT.lt Nat _ d x) :
    Body w 0 0 "Headers.__init__" s20m0 b20m0 213 (.ref 212) (fun y => if y = "headers" then some .none else if y = "self" then some (.ref x) else none) ((x, instObj 321 d) :: (d, W.dictOf [] 0) :: rest)
      (fun v n' _ => v = .none ∧ ∃ l t, n' = (l, listOf #[] 0) :: (x, instObj 321 d) :: (d, hdD w t l) :: rest ∧ @LT.lt Nat _ x l) := by
  intro mean mg mb dp un gd outer A₀ base g L s B F X N T ht hd hu Aa
  refine hide_post fun Post0 hP0 => ?_
  dsimp only [b20m0, b20m0x]
  have hr : ∀ p ∈ rest, p.1 ≠ d := fun p hp => Nat.ne_of_lt (l1 p hp)
  k_steps
  rename Fr _ _ _ _ => F3
  rename News _ _ _ _ => N3
  rename _ ∧ _ => l3
  refine for_pairs (vs := []) (lo := listOf #[] 0) (F := F3) (N := N3) rfl rfl rfl rfl (List.Mem.head _) ⟨rfl, _, rfl⟩ (by dsimp only; omega) (fun i m nx _ => nx = _) rfl (fun _ _ => False) (fun _ _ => False) (fun _ _ _ => False) (fun i v m nx tk h => by cases h) (fun i x y m₁ nx h tk I io h => absurd h (Nat.not_lt_zero i)) ?_ (fun _ _ _ _ h => h.elim) (fun _ _ _ _ _ h => h.elim)
  rintro m₁ nx h tk hl rfl htk F4 N4
  clear F3 N3
  (try dsimp only)
  k_steps
  exact hP0 _ _ <| body_fall (by assumption) (by assumption) ⟨rfl, _, _, rfl, l3.1⟩
theorem does_init {w : World} (x d : Addr) (rest : Led) (l1 : ∀ p ∈ rest, p.1 < d) (l2 : @LT.lt Nat _ d x) : Does w 1 3 (.ref 213) [.ref x] ((x, instObj 321 d) :: (d, W.dictOf [] 0) :: rest)
      (fun v n' _ => v = .none ∧ ∃ l t, n' = (l, listOf #[] 0) :: (x, instObj 321 d) :: (d, hdD w t l) :: rest ∧ @LT.lt Nat _ x l) := by
  refine does_fn (binds := [("self", .ref x), ("headers", .none)]) (by k_is) (by k_is) (fun s X => binds_K X rfl (by k_is) rfl rfl rfl) (locs rfl) (fun y => ?_) rfl rfl rfl (by decide) (@b_init w x d rest l1 l2)
  show List.lookup y [(("headers" : Str), Value.none), ("self", .ref x)] = _
  rw [lk, lk]; rfl
theorem does_make {w : World} {C fI : Addr} {D U : Nat} {pos : List Value} {kw : List (Str × Value)} {rest : Led} {post : Addr → Addr → Led → Prop} (hm : makesIn (K w.params) C = true) (hi : findIn (K w.params) (.ref C) "__init__" = some (some (.ref fI))) (hf : isFn (K w.params) (.ref fI) = true)
    (hC : ∀ x d, (∀ p ∈ rest, p.1 < d) → @LT.lt Nat _ d x → Does w D U (.ref fI) (.ref x :: pos) ((x, instObj C d) :: (d, W.dictOf [] 0) :: rest) (fun v n' _ => v = .none ∧ post x d n') kw) :
    Does w (D + 1) (U + 4) (.ref C) pos rest (fun v n' _ => ∃ x d, v = .ref x ∧ post x d n' ∧ @LT.lt Nat _ d x ∧ ∀ p ∈ rest, p.1 < d) kw := by
  intro mean mg mb dp un gd cn cs a ccd cl outer A₀ base h₀ L m s R B F X N T hk ht hd hu hret
  refine make_K F N (X.keeps F.keep) hm hi (beq_iff_eq.mp hf) fun x d h' F' N' l1 l2 => ?_
  refine hC x d l1 l2 mean mg mb _ _ _ cn cs a ccd cl outer A₀ base h₀ L m { s with heap := h' } _ B F' X N' T hk ht ?_ ?_ ?_
  · show dp + 1 + D < _
    omega
  · show un + _ + U < _
    have : (Code.builtin "type.__call__" ⟨.ref C :: pos, kw⟩).cUnits ≤ 4 := (show 1 + 3 * 0 ≤ 4 by decide)
    omega
  · rintro v h₁ tk' news' ⟨rfl, hp⟩ htk F₁ N₁
    exact ⟨rfl, hret _ h₁ tk' news' ⟨x, d, rfl, hp, l2, l1⟩ htk F₁ N₁⟩
theorem does_new {w : World} (rest : Led) : Does w 2 7 (.ref 321) [] rest (fun v n' _ => ∃ x d, v = .ref x ∧ (∃ l t, n' = (l, listOf #[] 0) :: (x, instObj 321 d) :: (d, hdD w t l) :: rest ∧ @LT.lt Nat _ x l) ∧ @LT.lt Nat _ d x ∧ ∀ p ∈ rest, p.1 < d) :=
  does_make (C := 321) (fI := 213) (by k_is) (by k_is) (by k_is) fun x d l1 l2 => does_init x d rest l1 l2
end

section
open PySem PySem.W PyProof.Rows
set_option Elab.async false
set_option maxRecDepth 100000
set_option maxHeartbeats 8000000
theorem low_plain {z : Str} (h : IsNm z) : Plain (lowN z) := by
  obtain ⟨j, hj, rfl | rfl⟩ := h
  · have : ∀ j < 7, ∀ c ∈ (lowN ⟨#[97 + j]⟩).cps.toList, 32 ≤ c ∧ c < 127 := by decide +kernel
    exact this j hj
  · have : ∀ j < 7, ∀ c ∈ (lowN ⟨#[65 + j]⟩).cps.toList, 32 ≤ c ∧ c < 127 := by decide +kernel
    exact this j hj
theorem low_len {z : Str} (h : IsNm z) : (lowN z).length ≤ 16777216 := by
  obtain ⟨j, hj, rfl | rfl⟩ := h <;> (unfold lowN; split <;> exact Nat.le_of_ble_eq_true rfl)
abbrev tup (a b : Str) (ta tb : Tok) (n : Nat) : Obj := { cls := .type "tuple", data := .seq #[.str a ta, .str b tb] n }
/-- the pairs of a Headers, as they lie -/
inductive Tups (rest : Led) : List Value → List (Str × Str) → Prop where
  | nil : Tups rest [] []
  | cons {vs H} (q : Addr) (a b : Str) (ta tb : Tok) (n : Nat) : (q, tup a b ta tb n) ∈ rest → Tups rest vs H → Tups rest (.ref q :: vs) ((a, b) :: H)
theorem Tups.len {rest : Led} {vs : List Value} {H : List (Str × Str)} (h : Tups rest vs H) : vs.length = H.length := by
  induction h with
  | nil => rfl
  | cons _ _ _ _ _ _ _ _ ih => simp [ih]
theorem Tups.get {rest : Led} {vs : List Value} {H : List (Str × Str)} (h : Tups rest vs H) : ∀ {i : Nat} {v : Value}, vs[i]? = some v → ∃ q a b ta tb n, v = .ref q ∧ H[i]? = some (a, b) ∧ (q, tup a b ta tb n) ∈ rest := by
  induction h with
  | nil => intro i v e; cases e
  | cons q a b ta tb n hm _ ih =>
    intro i v e
    cases i with
    | zero => cases e; exact ⟨q, a, b, ta, tb, n, rfl, rfl, hm⟩
    | succ i => exact ih (i := i) (by simpa using e)
theorem Tups.sub {rest rest' : Led} {vs : List Value} {H : List (Str × Str)} (h : Tups rest vs H) (hs : ∀ p ∈ rest, p ∈ rest') : Tups rest' vs H := by
  induction h with
  | nil => exact .nil
  | cons q a b ta tb n hm _ ih => exact .cons q a b ta tb n (hs _ hm) ih
theorem Tups.snoc {rest : Led} {vs : List Value} {H : List (Str × Str)} (h : Tups rest vs H) {q : Addr} {a b : Str} {ta tb : Tok} {n : Nat} (hm : (q, tup a b ta tb n) ∈ rest) : Tups rest (vs ++ [.ref q]) (H ++ [(a, b)]) := by
  induction h with
  | nil => exact .cons q a b ta tb n hm .nil
  | cons q' a' b' ta' tb' n' hm' _ ih => exact .cons q' a' b' ta' tb' n' hm' ih
theorem take_filter {α : Type} (p : α → Bool) {l : List α} {i : Nat} {x : α} (e : l[i]? = some x) : (l.take (i + 1)).filter p = (l.take i).filter p ++ if p x then [x] else [] := by
  rw [List.take_add_one, e, List.filter_append]
  by_cases h : p x <;> simp [h]
theorem cend {g : Heap} {L : Addr} {m : Str → Option Value} {s : Shared} {I : Addr} {oI : Obj} {C : Addr} {oC : Obj} {D : Addr} {oD : Obj} {S : Led → Prop} {J : Led → Nat → Prop} {h' : Heap} {tk' : Nat} (nx : Led) (F : Fr g L h' m) (N : News g L h' ((I, oI) :: (C, oC) :: (D, oD) :: nx)) (hoff : ∀ p ∈ nx, p.1 ≠ I ∧ p.1 ≠ C ∧ p.1 ≠ D) (hS : S nx) (hJ : J nx tk') :
    CEnd g L m s I oI C oC D oD S J { heap := h', gens := s.gens, drawn := s.drawn, toks := tk', os := s.os } := ⟨h', tk', nx, rfl, F, N, hoff, hS, hJ⟩
local macro_rules | `(tactic| walk_at $s) => if ["call ref"].contains s.getString then `(tactic| refine unmark ?_) else Lean.Macro.throwUnsupported
theorem b_del {w : World} (hl x d : Addr) (t : Tok) (vs : List Value) (k : Nat) (rest Rt : Led) (hRt : ∀ p ∈ Rt, p ∈ rest) (H : List (Str × Str)) (nm : Str) (tn : Tok) (hnm : IsNm nm) (hH : ∀ p ∈ H, IsNm p.1) (hT : Tups Rt vs H)
    (h1 : @Ne Nat hl x) (h2 : @Ne Nat hl d) (h3 : @Ne Nat x d) (hr : ∀ p ∈ rest, p.1 ≠ hl) (hsz : vs.length ≤ 1000) :
    BodyC w 1 3 "Headers.__delitem__" s20m4 b20m4 239 (.ref 238) (fun y => if y = "self" then some (.ref x) else none) (fun y => if y = "name" then some (.str nm tn) else none) ((hl, listOf vs.toArray k) :: (x, instObj 321 d) :: (d, hdD w t hl) :: rest)
      (fun v n' _ => v = .none ∧ ∃ vs' k', n' = (hl, listOf vs'.toArray k') :: (x, instObj 321 d) :: (d, hdD w t hl) :: rest ∧ Tups Rt vs' (H.filter fun p => lowN p.1 != lowN nm)) := by
  intro mean mg mb dp un gd outer A₀ base g L s cells B F X N Y T hlt ht hd hu Aa
  refine hide_post fun Post0 hP0 => ?_
  dsimp only [b20m4, b20m4x]
  obtain ⟨o', hE, hd'⟩ := CellsAre.one Y
  subst hE
  clear Y
  simp only [List.cons_append, List.nil_append] at N
  have q1 : @LT.lt Nat _ hl L := hlt (hl, _) (List.mem_cons_self ..)
  have q2 : @LT.lt Nat _ x L := hlt (x, _) (List.mem_cons_of_mem _ (List.mem_cons_self ..))
  have q3 : @LT.lt Nat _ d L := hlt (d, _) (List.mem_cons_of_mem _ (List.mem_cons_of_mem _ (List.mem_cons_self ..)))
  have q4 : ∀ p ∈ rest, p.1 < L := fun p hp => hlt p (List.mem_cons_of_mem _ (List.mem_cons_of_mem _ (List.mem_cons_of_mem _ hp)))
  have q5 : ∀ p ∈ rest, p.1 ≠ L + 1 := fun p hp => Nat.ne_of_lt (Nat.lt_succ_of_lt (q4 p hp))
  have hlow := nm_lower hnm
  have hfit := nm_lowfit hnm
  have hpl := low_plain hnm
  have hln := low_len hnm
  (k_steps; repeat' ((with_reducible refine mark ?_); (first | (((with_reducible show wpAny _ _ (call (Value.ref _) [_, Value.str _ _] (List.zip _ [Value.bool _])) _ _ _); (with_unfolding_all refine does_same (does_conv _ _ _ _ (by assumption) (by assumption) _) (by assumption) (by assumption) (by assumption) (by assumption) (by assumption) rfl (by (try dsimp only); (with_reducible exact Nat.le_add_left 1 _)) (by (with_reducible assumption)) (by (with_reducible assumption)) ?_); intro h' tk' ht' F' N'; try dsimp only))); k_steps))
  rename Fr _ _ _ _ => F3
  rename News _ _ _ _ => N3
  refine comp_list (vs := vs) (lo := listOf vs.toArray k) (F := F3) (N := N3) rfl (by decide) rfl rfl (List.Mem.tail _ (List.Mem.head _)) ⟨rfl, _, rfl⟩ (by unfold sizeLine; (with_reducible exact o_le (by assumption) (by decide))) (by dsimp only; (with_reducible exact Nat.le_add_left 1 _))
    (fun i ys nx _ => nx = _ ∧ Tups Rt ys ((H.take i).filter fun p => lowN p.1 != lowN nm)) ⟨rfl, .nil⟩ ?_ (.expr ?_)
  · clear F3 N3
    rintro i v ys _ tk hv hl' ⟨rfl, hys⟩ I oI C oC D m₂ h hoC hkv htk F4 N4 hoff ⟨i1, i2, i3⟩
    obtain ⟨q, a, b, ta, tb, n, rfl, hHi, hq⟩ := hT.get hv
    have hqr := hRt _ hq
    have hnm2 : IsNm a := hH (a, b) (List.mem_of_getElem? hHi)
    have hlow2 := nm_lower hnm2
    have hfit2 := nm_lowfit hnm2
    refine wpAny_tests_one ?_
    have htf := take_filter (fun p => lowN p.1 != lowN nm) hHi
    (k_steps; repeat' ((with_reducible refine mark ?_); (first | (((with_reducible show wpAny _ _ (call (Value.ref _) [_, Value.str _ _] (List.zip _ [Value.bool _])) _ _ _); (with_unfolding_all refine does_same (does_conv _ _ _ _ (by assumption) (by assumption) _) (by assumption) (by assumption) (by assumption) (by assumption) (by assumption) rfl (by (try dsimp only); omega) (by omega) (by omega) ?_); intro h' tk' ht' F' N'; try dsimp only))); k_steps))
    · rename (lowN a != lowN nm) = true => hc
      rw [if_pos hc] at htf
      exact cend _ (by assumption) (by assumption) hoff hl' ⟨rfl, htf ▸ hys.snoc hq⟩
    · rename (lowN a != lowN nm) = false => hc
      rw [if_neg (by rw [hc]; decide), List.append_nil] at htf
      exact cend _ (by assumption) (by assumption) hoff hl' ⟨rfl, htf ▸ hys⟩
  · clear F3 N3
    rintro D h tk ys _ F3 N3 hoff htk ⟨hl', rfl, hys⟩
    rw [hT.len, List.take_length] at hys
    (try dsimp only)
    (k_steps; repeat' ((with_reducible refine mark ?_); (first | (((with_reducible show wpAny _ _ (call (Value.ref _) [_, Value.str _ _] (List.zip _ [Value.bool _])) _ _ _); (with_unfolding_all refine does_same (does_conv _ _ _ _ (by assumption) (by assumption) _) (by assumption) (by assumption) (by assumption) (by assumption) (by assumption) rfl (by (try dsimp only); omega) (by omega) (by omega) ?_); intro h' tk' ht' F' N'; try dsimp only))); k_steps))
    obtain ⟨oc, N3⟩ : ∃ oc, News g L h ((D, lst ys) :: (L + 1, oc) :: (hl, listOf vs.toArray k) :: (x, instObj 321 d) :: (d, hdD w t hl) :: rest) := ⟨_, N3⟩
    have a1 : ∀ p ∈ (D, lst ys) :: (L + 1, oc) :: (x, instObj 321 d) :: (d, hdD w t hl) :: rest, p.1 ≠ hl := by
      refine List.forall_mem_cons.mpr ⟨?_, List.forall_mem_cons.mpr ⟨?_, List.forall_mem_cons.mpr ⟨Ne.symm h1, List.forall_mem_cons.mpr ⟨Ne.symm h2, hr⟩⟩⟩⟩
      · exact Ne.symm (hoff (hl, _) (by k_mem))
      · exact fun e => Nat.ne_of_lt (Nat.lt_succ_of_lt q1) e.symm
    refine set_slice (xs := vs.toArray) (n := k) (rest := (D, lst ys) :: (L + 1, oc) :: (x, instObj 321 d) :: (d, hdD w t hl) :: rest) F3 (fun p hp => N3 p ?_) a1 (List.Mem.head _) (by simpa using hsz) ?_ rfl fun h' n' F4 N4 => ?_
    · simp only [List.mem_cons] at hp ⊢
      rcases hp with h | h | h | h | h | h <;> simp [h]
    · have : ys.length ≤ vs.length := by rw [hys.len, hT.len]; exact List.length_filter_le ..
      simpa using Nat.le_trans this hsz
    · clear F3 N3
      (try dsimp only)
      (k_steps; repeat' ((with_reducible refine mark ?_); (first | (((with_reducible show wpAny _ _ (call (Value.ref _) [_, Value.str _ _] (List.zip _ [Value.bool _])) _ _ _); (with_unfolding_all refine does_same (does_conv _ _ _ _ (by assumption) (by assumption) _) (by assumption) (by assumption) (by assumption) (by assumption) (by assumption) rfl (by (try dsimp only); omega) (by omega) (by omega) ?_); intro h' tk' ht' F' N'; try dsimp only))); k_steps))
      exact hP0 _ _ <| body_fall F4 (fun p hp => N4 p (by simp only [List.mem_cons] at hp ⊢; rcases hp with h | h | h | h <;> simp [h])) ⟨rfl, ys, n', rfl, hys⟩
theorem does_del {w : World} (hl x d : Addr) (t : Tok) (vs : List Value) (k : Nat) (rest Rt : Led) (hRt : ∀ p ∈ Rt, p ∈ rest) (H : List (Str × Str)) (nm : Str) (tn : Tok) (hnm : IsNm nm) (hH : ∀ p ∈ H, IsNm p.1) (hT : Tups Rt vs H)
    (h1 : @Ne Nat hl x) (h2 : @Ne Nat hl d) (h3 : @Ne Nat x d) (hr : ∀ p ∈ rest, p.1 ≠ hl) (hsz : vs.length ≤ 1000) :
    Does w 2 6 (.ref 239) [.ref x, .str nm tn] ((hl, listOf vs.toArray k) :: (x, instObj 321 d) :: (d, hdD w t hl) :: rest)
      (fun v n' _ => v = .none ∧ ∃ vs' k', n' = (hl, listOf vs'.toArray k') :: (x, instObj 321 d) :: (d, hdD w t hl) :: rest ∧ Tups Rt vs' (H.filter fun p => lowN p.1 != lowN nm)) := by
  refine does_fnC (binds := [("self", .ref x), ("name", .str nm tn)]) (by k_is) (by k_is) (fun s X => BindsTo.of_eq rfl) rfl (by decide) (fun L => ?_) (fun L => ?_) rfl rfl rfl (@b_del w hl x d t vs k rest Rt hRt H nm tn hnm hH hT h1 h2 h3 hr hsz)
  · rfl
  · rfl
end

section
open PySem PySem.W PyProof.Rows
set_option Elab.async false
set_option maxRecDepth 100000
set_option maxHeartbeats 8000000
local macro_rules | `(tactic| walk_at $s) => if ["call ref"].contains s.getString then `(tactic| refine unmark ?_) else Lean.Macro.throwUnsupported
local macro_rules | `(tactic| walk_at "delItem ref") => `(tactic| (k_here; k_dflt (refine' del_item ?F ?X ?I ?hQ ?hS ?hF ?_; (case F => k_asm); (case X => k_asm); (case I => k_inst); (case hS => k_is); (case hF => k_is); (case hQ => k_is); k_whole)))
theorem b_set {w : World} (hl x d : Addr) (t : Tok) (vs : List Value) (k : Nat) (rest Rt : Led) (hRt : ∀ p ∈ Rt, p ∈ rest) (H : List (Str × Str)) (nm : Str) (tn : Tok) (val : Str) (tv : Tok) (hnm : IsNm nm) (hpn : Plain nm) (hln : nm.length ≤ 16777216) (hpv : Plain val) (hlv : val.length ≤ 16777216) (hH : ∀ p ∈ H, IsNm p.1) (hT : Tups Rt vs H)
    (h1 : @Ne Nat hl x) (h2 : @Ne Nat hl d) (h3 : @Ne Nat x d) (hr : ∀ p ∈ rest, p.1 ≠ hl) (hsz : vs.length ≤ 1000) :
    Body w 3 9 "Headers.__setitem__" s20m3 b20m3 234 (.ref 233) (fun y => if y = "val" then some (.str val tv) else if y = "name" then some (.str nm tn) else if y = "self" then some (.ref x) else none) ((hl, listOf vs.toArray k) :: (x, instObj 321 d) :: (d, hdD w t hl) :: rest)
      (fun v n' _ => v = .none ∧ ∃ vs' k' q, n' = (hl, listOf vs'.toArray k') :: (q, tup nm val tn tv 0) :: (x, instObj 321 d) :: (d, hdD w t hl) :: rest ∧ Tups ((q, tup nm val tn tv 0) :: Rt) vs' (H.filter (fun p => lowN p.1 != lowN nm) ++ [(nm, val)]) ∧ @LT.lt Nat _ hl q ∧ @LT.lt Nat _ x q ∧ @LT.lt Nat _ d q ∧ ∀ p ∈ rest, p.1 < q) := by
  intro mean mg mb dp un gd outer A₀ base g L s B F X N T ht hd hu Aa
  refine hide_post fun Post0 hP0 => ?_
  dsimp only [b20m3, b20m3x]
  (k_steps; repeat' ((with_reducible refine mark ?_); (first | (((with_reducible show wpAny _ _ (call (Value.ref 239) _ _) _ _ _); (with_unfolding_all refine does_call (does_del _ _ _ _ _ _ _ _ (by assumption) _ _ _ (by assumption) (by assumption) (by assumption) (by assumption) (by assumption) (by assumption) (by assumption) (by assumption)) (by assumption) (by assumption) (by assumption) (by assumption) (by assumption) rfl (by (try dsimp only); (with_reducible assumption)) (by (with_reducible exact o_room (by assumption) (by decide))) (by (with_reducible exact o_room (by assumption) (by decide))) ?_); intro v' h' tk' n' hp' ht' F' N'; obtain ⟨hv, vs', k', hn, hT'⟩ := hp'; subst hv; subst hn; try dsimp only)) | (((with_reducible show wpAny _ _ (call (Value.ref _) [_, Value.str _ _] (List.zip _ [Value.bool _])) _ _ _); (with_unfolding_all refine does_same (does_conv _ _ _ _ (by assumption) (by assumption) _) (by assumption) (by assumption) (by assumption) (by assumption) (by assumption) rfl (by (try dsimp only); (with_reducible exact Nat.le_add_left 1 _)) (by (with_reducible exact o_room (by assumption) (by decide))) (by (with_reducible exact o_room (by assumption) (by decide))) ?_); intro h' tk' ht' F' N'; try dsimp only))); k_steps))
  rename Fr _ _ _ _ => F3
  rename News _ _ _ _ => N3
  rename Tups _ _ (List.filter _ _) => hT'
  rename hl < _ ∧ _ => l1
  obtain ⟨a1, a2, a3, a4⟩ := l1
  have a4 := allLt_mem a4
  have hT2 := hT'.len
  refine app_led F3 (news_swap N3) ?_ ?_ fun h' F4 N4 => ?_
  · refine List.forall_mem_cons.mpr ⟨Ne.symm (Nat.ne_of_lt a1), List.forall_mem_cons.mpr ⟨Ne.symm h1, List.forall_mem_cons.mpr ⟨Ne.symm h2, hr⟩⟩⟩
  · have := List.length_filter_le (fun p : Str × Str => lowN p.1 != lowN nm) H
    have := hT.len
    omega
  · clear F3 N3
    (try dsimp only)
    (k_steps; repeat' ((with_reducible refine mark ?_); (first | (((with_reducible show wpAny _ _ (call (Value.ref 239) _ _) _ _ _); (with_unfolding_all refine does_call (does_del _ _ _ _ _ _ _ _ (by assumption) _ _ _ (by assumption) (by assumption) (by assumption) (by assumption) (by assumption) (by assumption) (by assumption) (by assumption)) (by assumption) (by assumption) (by assumption) (by assumption) (by assumption) rfl (by (try dsimp only); omega) (by omega) (by omega) ?_); intro v' h' tk' n' hp' ht' F' N'; obtain ⟨hv, vs', k', hn, hT'⟩ := hp'; subst hv; subst hn; try dsimp only)) | (((with_reducible show wpAny _ _ (call (Value.ref _) [_, Value.str _ _] (List.zip _ [Value.bool _])) _ _ _); (with_unfolding_all refine does_same (does_conv _ _ _ _ (by assumption) (by assumption) _) (by assumption) (by assumption) (by assumption) (by assumption) (by assumption) rfl (by (try dsimp only); omega) (by omega) (by omega) ?_); intro h' tk' ht' F' N'; try dsimp only))); k_steps))
    exact hP0 _ _ <| body_fall F4 N4 ⟨rfl, _, _, _, rfl, (hT'.sub fun p hp => List.mem_cons_of_mem _ hp).snoc (List.mem_cons_self ..), a1, a2, a3, a4⟩
theorem does_set {w : World} (hl x d : Addr) (t : Tok) (vs : List Value) (k : Nat) (rest Rt : Led) (hRt : ∀ p ∈ Rt, p ∈ rest) (H : List (Str × Str)) (nm : Str) (tn : Tok) (val : Str) (tv : Tok) (hnm : IsNm nm) (hpn : Plain nm) (hln : nm.length ≤ 16777216) (hpv : Plain val) (hlv : val.length ≤ 16777216) (hH : ∀ p ∈ H, IsNm p.1) (hT : Tups Rt vs H)
    (h1 : @Ne Nat hl x) (h2 : @Ne Nat hl d) (h3 : @Ne Nat x d) (hr : ∀ p ∈ rest, p.1 ≠ hl) (hsz : vs.length ≤ 1000) :
    Does w 4 12 (.ref 234) [.ref x, .str nm tn, .str val tv] ((hl, listOf vs.toArray k) :: (x, instObj 321 d) :: (d, hdD w t hl) :: rest)
      (fun v n' _ => v = .none ∧ ∃ vs' k' q, n' = (hl, listOf vs'.toArray k') :: (q, tup nm val tn tv 0) :: (x, instObj 321 d) :: (d, hdD w t hl) :: rest ∧ Tups ((q, tup nm val tn tv 0) :: Rt) vs' (H.filter (fun p => lowN p.1 != lowN nm) ++ [(nm, val)]) ∧ @LT.lt Nat _ hl q ∧ @LT.lt Nat _ x q ∧ @LT.lt Nat _ d q ∧ ∀ p ∈ rest, p.1 < q) := by
  refine does_fn (binds := [("self", .ref x), ("name", .str nm tn), ("val", .str val tv)]) (by k_is) (by k_is) (fun s X => BindsTo.of_eq rfl) (locs rfl) (fun y => ?_) rfl rfl rfl (by decide) (@b_set w hl x d t vs k rest Rt hRt H nm tn val tv hnm hpn hln hpv hlv hH hT h1 h2 h3 hr hsz)
  show List.lookup y [(("val" : Str), Value.str val tv), ("name", .str nm tn), ("self", .ref x)] = _
  rw [lk, lk, lk]; rfl
end

section
open PySem PySem.W PyProof.Rows
set_option Elab.async false
set_option maxRecDepth 100000
set_option maxHeartbeats 8000000
local macro_rules | `(tactic| walk_at $s) => if ["call ref"].contains s.getString then `(tactic| refine unmark ?_) else Lean.Macro.throwUnsupported
theorem up4 (v k : Str) (a b c e : Option Value) (M : Str → Option Value) : up v a (up k b (up v c (up k e M))) = up v a (up k b M) := funext fun y => by
  by_cases h1 : y = v
  · simp [up, h1]
  · by_cases h2 : y = k <;> simp [up, h1, h2]
theorem turn_ret {g : Heap} {L I : Addr} {own : Led} {J : (Str → Option Value) → Led → Nat → Prop} {Bk : (Str → Option Value) → Led → Prop} {Rt : Value → Led → Prop} {s : Shared} {h' : Heap} {tk' : Nat} {m' : Str → Option Value} {v : Value} (all : Led) (F : Fr g L h' m') (N : News g L h' all) (h : Rt v all) :
    TurnPost g L own I J Bk Rt s (.ret v) { heap := h', gens := s.gens, drawn := s.drawn, toks := tk', os := s.os } := ⟨h', tk', m', all, rfl, F, N, h⟩
theorem up_none {x : Str} {m : Str → Option Value} (h : m x = none) : m = up x none m := funext fun y => by
  by_cases e : y = x
  · subst e; simp [up, h]
  · simp [up, e]
theorem find_at {α : Type} {p : α → Bool} {l : List α} {i : Nat} {x : α} (hx : l[i]? = some x) (hp : p x = true) (hn : ∀ j y, j < i → l[j]? = some y → p y = false) : l.find? p = some x := by
  induction l generalizing i with
  | nil => cases hx
  | cons a r ih =>
    cases i with
    | zero => cases hx; simp [List.find?_cons, hp]
    | succ i =>
      have := hn 0 a (Nat.succ_pos _) rfl
      rw [List.find?_cons, this]
      exact ih (i := i) (by simpa using hx) fun j y hj hy => hn (j + 1) y (by omega) (by simpa using hy)
theorem b_get {w : World} (hl x d : Addr) (t : Tok) (vs : List Value) (k : Nat) (rest : Led) (H : List (Str × Str)) (nm : Str) (tn : Tok) (val : Str) (hnm : IsNm nm) (hH : ∀ p ∈ H, IsNm p.1) (hT : Tups rest vs H)
    (hv : (H.find? fun p => lowN p.1 == lowN nm).map (·.2) = some val) (hsz : vs.length ≤ 1000) :
    Body w 2 6 "Headers.get" s20m8 b20m8 268 (.ref 267) (fun y => if y = "default" then some .none else if y = "name" then some (.str nm tn) else if y = "self" then some (.ref x) else none) ((hl, listOf vs.toArray k) :: (x, instObj 321 d) :: (d, hdD w t hl) :: rest)
      (fun v n' _ => n' = (hl, listOf vs.toArray k) :: (x, instObj 321 d) :: (d, hdD w t hl) :: rest ∧ ∃ tv, v = .str val tv) := by
  intro mean mg mb dp un gd outer A₀ base g L s B F X N T ht hd hu Aa
  refine hide_post fun Post0 hP0 => ?_
  dsimp only [b20m8, b20m8x]
  have hlow := nm_lower hnm
  have hfit := nm_lowfit hnm
  have hpl := low_plain hnm
  have hln := low_len hnm
  (k_steps; repeat' ((with_reducible refine mark ?_); (first | (((with_reducible show wpAny _ _ (call (Value.ref _) [_, Value.str _ _] (List.zip _ [Value.bool _])) _ _ _); (with_unfolding_all refine does_same (does_conv _ _ _ _ (by assumption) (by assumption) _) (by assumption) (by assumption) (by assumption) (by assumption) (by assumption) rfl (by (try dsimp only); (with_reducible exact Nat.le_add_left 1 _)) (by (with_reducible exact o_room (by assumption) (by decide))) (by (with_reducible exact o_room (by assumption) (by decide))) ?_); intro h' tk' ht' F' N'; try dsimp only))); k_steps))
  rename Fr _ _ _ _ => F3
  rename News _ _ _ _ => N3
  obtain ⟨t', F3⟩ : ∃ t', Fr g L _ (up "name" (some (.str (lowN nm) t')) (fun y => if y = "default" then some .none else if y = "name" then some (.str nm tn) else if y = "self" then some (.ref x) else none)) := ⟨_, F3⟩
  refine for_pairs (vs := vs) (lo := listOf vs.toArray k) (F := F3) (N := N3) rfl rfl rfl rfl (List.Mem.head _) ⟨rfl, _, rfl⟩ (by dsimp only; (with_reducible exact Nat.le_add_left 1 _))
    (fun i m nx _ => (∃ u1 u2, m = up "v" u2 (up "k" u1 (up "name" (some (.str (lowN nm) t')) (fun y => if y = "default" then some .none else if y = "name" then some (.str nm tn) else if y = "self" then some (.ref x) else none)))) ∧ nx = (hl, listOf vs.toArray k) :: (x, instObj 321 d) :: (d, hdD w t hl) :: rest ∧ ∀ j y, j < i → H[j]? = some y → (lowN y.1 == lowN nm) = false)
    ⟨⟨none, none, ?_⟩, rfl, fun j y h => absurd h (Nat.not_lt_zero j)⟩ (fun _ _ => False) (fun v nx => nx = (hl, listOf vs.toArray k) :: (x, instObj 321 d) :: (d, hdD w t hl) :: rest ∧ ∃ tv, v = .str val tv)
    (fun i x y => ∃ a b ta tb, x = .str a ta ∧ y = .str b tb ∧ H[i]? = some (a, b)) ?_ ?_ ?_ (fun _ _ _ _ h => h.elim) ?_
  · rw [← up_none, ← up_none]
    · simp only [up]; rw [if_neg (by decide +kernel), if_neg (by decide +kernel), if_neg (by decide +kernel), if_neg (by decide +kernel)]
    · simp only [up]; rw [if_neg (by decide +kernel), if_neg (by decide +kernel), if_neg (by decide +kernel), if_neg (by decide +kernel), if_neg (by decide +kernel)]
  · rintro i v m nx tk hv' ⟨_, rfl, _⟩
    obtain ⟨q, a, b, ta, tb, n, rfl, hHi, hq⟩ := hT.get hv'
    exact ⟨q, _, _, _, _, rfl, by k_mem, rfl, rfl, a, b, ta, tb, rfl, rfl, hHi⟩
  · clear F3 N3
    rintro i _ _ m₁ _ h tk I io hi ⟨a, b, ta, tb, rfl, rfl, hHi⟩ hl' ⟨⟨u1, u2, rfl⟩, rfl, hno⟩ hoff htk F4 N4
    refine hide_post fun Post1 hP1 => ?_
    have hnm2 : IsNm a := hH (a, b) (List.mem_of_getElem? hHi)
    have hlow2 := nm_lower hnm2
    have hfit2 := nm_lowfit hnm2
    simp only [List.cons_append] at N4
    (k_steps; repeat' ((with_reducible refine mark ?_); (first | (((with_reducible show wpAny _ _ (call (Value.ref _) [_, Value.str _ _] (List.zip _ [Value.bool _])) _ _ _); (with_unfolding_all refine does_same (does_conv _ _ _ _ (by assumption) (by assumption) _) (by assumption) (by assumption) (by assumption) (by assumption) (by assumption) rfl (by (try dsimp only); omega) (by omega) (by omega) ?_); intro h' tk' ht' F' N'; try dsimp only))); k_steps))
    · rename Fr _ _ _ _ => F5
      rename News _ _ _ _ => N5
      rename (lowN a == lowN nm) = true => hc
      rw [find_at (p := fun p : Str × Str => lowN p.1 == lowN nm) hHi hc hno] at hv
      cases hv
      exact hP1 _ _ <| turn_ret _ F5 (fun p hp => N5 p (by simp only [List.mem_cons, List.mem_append] at hp ⊢; rcases hp with h | h | h | h <;> simp [h])) ⟨rfl, _, rfl⟩
    · rename Fr _ _ _ _ => F5
      rename News _ _ _ _ => N5
      rename (lowN a == lowN nm) = false => hc
      refine hP1 _ _ <| turn_next ((hl, listOf vs.toArray k) :: (x, instObj 321 d) :: (d, hdD w t hl) :: rest) (frc F5 fun y => congrFun (up4 _ _ _ _ _ _ _) y) N5 hoff ⟨hl', ⟨_, _, rfl⟩, rfl, fun j y hj hy => ?_⟩
      by_cases h : j = i
      · subst h
        rw [hHi] at hy
        cases hy
        exact hc
      · exact hno j y (by omega) hy
  · clear F3 N3
    rintro m₁ _ h tk hl' ⟨_, rfl, hno⟩ htk F4 N4
    exfalso
    cases hf : H.find? fun p => lowN p.1 == lowN nm with
    | none => rw [hf] at hv; cases hv
    | some y =>
      obtain ⟨j, hj⟩ := List.getElem?_of_mem (List.mem_of_find?_eq_some hf)
      have := hno j y (by rw [hT.len]; exact (List.getElem?_eq_some_iff.mp hj).1) hj
      have h2 := List.find?_some hf
      rw [this] at h2; cases h2
  · rintro v m₁ _ h tk ⟨rfl, hv'⟩ htk F4 N4
    exact hP0 _ _ <| body_ret F4 N4 ⟨rfl, hv'⟩
theorem does_get {w : World} (hl x d : Addr) (t : Tok) (vs : List Value) (k : Nat) (rest : Led) (H : List (Str × Str)) (nm : Str) (tn : Tok) (val : Str) (hnm : IsNm nm) (hH : ∀ p ∈ H, IsNm p.1) (hT : Tups rest vs H)
    (hv : (H.find? fun p => lowN p.1 == lowN nm).map (·.2) = some val) (hsz : vs.length ≤ 1000) :
    Does w 3 9 (.ref 268) [.ref x, .str nm tn] ((hl, listOf vs.toArray k) :: (x, instObj 321 d) :: (d, hdD w t hl) :: rest)
      (fun v n' _ => n' = (hl, listOf vs.toArray k) :: (x, instObj 321 d) :: (d, hdD w t hl) :: rest ∧ ∃ tv, v = .str val tv) := by
  refine does_fn (binds := [("self", .ref x), ("name", .str nm tn), ("default", .none)]) (by k_is) (by k_is) (fun s X => binds_K X rfl (by k_is) rfl rfl rfl) (locs rfl) (fun y => ?_) rfl rfl rfl (by decide) (@b_get w hl x d t vs k rest H nm tn val hnm hH hT hv hsz)
  show List.lookup y [(("default" : Str), Value.none), ("name", .str nm tn), ("self", .ref x)] = _
  rw [lk, lk, lk]; rfl
end

section
open PySem PySem.W PyProof.Rows
set_option Elab.async false
set_option maxRecDepth 100000
set_option maxHeartbeats 8000000
theorem b_len {w : World} (hl x d : Addr) (t : Tok) (vs : List Value) (k : Nat) (rest : Led) (hsz : vs.length ≤ 1000) :
    Body w 0 0 "Headers.__len__" s20m2 b20m2 227 (.ref 226) (fun y => if y = "self" then some (.ref x) else none) ((hl, listOf vs.toArray k) :: (x, instObj 321 d) :: (d, hdD w t hl) :: rest)
      (fun v n' _ => n' = (hl, listOf vs.toArray k) :: (x, instObj 321 d) :: (d, hdD w t hl) :: rest ∧ ∃ tv, v = .int vs.length tv) := by
  intro mean mg mb dp un gd outer A₀ base g L s B F X N T ht hd hu Aa
  refine hide_post fun Post0 hP0 => ?_
  dsimp only [b20m2, b20m2x]
  k_steps
  rename Fr _ _ _ _ => F3
  rename News _ _ _ _ => N3
  refine PySem.Calls.call_len_list (items := vs.toArray) ⟨_, (N3 (hl, listOf vs.toArray k) (List.mem_cons_self ..)).1, rfl, _, rfl⟩ (by rw [List.size_toArray]; omega) ?_
  first
    | exact hP0 _ _ <| body_ret F3 N3 ⟨rfl, _, rfl⟩
    | (try dsimp only; fail "L")
theorem b_items {w : World} (hl x d : Addr) (t : Tok) (k : Nat) (rest : Led) :
    Body w 0 0 "Headers.items" s20m11 b20m11 285 (.ref 284) (fun y => if y = "self" then some (.ref x) else none) ((hl, listOf #[] k) :: (x, instObj 321 d) :: (d, hdD w t hl) :: rest)
      (fun v n' _ => ∃ r k', n' = (r, listOf #[] k') :: (hl, listOf #[] k) :: (x, instObj 321 d) :: (d, hdD w t hl) :: rest ∧ v = .ref r) := by
  intro mean mg mb dp un gd outer A₀ base g L s B F X N T ht hd hu Aa
  refine hide_post fun Post0 hP0 => ?_
  dsimp only [b20m11, b20m11x]
  have hz : (#[] : Array Value).size ≤ sizeLine := by decide
  k_steps
  rename Fr _ _ _ _ => F3
  rename News _ _ _ _ => N3
  exact hP0 _ _ <| body_ret F3 N3 ⟨_, 0, rfl, rfl⟩
theorem b_keys {w : World} (hl x d : Addr) (t : Tok) (vs : List Value) (k : Nat) (rest Rt : Led) (hRt : ∀ p ∈ Rt, p ∈ rest) (H : List (Str × Str)) (hT : Tups Rt vs H) (hsz : vs.length ≤ 1000) :
    Body w 0 0 "Headers.keys" s20m10 b20m9 273 (.ref 272) (fun y => if y = "self" then some (.ref x) else none) ((hl, listOf vs.toArray k) :: (x, instObj 321 d) :: (d, hdD w t hl) :: rest)
      (fun v n' _ => ∃ r ys, n' = (r, lst ys) :: (hl, listOf vs.toArray k) :: (x, instObj 321 d) :: (d, hdD w t hl) :: rest ∧ v = .ref r ∧ (∀ p ∈ (hl, listOf vs.toArray k) :: (x, instObj 321 d) :: (d, hdD w t hl) :: rest, p.1 ≠ r) ∧ ys.length = H.length ∧ ∀ (i : Nat) (p : Str × Str), H[i]? = some p → ∃ q tk tb n, (q, tup p.1 p.2 tk tb n) ∈ Rt ∧ ys[i]? = some (Value.str p.1 tk)) := by
  intro mean mg mb dp un gd outer A₀ base g L s B F X N T ht hd hu Aa
  refine hide_post fun Post0 hP0 => ?_
  dsimp only [b20m9, b20m9x]
  k_steps
  rename Fr _ _ _ _ => F3
  rename News _ _ _ _ => N3
  refine comp_pairs (vs := vs) (lo := listOf vs.toArray k) (F := F3) (N := N3) rfl (by decide) rfl rfl rfl (by decide) (List.Mem.head _) ⟨rfl, _, rfl⟩ (by unfold sizeLine; omega) (by dsimp only; omega)
    (fun i ys nx _ => nx = (hl, listOf vs.toArray k) :: (x, instObj 321 d) :: (d, hdD w t hl) :: rest ∧ ys.length = i ∧ ∀ (j : Nat) (p : Str × Str), j < i → H[j]? = some p → ∃ q tk tb n, (q, tup p.1 p.2 tk tb n) ∈ Rt ∧ ys[j]? = some (Value.str p.1 tk)) ⟨rfl, rfl, fun j p h => absurd h (Nat.not_lt_zero j)⟩
    (fun i x y => ∃ a b ta tb q n, x = .str a ta ∧ y = .str b tb ∧ H[i]? = some (a, b) ∧ (q, tup a b ta tb n) ∈ Rt) ?_ ?_ (.expr ?_)
  · rintro i v ys nx tk hv' ⟨rfl, _⟩
    obtain ⟨q, a, b, ta, tb, n, rfl, hHi, hq⟩ := hT.get hv'
    have hqr := hRt _ hq
    exact ⟨q, _, _, _, _, rfl, by k_mem, rfl, rfl, a, b, ta, tb, q, n, rfl, rfl, hHi, hq⟩
  · clear F3 N3
    rintro i _ _ ys _ tk hi ⟨a, b, ta, tb, qq, nn, rfl, rfl, hHi, hqq⟩ hl' ⟨rfl, hlen, hys⟩ I oI C oC D m₂ h hoC ⟨hk1, hk2⟩ htk F4 N4 hoff ⟨i1, i2, i3⟩
    refine wpAny_tests_nil ?_
    simp only [if_true]
    k_steps
    refine cend _ (by assumption) (by assumption) hoff hl' ⟨rfl, by simp [hlen], fun j p hj hp => ?_⟩
    by_cases e : j = i
    · subst e
      rw [hHi] at hp
      cases hp
      exact ⟨qq, ta, tb, nn, hqq, by rw [List.getElem?_append_right (by omega)]; simp [hlen]⟩
    · obtain ⟨qz, tk, tbz, nz, hqz, e2⟩ := hys j p (by omega) hp
      exact ⟨qz, tk, tbz, nz, hqz, by rw [List.getElem?_append_left (by omega)]; exact e2⟩
  · clear F3 N3
    rintro D h tk ys _ F3 N3 hoff htk ⟨hl', rfl, hlen, hys⟩
    (try dsimp only)
    exact hP0 _ _ <| body_ret F3 N3 ⟨_, ys, rfl, rfl, hoff, by rw [hlen, hT.len], fun i p hp => hys i p (by rw [hT.len]; exact (List.getElem?_eq_some_iff.mp hp).1) hp⟩
theorem does_len {w : World} (hl x d : Addr) (t : Tok) (vs : List Value) (k : Nat) (rest : Led) (hsz : vs.length ≤ 1000) :
    Does w 1 3 (.ref 227) [.ref x] ((hl, listOf vs.toArray k) :: (x, instObj 321 d) :: (d, hdD w t hl) :: rest)
      (fun v n' _ => n' = (hl, listOf vs.toArray k) :: (x, instObj 321 d) :: (d, hdD w t hl) :: rest ∧ ∃ tv, v = .int vs.length tv) := by
  refine does_fn (binds := [("self", .ref x)]) (by k_is) (by k_is) (fun s X => BindsTo.of_eq rfl) (locs rfl) (fun y => ?_) rfl rfl rfl (by decide) (@b_len w hl x d t vs k rest hsz)
  show List.lookup y [(("self" : Str), Value.ref x)] = _
  rw [lk]; rfl
theorem does_items {w : World} (hl x d : Addr) (t : Tok) (k : Nat) (rest : Led) :
    Does w 1 3 (.ref 285) [.ref x] ((hl, listOf #[] k) :: (x, instObj 321 d) :: (d, hdD w t hl) :: rest)
      (fun v n' _ => ∃ r k', n' = (r, listOf #[] k') :: (hl, listOf #[] k) :: (x, instObj 321 d) :: (d, hdD w t hl) :: rest ∧ v = .ref r) := by
  refine does_fn (binds := [("self", .ref x)]) (by k_is) (by k_is) (fun s X => BindsTo.of_eq rfl) (locs rfl) (fun y => ?_) rfl rfl rfl (by decide) (@b_items w hl x d t k rest)
  show List.lookup y [(("self" : Str), Value.ref x)] = _
  rw [lk]; rfl
theorem does_keys {w : World} (hl x d : Addr) (t : Tok) (vs : List Value) (k : Nat) (rest Rt : Led) (hRt : ∀ p ∈ Rt, p ∈ rest) (H : List (Str × Str)) (hT : Tups Rt vs H) (hsz : vs.length ≤ 1000) :
    Does w 1 3 (.ref 273) [.ref x] ((hl, listOf vs.toArray k) :: (x, instObj 321 d) :: (d, hdD w t hl) :: rest)
      (fun v n' _ => ∃ r ys, n' = (r, lst ys) :: (hl, listOf vs.toArray k) :: (x, instObj 321 d) :: (d, hdD w t hl) :: rest ∧ v = .ref r ∧ (∀ p ∈ (hl, listOf vs.toArray k) :: (x, instObj 321 d) :: (d, hdD w t hl) :: rest, p.1 ≠ r) ∧ ys.length = H.length ∧ ∀ (i : Nat) (p : Str × Str), H[i]? = some p → ∃ q tk tb n, (q, tup p.1 p.2 tk tb n) ∈ Rt ∧ ys[i]? = some (Value.str p.1 tk)) := by
  refine does_fn (binds := [("self", .ref x)]) (by k_is) (by k_is) (fun s X => BindsTo.of_eq rfl) (locs rfl) (fun y => ?_) rfl rfl rfl (by decide) (@b_keys w hl x d t vs k rest Rt hRt H hT hsz)
  show List.lookup y [(("self" : Str), Value.ref x)] = _
  rw [lk]; rfl
end

section
open PySem PySem.W PyProof.Rows
set_option Elab.async false
set_option maxRecDepth 100000
set_option maxHeartbeats 8000000
local macro_rules | `(tactic| walk_at $s) => if ["call ref"].contains s.getString then `(tactic| refine unmark ?_) else Lean.Macro.throwUnsupported
theorem b_getitem {w : World} (hl x d : Addr) (t : Tok) (vs : List Value) (k : Nat) (rest : Led) (H : List (Str × Str)) (nm : Str) (tn : Tok) (val : Str) (hnm : IsNm nm) (hH : ∀ p ∈ H, IsNm p.1) (hT : Tups rest vs H)
    (hv : (H.find? fun p => lowN p.1 == lowN nm).map (·.2) = some val) (hsz : vs.length ≤ 1000) :
    Body w 3 9 "Headers.__getitem__" s20m6 b20m5 246 (.ref 245) (fun y => if y = "name" then some (.str nm tn) else if y = "self" then some (.ref x) else none) ((hl, listOf vs.toArray k) :: (x, instObj 321 d) :: (d, hdD w t hl) :: rest)
      (fun v n' _ => n' = (hl, listOf vs.toArray k) :: (x, instObj 321 d) :: (d, hdD w t hl) :: rest ∧ ∃ tv, v = .str val tv) := by
  intro mean mg mb dp un gd outer A₀ base g L s B F X N T ht hd hu Aa
  refine hide_post fun Post0 hP0 => ?_
  dsimp only [b20m5, b20m5x]
  (k_steps; repeat' ((with_reducible refine mark ?_); (first | (((with_reducible show wpAny _ _ (call (Value.ref _) [_, Value.str _ _] (List.zip _ [Value.bool _])) _ _ _); (with_unfolding_all refine does_same (does_conv _ _ _ _ (by assumption) (by assumption) _) (by assumption) (by assumption) (by assumption) (by assumption) (by assumption) rfl (by (try dsimp only); omega) (by omega) (by omega) ?_); intro h' tk' ht' F' N'; try dsimp only)) | (((with_reducible show wpAny _ _ (call (Value.ref 268) _ _) _ _ _); (with_unfolding_all refine does_call (does_get _ _ _ _ _ _ _ _ _ _ _ (by assumption) (by assumption) (by assumption) (by assumption) (by assumption)) (by assumption) (by assumption) (by assumption) (by assumption) (by assumption) rfl (by (try dsimp only); (with_reducible assumption)) (by (with_reducible assumption)) (by (with_reducible assumption)) ?_); intro v' h' tk' n' hp' ht' F' N'; obtain ⟨hn, tv', hv⟩ := hp'; subst hv; subst hn; try dsimp only))); k_steps))
  exact hP0 _ _ <| body_ret (by assumption) (by assumption) ⟨rfl, _, rfl⟩
theorem does_getitem {w : World} (hl x d : Addr) (t : Tok) (vs : List Value) (k : Nat) (rest : Led) (H : List (Str × Str)) (nm : Str) (tn : Tok) (val : Str) (hnm : IsNm nm) (hH : ∀ p ∈ H, IsNm p.1) (hT : Tups rest vs H)
    (hv : (H.find? fun p => lowN p.1 == lowN nm).map (·.2) = some val) (hsz : vs.length ≤ 1000) :
    Does w 4 12 (.ref 246) [.ref x, .str nm tn] ((hl, listOf vs.toArray k) :: (x, instObj 321 d) :: (d, hdD w t hl) :: rest)
      (fun v n' _ => n' = (hl, listOf vs.toArray k) :: (x, instObj 321 d) :: (d, hdD w t hl) :: rest ∧ ∃ tv, v = .str val tv) := by
  refine does_fn (binds := [("self", .ref x), ("name", .str nm tn)]) (by k_is) (by k_is) (fun s X => BindsTo.of_eq rfl) (locs rfl) (fun y => ?_) rfl rfl rfl (by decide) (@b_getitem w hl x d t vs k rest H nm tn val hnm hH hT hv hsz)
  show List.lookup y [(("name" : Str), Value.str nm tn), ("self", .ref x)] = _
  rw [lk, lk]; rfl
theorem news_pick {g h : Heap} {L : Addr} {q a b c l : Addr × Obj} {r : Led} (N : News g L h (q :: a :: b :: c :: l :: r)) : News g L h (l :: q :: r) := fun p hp => N p (by simp only [List.mem_cons] at hp ⊢; rcases hp with h | h | h <;> simp [h])
theorem b_add {w : World} (hl x d pd : Addr) (t : Tok) (vs : List Value) (k : Nat) (rest Rt : Led) (hRt : ∀ p ∈ Rt, p ∈ rest) (H : List (Str × Str)) (nm : Str) (tn tv : Tok) (hsm : (pd == sysModules) = false) (hpn : Plain nm) (hln : nm.length ≤ 16777216) (hT : Tups Rt vs H)
    (h1 : @Ne Nat hl x) (h2 : @Ne Nat hl d) (h3 : @Ne Nat x d) (hr : ∀ p ∈ rest, p.1 ≠ hl) (hsz : vs.length ≤ 1000) :
    Body w 3 9 "Headers.add_header" s20m16 b20m16 318 (.ref 317) (fun y => if y = "_params" then some (.ref pd) else if y = "_value" then some (.str "" tv) else if y = "_name" then some (.str nm tn) else if y = "self" then some (.ref x) else none) ((pd, W.dictOf [] 0) :: (hl, listOf vs.toArray k) :: (x, instObj 321 d) :: (d, hdD w t hl) :: rest)
      (fun v n' _ => v = .none ∧ ∃ vs' k' q te, n' = (hl, listOf vs'.toArray k') :: (q, tup nm "" tn te 0) :: (x, instObj 321 d) :: (d, hdD w t hl) :: rest ∧ Tups ((q, tup nm "" tn te 0) :: Rt) vs' (H ++ [(nm, ("" : Str))]) ∧ @LT.lt Nat _ hl q ∧ @LT.lt Nat _ x q ∧ @LT.lt Nat _ d q ∧ ∀ p ∈ rest, p.1 < q) := by
  intro mean mg mb dp un gd outer A₀ base g L s B F X N T ht hd hu Aa
  refine hide_post fun Post0 hP0 => ?_
  dsimp only [b20m16, b20m16x]
  have hpe : Plain "" := fun c hc => nomatch hc
  have hle : Str.length "" ≤ 16777216 := Nat.zero_le _
  have hdd : (W.dictOf [] 0).IsDictOf (strKind pw w) [] := kp_isDict (ex := []) 0 0 List.nodup_nil
  (k_steps; repeat' ((with_reducible refine mark ?_); (first | (((with_reducible show wpAny _ _ (call (Value.ref _) [_, Value.str _ _] (List.zip _ [Value.bool _])) _ _ _); (with_unfolding_all refine does_same (does_conv _ _ _ _ (by assumption) (by assumption) _) (by assumption) (by assumption) (by assumption) (by assumption) (by assumption) rfl (by (try dsimp only); (with_reducible exact Nat.le_add_left 1 _)) (by (with_reducible exact o_room (by assumption) (by decide))) (by (with_reducible exact o_room (by assumption) (by decide))) ?_); intro h' tk' ht' F' N'; try dsimp only)) | (((with_reducible show wpAny _ _ (call (Value.ref 268) _ _) _ _ _); (with_unfolding_all refine does_call (does_get _ _ _ _ _ _ _ _ _ _ _ (by assumption) (by assumption) (by assumption) (by assumption) (by assumption)) (by assumption) (by assumption) (by assumption) (by assumption) (by assumption) rfl (by (try dsimp only); omega) (by omega) (by omega) ?_); intro v' h' tk' n' hp' ht' F' N'; obtain ⟨hn, tv', hv⟩ := hp'; subst hv; subst hn; try dsimp only))); k_steps))
  rename Fr _ _ _ _ => F3
  rename News _ _ _ _ => N3
  refine for_noitems (ep := 0) rfl ⟨_, (N3 _ (List.Mem.head _)).1, rfl, rfl⟩ ?_ F3 N3 fun h' F5 N5 => ?_
  · exact ⟨_, #[], (N3 (pd, W.dictOf [] 0) (List.Mem.tail _ (List.Mem.tail _ (List.Mem.head _)))).1, ⟨rfl, rfl, rfl⟩, rfl, (fun e he => nomatch he), .nil, List.nodup_nil⟩
  clear F3 N3
  (try dsimp only)
  (k_steps; repeat' ((with_reducible refine mark ?_); (first | (((with_reducible show wpAny _ _ (call (Value.ref _) [_, Value.str _ _] (List.zip _ [Value.bool _])) _ _ _); (with_unfolding_all refine does_same (does_conv _ _ _ _ (by assumption) (by assumption) _) (by assumption) (by assumption) (by assumption) (by assumption) (by assumption) rfl (by (try dsimp only); (with_reducible exact Nat.le_add_left 1 _)) (by (with_reducible exact o_room (by assumption) (by decide))) (by (with_reducible exact o_room (by assumption) (by decide))) ?_); intro h' tk' ht' F' N'; try dsimp only)) | (((with_reducible show wpAny _ _ (call (Value.ref 268) _ _) _ _ _); (with_unfolding_all refine does_call (does_get _ _ _ _ _ _ _ _ _ _ _ (by assumption) (by assumption) (by assumption) (by assumption) (by assumption)) (by assumption) (by assumption) (by assumption) (by assumption) (by assumption) rfl (by (try dsimp only); omega) (by omega) (by omega) ?_); intro v' h' tk' n' hp' ht' F' N'; obtain ⟨hn, tv', hv⟩ := hp'; subst hv; subst hn; try dsimp only))); k_steps))
  rename Fr _ _ _ _ => F3
  rename News _ _ _ _ => N3
  rename _ < _ ∧ _ => l1
  obtain ⟨_, _, _, a1, a2, a3, a4⟩ := l1
  have a4 := allLt_mem a4
  refine app_led F3 (news_pick N3) ?_ hsz fun h' F4 N4 => ?_
  · refine List.forall_mem_cons.mpr ⟨Ne.symm (Nat.ne_of_lt a1), List.forall_mem_cons.mpr ⟨Ne.symm h1, List.forall_mem_cons.mpr ⟨Ne.symm h2, hr⟩⟩⟩
  · clear F3 N3
    (try dsimp only)
    (k_steps; repeat' ((with_reducible refine mark ?_); (first | (((with_reducible show wpAny _ _ (call (Value.ref _) [_, Value.str _ _] (List.zip _ [Value.bool _])) _ _ _); (with_unfolding_all refine does_same (does_conv _ _ _ _ (by assumption) (by assumption) _) (by assumption) (by assumption) (by assumption) (by assumption) (by assumption) rfl (by (try dsimp only); omega) (by omega) (by omega) ?_); intro h' tk' ht' F' N'; try dsimp only)) | (((with_reducible show wpAny _ _ (call (Value.ref 268) _ _) _ _ _); (with_unfolding_all refine does_call (does_get _ _ _ _ _ _ _ _ _ _ _ (by assumption) (by assumption) (by assumption) (by assumption) (by assumption)) (by assumption) (by assumption) (by assumption) (by assumption) (by assumption) rfl (by (try dsimp only); omega) (by omega) (by omega) ?_); intro v' h' tk' n' hp' ht' F' N'; obtain ⟨hn, tv', hv⟩ := hp'; subst hv; subst hn; try dsimp only))); k_steps))
    exact hP0 _ _ <| body_fall F4 N4 ⟨rfl, _, _, _, _, rfl, (hT.sub fun p hp => List.mem_cons_of_mem _ hp).snoc (List.mem_cons_self ..), a1, a2, a3, a4⟩
theorem does_add {w : World} (hl x d : Addr) (t : Tok) (vs : List Value) (k : Nat) (rest Rt : Led) (hRt : ∀ p ∈ Rt, p ∈ rest) (H : List (Str × Str)) (nm : Str) (tn tv : Tok) (hpn : Plain nm) (hln : nm.length ≤ 16777216) (hT : Tups Rt vs H)
    (h1 : @Ne Nat hl x) (h2 : @Ne Nat hl d) (h3 : @Ne Nat x d) (hr : ∀ p ∈ rest, p.1 ≠ hl) (hsz : vs.length ≤ 1000) :
    Does w 4 12 (.ref 318) [.ref x, .str nm tn, .str "" tv] ((hl, listOf vs.toArray k) :: (x, instObj 321 d) :: (d, hdD w t hl) :: rest)
      (fun v n' _ => v = .none ∧ ∃ vs' k' q te, n' = (hl, listOf vs'.toArray k') :: (q, tup nm "" tn te 0) :: (x, instObj 321 d) :: (d, hdD w t hl) :: rest ∧ Tups ((q, tup nm "" tn te 0) :: Rt) vs' (H ++ [(nm, ("" : Str))]) ∧ @LT.lt Nat _ hl q ∧ @LT.lt Nat _ x q ∧ @LT.lt Nat _ d q ∧ ∀ p ∈ rest, p.1 < q) := by
  refine does_fnK (nm := "_params") (front := [("self", .ref x), ("_name", .str nm tn), ("_value", .str "" tv)]) (by k_is) (by k_is) rfl (fun _ => rfl) (fun _ => locs rfl) (fun P y => ?_) rfl rfl rfl (by decide) fun P hP hsm => b_add hl x d P t vs k rest Rt hRt H nm tn tv hsm hpn hln hT h1 h2 h3 hr hsz
  show List.lookup y [(("_params" : Str), Value.ref P), ("_value", .str "" tv), ("_name", .str nm tn), ("self", .ref x)] = _
  rw [lk, lk, lk, lk]; rfl
end

section
open PySem PySem.W PyProof.Rows
set_option Elab.async false
set_option maxRecDepth 100000
set_option maxHeartbeats 8000000
set_option hygiene false
local macro_rules | `(tactic| walk_at $s) => if ["call ref"].contains s.getString then `(tactic| refine unmark ?_) else Lean.Macro.throwUnsupported
theorem b_hint {w : World} (hl x d : Addr) (t : Tok) (vs : List Value) (k : Nat) (rest : Led) (t0 : Tok) (hsz : vs.length ≤ 1000) :
    Body w 2 8 "length_hint" s14 b14 175 (.ref 174) (fun y => if y = "default" then some (.int 0 t0) else if y = "obj" then some (.ref x) else none) ((hl, listOf vs.toArray k) :: (x, instObj 321 d) :: (d, hdD w t hl) :: rest)
      (fun v n' _ => n' = (hl, listOf vs.toArray k) :: (x, instObj 321 d) :: (d, hdD w t hl) :: rest ∧ ∃ tv, v = .int vs.length tv) := by
  intro mean mg mb dp un gd outer A₀ base g L s B F X N T ht hd hu Aa
  refine hide_post fun Post0 hP0 => ?_
  dsimp only [b14, b14x]
  (k_steps; repeat' ((with_reducible refine mark ?_); (first | (((with_reducible show wpAny _ _ (call (Value.ref 227) _ _) _ _ _); (with_unfolding_all refine does_call (does_len hl x d t vs k rest hsz) (by assumption) (by assumption) (by assumption) (by assumption) (by assumption) rfl (by (try dsimp only); (with_reducible assumption)) (by (try dsimp only); (with_reducible exact o_room (by assumption) (by decide))) (by (try dsimp only); (with_reducible exact o_room2 (by assumption) (by decide))) ?_); intro v' h' tk' n' hp' ht' F' N'; obtain ⟨hn, tv', hv⟩ := hp'; subst hv; subst hn; try dsimp only))); k_steps))
  dsimp only [PySem.W.LenBack]
  refine ⟨⟨by (with_reducible exact Int.natCast_nonneg _), by (with_reducible exact o_63l (by assumption) (by decide))⟩, ?_⟩
  rename Fr _ _ _ _ => F3
  rename News _ _ _ _ => N3
  exact hP0 _ _ <| body_ret F3 N3 ⟨rfl, _, rfl⟩
theorem does_hint {w : World} (hl x d : Addr) (t : Tok) (vs : List Value) (k : Nat) (rest : Led) (hsz : vs.length ≤ 1000) :
    Does w 3 11 (.ref 175) [.ref x] ((hl, listOf vs.toArray k) :: (x, instObj 321 d) :: (d, hdD w t hl) :: rest)
      (fun v n' _ => n' = (hl, listOf vs.toArray k) :: (x, instObj 321 d) :: (d, hdD w t hl) :: rest ∧ ∃ tv, v = .int vs.length tv) := by
  refine does_fn (binds := [("obj", .ref x), ("default", .int 0 467)]) (by k_is) (by k_is) (fun s X => binds_K X rfl (by k_is) rfl rfl rfl) (locs rfl) (fun y => ?_) rfl rfl rfl (by decide) (@b_hint w hl x d t vs k rest 467 hsz)
  show List.lookup y [(("default" : Str), Value.int 0 467), ("obj", .ref x)] = _
  rw [lk, lk]; rfl
end

section
open PySem PySem.W PyProof.Rows
set_option Elab.async false
set_option maxRecDepth 100000
set_option maxHeartbeats 8000000
set_option hygiene false
local macro_rules | `(tactic| walk_at "delItem ref") => `(tactic| (k_here; k_dflt (refine' del_item ?F ?X ?I ?hQ ?hS ?hF ?_; (case F => k_asm); (case X => k_asm); (case I => k_inst); (case hS => k_is); (case hF => k_is); (case hQ => k_is); k_whole)))
local macro_rules | `(tactic| walk_at $s) => if ["call ref"].contains s.getString then `(tactic| refine unmark ?_) else Lean.Macro.throwUnsupported
theorem b_setitem {w : World} (hl x d : Addr) (t : Tok) (vs : List Value) (k : Nat) (rest Rt : Led) (hRt : ∀ p ∈ Rt, p ∈ rest) (H : List (Str × Str)) (nm : Str) (tn : Tok) (val : Str) (tv : Tok) (hnm : IsNm nm) (hpn : Plain nm) (hln : nm.length ≤ 16777216) (hpv : Plain val) (hlv : val.length ≤ 16777216) (hH : ∀ p ∈ H, IsNm p.1) (hT : Tups Rt vs H)
    (h1 : @Ne Nat hl x) (h2 : @Ne Nat hl d) (h3 : @Ne Nat x d) (hr : ∀ p ∈ rest, p.1 ≠ hl) (hsz : vs.length ≤ 1000) :
    Body w 5 20 "setitem" s13 b13 167 (.ref 166) (fun y => if y = "c" then some (.str val tv) else if y = "b" then some (.str nm tn) else if y = "a" then some (.ref x) else none) ((hl, listOf vs.toArray k) :: (x, instObj 321 d) :: (d, hdD w t hl) :: rest)
      (fun v n' _ => v = .none ∧ ∃ vs' k' q, n' = (hl, listOf vs'.toArray k') :: (q, tup nm val tn tv 0) :: (x, instObj 321 d) :: (d, hdD w t hl) :: rest ∧ Tups ((q, tup nm val tn tv 0) :: Rt) vs' (H.filter (fun p => lowN p.1 != lowN nm) ++ [(nm, val)]) ∧ @LT.lt Nat _ hl q ∧ @LT.lt Nat _ x q ∧ @LT.lt Nat _ d q ∧ ∀ p ∈ rest, p.1 < q) := by
  intro mean mg mb dp un gd outer A₀ base g L s B F X N T ht hd hu Aa
  refine hide_post fun Post0 hP0 => ?_
  dsimp only [b13, b13x]
  (k_steps; repeat' ((with_reducible refine mark ?_); (first | (((with_reducible show wpAny _ _ (call (Value.ref 246) _ _) _ _ _); (with_unfolding_all refine does_call (does_getitem hl x d t vs k rest H nm tn val hnm hH hT hv hsz) (by assumption) (by assumption) (by assumption) (by assumption) (by assumption) rfl (by (try dsimp only); omega) (by (try dsimp only); omega) (by (try dsimp only); omega) ?_); intro v' h' tk' n' hp' ht' F' N'; obtain ⟨hn, tv', hv2⟩ := hp'; subst hv2; subst hn; try dsimp only)) | (((with_reducible show wpAny _ _ (call (Value.ref 239) _ _) _ _ _); (with_unfolding_all refine does_call (does_del hl x d t vs k rest Rt hRt H nm tn hnm hH hT h1 h2 h3 hr hsz) (by assumption) (by assumption) (by assumption) (by assumption) (by assumption) rfl (by (try dsimp only); omega) (by (try dsimp only); omega) (by (try dsimp only); omega) ?_); intro v' h' tk' n' hp' ht' F' N'; obtain ⟨hv, vs', k', hn, hT'⟩ := hp'; subst hv; subst hn; try dsimp only)) | (((with_reducible show wpAny _ _ (call (Value.ref 234) _ _) _ _ _); (with_unfolding_all refine does_call (does_set hl x d t vs k rest Rt hRt H nm tn val tv hnm hpn hln hpv hlv hH hT h1 h2 h3 hr hsz) (by assumption) (by assumption) (by assumption) (by assumption) (by assumption) rfl (by (try dsimp only); (with_reducible assumption)) (by (try dsimp only); (with_reducible exact o_room (by assumption) (by decide))) (by (try dsimp only); (with_reducible exact o_room (by assumption) (by decide))) ?_); intro v' h' tk' n' hp' ht' F' N'; obtain ⟨hv, vs', k', q', hn, hz⟩ := hp'; subst hv; subst hn; try dsimp only))); k_steps))
  exact hP0 _ _ <| body_fall F' N' ⟨rfl, _, _, _, rfl, hz⟩
theorem does_setitem {w : World} (hl x d : Addr) (t : Tok) (vs : List Value) (k : Nat) (rest Rt : Led) (hRt : ∀ p ∈ Rt, p ∈ rest) (H : List (Str × Str)) (nm : Str) (tn : Tok) (val : Str) (tv : Tok) (hnm : IsNm nm) (hpn : Plain nm) (hln : nm.length ≤ 16777216) (hpv : Plain val) (hlv : val.length ≤ 16777216) (hH : ∀ p ∈ H, IsNm p.1) (hT : Tups Rt vs H)
    (h1 : @Ne Nat hl x) (h2 : @Ne Nat hl d) (h3 : @Ne Nat x d) (hr : ∀ p ∈ rest, p.1 ≠ hl) (hsz : vs.length ≤ 1000) :
    Does w 6 23 (.ref 167) [.ref x, .str nm tn, .str val tv] ((hl, listOf vs.toArray k) :: (x, instObj 321 d) :: (d, hdD w t hl) :: rest)
      (fun v n' _ => v = .none ∧ ∃ vs' k' q, n' = (hl, listOf vs'.toArray k') :: (q, tup nm val tn tv 0) :: (x, instObj 321 d) :: (d, hdD w t hl) :: rest ∧ Tups ((q, tup nm val tn tv 0) :: Rt) vs' (H.filter (fun p => lowN p.1 != lowN nm) ++ [(nm, val)]) ∧ @LT.lt Nat _ hl q ∧ @LT.lt Nat _ x q ∧ @LT.lt Nat _ d q ∧ ∀ p ∈ rest, p.1 < q) := by
  refine does_fn (binds := [("a", .ref x), ("b", .str nm tn), ("c", .str val tv)]) (by k_is) (by k_is) (fun s X => BindsTo.of_eq rfl) (locs rfl) (fun y => ?_) rfl rfl rfl (by decide) (@b_setitem w hl x d t vs k rest Rt hRt H nm tn val tv hnm hpn hln hpv hlv hH hT h1 h2 h3 hr hsz)
  show List.lookup y [(("c" : Str), Value.str val tv), ("b", .str nm tn), ("a", .ref x)] = _
  rw [lk, lk, lk]; rfl
theorem b_delitem {w : World} (hl x d : Addr) (t : Tok) (vs : List Value) (k : Nat) (rest Rt : Led) (hRt : ∀ p ∈ Rt, p ∈ rest) (H : List (Str × Str)) (nm : Str) (tn : Tok) (hnm : IsNm nm) (hH : ∀ p ∈ H, IsNm p.1) (hT : Tups Rt vs H)
    (h1 : @Ne Nat hl x) (h2 : @Ne Nat hl d) (h3 : @Ne Nat x d) (hr : ∀ p ∈ rest, p.1 ≠ hl) (hsz : vs.length ≤ 1000) :
    Body w 5 20 "delitem" s11 b10 146 (.ref 145) (fun y => if y = "b" then some (.str nm tn) else if y = "a" then some (.ref x) else none) ((hl, listOf vs.toArray k) :: (x, instObj 321 d) :: (d, hdD w t hl) :: rest)
      (fun v n' _ => v = .none ∧ ∃ vs' k', n' = (hl, listOf vs'.toArray k') :: (x, instObj 321 d) :: (d, hdD w t hl) :: rest ∧ Tups Rt vs' (H.filter fun p => lowN p.1 != lowN nm)) := by
  intro mean mg mb dp un gd outer A₀ base g L s B F X N T ht hd hu Aa
  refine hide_post fun Post0 hP0 => ?_
  dsimp only [b10, b10x]
  (k_steps; repeat' ((with_reducible refine mark ?_); (first | (((with_reducible show wpAny _ _ (call (Value.ref 246) _ _) _ _ _); (with_unfolding_all refine does_call (does_getitem hl x d t vs k rest H nm tn val hnm hH hT hv hsz) (by assumption) (by assumption) (by assumption) (by assumption) (by assumption) rfl (by (try dsimp only); omega) (by (try dsimp only); omega) (by (try dsimp only); omega) ?_); intro v' h' tk' n' hp' ht' F' N'; obtain ⟨hn, tv', hv2⟩ := hp'; subst hv2; subst hn; try dsimp only)) | (((with_reducible show wpAny _ _ (call (Value.ref 239) _ _) _ _ _); (with_unfolding_all refine does_call (does_del hl x d t vs k rest Rt hRt H nm tn hnm hH hT h1 h2 h3 hr hsz) (by assumption) (by assumption) (by assumption) (by assumption) (by assumption) rfl (by (try dsimp only); (with_reducible assumption)) (by (try dsimp only); (with_reducible exact o_room (by assumption) (by decide))) (by (try dsimp only); (with_reducible exact o_room (by assumption) (by decide))) ?_); intro v' h' tk' n' hp' ht' F' N'; obtain ⟨hv, vs', k', hn, hT'⟩ := hp'; subst hv; subst hn; try dsimp only)) | (((with_reducible show wpAny _ _ (call (Value.ref 234) _ _) _ _ _); (with_unfolding_all refine does_call (does_set hl x d t vs k rest Rt hRt H nm tn val tv hnm hpn hln hpv hlv hH hT h1 h2 h3 hr hsz) (by assumption) (by assumption) (by assumption) (by assumption) (by assumption) rfl (by (try dsimp only); omega) (by (try dsimp only); omega) (by (try dsimp only); omega) ?_); intro v' h' tk' n' hp' ht' F' N'; obtain ⟨hv, vs', k', q', hn, hz⟩ := hp'; subst hv; subst hn; try dsimp only))); k_steps))
  exact hP0 _ _ <| body_fall F' N' ⟨rfl, _, _, rfl, hT'⟩
theorem does_delitem {w : World} (hl x d : Addr) (t : Tok) (vs : List Value) (k : Nat) (rest Rt : Led) (hRt : ∀ p ∈ Rt, p ∈ rest) (H : List (Str × Str)) (nm : Str) (tn : Tok) (hnm : IsNm nm) (hH : ∀ p ∈ H, IsNm p.1) (hT : Tups Rt vs H)
    (h1 : @Ne Nat hl x) (h2 : @Ne Nat hl d) (h3 : @Ne Nat x d) (hr : ∀ p ∈ rest, p.1 ≠ hl) (hsz : vs.length ≤ 1000) :
    Does w 6 23 (.ref 146) [.ref x, .str nm tn] ((hl, listOf vs.toArray k) :: (x, instObj 321 d) :: (d, hdD w t hl) :: rest)
      (fun v n' _ => v = .none ∧ ∃ vs' k', n' = (hl, listOf vs'.toArray k') :: (x, instObj 321 d) :: (d, hdD w t hl) :: rest ∧ Tups Rt vs' (H.filter fun p => lowN p.1 != lowN nm)) := by
  refine does_fn (binds := [("a", .ref x), ("b", .str nm tn)]) (by k_is) (by k_is) (fun s X => BindsTo.of_eq rfl) (locs rfl) (fun y => ?_) rfl rfl rfl (by decide) (@b_delitem w hl x d t vs k rest Rt hRt H nm tn hnm hH hT h1 h2 h3 hr hsz)
  show List.lookup y [(("b" : Str), Value.str nm tn), ("a", .ref x)] = _
  rw [lk, lk]; rfl
theorem b_opget {w : World} (hl x d : Addr) (t : Tok) (vs : List Value) (k : Nat) (rest : Led) (H : List (Str × Str)) (nm : Str) (tn : Tok) (val : Str) (hnm : IsNm nm) (hH : ∀ p ∈ H, IsNm p.1) (hT : Tups rest vs H)
    (hv : (H.find? fun p => lowN p.1 == lowN nm).map (·.2) = some val) (hsz : vs.length ≤ 1000) :
    Body w 5 20 "getitem" s11 b11 153 (.ref 152) (fun y => if y = "b" then some (.str nm tn) else if y = "a" then some (.ref x) else none) ((hl, listOf vs.toArray k) :: (x, instObj 321 d) :: (d, hdD w t hl) :: rest)
      (fun v n' _ => n' = (hl, listOf vs.toArray k) :: (x, instObj 321 d) :: (d, hdD w t hl) :: rest ∧ ∃ tv, v = .str val tv) := by
  intro mean mg mb dp un gd outer A₀ base g L s B F X N T ht hd hu Aa
  refine hide_post fun Post0 hP0 => ?_
  dsimp only [b11, b11x]
  (k_steps; repeat' ((with_reducible refine mark ?_); (first | (((with_reducible show wpAny _ _ (call (Value.ref 246) _ _) _ _ _); (with_unfolding_all refine does_call (does_getitem hl x d t vs k rest H nm tn val hnm hH hT hv hsz) (by assumption) (by assumption) (by assumption) (by assumption) (by assumption) rfl (by (try dsimp only); (with_reducible assumption)) (by (try dsimp only); (with_reducible exact o_room (by assumption) (by decide))) (by (try dsimp only); (with_reducible exact o_room2 (by assumption) (by decide))) ?_); intro v' h' tk' n' hp' ht' F' N'; obtain ⟨hn, tv', hv2⟩ := hp'; subst hv2; subst hn; try dsimp only)) | (((with_reducible show wpAny _ _ (call (Value.ref 239) _ _) _ _ _); (with_unfolding_all refine does_call (does_del hl x d t vs k rest Rt hRt H nm tn hnm hH hT h1 h2 h3 hr hsz) (by assumption) (by assumption) (by assumption) (by assumption) (by assumption) rfl (by (try dsimp only); omega) (by (try dsimp only); omega) (by (try dsimp only); omega) ?_); intro v' h' tk' n' hp' ht' F' N'; obtain ⟨hv, vs', k', hn, hT'⟩ := hp'; subst hv; subst hn; try dsimp only)) | (((with_reducible show wpAny _ _ (call (Value.ref 234) _ _) _ _ _); (with_unfolding_all refine does_call (does_set hl x d t vs k rest Rt hRt H nm tn val tv hnm hpn hln hpv hlv hH hT h1 h2 h3 hr hsz) (by assumption) (by assumption) (by assumption) (by assumption) (by assumption) rfl (by (try dsimp only); omega) (by (try dsimp only); omega) (by (try dsimp only); omega) ?_); intro v' h' tk' n' hp' ht' F' N'; obtain ⟨hv, vs', k', q', hn, hz⟩ := hp'; subst hv; subst hn; try dsimp only))); k_steps))
  exact hP0 _ _ <| body_ret F' N' ⟨rfl, _, rfl⟩
theorem does_opget {w : World} (hl x d : Addr) (t : Tok) (vs : List Value) (k : Nat) (rest : Led) (H : List (Str × Str)) (nm : Str) (tn : Tok) (val : Str) (hnm : IsNm nm) (hH : ∀ p ∈ H, IsNm p.1) (hT : Tups rest vs H)
    (hv : (H.find? fun p => lowN p.1 == lowN nm).map (·.2) = some val) (hsz : vs.length ≤ 1000) :
    Does w 6 23 (.ref 153) [.ref x, .str nm tn] ((hl, listOf vs.toArray k) :: (x, instObj 321 d) :: (d, hdD w t hl) :: rest)
      (fun v n' _ => n' = (hl, listOf vs.toArray k) :: (x, instObj 321 d) :: (d, hdD w t hl) :: rest ∧ ∃ tv, v = .str val tv) := by
  refine does_fn (binds := [("a", .ref x), ("b", .str nm tn)]) (by k_is) (by k_is) (fun s X => BindsTo.of_eq rfl) (locs rfl) (fun y => ?_) rfl rfl rfl (by decide) (@b_opget w hl x d t vs k rest H nm tn val hnm hH hT hv hsz)
  show List.lookup y [(("b" : Str), Value.str nm tn), ("a", .ref x)] = _
  rw [lk, lk]; rfl
end

section
open PySem PySem.W PyProof.Rows
set_option Elab.async false
set_option maxRecDepth 100000
set_option maxHeartbeats 8000000
set_option hygiene false
local macro_rules | `(tactic| walk_at "call builtin:hasattr") => `(tactic| (refine has_led (by assumption) (by assumption) ?_; intro h' F' N'; (try dsimp only)))
theorem b_opadd {w : World} (a b : Int) (ta tb : Tok) (news : Led) (lo : Nat := 0) :
    Body w 0 0 "add" s11 b5 111 (.ref 110) (fun y => if y = "b" then some (.int b tb) else if y = "a" then some (.int a ta) else none) news
      (fun v n' t1 => n' = news ∧ ∃ t, v = .int (a + b) t ∧ @LT.lt Nat _ lo t ∧ @LT.lt Nat _ t t1) (lo := lo) := by
  intro mean mg mb dp un gd outer A₀ base g L s B F X N T ht hd hu Aa
  refine hide_post fun Post0 hP0 => ?_
  dsimp only [b5, b5x]
  k_steps
  exact hP0 _ _ <| body_ret (by assumption) (by assumption) ⟨rfl, _, rfl, by omega, by omega⟩
theorem does_opadd {w : World} (a b : Int) (ta tb : Tok) (news : Led) (lo : Nat := 0) :
    Does w 1 3 (.ref 111) [.int a ta, .int b tb] news (fun v n' t1 => n' = news ∧ ∃ t, v = .int (a + b) t ∧ @LT.lt Nat _ lo t ∧ @LT.lt Nat _ t t1) (lo := lo) := by
  refine does_fn (binds := [("a", .int a ta), ("b", .int b tb)]) (by k_is) (by k_is) (fun s X => BindsTo.of_eq rfl) (locs rfl) (fun y => ?_) rfl rfl rfl (by decide) (@b_opadd w a b ta tb news lo)
  show List.lookup y [(("b" : Str), Value.int b tb), ("a", .int a ta)] = _
  rw [lk, lk]; rfl
theorem b_opsub {w : World} (a b : Int) (ta tb : Tok) (news : Led) (lo : Nat := 0) :
    Body w 0 0 "sub" s11 b7 125 (.ref 124) (fun y => if y = "b" then some (.int b tb) else if y = "a" then some (.int a ta) else none) news
      (fun v n' t1 => n' = news ∧ ∃ t, v = .int (a - b) t ∧ @LT.lt Nat _ lo t ∧ @LT.lt Nat _ t t1) (lo := lo) := by
  intro mean mg mb dp un gd outer A₀ base g L s B F X N T ht hd hu Aa
  refine hide_post fun Post0 hP0 => ?_
  dsimp only [b7, b7x]
  k_steps
  exact hP0 _ _ <| body_ret (by assumption) (by assumption) ⟨rfl, _, rfl, by omega, by omega⟩
theorem does_opsub {w : World} (a b : Int) (ta tb : Tok) (news : Led) (lo : Nat := 0) :
    Does w 1 3 (.ref 125) [.int a ta, .int b tb] news (fun v n' t1 => n' = news ∧ ∃ t, v = .int (a - b) t ∧ @LT.lt Nat _ lo t ∧ @LT.lt Nat _ t t1) (lo := lo) := by
  refine does_fn (binds := [("a", .int a ta), ("b", .int b tb)]) (by k_is) (by k_is) (fun s X => BindsTo.of_eq rfl) (locs rfl) (fun y => ?_) rfl rfl rfl (by decide) (@b_opsub w a b ta tb news lo)
  show List.lookup y [(("b" : Str), Value.int b tb), ("a", .int a ta)] = _
  rw [lk, lk]; rfl
theorem b_opdiv {w : World} (a b : Int) (ta tb : Tok) (news : Led) (hb : 0 < b) (hs : b ≤ 5) :
    Body w 0 0 "floordiv" s11 b6 118 (.ref 117) (fun y => if y = "b" then some (.int b tb) else if y = "a" then some (.int a ta) else none) news
      (fun v n' _ => n' = news ∧ ∃ t, v = .int (a.fdiv b) t) := by
  intro mean mg mb dp un gd outer A₀ base g L s B F X N T ht hd hu Aa
  refine hide_post fun Post0 hP0 => ?_
  dsimp only [b6, b6x]
  have hb0 : b ≠ 0 := by omega
  k_steps
  exact hP0 _ _ <| body_ret (by assumption) (by assumption) ⟨rfl, _, rfl⟩
theorem does_opdiv {w : World} (a b : Int) (ta tb : Tok) (news : Led) (hb : 0 < b) (hs : b ≤ 5) :
    Does w 1 3 (.ref 118) [.int a ta, .int b tb] news (fun v n' _ => n' = news ∧ ∃ t, v = .int (a.fdiv b) t) := by
  refine does_fn (binds := [("a", .int a ta), ("b", .int b tb)]) (by k_is) (by k_is) (fun s X => BindsTo.of_eq rfl) (locs rfl) (fun y => ?_) rfl rfl rfl (by decide) (@b_opdiv w a b ta tb news hb hs)
  show List.lookup y [(("b" : Str), Value.int b tb), ("a", .int a ta)] = _
  rw [lk, lk]; rfl
theorem b_concat {w : World} (a b : Str) (ta tb : Tok) (news : Led) (ha : a.length ≤ 100000) (hb : b.length ≤ 100000) :
    Body w 0 0 "concat" s8 b8 132 (.ref 131) (fun y => if y = "b" then some (.str b tb) else if y = "a" then some (.str a ta) else none) news
      (fun v n' _ => n' = news ∧ ∃ t, v = .str (a ++ b) t) := by
  intro mean mg mb dp un gd outer A₀ base g L s B F X N T ht hd hu Aa
  refine hide_post fun Post0 hP0 => ?_
  dsimp only [b8, b8x]
  k_steps
  exact hP0 _ _ <| body_ret (by assumption) (by assumption) ⟨rfl, _, rfl⟩
theorem does_concat {w : World} (a b : Str) (ta tb : Tok) (news : Led) (ha : a.length ≤ 100000) (hb : b.length ≤ 100000) :
    Does w 1 3 (.ref 132) [.str a ta, .str b tb] news (fun v n' _ => n' = news ∧ ∃ t, v = .str (a ++ b) t) := by
  refine does_fn (binds := [("a", .str a ta), ("b", .str b tb)]) (by k_is) (by k_is) (fun s X => BindsTo.of_eq rfl) (locs rfl) (fun y => ?_) rfl rfl rfl (by decide) (@b_concat w a b ta tb news ha hb)
  show List.lookup y [(("b" : Str), Value.str b tb), ("a", .str a ta)] = _
  rw [lk, lk]; rfl
end

section
open PySem PySem.W PySem.Calls PyProof.Rows
set_option Elab.async false
set_option maxRecDepth 100000
set_option maxHeartbeats 8000000
set_option hygiene false
local macro_rules | `(tactic| walk_at "call type:enumerate") => `(tactic| (refine call_enumerate_str ?_; intro h5 he5 hit5 hsz5 hk5))
local macro_rules | `(tactic| walk_at "compareOp Is int int") => `(tactic| (refine is_int (by assumption) (by assumption) (booked (by assumption) (by assumption) (by assumption)) (by assumption) ?_; intro rB hrB; cases rB))
local macro_rules | `(tactic| walk_at "compareOp Is str str") => `(tactic| (refine is_str (by assumption) (by assumption) (booked (by assumption) (by assumption) (by assumption)) (by assumption) ?_; intro rB hrB; cases rB))
theorem b_index {w : World} (z c : Str) (tz tc : Tok) (j : Nat) (news : Led) (hz : z.cps.all (· < 128) = true) (hj : ∀ i d, i < j → z.cps[i]? = some d → (⟨#[d]⟩ : Str) ≠ c) (hc : ∀ d, z.cps[j]? = some d → c = ⟨#[d]⟩) (hlt : j < z.cps.size) (h0 : @Ne Nat tc 0) (lo : Nat) (hlo : @LE.le Nat _ tc lo) :
    Body w 0 0 "indexOf" s12 b12 160 (.ref 159) (fun y => if y = "b" then some (.str c tc) else if y = "a" then some (.str z tz) else none) news
      (fun v n' _ => n' = news ∧ ∃ t, v = .int j t) lo := by
  intro mean mg mb dp un gd outer A₀ base g L s B F X N T ht hd hu Aa
  refine hide_post fun Post0 hP0 => ?_
  dsimp only [b12, b12x]
  k_steps
  refine for_enum (s := s) rfl rfl rfl rfl he5 hit5 hk5 F N (by (with_reducible exact o_pos (by assumption))) (fun i m => i ≤ j ∧ ∃ u v, m = up "j" u (up "i" v (fun y => if y = "b" then some (.str c tc) else if y = "a" then some (.str z tz) else none))) ⟨Nat.zero_le _, none, none, ?_⟩ hz ?_ ?_
  · rw [← up_none, ← up_none]
    · rw [if_neg (by decide +kernel), if_neg (by decide +kernel)]
    · simp only [up]; rw [if_neg (by decide +kernel), if_neg (by decide +kernel), if_neg (by decide +kernel)]
  · rintro i d t u m₁ h tk own hd' ⟨hij, u1, u2, rfl⟩ hu' htk F2 N2
    have n1 : @Ne Nat u 0 := by omega
    have n2 : @Eq Nat u tc → (⟨#[d]⟩ : Str) = c := fun e => absurd e (by omega)
    k_steps
    · rename ((⟨#[d]⟩ : Str) == c) = true => hE
      have hE : (⟨#[d]⟩ : Str) = c := by simpa using hE
      obtain rfl : i = j := by
        rcases Nat.lt_or_ge i j with q | q
        · exact absurd hE (hj i d q hd')
        · omega
      exact ⟨h, _, _, rfl, F2, N2, hP0 _ _ (body_ret F2 (fun p hp => N2 p (List.mem_append_right _ hp)) ⟨rfl, _, rfl⟩)⟩
    · rename ((⟨#[d]⟩ : Str) == c) = false => hE
      refine ⟨h, _, _, rfl, F2, N2, ?_, _, _, up4 _ _ _ _ _ _ _⟩
      rcases Nat.lt_or_ge i j with q | q
      · exact q
      · obtain rfl : i = j := by omega
        exact absurd (hc d hd').symm (by simpa using hE)
    · have hE := hrB rfl
      obtain rfl : i = j := by
        rcases Nat.lt_or_ge i j with q | q
        · exact absurd hE (hj i d q hd')
        · omega
      exact ⟨h, _, _, rfl, F2, N2, hP0 _ _ (body_ret F2 (fun p hp => N2 p (List.mem_append_right _ hp)) ⟨rfl, _, rfl⟩)⟩
  · rintro m₁ ⟨h, _⟩
    omega
theorem b_count {w : World} (l : Addr) (lo : Obj) (vs : List Value) (zs : List Int) (b : Int) (tb : Tok) (news : Led) (hl : (l, lo) ∈ news) (hlo : lo.cls = .type "list" ∧ ∃ k, lo.data = .seq vs.toArray k) (hv : IntsAre vs zs) (h0 : @Ne Nat tb 0) (hts : ∀ z t, Value.int z t ∈ vs → @Ne Nat t 0 ∧ (@Eq Nat t tb → z = b)) :
    Body w 0 0 "countOf" s9 b9 139 (.ref 138) (fun y => if y = "b" then some (.int b tb) else if y = "a" then some (.ref l) else none) news
      (fun v n' _ => n' = news ∧ ∃ t, v = .int (zs.count b) t) := by
  intro mean mg mb dp un gd outer A₀ base g L s B F X N T ht hd hu Aa
  refine hide_post fun Post0 hP0 => ?_
  dsimp only [b9, b9x]
  k_steps
  rename Fr _ _ _ _ => F3
  rename News _ _ _ _ => N3
  refine for_list (lo := lo) (vs := vs) rfl rfl rfl hl hlo F3 N3 (by (try dsimp only); (with_reducible exact Nat.le_add_left 1 _))
    (fun i m nx _ => (∃ u t, m = up "i" u (up "count" (some (.int ((zs.take i).count b) t)) (fun y => if y = "b" then some (.int b tb) else if y = "a" then some (.ref l) else none))) ∧ nx = news) ?_ (fun _ _ => False) (fun _ _ => False) ?_ ?_ (fun _ _ _ _ h => h.elim) (fun _ _ _ _ _ h => h.elim)
  · refine ⟨⟨none, s.toks, ?_⟩, rfl⟩
    rw [← up_none]
    · rfl
    · simp only [up]; rw [if_neg (by decide +kernel), if_neg (by decide +kernel), if_neg (by decide +kernel)]
  · clear F3 N3
    rintro i v m₁ nx h tk I io hv' hl' ⟨⟨u, t, rfl⟩, rfl⟩ hoff htk F2 N2
    refine hide_post fun Post1 hP1 => ?_
    have hlt : i < zs.length := by
      rw [← hv.length]
      exact (List.getElem?_eq_some_iff.mp hv').1
    obtain ⟨t2, hvt⟩ := hv.get i zs[i] (by simp [hlt])
    obtain rfl : v = .int zs[i] t2 := Option.some.inj (hv'.symm.trans hvt)
    obtain ⟨n1, n2⟩ := hts _ _ (List.mem_of_getElem? hv')
    have hnext : (zs.take (i + 1)).count b = (zs.take i).count b + if zs[i] = b then 1 else 0 := by
      rw [List.take_add_one, List.getElem?_eq_getElem hlt, List.count_append]
      simp [List.count_singleton]
    generalize zs[i] = c at F2 hnext n2
    k_steps
    · rename c = b => hE
      rename Fr _ _ _ _ => F5
      rename News _ _ _ _ => N5
      rw [if_pos hE] at hnext
      have F9 : Fr g L _ (up "i" (some (.int c t2)) (up "count" (some (.int ((zs.take (i + 1)).count b) (tk + 1))) (fun y => if y = "b" then some (.int b tb) else if y = "a" then some (.ref l) else none))) := frc F5 fun y => by
        rw [hnext]
        by_cases h1 : y = "count"
        · subst h1
          simp only [up, if_true]
          rw [if_neg (show ¬ ("count" : Str) = "i" by decide +kernel)]
          rfl
        · by_cases h2 : y = "i"
          · subst h2
            simp only [up, if_true]
            rw [if_neg h1]
          · simp [up, h1, h2]
      exact hP1 _ _ <| turn_next _ F9 N5 hoff ⟨hl', ⟨_, _, rfl⟩, rfl⟩
    · rename ¬ c = b => hE
      rename Fr _ _ _ _ => F5
      rename News _ _ _ _ => N5
      rw [if_neg hE] at hnext
      refine hP1 _ _ <| turn_next (m' := up "i" (some (.int c t2)) (up "count" (some (.int ((zs.take (i + 1)).count b) t)) (fun y => if y = "b" then some (.int b tb) else if y = "a" then some (.ref l) else none))) _ (frc F5 fun y => ?_) N5 hoff ⟨hl', ⟨_, _, rfl⟩, rfl⟩
      rw [hnext, Nat.add_zero]
      by_cases h1 : y = "i" <;> simp [up, h1]
    · have hE := hrB rfl
      rename Fr _ _ _ _ => F5
      rename News _ _ _ _ => N5
      rw [if_pos hE] at hnext
      have F9 : Fr g L _ (up "i" (some (.int c t2)) (up "count" (some (.int ((zs.take (i + 1)).count b) (tk + 1))) (fun y => if y = "b" then some (.int b tb) else if y = "a" then some (.ref l) else none))) := frc F5 fun y => by
        rw [hnext]
        by_cases h1 : y = "count"
        · subst h1
          simp only [up, if_true]
          rw [if_neg (show ¬ ("count" : Str) = "i" by decide +kernel)]
          rfl
        · by_cases h2 : y = "i"
          · subst h2
            simp only [up, if_true]
            rw [if_neg h1]
          · simp [up, h1, h2]
      exact hP1 _ _ <| turn_next _ F9 N5 hoff ⟨hl', ⟨_, _, rfl⟩, rfl⟩
  · clear F3 N3
    rintro m₁ nx h tk hl' ⟨⟨u, t, rfl⟩, rfl⟩ htk F2 N2
    k_steps
    have e : zs.take vs.length = zs := List.take_of_length_le (by rw [hv.length]; exact Nat.le_refl _)
    exact hP0 _ _ <| body_ret F2 N2 ⟨rfl, t, by rw [e]⟩
theorem does_index {w : World} (z c : Str) (tz tc : Tok) (j : Nat) (news : Led) (hz : z.cps.all (· < 128) = true) (hj : ∀ i d, i < j → z.cps[i]? = some d → (⟨#[d]⟩ : Str) ≠ c) (hc : ∀ d, z.cps[j]? = some d → c = ⟨#[d]⟩) (hlt : j < z.cps.size) (h0 : @Ne Nat tc 0) (lo : Nat) (hlo : @LE.le Nat _ tc lo) :
    Does w 1 3 (.ref 160) [.str z tz, .str c tc] news (fun v n' _ => n' = news ∧ ∃ t, v = .int j t) (lo := lo) := by
  refine does_fn (binds := [("a", .str z tz), ("b", .str c tc)]) (by k_is) (by k_is) (fun s X => BindsTo.of_eq rfl) (locs rfl) (fun y => ?_) rfl rfl rfl (by decide) (@b_index w z c tz tc j news hz hj hc hlt h0 lo hlo)
  show List.lookup y [(("b" : Str), Value.str c tc), ("a", .str z tz)] = _
  rw [lk, lk]; rfl
theorem does_count {w : World} (l : Addr) (lo : Obj) (vs : List Value) (zs : List Int) (b : Int) (tb : Tok) (news : Led) (hl : (l, lo) ∈ news) (hlo : lo.cls = .type "list" ∧ ∃ k, lo.data = .seq vs.toArray k) (hv : IntsAre vs zs) (h0 : @Ne Nat tb 0) (hts : ∀ z t, Value.int z t ∈ vs → @Ne Nat t 0 ∧ (@Eq Nat t tb → z = b)) :
    Does w 1 3 (.ref 139) [.ref l, .int b tb] news (fun v n' _ => n' = news ∧ ∃ t, v = .int (zs.count b) t) := by
  refine does_fn (binds := [("a", .ref l), ("b", .int b tb)]) (by k_is) (by k_is) (fun s X => BindsTo.of_eq rfl) (locs rfl) (fun y => ?_) rfl rfl rfl (by decide) (@b_count w l lo vs zs b tb news hl hlo hv h0 hts)
  show List.lookup y [(("b" : Str), Value.int b tb), ("a", .ref l)] = _
  rw [lk, lk]; rfl
end

section
open PySem PySem.W PySem.Calls PyProof.Rows
set_option Elab.async false
set_option maxRecDepth 100000
set_option maxHeartbeats 8000000
set_option linter.all false
local macro_rules | `(tactic| walk_at "execs cons") => `(tactic| ((with_reducible refine wpAny_execs_cons ?_); try dsimp only))
set_option hygiene false
theorem nq_ch_nt : ¬ ("ch" : Str) = "nt" := by decide +kernel
theorem nq_ch_n : ¬ ("ch" : Str) = "n" := by decide +kernel
theorem nq_ch_b : ¬ ("ch" : Str) = "b" := by decide +kernel
theorem nq_ch_count : ¬ ("ch" : Str) = "count" := by decide +kernel
theorem nq_nt_ch : ¬ ("nt" : Str) = "ch" := by decide +kernel
theorem nq_nt_n : ¬ ("nt" : Str) = "n" := by decide +kernel
theorem nq_nt_b : ¬ ("nt" : Str) = "b" := by decide +kernel
theorem nq_nt_count : ¬ ("nt" : Str) = "count" := by decide +kernel
theorem nq_n_ch : ¬ ("n" : Str) = "ch" := by decide +kernel
theorem nq_n_nt : ¬ ("n" : Str) = "nt" := by decide +kernel
theorem nq_n_b : ¬ ("n" : Str) = "b" := by decide +kernel
theorem nq_n_count : ¬ ("n" : Str) = "count" := by decide +kernel
theorem nq_b_ch : ¬ ("b" : Str) = "ch" := by decide +kernel
theorem nq_b_nt : ¬ ("b" : Str) = "nt" := by decide +kernel
theorem nq_b_n : ¬ ("b" : Str) = "n" := by decide +kernel
theorem nq_b_count : ¬ ("b" : Str) = "count" := by decide +kernel
theorem nq_count_ch : ¬ ("count" : Str) = "ch" := by decide +kernel
theorem nq_count_nt : ¬ ("count" : Str) = "nt" := by decide +kernel
theorem nq_count_n : ¬ ("count" : Str) = "n" := by decide +kernel
theorem nq_count_b : ¬ ("count" : Str) = "b" := by decide +kernel
theorem ws_space (M : Str → Option Value) (c c' nt nt' n n' b b' C C' : Option Value) : up "b" b' (up "n" n' (up "ch" c' (up "ch" c (up "nt" nt (up "n" n (up "b" b (up "count" C M))))))) = up "ch" c' (up "nt" nt (up "n" n' (up "b" b' (up "count" C M)))) := funext fun y => by
  by_cases h0 : y = "ch"
  · simp [up, h0, nq_ch_nt, nq_ch_n, nq_ch_b, nq_ch_count, nq_nt_ch, nq_nt_n, nq_nt_b, nq_nt_count, nq_n_ch, nq_n_nt, nq_n_b, nq_n_count, nq_b_ch, nq_b_nt, nq_b_n, nq_b_count, nq_count_ch, nq_count_nt, nq_count_n, nq_count_b]
  by_cases h1 : y = "nt"
  · simp [up, h1, nq_ch_nt, nq_ch_n, nq_ch_b, nq_ch_count, nq_nt_ch, nq_nt_n, nq_nt_b, nq_nt_count, nq_n_ch, nq_n_nt, nq_n_b, nq_n_count, nq_b_ch, nq_b_nt, nq_b_n, nq_b_count, nq_count_ch, nq_count_nt, nq_count_n, nq_count_b]
  by_cases h2 : y = "n"
  · simp [up, h2, nq_ch_nt, nq_ch_n, nq_ch_b, nq_ch_count, nq_nt_ch, nq_nt_n, nq_nt_b, nq_nt_count, nq_n_ch, nq_n_nt, nq_n_b, nq_n_count, nq_b_ch, nq_b_nt, nq_b_n, nq_b_count, nq_count_ch, nq_count_nt, nq_count_n, nq_count_b]
  by_cases h3 : y = "b"
  · simp [up, h3, nq_ch_nt, nq_ch_n, nq_ch_b, nq_ch_count, nq_nt_ch, nq_nt_n, nq_nt_b, nq_nt_count, nq_n_ch, nq_n_nt, nq_n_b, nq_n_count, nq_b_ch, nq_b_nt, nq_b_n, nq_b_count, nq_count_ch, nq_count_nt, nq_count_n, nq_count_b]
  by_cases h4 : y = "count"
  · simp [up, h4, nq_ch_nt, nq_ch_n, nq_ch_b, nq_ch_count, nq_nt_ch, nq_nt_n, nq_nt_b, nq_nt_count, nq_n_ch, nq_n_nt, nq_n_b, nq_n_count, nq_b_ch, nq_b_nt, nq_b_n, nq_b_count, nq_count_ch, nq_count_nt, nq_count_n, nq_count_b]
  simp [up, h0, h1, h2, h3, h4]
theorem ws_tab (M : Str → Option Value) (c c' nt nt' n n' b b' C C' : Option Value) : up "b" b' (up "nt" nt' (up "n" n' (up "ch" c' (up "ch" c (up "nt" nt (up "n" n (up "b" b (up "count" C M)))))))) = up "ch" c' (up "nt" nt' (up "n" n' (up "b" b' (up "count" C M)))) := funext fun y => by
  by_cases h0 : y = "ch"
  · simp [up, h0, nq_ch_nt, nq_ch_n, nq_ch_b, nq_ch_count, nq_nt_ch, nq_nt_n, nq_nt_b, nq_nt_count, nq_n_ch, nq_n_nt, nq_n_b, nq_n_count, nq_b_ch, nq_b_nt, nq_b_n, nq_b_count, nq_count_ch, nq_count_nt, nq_count_n, nq_count_b]
  by_cases h1 : y = "nt"
  · simp [up, h1, nq_ch_nt, nq_ch_n, nq_ch_b, nq_ch_count, nq_nt_ch, nq_nt_n, nq_nt_b, nq_nt_count, nq_n_ch, nq_n_nt, nq_n_b, nq_n_count, nq_b_ch, nq_b_nt, nq_b_n, nq_b_count, nq_count_ch, nq_count_nt, nq_count_n, nq_count_b]
  by_cases h2 : y = "n"
  · simp [up, h2, nq_ch_nt, nq_ch_n, nq_ch_b, nq_ch_count, nq_nt_ch, nq_nt_n, nq_nt_b, nq_nt_count, nq_n_ch, nq_n_nt, nq_n_b, nq_n_count, nq_b_ch, nq_b_nt, nq_b_n, nq_b_count, nq_count_ch, nq_count_nt, nq_count_n, nq_count_b]
  by_cases h3 : y = "b"
  · simp [up, h3, nq_ch_nt, nq_ch_n, nq_ch_b, nq_ch_count, nq_nt_ch, nq_nt_n, nq_nt_b, nq_nt_count, nq_n_ch, nq_n_nt, nq_n_b, nq_n_count, nq_b_ch, nq_b_nt, nq_b_n, nq_b_count, nq_count_ch, nq_count_nt, nq_count_n, nq_count_b]
  by_cases h4 : y = "count"
  · simp [up, h4, nq_ch_nt, nq_ch_n, nq_ch_b, nq_ch_count, nq_nt_ch, nq_nt_n, nq_nt_b, nq_nt_count, nq_n_ch, nq_n_nt, nq_n_b, nq_n_count, nq_b_ch, nq_b_nt, nq_b_n, nq_b_count, nq_count_ch, nq_count_nt, nq_count_n, nq_count_b]
  simp [up, h0, h1, h2, h3, h4]
theorem ws_grow (M : Str → Option Value) (c c' nt nt' n n' b b' C C' : Option Value) : up "b" b' (up "count" C' (up "nt" nt' (up "n" n' (up "ch" c' (up "ch" c (up "nt" nt (up "n" n (up "b" b (up "count" C M))))))))) = up "ch" c' (up "nt" nt' (up "n" n' (up "b" b' (up "count" C' M)))) := funext fun y => by
  by_cases h0 : y = "ch"
  · simp [up, h0, nq_ch_nt, nq_ch_n, nq_ch_b, nq_ch_count, nq_nt_ch, nq_nt_n, nq_nt_b, nq_nt_count, nq_n_ch, nq_n_nt, nq_n_b, nq_n_count, nq_b_ch, nq_b_nt, nq_b_n, nq_b_count, nq_count_ch, nq_count_nt, nq_count_n, nq_count_b]
  by_cases h1 : y = "nt"
  · simp [up, h1, nq_ch_nt, nq_ch_n, nq_ch_b, nq_ch_count, nq_nt_ch, nq_nt_n, nq_nt_b, nq_nt_count, nq_n_ch, nq_n_nt, nq_n_b, nq_n_count, nq_b_ch, nq_b_nt, nq_b_n, nq_b_count, nq_count_ch, nq_count_nt, nq_count_n, nq_count_b]
  by_cases h2 : y = "n"
  · simp [up, h2, nq_ch_nt, nq_ch_n, nq_ch_b, nq_ch_count, nq_nt_ch, nq_nt_n, nq_nt_b, nq_nt_count, nq_n_ch, nq_n_nt, nq_n_b, nq_n_count, nq_b_ch, nq_b_nt, nq_b_n, nq_b_count, nq_count_ch, nq_count_nt, nq_count_n, nq_count_b]
  by_cases h3 : y = "b"
  · simp [up, h3, nq_ch_nt, nq_ch_n, nq_ch_b, nq_ch_count, nq_nt_ch, nq_nt_n, nq_nt_b, nq_nt_count, nq_n_ch, nq_n_nt, nq_n_b, nq_n_count, nq_b_ch, nq_b_nt, nq_b_n, nq_b_count, nq_count_ch, nq_count_nt, nq_count_n, nq_count_b]
  by_cases h4 : y = "count"
  · simp [up, h4, nq_ch_nt, nq_ch_n, nq_ch_b, nq_ch_count, nq_nt_ch, nq_nt_n, nq_nt_b, nq_nt_count, nq_n_ch, nq_n_nt, nq_n_b, nq_n_count, nq_b_ch, nq_b_nt, nq_b_n, nq_b_count, nq_count_ch, nq_count_nt, nq_count_n, nq_count_b]
  simp [up, h0, h1, h2, h3, h4]
theorem ws_stop (M : Str → Option Value) (c c' nt nt' n n' b b' C C' : Option Value) : up "ch" c' (up "ch" c (up "nt" nt (up "n" n (up "b" b (up "count" C M))))) = up "ch" c' (up "nt" nt (up "n" n (up "b" b (up "count" C M)))) := funext fun y => by
  by_cases h0 : y = "ch"
  · simp [up, h0, nq_ch_nt, nq_ch_n, nq_ch_b, nq_ch_count, nq_nt_ch, nq_nt_n, nq_nt_b, nq_nt_count, nq_n_ch, nq_n_nt, nq_n_b, nq_n_count, nq_b_ch, nq_b_nt, nq_b_n, nq_b_count, nq_count_ch, nq_count_nt, nq_count_n, nq_count_b]
  by_cases h1 : y = "nt"
  · simp [up, h1, nq_ch_nt, nq_ch_n, nq_ch_b, nq_ch_count, nq_nt_ch, nq_nt_n, nq_nt_b, nq_nt_count, nq_n_ch, nq_n_nt, nq_n_b, nq_n_count, nq_b_ch, nq_b_nt, nq_b_n, nq_b_count, nq_count_ch, nq_count_nt, nq_count_n, nq_count_b]
  by_cases h2 : y = "n"
  · simp [up, h2, nq_ch_nt, nq_ch_n, nq_ch_b, nq_ch_count, nq_nt_ch, nq_nt_n, nq_nt_b, nq_nt_count, nq_n_ch, nq_n_nt, nq_n_b, nq_n_count, nq_b_ch, nq_b_nt, nq_b_n, nq_b_count, nq_count_ch, nq_count_nt, nq_count_n, nq_count_b]
  by_cases h3 : y = "b"
  · simp [up, h3, nq_ch_nt, nq_ch_n, nq_ch_b, nq_ch_count, nq_nt_ch, nq_nt_n, nq_nt_b, nq_nt_count, nq_n_ch, nq_n_nt, nq_n_b, nq_n_count, nq_b_ch, nq_b_nt, nq_b_n, nq_b_count, nq_count_ch, nq_count_nt, nq_count_n, nq_count_b]
  by_cases h4 : y = "count"
  · simp [up, h4, nq_ch_nt, nq_ch_n, nq_ch_b, nq_ch_count, nq_nt_ch, nq_nt_n, nq_nt_b, nq_nt_count, nq_n_ch, nq_n_nt, nq_n_b, nq_n_count, nq_b_ch, nq_b_nt, nq_b_n, nq_b_count, nq_count_ch, nq_count_nt, nq_count_n, nq_count_b]
  simp [up, h0, h1, h2, h3, h4]
theorem ws_start (M : Str → Option Value) (c c' nt nt' n n' b b' C C' : Option Value) : up "nt" nt (up "n" n (up "b" b (up "count" C M))) = up "ch" (M "ch") (up "nt" nt (up "n" n (up "b" b (up "count" C M)))) := funext fun y => by
  by_cases h0 : y = "ch"
  · simp [up, h0, nq_ch_nt, nq_ch_n, nq_ch_b, nq_ch_count, nq_nt_ch, nq_nt_n, nq_nt_b, nq_nt_count, nq_n_ch, nq_n_nt, nq_n_b, nq_n_count, nq_b_ch, nq_b_nt, nq_b_n, nq_b_count, nq_count_ch, nq_count_nt, nq_count_n, nq_count_b]
  by_cases h1 : y = "nt"
  · simp [up, h1, nq_ch_nt, nq_ch_n, nq_ch_b, nq_ch_count, nq_nt_ch, nq_nt_n, nq_nt_b, nq_nt_count, nq_n_ch, nq_n_nt, nq_n_b, nq_n_count, nq_b_ch, nq_b_nt, nq_b_n, nq_b_count, nq_count_ch, nq_count_nt, nq_count_n, nq_count_b]
  by_cases h2 : y = "n"
  · simp [up, h2, nq_ch_nt, nq_ch_n, nq_ch_b, nq_ch_count, nq_nt_ch, nq_nt_n, nq_nt_b, nq_nt_count, nq_n_ch, nq_n_nt, nq_n_b, nq_n_count, nq_b_ch, nq_b_nt, nq_b_n, nq_b_count, nq_count_ch, nq_count_nt, nq_count_n, nq_count_b]
  by_cases h3 : y = "b"
  · simp [up, h3, nq_ch_nt, nq_ch_n, nq_ch_b, nq_ch_count, nq_nt_ch, nq_nt_n, nq_nt_b, nq_nt_count, nq_n_ch, nq_n_nt, nq_n_b, nq_n_count, nq_b_ch, nq_b_nt, nq_b_n, nq_b_count, nq_count_ch, nq_count_nt, nq_count_n, nq_count_b]
  by_cases h4 : y = "count"
  · simp [up, h4, nq_ch_nt, nq_ch_n, nq_ch_b, nq_ch_count, nq_nt_ch, nq_nt_n, nq_nt_b, nq_nt_count, nq_n_ch, nq_n_nt, nq_n_b, nq_n_count, nq_b_ch, nq_b_nt, nq_b_n, nq_b_count, nq_count_ch, nq_count_nt, nq_count_n, nq_count_b]
  simp [up, h0, h1, h2, h3, h4]
theorem for_str_one {w : World} {A : Around} {env : Env} {x : Str} {px : Pos} {body : List Stmt} {s : Shared} {g : Heap} {E : Value → Shared → Prop} {z : Str} {tz : Tok} {m : Str → Option Value} {news : Led} (hh : A.handled = none)
    (hk : env.scope.kind = .function) (hx : env.kindOf x = some .local)
    (F : Fr g env.locals s.heap m) (N : News g env.locals s.heap news) (ht : 1 ≤ s.toks)
    (J : Nat → (Str → Option Value) → Led → Nat → Prop) (h0 : J 0 m news s.toks) (Bk : (Str → Option Value) → Led → Prop)
    (turn : ∀ i c t m₁ nx h tk I io, z.cps[i]? = some c → J i m₁ nx tk → (∀ p ∈ nx, p.1 ≠ I) → 1 ≤ tk → Fr g env.locals h (fun y => if y = x then some (.str ⟨#[c]⟩ t) else m₁ y) → News g env.locals h (nx ++ [(I, io)]) →
      wpAny (model pw w) A (execs body env) (TurnPost g env.locals [(I, io)] I (J (i + 1)) Bk (fun _ _ => False) { s with heap := h, toks := tk }) (fun _ _ => False) { s with heap := h, toks := tk })
    {R : Result → Shared → Prop} (hd : ∀ m₁ nx tk, J z.cps.size m₁ nx tk → Bk m₁ nx)
    (brk : ∀ m₁ nx h tk, Bk m₁ nx → 1 ≤ tk → Fr g env.locals h m₁ → News g env.locals h nx → R (.ok .next) { s with heap := h, toks := tk })
    (hJm : ∀ i m nx a b, a ≤ b → J i m nx a → J i m nx b := by intro _ _ _ _ _ _ hJm; exact hJm) :
    wpAny (model pw w) A (pyIter (.str z tz)) (fun it s₂ => codeAny (model pw w) A (.forLoop (.Name x px) it body [] env) R s₂) E s :=
  for_str hh hk hx F N ht J h0 Bk (fun _ _ => False) turn (fun m₁ nx h tk hJ => brk m₁ nx h tk (hd _ _ _ hJ)) brk (fun _ _ _ _ _ h => h.elim) hJm
/-- what the constructor counts: signs taken, tabs, blanks since the last tab, tabs by the blanks before them -/
structure Wst where
  n : Nat
  nt : Nat
  b : Nat
  count : List Nat
def bump (l : List Nat) (b : Nat) : List Nat := (if l.length ≤ b then l ++ List.replicate (b - l.length + 1) 0 else l).modify b (· + 1)
def wsStep (s : Wst) (c : Nat) : Wst := if c = 32 then { s with n := s.n + 1, b := s.b + 1 } else { n := s.n + 1, nt := s.nt + 1, b := 0, count := bump s.count s.b }
def blank (c : Nat) : Bool := c == 32 || c == 9
def wsRun (l : List Nat) : Wst := l.foldl wsStep ⟨0, 0, 0, []⟩
theorem wsRun_snoc (l : List Nat) (c : Nat) : wsRun (l ++ [c]) = wsStep (wsRun l) c := by
  unfold wsRun; rw [List.foldl_append]; rfl
theorem wsRun_take {l : List Nat} {i c : Nat} (h : l[i]? = some c) : wsRun (l.take (i + 1)) = wsStep (wsRun (l.take i)) c := by
  rw [List.take_add_one, h]; exact wsRun_snoc _ _
theorem bump_len (l : List Nat) (b : Nat) : (bump l b).length = max l.length (b + 1) := by
  unfold bump
  rw [List.length_modify]
  split
  · rw [List.length_append, List.length_replicate]; omega
  · omega
theorem wsRun_le : ∀ (l : List Nat) (s : Wst), (l.foldl wsStep s).count.length ≤ max s.count.length (s.b + l.length) ∧ (l.foldl wsStep s).b ≤ s.b + l.length
  | [], s => ⟨Nat.le_max_left .., Nat.le_refl _⟩
  | c :: r, s => by
    have ih := wsRun_le r (wsStep s c)
    rw [List.foldl_cons, List.length_cons]
    have h : (wsStep s c).count.length ≤ max s.count.length (s.b + 1) ∧ (wsStep s c).b ≤ s.b + 1 := by
      unfold wsStep
      split
      · exact ⟨Nat.le_max_left .., Nat.le_refl _⟩
      · exact ⟨by rw [bump_len]; exact Nat.le_refl _, Nat.zero_le _⟩
    omega
theorem wsRun_small (l : List Nat) (h : l.length ≤ 1000) : (wsRun l).count.length ≤ 1000 ∧ (wsRun l).b ≤ 1000 := by
  have h2 : (wsRun l).count.length ≤ max 0 (0 + l.length) ∧ (wsRun l).b ≤ 0 + l.length := wsRun_le l ⟨0, 0, 0, []⟩
  omega
theorem sp_eq {c : Nat} (h : ((⟨#[c]⟩ : Str) == " ") = true) : c = 32 := by
  have h : (⟨#[c]⟩ : Str) = ⟨#[32]⟩ := (eq_of_beq h).trans (by decide)
  simpa using h
theorem tb_eq {c : Nat} (h : ((⟨#[c]⟩ : Str) == "\t") = true) : c = 9 := by
  have h : (⟨#[c]⟩ : Str) = ⟨#[9]⟩ := (eq_of_beq h).trans (by decide)
  simpa using h
theorem sp_ne {c : Nat} (h : ((⟨#[c]⟩ : Str) == " ") = false) : c ≠ 32 := fun e => by subst e; revert h; decide
theorem tb_ne {c : Nat} (h : ((⟨#[c]⟩ : Str) == "\t") = false) : c ≠ 9 := fun e => by subst e; revert h; decide
theorem takeWhile_at {p : Nat → Bool} : ∀ {l : List Nat} {i c : Nat}, l[i]? = some c → p c = false → (∀ j e, j < i → l[j]? = some e → p e = true) → l.takeWhile p = l.take i
  | a :: r, 0, c, h, hp, _ => by cases h; simp [List.takeWhile_cons, hp]
  | a :: r, i + 1, c, h, hp, hb => by
    have ha : p a = true := hb 0 a (Nat.succ_pos _) rfl
    rw [List.takeWhile_cons, ha, List.take_succ_cons]
    simp only [if_true]
    rw [takeWhile_at (by simpa using h) hp fun j e hj he => hb (j + 1) e (by omega) (by simpa using he)]
theorem news_drop3 {g h : Heap} {L : Addr} {a b c e : Addr × Obj} {r : Led} (N : News g L h (a :: b :: c :: e :: r)) : News g L h (a :: r) := fun p hp => N p (by simp only [List.mem_cons] at hp ⊢; rcases hp with h | h <;> simp [h])
theorem takeWhile_all {p : Nat → Bool} : ∀ {l : List Nat}, (∀ c ∈ l, p c = true) → l.takeWhile p = l
  | [], _ => rfl
  | a :: r, h => by
    rw [List.takeWhile_cons, h a (List.mem_cons_self ..)]
    simp only [if_true]
    rw [takeWhile_all fun c hc => h c (List.mem_cons_of_mem _ hc)]
theorem flat_one {α : Type} (n : Nat) (a : α) : (List.replicate n [a]).flatten = List.replicate n a := by
  induction n with
  | zero => rfl
  | succ n ih => rw [List.replicate_succ, List.flatten_cons, ih]; rfl
theorem modify_set {α : Type} (f : α → α) : ∀ (l : List α) (i : Nat) (a : α), l[i]? = some a → l.modify i f = l.set i (f a)
  | b :: r, 0, a, h => by cases h; rfl
  | b :: r, i + 1, a, h => by
    rw [List.modify_succ_cons, List.set_cons_succ, modify_set f r i a h]
theorem bump_in {count : List Nat} {b : Nat} (h : b < count.length) : (bump count b).map Int.ofNat = (count.map Int.ofNat).set b ((count.map Int.ofNat).getD b 0 + 1) := by
  unfold bump
  rw [if_neg (by omega), modify_set _ _ _ count[b] (List.getElem?_eq_getElem h), List.map_set]
  congr 1
  rw [List.getD_eq_getElem?_getD, List.getElem?_map, List.getElem?_eq_getElem h]
  rfl
theorem bump_grow {count : List Nat} {b : Nat} (h : count.length ≤ b) : (bump count b).map Int.ofNat = (count.map Int.ofNat ++ List.replicate (b - count.length + 1) (0 : Int)).set b (0 + 1) := by
  unfold bump
  rw [if_pos h, modify_set _ _ _ 0 ?_, List.map_set, List.map_append, List.map_replicate]
  · rfl
  · rw [List.getElem?_append_right h, List.getElem?_replicate, if_pos (by (with_reducible (refine o_lts ?_; ((iterate 7 (try (first | assumption | exact Nat.le_refl _ | refine Nat.le_trans (by assumption) ?_ | refine o_s1 (by assumption) ?_ | refine o_s2 (by assumption) ?_ | refine o_s3 (by assumption) ?_ | refine o_s4 (by assumption) ?_ | refine Nat.le_succ_of_le ?_))); done))))]
theorem ints_set : ∀ {vs : List Value} {zs : List Int}, IntsAre vs zs → ∀ (i : Nat) (z : Int) (t : Tok), IntsAre (vs.set i (.int z t)) (zs.set i z)
  | _, _, .nil, _, _, _ => .nil
  | _, _, .cons _ _ h, 0, _, _ => .cons _ _ h
  | _, _, .cons _ _ h, i + 1, z, t => .cons _ _ (ints_set h i z t)
def wsBase (row : Str) (tr : Tok) (x : Addr) : Str → Option Value := fun y => if y = "S" then some (Value.str " " 304) else if y = "T" then some (Value.str "\t" 305) else if y = "ws" then some (.str row tr) else if y = "self" then some (.ref x) else none
def WsJ (row : Str) (tr : Tok) (x : Addr) (own : Led) (st : Wst) (m : Str → Option Value) (nx : Led) : Prop :=
  ∃ c t1 t2 t3 C cvs k, m = up "ch" c (up "nt" (some (.int st.nt t1)) (up "n" (some (.int st.n t2)) (up "b" (some (.int st.b t3)) (up "count" (some (.ref C)) (wsBase row tr x))))) ∧
    nx = (C, listOf cvs.toArray k) :: own ∧ IntsAre cvs (st.count.map Int.ofNat) ∧ ∀ p ∈ own, p.1 ≠ C
theorem wsJ_mk {row : Str} {tr : Tok} {x : Addr} {own : Led} {st : Wst} {m : Str → Option Value} {nx : Led} {c : Option Value} {t1 t2 t3 : Tok} {C : Addr} {cvs : List Value} {k : Nat} (hm : m = up "ch" c (up "nt" (some (.int st.nt t1)) (up "n" (some (.int st.n t2)) (up "b" (some (.int st.b t3)) (up "count" (some (.ref C)) (wsBase row tr x))))))
    (hn : nx = (C, listOf cvs.toArray k) :: own) (hI : IntsAre cvs (st.count.map Int.ofNat)) (ho : ∀ p ∈ own, p.1 ≠ C) : WsJ row tr x own st m nx := ⟨c, t1, t2, t3, C, cvs, k, hm, hn, hI, ho⟩
abbrev rawD (w : World) (t : Tok) (row : Str) (tr : Tok) : Obj := W.dictOf [⟨PyData.keyHash w.params "raw", .str "raw" t, .str row tr⟩] 1
abbrev wsD (w : World) (t0 t1 t2 t3 t4 : Tok) (row : Str) (tr : Tok) (n : Int) (tn : Tok) (nt : Int) (tm : Tok) (q : Addr) (sm : Bool) : Obj := W.dictOf [⟨PyData.keyHash w.params "raw", .str "raw" t0, .str row tr⟩, ⟨PyData.keyHash w.params "n", .str "n" t1, .int n tn⟩, ⟨PyData.keyHash w.params "nt", .str "nt" t2, .int nt tm⟩, ⟨PyData.keyHash w.params "norm", .str "norm" t3, .ref q⟩, ⟨PyData.keyHash w.params "is_simple", .str "is_simple" t4, .bool sm⟩] 5
/-- the ledger of a Whitespace that stands -/
def WsL (w : World) (x d : Addr) (row : Str) (tr : Tok) (rest : Led) (st : Wst) (n' : Led) : Prop :=
  ∃ t0 t1 t2 t3 t4 tn tm tb sm q c cvs, n' = (q, { cls := .type "tuple", data := .seq #[.ref c, .int st.b tb] }) :: (c, { cls := .type "tuple", data := .seq cvs.toArray }) :: (x, instObj 100 d) :: (d, wsD w t0 t1 t2 t3 t4 row tr st.n tn st.nt tm q sm) :: rest ∧ IntsAre cvs (st.count.map Int.ofNat)
theorem news_dropWs {g h : Heap} {L : Addr} {a b c e : Addr × Obj} {r : Led} (N : News g L h (a :: b :: c :: e :: r)) : News g L h (a :: b :: r) := fun p hp => N p (by simp only [List.mem_cons] at hp ⊢; rcases hp with h | h | h <;> simp [h])
theorem b_wsinit {w : World} (x d : Addr) (row : Str) (tr : Tok) (rest : Led) (l1 : ∀ p ∈ rest, p.1 < d) (l2 : @LT.lt Nat _ d x) (hsz : row.cps.size ≤ 1000) :
    Body w 0 0 "Whitespace.__init__" s3m1 b3m1 55 (.ref 54) (fun y => if y = "ws" then some (.str row tr) else if y = "self" then some (.ref x) else none) ((x, instObj 100 d) :: (d, W.dictOf [] 0) :: rest)
      (fun v n' _ => v = .none ∧ WsL w x d row tr rest (wsRun ((ls row).takeWhile blank)) n') := by
  intro mean mg mb dp un gd outer A₀ base g L s B F X N T ht hd hu Aa
  dsimp only [b3m1, b3m1x]
  have hr : ∀ p ∈ rest, p.1 ≠ d := fun p hp => Nat.ne_of_lt (l1 p hp)
  k_steps
  rename Fr _ _ _ _ => F3
  rename News _ _ _ _ => N3
  rename _ ∧ _ => l3
  rename_i D0 e8 lD e7 e6 e5 C0 e4 e3 e2 e1 h0
  obtain ⟨oD, t0, N3⟩ : ∃ oD t0, News g L h0 ((C0, listOf #[] 0) :: (D0, oD) :: (x, instObj 100 d) :: (d, rawD w t0 row tr) :: rest) := ⟨_, _, N3⟩
  have hown : ∀ p ∈ (D0, oD) :: (x, instObj 100 d) :: (d, rawD w t0 row tr) :: rest, p.1 < C0 := List.forall_mem_cons.mpr ⟨l3.1, List.forall_mem_cons.mpr ⟨l3.2.1, List.forall_mem_cons.mpr ⟨l3.2.2.1, allLt_mem l3.2.2.2⟩⟩⟩
  have hlen : (ls row).length ≤ 1000 := hsz
  refine for_str_one (F := F3) (N := N3) rfl rfl rfl (by dsimp only; (with_reducible exact Nat.le_add_left 1 _))
    (fun i m nx _ => WsJ row tr x ((D0, oD) :: (x, instObj 100 d) :: (d, rawD w t0 row tr) :: rest) (wsRun ((ls row).take i)) m nx ∧ ∀ j c, j < i → (ls row)[j]? = some c → blank c = true)
    ⟨⟨_, _, _, _, C0, [], 0, ws_start (wsBase row tr x) none none _ none _ none _ none _ none, rfl, IntsAre.nil, fun p hp => Nat.ne_of_lt (hown p hp)⟩, fun j c h => absurd h (Nat.not_lt_zero j)⟩
    (fun m nx => WsJ row tr x ((D0, oD) :: (x, instObj 100 d) :: (d, rawD w t0 row tr) :: rest) (wsRun ((ls row).takeWhile blank)) m nx) ?_ ?_ ?_
  · clear F3 N3
    rintro i c t m₁ _ h tk I io hi ⟨⟨c0, t1, t2, t3, C, cvs, k, rfl, rfl, hcv, hof⟩, hbl⟩ hoff htk F4 N4
    refine hide_post fun Post1 hP1 => ?_
    simp only [List.cons_append] at N4
    have hcl := hcv.length
    rw [List.length_map] at hcl
    have hil : ((ls row).take i).length ≤ 1000 := by rw [List.length_take]; exact Nat.le_trans (Nat.min_le_right _ _) hlen
    have hwl : (wsRun ((ls row).take i)).count.length ≤ 1000 := (wsRun_small _ hil).1
    have hwb : (wsRun ((ls row).take i)).b ≤ 1000 := (wsRun_small _ hil).2
    have hcw : cvs.length ≤ 1000 := Nat.le_trans (Nat.le_of_eq hcl) hwl
    have hz : cvs.toArray.size ≤ 1000 := hcw
    have hz2 : cvs.toArray.size ≤ sizeLine := by unfold sizeLine; (with_reducible exact o_le (by assumption) (by decide))
    have hz3 : ((cvs.toArray.size : Nat) : Int) < 2 ^ 63 := by (with_reducible exact o_63l (by assumption) (by decide))
    generalize hst : wsRun ((ls row).take i) = st at F4 hcv hwl hwb hcl
    obtain ⟨n, nt, b, count⟩ := st
    dsimp only at F4 hcv hwl hwb hcl
    have hi' : (ls row)[i]? = some c := by simpa using hi
    have hnext := wsRun_take hi'
    rw [hst] at hnext
    have hbl' : blank c = true → ∀ j c, j < i + 1 → (ls row)[j]? = some c → blank c = true := fun h0 j e hj hje => by
      rcases Nat.lt_or_ge j i with q | q
      · exact hbl j e q hje
      · obtain rfl : j = i := by omega
        rw [hi'] at hje; cases hje; exact h0
    have hCI : C ≠ I := hoff (C, _) (List.mem_cons_self ..)
    have hofI : ∀ p ∈ (D0, oD) :: (x, instObj 100 d) :: (d, rawD w t0 row tr) :: rest, p.1 ≠ I := fun p hp => hoff p (List.mem_cons_of_mem _ hp)
    k_steps
    · rename Fr _ _ _ _ => F5
      rename News _ _ _ _ => N5
      rename (_ == _) = true => hc
      obtain rfl := sp_eq hc
      refine hP1 _ _ ?_
      rw [hnext]
      exact turn_next ((C, _) :: (D0, oD) :: (x, instObj 100 d) :: (d, rawD w t0 row tr) :: rest) F5 N5 hoff ⟨wsJ_mk (st := wsStep ⟨n, nt, b, count⟩ 32) (ws_space (wsBase row tr x) _ _ (some (.int nt t1)) none (some (.int n t2)) (some (.int (n + 1 : Nat) _)) (some (.int b t3)) (some (.int (b + 1 : Nat) _)) (some (.ref C)) none) rfl hcv hof, hbl' rfl⟩
    · rename_i D2 ws2 g1 hI2 lD2 g0 F5 N5 tz tz2
      rename ((⟨#[c]⟩ : Str) == "\t") = true => hc
      rename _ ≤ (b : Int) => hb
      obtain rfl := tb_eq hc
      rw [List.length_map] at hb
      have hb : count.length ≤ b := Int.ofNat_le.mp hb
      have ht2 : ((b : Int) - ((List.map Int.ofNat count).length : Int) + 1).toNat = b - count.length + 1 := by rw [List.length_map, ← Int.ofNat_sub hb]; rfl
      rw [flat_one, ht2] at hI2
      have hl2 := hI2.length
      rw [List.length_append, List.length_map, List.length_replicate] at hl2
      have hI3 := ints_set hI2 b (0 + 1)
      rw [← bump_grow hb] at hI3
      refine set_led F5 N5 (by intro p hp; refine Nat.ne_of_lt (allLt_mem ?_ p hp); exact lD2) (Int.natCast_nonneg b) (by omega) (by omega) fun h6 F6 N6 => ?_
      rw [Int.toNat_natCast] at N6
      clear F5 N5
      k_steps
      rename Fr _ _ _ _ => F5
      rename News _ _ _ _ => N5
      refine hP1 _ _ ?_
      rw [hnext]
      have hDo : ∀ p ∈ (D0, oD) :: (x, instObj 100 d) :: (d, rawD w t0 row tr) :: (rest ++ [(I, io)]), p.1 < D2 := by
        intro p hp
        refine allLt_mem ?_ p hp
        exact lD2.2.2.2
      exact turn_next ((D2, _) :: (D0, oD) :: (x, instObj 100 d) :: (d, rawD w t0 row tr) :: rest) F5 (news_drop3 N5) (List.forall_mem_cons.mpr ⟨Ne.symm (Nat.ne_of_lt (hDo (I, io) (by simp))), hofI⟩) ⟨wsJ_mk (st := wsStep ⟨n, nt, b, count⟩ 9) (ws_grow (wsBase row tr x) _ _ (some (.int nt t1)) (some (.int (nt + 1 : Nat) _)) (some (.int n t2)) (some (.int (n + 1 : Nat) _)) (some (.int b t3)) (some (.int (0 : Nat) _)) (some (.ref C)) (some (.ref D2))) rfl (hI3 _) (fun p hp => Nat.ne_of_lt (hDo p (by simp only [List.mem_cons, List.mem_append] at hp ⊢; rcases hp with h | h | h | h <;> simp [h]))), hbl' rfl⟩
    · rename Fr _ _ _ _ => F5
      rename News _ _ _ _ => N5
      rename ((⟨#[c]⟩ : Str) == "\t") = true => hc
      rename ¬ _ ≤ (b : Int) => hb
      obtain rfl := tb_eq hc
      rw [List.length_map] at hb
      have hb : b < count.length := Int.ofNat_lt.mp (Int.not_le.mp hb)
      have hI3 := ints_set hcv b ((count.map Int.ofNat).getD b 0 + 1)
      rw [← bump_in hb] at hI3
      refine set_led F5 N5 ?_ (Int.natCast_nonneg b) (by omega) (by omega) fun h6 F6 N6 => ?_
      · simp only [← List.cons_append]
        intro p hp
        rcases List.mem_append.mp hp with q | q
        · exact hof p q
        · rw [List.mem_singleton.mp q]; exact Ne.symm hCI
      rw [Int.toNat_natCast] at N6
      clear F5 N5
      k_steps
      rename Fr _ _ _ _ => F5
      rename News _ _ _ _ => N5
      refine hP1 _ _ ?_
      rw [hnext]
      exact turn_next ((C, _) :: (D0, oD) :: (x, instObj 100 d) :: (d, rawD w t0 row tr) :: rest) F5 N5 (List.forall_mem_cons.mpr ⟨hCI, hofI⟩) ⟨wsJ_mk (st := wsStep ⟨n, nt, b, count⟩ 9) (ws_tab (wsBase row tr x) _ _ (some (.int nt t1)) (some (.int (nt + 1 : Nat) _)) (some (.int n t2)) (some (.int (n + 1 : Nat) _)) (some (.int b t3)) (some (.int (0 : Nat) _)) (some (.ref C)) none) rfl (hI3 _) hof, hbl' rfl⟩
    · rename Fr _ _ _ _ => F5
      rename News _ _ _ _ => N5
      rename ((⟨#[c]⟩ : Str) == " ") = false => hc1
      rename ((⟨#[c]⟩ : Str) == "\t") = false => hc2
      have hnb : blank c = false := by
        have n1 := sp_ne hc1
        have n2 := tb_ne hc2
        simp [blank, n1, n2]
      have hpre : (ls row).takeWhile blank = (ls row).take i := takeWhile_at hi' hnb hbl
      refine hP1 _ _ ?_
      refine ⟨_, _, _, (C, listOf cvs.toArray k) :: (D0, oD) :: (x, instObj 100 d) :: (d, rawD w t0 row tr) :: rest, rfl, F5, fun p hp => N5 p (by simp only [List.mem_cons, List.mem_append] at hp ⊢; rcases hp with h | h | h | h | h <;> simp [h]), ?_⟩
      rw [hpre, hst]
      exact wsJ_mk (st := ⟨n, nt, b, count⟩) (ws_stop (wsBase row tr x) _ _ (some (.int nt t1)) none (some (.int n t2)) none (some (.int b t3)) none (some (.ref C)) none) rfl hcv hof
  · rintro m₁ nx tk ⟨hJ, hbl⟩
    have : (ls row).takeWhile blank = (ls row).take row.cps.size := by
      have e : (ls row).take row.cps.size = ls row := List.take_of_length_le (by simp)
      rw [e]
      refine takeWhile_all fun c hc => ?_
      obtain ⟨j, hj⟩ := List.getElem?_of_mem hc
      exact hbl j c (by have := (List.getElem?_eq_some_iff.mp hj).1; simpa using this) hj
    rw [this]; exact hJ
  · clear F3 N3
    rintro m₁ _ h tk ⟨c0, t1, t2, t3, C, cvs, k, rfl, rfl, hcv, hof⟩ htk F4 N4
    have hcl := hcv.length
    rw [List.length_map] at hcl
    have hil : ((ls row).takeWhile blank).length ≤ 1000 := Nat.le_trans (List.takeWhile_sublist _).length_le hlen
    have hwl : (wsRun ((ls row).takeWhile blank)).count.length ≤ 1000 := (wsRun_small _ hil).1
    have hwb : (wsRun ((ls row).takeWhile blank)).b ≤ 1000 := (wsRun_small _ hil).2
    have hcw : cvs.length ≤ 1000 := Nat.le_trans (Nat.le_of_eq hcl) hwl
    have hz : cvs.toArray.size ≤ 1000 := hcw
    have hz2 : cvs.toArray.size ≤ sizeLine := by unfold sizeLine; (with_reducible exact o_le (by assumption) (by decide))
    have hz3 : ((cvs.toArray.size : Nat) : Int) < 2 ^ 63 := by (with_reducible exact o_63l (by assumption) (by decide))
    generalize hst : wsRun ((ls row).takeWhile blank) = st at F4 hcv hwl hwb hcl
    obtain ⟨n, nt, b, count⟩ := st
    dsimp only at F4 hcv hwl hwb hcl
    (try dsimp only)
    have n1 : @Ne Nat C D0 := Ne.symm (hof (D0, oD) (List.mem_cons_self ..))
    have n2 : @Ne Nat C x := Ne.symm (hof (x, _) (List.mem_cons_of_mem _ (List.mem_cons_self ..)))
    have n3 : @Ne Nat C d := Ne.symm (hof (d, _) (List.mem_cons_of_mem _ (List.mem_cons_of_mem _ (List.mem_cons_self ..))))
    have n4 : @Ne Nat D0 x := Ne.symm (Nat.ne_of_lt lD.1)
    have n5 : @Ne Nat D0 d := Ne.symm (Nat.ne_of_lt lD.2.1)
    have n6 : @Ne Nat x d := Ne.symm (Nat.ne_of_lt l2)
    k_steps
    rename_i D1 g3 _ D2 g4 F5 N5 l5
    have n7 : @Ne Nat D1 d := fun e => by
      have z1 := (N5 (D1, { cls := .type "tuple", data := .seq cvs.toArray }) (by simp)).1
      have z2 := (N5 (d, _) (List.Mem.tail _ (List.Mem.tail _ (List.Mem.tail _ (List.Mem.tail _ (List.Mem.tail _ (List.Mem.head _))))))).1
      rw [show D1 = d from e, z2] at z1
      have := congrArg (fun o : Option Obj => o.map Obj.cls) z1
      revert this
      show some (Value.type "dict") = some (Value.type "tuple") → False
      decide
    k_steps
    rename Fr _ _ _ _ => F6
    rename News _ _ _ _ => N6
    refine body_fall F6 (news_dropWs N6) ⟨rfl, ?_⟩
    exact ⟨_, _, _, _, _, _, _, _, _, _, _, cvs, rfl, hcv⟩
theorem does_wsinit {w : World} (x d : Addr) (row : Str) (tr : Tok) (rest : Led) (l1 : ∀ p ∈ rest, p.1 < d) (l2 : @LT.lt Nat _ d x) (hsz : row.cps.size ≤ 1000) :
    Does w 1 3 (.ref 55) [.ref x, .str row tr] ((x, instObj 100 d) :: (d, W.dictOf [] 0) :: rest)
      (fun v n' _ => v = .none ∧ WsL w x d row tr rest (wsRun ((ls row).takeWhile blank)) n') := by
  refine does_fn (binds := [("self", .ref x), ("ws", .str row tr)]) (by k_is) (by k_is) (fun s X => BindsTo.of_eq rfl) (locs rfl) (fun y => ?_) rfl rfl rfl (by decide) (@b_wsinit w x d row tr rest l1 l2 hsz)
  show List.lookup y [(("ws" : Str), Value.str row tr), ("self", .ref x)] = _
  rw [lk, lk]; rfl
theorem does_ws {w : World} (row : Str) (tr : Tok) (rest : Led) (hsz : row.cps.size ≤ 1000) : Does w 2 7 (.ref 100) [.str row tr] rest (fun v n' _ => ∃ x d, v = .ref x ∧ WsL w x d row tr rest (wsRun ((ls row).takeWhile blank)) n' ∧ @LT.lt Nat _ d x ∧ ∀ p ∈ rest, p.1 < d) :=
  does_make (C := 100) (fI := 55) (by k_is) (by k_is) (by k_is) fun x d l1 l2 => does_wsinit x d row tr rest l1 l2 hsz
end

section
open PySem PySem.W PySem.Calls PyProof.Rows
set_option Elab.async false
set_option maxRecDepth 100000
set_option maxHeartbeats 8000000
set_option linter.all false
set_option hygiene false
def ilS (T : Nat) (count : List Nat) : Nat → Nat
  | 0 => 0
  | j + 1 => ilS T count j + (T + j) / T * count.getD (T + j) 0
def levelS (T : Nat) (st : Wst) : Nat := st.b + T * (ilS T st.count (st.count.length - T) + st.nt)
theorem up5 {v k : Str} (h : ¬ v = k) (X Y u Z : Option Value) (M : Str → Option Value) : up k X (up v Y (up v u (up k Z M))) = up v Y (up k X M) := funext fun y => by
  by_cases h1 : y = v
  · subst h1; simp [up, h]
  · by_cases h2 : y = k
    · subst h2; simp [up, h1]
    · simp [up, h1, h2]
abbrev lvBase (b : Nat) (tb : Tok) (c : Addr) (T : Nat) (tT : Tok) (x : Addr) : Str → Option Value := fun y => if y = "trailing" then some (.int b tb) else if y = "count" then some (.ref c) else if y = "tabsize" then some (.int T tT) else if y = "self" then some (.ref x) else none
theorem b_level {w : World} (x d : Addr) (row : Str) (tr : Tok) (rest : Led) (st : Wst) (T : Nat) (tT : Tok) (h1 : 1 ≤ T) (h5 : T ≤ 5) (hsz : st.count.length ≤ 1000) (news : Led) (hW : WsL w x d row tr rest st news) :
    Body w 0 0 "Whitespace.indent_level" s3m3 b3m3 69 (.ref 68) (fun y => if y = "tabsize" then some (.int T tT) else if y = "self" then some (.ref x) else none) news
      (fun v n' _ => n' = news ∧ ∃ t, v = .int (levelS T st) t) := by
  intro mean mg mb dp un gd outer A₀ base g L s B F X N T0 ht hd hu Aa
  refine hide_post fun Post0 hP0 => ?_
  obtain ⟨t0, t1, t2, t3, t4, tn, tm, tb, sm, q, c, cvs, rfl, hcv⟩ := hW
  obtain ⟨n, nt, b, count⟩ := st
  dsimp only at hcv hsz N ⊢
  dsimp only [b3m3, b3m3x]
  have hcl := hcv.length
  rw [List.length_map] at hcl
  have hz : cvs.toArray.size ≤ 1000 := by rw [List.size_toArray]; (with_reducible exact o_eqle2 (by assumption) (by assumption) (by decide))
  have hz2 : cvs.toArray.size ≤ sizeLine := by unfold sizeLine; (with_reducible exact o_le (by assumption) (by decide))
  have hz3 : ((cvs.toArray.size : Nat) : Int) < 2 ^ 63 := by (with_reducible exact o_63l (by assumption) (by decide))
  k_steps
  rename IsRange _ _ _ _ _ _ _ _ => R3
  rename Fr _ _ _ _ => F3
  rename News _ _ _ _ => N3
  simp only [List.size_toArray, hcl] at R3
  refine for_range (n := count.length - T) rfl R3 ?_ ?_ rfl rfl F3 N3 (by (try dsimp only); (with_reducible exact o_pos (by assumption)))
    (fun i m nx _ => (∃ u t, m = up "i" u (up "il" (some (.int (ilS T count i) t)) (lvBase b tb c T tT x))) ∧ nx = (q, { cls := .type "tuple", data := .seq #[.ref c, .int b tb] }) :: (c, { cls := .type "tuple", data := .seq cvs.toArray }) :: (x, instObj 100 d) :: (d, wsD w t0 t1 t2 t3 t4 row tr n tn nt tm q sm) :: rest)
    ⟨⟨none, _, up_none (by simp only [up, lvBase]; rw [if_neg (by decide +kernel), if_neg (by decide +kernel), if_neg (by decide +kernel), if_neg (by decide +kernel), if_neg (by decide +kernel)])⟩, rfl⟩ (fun _ _ => False) (fun _ _ => False) ?_ ?_ (fun _ _ _ _ h => h.elim) (fun _ _ _ _ _ h => h.elim)
  · exact rsmall_up (by omega) (by omega) (by omega) (by omega)
  · rw [rsize_up]; omega
  · clear F3 N3
    rintro i t m₁ _ h tk I io hi ⟨⟨u, t', rfl⟩, rfl⟩ hoff htk F4 N4
    refine hide_post fun Post1 hP1 => ?_
    simp only [List.cons_append] at N4
    have hti : ((T : Int) + (i : Int) * 1) = ((T + i : Nat) : Int) := by omega
    rw [hti] at F4
    have hlt : T + i < count.length := by omega
    have hT0 : (T : Int) ≠ 0 := by omega
    have hget : (List.map Int.ofNat count).getD (((T + i : Nat) : Int)).toNat 0 = ((count.getD (T + i) 0 : Nat) : Int) := by
      rw [Int.toNat_natCast, List.getD_eq_getElem?_getD, List.getD_eq_getElem?_getD, List.getElem?_map, List.getElem?_eq_getElem hlt]
      rfl
    have hfd : (((T + i : Nat) : Int)).fdiv (T : Int) = (((T + i) / T : Nat) : Int) := by
      rw [Int.fdiv_eq_ediv_of_nonneg _ (by (with_reducible exact Int.natCast_nonneg _))]; rfl
    have hqb : (T + i) / T ≤ 1000 := Nat.le_trans (Nat.div_le_self ..) (by omega)
    have hstep : ilS T count (i + 1) = ilS T count i + (T + i) / T * count.getD (T + i) 0 := rfl
    k_steps
    rw [hfd, hget]
    generalize (T + i) / T = qq at hqb hstep
    generalize count.getD (T + i) 0 = cc at hstep
    k_steps
    rename Fr _ _ _ _ => F5
    rename News _ _ _ _ => N5
    have hcast : ((ilS T count i : Nat) : Int) + (qq : Int) * (cc : Int) = ((ilS T count (i + 1) : Nat) : Int) := by rw [hstep]; push_cast; rfl
    rw [hcast] at F5
    exact hP1 _ _ <| turn_next ((q, _) :: (c, _) :: (x, instObj 100 d) :: (d, _) :: rest) F5 N5 hoff ⟨⟨_, _, up5 (show ¬ ("i" : Str) = "il" by decide +kernel) _ _ _ _ _⟩, rfl⟩
  · clear F3 N3
    rintro m₁ _ h tk ⟨⟨u, t', rfl⟩, rfl⟩ htk F4 N4
    k_steps
    have hcast : (b : Int) + (T : Int) * (((ilS T count (count.length - T) : Nat) : Int) + (nt : Int)) = ((levelS T ⟨n, nt, b, count⟩ : Nat) : Int) := by unfold levelS; push_cast; rfl
    rw [hcast]
    exact hP0 _ _ <| body_ret F4 N4 ⟨rfl, _, rfl⟩
theorem does_level {w : World} (x d : Addr) (row : Str) (tr : Tok) (rest : Led) (st : Wst) (T : Nat) (tT : Tok) (h1 : 1 ≤ T) (h5 : T ≤ 5) (hsz : st.count.length ≤ 1000) (news : Led) (hW : WsL w x d row tr rest st news) :
    Does w 1 3 (.ref 69) [.ref x, .int T tT] news (fun v n' _ => n' = news ∧ ∃ t, v = .int (levelS T st) t) := by
  refine does_fn (binds := [("self", .ref x), ("tabsize", .int T tT)]) (by k_is) (by k_is) (fun s X => BindsTo.of_eq rfl) (locs rfl) (fun y => ?_) rfl rfl rfl (by decide) (@b_level w x d row tr rest st T tT h1 h5 hsz news hW)
  show List.lookup y [(("tabsize" : Str), Value.int T tT), ("self", .ref x)] = _
  rw [lk, lk]; rfl
end

section
open PySem PySem.W PySem.Calls PyProof.Rows
set_option Elab.async false
set_option maxRecDepth 100000
set_option maxHeartbeats 1500000
set_option linter.all false
set_option hygiene false
/-- contracts that also know a list of the base -/
def DoesP (w : World) (l : Addr) (xs : Array Value) (D U : Nat) (f : Value) (vs : List Value) (news : Led) (post : Value → Led → Nat → Prop) : Prop :=
  ∀ (mean : ExcName → Option Value) (mg mb : Str → Option Value) (dp un : Nat) (gd : Option (List Code)) (cn : Str) (cs : Scope) (a : Addr) (ccd : Value) (cl : List (Str × Addr)) (outer : List Env) (A₀ : Around) (base h₀ : Heap) (L : Addr) (m : Str → Option Value) (s : Shared) (R : Result → Shared → Prop),
    Below A₀ base outer h₀ → Fr h₀ L s.heap m → (K w.params).In h₀ → News h₀ L s.heap news → Top vw (looseW vw loose) mean mg mb h₀ → cs.kind = .function → 1 ≤ s.toks → dp + D < recursionLimit → un + U < cLine → h₀.IsList l xs →
    (∀ v h' tk' news', post v news' tk' → s.toks ≤ tk' → Fr h₀ L h' m → News h₀ L h' news' → R (.ok (.ret v)) { s with heap := h', toks := tk' }) →
    codeAny (model pw w) (ktrTop dp un gd cn cs L a ccd cl outer) (.call f ⟨vs, []⟩) R s
def BodyCP (w : World) (l : Addr) (xs : Array Value) (D U : Nat) (qual : Str) (scope : Scope) (body : List Stmt) (f : Addr) (cdv : Value) (m cm : Str → Option Value) (news : Led) (post : Value → Led → Nat → Prop) : Prop :=
  ∀ (mean : ExcName → Option Value) (mg mb : Str → Option Value) (dp un : Nat) (gd : Option (List Code)) (outer : List Env) (A₀ : Around) (base g : Heap) (L : Addr) (s : Shared) (cells : Led),
    Below A₀ base outer g → Fr g L s.heap m → (K w.params).In g → News g L s.heap (cells ++ news) → CellsAre cm (cellsFrom (L + 1) scope.names []) cells → Top vw (looseW vw loose) mean mg mb g → (∀ p ∈ news, p.1 < L) → 1 ≤ s.toks → dp + D < recursionLimit → un + U < cLine → g.IsList l xs →
    let Aa : Around := ktrTop dp un gd qual scope L f cdv (cellsFrom (L + 1) scope.names []) outer
    wpAny (model pw w) Aa (execs body (envOfC qual scope L f cdv)) (BodyPost g L post s) (fun _ _ => False) s
theorem does_fnCP {w : World} {D U : Nat} {name qual : Str} {params : Arguments} {body : List Stmt} {scope : Scope} {dV kV doc pm cdv ct oc : Value} {an od : Option Addr} {osl : Array (Option Value)} {f : Addr} {vs : List Value} {binds : List (Str × Value)} {m cm : Str → Option Value} {news : Led} {post : Value → Led → Nat → Prop} {l : Addr} {xs : Array Value}
    (ho : (K w.params).lookup f = some ⟨oc, od, .func (fnOf name qual params body scope dV kV doc pm an cdv ct), osl⟩) (hcd : codeIn (K w.params) cdv qual = true)
    (hbind : ∀ s, (K w.params).In s.heap → BindsTo s (fnOf name qual params body scope dV kV doc pm an cdv ct) ⟨vs, []⟩ binds) (hkind : (binds.all fun y => scope.names.lookup y.1 == some .local || scope.names.lookup y.1 == some .cell) = true)
    (hnd : ((cellsFrom 0 scope.names []).map (·.1)).Nodup)
    (hm : ∀ L, bindL (envOfC qual scope L f cdv).kindOf binds (fun _ => none) = m) (hcm : ∀ L, bindC (envOfC qual scope L f cdv).kindOf binds (fun _ => none) = cm)
    (hco : scope.isCoroutine = false) (hgen : scope.isGenerator = false) (hk : scope.kind = .function)
    (h : BodyCP w l xs D U qual scope body f cdv m cm news post) : DoesP w l xs (D + 1) (U + 3) (.ref f) vs news post := by
  intro mean mg mb dp un gd cn cs a ccd cl outer A₀ base h₀ L m₀ s R B F X N T hkc ht hd hu hlst hret
  refine codeAny_mono (codeAny_toks_of (n := s.toks) (Nat.le_refl _) (R := fun r s' => s.toks ≤ s'.toks → R r s') ?_) fun _ _ q => q.2 q.1
  have hX := X.keeps F.keep
  obtain ⟨FG, BG, st, lv⟩ := groundX (R := fun r s' => s.toks ≤ s'.toks → R r s') B F N (env := envX cn cs L a ccd cl) (A := ktrTop dp un gd cn cs L a ccd cl outer) rfl rfl hkc
  refine codeAny_call_function (by show dp < recursionLimit; omega) (hX _ _ ho) rfl hco hgen rfl (codeRec_of hX hcd) (hbind _ hX _ _ _ _ ?_)
  refine wpAny_with_toks (n := 1) ht (wpAny_newFunctionEnv_cells hk (kindsX hkind _) fun env' he s' x => ?_)
  intro htk
  subst he
  refine ⟨(T.nolimit.keeps F.keep).keeps x.toInCall.keep, codeAny_func ?_⟩
  obtain ⟨h₁, tk, rfl, _⟩ := x.done
  have hk₁ := x.toInCall.keep
  obtain ⟨cells, NC, Y⟩ := Cl.news (h₀ := s.heap) (Nat.le_refl _) fun n c hm => ⟨x.cell n c (lookup_of_mem_nodup (cellsFrom_names scope.names 0 (s.heap.objs.size + 1) [] [] rfl ▸ hnd) hm), x.above n c hm⟩
  have hns : Heap.Ns h₁ s.heap.objs.size m := hm s.heap.objs.size ▸ x.toInCall.ns
  have Y : CellsAre cm (cellsFrom (s.heap.objs.size + 1) scope.names []) cells := hcm s.heap.objs.size ▸ Y
  refine wpAny_mono (h mean mg mb (dp + 1) (un + 3) gd (envX cn cs L a ccd cl :: outer) _ base _ s.heap.objs.size { s with heap := h₁, toks := tk } cells BG ⟨hns, fun b o e => hk₁ b o (of_hideAll _ e), Nat.le_of_eq (hideAll_size _ _)⟩ (X.keeps st) (fun p hp => ?_) Y (T.keeps st) (fun p hp => Heap.lt_size (N p hp).1) htk (o_dp hd) (o_un hu) (hlst.elim fun o e => ⟨o, st _ _ e.1, e.2⟩)) ?_ ?_
  · rcases List.mem_append.mp hp with hp | hp
    · refine ⟨(NC p hp).1, (NC p hp).2.1, ?_⟩
      cases q : (hideAll s.heap (news.map (·.1))).get? p.1 with
      | none => rfl
      | some o => have := of_hideAll _ q; rw [(NC p hp).2.2] at this; cases this
    · exact ⟨hk₁ _ _ (N p hp).1, Nat.ne_of_lt (Heap.lt_size (N p hp).1), hideAll_none _ (List.mem_map_of_mem hp)⟩
  · rintro fl s' ⟨h', tk', m', news', rfl, F3, N3, hp⟩
    exact lv _ _ (leaveK_ F3 N3 fun Fb Nb => fun ht' => hret _ h' tk' news' hp ht' Fb Nb)
  · intro _ _ h; exact h.elim
theorem does_callP {w : World} {l : Addr} {xs : Array Value} {D U : Nat} {f : Value} {vs : List Value} {news : Led} {post : Value → Led → Nat → Prop} (C : DoesP w l xs D U f vs news post) {mean : ExcName → Option Value} {mg mb : Str → Option Value} {dp un : Nat} {gd : Option (List Code)} {cn : Str} {cs : Scope} {a : Addr} {ccd : Value} {cl : List (Str × Addr)} {outer : List Env} {A₀ : Around} {base h₀ : Heap} {L : Addr} {m : Str → Option Value} {s : Shared} {Q E : Value → Shared → Prop}
    (B : Below A₀ base outer h₀) (F : Fr h₀ L s.heap m) (X : (K w.params).In h₀) (N : News h₀ L s.heap news) (T : Top vw (looseW vw loose) mean mg mb h₀) (hk : cs.kind = .function) (ht : 1 ≤ s.toks) (hd : dp + D < recursionLimit) (hu : un + U < cLine) (hl : h₀.IsList l xs)
    (ret : ∀ v h' tk' news', post v news' (tk' + 1) → s.toks ≤ tk' + 1 → Fr h₀ L h' m → News h₀ L h' news' → Q v { s with heap := h', toks := tk' + 1 }) :
    wpAny (model pw w) (ktrTop dp un gd cn cs L a ccd cl outer) (call f vs) Q E s :=
  wpAny_call (C mean mg mb dp un gd cn cs a ccd cl outer A₀ base h₀ L m s _ B F X N T hk ht hd hu hl fun v h' tk' news' hp h1 F' N' => by
    cases tk' with
    | zero => exact absurd (Nat.le_trans ht h1) (Nat.not_succ_le_zero 0)
    | succ k => exact ret v h' k news' hp h1 F' N')
abbrev spareF : List Int := [48, 121, 590, 37, 72, 253, 277]
def cellF (zs : List Int) (k : Nat) : Int := if k < zs.length then (zs.getD k 0).emod 1000000 else spareF.getD k 0
def cellsF (zs : List Int) : List Int := (List.range 7).map (cellF zs)
theorem b_cells {w : World} (l : Addr) (vs : List Value) (zs : List Int) (rest : Led) (hv : IntsAre vs zs) (h63 : vs.length ≤ 63) :
    BodyCP w l vs.toArray 0 0 "_law_cells" s25 b25 344 (.ref 343) (fun _ => none) (fun y => if y = "script" then some (.ref l) else none) rest
      (fun v n' _ => ∃ r ys, v = .ref r ∧ n' = (r, lst ys) :: rest ∧ IntsAre ys (cellsF zs) ∧ ∀ p ∈ rest, p.1 ≠ r) := by
  intro mean mg mb dp un gd outer A₀ base g L s cells B F X N Y T hlt ht hd hu hlst Aa
  refine hide_post fun Post0 hP0 => ?_
  dsimp only [b25, b25x]
  obtain ⟨o', o2', hE, hd', hd2'⟩ := CellsAre.two Y
  subst hE
  clear Y
  simp only [List.cons_append, List.nil_append] at N
  rw [if_neg (show ¬ ("spare" : Str) = "script" by decide +kernel)] at hd'
  rw [if_pos rfl] at hd2'
  have q4 : ∀ p ∈ rest, p.1 < L := fun p hp => hlt p hp
  have q5 : ∀ p ∈ rest, p.1 ≠ L + 1 := fun p hp => Nat.ne_of_lt (Nat.lt_succ_of_lt (q4 p hp))
  have q6 : ∀ p ∈ rest, p.1 ≠ L + 1 + 1 := fun p hp => Nat.ne_of_lt (Nat.lt_succ_of_lt (Nat.lt_succ_of_lt (q4 p hp)))
  k_steps
  rename IsRange _ _ _ _ _ _ _ _ => R3
  rename Fr _ _ _ _ => F3
  rename News _ _ _ _ => N3
  rename_i sl _ lsp _ osp _ _ dsp hR _ _ _ _ _
  obtain ⟨svs, hsv, N3⟩ : ∃ svs, IntsAre svs spareF ∧ News g L hR ((sl, listOf svs.toArray 0) :: (L + 1 + 1, osp) :: (L + 1, o2') :: rest) := ⟨_, .cons _ _ (.cons _ _ (.cons _ _ (.cons _ _ (.cons _ _ (.cons _ _ (.cons _ _ .nil)))))), N3⟩
  have hzl := hv.length
  have hz : vs.toArray.size ≤ 1000 := by rw [List.size_toArray]; (with_reducible exact o_le (by assumption) (by decide))
  have hz2 : vs.toArray.size ≤ sizeLine := by unfold sizeLine; (with_reducible exact o_le (by assumption) (by decide))
  have hz3 : ((vs.toArray.size : Nat) : Int) < 2 ^ 63 := by (with_reducible exact o_63l (by assumption) (by decide))
  have hs7 : svs.length = 7 := hsv.length
  have hy2 : svs.toArray.size ≤ sizeLine := by rw [List.size_toArray, hs7]; unfold sizeLine; omega
  refine comp_range (n := 7) (F := F3) (N := N3) rfl (by decide) rfl rfl R3 (by decide +kernel) (by decide +kernel) (by decide +kernel) (by (try dsimp only); (with_reducible exact o_pos (by assumption)))
    (fun i ys nx _ => nx = (sl, listOf svs.toArray 0) :: (L + 1 + 1, osp) :: (L + 1, o2') :: rest ∧ IntsAre ys ((List.range i).map (cellF zs))) ⟨rfl, .nil⟩ ?_ (.expr ?_)
  · clear F3 N3
    rintro i t ys _ tk hi ⟨rfl, hys⟩ I oI C oC D m₂ h hoC hk htk F4 N4 hoff ⟨i1, i2, i3⟩
    rw [show (0 + (i : Int) * 1) = (i : Int) by (with_reducible exact o_01 _)] at hk
    refine wpAny_tests_nil ?_
    simp only [if_true]
    k_steps
    · rename (i : Int) < _ => hc
      have hc' : i < zs.length := by first | omega | (simp only [List.size_toArray, hzl] at hc; omega)
      refine cend _ (by assumption) (by assumption) hoff trivial ⟨rfl, ?_⟩
      rw [List.range_succ, List.map_append, List.map_singleton]
      refine hys.append ?_
      unfold cellF
      rw [if_pos hc', Int.toNat_natCast, Int.fmod_eq_emod_of_nonneg _ (by decide)]
      exact .cons _ _ .nil
    · rename ¬ (i : Int) < _ => hc
      have hc' : ¬ i < zs.length := by first | omega | (simp only [List.size_toArray, hzl] at hc; omega)
      refine cend _ (by assumption) (by assumption) hoff trivial ⟨rfl, ?_⟩
      rw [List.range_succ, List.map_append, List.map_singleton]
      refine hys.append ?_
      unfold cellF
      rw [if_neg hc', Int.toNat_natCast]
      exact .cons _ _ .nil
  · clear F3 N3
    rintro D h tk ys _ F3 N3 hoff htk ⟨rfl, hys⟩
    k_steps
    refine hP0 _ _ <| body_ret F3 (fun p hp => N3 p ?_) ⟨D, ys, rfl, rfl, hys, fun p hp => hoff p ?_⟩
    · simp only [List.mem_cons] at hp ⊢
      rcases hp with h | h <;> simp [h]
    · simp [hp]
theorem does_cells {w : World} (l : Addr) (vs : List Value) (zs : List Int) (rest : Led) (hv : IntsAre vs zs) (h63 : vs.length ≤ 63) :
    DoesP w l vs.toArray 1 3 (.ref 344) [.ref l] rest
      (fun v n' _ => ∃ r ys, v = .ref r ∧ n' = (r, lst ys) :: rest ∧ IntsAre ys (cellsF zs) ∧ ∀ p ∈ rest, p.1 ≠ r) := by
  refine does_fnCP (binds := [("script", .ref l)]) (by k_is) (by k_is) (fun s X => BindsTo.of_eq rfl) rfl (by decide) (fun L => ?_) (fun L => ?_) rfl rfl rfl (@b_cells w l vs zs rest hv h63)
  · rfl
  · rfl
end

section
open PySem PySem.W PySem.Calls PyProof.Rows
set_option Elab.async false
set_option maxRecDepth 100000
set_option maxHeartbeats 1500000
set_option linter.all false
set_option hygiene false
local macro_rules | `(tactic| walk_at $s) => if ["subscriptTail Name BinOp ref int"].contains s.getString then `(tactic| refine unmark ?_) else Lean.Macro.throwUnsupported
theorem does_depths {w : World} (lc : Addr) (vs : List Value) (k : Nat) (cs : List Int) (news : Led) (hl : (lc, listOf vs.toArray k) ∈ news) (hi : IntsAre vs cs) (h7 : cs.length = 7) :
    Does w 1 3 (.ref 351) [.ref lc] news
      (fun v n' _ => ∃ r dvs k', v = .ref r ∧ n' = (r, listOf dvs.toArray k') :: news ∧ IntsAre dvs (depthsF cs) ∧ ∀ p ∈ news, p.1 < r) := by
  refine does_fn (binds := [("cells", .ref lc)]) (by k_is) (by k_is) (fun s X => BindsTo.of_eq rfl) (locs rfl) (fun y => ?_) rfl rfl rfl (by decide) (@b_depths w lc vs k cs news hl hi h7)
  show List.lookup y [(("cells" : Str), Value.ref lc)] = _
  rw [lk]; rfl
theorem get_snoc {α : Type} {ys : List α} {v : α} {j : Nat} (h : ys.length = j) : (ys ++ [v])[j]? = some v := by subst h; simp
abbrev signsF : List Nat := [38, 62, 34, 9, 10, 13, 59, 107]
def signOf (c : Int) : Nat := signsF.getD ((c / 12) % 8).toNat 0
def headF (cs : List Int) (k : Nat) : Str := tx [60, 97 + k, signOf (cs.getD k 0), 10]
theorem b_heads {w : World} (l : Addr) (vs : List Value) (k : Nat) (cs : List Int) (rest : Led) (hv : IntsAre vs cs) (h7 : cs.length = 7) :
    BodyC w 0 0 "_law_heads" s27 b27 356 (.ref 355) (fun _ => none) (fun y => if y = "cells" then some (.ref l) else none) ((l, listOf vs.toArray k) :: rest)
      (fun v n' _ => ∃ r ys, v = .ref r ∧ n' = (r, lst ys) :: (l, listOf vs.toArray k) :: rest ∧ (ys.length = 7 ∧ ∀ i, i < 7 → ∃ t, ys[i]? = some (.str (headF cs i) t)) ∧ ∀ p ∈ (l, listOf vs.toArray k) :: rest, p.1 ≠ r) := by
  intro mean mg mb dp un gd outer A₀ base g L s cells B F X N Y T hlt ht hd hu Aa
  refine hide_post fun Post0 hP0 => ?_
  dsimp only [b27, b27x]
  obtain ⟨o', o2', hE, hd', hd2'⟩ := CellsAre.two Y
  subst hE
  clear Y
  simp only [List.cons_append, List.nil_append] at N
  have q1 : @LT.lt Nat _ l L := hlt (l, _) (List.mem_cons_self ..)
  have q4 : ∀ p ∈ rest, p.1 < L := fun p hp => hlt p (List.mem_cons_of_mem _ hp)
  have q5 : ∀ p ∈ rest, p.1 ≠ L + 1 := fun p hp => Nat.ne_of_lt (Nat.lt_succ_of_lt (q4 p hp))
  have q6 : ∀ p ∈ rest, p.1 ≠ L + 1 + 1 := fun p hp => Nat.ne_of_lt (Nat.lt_succ_of_lt (Nat.lt_succ_of_lt (q4 p hp)))
  rw [if_neg (show ¬ ("signs" : Str) = "cells" by decide +kernel)] at hd'
  rw [if_pos rfl] at hd2'
  (k_steps; repeat' ((with_reducible refine mark ?_); (first | (((rename News _ _ _ _ => NL); refine item_strsR (ys := signsF.map fun c => (⟨#[c]⟩ : Str)) (l := sl) (vs := svs) ⟨_, (NL (sl, listOf svs.toArray 0) (by k_mem)).1, rfl, _, rfl⟩ hsv (hb1 _).1 (hb1 _).2 (Int.lt_trans (hb1 _).2 (by decide)) ?_; intro tS; try dsimp only))); k_steps))
  rename IsRange _ _ _ _ _ _ _ _ => R3
  rename Fr _ _ _ _ => F3
  rename News _ _ _ _ => N3
  rename_i sl _ lsp _ osp _ _ dsp hR _ _ _ _ _
  obtain ⟨svs, hsv, N3⟩ : ∃ svs, StrsAre svs (signsF.map fun c => (⟨#[c]⟩ : Str)) ∧ News g L hR ((sl, listOf svs.toArray 0) :: (L + 1 + 1, osp) :: (L + 1, o2') :: (l, listOf vs.toArray k) :: rest) := ⟨_, .cons _ _ (.cons _ _ (.cons _ _ (.cons _ _ (.cons _ _ (.cons _ _ (.cons _ _ (.cons _ _ .nil))))))), N3⟩
  have hzl := hv.length
  have hz : vs.toArray.size ≤ 1000 := by rw [List.size_toArray]; omega
  have hz2 : vs.toArray.size ≤ sizeLine := by unfold sizeLine; (with_reducible exact o_le (by assumption) (by decide))
  refine comp_range (n := 7) (F := F3) (N := N3) rfl (by decide) rfl rfl R3 (by decide +kernel) (by decide +kernel) (by decide +kernel) (by (try dsimp only); (with_reducible exact o_pos (by assumption)))
    (fun i ys nx _ => nx = (sl, listOf svs.toArray 0) :: (L + 1 + 1, osp) :: (L + 1, o2') :: (l, listOf vs.toArray k) :: rest ∧ ys.length = i ∧ ∀ j, j < i → ∃ t, ys[j]? = some (.str (headF cs j) t)) ⟨rfl, rfl, fun j h => absurd h (Nat.not_lt_zero j)⟩ ?_ (.expr ?_)
  · clear F3 N3
    rintro i t ys _ tk hi ⟨rfl, hyl, hys⟩ I oI C oC D m₂ h hoC hk htk F4 N4 hoff ⟨i1, i2, i3⟩
    rw [show (0 + (i : Int) * 1) = (i : Int) by (with_reducible exact o_01 _)] at hk
    refine wpAny_tests_nil ?_
    simp only [if_true]
    have hb1 : ∀ c : Int, 0 ≤ (c.fdiv 12).fmod 8 ∧ (c.fdiv 12).fmod 8 < 8 := fun c => by
      rw [Int.fmod_eq_emod_of_nonneg _ (by decide)]; omega
    have hA : (Str.ofString "<" ++ Txt.item (Str.ofString "abcdefg") (i : Int)) = tx [60, 97 + i] := by
      have : ∀ i : Nat, i < 7 → (Str.ofString "<" ++ Txt.item (Str.ofString "abcdefg") (i : Int)) = tx [60, 97 + i] := by decide +kernel
      exact this i hi
    have hS : ((List.map (fun c => (⟨#[c]⟩ : Str)) signsF).getD (((cs.getD (i : Int).toNat 0).fdiv 12).fmod 8).toNat Str.empty) = tx [signOf (cs.getD i 0)] := by
      rw [Int.toNat_natCast, Int.fmod_eq_emod_of_nonneg _ (by decide), Int.fdiv_eq_ediv_of_nonneg _ (by decide)]
      unfold signOf
      have hlt : ((cs.getD i 0 / 12) % 8).toNat < 8 := by omega
      generalize ((cs.getD i 0 / 12) % 8).toNat = j at hlt
      have : ∀ j : Nat, j < 8 → (List.map (fun c => (⟨#[c]⟩ : Str)) signsF).getD j Str.empty = tx [signsF.getD j 0] := by decide +kernel
      exact this j hlt
    (k_steps; repeat' ((with_reducible refine mark ?_); (first | (((rename News _ _ _ _ => NL); refine item_strsR (ys := signsF.map fun c => (⟨#[c]⟩ : Str)) (l := sl) (vs := svs) ⟨_, (NL (sl, listOf svs.toArray 0) (by k_mem)).1, rfl, _, rfl⟩ hsv (hb1 _).1 (hb1 _).2 (Int.lt_trans (hb1 _).2 (by decide)) ?_; intro tS; try dsimp only))); k_steps))
    rw [hA, hS]
    have l1 : (tx [60, 97 + i]).length ≤ 100000 := Nat.le_of_ble_eq_true rfl
    have l2 : (tx [signOf (cs.getD i 0)]).length ≤ 100000 := Nat.le_of_ble_eq_true rfl
    (k_steps; repeat' ((with_reducible refine mark ?_); (first | (((rename News _ _ _ _ => NL); refine item_strsR (ys := signsF.map fun c => (⟨#[c]⟩ : Str)) (l := sl) (vs := svs) ⟨_, (NL (sl, listOf svs.toArray 0) (by k_mem)).1, rfl, _, rfl⟩ hsv (hb1 _).1 (hb1 _).2 (Int.lt_trans (hb1 _).2 (by decide)) ?_; intro tS; try dsimp only))); k_steps))
    have hfin : tx [60, 97 + i] ++ tx [signOf (cs.getD i 0)] ++ Str.ofString "\n" = headF cs i := ext_ls (by rw [ls_append, ls_append]; rfl)
    rw [hfin]
    refine cend _ (by assumption) (by assumption) hoff trivial ⟨rfl, by rw [List.length_append, hyl]; rfl, fun j hj => ?_⟩
    rcases Nat.lt_or_ge j i with q | q
    · obtain ⟨t2, e2⟩ := hys j q
      exact ⟨t2, by rw [List.getElem?_append_left (by (with_reducible exact o_eqlt (by assumption) (by assumption)))]; exact e2⟩
    · obtain rfl : j = i := by omega
      exact ⟨_, get_snoc hyl⟩
  · clear F3 N3
    rintro D h tk ys _ F3 N3 hoff htk ⟨rfl, hys⟩
    (k_steps; repeat' ((with_reducible refine mark ?_); (first | (((rename News _ _ _ _ => NL); refine item_strsR (ys := signsF.map fun c => (⟨#[c]⟩ : Str)) (l := sl) (vs := svs) ⟨_, (NL (sl, listOf svs.toArray 0) (by k_mem)).1, rfl, _, rfl⟩ hsv (hb1 _).1 (hb1 _).2 (Int.lt_trans (hb1 _).2 (by decide)) ?_; intro tS; try dsimp only))); k_steps))
    refine hP0 _ _ <| body_ret F3 (fun p hp => N3 p ?_) ⟨D, ys, rfl, rfl, hys, fun p hp => hoff p ?_⟩
    · simp only [List.mem_cons] at hp ⊢
      rcases hp with h | h | h <;> simp [h]
    · simp only [List.mem_cons] at hp ⊢
      rcases hp with h | h <;> simp [h]
theorem does_heads {w : World} (l : Addr) (vs : List Value) (k : Nat) (cs : List Int) (rest : Led) (hv : IntsAre vs cs) (h7 : cs.length = 7) :
    Does w 1 3 (.ref 356) [.ref l] ((l, listOf vs.toArray k) :: rest)
      (fun v n' _ => ∃ r ys, v = .ref r ∧ n' = (r, lst ys) :: (l, listOf vs.toArray k) :: rest ∧ (ys.length = 7 ∧ ∀ i, i < 7 → ∃ t, ys[i]? = some (.str (headF cs i) t)) ∧ ∀ p ∈ (l, listOf vs.toArray k) :: rest, p.1 ≠ r) := by
  refine does_fnC (binds := [("cells", .ref l)]) (by k_is) (by k_is) (fun s X => BindsTo.of_eq rfl) rfl (by decide) (fun L => ?_) (fun L => ?_) rfl rfl rfl (@b_heads w l vs k cs rest hv h7)
  · rfl
  · rfl
end

section
open PySem PySem.W PySem.Calls PyProof.Rows
set_option Elab.async false
set_option maxRecDepth 100000
set_option maxHeartbeats 1500000
set_option linter.all false
set_option hygiene false
theorem len_sp : (Str.ofString " ").length = 1 := by decide
theorem len_tab : (Str.ofString "\t").length = 1 := by decide
theorem ls_sp : ls (Str.ofString " ") = [32] := by decide
theorem ls_tab : ls (Str.ofString "\t") = [9] := by decide
local macro_rules | `(tactic| walk_at "binaryOp Add str str") => `(tactic| (refine add_ls (by simp only [len_app, len_mulN, len_sp, len_tab, len_tx]; omega) ?_; intro tA kA hA; (try dsimp only at hA); (try dsimp only)))
local macro_rules | `(tactic| walk_at "binaryOp Mult str int") => `(tactic| (refine mul_ls (N := _) (by first | rfl | assumption) (by simp only [len_app, len_mulN, len_sp, len_tab, len_tx]; omega) (by omega) ?_; intro tA kA hA; (try dsimp only at hA); (try dsimp only)))
abbrev bl (n : Nat) : List Nat := List.replicate n 32
def blanksF (k cell size j : Nat) : Nat := (cell / 96 / 5 ^ j + k + j) % (size + 1)
def leadStep (k cell size j : Nat) : List Nat := bl (blanksF k cell size j) ++ (if blanksF k cell size j < size then [9] else [])
def leadBase (size : Nat) : List Nat := bl (3 * size - 1) ++ ((9 :: bl size) ++ (9 :: bl size)) ++ [9]
def leadF (k d cell size : Nat) : List Nat := leadBase size ++ (List.range d).flatMap (leadStep k cell size) ++ bl (k % size)
theorem leadBase_len (size : Nat) (h : size ≤ 5) : (leadBase size).length ≤ 30 := by
  unfold leadBase; simp [List.length_append, List.length_replicate]; omega
theorem leadStep_len (k cell size j : Nat) (h : size ≤ 5) : (leadStep k cell size j).length ≤ 6 := by
  have : blanksF k cell size j ≤ size := Nat.le_of_lt_succ (Nat.mod_lt _ (Nat.succ_pos size))
  unfold leadStep
  rw [List.length_append, List.length_replicate]
  split
  · simp; (with_reducible ((iterate 7 (try (first | assumption | exact Nat.le_refl _ | refine Nat.le_trans (by assumption) ?_ | refine o_s1 (by assumption) ?_ | refine o_s2 (by assumption) ?_ | refine o_s3 (by assumption) ?_ | refine o_s4 (by assumption) ?_ | refine Nat.le_succ_of_le ?_))); done))
  · simp; (with_reducible ((iterate 7 (try (first | assumption | exact Nat.le_refl _ | refine Nat.le_trans (by assumption) ?_ | refine o_s1 (by assumption) ?_ | refine o_s2 (by assumption) ?_ | refine o_s3 (by assumption) ?_ | refine o_s4 (by assumption) ?_ | refine Nat.le_succ_of_le ?_))); done))
theorem steps_len (k cell size : Nat) (h : size ≤ 5) : ∀ i, ((List.range i).flatMap (leadStep k cell size)).length ≤ 6 * i
  | 0 => Nat.le_refl _
  | i + 1 => by
    rw [List.range_succ, List.flatMap_append, List.length_append]
    have := steps_len k cell size h i
    have h2 := leadStep_len k cell size i h
    simp only [List.flatMap_cons, List.flatMap_nil, List.append_nil]
    omega
theorem lead_len (k cell size i : Nat) (h : size ≤ 5) (hi : i ≤ 3) : (leadBase size ++ (List.range i).flatMap (leadStep k cell size)).length ≤ 500 := by
  rw [List.length_append]
  have := leadBase_len size h
  have := steps_len k cell size h i
  omega
theorem nr_j_blanks : ¬ ("j" : Str) = "blanks" := by decide +kernel
theorem nr_j_lead : ¬ ("j" : Str) = "lead" := by decide +kernel
theorem nr_blanks_j : ¬ ("blanks" : Str) = "j" := by decide +kernel
theorem nr_blanks_lead : ¬ ("blanks" : Str) = "lead" := by decide +kernel
theorem nr_lead_j : ¬ ("lead" : Str) = "j" := by decide +kernel
theorem nr_lead_blanks : ¬ ("lead" : Str) = "blanks" := by decide +kernel
theorem ld_one (M : Str → Option Value) (j j' b b' l l' l2 : Option Value) : up "lead" l' (up "blanks" b' (up "j" j' (up "j" j (up "blanks" b (up "lead" l M))))) = up "j" j' (up "blanks" b' (up "lead" l' M)) := funext fun y => by
  by_cases h0 : y = "j"
  · simp [up, h0, nr_j_blanks, nr_j_lead, nr_blanks_j, nr_blanks_lead, nr_lead_j, nr_lead_blanks]
  by_cases h1 : y = "blanks"
  · simp [up, h1, nr_j_blanks, nr_j_lead, nr_blanks_j, nr_blanks_lead, nr_lead_j, nr_lead_blanks]
  by_cases h2 : y = "lead"
  · simp [up, h2, nr_j_blanks, nr_j_lead, nr_blanks_j, nr_blanks_lead, nr_lead_j, nr_lead_blanks]
  simp [up, h0, h1, h2]
theorem ld_two (M : Str → Option Value) (j j' b b' l l' l2 : Option Value) : up "lead" l2 (up "lead" l' (up "blanks" b' (up "j" j' (up "j" j (up "blanks" b (up "lead" l M)))))) = up "j" j' (up "blanks" b' (up "lead" l2 M)) := funext fun y => by
  by_cases h0 : y = "j"
  · simp [up, h0, nr_j_blanks, nr_j_lead, nr_blanks_j, nr_blanks_lead, nr_lead_j, nr_lead_blanks]
  by_cases h1 : y = "blanks"
  · simp [up, h1, nr_j_blanks, nr_j_lead, nr_blanks_j, nr_blanks_lead, nr_lead_j, nr_lead_blanks]
  by_cases h2 : y = "lead"
  · simp [up, h2, nr_j_blanks, nr_j_lead, nr_blanks_j, nr_blanks_lead, nr_lead_j, nr_lead_blanks]
  simp [up, h0, h1, h2]
theorem ld_start (M : Str → Option Value) (j j' b b' l l' l2 : Option Value) : up "lead" l M = up "j" (M "j") (up "blanks" (M "blanks") (up "lead" l M)) := funext fun y => by
  by_cases h0 : y = "j"
  · simp [up, h0, nr_j_blanks, nr_j_lead, nr_blanks_j, nr_blanks_lead, nr_lead_j, nr_lead_blanks]
  by_cases h1 : y = "blanks"
  · simp [up, h1, nr_j_blanks, nr_j_lead, nr_blanks_j, nr_blanks_lead, nr_lead_j, nr_lead_blanks]
  by_cases h2 : y = "lead"
  · simp [up, h2, nr_j_blanks, nr_j_lead, nr_blanks_j, nr_blanks_lead, nr_lead_j, nr_lead_blanks]
  simp [up, h0, h1, h2]
abbrev ldBase (k d cell size : Nat) (tk0 td0 tc0 ts0 : Tok) : Str → Option Value := fun y => if y = "size" then some (.int size ts0) else if y = "cell" then some (.int cell tc0) else if y = "depth" then some (.int d td0) else if y = "k" then some (.int k tk0) else none
theorem b_lead {w : World} (k d cell size : Nat) (tk0 td0 tc0 ts0 : Tok) (hk : k < 7) (hd3 : d ≤ 3) (hc : cell < 1000000) (h1 : 1 ≤ size) (h5 : size ≤ 5) (news : Led) :
    Body w 0 0 "_law_lead" s28 b28 363 (.ref 362) (fun y => if y = "size" then some (.int size ts0) else if y = "cell" then some (.int cell tc0) else if y = "depth" then some (.int d td0) else if y = "k" then some (.int k tk0) else none) news
      (fun v n' _ => n' = news ∧ ∃ t, v = .str (tx (leadF k d cell size)) t) := by
  intro mean mg mb dp un gd outer A₀ base g L s B F X N T ht hd hu Aa
  refine hide_post fun Post0 hP0 => ?_
  dsimp only [b28, b28x]
  have hn1 : 3 * (size : Int) - 1 = ((3 * size - 1 : Nat) : Int) := by omega
  have hn2 : (2 : Int) = ((2 : Nat) : Int) := rfl
  k_steps
  rename IsRange _ _ _ _ _ _ _ _ => R3
  rename Fr _ _ _ _ => F3
  rename News _ _ _ _ => N3
  have hbase : Txt.mul (Str.ofString " ") ((3 * size - 1 : Nat) : Int) ++ Txt.mul (Str.ofString "\t" ++ Txt.mul (Str.ofString " ") (size : Int)) ((2 : Nat) : Int) ++ Str.ofString "\t" = tx (leadBase size) := ext_ls (by
    rw [ls_append, ls_append, ls_mul, ls_mul, ls_append, ls_mul, ls_sp, ls_tab]
    unfold leadBase
    simp [List.replicate_succ])
  rw [hbase, show leadBase size = leadBase size ++ (List.range 0).flatMap (leadStep k cell size) by simp] at F3
  refine for_range (n := d) rfl R3 (rsmall_up (by omega) (by omega) (by omega) (by omega)) (by rw [rsize_up]; omega) rfl rfl F3 N3 (by (try dsimp only); (with_reducible exact o_pos (by assumption)))
    (fun i m nx _ => (∃ uj ub Z t, m = up "j" uj (up "blanks" ub (up "lead" (some (.str Z t)) (ldBase k d cell size tk0 td0 tc0 ts0))) ∧ Z = tx (leadBase size ++ (List.range i).flatMap (leadStep k cell size))) ∧ nx = news)
    ⟨⟨_, _, _, _, ld_start (ldBase k d cell size tk0 td0 tc0 ts0) none none none none (some (.str (tx (leadBase size ++ (List.range 0).flatMap (leadStep k cell size))) _)) none none, rfl⟩, rfl⟩ (fun _ _ => False) (fun _ _ => False) ?_ ?_ (fun _ _ _ _ h => h.elim) (fun _ _ _ _ _ h => h.elim)
  · clear F3 N3
    rintro i t m₁ _ h tk I io hi ⟨⟨uj, ub, _, t', rfl, rfl⟩, rfl⟩ hoff htk F4 N4
    refine hide_post fun Post1 hP1 => ?_
    rw [show (0 + (i : Int) * 1) = (i : Int) by (with_reducible exact o_01 _)] at F4
    have hsb : blanksF k cell size i ≤ size := Nat.le_of_lt_succ (Nat.mod_lt _ (Nat.succ_pos size))
    have hsb5 : blanksF k cell size i ≤ 5 := Nat.le_trans hsb (by assumption)
    have hlb : (leadBase size ++ (List.range i).flatMap (leadStep k cell size)).length ≤ 500 := lead_len k cell size i h5 (by omega)
    generalize hLD : leadBase size ++ (List.range i).flatMap (leadStep k cell size) = LD at F4 hlb
    have e5 : (5 : Int) ^ ((i : Int)).toNat = ((5 ^ i : Nat) : Int) := by rw [Int.toNat_natCast]; push_cast; rfl
    have h5b : 1 ≤ 5 ^ i ∧ 5 ^ i ≤ 125 := ⟨Nat.one_le_pow _ _ (by decide), Nat.le_trans (Nat.pow_le_pow_right (by decide) (show i ≤ 3 by omega)) (by decide)⟩
    have hbl : (((((cell : Int).fdiv 96).fdiv ((5 ^ i : Nat) : Int) + (k : Int) + (i : Int)).fmod ((size : Int) + 1))) = ((blanksF k cell size i : Nat) : Int) := by
      rw [Int.fdiv_eq_ediv_of_nonneg (cell : Int) (show (0 : Int) ≤ 96 by decide), Int.fdiv_eq_ediv_of_nonneg _ (by (with_reducible exact Int.natCast_nonneg _)), Int.fmod_eq_emod_of_nonneg _ (by omega)]
      unfold blanksF
      push_cast
      rfl
    have hnext : (List.range (i + 1)).flatMap (leadStep k cell size) = (List.range i).flatMap (leadStep k cell size) ++ (bl (blanksF k cell size i) ++ (if blanksF k cell size i < size then [9] else [])) := by
      rw [List.range_succ, List.flatMap_append]
      simp [leadStep]
    k_steps
    · rename Fr _ _ _ _ => F5
      rename News _ _ _ _ => N5
      rename Int.fmod _ _ < _ => hlt
      have hlt : blanksF k cell size i < size := by
        have := hbl ▸ hlt
        omega
      refine hP1 _ _ <| turn_next _ F5 N5 hoff ⟨⟨_, _, _, _, ld_two (ldBase k d cell size tk0 td0 tc0 ts0) _ _ _ _ _ _ _, ?_⟩, rfl⟩
      rw [hnext, if_pos hlt, ← List.append_assoc, hLD]
      exact ext_ls (by rw [ls_append, ls_append, ls_mul, ls_sp, ls_tab]; simp [bl])
    · rename Fr _ _ _ _ => F5
      rename News _ _ _ _ => N5
      rename ¬ Int.fmod _ _ < _ => hlt
      have hlt : ¬ blanksF k cell size i < size := by
        have := hbl ▸ hlt
        omega
      refine hP1 _ _ <| turn_next _ F5 N5 hoff ⟨⟨_, _, _, _, ld_one (ldBase k d cell size tk0 td0 tc0 ts0) _ _ _ _ _ _ none, ?_⟩, rfl⟩
      rw [hnext, if_neg hlt, ← List.append_assoc, hLD, List.append_nil]
      exact ext_ls (by rw [ls_append, ls_mul, ls_sp]; simp [bl])
  · clear F3 N3
    rintro m₁ _ h tk ⟨⟨uj, ub, _, t', rfl, rfl⟩, rfl⟩ htk F4 N4
    have hkm : (k : Int).fmod (size : Int) = ((k % size : Nat) : Int) := by rw [Int.fmod_eq_emod_of_nonneg _ (by (with_reducible exact Int.natCast_nonneg _))]; rfl
    have hkl : k % size ≤ 7 := Nat.le_trans (Nat.mod_le ..) (by (with_reducible exact o_lel (by assumption) (by decide)))
    have hlb : (leadBase size ++ (List.range d).flatMap (leadStep k cell size)).length ≤ 500 := lead_len k cell size d h5 hd3
    k_steps
    refine hP0 _ _ <| body_ret F4 N4 ⟨rfl, _, congrArg (fun z => Value.str z _) (ext_ls ?_)⟩
    rw [ls_append, ls_mul, ls_sp, ls_tx, ls_tx, flat_one]
    rfl
theorem does_lead {w : World} (k d cell size : Nat) (tk0 td0 tc0 ts0 : Tok) (hk : k < 7) (hd3 : d ≤ 3) (hc : cell < 1000000) (h1 : 1 ≤ size) (h5 : size ≤ 5) (news : Led) :
    Does w 1 3 (.ref 363) [.int k tk0, .int d td0, .int cell tc0, .int size ts0] news (fun v n' _ => n' = news ∧ ∃ t, v = .str (tx (leadF k d cell size)) t) := by
  refine does_fn (binds := [("k", .int k tk0), ("depth", .int d td0), ("cell", .int cell tc0), ("size", .int size ts0)]) (by k_is) (by k_is) (fun s X => BindsTo.of_eq rfl) (locs rfl) (fun y => ?_) rfl rfl rfl (by decide) (@b_lead w k d cell size tk0 td0 tc0 ts0 hk hd3 hc h1 h5 news)
  show List.lookup y [(("size" : Str), Value.int size ts0), ("cell", .int cell tc0), ("depth", .int d td0), ("k", .int k tk0)] = _
  rw [lk, lk, lk, lk]; rfl
end

section
open PySem PySem.W PySem.Calls PyProof.Rows
set_option Elab.async false
set_option maxRecDepth 100000
set_option maxHeartbeats 1500000
set_option linter.all false
set_option hygiene false
local macro_rules | `(tactic| walk_at "subscriptTail Name Name ref int") => `(tactic| ((rename News _ _ _ _ => NL); refine item_strsR (ys := (List.range 7).map hs) (l := lh) (vs := hvs) ⟨_, (NL (lh, lst hvs) (by k_mem)).1, rfl, _, rfl⟩ hH (by omega) (by rw [List.length_map, List.length_range]; omega) (by omega) ?_; intro tS; rw [hgetH]; (try dsimp only)))
local macro_rules | `(tactic| walk_at "subscriptTail Name BinOp ref int") => `(tactic| ((rw [hdI]); (rename News _ _ _ _ => NL); refine item_strsR (ys := Ts) (l := C0) (vs := tvs) ⟨_, (NL (C0, listOf tvs.toArray 0) (by k_mem)).1, rfl, _, rfl⟩ hT (by omega) (by omega) (by omega) ?_; intro tS; rw [hgetT]; (try dsimp only)))
local macro_rules | `(tactic| walk_at $s) => if ["call ref"].contains s.getString then `(tactic| refine unmark ?_) else Lean.Macro.throwUnsupported
theorem ns_k_depth : ¬ ("k" : Str) = "depth" := by decide +kernel
theorem ns_k_row : ¬ ("k" : Str) = "row" := by decide +kernel
theorem ns_depth_k : ¬ ("depth" : Str) = "k" := by decide +kernel
theorem ns_depth_row : ¬ ("depth" : Str) = "row" := by decide +kernel
theorem ns_row_k : ¬ ("row" : Str) = "k" := by decide +kernel
theorem ns_row_depth : ¬ ("row" : Str) = "depth" := by decide +kernel
theorem nm_turn (M : Str → Option Value) (k k' d d' r r' : Option Value) : up "row" r' (up "depth" d' (up "k" k' (up "k" k (up "depth" d (up "row" r M))))) = up "k" k' (up "depth" d' (up "row" r' M)) := funext fun y => by
  by_cases h0 : y = "k"
  · simp [up, h0, ns_k_depth, ns_k_row, ns_depth_k, ns_depth_row, ns_row_k, ns_row_depth]
  by_cases h1 : y = "depth"
  · simp [up, h1, ns_k_depth, ns_k_row, ns_depth_k, ns_depth_row, ns_row_k, ns_row_depth]
  by_cases h2 : y = "row"
  · simp [up, h2, ns_k_depth, ns_k_row, ns_depth_k, ns_depth_row, ns_row_k, ns_row_depth]
  simp [up, h0, h1, h2]
theorem nm_start (M : Str → Option Value) : M = up "k" (M "k") (up "depth" (M "depth") (up "row" (M "row") M)) := funext fun y => by
  by_cases h0 : y = "k"
  · subst h0; simp [up]
  by_cases h1 : y = "depth"
  · subst h1; simp [up, ns_depth_k]
  by_cases h2 : y = "row"
  · subst h2; simp [up, ns_row_k, ns_row_depth]
  simp [up, h0, h1, h2]
abbrev nmBase (C0 lh ld : Addr) : Str → Option Value := fun y => if y = "texts" then some (.ref C0) else if y = "heads" then some (.ref lh) else if y = "depths" then some (.ref ld) else none
theorem b_nested {w : World} (lh ld : Addr) (hvs dvs : List Value) (kd : Nat) (hs : Nat → Str) (ds : List Int) (rest : Led) (hH : StrsAre hvs ((List.range 7).map hs)) (hD : IntsAre dvs ds) (h7 : ds.length = 7)
    (hh : ∀ k, k < 7 → (hs k).length = 4) (hd03 : ∀ k, k < 7 → 0 ≤ ds.getD k 0 ∧ ds.getD k 0 ≤ 3) :
    Body w 2 10 "_law_nested" s29 b29 370 (.ref 369) (fun y => if y = "heads" then some (.ref lh) else if y = "depths" then some (.ref ld) else none) ((lh, lst hvs) :: (ld, listOf dvs.toArray kd) :: rest)
      (fun v n' _ => n' = (lh, lst hvs) :: (ld, listOf dvs.toArray kd) :: rest ∧ ∃ t, v = .str (nestF hs ds) t) := by
  intro mean mg mb dp un gd outer A₀ base g L s B F X N T ht hd hu Aa
  refine hide_post fun Post0 hP0 => ?_
  dsimp only [b29, b29x]
  (k_steps; repeat' ((with_reducible refine mark ?_); (first | (((with_reducible show wpAny _ _ (call (Value.ref 132) _ _) _ _ _); (with_unfolding_all refine does_call (does_concat _ _ _ _ _ (by first | assumption | (simp only [len_app]; omega)) (by first | assumption | (simp only [len_app]; omega))) (by assumption) (by assumption) (by assumption) (by assumption) (by assumption) rfl (by (try dsimp only); omega) (by (try dsimp only); omega) (by (try dsimp only); omega) ?_); intro v' h' tk' n' hp' ht' F' N'; obtain ⟨hn, tv', hv2⟩ := hp'; subst hv2; subst hn; try dsimp only at ht'; try dsimp only)) | (((with_reducible show wpAny _ _ (call (Value.ref 339) _ _) _ _ _); (with_unfolding_all refine does_call (does_esc _ _ _ (by assumption)) (by assumption) (by assumption) (by assumption) (by assumption) (by assumption) rfl (by (try dsimp only); omega) (by (try dsimp only); omega) (by (try dsimp only); omega) ?_); intro v' h' tk' n' hp' ht' F' N'; obtain ⟨tv', hv2, hn⟩ := hp'; subst hv2; subst hn; try dsimp only at ht'; try dsimp only))); k_steps))
  rename IsRange _ _ _ _ _ _ _ _ => R3
  rename Fr _ _ _ _ => F3
  rename News _ _ _ _ => N3
  rename_i C0 _ lC _ _ _ hR _ _ _ _ _
  have F3 : Fr g L hR (nmBase C0 lh ld) := F3
  obtain ⟨tvs0, hT0, N3⟩ : ∃ tvs, StrsAre tvs (nestN hs ds 0) ∧ News g L hR ((C0, listOf tvs.toArray 0) :: (lh, lst hvs) :: (ld, listOf dvs.toArray kd) :: rest) := ⟨_, .cons _ _ (.cons _ _ (.cons _ _ (.cons _ _ (.cons _ _ .nil)))), N3⟩
  have hCo : ∀ p ∈ (lh, lst hvs) :: (ld, listOf dvs.toArray kd) :: rest, p.1 < C0 := List.forall_mem_cons.mpr ⟨lC.1, List.forall_mem_cons.mpr ⟨lC.2.1, allLt_mem lC.2.2⟩⟩
  have hdl := hD.length
  have hz : dvs.toArray.size ≤ 1000 := by rw [List.size_toArray]; omega
  have hz2 : dvs.toArray.size ≤ sizeLine := by unfold sizeLine; (with_reducible exact o_le (by assumption) (by decide))
  refine for_range (n := 7) rfl R3 (rsmall_down (by omega) (by omega) (by omega) (by omega)) (by rw [rsize_down]; rfl) rfl rfl F3 N3 (by (try dsimp only); (with_reducible exact o_pos (by assumption)))
    (fun i m nx _ => (∃ uk ud ur, m = up "k" uk (up "depth" ud (up "row" ur (nmBase C0 lh ld)))) ∧ ∃ tvs, nx = (C0, listOf tvs.toArray 0) :: (lh, lst hvs) :: (ld, listOf dvs.toArray kd) :: rest ∧ StrsAre tvs (nestN hs ds i))
    ⟨⟨_, _, _, nm_start (nmBase C0 lh ld)⟩, tvs0, rfl, hT0⟩ (fun _ _ => False) (fun _ _ => False) ?_ ?_ (fun _ _ _ _ h => h.elim) (fun _ _ _ _ _ h => h.elim)
  · clear F3 N3
    rintro i t m₁ _ h tk I io hi ⟨⟨uk, ud, ur, rfl⟩, tvs, rfl, hT⟩ hoff htk F4 N4
    refine hide_post fun Post1 hP1 => ?_
    rw [show (6 + (i : Int) * -1) = ((6 - i : Nat) : Int) by omega] at F4
    simp only [List.cons_append] at N4
    have h67 : 6 - i < 7 := Nat.lt_succ_of_le (Nat.sub_le 6 i)
    obtain ⟨hTl, hTp⟩ := nest_ok hs ds hh hd03 i (by (with_reducible exact o_lel (by assumption) (by decide)))
    have hTp : phi (nestN hs ds i) ≤ 6048 := by omega
    have hgetH : ((List.range 7).map hs).getD (((6 - i : Nat) : Int)).toNat Str.empty = hs (6 - i) := by
      rw [Int.toNat_natCast, List.getD_eq_getElem?_getD, List.getElem?_map, List.getElem?_range (by omega)]; rfl
    have hnx : nestN hs ds (i + 1) = nestStep hs ds (nestN hs ds i) (6 - i) := rfl
    have hh6 := hh (6 - i) (by omega)
    have hh7 : (hs (6 - i)).length ≤ 100000 := by (with_reducible exact o_eqle (by assumption) (by decide))
    obtain ⟨hd0, hd3⟩ := hd03 (6 - i) (by omega)
    generalize nestN hs ds i = Ts at hT hTl hTp hnx
    unfold nestStep at hnx
    obtain ⟨d, hdd⟩ : ∃ d : Nat, ds.getD (6 - i) 0 = (d : Int) := ⟨_, (Int.toNat_of_nonneg hd0).symm⟩
    rw [hdd, Int.toNat_natCast] at hnx
    have hdI : ds.getD (((6 - i : Nat) : Int)).toNat 0 = (d : Int) := by rw [Int.toNat_natCast]; exact hdd
    have hd3n : d ≤ 3 := by rw [hdd] at hd3; exact Int.ofNat_le.mp hd3
    have hd4 : d ≤ 4 := Nat.le_succ_of_le hd3n
    have hd41 : d + 1 ≤ 4 := Nat.succ_le_succ hd3n
    have hdT1 : d + 1 < Ts.length := by rw [hTl]; exact Nat.succ_le_succ hd41
    have hc1 : (d : Int) + 1 < (Ts.length : Int) := Int.ofNat_lt.mpr hdT1
    have hc0 : (d : Int) < (Ts.length : Int) := Int.ofNat_lt.mpr (Nat.lt_of_succ_lt hdT1)
    have hcn : (0 : Int) ≤ (d : Int) + 1 := Int.natCast_nonneg (d + 1)
    have hc63 : (d : Int) + 1 < 2 ^ 63 := o_63l (i := d + 1) hd41 (by decide)
    have hgetT : Ts.getD (((d : Int) + 1)).toNat Str.empty = Ts.getD (d + 1) Str.empty := rfl
    have hx1 := (phi_get Ts (d + 1) (by omega) hTp).2 (by (with_reducible exact Nat.le_add_left 1 _))
    have hx2 : (Ts.getD (d + 1) Str.empty).length ≤ 2000 := by (with_reducible exact o_le (by assumption) (by decide))
    have hx3 : (escS 7 (Ts.getD (d + 1) Str.empty)).length ≤ 100000 := by have := escS_len (n := 7) (by decide) (Ts.getD (d + 1) Str.empty); omega
    have hCI : C0 ≠ I := hoff (C0, _) (List.mem_cons_self ..)
    have hr9 : ∀ p ∈ (lh, lst hvs) :: (ld, listOf dvs.toArray kd) :: (rest ++ [(I, io)]), p.1 ≠ C0 := by
      simp only [← List.cons_append]
      intro p hp
      rcases List.mem_append.mp hp with q | q
      · exact Nat.ne_of_lt (hCo p q)
      · rw [List.mem_singleton.mp q]; exact Ne.symm hCI
    have hTvl := strs_len hT
    have hc3 : (d : Int) + 1 < (tvs.length : Int) := by rw [hTvl]; exact hc1
    have hc4 : (d : Int) < (tvs.length : Int) := by rw [hTvl]; exact hc0
    have htv : tvs.length ≤ 100000 := by rw [hTvl, hTl]; decide
    have hoff' : ∀ (o : Obj), ∀ p ∈ (C0, o) :: (lh, lst hvs) :: (ld, listOf dvs.toArray kd) :: rest, p.1 ≠ I := fun o => List.forall_mem_cons.mpr ⟨hCI, fun p hp => hoff p (List.mem_cons_of_mem _ hp)⟩
    have hem : Str.ofString "" = Str.empty := by decide
    have hlen0 : (Str.ofString "").length = 0 := by decide
    (k_steps; repeat' ((with_reducible refine mark ?_); (first | (((with_reducible show wpAny _ _ (call (Value.ref 132) _ _) _ _ _); (with_unfolding_all refine does_call (does_concat _ _ _ _ _ (by first | assumption | (simp only [len_app]; omega)) (by first | assumption | (simp only [len_app]; omega))) (by assumption) (by assumption) (by assumption) (by assumption) (by assumption) rfl (by (try dsimp only); (with_reducible exact Nat.le_add_left 1 _)) (by (try dsimp only); (with_reducible exact o_room (by assumption) (by decide))) (by (try dsimp only); (with_reducible exact o_room (by assumption) (by decide))) ?_); intro v' h' tk' n' hp' ht' F' N'; obtain ⟨hn, tv', hv2⟩ := hp'; subst hv2; subst hn; try dsimp only at ht'; try dsimp only)) | (((with_reducible show wpAny _ _ (call (Value.ref 339) _ _) _ _ _); (with_unfolding_all refine does_call (does_esc _ _ _ (by assumption)) (by assumption) (by assumption) (by assumption) (by assumption) (by assumption) rfl (by (try dsimp only); (with_reducible exact Nat.le_add_left 1 _)) (by (try dsimp only); (with_reducible exact o_room (by assumption) (by decide))) (by (try dsimp only); (with_reducible exact o_room (by assumption) (by decide))) ?_); intro v' h' tk' n' hp' ht' F' N'; obtain ⟨tv', hv2, hn⟩ := hp'; subst hv2; subst hn; try dsimp only at ht'; try dsimp only))); k_steps))
    rename Fr _ _ _ _ => F5
    rename News _ _ _ _ => N5
    rw [hdI]
    refine set_led F5 N5 hr9 (by omega) (by omega) (by omega) fun h6 F6 N6 => ?_
    rw [show ((d : Int) + 1).toNat = d + 1 from rfl] at N6
    have hT6 := strs_set hT (d + 1) (Str.ofString "")
    clear F5 N5 F4 N4
    have hq1 : ((Ts.set (d + 1) (Str.ofString "")).getD ((d : Int)).toNat Str.empty).length ≤ 100000 := by
      rw [Int.toNat_natCast, List.getD_eq_getElem?_getD, List.getElem?_set_ne (by (with_reducible (refine Nat.ne_of_gt ?_; ((iterate 7 (try (first | assumption | exact Nat.lt_succ_self _ | refine Nat.lt_succ_of_lt ?_ | refine Nat.lt_trans (by assumption) ?_ | refine o_l1 (by assumption) ?_ | refine o_l2 (by assumption) ?_ | refine o_l3 (by assumption) ?_ | exact o_m1 (by assumption) | exact o_m2 (by assumption) | exact o_m3 (by assumption)))); done)))), ← List.getD_eq_getElem?_getD]
      have := (phi_get Ts d (by omega) hTp).1
      (with_reducible exact o_le (by assumption) (by decide))
    have hq2 : (hs (6 - i) ++ escS 7 (Ts.getD (d + 1) Str.empty)).length ≤ 100000 := by
      have := escS_len (n := 7) (by decide) (Ts.getD (d + 1) Str.empty)
      rw [len_app]; omega
    (k_steps; repeat' ((with_reducible refine mark ?_); (first | (((with_reducible show wpAny _ _ (call (Value.ref 132) _ _) _ _ _); (with_unfolding_all refine does_call (does_concat _ _ _ _ _ (by first | assumption | (simp only [len_app]; omega)) (by first | assumption | (simp only [len_app]; omega))) (by assumption) (by assumption) (by assumption) (by assumption) (by assumption) rfl (by (try dsimp only); omega) (by (try dsimp only); omega) (by (try dsimp only); omega) ?_); intro v' h' tk' n' hp' ht' F' N'; obtain ⟨hn, tv', hv2⟩ := hp'; subst hv2; subst hn; try dsimp only at ht'; try dsimp only)) | (((with_reducible show wpAny _ _ (call (Value.ref 339) _ _) _ _ _); (with_unfolding_all refine does_call (does_esc _ _ _ (by assumption)) (by assumption) (by assumption) (by assumption) (by assumption) (by assumption) rfl (by (try dsimp only); omega) (by (try dsimp only); omega) (by (try dsimp only); omega) ?_); intro v' h' tk' n' hp' ht' F' N'; obtain ⟨tv', hv2, hn⟩ := hp'; subst hv2; subst hn; try dsimp only at ht'; try dsimp only))); k_steps))
    rw [hdI]
    refine item_strsR (ys := Ts.set (d + 1) (Str.ofString "")) (l := C0) ⟨_, (N6 (C0, _) (List.mem_cons_self ..)).1, rfl, _, rfl⟩ (hT6 _) (by (with_reducible exact Int.natCast_nonneg _)) (by rw [List.length_set]; omega) (by omega) fun tS => ?_
    (k_steps; repeat' ((with_reducible refine mark ?_); (first | (((with_reducible show wpAny _ _ (call (Value.ref 132) _ _) _ _ _); (with_unfolding_all refine does_call (does_concat _ _ _ _ _ (by first | assumption | (simp only [len_app]; omega)) (by first | assumption | (simp only [len_app]; omega))) (by assumption) (by assumption) (by assumption) (by assumption) (by assumption) rfl (by (try dsimp only); (with_reducible exact Nat.le_add_left 1 _)) (by (try dsimp only); (with_reducible exact o_room (by assumption) (by decide))) (by (try dsimp only); (with_reducible exact o_room (by assumption) (by decide))) ?_); intro v' h' tk' n' hp' ht' F' N'; obtain ⟨hn, tv', hv2⟩ := hp'; subst hv2; subst hn; try dsimp only at ht'; try dsimp only)) | (((with_reducible show wpAny _ _ (call (Value.ref 339) _ _) _ _ _); (with_unfolding_all refine does_call (does_esc _ _ _ (by assumption)) (by assumption) (by assumption) (by assumption) (by assumption) (by assumption) rfl (by (try dsimp only); omega) (by (try dsimp only); omega) (by (try dsimp only); omega) ?_); intro v' h' tk' n' hp' ht' F' N'; obtain ⟨tv', hv2, hn⟩ := hp'; subst hv2; subst hn; try dsimp only at ht'; try dsimp only))); k_steps))
    rename Fr _ _ _ _ => F5
    rename News _ _ _ _ => N5
    rw [hdI]
    refine set_led F5 N5 hr9 (by (with_reducible exact Int.natCast_nonneg _)) (by rw [List.length_set]; omega) (by rw [List.length_set]; omega) fun h7 F7 N7 => ?_
    rw [Int.toNat_natCast] at N7
    clear F5 N5
    (k_steps; repeat' ((with_reducible refine mark ?_); (first | (((with_reducible show wpAny _ _ (call (Value.ref 132) _ _) _ _ _); (with_unfolding_all refine does_call (does_concat _ _ _ _ _ (by first | assumption | (simp only [len_app]; omega)) (by first | assumption | (simp only [len_app]; omega))) (by assumption) (by assumption) (by assumption) (by assumption) (by assumption) rfl (by (try dsimp only); omega) (by (try dsimp only); omega) (by (try dsimp only); omega) ?_); intro v' h' tk' n' hp' ht' F' N'; obtain ⟨hn, tv', hv2⟩ := hp'; subst hv2; subst hn; try dsimp only at ht'; try dsimp only)) | (((with_reducible show wpAny _ _ (call (Value.ref 339) _ _) _ _ _); (with_unfolding_all refine does_call (does_esc _ _ _ (by assumption)) (by assumption) (by assumption) (by assumption) (by assumption) (by assumption) rfl (by (try dsimp only); omega) (by (try dsimp only); omega) (by (try dsimp only); omega) ?_); intro v' h' tk' n' hp' ht' F' N'; obtain ⟨tv', hv2, hn⟩ := hp'; subst hv2; subst hn; try dsimp only at ht'; try dsimp only))); k_steps))
    rename Fr _ _ _ _ => F5
    rename News _ _ _ _ => N5
    refine hP1 _ _ <| turn_next ((C0, _) :: (lh, lst hvs) :: (ld, listOf dvs.toArray kd) :: rest) F5 N5 (hoff' _) ⟨⟨_, _, _, nm_turn (nmBase C0 lh ld) _ _ _ _ _ _⟩, _, rfl, ?_⟩
    rw [hnx, ← hem]
    exact strs_set (hT6 _) d _ _
  · clear F3 N3
    rintro m₁ _ h tk ⟨⟨uk, ud, ur, rfl⟩, tvs, rfl, hT⟩ htk F4 N4
    have hTl := (nest_ok hs ds hh hd03 7 (by (with_reducible ((iterate 7 (try (first | assumption | exact Nat.le_refl _ | refine Nat.le_trans (by assumption) ?_ | refine o_s1 (by assumption) ?_ | refine o_s2 (by assumption) ?_ | refine o_s3 (by assumption) ?_ | refine o_s4 (by assumption) ?_ | refine Nat.le_succ_of_le ?_))); done)))).1
    (k_steps; repeat' ((with_reducible refine mark ?_); (first | (((with_reducible show wpAny _ _ (call (Value.ref 132) _ _) _ _ _); (with_unfolding_all refine does_call (does_concat _ _ _ _ _ (by first | assumption | (simp only [len_app]; omega)) (by first | assumption | (simp only [len_app]; omega))) (by assumption) (by assumption) (by assumption) (by assumption) (by assumption) rfl (by (try dsimp only); omega) (by (try dsimp only); omega) (by (try dsimp only); omega) ?_); intro v' h' tk' n' hp' ht' F' N'; obtain ⟨hn, tv', hv2⟩ := hp'; subst hv2; subst hn; try dsimp only at ht'; try dsimp only)) | (((with_reducible show wpAny _ _ (call (Value.ref 339) _ _) _ _ _); (with_unfolding_all refine does_call (does_esc _ _ _ (by assumption)) (by assumption) (by assumption) (by assumption) (by assumption) (by assumption) rfl (by (try dsimp only); omega) (by (try dsimp only); omega) (by (try dsimp only); omega) ?_); intro v' h' tk' n' hp' ht' F' N'; obtain ⟨tv', hv2, hn⟩ := hp'; subst hv2; subst hn; try dsimp only at ht'; try dsimp only))); k_steps))
    exact hP0 _ _ <| body_ret F4 (fun p hp => N4 p (List.mem_cons_of_mem _ hp)) ⟨rfl, _, rfl⟩
theorem does_nested {w : World} (lh ld : Addr) (hvs dvs : List Value) (kd : Nat) (hs : Nat → Str) (ds : List Int) (rest : Led) (hH : StrsAre hvs ((List.range 7).map hs)) (hD : IntsAre dvs ds) (h7 : ds.length = 7)
    (hh : ∀ k, k < 7 → (hs k).length = 4) (hd03 : ∀ k, k < 7 → 0 ≤ ds.getD k 0 ∧ ds.getD k 0 ≤ 3) :
    Does w 3 13 (.ref 370) [.ref ld, .ref lh] ((lh, lst hvs) :: (ld, listOf dvs.toArray kd) :: rest)
      (fun v n' _ => n' = (lh, lst hvs) :: (ld, listOf dvs.toArray kd) :: rest ∧ ∃ t, v = .str (nestF hs ds) t) := by
  refine does_fn (binds := [("depths", .ref ld), ("heads", .ref lh)]) (by k_is) (by k_is) (fun s X => BindsTo.of_eq rfl) (locs rfl) (fun y => ?_) rfl rfl rfl (by decide) (@b_nested w lh ld hvs dvs kd hs ds rest hH hD h7 hh hd03)
  show List.lookup y [(("heads" : Str), Value.ref lh), ("depths", .ref ld)] = _
  rw [lk, lk]; rfl
end

section
open PySem PySem.W PySem.Calls PyProof.Rows
set_option Elab.async false
set_option maxRecDepth 100000
set_option maxHeartbeats 1500000
set_option linter.all false
set_option hygiene false
local macro_rules | `(tactic| walk_at "exec For Name Subscript cons nil") => `(tactic| k_dflt (refine wpAny_For ?a ?b; (case b => intro _; rfl)))
local macro_rules | `(tactic| walk_at "subscriptTail Name Name ref int") => `(tactic| ((rename News _ _ _ _ => NL); refine item_strsR (ys := (List.range 7).map hs) (l := lh) (vs := hvs) ⟨_, (NL (lh, lst hvs) (by k_mem)).1, rfl, _, rfl⟩ hH (by omega) (by rw [List.length_map, List.length_range]; omega) (by omega) ?_; intro tS; rw [hgetH]; (try dsimp only)))
theorem nt_k_sign : ¬ ("k" : Str) = "sign" := by decide +kernel
theorem nt_k_told : ¬ ("k" : Str) = "told" := by decide +kernel
theorem nt_sign_k : ¬ ("sign" : Str) = "k" := by decide +kernel
theorem nt_sign_told : ¬ ("sign" : Str) = "told" := by decide +kernel
theorem nt_told_k : ¬ ("told" : Str) = "k" := by decide +kernel
theorem nt_told_sign : ¬ ("told" : Str) = "sign" := by decide +kernel
theorem td_inner (M : Str → Option Value) (k k' d d' r r' : Option Value) : up "told" r' (up "sign" d' (up "k" k (up "sign" d (up "told" r M)))) = up "k" k (up "sign" d' (up "told" r' M)) := funext fun y => by
  by_cases h0 : y = "k"
  · simp [up, h0, nt_k_sign, nt_k_told, nt_sign_k, nt_sign_told, nt_told_k, nt_told_sign]
  by_cases h1 : y = "sign"
  · simp [up, h1, nt_k_sign, nt_k_told, nt_sign_k, nt_sign_told, nt_told_k, nt_told_sign]
  by_cases h2 : y = "told"
  · simp [up, h2, nt_k_sign, nt_k_told, nt_sign_k, nt_sign_told, nt_told_k, nt_told_sign]
  simp [up, h0, h1, h2]
theorem td_start (M : Str → Option Value) (k k' d d' r r' : Option Value) : up "told" r M = up "k" (M "k") (up "sign" (M "sign") (up "told" r M)) := funext fun y => by
  by_cases h0 : y = "k"
  · simp [up, h0, nt_k_sign, nt_k_told, nt_sign_k, nt_sign_told, nt_told_k, nt_told_sign]
  by_cases h1 : y = "sign"
  · simp [up, h1, nt_k_sign, nt_k_told, nt_sign_k, nt_sign_told, nt_told_k, nt_told_sign]
  by_cases h2 : y = "told"
  · simp [up, h2, nt_k_sign, nt_k_told, nt_sign_k, nt_sign_told, nt_told_k, nt_told_sign]
  simp [up, h0, h1, h2]
abbrev tdBase (D lh ld : Addr) : Str → Option Value := fun y => if y = "references" then some (.ref D) else if y = "heads" then some (.ref lh) else if y = "depths" then some (.ref ld) else none
theorem len_amp1 : (Str.ofString "&").length = 1 := by decide
theorem len_amp : (Str.ofString "amp;").length = 4 := by decide
theorem ls_amp1 : ls (Str.ofString "&") = [38] := by decide
theorem ls_amp : ls (Str.ofString "amp;") = [97, 109, 112, 59] := by decide
theorem len_one (c : Nat) : (⟨#[c]⟩ : Str).length = 1 := rfl
local macro_rules | `(tactic| walk_at "binaryOp Add str str") => `(tactic| (refine add_ls (by simp only [len_app, len_mulN, len_amp, len_amp1, len_tx, len_one]; omega) ?_; intro tA kA hA; (try dsimp only at hA); (try dsimp only)))
local macro_rules | `(tactic| walk_at "binaryOp Mult str int") => `(tactic| (refine mul_ls (N := dN - 1) (by omega) (by decide) (by omega) ?_; intro tA kA hA; (try dsimp only at hA); (try dsimp only)))
local macro_rules | `(tactic| walk_at "compareOp In str ref") => `(tactic| ((rename News _ _ _ _ => NL); refine kda_in (knd := PySem.strKind _ _) NL (by k_mem) hdO lo1 (strKind_is _ _ _ _) (isRef c) hin ?_; (try rw [hr]); (try dsimp only)))
local macro_rules | `(tactic| walk_at "subscriptTail Name Name ref str") => `(tactic| ((rename News _ _ _ _ => NL); refine kda_item (knd := PySem.strKind _ _) NL (by k_mem) hdO (strKind_is _ _ _ _) hval ?_; (try dsimp only)))
theorem b_told {w : World} (lh ld : Addr) (hvs dvs : List Value) (kd : Nat) (hs : Nat → Str) (ds : List Int) (rest : Led) (hH : StrsAre hvs ((List.range 7).map hs)) (hD : IntsAre dvs ds) (h7 : ds.length = 7)
    (hh : ∀ k, k < 7 → (hs k).length = 4) (hd03 : ∀ k, k < 7 → 0 ≤ ds.getD k 0 ∧ ds.getD k 0 ≤ 3) :
    Body w 2 10 "_law_told" s30 b30 377 (.ref 376) (fun y => if y = "heads" then some (.ref lh) else if y = "depths" then some (.ref ld) else none) ((lh, lst hvs) :: (ld, listOf dvs.toArray kd) :: rest)
      (fun v n' _ => n' = (lh, lst hvs) :: (ld, listOf dvs.toArray kd) :: rest ∧ ∃ t, v = .str (toldF hs ds) t) := by
  intro mean mg mb dp un gd outer A₀ base g L s B F X N T ht hd hu Aa
  dsimp only [b30, b30x]
  k_steps
  rename IsRange _ _ _ _ _ _ _ _ => R3
  rename Fr _ _ _ _ => F3
  rename News _ _ _ _ => N3
  rename Obj.IsDictOf _ _ _ => hdO
  rename_i od lo1 hf1 ap1 lD _ _ _ _ _ _ _ _ _ _
  obtain ⟨r1, r2, r3, r4, r5, r6, r7, hdO⟩ : ∃ t1 t2 t3 t4 t5 t6 t7, Obj.IsDictOf (PySem.strKind pw w) od (refKvs t1 t2 t3 t4 t5 t6 t7) := ⟨_, _, _, _, _, _, _, hdO⟩
  have hdl := hD.length
  have hz : dvs.toArray.size ≤ 1000 := by rw [List.size_toArray]; omega
  have hz2 : dvs.toArray.size ≤ sizeLine := by unfold sizeLine; (with_reducible exact o_le (by assumption) (by decide))
  have hem : Str.ofString "" = tx ((List.range 0).flatMap (toldRow hs ds)) := by rw [List.range_zero, List.flatMap_nil]; decide
  refine for_range (n := 7) rfl R3 (by decide +kernel) (by decide +kernel) rfl rfl F3 N3 (by (try dsimp only); (with_reducible exact o_pos (by assumption)))
    (fun i m nx _ => (∃ uk us Z t, m = up "k" uk (up "sign" us (up "told" (some (.str Z t)) (tdBase s.1.objs.size lh ld))) ∧ Z = tx ((List.range i).flatMap (toldRow hs ds))) ∧ nx = (s.1.objs.size, od) :: (lh, lst hvs) :: (ld, listOf dvs.toArray kd) :: rest)
    ⟨⟨_, _, _, _, td_start (tdBase s.1.objs.size lh ld) none none none none _ none, hem⟩, rfl⟩ (fun _ _ => False) (fun _ _ => False) ?_ ?_ (fun _ _ _ _ h => h.elim) (fun _ _ _ _ _ h => h.elim)
  · clear F3 N3
    rintro i t m₁ _ h tk I io hi ⟨⟨uk, us, _, t', rfl, rfl⟩, rfl⟩ hoff htk F4 N4
    refine hide_post fun Post1 hP1 => ?_
    rw [show (0 + (i : Int) * 1) = (i : Int) by (with_reducible exact o_01 _)] at F4
    simp only [List.cons_append] at N4
    have hgetH : ((List.range 7).map hs).getD (i : Int).toNat Str.empty = hs i := by
      rw [Int.toNat_natCast, List.getD_eq_getElem?_getD, List.getElem?_map, List.getElem?_range (by (with_reducible assumption))]; rfl
    have hacc := toldRows_len (hs := hs) (ds := ds) hh (fun k hk => (hd03 k hk).2) i (by (with_reducible exact o_lel (by assumption) (by decide)))
    obtain ⟨hd0, hd3⟩ := hd03 i hi
    have hrow : toldRow hs ds i = (ls (hs i)).flatMap (toldSign (ds.getD i 0).toNat) := rfl
    have hrl := fun j => toldRow_len (hs := hs) (ds := ds) (k := i) (hh i hi) hd3 j
    obtain ⟨dN, hdN⟩ : ∃ d : Nat, ds.getD i 0 = (d : Int) := ⟨_, (Int.toNat_of_nonneg hd0).symm⟩
    have hdI : ds.getD ((i : Int)).toNat 0 = (dN : Int) := by rw [Int.toNat_natCast]; exact hdN
    rw [hdN, Int.toNat_natCast] at hrow hrl
    have hnext : (List.range (i + 1)).flatMap (toldRow hs ds) = (List.range i).flatMap (toldRow hs ds) ++ toldRow hs ds i := by
      rw [List.range_succ, List.flatMap_append]; simp
    generalize hAC : (List.range i).flatMap (toldRow hs ds) = AC at F4 hacc hnext
    have hoff9 : ∀ p ∈ (s.1.objs.size, od) :: (lh, lst hvs) :: (ld, listOf dvs.toArray kd) :: rest, p.1 ≠ I := hoff
    k_steps
    rename Fr _ _ _ _ => F5
    rename News _ _ _ _ => N5
    refine for_str (F := F5) (N := N5) rfl rfl rfl (by (try dsimp only); (with_reducible assumption)) (fun j m nx _ => (∃ us Z t, m = up "k" (some (.int i _)) (up "sign" us (up "told" (some (.str Z t)) (tdBase s.1.objs.size lh ld))) ∧ Z = tx (AC ++ ((ls (hs i)).take j).flatMap (toldSign dN))) ∧ nx = (s.1.objs.size, od) :: (lh, lst hvs) :: (ld, listOf dvs.toArray kd) :: (rest ++ [(I, io)])) ⟨⟨us, _, t', up_up _ _ _ _, by simp⟩, rfl⟩ (fun _ _ => False) (fun _ _ => False) ?_ ?_ (fun _ _ _ _ h => h.elim) (fun _ _ _ _ _ h => h.elim)
    · clear F5 N5
      rintro j c t3 m₁ _ h2 tk2 I2 io2 hj ⟨⟨us2, _, t4, rfl, rfl⟩, rfl⟩ hoff2 htk2 F6 N6
      refine hide_post fun Post1 hP1 => ?_
      simp only [List.cons_append] at N6
      have hrlj := hrl j
      have hlen : (AC ++ ((ls (hs i)).take j).flatMap (toldSign dN)).length ≤ 1000 := by rw [List.length_append]; omega
      have hnj : ((ls (hs i)).take (j + 1)).flatMap (toldSign dN) = ((ls (hs i)).take j).flatMap (toldSign dN) ++ toldSign dN c := by
        rw [List.take_add_one, show (ls (hs i))[j]? = some c by simpa using hj, List.flatMap_append]; simp
      generalize hLD : AC ++ ((ls (hs i)).take j).flatMap (toldSign dN) = LD at F6 hlen
      have hfin : AC ++ ((ls (hs i)).take (j + 1)).flatMap (toldSign dN) = LD ++ toldSign dN c := by rw [hnj, ← List.append_assoc, hLD]
      have hrc := refL_len c
      by_cases hr : isRef c = true
      · obtain ⟨tR, hval⟩ := ref_val r1 r2 r3 r4 r5 r6 r7 hr
        have hin : (valueAt (refKvs r1 r2 r3 r4 r5 r6 r7) (⟨#[c]⟩ : Str)).isSome = isRef c := by rw [hval, hr]; rfl
        k_steps
        · rename Fr _ _ _ _ => F7
          rename News _ _ _ _ => N7
          have hlt : 0 < dN := by omega
          refine hP1 _ _ <| turn_next ((s.1.objs.size, od) :: (lh, lst hvs) :: (ld, listOf dvs.toArray kd) :: (rest ++ [(I, io)])) F7 N7 hoff2 ⟨⟨_, _, _, td_inner (tdBase s.1.objs.size lh ld) _ none _ _ _ _, ?_⟩, rfl⟩
          rw [hfin, toldSign, if_pos ⟨hlt, hr⟩]
          exact ext_ls (by rw [ls_append, ls_append, ls_append, ls_mul, ls_amp1, ls_amp]; simp)
        · rename Fr _ _ _ _ => F7
          rename News _ _ _ _ => N7
          refine hP1 _ _ <| turn_next ((s.1.objs.size, od) :: (lh, lst hvs) :: (ld, listOf dvs.toArray kd) :: (rest ++ [(I, io)])) F7 N7 hoff2 ⟨⟨_, _, _, td_inner (tdBase s.1.objs.size lh ld) _ none _ _ _ _, ?_⟩, rfl⟩
          rw [hfin, toldSign, if_neg (by omega)]
          exact ext_ls (by rw [ls_append])
      · have hr : isRef c = false := by simpa using hr
        have hin : (valueAt (refKvs r1 r2 r3 r4 r5 r6 r7) (⟨#[c]⟩ : Str)).isSome = isRef c := by rw [ref_none r1 r2 r3 r4 r5 r6 r7 hr, hr]; rfl
        k_steps
        · rename Fr _ _ _ _ => F7
          rename News _ _ _ _ => N7
          refine hP1 _ _ <| turn_next ((s.1.objs.size, od) :: (lh, lst hvs) :: (ld, listOf dvs.toArray kd) :: (rest ++ [(I, io)])) F7 N7 hoff2 ⟨⟨_, _, _, td_inner (tdBase s.1.objs.size lh ld) _ none _ _ _ _, ?_⟩, rfl⟩
          rw [hfin, toldSign, if_neg (fun h => by rw [hr] at h; exact Bool.false_ne_true h.2)]
          exact ext_ls (by rw [ls_append])
        · rename Fr _ _ _ _ => F7
          rename News _ _ _ _ => N7
          refine hP1 _ _ <| turn_next ((s.1.objs.size, od) :: (lh, lst hvs) :: (ld, listOf dvs.toArray kd) :: (rest ++ [(I, io)])) F7 N7 hoff2 ⟨⟨_, _, _, td_inner (tdBase s.1.objs.size lh ld) _ none _ _ _ _, ?_⟩, rfl⟩
          rw [hfin, toldSign, if_neg (fun h => by rw [hr] at h; exact Bool.false_ne_true h.2)]
          exact ext_ls (by rw [ls_append])
    · clear F5 N5
      rintro m₁ _ h2 tk2 ⟨⟨us2, _, t4, rfl, rfl⟩, rfl⟩ htk2 F6 N6
      k_steps
      have hfull : ((ls (hs i)).take (hs i).cps.size).flatMap (toldSign dN) = toldRow hs ds i := by
        rw [hrow, List.take_of_length_le (by simp)]
      rw [hfull, ← hnext] at F6
      exact hP1 _ _ <| turn_next ((s.1.objs.size, od) :: (lh, lst hvs) :: (ld, listOf dvs.toArray kd) :: rest) F6 N6 hoff9 ⟨⟨_, _, _, _, rfl, rfl⟩, rfl⟩
  · clear F3 N3
    rintro m₁ _ h tk ⟨⟨uk, us, _, t', rfl, rfl⟩, rfl⟩ htk F4 N4
    k_steps
    exact body_ret F4 (fun p hp => N4 p (List.mem_cons_of_mem _ hp)) ⟨rfl, _, rfl⟩
theorem does_told {w : World} (lh ld : Addr) (hvs dvs : List Value) (kd : Nat) (hs : Nat → Str) (ds : List Int) (rest : Led) (hH : StrsAre hvs ((List.range 7).map hs)) (hD : IntsAre dvs ds) (h7 : ds.length = 7)
    (hh : ∀ k, k < 7 → (hs k).length = 4) (hd03 : ∀ k, k < 7 → 0 ≤ ds.getD k 0 ∧ ds.getD k 0 ≤ 3) :
    Does w 3 13 (.ref 377) [.ref ld, .ref lh] ((lh, lst hvs) :: (ld, listOf dvs.toArray kd) :: rest)
      (fun v n' _ => n' = (lh, lst hvs) :: (ld, listOf dvs.toArray kd) :: rest ∧ ∃ t, v = .str (toldF hs ds) t) := by
  have hB := @b_told w lh ld hvs dvs kd hs ds rest hH hD h7 hh hd03
  refine does_fn (binds := [("depths", .ref ld), ("heads", .ref lh)]) (by k_is) (by k_is) (fun s X => BindsTo.of_eq rfl) (locs rfl) (fun y => ?_) rfl rfl rfl (by decide) (by assumption)
  show List.lookup y [(("heads" : Str), Value.ref lh), ("depths", .ref ld)] = _
  rw [lk, lk]; rfl
end

section
open PySem PySem.W PySem.Calls PyProof.Rows
set_option Elab.async false
set_option maxRecDepth 100000
set_option maxHeartbeats 1500000
set_option linter.all false
theorem strs_values : ∀ l : List (Str × Tok), StrsAre (strValues l) (l.map (·.1))
  | [] => .nil
  | (y, t) :: r => .cons _ _ (strs_values r)
section
variable {w : World} {A : Around} {E : Value → Shared → Prop} {s : Shared} {g : Heap} {L : Addr} {m : Str → Option Value} {news : Led} {Q : Value → Shared → Prop}
theorem split_led {x y : Str} {c : Nat} {t u : Tok} (F : Fr g L s.heap m) (N : News g L s.heap news) (hy : y = ⟨#[c]⟩) (hx : x.length ≤ 100000)
    (h : ∀ D pvs h' k, s.toks ≤ k → StrsAre pvs (Txt.split x ⟨#[c]⟩) → Fr g L h' m → News g L h' ((D, listOf pvs.toArray 0) :: news) → (∀ p ∈ news, p.1 < D) → Q (.ref D) { s with heap := h', toks := k }) :
    wpAny (model pw w) A (call (.builtin "str.split") [.str x t, .str y u]) Q E s := by
  subst hy
  exact wpAny_with_toks (n := s.toks) (Nat.le_refl _) (splitN1 F N rfl (fun l h' k e F' N' hk => h _ _ h' k hk (e ▸ strs_values l) F' N' fun p hp => Heap.lt_size (N p hp).1) (by unfold sizeLine; (with_reducible exact o_lea (by assumption) (by decide))))
theorem splitM_led {x y : Str} {c : Nat} {t u v : Tok} (F : Fr g L s.heap m) (N : News g L s.heap news) (hy : y = ⟨#[c]⟩) (hx : x.length ≤ 100000)
    (h : ∀ D pvs h' k, s.toks ≤ k → StrsAre pvs (Txt.splitMax x ⟨#[c]⟩ 1) → Fr g L h' m → News g L h' ((D, listOf pvs.toArray 0) :: news) → Q (.ref D) { s with heap := h', toks := k }) :
    wpAny (model pw w) A (call (.builtin "str.split") [.str x t, .str y u, .int 1 v]) Q E s := by
  subst hy
  exact wpAny_with_toks (n := s.toks) (Nat.le_refl _) (splitN2A F N rfl (by decide) (fun l h' k e _ _ _ F' N' hk => h _ _ h' k hk (e ▸ strs_values l) F' N') (by unfold sizeLine; (with_reducible exact o_lea (by assumption) (by decide))))
end
set_option hygiene false
theorem nu_piece_name : ¬ ("piece" : Str) = "name" := by decide +kernel
theorem nu_piece_rest : ¬ ("piece" : Str) = "rest" := by decide +kernel
theorem nu_piece_plain : ¬ ("piece" : Str) = "plain" := by decide +kernel
theorem nu_name_piece : ¬ ("name" : Str) = "piece" := by decide +kernel
theorem nu_name_rest : ¬ ("name" : Str) = "rest" := by decide +kernel
theorem nu_name_plain : ¬ ("name" : Str) = "plain" := by decide +kernel
theorem nu_rest_piece : ¬ ("rest" : Str) = "piece" := by decide +kernel
theorem nu_rest_name : ¬ ("rest" : Str) = "name" := by decide +kernel
theorem nu_rest_plain : ¬ ("rest" : Str) = "plain" := by decide +kernel
theorem nu_plain_piece : ¬ ("plain" : Str) = "piece" := by decide +kernel
theorem nu_plain_name : ¬ ("plain" : Str) = "name" := by decide +kernel
theorem nu_plain_rest : ¬ ("plain" : Str) = "rest" := by decide +kernel
theorem rd_turn (M : Str → Option Value) (a a' b b' c c' d d' : Option Value) : up "plain" d' (up "rest" c' (up "name" b' (up "piece" a' (up "piece" a (up "name" b (up "rest" c (up "plain" d M))))))) = up "piece" a' (up "name" b' (up "rest" c' (up "plain" d' M))) := funext fun y => by
  by_cases h0 : y = "piece"
  · simp [up, h0, nu_piece_name, nu_piece_rest, nu_piece_plain, nu_name_piece, nu_name_rest, nu_name_plain, nu_rest_piece, nu_rest_name, nu_rest_plain, nu_plain_piece, nu_plain_name, nu_plain_rest]
  by_cases h1 : y = "name"
  · simp [up, h1, nu_piece_name, nu_piece_rest, nu_piece_plain, nu_name_piece, nu_name_rest, nu_name_plain, nu_rest_piece, nu_rest_name, nu_rest_plain, nu_plain_piece, nu_plain_name, nu_plain_rest]
  by_cases h2 : y = "rest"
  · simp [up, h2, nu_piece_name, nu_piece_rest, nu_piece_plain, nu_name_piece, nu_name_rest, nu_name_plain, nu_rest_piece, nu_rest_name, nu_rest_plain, nu_plain_piece, nu_plain_name, nu_plain_rest]
  by_cases h3 : y = "plain"
  · simp [up, h3, nu_piece_name, nu_piece_rest, nu_piece_plain, nu_name_piece, nu_name_rest, nu_name_plain, nu_rest_piece, nu_rest_name, nu_rest_plain, nu_plain_piece, nu_plain_name, nu_plain_rest]
  simp [up, h0, h1, h2, h3]
theorem rd_start (M : Str → Option Value) (a a' b b' c c' d d' : Option Value) : up "plain" d M = up "piece" (M "piece") (up "name" (M "name") (up "rest" (M "rest") (up "plain" d M))) := funext fun y => by
  by_cases h0 : y = "piece"
  · simp [up, h0, nu_piece_name, nu_piece_rest, nu_piece_plain, nu_name_piece, nu_name_rest, nu_name_plain, nu_rest_piece, nu_rest_name, nu_rest_plain, nu_plain_piece, nu_plain_name, nu_plain_rest]
  by_cases h1 : y = "name"
  · simp [up, h1, nu_piece_name, nu_piece_rest, nu_piece_plain, nu_name_piece, nu_name_rest, nu_name_plain, nu_rest_piece, nu_rest_name, nu_rest_plain, nu_plain_piece, nu_plain_name, nu_plain_rest]
  by_cases h2 : y = "rest"
  · simp [up, h2, nu_piece_name, nu_piece_rest, nu_piece_plain, nu_name_piece, nu_name_rest, nu_name_plain, nu_rest_piece, nu_rest_name, nu_rest_plain, nu_plain_piece, nu_plain_name, nu_plain_rest]
  by_cases h3 : y = "plain"
  · simp [up, h3, nu_piece_name, nu_piece_rest, nu_piece_plain, nu_name_piece, nu_name_rest, nu_name_plain, nu_rest_piece, nu_rest_name, nu_rest_plain, nu_plain_piece, nu_plain_name, nu_plain_rest]
  simp [up, h0, h1, h2, h3]
abbrev rdBase (P D : Addr) (x : Str) (tx0 : Tok) : Str → Option Value := fun y => if y = "pieces" then some (.ref P) else if y = "references" then some (.ref D) else if y = "text" then some (.str x tx0) else none
theorem strs_two {vs : List Value} {a b : Str} (h : StrsAre vs [a, b]) : ∃ t1 t2, vs = [.str a t1, .str b t2] := by
  cases h with
  | cons _ t1 h =>
    cases h with
    | cons _ t2 h =>
      cases h
      exact ⟨_, _, rfl⟩
theorem strs_get : ∀ {vs : List Value} {zs : List Str}, StrsAre vs zs → ∀ (i : Nat) (v : Value), vs[i]? = some v → ∃ z t, v = .str z t ∧ zs[i]? = some z
  | _, _, .nil, i, v, h => by simp at h
  | _, _, .cons y t _, 0, v, h => ⟨y, t, by simpa using h.symm, rfl⟩
  | _, _, .cons _ _ r, i + 1, v, h => by
    obtain ⟨z, t, e, e2⟩ := strs_get r i v (by simpa using h)
    exact ⟨z, t, e, by simpa using e2⟩
theorem glu_take {q : List (Nat × List Nat)} {i : Nat} {e : Nat × List Nat} (h : q[i]? = some e) : gluR (q.take (i + 1)) = gluR (q.take i) ++ (e.1 :: e.2) := by
  rw [List.take_add_one, h]
  simp [gluR]
theorem glu_len {q : List (Nat × List Nat)} {i : Nat} : (gluR (q.take i)).length ≤ (gluR q).length := by
  have e : gluR q = gluR (q.take i) ++ gluR (q.drop i) := by
    unfold gluR
    rw [← List.flatMap_append, List.take_append_drop]
  rw [e, List.length_append]
  exact Nat.le_add_right _ _
theorem lit_amp : Str.ofString "&" = ⟨#[38]⟩ := by decide
theorem lit_semi : Str.ofString ";" = ⟨#[59]⟩ := by decide
theorem pick_one {v : Value} {r : List Value} : kms_pick (v :: r) (some 1) none = r := by
  unfold kms_pick
  show (r.take _) = r
  exact List.take_of_length_le (by simp [kms_hi, kms_lo]; try (with_reducible ((iterate 7 (try (first | assumption | exact Nat.le_refl _ | refine Nat.le_trans (by assumption) ?_ | refine o_s1 (by assumption) ?_ | refine o_s2 (by assumption) ?_ | refine o_s3 (by assumption) ?_ | refine o_s4 (by assumption) ?_ | refine Nat.le_succ_of_le ?_))); done)))
local macro_rules | `(tactic| walk_at $s) => if ["call builtin:str.split", "subscriptTail Name Name ref str", "binaryOp Add str str"].contains s.getString then `(tactic| refine unmark ?_) else Lean.Macro.throwUnsupported
theorem b_read {w : World} (l : List Nat) (tx0 : Tok) (news : Led) (hx : (tx (escL 7 l)).length ≤ 10000) (hl : l.length ≤ 5000) :
    Body w 2 10 "_law_read" s31 b31 384 (.ref 383) (fun y => if y = "text" then some (.str (tx (escL 7 l)) tx0) else none) news
      (fun v n' _ => n' = news ∧ ∃ t, v = .str (tx l) t) := by
  intro mean mg mb dp un gd outer A₀ base g L s B F X N T ht hd hu Aa
  dsimp only [b31, b31x]
  have hx2 : (tx (escL 7 l)).length ≤ 100000 := by (with_reducible exact o_le (by assumption) (by decide))
  (k_steps; repeat' ((with_reducible refine mark ?_); (first | ((refine add_ls (by simp only [len_app, len_tx, List.length_cons, List.length_nil]; omega) ?_; intro tA kA hA; (try dsimp only at hA); (try dsimp only))) | (((rename News _ _ _ _ => NL); refine kda_item (knd := PySem.strKind _ _) NL (by k_mem) hdO (strKind_is _ _ _ _) hval ?_; (try dsimp only))) | (first | (refine split_led (c := 38) (by assumption) (by assumption) lit_amp (by first | assumption | omega) ?_; intro DP pvs hP kP hkP hpv FP NP lP; (try dsimp only at hkP); (try dsimp only)) | (refine splitM_led (c := 59) (by assumption) (by assumption) lit_semi (by first | assumption | omega) ?_; intro DM mvs hM kM hkM hmv FM NM; rw [hsplit] at hmv; obtain ⟨tm1, tm2, hmE⟩ := strs_two hmv; subst hmE; (try dsimp only at hkM); (try dsimp only)))); k_steps))
  rename Fr _ _ _ _ => F3
  rename News _ _ _ _ => N3
  rename Obj.IsDictOf _ _ _ => hdO
  have hk1 : 1 ≤ kP := by (with_reducible exact o_pos (by assumption))
  clear hkP
  rw [split_esc] at hpv
  have hcg := cut_glu l
  obtain ⟨hf1, hf2⟩ := cut_free l
  generalize cutR l = pq at hpv hcg hf1 hf2
  obtain ⟨p0, q⟩ := pq
  dsimp only at hpv hcg hf1 hf2
  have hlen : p0.length + (gluR q).length ≤ 5000 := by rw [← List.length_append, hcg]; exact hl
  have hpl := strs_len hpv
  have hql : ∀ q : List (Nat × List Nat), q.length ≤ (gluR q).length := fun q => by
    induction q with
    | nil => exact Nat.le_refl _
    | cons e r ih => simp only [gluR, List.flatMap_cons, List.length_append, List.length_cons] at ih ⊢; omega
  have hq5 := hql q
  have hpl2 : pvs.length = q.length + 1 := by rw [hpl]; simp [partsE]
  have hz : pvs.toArray.size ≤ sizeLine := by rw [List.size_toArray]; unfold sizeLine; omega
  refine item_strsR (ys := partsE p0 q) (l := DP) ⟨_, (N3 (DP, _) (List.mem_cons_self ..)).1, rfl, _, rfl⟩ hpv (by decide) (by simp [partsE]) (by decide) fun tS => ?_
  (k_steps; repeat' ((with_reducible refine mark ?_); (first | ((refine add_ls (by simp only [len_app, len_tx, List.length_cons, List.length_nil]; omega) ?_; intro tA kA hA; (try dsimp only at hA); (try dsimp only))) | (((rename News _ _ _ _ => NL); refine kda_item (knd := PySem.strKind _ _) NL (by k_mem) hdO (strKind_is _ _ _ _) hval ?_; (try dsimp only))) | (first | (refine split_led (c := 38) (by assumption) (by assumption) lit_amp (by first | assumption | omega) ?_; intro DP pvs hP kP hkP hpv FP NP lP; (try dsimp only at hkP); (try dsimp only)) | (refine splitM_led (c := 59) (by assumption) (by assumption) lit_semi (by first | assumption | omega) ?_; intro DM mvs hM kM hkM hmv FM NM; rw [hsplit] at hmv; obtain ⟨tm1, tm2, hmE⟩ := strs_two hmv; subst hmE; (try dsimp only at hkM); (try dsimp only)))); k_steps))
  obtain ⟨v0, pvr, rfl, hpr⟩ : ∃ v0 pvr, pvs = v0 :: pvr ∧ StrsAre pvr (q.map fun e => tx (refL e.1 ++ e.2)) := by
    cases hpv with
    | cons y t h => exact ⟨_, _, rfl, h⟩
  have hpk : kms_pick (v0 :: pvr).toArray.toList (some 1) none = pvr := pick_one
  rename Fr _ _ _ _ => F'
  rename News _ _ _ _ => N'
  rw [hpk] at N'
  rename_i od lx1 lo1 hf9 ap9 _ _ _ _ D' h' l1 _
  obtain ⟨r1, r2, r3, r4, r5, r6, r7, hdO⟩ : ∃ t1 t2 t3 t4 t5 t6 t7, Obj.IsDictOf (PySem.strKind pw w) od (nameKvs t1 t2 t3 t4 t5 t6 t7) := ⟨_, _, _, _, _, _, _, hdO⟩
  have hprl := strs_len hpr
  rw [List.length_map] at hprl
  clear hf9
  have hem : (partsE p0 q).getD (Int.toNat 0) Str.empty = tx (p0 ++ gluR (q.take 0)) := by simp [partsE, gluR]
  refine for_list (lo := listOf pvr.toArray 0) (vs := pvr) rfl rfl rfl (List.Mem.head _) ⟨rfl, _, rfl⟩ F' N' (by (try dsimp only); (with_reducible exact Nat.le_add_left 1 _))
    (fun i m nx _ => (∃ a b c Z t, m = up "piece" a (up "name" b (up "rest" c (up "plain" (some (.str Z t)) (rdBase DP s.heap.objs.size (tx (escL 7 l)) tx0)))) ∧ Z = tx (p0 ++ gluR (q.take i))) ∧ nx = (D', listOf pvr.toArray 0) :: (DP, listOf (v0 :: pvr).toArray 0) :: (s.heap.objs.size, od) :: news)
    ⟨⟨_, _, _, _, _, rd_start (rdBase DP s.heap.objs.size (tx (escL 7 l)) tx0) none none none none none none _ none, hem⟩, rfl⟩ (fun _ _ => False) (fun _ _ => False) ?_ ?_ (fun _ _ _ _ h => h.elim) (fun _ _ _ _ _ h => h.elim)
  · rintro i v m₁ nx h tk I io hv hl' ⟨⟨a1, b1, c1, _, t1, rfl, rfl⟩, rfl⟩ hoff htk F4 N4
    refine hide_post fun Post1 hP1 => ?_
    obtain ⟨z, tz, rfl, hz2⟩ := strs_get hpr i v hv
    rw [List.getElem?_map] at hz2
    obtain ⟨e, he, rfl⟩ := Option.map_eq_some_iff.mp hz2
    obtain ⟨g1, g2⟩ := hf2 e (List.mem_of_getElem? he)
    have hnx := glu_take he
    have hl1 := glu_len (q := q) (i := i)
    have hl2 := glu_len (q := q) (i := i + 1)
    rw [hnx, List.length_append, List.length_cons] at hl2
    obtain ⟨sg, pp⟩ := e
    dsimp only at g1 g2 hnx hl2 hl'
    dsimp only at F4
    obtain ⟨tR, hval⟩ : ∃ t, valueAt (nameKvs r1 r2 r3 r4 r5 r6 r7) (tx (nmR sg)) = some (.str (tx [sg]) t) := name_val r1 r2 r3 r4 r5 r6 r7 g1
    have hsplit : Txt.splitMax (tx (refL sg ++ pp)) ⟨#[59]⟩ 1 = [tx (nmR sg), tx pp] := by
      rw [refL_nm g1, List.append_assoc]
      exact split_semi (nmR_free sg)
    have hrl := refL_len sg
    have hx3 : (tx (refL sg ++ pp)).length ≤ 100000 := by rw [len_tx, List.length_append]; omega
    have hlen2 : (p0 ++ gluR (q.take i)).length ≤ 5000 := by rw [List.length_append]; omega
    have hpp : pp.length ≤ 5000 := by omega
    generalize hLD : p0 ++ gluR (q.take i) = LD at F4 hlen2
    (k_steps; repeat' ((with_reducible refine mark ?_); (first | ((refine add_ls (by simp only [len_app, len_tx, List.length_cons, List.length_nil]; (first | with_reducible exact o_lea (by assumption) (by decide) | omega)) ?_; intro tA kA hA; (try dsimp only at hA); (try dsimp only))) | (((rename News _ _ _ _ => NL); refine kda_item (knd := PySem.strKind _ _) NL (by k_mem) hdO (strKind_is _ _ _ _) hval ?_; (try dsimp only))) | (first | (refine split_led (c := 38) (by assumption) (by assumption) lit_amp (by first | assumption | omega) ?_; intro DP pvs hP kP hkP hpv FP NP lP; (try dsimp only at hkP); (try dsimp only)) | (refine splitM_led (c := 59) (by assumption) (by assumption) lit_semi (by first | assumption | omega) ?_; intro DM mvs hM kM hkM hmv FM NM; rw [hsplit] at hmv; obtain ⟨tm1, tm2, hmE⟩ := strs_two hmv; subst hmE; (try dsimp only at hkM); (try dsimp only)))); k_steps))
    rename Fr _ _ _ _ => F7
    rename News _ _ _ _ => N7
    have hoffm : ∀ p ∈ (D', listOf pvr.toArray 0) :: (DP, listOf (v0 :: pvr).toArray 0) :: (s.heap.objs.size, od) :: news, p.1 ≠ I := hoff
    refine hP1 _ _ <| turn_next ((D', listOf pvr.toArray 0) :: (DP, listOf (v0 :: pvr).toArray 0) :: (s.heap.objs.size, od) :: news) F7 (fun p hp => N7 p ?_) hoffm ⟨hl', ⟨_, _, _, _, _, rd_turn (rdBase DP s.heap.objs.size (tx (escL 7 l)) tx0) _ _ _ _ _ _ _ _, ?_⟩, rfl⟩
    · simp only [List.cons_append, List.mem_cons, List.mem_append, List.not_mem_nil, or_false] at hp ⊢
      rcases hp with h | h | h | h | h <;> simp [h]
    · rw [hnx, ← List.append_assoc, hLD]
      exact ext_ls (by rw [ls_append, ls_append, ls_tx, ls_tx, ls_tx, ls_tx]; simp)
  · rintro m₁ _ h tk hl' ⟨⟨a1, b1, c1, _, t1, rfl, rfl⟩, rfl⟩ htk F4 N4
    have hee : p0 ++ gluR (q.take pvr.length) = l := by rw [hprl, List.take_length, hcg]
    (k_steps; repeat' ((with_reducible refine mark ?_); (first | ((refine add_ls (by simp only [len_app, len_tx, List.length_cons, List.length_nil]; omega) ?_; intro tA kA hA; (try dsimp only at hA); (try dsimp only))) | (((rename News _ _ _ _ => NL); refine kda_item (knd := PySem.strKind _ _) NL (by k_mem) hdO (strKind_is _ _ _ _) hval ?_; (try dsimp only))) | (first | (refine split_led (c := 38) (by assumption) (by assumption) lit_amp (by first | assumption | omega) ?_; intro DP pvs hP kP hkP hpv FP NP lP; (try dsimp only at hkP); (try dsimp only)) | (refine splitM_led (c := 59) (by assumption) (by assumption) lit_semi (by first | assumption | omega) ?_; intro DM mvs hM kM hkM hmv FM NM; rw [hsplit] at hmv; obtain ⟨tm1, tm2, hmE⟩ := strs_two hmv; subst hmE; (try dsimp only at hkM); (try dsimp only)))); k_steps))
    exact body_ret F4 (fun p hp => N4 p (by simp only [List.mem_cons]; simp [hp])) ⟨rfl, t1, by rw [hee]⟩
theorem does_read {w : World} (l : List Nat) (tx0 : Tok) (news : Led) (hx : (tx (escL 7 l)).length ≤ 10000) (hl : l.length ≤ 5000) :
    Does w 3 13 (.ref 384) [.str (tx (escL 7 l)) tx0] news (fun v n' _ => n' = news ∧ ∃ t, v = .str (tx l) t) := by
  refine does_fn (binds := [("text", .str (tx (escL 7 l)) tx0)]) (by k_is) (by k_is) (fun s X => BindsTo.of_eq rfl) (locs rfl) (fun y => ?_) rfl rfl rfl (by decide) (@b_read w l tx0 news hx hl)
  show List.lookup y [(("text" : Str), Value.str (tx (escL 7 l)) tx0)] = _
  rw [lk]; rfl
end

section
open PySem PySem.W PyProof.Rows
set_option Elab.async false
set_option maxRecDepth 100000
set_option maxHeartbeats 4000000
/-- the count of tabs, each by the steps that the blanks before it take -/
def wt (T : Nat) : Nat → List Nat → Nat
  | _, [] => 0
  | o, c :: r => o / T * c + wt T (o + 1) r
theorem wt_app (T : Nat) : ∀ (o : Nat) (a b : List Nat), wt T o (a ++ b) = wt T o a + wt T (o + a.length) b
  | o, [], b => by simp [wt]
  | o, c :: a, b => by
    show o / T * c + wt T (o + 1) (a ++ b) = o / T * c + wt T (o + 1) a + wt T (o + (a.length + 1)) b
    rw [wt_app T (o + 1) a b, show o + 1 + a.length = o + (a.length + 1) from Nat.succ_add_eq_add_succ o a.length]; exact (Nat.add_assoc ..).symm
theorem wt_zeros (T : Nat) : ∀ (n o : Nat), wt T o (List.replicate n 0) = 0
  | 0, _ => rfl
  | n + 1, o => by
    rw [List.replicate_succ]
    show o / T * 0 + wt T (o + 1) (List.replicate n 0) = 0
    rw [wt_zeros T n]; rfl
theorem wt_modify (T : Nat) : ∀ (l : List Nat) (o b : Nat), b < l.length → wt T o (l.modify b (· + 1)) = wt T o l + (o + b) / T
  | c :: r, o, 0, _ => by
    show o / T * (c + 1) + wt T (o + 1) r = o / T * c + wt T (o + 1) r + (o + 0) / T
    simp only [Nat.mul_add, Nat.mul_one, Nat.add_zero]; exact Nat.add_right_comm ..
  | c :: r, o, b + 1, h => by
    rw [List.modify_succ_cons]
    show o / T * c + wt T (o + 1) (r.modify b (· + 1)) = o / T * c + wt T (o + 1) r + (o + (b + 1)) / T
    rw [wt_modify T r (o + 1) b (by simpa using h), show o + 1 + b = o + (b + 1) from Nat.succ_add_eq_add_succ o b]; exact (Nat.add_assoc ..).symm
theorem wt_bump (T : Nat) (l : List Nat) (b : Nat) : wt T 0 (bump l b) = wt T 0 l + b / T := by
  unfold bump
  split
  · rename_i h
    rw [wt_modify T _ 0 b (by rw [List.length_append, List.length_replicate]; exact Nat.lt_succ_of_le (Nat.le_of_eq (Nat.add_sub_of_le h).symm)), wt_app, wt_zeros, Nat.zero_add]; rfl
  · rw [wt_modify T l 0 b (Nat.lt_of_not_le (by assumption)), Nat.zero_add]
theorem wt_low (T : Nat) : ∀ (l : List Nat) (o : Nat), o + l.length ≤ T → wt T o l = 0
  | [], _, _ => rfl
  | c :: r, o, h => by
    rw [List.length_cons] at h
    show o / T * c + wt T (o + 1) r = 0
    rw [wt_low T r (o + 1) (Nat.le_trans (Nat.le_of_eq (Nat.succ_add_eq_add_succ o r.length)) h), Nat.div_eq_of_lt (Nat.lt_of_lt_of_le (Nat.lt_add_of_pos_right (Nat.succ_pos _)) h)]; simp
theorem ilS_wt (T : Nat) (count : List Nat) : ∀ n, n ≤ count.length - T → ilS T count n = wt T T ((count.drop T).take n)
  | 0, _ => rfl
  | n + 1, h => by
    show ilS T count n + (T + n) / T * count.getD (T + n) 0 = _
    rw [ilS_wt T count n (by (with_reducible exact Nat.le_of_succ_le (by assumption))), List.take_add_one, wt_app]
    have e : (count.drop T)[n]? = some (count.getD (T + n) 0) := by
      rw [List.getElem?_drop, List.getD_eq_getElem?_getD, List.getElem?_eq_getElem (Nat.add_lt_of_lt_sub' h)]; rfl
    rw [e, List.length_take, List.length_drop, Nat.min_eq_left (by (with_reducible exact Nat.le_of_succ_le (by assumption)))]
    show _ = _ + ((T + n) / T * _ + 0)
    rfl
theorem ilS_all (T : Nat) (count : List Nat) : ilS T count (count.length - T) = wt T 0 count := by
  rw [ilS_wt T count _ (Nat.le_refl _), List.take_of_length_le (by rw [List.length_drop]; exact Nat.le_refl _)]
  conv => rhs; rw [← List.take_append_drop T count]
  rw [wt_app, wt_low T (count.take T) 0 (by rw [List.length_take, Nat.zero_add]; exact Nat.min_le_left _ _), Nat.zero_add, Nat.zero_add, List.length_take]
  by_cases h : T ≤ count.length
  · rw [Nat.min_eq_left h]
  · rw [List.drop_eq_nil_of_le (Nat.le_of_not_le h)]; rfl
theorem level_wt (T : Nat) (st : Wst) : levelS T st = st.b + T * (wt T 0 st.count + st.nt) := by unfold levelS; rw [ilS_all]
theorem level_space (T : Nat) (st : Wst) : levelS T (wsStep st 32) = levelS T st + 1 := by
  rw [level_wt, level_wt]
  show st.b + 1 + T * (wt T 0 st.count + st.nt) = st.b + T * (wt T 0 st.count + st.nt) + 1
  exact Nat.add_right_comm ..
theorem level_tab (T : Nat) (st : Wst) (m b : Nat) (hb : st.b = b) (h : levelS T st = T * m + b) : levelS T (wsStep st 9) = T * (m + b / T + 1) := by
  rw [level_wt] at h ⊢
  rw [hb] at h
  have hm : T * (wt T 0 st.count + st.nt) = T * m := Nat.add_left_cancel (h.trans (Nat.add_comm _ _))
  show 0 + T * (wt T 0 (bump st.count st.b) + (st.nt + 1)) = _
  rw [wt_bump, hb, Nat.zero_add]
  rw [show wt T 0 st.count + b / T + (st.nt + 1) = (wt T 0 st.count + st.nt) + (b / T + 1) from Nat.add_add_add_comm .., Nat.mul_add, hm, ← Nat.mul_add, Nat.add_assoc]
def wsFrom (st : Wst) (l : List Nat) : Wst := l.foldl wsStep st
theorem from_app (st : Wst) (a b : List Nat) : wsFrom st (a ++ b) = wsFrom (wsFrom st a) b := List.foldl_append ..
theorem from_bl (T : Nat) : ∀ (n : Nat) (st : Wst), levelS T (wsFrom st (bl n)) = levelS T st + n ∧ (wsFrom st (bl n)).b = st.b + n ∧ (wsFrom st (bl n)).n = st.n + n
  | 0, st => ⟨rfl, rfl, rfl⟩
  | n + 1, st => by
    obtain ⟨a, b, c⟩ := from_bl T n (wsStep st 32)
    show levelS T (wsFrom (wsStep st 32) (bl n)) = _ ∧ (wsFrom (wsStep st 32) (bl n)).b = _ ∧ (wsFrom (wsStep st 32) (bl n)).n = _
    rw [a, b, c, level_space]
    exact ⟨Nat.succ_add_eq_add_succ .., Nat.succ_add_eq_add_succ .., Nat.succ_add_eq_add_succ ..⟩
theorem ws_n : ∀ (l : List Nat) (st : Wst), (wsFrom st l).n = st.n + l.length
  | [], st => rfl
  | c :: r, st => by
    show (wsFrom (wsStep st c) r).n = _
    rw [ws_n r, List.length_cons]
    have : (wsStep st c).n = st.n + 1 := by unfold wsStep; split <;> rfl
    rw [this]
    exact Nat.succ_add_eq_add_succ ..
theorem tab_b (st : Wst) : (wsFrom st [9]).b = 0 := rfl
/-- at a tab stop with no blanks behind -/
def Stop (T m : Nat) (st : Wst) : Prop := levelS T st = T * m ∧ st.b = 0
theorem stop_tab {T m : Nat} {st : Wst} (n : Nat) (h : Stop T m st) : Stop T (m + n / T + 1) (wsFrom st (bl n ++ [9])) := by
  obtain ⟨a, b, _⟩ := from_bl T n st
  rw [from_app]
  exact ⟨level_tab T _ m n (by rw [b, h.2, Nat.zero_add]) (by rw [a, h.1]), rfl⟩
theorem base_stop {T : Nat} (h1 : 1 ≤ T) : Stop T 7 (wsFrom ⟨0, 0, 0, []⟩ (leadBase T)) := by
  have h0 : Stop T 0 ⟨0, 0, 0, []⟩ := ⟨by rw [level_wt]; simp [wt], rfl⟩
  have s1 := stop_tab (3 * T - 1) h0
  have s2 := stop_tab T s1
  have s3 := stop_tab T s2
  rw [← from_app, ← from_app] at s3
  have e : (bl (3 * T - 1) ++ [9] ++ (bl T ++ [9]) ++ (bl T ++ [9])) = leadBase T := by unfold leadBase; simp
  rw [List.append_assoc] at s3
  have hd : (3 * T - 1) / T = 2 :=
    Nat.div_eq_of_lt_le (Nat.le_sub_of_add_le (Nat.le_trans (Nat.add_le_add_left h1 (2 * T)) (Nat.le_of_eq (Nat.succ_mul 2 T).symm))) (Nat.sub_lt (Nat.mul_pos (by decide) h1) (by decide))
  have ht : T / T = 1 := Nat.div_self h1
  rw [hd, ht] at s3
  rw [← e]
  simpa [List.append_assoc] using s3
def Reach (T m : Nat) (st : Wst) : Prop := levelS T st = T * m ∧ ∃ c, st.b = T * c
theorem reach_step {T m : Nat} {st : Wst} (h1 : 1 ≤ T) (n : Nat) (hn : n ≤ T) (h : Reach T m st) : Reach T (m + 1) (wsFrom st (bl n ++ (if n < T then [9] else []))) := by
  obtain ⟨hl, c, hc⟩ := h
  obtain ⟨a, b, _⟩ := from_bl T n st
  rw [from_app]
  by_cases q : n < T
  · rw [if_pos q]
    have hx := level_wt T st
    rw [hl, hc] at hx
    have hm : m = c + (wt T 0 st.count + st.nt) := by
      rw [← Nat.mul_add] at hx
      exact Nat.eq_of_mul_eq_mul_left h1 hx
    have ht := level_tab T (wsFrom st (bl n)) (wt T 0 st.count + st.nt) (T * c + n) (by rw [b, hc]) (by rw [a, hl, hm, Nat.mul_add, Nat.add_comm (T * c), Nat.add_assoc])
    refine ⟨?_, 0, rfl⟩
    show levelS T (wsStep (wsFrom st (bl n)) 9) = _
    rw [ht, Nat.mul_add_div h1, Nat.div_eq_of_lt q, hm]
    exact congrArg (fun z => T * (z + 1)) (Nat.add_comm _ _)
  · rw [if_neg q]
    obtain rfl : n = T := Nat.le_antisymm hn (Nat.le_of_not_lt q)
    refine ⟨?_, c + 1, ?_⟩
    · show levelS n (wsFrom st (bl n)) = _
      rw [a, hl, Nat.mul_add, Nat.mul_one]
    · show (wsFrom st (bl n)).b = _
      rw [b, hc, Nat.mul_add, Nat.mul_one]
theorem steps_reach {T : Nat} (h1 : 1 ≤ T) (k cell : Nat) : ∀ d, Reach T (7 + d) (wsFrom ⟨0, 0, 0, []⟩ (leadBase T ++ (List.range d).flatMap (leadStep k cell T)))
  | 0 => by
    obtain ⟨a, b⟩ := base_stop h1
    rw [List.range_zero, List.flatMap_nil, List.append_nil]
    exact ⟨a, 0, b⟩
  | d + 1 => by
    have ih := steps_reach h1 k cell d
    have hb : blanksF k cell T d ≤ T := Nat.le_of_lt_succ (Nat.mod_lt _ (Nat.succ_pos T))
    have := reach_step h1 (blanksF k cell T d) hb ih
    rw [← from_app] at this
    rw [List.range_succ, List.flatMap_append, ← List.append_assoc]
    rw [show 7 + d + 1 = 7 + (d + 1) from rfl] at this
    simpa [leadStep] using this
theorem lead_level {T : Nat} (h1 : 1 ≤ T) (k d cell : Nat) : levelS T (wsRun (leadF k d cell T)) = 7 * T + k % T + d * T := by
  show levelS T (wsFrom ⟨0, 0, 0, []⟩ (leadF k d cell T)) = _
  unfold leadF
  rw [from_app]
  obtain ⟨a, _, _⟩ := from_bl T (k % T) (wsFrom ⟨0, 0, 0, []⟩ (leadBase T ++ (List.range d).flatMap (leadStep k cell T)))
  rw [a, (steps_reach h1 k cell d).1, Nat.mul_add, Nat.mul_comm T 7, Nat.mul_comm T d]; exact Nat.add_right_comm ..
theorem lead_n (k d cell T : Nat) : (wsRun (leadF k d cell T)).n = (leadF k d cell T).length := by
  show (wsFrom ⟨0, 0, 0, []⟩ _).n = _
  rw [ws_n]; exact Nat.zero_add _
theorem bl_blank (n : Nat) : ∀ c ∈ bl n, blank c = true := fun c h => by rw [List.eq_of_mem_replicate h]; rfl
theorem app_blank {a b : List Nat} (ha : ∀ c ∈ a, blank c = true) (hb : ∀ c ∈ b, blank c = true) : ∀ c ∈ a ++ b, blank c = true := fun c h => (List.mem_append.mp h).elim (ha c) (hb c)
theorem cons_blank {b : List Nat} (hb : ∀ c ∈ b, blank c = true) : ∀ c ∈ 9 :: b, blank c = true := fun c h => (List.mem_cons.mp h).elim (fun e => by rw [e]; rfl) (hb c)
theorem nil_blank : ∀ c ∈ ([] : List Nat), blank c = true := fun _ h => nomatch h
theorem lead_blank (k d cell T : Nat) : ∀ c ∈ leadF k d cell T, blank c = true := by
  unfold leadF leadBase
  refine app_blank (app_blank (app_blank (app_blank (bl_blank _) (app_blank (cons_blank (bl_blank _)) (cons_blank (bl_blank _)))) (cons_blank nil_blank)) ?_) (bl_blank _)
  intro c h
  obtain ⟨j, _, h⟩ := List.mem_flatMap.mp h
  unfold leadStep at h
  revert h
  refine app_blank (bl_blank _) ?_ c
  split
  · exact cons_blank nil_blank
  · exact nil_blank
theorem takeWhile_pre {p : Nat → Bool} : ∀ {a : List Nat} {c : Nat} {r : List Nat}, (∀ x ∈ a, p x = true) → p c = false → (a ++ c :: r).takeWhile p = a
  | [], c, r, _, hc => by rw [List.nil_append, List.takeWhile_cons, hc]; rfl
  | x :: a, c, r, h, hc => by
    rw [List.cons_append, List.takeWhile_cons, h x (List.mem_cons_self ..)]
    simp only [if_true]
    rw [takeWhile_pre (fun y hy => h y (List.mem_cons_of_mem _ hy)) hc]
end

section
open PySem PySem.W PyProof.Rows
set_option Elab.async false
set_option maxRecDepth 100000
set_option maxHeartbeats 4000000
/-- the heads: letter, sign, line feed -/
def hdS (sg : Nat → Nat) (k : Nat) : Str := tx [60, 97 + k, sg k, 10]
def sgOK (c : Nat) : Prop := c = 38 ∨ c = 62 ∨ c = 34 ∨ c = 9 ∨ c = 10 ∨ c = 13 ∨ c = 59 ∨ c = 107
abbrev lowS (k : Nat) : Str := ⟨#[97 + k]⟩
abbrev capS (k : Nat) : Str := ⟨#[65 + k]⟩
/-- what a row announces: its name in great letters and what is in it -/
def tabR (hs : Nat → Str) (g : Nat × Fst) : Str × Str := (capS g.1, tx (escL 7 (fT hs g.2)))
def tabL (g : Nat × Fst) : Str × Str := (lowS g.1, Str.empty)
theorem low_low (k : Nat) : lowN (lowS k) = lowS k := by
  have e : (lowS k).cps.getD 0 0 = 97 + k := rfl
  unfold lowN
  rw [e, if_neg (Nat.not_lt.mpr (Nat.le_add_right 97 k))]
theorem low_cap {k : Nat} (h : k < 7) : lowN (capS k) = lowS k := by
  have e : (capS k).cps.getD 0 0 = 65 + k := rfl
  unfold lowN
  rw [e, if_pos (show 65 + k < 97 from Nat.add_lt_add_left (Nat.lt_trans h (by decide : 7 < 32)) 65)]
  show (⟨#[65 + k + 32]⟩ : Str) = ⟨#[97 + k]⟩
  rw [show 65 + k + 32 = 97 + k from Nat.add_right_comm 65 k 32]
theorem lowS_inj {a b : Nat} (h : lowS a = lowS b) : a = b := by
  have := congrArg (fun s : Str => s.cps.getD 0 0) h
  exact Nat.add_left_cancel (show 97 + a = 97 + b from this)
theorem nm_cap {k : Nat} (h : k < 7) : IsNm (capS k) := ⟨k, h, .inr rfl⟩
theorem nm_low {k : Nat} (h : k < 7) : IsNm (lowS k) := ⟨k, h, .inl rfl⟩
theorem key_R (hs : Nat → Str) {g : Nat × Fst} (h : g.1 < 7) : lowN (tabR hs g).1 = lowS g.1 := low_cap h
theorem key_L (g : Nat × Fst) : lowN (tabL g).1 = lowS g.1 := low_low _
theorem filt_id {X : List (Str × Str)} {z : Str} (h : ∀ p ∈ X, lowN p.1 ≠ z) : X.filter (fun p => lowN p.1 != z) = X :=
  List.filter_eq_self.mpr fun p hp => by simpa using h p hp
theorem filt_out {p : Str × Str} {z : Str} (h : lowN p.1 = z) : [p].filter (fun p => lowN p.1 != z) = [] := by
  simp [List.filter, h]
/-- the table when the first n of the pieces, the last one first, have been announced -/
def tab1 (hs : Nat → Str) (Q G : List (Nat × Fst)) (n : Nat) : List (Str × Str) := Q.map (tabR hs) ++ (G.reverse.take n).map tabL
/-- the table when the first n of the pieces have been stored anew -/
def tab2 (hs : Nat → Str) (Q G : List (Nat × Fst)) (n : Nat) : List (Str × Str) := Q.map (tabR hs) ++ (G.drop n).reverse.map tabL ++ (G.take n).map (tabR hs)
theorem tab_mid (hs : Nat → Str) (Q G : List (Nat × Fst)) : tab1 hs Q G G.length = tab2 hs Q G 0 := by
  unfold tab1 tab2
  rw [← List.length_reverse, List.take_length]
  simp
theorem tab_end (hs : Nat → Str) (Q G : List (Nat × Fst)) : tab2 hs Q G G.length = (Q ++ G).map (tabR hs) := by
  unfold tab2
  simp
structure TabOK (Q G : List (Nat × Fst)) : Prop where
  nd : ((Q ++ G).map (·.1)).Nodup
  lt : ∀ g ∈ Q ++ G, g.1 < 7
theorem TabOK.ne {Q G : List (Nat × Fst)} (h : TabOK Q G) {i : Nat} {g : Nat × Fst} (hg : (Q ++ G)[i]? = some g) : ∀ j e, j ≠ i → (Q ++ G)[j]? = some e → e.1 ≠ g.1 := by
  intro j e hj he hh
  have nd := h.nd
  have hi := (List.getElem?_eq_some_iff.mp hg).1
  have hjl := (List.getElem?_eq_some_iff.mp he).1
  have e1 : ((Q ++ G).map (·.1))[i]? = some g.1 := by rw [List.getElem?_map, hg]; rfl
  have e2 : ((Q ++ G).map (·.1))[j]? = some e.1 := by rw [List.getElem?_map, he]; rfl
  refine hj ((List.getElem?_inj (by rw [List.length_map]; exact hjl) nd).mp ?_)
  rw [e1, e2, hh]
theorem TabOK.neQ {Q G : List (Nat × Fst)} (h : TabOK Q G) {i : Nat} {g : Nat × Fst} (hg : G[i]? = some g) : ∀ e ∈ Q, e.1 ≠ g.1 := by
  intro e he
  obtain ⟨j, hj, rfl⟩ := List.mem_iff_getElem.mp he
  refine h.ne (i := Q.length + i) (by rw [List.getElem?_append_right (Nat.le_add_right _ _), Nat.add_sub_cancel_left]; exact hg) j _ (Nat.ne_of_lt (Nat.lt_add_right i hj)) (by rw [List.getElem?_append_left hj]; exact List.getElem?_eq_getElem hj)
theorem TabOK.neG {Q G : List (Nat × Fst)} (h : TabOK Q G) {i j : Nat} {g e : Nat × Fst} (hg : G[i]? = some g) (he : G[j]? = some e) (hj : j ≠ i) : e.1 ≠ g.1 :=
  h.ne (i := Q.length + i) (j := Q.length + j) (by rw [List.getElem?_append_right (Nat.le_add_right _ _), Nat.add_sub_cancel_left]; exact hg) e (fun e => hj (Nat.add_left_cancel e)) (by rw [List.getElem?_append_right (Nat.le_add_right _ _), Nat.add_sub_cancel_left]; exact he)
theorem TabOK.ltG {Q G : List (Nat × Fst)} (h : TabOK Q G) {i : Nat} {g : Nat × Fst} (hg : G[i]? = some g) : g.1 < 7 := h.lt g (List.mem_append_right _ (List.mem_of_getElem? hg))
theorem TabOK.ltGm {Q G : List (Nat × Fst)} (h : TabOK Q G) {g : Nat × Fst} (hg : g ∈ G) : g.1 < 7 := h.lt g (List.mem_append_right _ hg)
theorem TabOK.ltQ {Q G : List (Nat × Fst)} (h : TabOK Q G) {g : Nat × Fst} (hg : g ∈ Q) : g.1 < 7 := h.lt g (List.mem_append_left _ hg)
theorem rev_get {α : Type} {l : List α} {i : Nat} {x : α} (h : l.reverse[i]? = some x) : i < l.length ∧ l[l.length - 1 - i]? = some x := by
  have hi : i < l.length := by have := (List.getElem?_eq_some_iff.mp h).1; rwa [List.length_reverse] at this
  exact ⟨hi, by rw [List.getElem?_reverse hi] at h; exact h⟩
theorem tab1_step (hs : Nat → Str) {Q G : List (Nat × Fst)} (h : TabOK Q G) {n : Nat} {g : Nat × Fst} (hg : G.reverse[n]? = some g) :
    (tab1 hs Q G n).filter (fun p => lowN p.1 != lowN (lowS g.1)) ++ [(lowS g.1, Str.empty)] = tab1 hs Q G (n + 1) := by
  obtain ⟨hn, hg'⟩ := rev_get hg
  rw [low_low]
  rw [filt_id]
  · unfold tab1
    rw [List.take_add_one, hg]
    simp [tabL]
  · intro p hp
    rcases List.mem_append.mp hp with hp | hp
    · obtain ⟨e, he, rfl⟩ := List.mem_map.mp hp
      rw [key_R hs (h.ltQ he)]
      exact fun x => h.neQ hg' e he (lowS_inj x)
    · obtain ⟨e, he, rfl⟩ := List.mem_map.mp hp
      rw [key_L]
      obtain ⟨j, hj, rfl⟩ := List.mem_iff_getElem.mp he
      rw [List.length_take] at hj
      have hjr : j < G.reverse.length := Nat.lt_of_lt_of_le hj (Nat.min_le_right _ _)
      have hjn : j < n := Nat.lt_of_lt_of_le hj (Nat.min_le_left _ _)
      have e2 : G.reverse[j]? = some ((G.reverse.take n)[j]'(by rw [List.length_take]; exact hj)) := by
        rw [List.getElem_take]
        exact List.getElem?_eq_getElem hjr
      obtain ⟨h1, h2⟩ := rev_get e2
      exact fun x => h.neG hg' h2 (Nat.ne_of_gt (Nat.sub_lt_sub_left (Nat.lt_of_lt_of_le hjn (Nat.le_sub_one_of_lt hn)) hjn)) (lowS_inj x)
theorem tab2_step (hs : Nat → Str) {Q G : List (Nat × Fst)} (h : TabOK Q G) {n : Nat} {g : Nat × Fst} (hg : G[n]? = some g) :
    (tab2 hs Q G n).filter (fun p => lowN p.1 != lowN (capS g.1)) ++ [tabR hs g] = tab2 hs Q G (n + 1) := by
  have hn := (List.getElem?_eq_some_iff.mp hg).1
  rw [low_cap (h.ltG hg)]
  have e1 : (G.drop n).reverse = (G.drop (n + 1)).reverse ++ [g] := by
    rw [List.drop_eq_getElem_cons hn, List.reverse_cons]
    rw [List.getElem?_eq_getElem hn] at hg
    cases hg
    rfl
  have e2 : G.take (n + 1) = G.take n ++ [g] := by rw [List.take_add_one, hg]; rfl
  unfold tab2
  rw [e1, e2, List.filter_append, List.filter_append, List.map_append, List.filter_append]
  rw [show List.map tabL [g] = [tabL g] from rfl, filt_out (key_L g), filt_id, filt_id, filt_id]
  · simp
  · intro p hp
    obtain ⟨e, he, rfl⟩ := List.mem_map.mp hp
    obtain ⟨j, hj, rfl⟩ := List.mem_iff_getElem.mp he
    rw [List.length_take] at hj
    have e3 : G[j]? = some ((G.take n)[j]'(by rw [List.length_take]; exact hj)) := by
      rw [List.getElem_take]
      exact List.getElem?_eq_getElem (Nat.lt_of_lt_of_le hj (Nat.min_le_right _ _))
    rw [key_R hs (h.ltG e3)]
    exact fun x => h.neG hg e3 (Nat.ne_of_lt (Nat.lt_of_lt_of_le hj (Nat.min_le_left _ _))) (lowS_inj x)
  · intro p hp
    obtain ⟨e, he, rfl⟩ := List.mem_map.mp hp
    rw [key_L]
    obtain ⟨j, hj, rfl⟩ := List.mem_iff_getElem.mp (List.mem_reverse.mp he)
    rw [List.length_drop] at hj
    have e3 : G[n + 1 + j]? = some ((G.drop (n + 1))[j]'(by rw [List.length_drop]; exact hj)) := by
      rw [List.getElem_drop]
      exact List.getElem?_eq_getElem (Nat.add_lt_of_lt_sub' hj)
    exact fun x => h.neG hg e3 (Nat.ne_of_gt (Nat.lt_of_lt_of_le (Nat.lt_succ_self n) (Nat.le_add_right _ _))) (lowS_inj x)
  · intro p hp
    obtain ⟨e, he, rfl⟩ := List.mem_map.mp hp
    rw [key_R hs (h.ltQ he)]
    exact fun x => h.neQ hg e he (lowS_inj x)
theorem tab1_nm (hs : Nat → Str) {Q G : List (Nat × Fst)} (h : TabOK Q G) (n : Nat) : ∀ p ∈ tab1 hs Q G n, IsNm p.1 := by
  intro p hp
  rcases List.mem_append.mp hp with hp | hp
  · obtain ⟨e, he, rfl⟩ := List.mem_map.mp hp
    exact nm_cap (h.ltQ he)
  · obtain ⟨e, he, rfl⟩ := List.mem_map.mp hp
    exact nm_low (h.ltGm (List.mem_reverse.mp (List.mem_of_mem_take he)))
theorem tab2_nm (hs : Nat → Str) {Q G : List (Nat × Fst)} (h : TabOK Q G) (n : Nat) : ∀ p ∈ tab2 hs Q G n, IsNm p.1 := by
  intro p hp
  rcases List.mem_append.mp hp with hp | hp
  · rcases List.mem_append.mp hp with hp | hp
    · obtain ⟨e, he, rfl⟩ := List.mem_map.mp hp
      exact nm_cap (h.ltQ he)
    · obtain ⟨e, he, rfl⟩ := List.mem_map.mp hp
      exact nm_low (h.ltGm (List.mem_of_mem_drop (List.mem_reverse.mp he)))
  · obtain ⟨e, he, rfl⟩ := List.mem_map.mp hp
    exact nm_cap (h.ltGm (List.mem_of_mem_take he))
theorem tab1_len (hs : Nat → Str) {Q G : List (Nat × Fst)} (n : Nat) : (tab1 hs Q G n).length ≤ (Q ++ G).length := by
  unfold tab1
  simp only [List.length_append, List.length_map, List.length_take, List.length_reverse]
  exact Nat.add_le_add_left (Nat.min_le_right _ _) _
theorem tab2_len (hs : Nat → Str) {Q G : List (Nat × Fst)} (n : Nat) : (tab2 hs Q G n).length ≤ (Q ++ G).length := by
  unfold tab2
  simp only [List.length_append, List.length_map, List.length_take, List.length_reverse, List.length_drop]
  rw [Nat.add_assoc]
  exact Nat.add_le_add_left (Nat.le_of_eq (by rw [Nat.min_comm]; exact Nat.sub_add_min_cancel _ _)) _
/-- the first of the names, taken out -/
theorem tab_out (hs : Nat → Str) {g : Nat × Fst} {r : List (Nat × Fst)} (h : TabOK [] (g :: r)) :
    (((g :: r).map (tabR hs) ++ [(lowS g.1, Str.empty)]).find? fun p => lowN p.1 == lowN (lowS g.1)).map (·.2) = some (tx (escL 7 (fT hs g.2))) ∧
    ((g :: r).map (tabR hs) ++ [(lowS g.1, Str.empty)]).filter (fun p => lowN p.1 != lowN (lowS g.1)) = r.map (tabR hs) ∧
    ∀ p ∈ (g :: r).map (tabR hs) ++ [(lowS g.1, Str.empty)], IsNm p.1 := by
  have hg : g.1 < 7 := h.lt g (by simp)
  rw [low_low]
  refine ⟨?_, ?_, ?_⟩
  · rw [List.map_cons, List.cons_append, List.find?_cons_of_pos (by rw [key_R hs hg]; simp)]
    rfl
  · rw [List.filter_append, filt_out (low_low g.1), List.append_nil, List.map_cons, List.filter_cons_of_neg (by rw [key_R hs hg]; simp), filt_id]
    intro p hp
    obtain ⟨e, he, rfl⟩ := List.mem_map.mp hp
    rw [key_R hs (h.lt e (by simp [he]))]
    obtain ⟨j, hj, rfl⟩ := List.mem_iff_getElem.mp he
    exact fun x => h.neG (G := g :: r) (i := 0) (j := j + 1) rfl (by rw [List.getElem?_cons_succ]; exact List.getElem?_eq_getElem hj) (Nat.succ_ne_zero _) (lowS_inj x)
  · intro p hp
    rcases List.mem_append.mp hp with hp | hp
    · obtain ⟨e, he, rfl⟩ := List.mem_map.mp hp
      exact nm_cap (h.lt e (by simpa using he))
    · cases List.mem_singleton.mp hp
      exact nm_low hg
/-- signs of the texts -/
def okC (c : Nat) : Prop := c < 127 ∧ (c = 9 ∨ c = 10 ∨ c = 13 ∨ 32 ≤ c)
theorem esc_plain {l : List Nat} (h : ∀ c ∈ l, okC c) : Plain (tx (escL 7 l)) := by
  intro x hx
  obtain ⟨c, hc, hx⟩ := List.mem_flatMap.mp (show x ∈ escL 7 l from hx)
  obtain ⟨h1, h2⟩ := h c hc
  have key : ∀ c < 127, (c = 9 ∨ c = 10 ∨ c = 13 ∨ 32 ≤ c) → ∀ x ∈ escC 7 c, 32 ≤ x ∧ x < 127 := by decide +kernel
  exact key c h1 h2 x hx
theorem refL_ok (c : Nat) : ∀ x ∈ refL c, okC x := by
  unfold refL okC
  repeat' split
  all_goals decide
theorem told_ok {d c : Nat} (h : okC c) : ∀ x ∈ toldSign d c, okC x := by
  intro x hx
  unfold toldSign at hx
  split at hx
  · rcases List.mem_cons.mp hx with rfl | hx
    · exact ⟨by decide, by decide⟩
    · rcases List.mem_append.mp hx with hx | hx
      · obtain ⟨l, hl, hx⟩ := List.mem_flatten.mp hx
        rw [List.eq_of_mem_replicate hl] at hx
        exact (by unfold okC; decide : ∀ y ∈ [97, 109, 112, 59], okC y) x hx
      · exact refL_ok c x hx
  · rw [List.mem_singleton] at hx
    subst hx
    exact h
theorem fT_ok {sg : Nat → Nat} (hsg : ∀ k, sgOK (sg k)) {F : Fst} (hF : ∀ e ∈ F, e.1 < 7) : ∀ c ∈ fT (hdS sg) F, okC c := by
  intro x hx
  obtain ⟨e, he, hx⟩ := List.mem_flatMap.mp hx
  obtain ⟨c, hc, hx⟩ := List.mem_flatMap.mp hx
  refine told_ok ?_ x hx
  have := hsg e.1
  unfold sgOK at this
  have hc : c ∈ [60, 97 + e.1, sg e.1, 10] := hc
  simp at hc
  unfold okC
  rcases hc with h | h | h | h
  · rw [h]; decide
  · rw [h]; exact ⟨Nat.add_lt_add_left (Nat.lt_trans (hF e he) (by decide : 7 < 30)) 97, .inr (.inr (.inr (Nat.le_trans (by decide) (Nat.le_add_right 97 _))))⟩
  · rw [h]; rcases this with h | h | h | h | h | h | h | h <;> (rw [h]; decide)
  · rw [h]; decide
theorem fT_len {sg : Nat → Nat} : ∀ {F : Fst}, (∀ e ∈ F, e.2 ≤ 3) → (fT (hdS sg) F).length ≤ 56 * F.length
  | [], _ => Nat.le_refl _
  | e :: r, h => by
    have ih := fT_len (sg := sg) (F := r) fun x hx => h x (List.mem_cons_of_mem _ hx)
    have h1 : (rowT (hdS sg) e).length ≤ 14 * (ls (hdS sg e.1)).length := flat14 (h e (List.mem_cons_self ..)) _
    have : (fT (hdS sg) (e :: r)).length = (rowT (hdS sg) e).length + (fT (hdS sg) r).length := by
      unfold fT
      rw [List.flatMap_cons, List.length_append]
    rw [this, List.length_cons]
    exact Nat.le_trans (Nat.add_le_add h1 ih) (Nat.le_of_eq (Nat.add_comm 56 _))
where
  flat14 {d : Nat} (h : d ≤ 3) : ∀ l : List Nat, (l.flatMap (toldSign d)).length ≤ 14 * l.length := flatMap_len fun c => toldSign_len h
theorem sg_ne {sg : Nat → Nat} (hsg : ∀ k, sgOK (sg k)) : ∀ k, ∃ a b, ls (hdS sg k) = [60, a, b, 10] ∧ a ≠ 60 ∧ b ≠ 60 := fun k => ⟨97 + k, sg k, rfl, Nat.ne_of_gt (Nat.lt_of_lt_of_le (by decide) (Nat.le_add_right 97 k)), by have := hsg k; unfold sgOK at this; rcases this with h | h | h | h | h | h | h | h <;> (rw [h]; decide)⟩
theorem piece_eq (sg : Nat → Nat) (g : Nat × Fst) : tx (pieceL (hdS sg) g) = tx ([97 + g.1, sg g.1, 10] ++ escL 7 (fT (hdS sg) g.2)) := rfl
end

section
open PySem PySem.W PySem.Calls PyProof.Rows
set_option Elab.async false
set_option maxRecDepth 100000
set_option maxHeartbeats 3000000
set_option linter.all false
set_option hygiene false
local macro_rules | `(tactic| walk_at $s) => if ["call ref", "call builtin:str.split", "call builtin:list.append", "subscriptTail Call Attribute nil nil Constant ref int"].contains s.getString then `(tactic| refine unmark ?_) else Lean.Macro.throwUnsupported
abbrev up_ (x : Str) (v : Option Value) (m : Str → Option Value) : Str → Option Value := up x v m
abbrev quBase (lt lw lg : Addr) (x : Str) (td : Tok) : Str → Option Value := fun y => if y = "given" then some (.ref lg) else if y = "waits" then some (.ref lw) else if y = "taken" then some (.ref lt) else if y = "doc" then some (.str x td) else none
theorem strs_cons {vs : List Value} {a : Str} {r : List Str} (h : StrsAre vs (a :: r)) : ∃ v vr, vs = v :: vr ∧ StrsAre vr r := by
  cases h with
  | cons y t h => exact ⟨_, _, rfl, h⟩
theorem lit_lt : Str.ofString "<" = ⟨#[60]⟩ := by decide
theorem strs_rev {vs : List Value} {zs : List Str} (h : StrsAre vs zs) : StrsAre vs.reverse zs.reverse := by
  induction h with
  | nil => exact .nil
  | cons y t _ ih =>
    rw [List.reverse_cons, List.reverse_cons]
    exact strs_app ih (.cons y t .nil)
where
  strs_app {a b : List Value} {x y : List Str} (h : StrsAre a x) (h2 : StrsAre b y) : StrsAre (a ++ b) (x ++ y) := by
    induction h with
    | nil => exact h2
    | cons z t _ ih => exact .cons z t ih
theorem piece0 {w : World} {A : Around} {E : Value → Shared → Prop} {s : Shared} {value slice : PySem.Expr} {sg : Nat → Nat} {g : Nat × Fst} {t u : Tok} {Q : Value → Shared → Prop} (h : Q (.str (lowS g.1) s.toks) { s with toks := s.toks + 1 })
    (hs : subscripted slice false (.str (tx (pieceL (hdS sg) g)) t) (.int 0 u) = operate [.str (tx (pieceL (hdS sg) g)) t, .int 0 u] (getItem (.str (tx (pieceL (hdS sg) g)) t) (.int 0 u)) := by with_unfolding_all rfl)
    (ht : ∀ r, letTemporaryGo value (.str (tx (pieceL (hdS sg) g)) t) r = pure () := by intro _; with_unfolding_all rfl) :
    wpAny (model pw w) A (subscriptTail value slice (.str (tx (pieceL (hdS sg) g)) t) (.int 0 u)) Q E s := by
  have hp : (0 : Int) < ((tx (pieceL (hdS sg) g)).length : Int) := by
    rw [piece_eq]
    show (0 : Int) < ((([97 + g.1, sg g.1, 10] ++ escL 7 (fT (hdS sg) g.2)).length : Nat) : Int)
    rw [List.length_append]
    simp
    omega
  have e : Txt.item (tx (pieceL (hdS sg) g)) 0 = lowS g.1 := by
    rw [piece_eq]
    unfold Txt.item Txt.charAt
    simp [seqIndex?, Str.length]
    rw [if_pos (by omega)]
    rfl
  exact item_str (by decide) (Int.le_trans (Int.neg_nonpos_of_nonneg (Int.natCast_nonneg _)) (Int.le_refl _)) hp (fun _ => by rw [e]; exact h) hs ht
theorem piece3 {w : World} {A : Around} {E : Value → Shared → Prop} {s : Shared} {gh : Heap} {L : Addr} {m : Str → Option Value} {news : Led} {value slice : PySem.Expr} {sg : Nat → Nat} {g : Nat × Fst} {t u : Tok} {Q : Value → Shared → Prop} (F : Fr gh L s.heap m) (N : News gh L s.heap news) (hsz : (tx (pieceL (hdS sg) g)).length ≤ 1000000)
    (h : ∀ h' t' k, s.toks ≤ k → Fr gh L h' m → News gh L h' news → Q (.str (tx (escL 7 (fT (hdS sg) g.2))) t') { s with heap := h', toks := k })
    (hs : subscripted slice false (.str (tx (pieceL (hdS sg) g)) t) (.ref s.heap.objs.size) = operate [.ref s.heap.objs.size, .str (tx (pieceL (hdS sg) g)) t] (getItem (.str (tx (pieceL (hdS sg) g)) t) (.ref s.heap.objs.size)) := by with_unfolding_all rfl)
    (ht : ∀ r, letTemporaryGo value (.str (tx (pieceL (hdS sg) g)) t) r = pure () := by intro _; with_unfolding_all rfl) :
    wpAny (model pw w) A (subscriptTail value slice (.str (tx (pieceL (hdS sg) g)) t) (.ref s.heap.objs.size)) Q E { s with heap := s.heap.push { cls := .type "slice", data := .fields #[.int 3 u, .none, .none] } } := by
  have e : Txt.slice (tx (pieceL (hdS sg) g)) (some 3) none = tx (escL 7 (fT (hdS sg) g.2)) := by
    rw [piece_eq]
    refine (slice_from (n := 3) ?_).trans rfl
    rw [List.length_append]
    exact Nat.le_add_right 3 _
  refine slice_led F N hsz (fun h' t' k a b c => ?_) hs ht
  rw [e]
  exact h h' t' k a b c
theorem up_low {w : World} {A : Around} {E : Value → Shared → Prop} {s : Shared} {k : Nat} {t : Tok} {Q : Value → Shared → Prop} (hk : k < 7) (h : Q (.str (capS k) s.toks) { s with toks := s.toks + 1 }) :
    wpAny (model pw w) A (call (.builtin "str.upper") [.str (lowS k) t]) Q E s := by
  have e : Txt.upper (lowS k) = capS k := by
    rw [nm_upper (nm_low hk)]
    have e : (lowS k).cps.getD 0 0 = 97 + k := rfl
    unfold uppN
    rw [e, if_neg (by omega)]
    show (⟨#[97 + k - 32]⟩ : Str) = ⟨#[65 + k]⟩
    rw [show 97 + k - 32 = 65 + k by rw [Nat.add_comm 97 k, Nat.add_sub_assoc (by decide), Nat.add_comm k]]
  refine SC.upper (nm_uppfit (nm_low hk)) ?_
  rw [e]
  exact h
theorem cap_low {k : Nat} (hk : k < 7) : Txt.lower (capS k) = lowS k := by rw [nm_lower (nm_cap hk), low_cap hk]
theorem down_cap {w : World} {A : Around} {E : Value → Shared → Prop} {s : Shared} {k : Nat} {t : Tok} {Q : Value → Shared → Prop} (hk : k < 7) (h : Q (.str (lowS k) s.toks) { s with toks := s.toks + 1 }) :
    wpAny (model pw w) A (call (.builtin "str.lower") [.str (capS k) t]) Q E s := by
  refine SC.lower (nm_lowfit (nm_cap hk)) ?_
  rw [cap_low hk]
  exact h
theorem qu_off {tL tX tD lt lw lg C : Addr} {oL oX oD ot ow og oc : Obj} {R Z : Led} (c1 : @LT.lt Nat _ C tD) (c2 : @LT.lt Nat _ tD tX) (c3 : @LT.lt Nat _ tX tL) (c4 : @LT.lt Nat _ tL lt) (c5 : @LT.lt Nat _ lt lw) (c6 : @LT.lt Nat _ lw lg) (hR : ∀ p ∈ R, @LT.lt Nat _ lg p.1) (hZ : ∀ p ∈ Z, p.1 ≠ tL ∧ p.1 ≠ lt ∧ p.1 ≠ lw ∧ p.1 ≠ lg) :
    (∀ p ∈ (lt, ot) :: (lw, ow) :: (lg, og) :: (C, oc) :: (R ++ Z), p.1 ≠ tL) ∧ (∀ p ∈ (tL, oL) :: (tX, oX) :: (tD, oD) :: (lw, ow) :: (lg, og) :: (C, oc) :: (R ++ Z), p.1 ≠ lt) ∧ (∀ p ∈ (tL, oL) :: (tX, oX) :: (tD, oD) :: (lt, ot) :: (lg, og) :: (C, oc) :: (R ++ Z), p.1 ≠ lw) ∧ ∀ p ∈ (tL, oL) :: (tX, oX) :: (tD, oD) :: (lt, ot) :: (lw, ow) :: (C, oc) :: (R ++ Z), p.1 ≠ lg := by
  have a1 := Nat.lt_trans c1 c2
  have a2 := Nat.lt_trans a1 c3
  have a3 := Nat.lt_trans a2 c4
  have a4 := Nat.lt_trans a3 c5
  have a5 := Nat.lt_trans a4 c6
  have d1 := Nat.lt_trans c2 c3
  have d2 := Nat.lt_trans d1 c4
  have d3 := Nat.lt_trans d2 c5
  have d4 := Nat.lt_trans d3 c6
  have x2 := Nat.lt_trans c3 c4
  have x3 := Nat.lt_trans x2 c5
  have x4 := Nat.lt_trans x3 c6
  have k3 := Nat.lt_trans c4 c5
  have k4 := Nat.lt_trans k3 c6
  have m4 := Nat.lt_trans c5 c6
  have hRZ : ∀ p ∈ R ++ Z, p.1 ≠ tL ∧ p.1 ≠ lt ∧ p.1 ≠ lw ∧ p.1 ≠ lg := by
    intro p hp
    rcases List.mem_append.mp hp with hp | hp
    · have h0 := hR p hp
      exact ⟨Nat.ne_of_gt (Nat.lt_trans k4 h0), Nat.ne_of_gt (Nat.lt_trans m4 h0), Nat.ne_of_gt (Nat.lt_trans c6 h0), Nat.ne_of_gt h0⟩
    · exact hZ p hp
  have e1 := Nat.ne_of_lt a2
  have e2 := Nat.ne_of_lt a3
  have e3 := Nat.ne_of_lt a4
  have e4 := Nat.ne_of_lt a5
  have f2 := Nat.ne_of_lt d2
  have f3 := Nat.ne_of_lt d3
  have f4 := Nat.ne_of_lt d4
  have g2 := Nat.ne_of_lt x2
  have g3 := Nat.ne_of_lt x3
  have g4 := Nat.ne_of_lt x4
  have k2 := Nat.ne_of_lt c4
  have k3 := Nat.ne_of_lt k3
  have k4 := Nat.ne_of_lt k4
  have m3 := Nat.ne_of_lt c5
  have m4 := Nat.ne_of_lt m4
  have n4 := Nat.ne_of_lt c6
  simp only [List.forall_mem_cons]
  exact ⟨⟨k2.symm, k3.symm, k4.symm, e1, fun p hp => (hRZ p hp).1⟩, ⟨k2, g2, f2, m3.symm, m4.symm, e2, fun p hp => (hRZ p hp).2.1⟩, ⟨k3, g3, f3, m3, n4.symm, e3, fun p hp => (hRZ p hp).2.2.1⟩, k4, g4, f4, m4, n4, e4, fun p hp => (hRZ p hp).2.2.2⟩
theorem empty_plain : Plain Str.empty := fun c hc => nomatch hc
theorem empty_short : Str.empty.length ≤ 16777216 := Nat.zero_le _
theorem one_short (c : Nat) : (⟨#[c]⟩ : Str).length ≤ 16777216 := Nat.le_of_ble_eq_true rfl
theorem nm_plain {z : Str} (h : IsNm z) : Plain z := by
  obtain ⟨j, hj, rfl | rfl⟩ := h <;> (intro c hc; cases List.mem_singleton.mp hc; constructor <;> omega)
local macro_rules | `(tactic| walk_at "subscriptTail Name Constant str int") => `(tactic| ((with_unfolding_all refine piece0 ?_); (try dsimp only)))
local macro_rules | `(tactic| walk_at "call builtin:str.upper") => `(tactic| ((refine up_low (by assumption) ?_); (try dsimp only)))
local macro_rules | `(tactic| walk_at "subscriptTail Name Slice str ref") => `(tactic| ((with_reducible show wpAny _ _ (subscriptTail _ (PySem.Expr.Slice (some _) none none _) _ _) _ _ _); refine unmark ?_))
def RFar (lg I : Addr) (R : Led) : Prop := ∀ p ∈ R, @LT.lt Nat _ lg p.1 ∧ p.1 ≠ I
theorem news_sub {g h : Heap} {L : Addr} {l l' : Led} (N : News g L h l) (hs : ∀ p ∈ l', p ∈ l) : News g L h l' := fun p hp => N p (hs p hp)
theorem sb_pm (pre tl : Led) (is : List Nat) : ∀ p ∈ is.filterMap (fun i => pre[i]?) ++ tl, p ∈ pre ++ tl := by
  intro p hp
  rcases List.mem_append.mp hp with hp | hp
  · obtain ⟨i, -, hi⟩ := List.mem_filterMap.mp hp
    exact List.mem_append_left _ (List.mem_of_getElem? hi)
  · exact List.mem_append_right _ hp
theorem pm2 {e0 e1 : Addr × Obj} {tl : Led} (is : List Nat) : ∀ p ∈ is.filterMap (fun i => ([e0, e1] : Led)[i]?) ++ tl, p ∈ e0 :: e1 :: tl := sb_pm [e0, e1] tl is
theorem pm3 {e0 e1 e2 : Addr × Obj} {tl : Led} (is : List Nat) : ∀ p ∈ is.filterMap (fun i => ([e0, e1, e2] : Led)[i]?) ++ tl, p ∈ e0 :: e1 :: e2 :: tl := sb_pm [e0, e1, e2] tl is
theorem pm4 {e0 e1 e2 e3 : Addr × Obj} {tl : Led} (is : List Nat) : ∀ p ∈ is.filterMap (fun i => ([e0, e1, e2, e3] : Led)[i]?) ++ tl, p ∈ e0 :: e1 :: e2 :: e3 :: tl := sb_pm [e0, e1, e2, e3] tl is
theorem pm5 {e0 e1 e2 e3 e4 : Addr × Obj} {tl : Led} (is : List Nat) : ∀ p ∈ is.filterMap (fun i => ([e0, e1, e2, e3, e4] : Led)[i]?) ++ tl, p ∈ e0 :: e1 :: e2 :: e3 :: e4 :: tl := sb_pm [e0, e1, e2, e3, e4] tl is
theorem pm6 {e0 e1 e2 e3 e4 e5 : Addr × Obj} {tl : Led} (is : List Nat) : ∀ p ∈ is.filterMap (fun i => ([e0, e1, e2, e3, e4, e5] : Led)[i]?) ++ tl, p ∈ e0 :: e1 :: e2 :: e3 :: e4 :: e5 :: tl := sb_pm [e0, e1, e2, e3, e4, e5] tl is
theorem pm7 {e0 e1 e2 e3 e4 e5 e6 : Addr × Obj} {tl : Led} (is : List Nat) : ∀ p ∈ is.filterMap (fun i => ([e0, e1, e2, e3, e4, e5, e6] : Led)[i]?) ++ tl, p ∈ e0 :: e1 :: e2 :: e3 :: e4 :: e5 :: e6 :: tl := sb_pm [e0, e1, e2, e3, e4, e5, e6] tl is
theorem pm8 {e0 e1 e2 e3 e4 e5 e6 e7 : Addr × Obj} {tl : Led} (is : List Nat) : ∀ p ∈ is.filterMap (fun i => ([e0, e1, e2, e3, e4, e5, e6, e7] : Led)[i]?) ++ tl, p ∈ e0 :: e1 :: e2 :: e3 :: e4 :: e5 :: e6 :: e7 :: tl := sb_pm [e0, e1, e2, e3, e4, e5, e6, e7] tl is
theorem pm9 {e0 e1 e2 e3 e4 e5 e6 e7 e8 : Addr × Obj} {tl : Led} (is : List Nat) : ∀ p ∈ is.filterMap (fun i => ([e0, e1, e2, e3, e4, e5, e6, e7, e8] : Led)[i]?) ++ tl, p ∈ e0 :: e1 :: e2 :: e3 :: e4 :: e5 :: e6 :: e7 :: e8 :: tl := sb_pm [e0, e1, e2, e3, e4, e5, e6, e7, e8] tl is
theorem pm10 {e0 e1 e2 e3 e4 e5 e6 e7 e8 e9 : Addr × Obj} {tl : Led} (is : List Nat) : ∀ p ∈ is.filterMap (fun i => ([e0, e1, e2, e3, e4, e5, e6, e7, e8, e9] : Led)[i]?) ++ tl, p ∈ e0 :: e1 :: e2 :: e3 :: e4 :: e5 :: e6 :: e7 :: e8 :: e9 :: tl := sb_pm [e0, e1, e2, e3, e4, e5, e6, e7, e8, e9] tl is
theorem pm11 {e0 e1 e2 e3 e4 e5 e6 e7 e8 e9 e10 : Addr × Obj} {tl : Led} (is : List Nat) : ∀ p ∈ is.filterMap (fun i => ([e0, e1, e2, e3, e4, e5, e6, e7, e8, e9, e10] : Led)[i]?) ++ tl, p ∈ e0 :: e1 :: e2 :: e3 :: e4 :: e5 :: e6 :: e7 :: e8 :: e9 :: e10 :: tl := sb_pm [e0, e1, e2, e3, e4, e5, e6, e7, e8, e9, e10] tl is
theorem pm12 {e0 e1 e2 e3 e4 e5 e6 e7 e8 e9 e10 e11 : Addr × Obj} {tl : Led} (is : List Nat) : ∀ p ∈ is.filterMap (fun i => ([e0, e1, e2, e3, e4, e5, e6, e7, e8, e9, e10, e11] : Led)[i]?) ++ tl, p ∈ e0 :: e1 :: e2 :: e3 :: e4 :: e5 :: e6 :: e7 :: e8 :: e9 :: e10 :: e11 :: tl := sb_pm [e0, e1, e2, e3, e4, e5, e6, e7, e8, e9, e10, e11] tl is
theorem pm13 {e0 e1 e2 e3 e4 e5 e6 e7 e8 e9 e10 e11 e12 : Addr × Obj} {tl : Led} (is : List Nat) : ∀ p ∈ is.filterMap (fun i => ([e0, e1, e2, e3, e4, e5, e6, e7, e8, e9, e10, e11, e12] : Led)[i]?) ++ tl, p ∈ e0 :: e1 :: e2 :: e3 :: e4 :: e5 :: e6 :: e7 :: e8 :: e9 :: e10 :: e11 :: e12 :: tl := sb_pm [e0, e1, e2, e3, e4, e5, e6, e7, e8, e9, e10, e11, e12] tl is
theorem pm14 {e0 e1 e2 e3 e4 e5 e6 e7 e8 e9 e10 e11 e12 e13 : Addr × Obj} {tl : Led} (is : List Nat) : ∀ p ∈ is.filterMap (fun i => ([e0, e1, e2, e3, e4, e5, e6, e7, e8, e9, e10, e11, e12, e13] : Led)[i]?) ++ tl, p ∈ e0 :: e1 :: e2 :: e3 :: e4 :: e5 :: e6 :: e7 :: e8 :: e9 :: e10 :: e11 :: e12 :: e13 :: tl := sb_pm [e0, e1, e2, e3, e4, e5, e6, e7, e8, e9, e10, e11, e12, e13] tl is
theorem off_cons {a x : Addr} {o : Obj} {l : Led} (h : a ≠ x) (t : ∀ p ∈ l, p.1 ≠ x) : ∀ p ∈ (a, o) :: l, p.1 ≠ x := List.forall_mem_cons.mpr ⟨h, t⟩
theorem off3_cons {a x y z : Addr} {o : Obj} {l : Led} (h : a ≠ x ∧ a ≠ y ∧ a ≠ z) (t : ∀ p ∈ l, p.1 ≠ x ∧ p.1 ≠ y ∧ p.1 ≠ z) : ∀ p ∈ (a, o) :: l, p.1 ≠ x ∧ p.1 ≠ y ∧ p.1 ≠ z := List.forall_mem_cons.mpr ⟨h, t⟩
theorem off_of {P : Addr → Prop} {A B : Led} (h : A.map (·.1) = B.map (·.1)) (t : ∀ p ∈ A, P p.1) : ∀ p ∈ B, P p.1 := by
  intro p hp
  have : p.1 ∈ A.map (·.1) := h ▸ List.mem_map.mpr ⟨p, hp, rfl⟩
  obtain ⟨q, hq, e⟩ := List.mem_map.mp this
  exact e ▸ t q hq
theorem inR (pre : Led) {R Z : Led} : ∀ p ∈ R, p ∈ pre ++ (R ++ Z) := fun _ hp => List.mem_append_right pre (List.mem_append_left Z hp)
theorem inZ (pre : Led) {R Z : Led} {p : Addr × Obj} (h : p ∈ Z) : p ∈ pre ++ (R ++ Z) := List.mem_append_right pre (List.mem_append_right R h)
theorem off_mid {P : Addr → Prop} (pre : Led) {q : Addr × Obj} {l pre' : Led} (h : ∀ p ∈ pre ++ l, P p.1) (hk : pre.map (·.1) = pre'.map (·.1)) (hq : P q.1) : ∀ p ∈ pre' ++ (q :: l), P p.1 := by
  intro p hp
  rcases List.mem_append.mp hp with hp | hp
  · exact off_of hk (fun p hp => h p (List.mem_append_left _ hp)) p hp
  · rcases List.mem_cons.mp hp with rfl | hp
    · exact hq
    · exact h p (List.mem_append_right _ hp)
theorem off_end {P : Addr → Prop} (pre : Led) {R R' Z Z' pre' : Led} (h : ∀ p ∈ pre ++ (R ++ Z), P p.1) (hk : pre.map (·.1) = pre'.map (·.1)) (hR : ∀ p ∈ R', P p.1) (hZ : ∀ p ∈ Z', p ∈ Z) : ∀ p ∈ pre' ++ (R' ++ Z'), P p.1 := by
  intro p hp
  rcases List.mem_append.mp hp with hp | hp
  · exact off_of hk (fun p hp => h p (List.mem_append_left _ hp)) p hp
  · rcases List.mem_append.mp hp with hp | hp
    · exact hR p hp
    · exact h p (List.mem_append_right _ (List.mem_append_right _ (hZ p hp)))
theorem News.app3 (pre : Led) {g h : Heap} {L : Addr} {R A B : Led} (N : News g L h (pre ++ (R ++ (A ++ B)))) : News g L h ((pre ++ (R ++ A)) ++ B) := by simpa only [List.append_assoc] using N
/-- the addresses of the queue's turn, apart from each other -/
def QO (tL tX tD lt lw lg C : Addr) (Z : Led) : Prop := @LT.lt Nat _ C tD ∧ @LT.lt Nat _ tD tX ∧ @LT.lt Nat _ tX tL ∧ @LT.lt Nat _ tL lt ∧ @LT.lt Nat _ lt lw ∧ @LT.lt Nat _ lw lg ∧ ∀ p ∈ Z, p.1 ≠ tL ∧ p.1 ≠ lt ∧ p.1 ≠ lw ∧ p.1 ≠ lg
theorem QO.offL {tL tX tD lt lw lg C I : Addr} {ot ow og oc : Obj} {R Z : Led} (q : QO tL tX tD lt lw lg C Z) (hR : RFar lg I R) : ∀ p ∈ (lt, ot) :: (lw, ow) :: (lg, og) :: (C, oc) :: (R ++ Z), p.1 ≠ tL :=
  (qu_off (oL := oc) (oX := oc) (oD := oc) q.1 q.2.1 q.2.2.1 q.2.2.2.1 q.2.2.2.2.1 q.2.2.2.2.2.1 (fun p hp => (hR p hp).1) q.2.2.2.2.2.2).1
theorem QO.offT {tL tX tD lt lw lg C I : Addr} {oL oX oD ow og oc : Obj} {R Z : Led} (q : QO tL tX tD lt lw lg C Z) (hR : RFar lg I R) : ∀ p ∈ (tL, oL) :: (tX, oX) :: (tD, oD) :: (lw, ow) :: (lg, og) :: (C, oc) :: (R ++ Z), p.1 ≠ lt :=
  (qu_off (ot := oc) q.1 q.2.1 q.2.2.1 q.2.2.2.1 q.2.2.2.2.1 q.2.2.2.2.2.1 (fun p hp => (hR p hp).1) q.2.2.2.2.2.2).2.1
theorem QO.offW {tL tX tD lt lw lg C I : Addr} {oL oX oD ot og oc : Obj} {R Z : Led} (q : QO tL tX tD lt lw lg C Z) (hR : RFar lg I R) : ∀ p ∈ (tL, oL) :: (tX, oX) :: (tD, oD) :: (lt, ot) :: (lg, og) :: (C, oc) :: (R ++ Z), p.1 ≠ lw :=
  (qu_off (ow := oc) q.1 q.2.1 q.2.2.1 q.2.2.2.1 q.2.2.2.2.1 q.2.2.2.2.2.1 (fun p hp => (hR p hp).1) q.2.2.2.2.2.2).2.2.1
theorem QO.offG {tL tX tD lt lw lg C I : Addr} {oL oX oD ot ow oc : Obj} {R Z : Led} (q : QO tL tX tD lt lw lg C Z) (hR : RFar lg I R) : ∀ p ∈ (tL, oL) :: (tX, oX) :: (tD, oD) :: (lt, ot) :: (lw, ow) :: (C, oc) :: (R ++ Z), p.1 ≠ lg :=
  (qu_off (og := oc) q.1 q.2.1 q.2.2.1 q.2.2.2.1 q.2.2.2.2.1 q.2.2.2.2.2.1 (fun p hp => (hR p hp).1) q.2.2.2.2.2.2).2.2.2
local macro_rules | `(tactic| walk_at "call builtin:str.lower") => `(tactic| ((refine down_cap (by assumption) ?_); (try dsimp only)))
local macro_rules | `(tactic| walk_at "call builtin:list.extend") => `(tactic| ((with_reducible show wpAny _ _ (call (Value.builtin _) [Value.ref _, Value.ref _]) _ _ _); refine unmark ?_))
def RTok (R : Led) (tk : Nat) : Prop := ∀ q a b ta tb n, (q, tup a b ta tb n) ∈ R → @LE.le Nat _ 1 ta ∧ @LT.lt Nat _ ta tk
theorem RTok.mono {R : Led} {a b : Nat} (h : RTok R a) (hab : a ≤ b) : RTok R b := fun q x y ta tb n hm => ⟨(h q x y ta tb n hm).1, Nat.lt_of_lt_of_le (h q x y ta tb n hm).2 hab⟩
theorem RTok.cons {R : Led} {tk : Nat} {q : Addr} {a b : Str} {ta tb : Tok} {n : Nat} (h : RTok R tk) (h1 : @LE.le Nat _ 1 ta) (h2 : @LT.lt Nat _ ta tk) : RTok ((q, tup a b ta tb n) :: R) tk := by
  intro q' x y ta' tb' n' hm
  rcases List.mem_cons.mp hm with e | hm
  · cases e
    exact ⟨h1, h2⟩
  · exact h q' x y ta' tb' n' hm
/-- great letters, each with a token of its own below tk -/
inductive LetAre (tk : Nat) : List Value → List Nat → Prop where
  | nil : LetAre tk [] []
  | cons {vs ks} (k : Nat) (t : Tok) : @LE.le Nat _ 1 t → @LT.lt Nat _ t tk → LetAre tk vs ks → LetAre tk (.str (capS k) t :: vs) (k :: ks)
theorem LetAre.mono {a b : Nat} (hab : a ≤ b) {vs : List Value} {ks : List Nat} (h : LetAre a vs ks) : LetAre b vs ks := by
  induction h with
  | nil => exact .nil
  | cons k t h1 h2 _ ih => exact .cons k t h1 (Nat.lt_of_lt_of_le h2 hab) ih
theorem LetAre.snoc {tk : Nat} {vs : List Value} {ks : List Nat} (h : LetAre tk vs ks) {k : Nat} {t : Tok} (h1 : @LE.le Nat _ 1 t) (h2 : @LT.lt Nat _ t tk) : LetAre tk (vs ++ [.str (capS k) t]) (ks ++ [k]) := by
  induction h with
  | nil => exact .cons k t h1 h2 .nil
  | cons k' t' h1' h2' _ ih => exact .cons k' t' h1' h2' ih
inductive NatsAre : List Value → List Nat → Prop where
  | nil : NatsAre [] []
  | cons {vs ks} (k : Nat) (t : Tok) : NatsAre vs ks → NatsAre (.int (k : Int) t :: vs) (k :: ks)
theorem NatsAre.snoc {vs : List Value} {ks : List Nat} (h : NatsAre vs ks) {k : Nat} {t : Tok} : NatsAre (vs ++ [.int (k : Int) t]) (ks ++ [k]) := by
  induction h with
  | nil => exact .cons k t .nil
  | cons k' t' _ ih => exact .cons k' t' ih
def gN (F0 : Fst) : Nat → Nat
  | 0 => 0
  | i + 1 => gN F0 i + 2 * (grp (qN F0 i).F).length + 2
theorem qu_start (lt lw lg : Addr) (x : Str) (td : Tok) : (fun y => if y = "given" then some (Value.ref lg) else if y = "waits" then some (.ref lw) else if y = "taken" then some (.ref lt) else if y = "text" then some (.str x td) else if y = "doc" then some (.str x td) else none : Str → Option Value) = up_ "turn" none (up_ "pieces" none (up_ "first" none (up_ "text" (some (.str x td)) (quBase lt lw lg x td)))) := by
  funext y
  by_cases h1 : y = "turn"
  · subst h1; rfl
  by_cases h2 : y = "pieces"
  · subst h2; rfl
  by_cases h3 : y = "first"
  · subst h3; rfl
  by_cases h4 : y = "text"
  · subst h4; rfl
  simp only [up, up_, if_neg h1, if_neg h2, if_neg h3, if_neg h4]
theorem turn_facts {F0 : Fst} (h : okTurns F0 = true) {i : Nat} (hi : i < 7) : TabOK (qN F0 i).Q (grp (qN F0 i).F) ∧ (∃ g r, (qN F0 i).Q ++ grp (qN F0 i).F = g :: r) ∧ ((qN F0 i).Q ++ grp (qN F0 i).F).length ≤ 7 ∧ (∀ g ∈ (qN F0 i).Q ++ grp (qN F0 i).F, g.2.length ≤ 7 ∧ ∀ e ∈ g.2, e.1 < 7 ∧ e.2 ≤ 3) ∧ (qN F0 i).F.length ≤ 7 ∧ ∀ e ∈ (qN F0 i).F, e.1 < 7 ∧ e.2 ≤ 3 := by
  have := List.all_eq_true.mp h i (List.mem_range.mpr hi)
  simp only [Bool.and_eq_true, decide_eq_true_eq, List.all_eq_true] at this
  obtain ⟨⟨⟨⟨⟨a1, a2⟩, a3⟩, a4⟩, a5⟩, a6⟩ := this
  refine ⟨⟨a2, fun g hg => (a4 g hg).1.1⟩, ?_, a3, fun g hg => ⟨(a4 g hg).1.2, fun e he => (a4 g hg).2 e he⟩, a5, a6⟩
  cases hA : (qN F0 i).Q ++ grp (qN F0 i).F with
  | nil => rw [hA] at a1; exact absurd a1 (by decide)
  | cons g r => exact ⟨g, r, rfl⟩
theorem qN_next {F0 : Fst} {i : Nat} {g : Nat × Fst} {r : List (Nat × Fst)} (h : (qN F0 i).Q ++ grp (qN F0 i).F = g :: r) : qN F0 (i + 1) = { F := g.2, Q := r, taken := (qN F0 i).taken ++ [g.1], waits := (qN F0 i).waits ++ [r.length] } := by
  show qStep (qN F0 i) = _
  unfold qStep
  rw [h]
theorem qN_len {F0 : Fst} (h : okTurns F0 = true) : ∀ i, i ≤ 7 → (qN F0 i).taken.length = i ∧ (qN F0 i).waits.length = i
  | 0, _ => ⟨rfl, rfl⟩
  | i + 1, hi => by
    have ih := qN_len h i (by (with_reducible exact Nat.le_of_succ_le (by assumption)))
    obtain ⟨_, ⟨g, r, hgr⟩, _⟩ := turn_facts h (i := i) (by (with_reducible (refine o_lts ?_; ((iterate 7 (try (first | assumption | exact Nat.le_refl _ | refine Nat.le_trans (by assumption) ?_ | refine o_s1 (by assumption) ?_ | refine o_s2 (by assumption) ?_ | refine o_s3 (by assumption) ?_ | refine o_s4 (by assumption) ?_ | refine Nat.le_succ_of_le ?_))); done))))
    rw [qN_next hgr]
    simp [ih.1, ih.2]
theorem qN_tlen {F0 : Fst} (h : okTurns F0 = true) (i : Nat) (hi : i ≤ 7) : (qN F0 i).taken.length = i := (qN_len h i hi).1
theorem qN_wlen {F0 : Fst} (h : okTurns F0 = true) (i : Nat) (hi : i ≤ 7) : (qN F0 i).waits.length = i := (qN_len h i hi).2
theorem LetAre.len {tk : Nat} {vs : List Value} {ks : List Nat} (h : LetAre tk vs ks) : vs.length = ks.length := by
  induction h with
  | nil => rfl
  | cons k t _ _ _ ih => simp [ih]
theorem NatsAre.len {vs : List Value} {ks : List Nat} (h : NatsAre vs ks) : vs.length = ks.length := by
  induction h with
  | nil => rfl
  | cons k t _ ih => simp [ih]
theorem gN_le {F0 : Fst} (h : okTurns F0 = true) : ∀ i, i ≤ 7 → gN F0 i ≤ 16 * i
  | 0, _ => Nat.le_refl _
  | i + 1, hi => by
    have ih := gN_le h i (by (with_reducible exact Nat.le_of_succ_le (by assumption)))
    obtain ⟨_, _, h7, _⟩ := turn_facts h (i := i) (by (with_reducible (refine o_lts ?_; ((iterate 7 (try (first | assumption | exact Nat.le_refl _ | refine Nat.le_trans (by assumption) ?_ | refine o_s1 (by assumption) ?_ | refine o_s2 (by assumption) ?_ | refine o_s3 (by assumption) ?_ | refine o_s4 (by assumption) ?_ | refine Nat.le_succ_of_le ?_))); done))))
    rw [List.length_append] at h7
    show gN F0 i + 2 * (grp (qN F0 i).F).length + 2 ≤ 16 * (i + 1)
    omega
theorem qu_norm (lt lw lg : Addr) (x : Str) (td : Tok) (tn ut upp uf ut' T p f : Option Value) : up "text" T (up "first" f (up "pieces" p (up "turn" tn (up_ "turn" ut (up_ "pieces" upp (up_ "first" uf (up_ "text" ut' (quBase lt lw lg x td)))))))) = up_ "turn" tn (up_ "pieces" p (up_ "first" f (up_ "text" T (quBase lt lw lg x td)))) := by
  funext y
  by_cases h1 : y = "text"
  · subst h1; rfl
  by_cases h2 : y = "first"
  · subst h2; rfl
  by_cases h3 : y = "pieces"
  · subst h3; rfl
  by_cases h4 : y = "turn"
  · subst h4; rfl
  simp only [up, up_, if_neg h1, if_neg h2, if_neg h3, if_neg h4]
theorem b_queue {w : World} (sg : Nat → Nat) (hsg : ∀ k, sgOK (sg k)) (F0 : Fst) (hok : okTurns F0 = true) (hQ7 : (qN F0 7).Q = []) (td : Tok) (news : Led) :
    BodyC w 10 60 "_law_queue" s32 b32 389 (.ref 388) (fun y => if y = "doc" then some (.str (tx (fT (hdS sg) F0)) td) else none) (fun _ => none) news
      (fun v n' tk => ∃ (r lt lw lg li : Addr) (kr kt kw kg ki : Nat) (tvs wvs : List Value), v = .ref r ∧ n' = (r, listOf #[.ref lt, .ref lw, .ref lg, .ref li] kr) :: (lt, listOf tvs.toArray kt) :: (lw, listOf wvs.toArray kw) :: (lg, listOf (List.replicate (gN F0 7) Value.none).toArray kg) :: (li, listOf #[] ki) :: news ∧ LetAre tk tvs (qN F0 7).taken ∧ NatsAre wvs (qN F0 7).waits) := by
  intro mean mg mb dp un gd outer A₀ base g L s cells B F X N Y T hlt ht hd hu Aa
  refine hide_post fun Post0 hP0 => ?_
  dsimp only [b32, b32x]
  obtain ⟨o', hE, hd'⟩ := CellsAre.one Y
  subst hE
  clear Y
  simp only [List.cons_append, List.nil_append] at N
  have q4 : ∀ p ∈ news, p.1 < L := hlt
  have q5 : ∀ p ∈ news, p.1 ≠ L + 1 := fun p hp => Nat.ne_of_lt (Nat.lt_succ_of_lt (q4 p hp))
  k_steps
  unfold Marked
  (((with_reducible show wpAny _ _ (call (Value.ref 321) _ _) _ _ _); (with_unfolding_all refine does_call (does_new _) (by assumption) (by assumption) (by assumption) (by assumption) (by assumption) rfl (by (try dsimp only); (with_reducible assumption)) (by (try dsimp only); (with_reducible exact o_room (by assumption) (by decide))) (by (try dsimp only); (with_reducible exact o_room (by assumption) (by decide))) ?_); intro v' h' tk' n' hp' ht' F' N'; obtain ⟨tX, tD, hv2, hn2, hl3, hl4⟩ := hp'; obtain ⟨tL, tT, hn3, hl5⟩ := hn2; subst hv2; subst hn3; try dsimp only at ht'; try dsimp only))
  k_steps
  have hl6 : @LT.lt Nat _ (L + 1) tD := hl4 (L + 1, o') (List.mem_cons_self ..)
  have nq1 : @Ne Nat tL (L + 1) := by (with_reducible (refine Nat.ne_of_gt ?_; ((iterate 7 (try (first | assumption | exact Nat.lt_succ_self _ | refine Nat.lt_succ_of_lt ?_ | refine Nat.lt_trans (by assumption) ?_ | refine o_l1 (by assumption) ?_ | refine o_l2 (by assumption) ?_ | refine o_l3 (by assumption) ?_ | exact o_m1 (by assumption) | exact o_m2 (by assumption) | exact o_m3 (by assumption)))); done)))
  have nq2 : @Ne Nat tX (L + 1) := by (with_reducible (refine Nat.ne_of_gt ?_; ((iterate 7 (try (first | assumption | exact Nat.lt_succ_self _ | refine Nat.lt_succ_of_lt ?_ | refine Nat.lt_trans (by assumption) ?_ | refine o_l1 (by assumption) ?_ | refine o_l2 (by assumption) ?_ | refine o_l3 (by assumption) ?_ | exact o_m1 (by assumption) | exact o_m2 (by assumption) | exact o_m3 (by assumption)))); done)))
  have nq3 : @Ne Nat tD (L + 1) := by (with_reducible exact Nat.ne_of_gt (by assumption))
  k_steps
  rename IsRange _ _ _ _ _ _ _ _ => RR
  rename Fr _ _ _ _ => FR
  rename News _ _ _ _ => NR
  rename_i oc dc _ lt _ l1t _ lw _ l1w _ lg _ l1g _ _ _ hR tkR tR1 tR2 tR3 htkR
  obtain ⟨c4, c5, c6⟩ : @LT.lt Nat _ tL lt ∧ @LT.lt Nat _ lt lw ∧ @LT.lt Nat _ lw lg := ⟨l1t.1, l1w.1, l1g.1⟩
  clear l1t l1w l1g
  refine for_range (news := (tL, listOf ([] : List Value).toArray 0) :: (tX, instObj 321 tD) :: (tD, hdD w tT tL) :: (lt, listOf ([] : List Value).toArray 0) :: (lw, listOf ([] : List Value).toArray 0) :: (lg, listOf (List.replicate (gN F0 0) Value.none).toArray 0) :: (L + 1, oc) :: ([] ++ news)) (n := 7) rfl RR (by decide +kernel) (by decide +kernel) rfl rfl FR (fun p hp => NR p (by simp only [List.mem_cons, List.nil_append, gN, List.replicate_zero] at hp ⊢; rcases hp with h | h | h | h | h | h | h | h <;> simp [h])) (by (try dsimp only); (with_reducible exact o_pos (by assumption)))
    (fun i m nx tk => (∃ ut up uf tt, m = up_ "turn" ut (up_ "pieces" up (up_ "first" uf (up_ "text" (some (.str (tx (fT (hdS sg) (qN F0 i).F)) tt)) (quBase lt lw lg (tx (fT (hdS sg) F0)) td))))) ∧
      ∃ (vs : List Value) (k : Nat) (R : Led) (tvs wvs : List Value) (kt kw kg : Nat), nx = (tL, listOf vs.toArray k) :: (tX, instObj 321 tD) :: (tD, hdD w tT tL) :: (lt, listOf tvs.toArray kt) :: (lw, listOf wvs.toArray kw) :: (lg, listOf (List.replicate (gN F0 i) Value.none).toArray kg) :: (L + 1, oc) :: (R ++ news) ∧ Tups R vs ((qN F0 i).Q.map (tabR (hdS sg))) ∧ RTok R tk ∧ (∀ p ∈ R, @LT.lt Nat _ lg p.1) ∧ LetAre tk tvs (qN F0 i).taken ∧ NatsAre wvs (qN F0 i).waits)
    ⟨⟨none, none, none, td, qu_start ..⟩, [], 0, [], [], [], 0, 0, 0, rfl, .nil, (fun _ _ _ _ _ _ hm => nomatch hm), (fun _ hm => nomatch hm), .nil, .nil⟩ (fun _ _ => False) (fun _ _ => False) ?_ ?_ (fun _ _ _ _ h => h.elim) (fun _ _ _ _ _ h => h.elim) (by rintro _ _ _ _ _ hab ⟨a, vs', k', R', tv', wv', kt', kw', kg', e, b, c, d, f, g'⟩; exact ⟨a, vs', k', R', tv', wv', kt', kw', kg', e, b, c.mono hab, d, f.mono hab, g'⟩)
  rotate_left 1
  · clear FR NR
    rintro m₁ nx9 h tk HJ9
    (apply hide2 (a := m₁) (b := nx9); intro PP hPP)
    obtain ⟨⟨ut, upp, uf, tt, rfl⟩, vs, k, R, tvs, wvs, kt, kw, kg, rfl, hTu, hRt, hRl, hLe, hNa⟩ := HJ9
    refine hPP _ _ ?_
    clear hPP
    rintro htk F4 N4
    rw [hQ7] at hTu
    cases hTu
    (try dsimp only)
    k_steps
    unfold Marked
    rename Fr _ _ _ _ => F5
    rename News _ _ _ _ => N5
    refine does_call (does_items tL tX tD tT k ((lt, listOf tvs.toArray kt) :: (lw, listOf wvs.toArray kw) :: (lg, listOf (List.replicate (gN F0 7) Value.none).toArray kg) :: (L + 1, oc) :: (R ++ news))) B F5 X N5 T rfl ?_ ?_ ?_ ?_
    · (try dsimp only); (with_reducible assumption)
    · (try dsimp only); (with_reducible exact o_room (by assumption) (by decide))
    · (try dsimp only); (with_reducible exact o_room (by assumption) (by decide))
    intro v' h₁ tk₁ n' hp'
    (apply hide2 (a := v') (b := n'); intro PP hPP)
    obtain ⟨li, ki, rfl, rfl⟩ := hp'
    refine hPP _ _ ?_
    clear hPP
    intro ht₁ F6 N6
    clear F5 N5
    (try dsimp only at ht₁)
    (try dsimp only)
    k_steps
    rename Fr _ _ _ _ => F7
    rename News _ _ _ _ => N7
    exact hP0 _ _ <| body_ret F7 (news_sub N7 (by (repeat refine List.forall_mem_cons.mpr ⟨by k_mem, ?_⟩); intro p hp; (repeat apply List.mem_cons_of_mem); exact List.mem_append_right _ hp)) ⟨_, lt, lw, lg, li, _, kt, kw, kg, ki, tvs, wvs, rfl, rfl, hLe.mono (by (with_reducible assumption)), hNa⟩
  clear FR NR
  rintro i t m₁ nx9 h tk I io hi HJ9
  (apply hide2 (a := m₁) (b := nx9); intro PP hPP)
  obtain ⟨⟨ut, upp, uf, tt, rfl⟩, vs, k, R, tvs, wvs, kt, kw, kg, rfl, hTu, hRt, hRl, hLe, hNa⟩ := HJ9
  refine hPP _ _ ?_
  clear hPP
  rintro hoff htk F4 N4
  refine hide_post fun Post1 hP1 => ?_
  rw [show (0 + (i : Int) * 1) = (i : Int) from o_01 _] at F4
  have hi7 : i < 7 := hi
  obtain ⟨hTab, ⟨g0, gr, hgr⟩, hA7, hAf, hF7, hFf⟩ := turn_facts hok hi7
  have hx1 : (tx (fT (hdS sg) (qN F0 i).F)).length ≤ 100000 := by
    have h1 : (fT (hdS sg) (qN F0 i).F).length ≤ 56 * (qN F0 i).F.length := fT_len fun e he => (hFf e he).2
    show (fT (hdS sg) (qN F0 i).F).length ≤ 100000
    omega
  have hg7 : (grp (qN F0 i).F).length ≤ 7 := by
    rw [List.length_append] at hA7
    omega
  have hsplit : Txt.split (tx (fT (hdS sg) (qN F0 i).F)) ⟨#[60]⟩ = tx (fT (hdS sg) ((qN F0 i).F.takeWhile fun e => e.2 != 0)) :: (grp (qN F0 i).F).map (fun g => tx (pieceL (hdS sg) g)) := split_forest (hdS sg) (sg_ne hsg) (qN F0 i).F
  generalize hG : grp (qN F0 i).F = G at hTab hgr hA7 hAf hg7 hsplit
  simp only [List.cons_append, List.append_assoc] at N4
  have hZ : ∀ p ∈ news ++ [(I, io)], p.1 ≠ tL ∧ p.1 ≠ lt ∧ p.1 ≠ lw ∧ p.1 ≠ lg := by
    intro p hp
    rcases List.mem_append.mp hp with hp | hp
    · have h0 : @LT.lt Nat _ p.1 L := q4 p hp
      have h1 : @LT.lt Nat _ p.1 tL := by (with_reducible ((iterate 7 (try (first | assumption | exact Nat.lt_succ_self _ | refine Nat.lt_succ_of_lt ?_ | refine Nat.lt_trans (by assumption) ?_ | refine o_l1 (by assumption) ?_ | refine o_l2 (by assumption) ?_ | refine o_l3 (by assumption) ?_ | exact o_m1 (by assumption) | exact o_m2 (by assumption) | exact o_m3 (by assumption)))); done))
      have h2 : @LT.lt Nat _ p.1 lg := by (with_reducible ((iterate 7 (try (first | assumption | exact Nat.lt_succ_self _ | refine Nat.lt_succ_of_lt ?_ | refine Nat.lt_trans (by assumption) ?_ | refine o_l1 (by assumption) ?_ | refine o_l2 (by assumption) ?_ | refine o_l3 (by assumption) ?_ | exact o_m1 (by assumption) | exact o_m2 (by assumption) | exact o_m3 (by assumption)))); done))
      exact ⟨Nat.ne_of_lt h1, Nat.ne_of_lt (Nat.lt_trans h1 c4), Nat.ne_of_lt (Nat.lt_trans h1 (Nat.lt_trans c4 c5)), Nat.ne_of_lt h2⟩
    · cases List.mem_singleton.mp hp
      exact ⟨Ne.symm (hoff (tL, _) (List.mem_cons_self ..)), Ne.symm (hoff (lt, _) (by k_mem)), Ne.symm (hoff (lw, _) (by k_mem)), Ne.symm (hoff (lg, _) (by k_mem))⟩
  have hZI : (I, io) ∈ news ++ [(I, io)] := List.mem_append_right _ (List.mem_singleton.mpr rfl)
  have hRf : RFar lg I R := fun p hp => ⟨hRl p hp, hoff p (by (repeat apply List.mem_cons_of_mem); exact List.mem_append_left _ hp)⟩
  replace hRl := hRf
  clear hRf
  generalize hZe : news ++ [(I, io)] = Z at N4 hZ hZI
  have hq : QO tL tX tD lt lw lg (L + 1) Z := ⟨hl6, hl3, hl5, c4, c5, c6, hZ⟩
  let eX : Addr × Obj := (tX, instObj 321 tD)
  let eD : Addr × Obj := (tD, hdD w tT tL)
  let eT : Addr × Obj := (lt, listOf tvs.toArray kt)
  let eW : Addr × Obj := (lw, listOf wvs.toArray kw)
  let eC : Addr × Obj := (L + 1, oc)
  let eG : Addr × Obj := (lg, listOf (List.replicate (gN F0 i) Value.none).toArray kg)
  replace N4 : News g L h ((tL, listOf vs.toArray k) :: eX :: eD :: eT :: eW :: eG :: eC :: (R ++ Z)) := N4
  k_steps
  unfold Marked
  ((refine split_led (c := 60) (by assumption) (by assumption) lit_lt (by first | assumption | omega) ?_; intro DP pvs hP kP hkP hpv FP NP lP; (try dsimp only at hkP); rw [hsplit] at hpv; obtain ⟨pv0, pvr, hpE, hpr⟩ := strs_cons hpv; subst hpE; (have hzp : (pv0 :: pvr).toArray.size ≤ sizeLine := by (rw [List.size_toArray, List.length_cons, strs_len hpr, List.length_map]; unfold sizeLine; (with_reducible exact o_lea (by assumption) (by decide)))); (have hzq : (kms_pick (pv0 :: pvr).toArray.toList (some 1) none).toArray.size ≤ sizeLine := by (rw [show kms_pick (pv0 :: pvr).toArray.toList (some 1) none = pvr from pick_one, List.size_toArray, strs_len hpr, List.length_map]; unfold sizeLine; (with_reducible exact o_le (by assumption) (by decide)))); (try dsimp only)))
  k_steps
  rename Fr _ _ _ _ => F5
  rename News _ _ _ _ => N5
  rename_i Dp h₃ F₃ N₃ l₃ h₄ F₄ N₄ Dr h₅ l₅
  clear F₃ N₃ F₄ N₄ FP NP
  rw [show kms_pick (pv0 :: pvr).toArray.toList (some 1) none = pvr from pick_one] at N5
  have d1 : @LT.lt Nat _ lg Dp := l₃.2.2.2.2.2.2.1
  have d2 : @LT.lt Nat _ Dp Dr := l₅.1
  clear l₃ l₅ lP hpv hzp hzq
  have hsz : pvr.length = G.length := by rw [strs_len hpr, List.length_map]
  let eR : Addr × Obj := (Dr, listOf pvr.reverse.toArray 0)
  let eP : Addr × Obj := (Dp, listOf pvr.toArray 0)
  have hk3 : @Ne Nat tL tX ∧ @Ne Nat tL tD ∧ @Ne Nat tX tD := ⟨Nat.ne_of_gt hl5, Nat.ne_of_gt (Nat.lt_trans hl3 hl5), Nat.ne_of_gt hl3⟩
  have hLg : @LT.lt Nat _ tL lg := Nat.lt_trans c4 (Nat.lt_trans c5 c6)
  have dp1 : Dp ≠ tL := Nat.ne_of_gt (Nat.lt_trans hLg d1)
  have dr1 : Dr ≠ tL := Nat.ne_of_gt (Nat.lt_trans hLg (Nat.lt_trans d1 d2))
  have dpg : Dp ≠ lg := Nat.ne_of_gt d1
  refine comp_list (vs := pvr.reverse) (l := Dr) (lo := listOf pvr.reverse.toArray 0) (F := F5) (N := (news_sub N5 (pm3 [0, 1]) : News g L h₅ (eR :: eP :: (tL, listOf vs.toArray k) :: eX :: eD :: eT :: eW :: eG :: eC :: (R ++ Z))))
    rfl (by decide) rfl rfl (List.Mem.head _) ⟨rfl, _, rfl⟩ (by rw [List.length_reverse, hsz]; unfold sizeLine; (with_reducible exact o_le (by assumption) (by decide))) (by (try dsimp only); (with_reducible exact Nat.le_add_left 1 _))
    (fun n ys nx tk => ys = List.replicate n Value.none ∧ ∃ vs k R, nx = eR :: eP :: (tL, listOf vs.toArray k) :: eX :: eD :: eT :: eW :: eG :: eC :: (R ++ Z) ∧ Tups R vs (tab1 (hdS sg) (qN F0 i).Q G n) ∧ RTok R tk ∧ RFar lg I R ∧ @LE.le Nat _ kP tk)
    ⟨rfl, vs, k, R, rfl, (by unfold tab1; simpa using hTu), hRt.mono (by (try dsimp only); (with_reducible ((iterate 7 (try (first | assumption | exact Nat.le_refl _ | refine Nat.le_trans (by assumption) ?_ | refine o_s1 (by assumption) ?_ | refine o_s2 (by assumption) ?_ | refine o_s3 (by assumption) ?_ | refine o_s4 (by assumption) ?_ | refine Nat.le_succ_of_le ?_))); done))), hRl, (by (try dsimp only); (with_reducible ((iterate 7 (try (first | assumption | exact Nat.le_refl _ | refine Nat.le_trans (by assumption) ?_ | refine o_s1 (by assumption) ?_ | refine o_s2 (by assumption) ?_ | refine o_s3 (by assumption) ?_ | refine o_s4 (by assumption) ?_ | refine Nat.le_succ_of_le ?_))); done)))⟩ ?_ (.expr ?_) (by rintro _ _ _ _ _ hab ⟨a, vs', k', R', e, b, c, d, f⟩; exact ⟨a, vs', k', R', e, b, c.mono hab, d, Nat.le_trans f hab⟩)
  · clear F5 N5 hTu hRt hRl hLe hNa
    rintro n v ys nx tk₁ hv hl' HJ9
    (apply hide2 (a := ys) (b := nx); intro PP hPP)
    obtain ⟨rfl, vs, k, R, rfl, hTu, hRt, hRl, hkt⟩ := HJ9
    refine hPP _ _ ?_
    clear hPP
    rintro I₁ oI₁ C₁ oC₁ D₁ m₂ h₂ hoC hkv htk₁ F6 N6 hoff₁ ⟨i1, i2, i3⟩
    obtain ⟨z, tp, rfl, hz⟩ := strs_get (strs_rev hpr) n v hv
    rw [← List.map_reverse, List.getElem?_map] at hz
    obtain ⟨g1, hg1, hz⟩ := Option.map_eq_some_iff.mp hz
    subst hz
    refine wpAny_tests_nil ?_
    simp only [if_true]
    obtain ⟨hn7, hg1'⟩ := rev_get hg1
    have hg17 := hTab.ltG hg1'
    obtain ⟨o1, o2, o3⟩ := hoff₁ (tL, _) (by k_mem)
    have hvl : vs.length ≤ 1000 := Nat.le_trans (Nat.le_of_eq hTu.len) (Nat.le_trans (tab1_len (hdS sg) (Q := (qN F0 i).Q) (G := G) n) (Nat.le_trans hA7 (by decide)))
    k_steps
    unfold Marked
    rename Fr _ _ _ _ => F7
    rename News _ _ _ _ => N7
    refine does_call (does_setitem tL tX tD tT vs k ((I₁, oI₁) :: (C₁, oC₁) :: (D₁, lst (List.replicate n Value.none)) :: eR :: eP :: eT :: eW :: eG :: eC :: (R ++ Z)) R (inR [_, _, _, _, _, _, _, _, _]) (tab1 (hdS sg) (qN F0 i).Q G n) (lowS g1.1) _ Str.empty _ (nm_low hg17) (nm_plain (nm_low hg17)) (one_short _) empty_plain empty_short (tab1_nm _ hTab n) hTu
      hk3.1 hk3.2.1 hk3.2.2 (off_cons (Ne.symm o1) (off_cons (Ne.symm o2) (off_cons (Ne.symm o3) (off_cons dr1 (off_cons dp1 (hq.offL hRl)))))) hvl) B F7 X (news_sub N7 (pm8 [5, 6, 7, 0, 1, 2, 3, 4])) T rfl ?_ ?_ ?_ ?_
    · (try dsimp only); (with_reducible exact Nat.le_add_left 1 _)
    · (try dsimp only); (with_reducible exact o_room (by assumption) (by decide))
    · (try dsimp only); (with_reducible exact o_room (by assumption) (by decide))
    · intro v' h' tk' n' hp'
      (apply hide2 (a := v') (b := n'); intro PP hPP)
      obtain ⟨rfl, vs', k', q', rfl, hTu', a1, a2, a3, a4⟩ := hp'
      refine hPP _ _ ?_
      clear hPP
      intro ht' F8 N8
      rw [tab1_step (hdS sg) hTab hg1] at hTu'
      (try dsimp only at ht')
      have hgq : @LT.lt Nat _ lg q' := a4 (lg, _) (by k_mem)
      refine cend (eR :: eP :: (tL, listOf vs'.toArray k') :: eX :: eD :: eT :: eW :: eG :: eC :: (((q', tup (lowS g1.1) Str.empty _ _ 0) :: R) ++ Z)) F8 (news_sub N8 (pm13 [4, 5, 6, 7, 8, 0, 2, 3, 9, 10, 11, 12, 1])) ?_ (List.Mem.head _) ⟨(List.replicate_succ' ..).symm, vs', k', _, rfl, hTu', (hRt.mono (b := tk' + 1) (by (with_reducible ((iterate 7 (try (first | assumption | exact Nat.le_refl _ | refine Nat.le_trans (by assumption) ?_ | refine o_s1 (by assumption) ?_ | refine o_s2 (by assumption) ?_ | refine o_s3 (by assumption) ?_ | refine o_s4 (by assumption) ?_ | refine Nat.le_succ_of_le ?_))); done)))).cons (by show @LE.le Nat _ 1 (tk₁ + 1); (with_reducible exact Nat.le_add_left 1 _)) (by show @LT.lt Nat _ (tk₁ + 1) (tk' + 1); (with_reducible (refine o_lts ?_; ((iterate 7 (try (first | assumption | exact Nat.le_refl _ | refine Nat.le_trans (by assumption) ?_ | refine o_s1 (by assumption) ?_ | refine o_s2 (by assumption) ?_ | refine o_s3 (by assumption) ?_ | refine o_s4 (by assumption) ?_ | refine Nat.le_succ_of_le ?_))); done)))), List.forall_mem_cons.mpr ⟨⟨hgq, Ne.symm (Nat.ne_of_lt (a4 (I, io) (inZ [_, _, _, _, _, _, _, _, _] hZI)))⟩, hRl⟩, (by (with_reducible ((iterate 7 (try (first | assumption | exact Nat.le_refl _ | refine Nat.le_trans (by assumption) ?_ | refine o_s1 (by assumption) ?_ | refine o_s2 (by assumption) ?_ | refine o_s3 (by assumption) ?_ | refine o_s4 (by assumption) ?_ | refine Nat.le_succ_of_le ?_))); done)))⟩
      obtain ⟨b1, b2, b3⟩ : q' ≠ I₁ ∧ q' ≠ C₁ ∧ q' ≠ D₁ := ⟨Ne.symm (Nat.ne_of_lt (a4 (I₁, _) (by k_mem))), Ne.symm (Nat.ne_of_lt (a4 (C₁, _) (by k_mem))), Ne.symm (Nat.ne_of_lt (a4 (D₁, _) (by k_mem)))⟩
      exact off_mid (P := fun a => a ≠ I₁ ∧ a ≠ C₁ ∧ a ≠ D₁) [_, _, _, _, _, _, _, _, _] (pre' := [_, _, _, _, _, _, _, _, _]) hoff₁ rfl ⟨b1, b2, b3⟩
  · clear F5 N5 hTu hRt hRl
    rintro D₁ h₆ tk₁ ys nx9 F6 N6 hoffD htk₁ HJ9
    revert F6 N6 hoffD
    (apply hide2 (a := ys) (b := nx9); intro PP hPP)
    obtain ⟨-, rfl, vs, k, R, rfl, hTu, hRt, hRl, hkt⟩ := HJ9
    refine hPP _ _ ?_
    clear hPP
    intro F6 N6 hoffD
    rw [List.length_reverse, hsz] at N6
    rw [List.length_reverse, hsz, tab_mid] at hTu
    (try dsimp only)
    k_steps
    unfold Marked
    rename Fr _ _ _ _ => F7
    rename News _ _ _ _ => N7
    have hDg := hoffD (lg, _) (by k_mem)
    have hgn := Nat.le_trans (gN_le hok i (Nat.le_of_lt hi7)) (Nat.mul_le_mul_left 16 (Nat.le_of_lt_succ hi7))
    have hgn1 := Nat.add_le_add hgn hg7
    have hgn2 := Nat.add_le_add hgn1 hg7
    have hgn3 := Nat.succ_le_succ hgn2
    refine ext_led F7 (news_sub N7 (pm10 [8, 0, 2, 3, 4, 5, 6, 7, 9])) (off_cons (Ne.symm hDg) (off_cons dpg (hq.offG hRl))) (List.Mem.head _) (by rw [List.length_replicate]; omega) (by rw [List.length_replicate]; (with_reducible exact o_le (by assumption) (by decide))) fun h₇ n₇ F8 N8 => ?_
    rw [List.replicate_append_replicate] at N8
    clear F7 N7
    let eG2 : Addr × Obj := (lg, listOf (List.replicate (gN F0 i + G.length) Value.none).toArray n₇)
    replace N8 : News g L h₇ (eP :: (tL, listOf vs.toArray k) :: eX :: eD :: eT :: eW :: eG2 :: eC :: (R ++ Z)) := news_sub N8 (pm9 [2, 3, 4, 5, 6, 7, 0, 8])
    (try dsimp only)
    k_steps
    rename Fr _ _ _ _ => F9
    rename News _ _ _ _ => N9
    refine comp_list (vs := pvr) (l := Dp) (lo := listOf pvr.toArray 0) (F := F9) (N := N9)
      rfl (by decide) rfl rfl (List.Mem.head _) ⟨rfl, _, rfl⟩ (by rw [hsz]; unfold sizeLine; (with_reducible exact o_le (by assumption) (by decide))) (by (try dsimp only); (with_reducible assumption))
      (fun n ys nx tk => ys = List.replicate n Value.none ∧ ∃ vs k R, nx = eP :: (tL, listOf vs.toArray k) :: eX :: eD :: eT :: eW :: eG2 :: eC :: (R ++ Z) ∧ Tups R vs (tab2 (hdS sg) (qN F0 i).Q G n) ∧ RTok R tk ∧ RFar lg I R ∧ @LE.le Nat _ kP tk)
      ⟨rfl, vs, k, R, rfl, hTu, hRt.mono (by (try dsimp only); (with_reducible ((iterate 7 (try (first | assumption | exact Nat.le_refl _ | refine Nat.le_trans (by assumption) ?_ | refine o_s1 (by assumption) ?_ | refine o_s2 (by assumption) ?_ | refine o_s3 (by assumption) ?_ | refine o_s4 (by assumption) ?_ | refine Nat.le_succ_of_le ?_))); done))), hRl, (by (try dsimp only); (with_reducible assumption))⟩ ?_ (.expr ?_) (by rintro _ _ _ _ _ hab ⟨a, vs', k', R', e, b, c, d, f⟩; exact ⟨a, vs', k', R', e, b, c.mono hab, d, Nat.le_trans f hab⟩)
    · clear F9 N9 hTu hRt hRl hLe hNa hoffD
      rintro n v ys nx tk₂ hv hl' HJ9
      (apply hide2 (a := ys) (b := nx); intro PP hPP)
      obtain ⟨rfl, vs, k, R, rfl, hTu, hRt, hRl, hkt⟩ := HJ9
      refine hPP _ _ ?_
      clear hPP
      rintro I₁ oI₁ C₁ oC₁ D₂ m₂ h₂ hoC hkv htk₂ F6 N6 hoff₁ ⟨i1, i2, i3⟩
      obtain ⟨z, tp, rfl, hz⟩ := strs_get hpr n v hv
      rw [List.getElem?_map] at hz
      obtain ⟨g1, hg1, hz⟩ := Option.map_eq_some_iff.mp hz
      subst hz
      refine wpAny_tests_nil ?_
      simp only [if_true]
      have hg17 := hTab.ltG hg1
      obtain ⟨hgl, hge⟩ := hAf g1 (List.mem_append_right _ (List.mem_of_getElem? hg1))
      have hfl : (fT (hdS sg) g1.2).length ≤ 392 := Nat.le_trans (fT_len fun e he => (hge e he).2) (Nat.mul_le_mul_left 56 hgl)
      have hel : (escL 7 (fT (hdS sg) g1.2)).length ≤ 2352 := Nat.le_trans (escL_len 7 (Nat.le_refl _) _) (Nat.mul_le_mul_left 6 hfl)
      have hpl : (tx (pieceL (hdS sg) g1)).length ≤ 1000000 := by
        rw [piece_eq]
        show ([97 + g1.1, sg g1.1, 10] ++ escL 7 (fT (hdS sg) g1.2)).length ≤ 1000000
        rw [List.length_append]
        show 3 + _ ≤ _
        omega
      obtain ⟨o1, o2, o3⟩ := hoff₁ (tL, _) (by k_mem)
      have hvl : vs.length ≤ 1000 := Nat.le_trans (Nat.le_of_eq hTu.len) (Nat.le_trans (tab2_len (hdS sg) (Q := (qN F0 i).Q) (G := G) n) (Nat.le_trans hA7 (by decide)))
      k_steps
      unfold Marked
      (((with_reducible show wpAny _ _ (subscriptTail _ (PySem.Expr.Slice (some _) none none _) _ _) _ _ _); (with_reducible rename Fr _ _ _ _ => FS); (with_reducible rename News _ _ _ _ => NS); (with_unfolding_all refine piece3 (s := ⟨_, _, _, _, _⟩) FS NS (by assumption) ?_); intro hS tS kS hkS FS2 NS2; (try dsimp only at hkS); (try dsimp only)))
      k_steps
      unfold Marked
      rename Fr _ _ _ _ => F7
      rename News _ _ _ _ => N7
      refine does_call (does_setitem tL tX tD tT vs k ((I₁, oI₁) :: (C₁, oC₁) :: (D₂, lst (List.replicate n Value.none)) :: eP :: eT :: eW :: eG2 :: eC :: (R ++ Z)) R (inR [_, _, _, _, _, _, _, _]) (tab2 (hdS sg) (qN F0 i).Q G n) (capS g1.1) _ (tx (escL 7 (fT (hdS sg) g1.2))) _ (nm_cap hg17) (nm_plain (nm_cap hg17)) (one_short _) (esc_plain (fT_ok hsg fun e he => (hge e he).1)) (Nat.le_trans hel (by decide)) (tab2_nm _ hTab n) hTu
        hk3.1 hk3.2.1 hk3.2.2 (off_cons (Ne.symm o1) (off_cons (Ne.symm o2) (off_cons (Ne.symm o3) (off_cons dp1 (hq.offL hRl))))) hvl) B F7 X (news_sub N7 (pm7 [4, 5, 6, 0, 1, 2, 3])) T rfl ?_ ?_ ?_ ?_
      · (try dsimp only); (with_reducible exact o_pos (by assumption))
      · (try dsimp only); (with_reducible exact o_room (by assumption) (by decide))
      · (try dsimp only); (with_reducible exact o_room (by assumption) (by decide))
      · intro v' h' tk' n' hp'
        (apply hide2 (a := v') (b := n'); intro PP hPP)
        obtain ⟨rfl, vs', k', q', rfl, hTu', a1, a2, a3, a4⟩ := hp'
        refine hPP _ _ ?_
        clear hPP
        intro ht' F8 N8
        have hstep := tab2_step (hdS sg) hTab hg1
        unfold tabR at hstep
        rw [hstep] at hTu'
        (try dsimp only at ht')
        have hgq : @LT.lt Nat _ lg q' := a4 (lg, _) (by k_mem)
        refine cend (eP :: (tL, listOf vs'.toArray k') :: eX :: eD :: eT :: eW :: eG2 :: eC :: (((q', tup (capS g1.1) (tx (escL 7 (fT (hdS sg) g1.2))) _ _ 0) :: R) ++ Z)) F8 (news_sub N8 (pm12 [4, 5, 6, 7, 0, 2, 3, 8, 9, 10, 11, 1])) ?_ (List.Mem.head _) ⟨(List.replicate_succ' ..).symm, vs', k', _, rfl, hTu', (hRt.mono (b := tk' + 1) (by (with_reducible ((iterate 7 (try (first | assumption | exact Nat.le_refl _ | refine Nat.le_trans (by assumption) ?_ | refine o_s1 (by assumption) ?_ | refine o_s2 (by assumption) ?_ | refine o_s3 (by assumption) ?_ | refine o_s4 (by assumption) ?_ | refine Nat.le_succ_of_le ?_))); done)))).cons (by show @LE.le Nat _ 1 (tk₂ + 1 + 1); (with_reducible exact Nat.le_add_left 1 _)) (by show @LT.lt Nat _ (tk₂ + 1 + 1) (tk' + 1); (with_reducible (refine o_lts ?_; ((iterate 7 (try (first | assumption | exact Nat.le_refl _ | refine Nat.le_trans (by assumption) ?_ | refine o_s1 (by assumption) ?_ | refine o_s2 (by assumption) ?_ | refine o_s3 (by assumption) ?_ | refine o_s4 (by assumption) ?_ | refine Nat.le_succ_of_le ?_))); done)))), List.forall_mem_cons.mpr ⟨⟨hgq, Ne.symm (Nat.ne_of_lt (a4 (I, io) (inZ [_, _, _, _, _, _, _, _] hZI)))⟩, hRl⟩, (by (with_reducible ((iterate 7 (try (first | assumption | exact Nat.le_refl _ | refine Nat.le_trans (by assumption) ?_ | refine o_s1 (by assumption) ?_ | refine o_s2 (by assumption) ?_ | refine o_s3 (by assumption) ?_ | refine o_s4 (by assumption) ?_ | refine Nat.le_succ_of_le ?_))); done)))⟩
        obtain ⟨b1, b2, b3⟩ : q' ≠ I₁ ∧ q' ≠ C₁ ∧ q' ≠ D₂ := ⟨Ne.symm (Nat.ne_of_lt (a4 (I₁, _) (by k_mem))), Ne.symm (Nat.ne_of_lt (a4 (C₁, _) (by k_mem))), Ne.symm (Nat.ne_of_lt (a4 (D₂, _) (by k_mem)))⟩
        exact off_mid (P := fun a => a ≠ I₁ ∧ a ≠ C₁ ∧ a ≠ D₂) [_, _, _, _, _, _, _, _] (pre' := [_, _, _, _, _, _, _, _]) hoff₁ rfl ⟨b1, b2, b3⟩
    · clear F9 N9 hTu hRt hRl hoffD hDg
      rintro D₂ h₆ tk₂ ys nx9 F6 N6 hoffD htk₂ HJ9
      revert F6 N6 hoffD
      (apply hide2 (a := ys) (b := nx9); intro PP hPP)
      obtain ⟨-, rfl, vs, k, R, rfl, hTu, hRt, hRl, hkt⟩ := HJ9
      refine hPP _ _ ?_
      clear hPP
      intro F6 N6 hoffD
      have hk9 : @LE.le Nat _ tk tk₂ := Nat.le_trans (Nat.le_of_succ_le hkP) hkt
      rw [hsz] at N6
      rw [hsz, tab_end, hgr] at hTu
      (try dsimp only)
      k_steps
      unfold Marked
      rename Fr _ _ _ _ => F7
      rename News _ _ _ _ => N7
      have hDg := hoffD (lg, _) (by k_mem)
      refine ext_led F7 (news_sub N7 (pm9 [7, 0, 2, 3, 4, 5, 6, 8])) (off_cons (Ne.symm hDg) (hq.offG hRl)) (List.Mem.head _) (by rw [List.length_replicate]; omega) (by rw [List.length_replicate]; (with_reducible exact o_le (by assumption) (by decide))) fun h₈ n₈ F8 N8 => ?_
      rw [List.replicate_append_replicate] at N8
      clear F7 N7 hDg hoffD
      let eG3 : Addr × Obj := (lg, listOf (List.replicate (gN F0 i + G.length + G.length) Value.none).toArray n₈)
      replace N8 : News g L h₈ ((tL, listOf vs.toArray k) :: eX :: eD :: eT :: eW :: eG3 :: eC :: (R ++ Z)) := news_sub N8 (pm8 [2, 3, 4, 5, 6, 0, 7])
      have hvl : vs.length ≤ 1000 := by
        have := hTu.len
        rw [this, List.length_map, ← hgr]
        (with_reducible exact o_le (by assumption) (by decide))
      (try dsimp only)
      k_steps
      unfold Marked
      rename Fr _ _ _ _ => F9
      rename News _ _ _ _ => N9
      have hg0 : g0.1 < 7 := hTab.lt g0 (by rw [hgr]; exact List.mem_cons_self ..)
      refine does_call (does_keys tL tX tD tT vs k (eT :: eW :: eG3 :: eC :: (R ++ Z)) R (inR [_, _, _, _]) _ hTu hvl) B F9 X N9 T rfl ?_ ?_ ?_ ?_
      · (try dsimp only); (with_reducible assumption)
      · (try dsimp only); (with_reducible exact o_room (by assumption) (by decide))
      · (try dsimp only); (with_reducible exact o_room (by assumption) (by decide))
      intro v' h' tk' n' hp'
      (apply hide2 (a := v') (b := n'); intro PP hPP)
      obtain ⟨rk, yk, rfl, rfl, hok', hlen, hys⟩ := hp'
      refine hPP _ _ ?_
      clear hPP
      intro ht' Fa Na
      obtain ⟨q0, t0, tb0, n0, hq0, hy0⟩ := hys 0 (tabR (hdS sg) g0) rfl
      obtain ⟨ht01, ht02⟩ := hRt _ _ _ _ _ _ hq0
      clear F9 N9 hys
      (try dsimp only at ht')
      (try dsimp only)
      k_steps
      unfold Marked
      refine item_listR (items := yk.toArray) ⟨_, (Na (rk, lst yk) (List.Mem.head _)).1, rfl, _, rfl⟩ (by decide) (by decide) (by simpa using hy0) ?_
      dsimp only [tabR]
      replace Na : News g L h' ((tL, listOf vs.toArray k) :: eX :: eD :: eT :: eW :: eG3 :: eC :: (R ++ Z)) := news_sub Na (pm2 [1])
      k_steps
      unfold Marked
      rename Fr _ _ _ _ => Fb
      rename News _ _ _ _ => Nb
      refine does_call (does_add tL tX tD tT vs k (eT :: eW :: eG3 :: eC :: (R ++ Z)) R (inR [_, _, _, _]) _ (lowS g0.1) _ _ (nm_plain (nm_low hg0)) (one_short _) hTu hk3.1 hk3.2.1 hk3.2.2 (hq.offL hRl) hvl) B Fb X Nb T rfl ?_ ?_ ?_ ?_
      · (try dsimp only); (with_reducible exact Nat.le_add_left 1 _)
      · (try dsimp only); (with_reducible exact o_room (by assumption) (by decide))
      · (try dsimp only); (with_reducible exact o_room (by assumption) (by decide))
      intro v' h₉ tk₃ n' hp'
      (apply hide2 (a := v') (b := n'); intro PP hPP)
      obtain ⟨rfl, vs1, k1, q1, te1, rfl, hTu1, a1, a2, a3, a4⟩ := hp'
      refine hPP _ _ ?_
      clear hPP
      intro ht₃ Fc Nc
      have hgq : @LT.lt Nat _ lg q1 := a4 (lg, _) (by k_mem)
      (try dsimp only at ht₃)
      replace hRt := (hRt.mono (b := tk₃ + 1) (by (with_reducible ((iterate 7 (try (first | assumption | exact Nat.le_refl _ | refine Nat.le_trans (by assumption) ?_ | refine o_s1 (by assumption) ?_ | refine o_s2 (by assumption) ?_ | refine o_s3 (by assumption) ?_ | refine o_s4 (by assumption) ?_ | refine Nat.le_succ_of_le ?_))); done)))).cons (a := lowS g0.1) (b := Str.ofString "") (tb := te1) (n := 0) (q := q1) (ta := tk' + 1 + 1 + 1) (by show @LE.le Nat _ 1 _; (with_reducible exact Nat.le_add_left 1 _)) (by show @LT.lt Nat _ _ _; (with_reducible (refine o_lts ?_; ((iterate 7 (try (first | assumption | exact Nat.le_refl _ | refine Nat.le_trans (by assumption) ?_ | refine o_s1 (by assumption) ?_ | refine o_s2 (by assumption) ?_ | refine o_s3 (by assumption) ?_ | refine o_s4 (by assumption) ?_ | refine Nat.le_succ_of_le ?_))); done))))
      replace hRl : RFar lg I ((q1, tup (lowS g0.1) (Str.ofString "") (tk' + 1 + 1 + 1) te1 0) :: R) := List.forall_mem_cons.mpr ⟨⟨hgq, Ne.symm (Nat.ne_of_lt (a4 (I, io) (inZ [_, _, _, _] hZI)))⟩, hRl⟩
      replace Nc : News g L h₉ ((tL, listOf vs1.toArray k1) :: eX :: eD :: eT :: eW :: eG3 :: eC :: (((q1, tup (lowS g0.1) (Str.ofString "") (tk' + 1 + 1 + 1) te1 0) :: R) ++ Z)) := news_sub Nc (pm8 [0, 2, 3, 4, 5, 6, 7, 1])
      generalize ((q1, tup (lowS g0.1) (Str.ofString "") (tk' + 1 + 1 + 1) te1 0) :: R) = R1 at hTu1 hRt hRl Nc
      have hRt1 := hRt
      have hTab0 : TabOK [] (g0 :: gr) := ⟨hgr ▸ hTab.nd, hgr ▸ hTab.lt⟩
      obtain ⟨hfd, hflt, hnmH⟩ := tab_out (hdS sg) hTab0
      have hvl1 : vs1.length ≤ 1000 := by
        have := hTu1.len
        rw [this, List.length_append, List.length_map, ← hgr, List.length_singleton]
        (with_reducible exact o_lea (by assumption) (by decide))
      clear Fb Nb hTu hRt a4 a1 a2 a3 hvl
      (try dsimp only)
      k_steps
      unfold Marked
      rename Fr _ _ _ _ => Fd
      rename News _ _ _ _ => Nd
      refine app_led Fd (news_sub Nd (pm7 [5, 0, 1, 2, 3, 4, 6])) (hq.offG hRl) (by rw [List.length_replicate]; omega) fun h₁₀ Fe Ne => ?_
      clear Fd Nd
      rw [← List.replicate_succ'] at Ne
      let eG4 : Addr × Obj := (lg, listOf (List.replicate (gN F0 i + G.length + G.length + 1) Value.none).toArray (n₈ + 1))
      replace Ne : News g L h₁₀ ((tL, listOf vs1.toArray k1) :: eX :: eD :: eT :: eW :: eG4 :: eC :: (R1 ++ Z)) := news_sub Ne (pm7 [1, 2, 3, 4, 5, 0, 6])
      (try dsimp only)
      k_steps
      unfold Marked
      rename Fr _ _ _ _ => Fd
      rename News _ _ _ _ => Nd
      refine does_call (does_opget tL tX tD tT vs1 k1 (eT :: eW :: eG4 :: eC :: (R1 ++ Z)) _ (lowS g0.1) _ _ (nm_low hg0) hnmH (hTu1.sub (inR [_, _, _, _])) hfd hvl1) B Fd X Nd T rfl ?_ ?_ ?_ ?_
      · (try dsimp only); (with_reducible exact Nat.le_add_left 1 _)
      · (try dsimp only); (with_reducible exact o_room (by assumption) (by decide))
      · (try dsimp only); (with_reducible exact o_room (by assumption) (by decide))
      intro v' h₁₁ tk₄ n' hp'
      (apply hide2 (a := v') (b := n'); intro PP hPP)
      obtain ⟨rfl, tv4, rfl⟩ := hp'
      refine hPP _ _ ?_
      clear hPP
      intro ht₄ Fe Ne
      clear Fd Nd
      (try dsimp only at ht₄)
      (try dsimp only)
      k_steps
      unfold Marked
      have hg0f := hAf g0 (by rw [hgr]; exact List.mem_cons_self ..)
      have hfl : (fT (hdS sg) g0.2).length ≤ 392 := Nat.le_trans (fT_len fun e he => (hg0f.2 e he).2) (Nat.mul_le_mul_left 56 hg0f.1)
      have hel : (escL 7 (fT (hdS sg) g0.2)).length ≤ 2352 := Nat.le_trans (escL_len 7 (Nat.le_refl _) _) (Nat.mul_le_mul_left 6 hfl)
      rename Fr _ _ _ _ => Fd
      rename News _ _ _ _ => Nd
      refine does_call (does_read (fT (hdS sg) g0.2) _ ((tL, listOf vs1.toArray k1) :: eX :: eD :: eT :: eW :: eG4 :: eC :: (R1 ++ Z)) (Nat.le_trans hel (by decide)) (by (with_reducible exact o_le (by assumption) (by decide)))) B Fd X Nd T rfl ?_ ?_ ?_ ?_
      · (try dsimp only); (with_reducible exact Nat.le_add_left 1 _)
      · (try dsimp only); (with_reducible exact o_room (by assumption) (by decide))
      · (try dsimp only); (with_reducible exact o_room (by assumption) (by decide))
      intro v' h₁₂ tk₅ n' hp'
      (apply hide2 (a := v') (b := n'); intro PP hPP)
      obtain ⟨rfl, tr, rfl⟩ := hp'
      refine hPP _ _ ?_
      clear hPP
      intro ht₅ Fe Ne
      clear Fd Nd
      (try dsimp only at ht₅)
      (try dsimp only)
      k_steps
      unfold Marked
      rename Fr _ _ _ _ => Fd
      rename News _ _ _ _ => Nd
      refine does_call (does_delitem tL tX tD tT vs1 k1 (eT :: eW :: eG4 :: eC :: (R1 ++ Z)) R1 (inR [_, _, _, _]) _ (lowS g0.1) _ (nm_low hg0) hnmH hTu1 hk3.1 hk3.2.1 hk3.2.2 (hq.offL hRl) hvl1) B Fd X Nd T rfl ?_ ?_ ?_ ?_
      · (try dsimp only); (with_reducible exact Nat.le_add_left 1 _)
      · (try dsimp only); (with_reducible exact o_room (by assumption) (by decide))
      · (try dsimp only); (with_reducible exact o_room (by assumption) (by decide))
      intro v' h₁₃ tk₆ n' hp'
      (apply hide2 (a := v') (b := n'); intro PP hPP)
      obtain ⟨rfl, vs2, k2, rfl, hTu2⟩ := hp'
      refine hPP _ _ ?_
      clear hPP
      intro ht₆ Fe Ne
      rw [hflt] at hTu2
      clear Fd Nd
      (try dsimp only at ht₆)
      have hvl2 : vs2.length = gr.length := by
        rw [hTu2.len, List.length_map]
      have hvl3 : vs2.length ≤ 1000 := by
        rw [hvl2]
        have : (g0 :: gr).length ≤ 7 := hgr ▸ hA7
        rw [List.length_cons] at this
        omega
      have hLl : tvs.length ≤ 1000 ∧ wvs.length ≤ 1000 := by
        rw [hLe.len, hNa.len, qN_tlen hok i (by (with_reducible exact o_lel (by assumption) (by decide))), qN_wlen hok i (by (with_reducible exact o_lel (by assumption) (by decide)))]
        omega
      (try dsimp only)
      k_steps
      unfold Marked
      rename Fr _ _ _ _ => Fd
      rename News _ _ _ _ => Nd
      refine app_led Fd (news_sub Nd (pm7 [5, 0, 1, 2, 3, 4, 6])) (hq.offG hRl) (by rw [List.length_replicate]; omega) fun h₁₄ Fe Ne => ?_
      clear Fd Nd
      rw [← List.replicate_succ'] at Ne
      let eG5 : Addr × Obj := (lg, listOf (List.replicate (gN F0 i + G.length + G.length + 1 + 1) Value.none).toArray (n₈ + 1 + 1))
      replace Ne : News g L h₁₄ ((tL, listOf vs2.toArray k2) :: eX :: eD :: eT :: eW :: eG5 :: eC :: (R1 ++ Z)) := news_sub Ne (pm7 [1, 2, 3, 4, 5, 0, 6])
      (try dsimp only)
      k_steps
      unfold Marked
      rename Fr _ _ _ _ => Fd
      rename News _ _ _ _ => Nd
      refine app_led Fd (news_sub Nd (pm4 [3, 0, 1, 2])) (hq.offT hRl) hLl.1 fun h₁₅ Fe Ne => ?_
      clear Fd Nd
      let eT2 : Addr × Obj := (lt, listOf (tvs ++ [Value.str (capS g0.1) t0]).toArray (kt + 1))
      replace Ne : News g L h₁₅ ((tL, listOf vs2.toArray k2) :: eX :: eD :: eT2 :: eW :: eG5 :: eC :: (R1 ++ Z)) := news_sub Ne (pm4 [1, 2, 3, 0])
      (try dsimp only)
      k_steps
      unfold Marked
      rename Fr _ _ _ _ => Fd
      rename News _ _ _ _ => Nd
      refine does_call (does_hint tL tX tD tT vs2 k2 (eT2 :: eW :: eG5 :: eC :: (R1 ++ Z)) hvl3) B Fd X Nd T rfl ?_ ?_ ?_ ?_
      · (try dsimp only); (with_reducible exact Nat.le_add_left 1 _)
      · (try dsimp only); (with_reducible exact o_room (by assumption) (by decide))
      · (try dsimp only); (with_reducible exact o_room (by assumption) (by decide))
      intro v' h₁₆ tk₇ n' hp'
      (apply hide2 (a := v') (b := n'); intro PP hPP)
      obtain ⟨rfl, t7, rfl⟩ := hp'
      refine hPP _ _ ?_
      clear hPP
      intro ht₇ Fe Ne
      clear Fd Nd
      (try dsimp only at ht₇)
      (try dsimp only)
      k_steps
      unfold Marked
      rename Fr _ _ _ _ => Fd
      rename News _ _ _ _ => Nd
      refine app_led Fd (news_sub Nd (pm5 [4, 0, 1, 2, 3])) (hq.offW hRl) hLl.2 fun h₁₇ Fe Ne => ?_
      clear Fd Nd
      replace Ne : News g L h₁₇ ((tL, listOf vs2.toArray k2) :: eX :: eD :: eT2 :: (lw, listOf (wvs ++ [Value.int (vs2.length : Int) t7]).toArray (kw + 1)) :: eG5 :: eC :: (R1 ++ Z)) := news_sub Ne (pm5 [1, 2, 3, 4, 0])
      (try dsimp only)
      k_steps
      have hq1 : qN F0 (i + 1) = { F := g0.2, Q := gr, taken := (qN F0 i).taken ++ [g0.1], waits := (qN F0 i).waits ++ [gr.length] } := qN_next (hG ▸ hgr)
      have hgn1 : gN F0 (i + 1) = gN F0 i + G.length + G.length + 1 + 1 := by
        show gN F0 i + 2 * (grp (qN F0 i).F).length + 2 = _
        rw [hG, Nat.two_mul, ← Nat.add_assoc]
      rw [hvl2] at Ne
      subst hZe
      refine hP1 _ _ <| turn_next ((tL, listOf vs2.toArray k2) :: eX :: eD :: eT2 :: (lw, listOf (wvs ++ [Value.int (gr.length : Int) t7]).toArray (kw + 1)) :: (lg, listOf (List.replicate (gN F0 (i + 1)) Value.none).toArray (n₈ + 1 + 1)) :: eC :: (R1 ++ news)) Fe (by rw [hgn1]; exact News.app3 [_, _, _, _, _, _, _] Ne) ?_
        ⟨⟨_, _, _, _, by rw [hq1]; exact qu_norm ..⟩, vs2, k2, R1, _, _, kt + 1, kw + 1, n₈ + 1 + 1, rfl, by rw [hq1]; exact hTu2, hRt1.mono (by (with_reducible ((iterate 7 (try (first | assumption | exact Nat.le_refl _ | refine Nat.le_trans (by assumption) ?_ | refine o_s1 (by assumption) ?_ | refine o_s2 (by assumption) ?_ | refine o_s3 (by assumption) ?_ | refine o_s4 (by assumption) ?_ | refine Nat.le_succ_of_le ?_))); done))), fun p hp => (hRl p hp).1, by rw [hq1]; exact (hLe.mono (by first | with_reducible ((iterate 8 (try (first | assumption | exact Nat.le_refl _ | refine Nat.le_trans (by assumption) ?_ | refine o_s1 (by assumption) ?_ | refine o_s2 (by assumption) ?_ | refine o_s3 (by assumption) ?_ | refine o_s4 (by assumption) ?_ | refine Nat.le_succ_of_le ?_))); done) | omega)).snoc ht01 (by show @LT.lt Nat _ t0 _; (with_reducible (refine Nat.lt_of_lt_of_le (by assumption) ?_; ((iterate 7 (try (first | assumption | exact Nat.le_refl _ | refine Nat.le_trans (by assumption) ?_ | refine o_s1 (by assumption) ?_ | refine o_s2 (by assumption) ?_ | refine o_s3 (by assumption) ?_ | refine o_s4 (by assumption) ?_ | refine Nat.le_succ_of_le ?_))); done)))), by rw [hq1]; exact hNa.snoc⟩
      exact off_end (P := fun a => a ≠ I) [_, _, _, _, _, _, _] (pre' := [_, _, _, _, _, _, _]) hoff rfl (fun p hp => (hRl p hp).2) (fun p hp => hp)
theorem does_queue {w : World} (sg : Nat → Nat) (hsg : ∀ k, sgOK (sg k)) (F0 : Fst) (hok : okTurns F0 = true) (hQ7 : (qN F0 7).Q = []) (td : Tok) (news : Led) :
    Does w 11 63 (.ref 389) [.str (tx (fT (hdS sg) F0)) td] news
      (fun v n' tk => ∃ (r lt lw lg li : Addr) (kr kt kw kg ki : Nat) (tvs wvs : List Value), v = .ref r ∧ n' = (r, listOf #[.ref lt, .ref lw, .ref lg, .ref li] kr) :: (lt, listOf tvs.toArray kt) :: (lw, listOf wvs.toArray kw) :: (lg, listOf (List.replicate (gN F0 7) Value.none).toArray kg) :: (li, listOf #[] ki) :: news ∧ LetAre tk tvs (qN F0 7).taken ∧ NatsAre wvs (qN F0 7).waits) := by
  refine does_fnC (binds := [("doc", .str (tx (fT (hdS sg) F0)) td)]) (by k_is) (by k_is) (fun s X => BindsTo.of_eq rfl) rfl (by decide) (fun L => ?_) (fun L => ?_) rfl rfl rfl (@b_queue w sg hsg F0 hok hQ7 td news)
  · rfl
  · rfl
end

section
open PySem PySem.W PySem.Calls PyProof.Rows
set_option Elab.async false
set_option maxRecDepth 100000
set_option maxHeartbeats 16000000
set_option linter.all false
set_option hygiene false
local macro_rules | `(tactic| walk_at $s) => if ["subscriptTail Name BinOp ref int", "subscriptTail Name Name ref int", "subscriptTail Name Constant ref int", "call builtin:list.append", "call builtin:list.extend", "call builtin:list.pop", "truthy ref", "binaryOp Add ref ref", "assign Tuple"].contains s.getString then `(tactic| refine unmark ?_) else Lean.Macro.throwUnsupported
abbrev tupV (x : Value) (d : Int) (td : Tok) (n : Nat) : Obj := { cls := .type "tuple", data := .seq #[x, .int d td] n }
inductive PrAre (R : Led) (P : Nat → Value → Prop) : List Value → List (Nat × Nat) → Prop
  | nil : PrAre R P [] []
  | cons {vs l} (q : Addr) (k d : Nat) (x : Value) (td : Tok) (n : Nat) : P k x → (q, tupV x d td n) ∈ R → PrAre R P vs l → PrAre R P (.ref q :: vs) ((k, d) :: l)
theorem PrAre.sub {R R' : Led} {P : Nat → Value → Prop} {vs : List Value} {l : List (Nat × Nat)} (h : PrAre R P vs l) (hs : ∀ p ∈ R, p ∈ R') : PrAre R' P vs l := by
  induction h with
  | nil => exact .nil
  | cons q k d x td n hp hm _ ih => exact .cons q k d x td n hp (hs _ hm) ih
theorem PrAre.app {R : Led} {P : Nat → Value → Prop} {vs ws : List Value} {l r : List (Nat × Nat)} (h : PrAre R P vs l) (h2 : PrAre R P ws r) : PrAre R P (vs ++ ws) (l ++ r) := by
  induction h with
  | nil => exact h2
  | cons q k d x td n hp hm _ ih => exact .cons q k d x td n hp hm ih
theorem PrAre.len {R : Led} {P : Nat → Value → Prop} {vs : List Value} {l : List (Nat × Nat)} (h : PrAre R P vs l) : vs.length = l.length := by
  induction h with
  | nil => rfl
  | cons _ _ _ _ _ _ _ _ _ ih => simp [ih]
theorem PrAre.last {R : Led} {P : Nat → Value → Prop} : ∀ {l : List (Nat × Nat)} {vs : List Value} {k d : Nat}, PrAre R P vs (l ++ [(k, d)]) → ∃ us q x td n, vs = us ++ [.ref q] ∧ P k x ∧ (q, tupV x d td n) ∈ R ∧ PrAre R P us l
  | [], _, k, d, h => by
    cases h with
    | cons q _ _ x td n hp hm r =>
      cases r
      exact ⟨[], q, x, td, n, rfl, hp, hm, .nil⟩
  | _ :: l, _, k, d, h => by
    cases h with
    | cons q' k' d' x' td' n' hp' hm' r =>
      obtain ⟨us, q, x, td, n, rfl, hp, hm, h⟩ := PrAre.last r
      exact ⟨.ref q' :: us, q, x, td, n, rfl, hp, hm, .cons q' k' d' x' td' n' hp' hm' h⟩
def IsI (k : Nat) (x : Value) : Prop := ∃ t, x = .int (k : Int) t
def IsC (k : Nat) (x : Value) : Prop := ∃ t, x = .str (capS k) t
theorem NatsAre.get {vs : List Value} {ks : List Nat} (h : NatsAre vs ks) : ∀ {i : Nat}, i < ks.length → ∃ t, vs[i]? = some (.int ((ks.getD i 0 : Nat) : Int) t) := by
  induction h with
  | nil => intro i hi; exact absurd hi (Nat.not_lt_zero _)
  | cons k t _ ih =>
    intro i hi
    cases i with
    | zero => exact ⟨t, rfl⟩
    | succ i => exact ih (i := i) (by simpa using hi)
theorem LetAre.get {tk : Nat} {vs : List Value} {ks : List Nat} (h : LetAre tk vs ks) : ∀ {i : Nat}, i < ks.length → ∃ t, vs[i]? = some (.str (capS (ks.getD i 0)) t) ∧ @LE.le Nat _ 1 t ∧ @LT.lt Nat _ t tk := by
  induction h with
  | nil => intro i hi; exact absurd hi (Nat.not_lt_zero _)
  | cons k t h1 h2 _ ih =>
    intro i hi
    cases i with
    | zero => exact ⟨t, rfl, h1, h2⟩
    | succ i => exact ih (i := i) (by simpa using hi)
/-- what the way back needs of the numbers that wait -/
def okBack (w : List Nat) : Bool :=
  decide (w.length = 7) && w.all (fun x => decide (x ≤ 10)) && (List.range 6).all (fun i => decide (w.getD i 0 ≤ w.getD (i + 1) 0 + 1)) &&
  (List.range 7).all fun i => match (bN w i).pile.reverse with | [] => false | (p, d) :: _ => decide (p < 7) && decide ((bN w i).pile.length ≤ 30) && decide (d ≤ 30)
theorem back_ok : allRows.all (fun ds => okBack (qN (rowsOf ds) 7).waits) = true := by decide +kernel
theorem given_ok : allRows.all (fun ds => gN (rowsOf ds) 7 == 28 && (qN (rowsOf ds) 7).Q.isEmpty) = true := by decide +kernel
theorem NatsAre.snocI {vs : List Value} {ks : List Nat} (h : NatsAre vs ks) {k : Nat} {z : Int} {t : Tok} (e : z = (k : Int)) : NatsAre (vs ++ [.int z t]) (ks ++ [k]) := by subst e; exact h.snoc
theorem NatsAre.app {vs us : List Value} {ks ls : List Nat} (h : NatsAre vs ks) (h2 : NatsAre us ls) : NatsAre (vs ++ us) (ks ++ ls) := by
  induction h with
  | nil => exact h2
  | cons k t _ ih => exact .cons k t ih
def wPre (w : List Nat) (n : Nat) : List Nat := (List.range n).map fun i => w.getD (i + 1) 0 + 1 - w.getD i 0
def bPre (w : List Nat) (n : Nat) : List Nat := (List.range n).foldl (fun b i => b ++ [b.getD i 0 + (withinF w).getD i 0]) [w.getD 0 0 + 1]
theorem wPre_succ (w : List Nat) (n : Nat) : wPre w (n + 1) = wPre w n ++ [w.getD (n + 1) 0 + 1 - w.getD n 0] := by unfold wPre; rw [List.range_succ, List.map_append]; rfl
theorem bPre_succ (w : List Nat) (n : Nat) : bPre w (n + 1) = bPre w n ++ [(bPre w n).getD n 0 + (withinF w).getD n 0] := by unfold bPre; rw [List.range_succ, List.foldl_append]; rfl
theorem bPre_len (w : List Nat) : ∀ n, (bPre w n).length = n + 1
  | 0 => rfl
  | n + 1 => by rw [bPre_succ, List.length_append, bPre_len w n]; rfl
theorem item_nat {w : World} {A : Around} {E : Value → Shared → Prop} {s : Shared} {gh : Heap} {L : Addr} {news : Led} {value slice : PySem.Expr} {l : Addr} {vs : List Value} {ks : List Nat} {k : Int} {i n : Nat} {u : Tok} {Q : Value → Shared → Prop} (N : News gh L s.heap news) (hm : (l, listOf vs.toArray n) ∈ news) (h : NatsAre vs ks) (hk : k = (i : Int)) (hi : i < ks.length) (hi2 : i < 1000)
    (hq : ∀ t, Q (.int ((ks.getD i 0 : Nat) : Int) t) s)
    (hs : subscripted slice false (.ref l) (.int k u) = operate [.ref l, .int k u] (getItem (.ref l) (.int k u)) := by with_unfolding_all rfl) :
    wpAny (model pw w) A (subscriptTail value slice (.ref l) (.int k u)) Q E s := by
  subst hk
  obtain ⟨t, ht⟩ := h.get hi
  exact item_listR (items := vs.toArray) ⟨_, (N _ hm).1, rfl, _, rfl⟩ (Int.natCast_nonneg _) (by (with_reducible exact o_63 (by assumption) (by decide))) (by rw [Int.toNat_natCast]; simpa using ht) (hq t) hs
abbrev bkBase (lt lwi : Addr) : Str → Option Value := fun y => if y = "within" then some (.ref lwi) else if y = "taken" then some (.ref lt) else none
theorem bk_start (lt lwi : Addr) : bkBase lt lwi = up "i" none (bkBase lt lwi) := by
  funext y
  by_cases h : y = "i"
  · subst h; rfl
  · simp only [up, if_neg h]
theorem within_len (w : List Nat) : (withinF w).length = 7 := by simp [withinF]
abbrev bk2 (lt lwi lp lq : Addr) (ui : Option Value) : Str → Option Value := fun y => if y = "page" then some (.ref lq) else up "pile" (some (.ref lp)) (up "i" ui (bkBase lt lwi)) y
theorem bk2_start (lt lwi lp lq : Addr) (ui : Option Value) : bk2 lt lwi lp lq ui = up "turn" none (bk2 lt lwi lp lq ui) := by
  funext y
  by_cases h : y = "turn"
  · subst h; rfl
  · simp only [up, if_neg h]
def BkFar (lb lp lq : Addr) (R : Led) : Prop := ∀ p ∈ R, @LT.lt Nat _ lb p.1 ∧ p.1 ≠ lp ∧ p.1 ≠ lq
theorem pile0 (w : List Nat) : (List.range (w.getD 0 0 + 1)).map (fun i => (w.getD 0 0 - i, 0)) = (bN w 0).pile := by
  show _ = (List.range (w.getD 0 0 + 1)).reverse.map fun i => (i, 0)
  refine List.ext_getElem (by simp) fun i h1 h2 => ?_
  simp [List.getElem_reverse]
theorem pile_top {w : List Nat} (h : ∀ x ∈ List.range 7, (match (bN w x).pile.reverse with | [] => false | (p, d) :: _ => decide (p < 7) && decide ((bN w x).pile.length ≤ 30) && decide (d ≤ 30)) = true) {i : Nat} (hi : i < 7) : ∃ pl p d, (bN w i).pile = pl ++ [(p, d)] ∧ p < 7 ∧ (bN w i).pile.length ≤ 30 ∧ d ≤ 30 := by
  have := h i (List.mem_range.mpr hi)
  cases hr : (bN w i).pile.reverse with
  | nil => rw [hr] at this; exact absurd this Bool.false_ne_true
  | cons e r =>
    obtain ⟨p, d⟩ := e
    rw [hr] at this
    simp only [Bool.and_eq_true, decide_eq_true_eq] at this
    exact ⟨r.reverse, p, d, by rw [← List.reverse_reverse (bN w i).pile, hr, List.reverse_cons], this.1.1, this.1.2, this.2⟩
theorem bN_next {w : List Nat} {i : Nat} {pl : List (Nat × Nat)} {p d : Nat} (h : (bN w i).pile = pl ++ [(p, d)]) : bN w (i + 1) = { pile := pl ++ ((List.range ((withinF w).getD p 0)).reverse.map fun j => ((behindF w).getD p 0 + j, d + 1)), page := (bN w i).page ++ [(p, d)] } := by
  show bStep w (bN w i) = _
  unfold bStep
  rw [h, List.reverse_append, List.reverse_singleton, List.singleton_append]
  simp
theorem pop_led {w : World} {A : Around} {E : Value → Shared → Prop} {s : Shared} {g : Heap} {L : Addr} {m : Str → Option Value} {l : Addr} {us : List Value} {y : Value} {n : Nat} {rest : Led} {Q : Value → Shared → Prop} (F : Fr g L s.heap m) (N : News g L s.heap ((l, listOf (us ++ [y]).toArray n) :: rest)) (hr : ∀ p ∈ rest, p.1 ≠ l) (hx : us.length ≤ 1000)
    (hQ : ∀ h', Fr g L h' m → News g L h' ((l, listOf us.toArray (n + 1)) :: rest) → Q y { s with heap := h' }) :
    wpAny (model pw w) A (call (.builtin "list.pop") [.ref l]) Q E s :=
  kl_pop F N (kpa_last y us) (.head hr) (by show (us ++ [y]).length ≤ sizeLine; rw [List.length_append]; show us.length + 1 ≤ _; unfold sizeLine; (with_reducible exact o_lea (by assumption) (by decide))) hQ
theorem item_let {w : World} {A : Around} {E : Value → Shared → Prop} {s : Shared} {gh : Heap} {L : Addr} {news : Led} {value slice : PySem.Expr} {l : Addr} {vs : List Value} {ks : List Nat} {tk0 : Nat} {k : Int} {i n : Nat} {u : Tok} {Q : Value → Shared → Prop} (N : News gh L s.heap news) (hm : (l, listOf vs.toArray n) ∈ news) (h : LetAre tk0 vs ks) (hk : k = (i : Int)) (hi : i < ks.length) (hi2 : i < 1000)
    (hq : ∀ t, Q (.str (capS (ks.getD i 0)) t) s)
    (hs : subscripted slice false (.ref l) (.int k u) = operate [.ref l, .int k u] (getItem (.ref l) (.int k u)) := by with_unfolding_all rfl) :
    wpAny (model pw w) A (subscriptTail value slice (.ref l) (.int k u)) Q E s := by
  subst hk
  obtain ⟨t, ht, -⟩ := h.get hi
  exact item_listR (items := vs.toArray) ⟨_, (N _ hm).1, rfl, _, rfl⟩ (Int.natCast_nonneg _) (by (with_reducible exact o_63 (by assumption) (by decide))) (by rw [Int.toNat_natCast]; simpa using ht) (hq t) hs
theorem off_two {x : Addr} {R Z : Led} (a : ∀ p ∈ R, p.1 ≠ x) (b : ∀ p ∈ Z, p.1 ≠ x) : ∀ p ∈ R ++ Z, p.1 ≠ x := fun p hp => (List.mem_append.mp hp).elim (a p) (b p)
theorem off_one {a x : Addr} {o : Obj} (h : a ≠ x) : ∀ p ∈ ([(a, o)] : Led), p.1 ≠ x := fun p hp => by
  cases List.mem_singleton.mp hp
  exact h
theorem bN_plen (w : List Nat) : ∀ i, (bN w i).page.length ≤ i
  | 0 => Nat.le_refl _
  | i + 1 => by
    have ih := bN_plen w i
    show (bStep w (bN w i)).page.length ≤ i + 1
    unfold bStep
    split
    · (with_reducible ((iterate 7 (try (first | assumption | exact Nat.le_refl _ | refine Nat.le_trans (by assumption) ?_ | refine o_s1 (by assumption) ?_ | refine o_s2 (by assumption) ?_ | refine o_s3 (by assumption) ?_ | refine o_s4 (by assumption) ?_ | refine Nat.le_succ_of_le ?_))); done))
    · show ((bN w i).page ++ [_]).length ≤ i + 1
      rw [List.length_append]
      exact Nat.succ_le_succ ih
theorem within_le {w : List Nat} (h : ∀ x ∈ w, x ≤ 10) {p : Nat} (hp : p < 7) : (withinF w).getD p 0 ≤ 20 := by
  have hg : ∀ j, w.getD j 0 ≤ 10 := by
    intro j
    rw [List.getD_eq_getElem?_getD]
    cases e : w[j]? with
    | none => exact Nat.zero_le _
    | some x => exact h x (List.mem_of_getElem? e)
  unfold withinF
  rcases Nat.lt_or_ge p 6 with h6 | h6
  · have := hg (p + 1)
    have := hg p
    rw [List.getD_eq_getElem?_getD, List.getElem?_append_left (by simpa using h6), List.getElem?_map, List.getElem?_range h6]
    show w.getD (p + 1) 0 + 1 - w.getD p 0 ≤ 20
    omega
  · have : p = 6 := by omega
    subst this
    simp
theorem rev_map (x b d : Nat) : (List.range x).reverse.map (fun j => (b + j, d)) = (List.range x).map fun j => (b + (x - 1 - j), d) := by
  refine List.ext_getElem (by simp) fun i h1 h2 => ?_
  simp [List.getElem_reverse]
theorem b_back {w : World} (wt ks : List Nat) (hw : okBack wt = true) (hks : ks.length = 7) (lt lw : Addr) (tvs wvs : List Value) (kt kw tk0 : Nat) (rest : Led) (hL : LetAre tk0 tvs ks) (hW : NatsAre wvs wt) :
    BodyC w 10 60 "_law_back" s33 b33 394 (.ref 393) (fun y => if y = "taken" then some (.ref lt) else none) (fun y => if y = "waits" then some (.ref lw) else none) ((lt, listOf tvs.toArray kt) :: (lw, listOf wvs.toArray kw) :: rest)
      (fun v n' _ => ∃ (r : Addr) (gv : List Value) (kg : Nat) (R : Led), v = .ref r ∧ n' = (r, listOf gv.toArray kg) :: (R ++ (lt, listOf tvs.toArray kt) :: (lw, listOf wvs.toArray kw) :: rest) ∧ PrAre R IsC gv ((bN wt 7).page.map fun e => (ks.getD e.1 0, e.2))) := by
  intro mean mg mb dp un gd outer A₀ base g L s cells B F X N Y T hlt ht hd hu Aa
  refine hide_post fun Post0 hP0 => ?_
  dsimp only [b33, b33x]
  obtain ⟨o1, o2, o3, o4, hE, d1, d2, d3, d4⟩ := CellsAre.four Y
  subst hE
  clear Y
  simp only [List.cons_append, List.nil_append] at N
  rw [if_neg (by decide)] at d1 d2 d3
  rw [if_pos rfl] at d4
  have hw' := hw
  unfold okBack at hw'
  simp only [Bool.and_eq_true, decide_eq_true_eq, List.all_eq_true] at hw'
  obtain ⟨⟨⟨hw7, hw10⟩, hwi⟩, hwt⟩ := hw'
  let eT : Addr × Obj := (lt, listOf tvs.toArray kt)
  let eW : Addr × Obj := (lw, listOf wvs.toArray kw)
  replace N : News g L s.heap ((L + 1 + 1 + 1 + 1, o1) :: (L + 1 + 1 + 1, o2) :: (L + 1 + 1, o3) :: (L + 1, o4) :: eT :: eW :: rest) := N
  have q1 : @LT.lt Nat _ lt L := hlt (lt, _) (by k_mem)
  have q2 : @LT.lt Nat _ lw L := hlt (lw, _) (by k_mem)
  have q4 : ∀ p ∈ rest, @LT.lt Nat _ p.1 L := fun p hp => hlt p (by (repeat apply List.mem_cons_of_mem); exact hp)
  have q5 : ∀ p ∈ rest, p.1 ≠ L + 1 + 1 := fun p hp => Nat.ne_of_lt (Nat.lt_succ_of_lt (Nat.lt_succ_of_lt (q4 p hp)))
  have q6 : ∀ p ∈ rest, p.1 ≠ L + 1 + 1 + 1 := fun p hp => Nat.ne_of_lt (Nat.lt_succ_of_lt (Nat.lt_succ_of_lt (Nat.lt_succ_of_lt (q4 p hp))))
  have q7 : ∀ p ∈ rest, p.1 ≠ L + 1 + 1 + 1 + 1 := fun p hp => Nat.ne_of_lt (Nat.lt_succ_of_lt (Nat.lt_succ_of_lt (Nat.lt_succ_of_lt (Nat.lt_succ_of_lt (q4 p hp)))))
  have n1 : @Ne Nat lt (L + 1 + 1) ∧ @Ne Nat lt (L + 1 + 1 + 1) ∧ @Ne Nat lt (L + 1 + 1 + 1 + 1) := ⟨by (with_reducible (refine Nat.ne_of_lt ?_; ((iterate 7 (try (first | assumption | exact Nat.lt_succ_self _ | refine Nat.lt_succ_of_lt ?_ | refine Nat.lt_trans (by assumption) ?_ | refine o_l1 (by assumption) ?_ | refine o_l2 (by assumption) ?_ | refine o_l3 (by assumption) ?_ | exact o_m1 (by assumption) | exact o_m2 (by assumption) | exact o_m3 (by assumption)))); done))), by (with_reducible (refine Nat.ne_of_lt ?_; ((iterate 7 (try (first | assumption | exact Nat.lt_succ_self _ | refine Nat.lt_succ_of_lt ?_ | refine Nat.lt_trans (by assumption) ?_ | refine o_l1 (by assumption) ?_ | refine o_l2 (by assumption) ?_ | refine o_l3 (by assumption) ?_ | exact o_m1 (by assumption) | exact o_m2 (by assumption) | exact o_m3 (by assumption)))); done))), by (with_reducible (refine Nat.ne_of_lt ?_; ((iterate 7 (try (first | assumption | exact Nat.lt_succ_self _ | refine Nat.lt_succ_of_lt ?_ | refine Nat.lt_trans (by assumption) ?_ | refine o_l1 (by assumption) ?_ | refine o_l2 (by assumption) ?_ | refine o_l3 (by assumption) ?_ | exact o_m1 (by assumption) | exact o_m2 (by assumption) | exact o_m3 (by assumption)))); done)))⟩
  have n2 : @Ne Nat lw (L + 1 + 1) ∧ @Ne Nat lw (L + 1 + 1 + 1) ∧ @Ne Nat lw (L + 1 + 1 + 1 + 1) := ⟨by (with_reducible (refine Nat.ne_of_lt ?_; ((iterate 7 (try (first | assumption | exact Nat.lt_succ_self _ | refine Nat.lt_succ_of_lt ?_ | refine Nat.lt_trans (by assumption) ?_ | refine o_l1 (by assumption) ?_ | refine o_l2 (by assumption) ?_ | refine o_l3 (by assumption) ?_ | exact o_m1 (by assumption) | exact o_m2 (by assumption) | exact o_m3 (by assumption)))); done))), by (with_reducible (refine Nat.ne_of_lt ?_; ((iterate 7 (try (first | assumption | exact Nat.lt_succ_self _ | refine Nat.lt_succ_of_lt ?_ | refine Nat.lt_trans (by assumption) ?_ | refine o_l1 (by assumption) ?_ | refine o_l2 (by assumption) ?_ | refine o_l3 (by assumption) ?_ | exact o_m1 (by assumption) | exact o_m2 (by assumption) | exact o_m3 (by assumption)))); done))), by (with_reducible (refine Nat.ne_of_lt ?_; ((iterate 7 (try (first | assumption | exact Nat.lt_succ_self _ | refine Nat.lt_succ_of_lt ?_ | refine Nat.lt_trans (by assumption) ?_ | refine o_l1 (by assumption) ?_ | refine o_l2 (by assumption) ?_ | refine o_l3 (by assumption) ?_ | exact o_m1 (by assumption) | exact o_m2 (by assumption) | exact o_m3 (by assumption)))); done)))⟩
  obtain ⟨n1a, n1b, n1c⟩ := n1
  obtain ⟨n2a, n2b, n2c⟩ := n2
  k_steps
  rename IsRange _ _ _ _ _ _ _ _ => RR
  rename Fr _ _ _ _ => FR
  rename News _ _ _ _ => NR
  refine comp_range (n := 6) (F := FR) (N := NR) rfl (by decide) rfl rfl RR (by decide +kernel) (by decide +kernel) (by decide) (by (try dsimp only); (with_reducible exact o_pos (by assumption)))
    (fun n ys nx tk => NatsAre ys (wPre wt n) ∧ nx = (L + 1 + 1 + 1 + 1, o1) :: (L + 1 + 1 + 1, o2) :: (L + 1 + 1, o3) :: (L + 1, o4) :: eT :: eW :: rest) ⟨.nil, rfl⟩ ?_ (.expr ?_)
  · clear FR NR
    rintro n t ys nx tk hn ⟨hys, rfl⟩ I oI C oC D m₂ h hoC hkv htk F4 N4 hoff ⟨i1, i2, i3⟩
    rw [show (0 + (n : Int) * 1) = (n : Int) by (with_reducible exact o_01 _)] at hkv
    refine wpAny_tests_nil ?_
    simp only [if_true]
    k_steps
    unfold Marked
    refine item_nat (i := n + 1) N4 (by k_mem) hW (by omega) (by omega) (by omega) fun t1 => ?_
    (try dsimp only)
    k_steps
    unfold Marked
    refine item_nat (i := n) N4 (by k_mem) hW rfl (by omega) (by (with_reducible exact o_ltl (by assumption) (by decide))) fun t2 => ?_
    (try dsimp only)
    k_steps
    refine cend _ (by assumption) (by assumption) hoff trivial ⟨?_, rfl⟩
    rw [wPre_succ]
    refine hys.snocI ?_
    have := hwi n (List.mem_range.mpr hn)
    omega
  · clear FR NR
    rintro D h tk ys nx9 F4 N4 hoff htk HJ9
    revert F4 N4 hoff
    (apply hide2 (a := ys) (b := nx9); intro PP hPP)
    obtain ⟨hys, rfl⟩ := HJ9
    refine hPP _ _ ?_
    clear hPP
    intro F4 N4 hoff
    (try dsimp only)
    k_steps
    unfold Marked
    rename Fr _ _ _ _ => F5
    rename News _ _ _ _ => N5
    rename_i Dz _ lz
    refine kmk_add_lit (its := ys.toArray) (its2 := #[.int 0 _]) F5 N5 ⟨_, (N5 (D, lst ys) (by k_mem)).1, rfl, _, rfl⟩ ⟨_, (N5 (Dz, _) (by k_mem)).1, rfl, _, rfl⟩ rfl (fun lwi h₁ F6 N6 l6 => ?_) ?_
    · clear F5 N5
      obtain ⟨wv, hwv, N6⟩ : ∃ wv, NatsAre wv (withinF wt) ∧ News g L h₁ ((lwi, listOf wv.toArray 0) :: (L + 1 + 1 + 1 + 1, o1) :: (L + 1 + 1 + 1, o2) :: (L + 1 + 1, o3) :: (L + 1, o4) :: eT :: eW :: rest) :=
        ⟨_, hys.app (.cons 0 tk .nil), news_sub N6 (by refine List.forall_mem_cons.mpr ⟨List.Mem.head _, ?_⟩; (repeat refine List.forall_mem_cons.mpr ⟨by k_mem, ?_⟩); intro p hp; k_mem)⟩
      let eI : Addr × Obj := (lwi, listOf wv.toArray 0)
      replace N6 : News g L h₁ (eI :: (L + 1 + 1 + 1 + 1, o1) :: (L + 1 + 1 + 1, o2) :: (L + 1 + 1, o3) :: (L + 1, o4) :: eT :: eW :: rest) := N6
      have c1 : @LT.lt Nat _ (L + 1 + 1 + 1 + 1) lwi := l6 (L + 1 + 1 + 1 + 1, o1) (by k_mem)
      have c2 : @LT.lt Nat _ lt lwi := l6 (lt, _) (by k_mem)
      have c3 : @LT.lt Nat _ lw lwi := l6 (lw, _) (by k_mem)
      have c4 : ∀ p ∈ rest, @LT.lt Nat _ p.1 lwi := fun p hp => l6 p (by (repeat apply List.mem_cons_of_mem); exact hp)
      have n3a : @Ne Nat lwi (L + 1 + 1) := Nat.ne_of_gt (Nat.lt_of_succ_lt (Nat.lt_of_succ_lt c1))
      have n3b : @Ne Nat lwi (L + 1 + 1 + 1) := Nat.ne_of_gt (Nat.lt_of_succ_lt c1)
      have n3c : @Ne Nat lwi (L + 1 + 1 + 1 + 1) := Nat.ne_of_gt c1
      clear l6 lz hoff
      (try dsimp only)
      k_steps
      unfold Marked
      rename News _ _ _ _ => N7
      refine item_nat (i := 0) N7 (by k_mem) hW rfl (by omega) (by omega) fun t3 => ?_
      (try dsimp only)
      k_steps
      rename IsRange _ _ _ _ _ _ _ _ => RR2
      rename Fr _ _ _ _ => FR
      rename News _ _ _ _ => NR
      rename_i _ lb _ l8 _ ob _ _ db hR tkR tR1 tR2 tR3 htkR
      have c5 : @LT.lt Nat _ lwi lb := l8.1
      clear l8
      have f4 : @LT.lt Nat _ (L + 1 + 1 + 1 + 1) lb := Nat.lt_trans c1 c5
      have f3 : @LT.lt Nat _ (L + 1 + 1 + 1) lb := Nat.lt_of_succ_lt f4
      have f2 : @LT.lt Nat _ (L + 1 + 1) lb := Nat.lt_of_succ_lt f3
      have f1 : @LT.lt Nat _ (L + 1) lb := Nat.lt_of_succ_lt f2
      have ft : @LT.lt Nat _ lt lb := Nat.lt_trans c2 c5
      have fw : @LT.lt Nat _ lw lb := Nat.lt_trans c3 c5
      have fr : ∀ p ∈ rest, @LT.lt Nat _ p.1 lb := fun p hp => Nat.lt_trans (c4 p hp) c5
      have n6b : @Ne Nat lb (L + 1 + 1 + 1) := Nat.ne_of_gt f3
      have n6c : @Ne Nat lb (L + 1 + 1 + 1 + 1) := Nat.ne_of_gt f4
      refine for_range (n := 6) rfl RR2 (by decide +kernel) (by decide +kernel) rfl rfl FR NR (by (try dsimp only); (with_reducible exact o_pos (by assumption)))
        (fun i m nx _ => (∃ ui, m = up "i" ui (bkBase lt lwi)) ∧ ∃ bv kb, NatsAre bv (bPre wt i) ∧ nx = (lb, listOf bv.toArray kb) :: eI :: (L + 1 + 1 + 1 + 1, o1) :: (L + 1 + 1 + 1, o2) :: (L + 1 + 1, ob) :: (L + 1, o4) :: eT :: eW :: rest)
        ⟨⟨none, bk_start ..⟩, _, 0, .cons (wt.getD 0 0 + 1) _ .nil, rfl⟩ (fun _ _ => False) (fun _ _ => False) ?_ ?_ (fun _ _ _ _ h => h.elim) (fun _ _ _ _ _ h => h.elim)
      · clear FR NR
        rintro i t m₁ nx9 h tk I io hi HJ9
        (apply hide2 (a := m₁) (b := nx9); intro PP hPP)
        obtain ⟨⟨ui, rfl⟩, bv, kb, hbv, rfl⟩ := HJ9
        refine hPP _ _ ?_
        clear hPP
        rintro hoff htk F4 N4
        refine hide_post fun Post1 hP1 => ?_
        rw [show (0 + (i : Int) * 1) = (i : Int) by (with_reducible exact o_01 _)] at F4
        simp only [List.cons_append] at N4
        k_steps
        unfold Marked
        refine item_nat (i := i) N4 (by k_mem) hbv rfl (by rw [bPre_len]; (with_reducible (refine o_lts ?_; ((iterate 7 (try (first | assumption | exact Nat.le_refl _ | refine Nat.le_trans (by assumption) ?_ | refine o_s1 (by assumption) ?_ | refine o_s2 (by assumption) ?_ | refine o_s3 (by assumption) ?_ | refine o_s4 (by assumption) ?_ | refine Nat.le_succ_of_le ?_))); done)))) (by (with_reducible exact o_ltl (by assumption) (by decide))) fun t4 => ?_
        (try dsimp only)
        k_steps
        unfold Marked
        refine item_nat (i := i) N4 (by k_mem) hwv rfl (by rw [within_len]; (with_reducible exact o_ltl (by assumption) (by decide))) (by (with_reducible exact o_ltl (by assumption) (by decide))) fun t5 => ?_
        (try dsimp only)
        k_steps
        unfold Marked
        rename Fr _ _ _ _ => F5
        rename News _ _ _ _ => N5
        have hbl : bv.length ≤ 1000 := by rw [hbv.len, bPre_len]; (with_reducible exact o_leal (by assumption) (by decide))
        have hIb := hoff (lb, _) (by k_mem)
        refine app_led F5 N5 (off_cons (Nat.ne_of_lt c5) (off_cons (Nat.ne_of_lt f4) (off_cons (Nat.ne_of_lt f3) (off_cons (Nat.ne_of_lt f2) (off_cons (Nat.ne_of_lt f1) (off_cons (Nat.ne_of_lt ft) (off_cons (Nat.ne_of_lt fw) (off_two (fun p hp => Nat.ne_of_lt (fr p hp)) (off_one (Ne.symm hIb)))))))))) hbl fun h₃ F6 N6 => ?_
        · (try dsimp only)
          k_steps
          have hb2 : ∀ tq, NatsAre (bv ++ [Value.int ((((bPre wt i).getD i 0 : Nat) : Int) + (((withinF wt).getD i 0 : Nat) : Int)) tq]) (bPre wt (i + 1)) := fun tq => by
            rw [bPre_succ]
            exact hbv.snocI (by omega)
          obtain ⟨bv', hb', N7⟩ : ∃ bv', NatsAre bv' (bPre wt (i + 1)) ∧ News g L h₃ ((lb, listOf bv'.toArray (kb + 1)) :: eI :: (L + 1 + 1 + 1 + 1, o1) :: (L + 1 + 1 + 1, o2) :: (L + 1 + 1, ob) :: (L + 1, o4) :: eT :: eW :: (rest ++ [(I, io)])) := ⟨_, hb2 _, N6⟩
          refine hP1 _ _ <| turn_next ((lb, listOf bv'.toArray (kb + 1)) :: eI :: (L + 1 + 1 + 1 + 1, o1) :: (L + 1 + 1 + 1, o2) :: (L + 1 + 1, ob) :: (L + 1, o4) :: eT :: eW :: rest) F6 N7 ?_ ⟨⟨_, up_up ..⟩, bv', kb + 1, hb', rfl⟩
          exact off_of (P := fun a => a ≠ I) (A := (lb, listOf bv.toArray kb) :: eI :: (L + 1 + 1 + 1 + 1, o1) :: (L + 1 + 1 + 1, o2) :: (L + 1 + 1, ob) :: (L + 1, o4) :: eT :: eW :: rest) rfl hoff
      · clear FR NR
        rintro m₁ nx9 h tk HJ9
        (apply hide2 (a := m₁) (b := nx9); intro PP hPP)
        obtain ⟨⟨ui, rfl⟩, bv, kb, hbv, rfl⟩ := HJ9
        refine hPP _ _ ?_
        clear hPP
        rintro htk F4 N4
        let eB : Addr × Obj := (lb, listOf bv.toArray kb)
        replace N4 : News g _ h (eB :: eI :: (L + 1 + 1 + 1 + 1, o1) :: (L + 1 + 1 + 1, o2) :: (L + 1 + 1, ob) :: (L + 1, o4) :: eT :: eW :: rest) := N4
        (try dsimp only)
        k_steps
        unfold Marked
        rename News _ _ _ _ => N5
        refine item_nat (i := 0) N5 (by k_mem) hW rfl (by omega) (by omega) fun t6 => ?_
        (try dsimp only)
        k_steps
        rename IsRange _ _ _ _ _ _ _ _ => RR3
        rename Fr _ _ _ _ => FR
        rename News _ _ _ _ => NR
        rename_i hR tkR tR1 tR2 tR3 htkR
        have hw0 : wt.getD 0 0 ≤ 10 := by
          refine hw10 _ ?_
          rw [List.getD_eq_getElem?_getD, List.getElem?_eq_getElem (by omega)]
          exact List.getElem_mem _
        refine comp_range (n := wt.getD 0 0 + 1) (F := FR) (N := NR) rfl (by decide) rfl rfl RR3 (rsmall_down (by omega) (by omega) (by omega) (by omega)) (by rw [rsize_down]; omega) (by unfold sizeLine; (with_reducible exact o_lea (by assumption) (by decide))) (by (try dsimp only); (with_reducible exact o_pos (by assumption)))
          (fun n ys nx _ => ∃ R, nx = eB :: eI :: (L + 1 + 1 + 1 + 1, o1) :: (L + 1 + 1 + 1, o2) :: (L + 1 + 1, ob) :: (L + 1, o4) :: eT :: eW :: (R ++ rest) ∧ PrAre R IsI ys ((List.range n).map fun i => (wt.getD 0 0 - i, 0)) ∧ ∀ p ∈ R, @LT.lt Nat _ lb p.1)
          ⟨[], rfl, .nil, (fun _ h => nomatch h)⟩ ?_ (.name "pile" _ rfl rfl rfl ?_)
        · clear FR NR
          rintro n t ys nx tk₁ hn ⟨R, rfl, hys, hRl⟩ I oI C oC D m₂ h hoC hkv htk F4 N4 hoff ⟨i1, i2, i3⟩
          refine wpAny_tests_nil ?_
          simp only [if_true]
          k_steps
          rename_i q h₄ F5 N5 l5
          obtain ⟨a1, a2, a3, a4, -, -, -, -, -, -, -, a5⟩ := l5
          have e0 : ((wt.getD 0 0 : Nat) : Int) + (n : Int) * -1 = ((wt.getD 0 0 - n : Nat) : Int) := by omega
          rw [e0] at N5
          refine cend (eB :: eI :: (L + 1 + 1 + 1 + 1, o1) :: (L + 1 + 1 + 1, o2) :: (L + 1 + 1, ob) :: (L + 1, o4) :: eT :: eW :: (((q, tupV (.int ((wt.getD 0 0 - n : Nat) : Int) t) ((0 : Nat) : Int) tk₁ 0) :: R) ++ rest)) F5 (news_sub N5 (pm12 [1, 2, 3, 4, 5, 6, 7, 8, 9, 10, 11, 0])) ?_ trivial ⟨_, rfl, ?_, List.forall_mem_cons.mpr ⟨a4, hRl⟩⟩
          · have b : q ≠ I ∧ q ≠ C ∧ q ≠ D := ⟨Ne.symm (Nat.ne_of_lt a1), Ne.symm (Nat.ne_of_lt a2), Ne.symm (Nat.ne_of_lt a3)⟩
            exact off_mid (P := fun a => a ≠ I ∧ a ≠ C ∧ a ≠ D) [_, _, _, _, _, _, _, _] (pre' := [_, _, _, _, _, _, _, _]) hoff rfl b
          · rw [List.range_succ, List.map_append]
            exact (hys.sub fun p hp => List.mem_cons_of_mem _ hp).app (.cons q _ _ _ _ _ ⟨_, rfl⟩ (List.Mem.head _) .nil)
        · clear FR NR
          rintro lp h tk ys nx9 F4 N4 hoff htk HJ9
          revert F4 N4 hoff
          (apply hide2 (a := ys) (b := nx9); intro PP hPP)
          obtain ⟨R, rfl, hys, hRl⟩ := HJ9
          refine hPP _ _ ?_
          clear hPP
          intro F4 N4 hoff
          (try dsimp only)
          k_steps
          rename IsRange _ _ _ _ _ _ _ _ => RR4
          rename Fr _ _ _ _ => FR
          rename News _ _ _ _ => NR
          rename_i lq _ _ _ l8 _ _ _ hR tkR tR1 tR2 tR3 htkR
          have e1 : @LT.lt Nat _ lp lq := l8.1
          have e2 : @LT.lt Nat _ lb lq := l8.2.1
          have e6 : @Ne Nat lq (L + 1 + 1 + 1 + 1) := Nat.ne_of_gt (Nat.lt_trans f4 e2)
          have e7 : @Ne Nat lq (L + 1 + 1 + 1) := Nat.ne_of_gt (Nat.lt_trans f3 e2)
          have e3 : ∀ p ∈ R, @LT.lt Nat _ p.1 lq := fun p hp => allLt_mem l8.2.2.2.2.2.2.2.2.2 p (List.mem_append_left _ hp)
          have e4 : ∀ p ∈ R, p.1 ≠ lp := fun p hp => hoff p (by (repeat apply List.mem_cons_of_mem); exact List.mem_append_left _ hp)
          have e5 : ∀ p ∈ rest, p.1 ≠ lp := fun p hp => hoff p (by (repeat apply List.mem_cons_of_mem); exact List.mem_append_right _ hp)
          have g1 : @Ne Nat lb lp := hoff (lb, _) (by k_mem)
          have g2 : @Ne Nat lwi lp := hoff (lwi, _) (by k_mem)
          have g3 : @Ne Nat (L + 1 + 1 + 1 + 1) lp := hoff (L + 1 + 1 + 1 + 1, _) (by k_mem)
          have g4 : @Ne Nat (L + 1 + 1 + 1) lp := hoff (L + 1 + 1 + 1, _) (by k_mem)
          have g5 : @Ne Nat (L + 1 + 1) lp := hoff (L + 1 + 1, _) (by k_mem)
          have g6 : @Ne Nat (L + 1) lp := hoff (L + 1, _) (by k_mem)
          have g7 : @Ne Nat lt lp := hoff (lt, _) (by k_mem)
          have g8 : @Ne Nat lw lp := hoff (lw, _) (by k_mem)
          clear l8
          refine for_range (n := 7) rfl RR4 (by decide +kernel) (by decide +kernel) rfl rfl FR NR (by (try dsimp only); (with_reducible exact o_pos (by assumption)))
            (fun i m nx _ => (∃ ut, m = up "turn" ut (bk2 lt lwi lp lq ui)) ∧ ∃ (pv gv : List Value) (kp kg : Nat) (R : Led) (o1 o2 : Obj), nx = (lq, listOf gv.toArray kg) :: (lp, listOf pv.toArray kp) :: eB :: eI :: (L + 1 + 1 + 1 + 1, o1) :: (L + 1 + 1 + 1, o2) :: (L + 1 + 1, ob) :: (L + 1, o4) :: eT :: eW :: (R ++ rest) ∧ PrAre R IsI pv (bN wt i).pile ∧ PrAre R IsC gv ((bN wt i).page.map fun e => (ks.getD e.1 0, e.2)) ∧ BkFar lb lp lq R ∧ (∃ x, o1.data = .cell x) ∧ ∃ x, o2.data = .cell x)
            ⟨⟨none, bk2_start ..⟩, ys, [], _, 0, R, o1, o2, rfl, pile0 wt ▸ hys, .nil, fun p hp => ⟨hRl p hp, e4 p hp, Nat.ne_of_lt (e3 p hp)⟩, ⟨_, d1⟩, ⟨_, d2⟩⟩ (fun _ _ => False) (fun _ _ => False) ?_ ?_ (fun _ _ _ _ h => h.elim) (fun _ _ _ _ _ h => h.elim)
          · clear FR NR hys hRl e3 e4 hoff
            rintro i t m₁ nx9 h tk I io hi HJ9
            (apply hide2 (a := m₁) (b := nx9); intro PP hPP)
            obtain ⟨⟨ut, rfl⟩, pv, gv, kp, kg, R, o1, o2, rfl, hpv, hgv, hRl, ⟨x1, dx1⟩, ⟨x2, dx2⟩⟩ := HJ9
            refine hPP _ _ ?_
            clear hPP
            rintro hoff htk F4 N4
            refine hide_post fun Post1 hP1 => ?_
            simp only [List.cons_append, List.append_assoc] at N4
            obtain ⟨pl, p, d, hpl, hp7, hp30, hd30⟩ := pile_top hwt hi
            rw [hpl] at hpv
            obtain ⟨us, q, xq, td, nq, rfl, ⟨tp, rfl⟩, hq, hus⟩ := PrAre.last hpv
            have hul : us.length ≤ 30 := by
              rw [hpl, List.length_append] at hp30
              rw [hus.len]
              exact Nat.le_trans (Nat.le_add_right _ _) hp30
            have hZ : ∀ p ∈ rest ++ [(I, io)], p.1 ≠ lp ∧ p.1 ≠ lq := by
              intro p hp
              rcases List.mem_append.mp hp with hp | hp
              · exact ⟨e5 p hp, Nat.ne_of_lt (Nat.lt_trans (fr p hp) e2)⟩
              · cases List.mem_singleton.mp hp
                exact ⟨Ne.symm (hoff (lp, _) (by k_mem)), Ne.symm (hoff (lq, _) (by k_mem))⟩
            have hIm : (I, io) ∈ rest ++ [(I, io)] := List.mem_append_right _ (List.mem_singleton.mpr rfl)
            have hqb := hRl _ hq
            have hI3 : I ≠ L + 1 + 1 + 1 ∧ I ≠ L + 1 + 1 + 1 + 1 := ⟨Ne.symm (hoff (L + 1 + 1 + 1, _) (by k_mem)), Ne.symm (hoff (L + 1 + 1 + 1 + 1, _) (by k_mem))⟩
            have q8 : ∀ p ∈ R ++ (rest ++ [(I, io)]), p.1 ≠ L + 1 + 1 + 1 := by
              intro p hp
              rcases List.mem_append.mp hp with hp | hp
              · exact Nat.ne_of_gt (Nat.lt_trans f3 (hRl p hp).1)
              rcases List.mem_append.mp hp with hp | hp
              · exact q6 p hp
              · cases List.mem_singleton.mp hp
                exact hI3.1
            have q9 : ∀ p ∈ R ++ (rest ++ [(I, io)]), p.1 ≠ L + 1 + 1 + 1 + 1 := by
              intro p hp
              rcases List.mem_append.mp hp with hp | hp
              · exact Nat.ne_of_gt (Nat.lt_trans f4 (hRl p hp).1)
              rcases List.mem_append.mp hp with hp | hp
              · exact q7 p hp
              · cases List.mem_singleton.mp hp
                exact hI3.2
            generalize hZe : rest ++ [(I, io)] = Z at N4 hZ hIm q8 q9
            k_steps
            unfold Marked
            rename News _ _ _ _ => N5
            refine wpAny_truthy_list ⟨_, (N5 (lp, listOf (us ++ [Value.ref q]).toArray kp) (by k_mem)).1, rfl, _, rfl⟩ (by rw [List.size_toArray, List.length_append]; show ((us.length + 1 : Nat) : Int) < _; omega) ?_
            rw [if_pos (by simp)]
            (try dsimp only)
            k_steps
            unfold Marked
            rename Fr _ _ _ _ => F6
            rename News _ _ _ _ => N6
            refine pop_led (rest := (q, tupV (.int ((p : Nat) : Int) tp) d td nq) :: (lq, listOf gv.toArray kg) :: eB :: eI :: (L + 1 + 1 + 1 + 1, o1) :: (L + 1 + 1 + 1, o2) :: (L + 1 + 1, ob) :: (L + 1, o4) :: eT :: eW :: (R ++ Z)) F6 (news_sub N6 (List.forall_mem_cons.mpr ⟨by k_mem, List.forall_mem_cons.mpr ⟨inR [_, _, _, _, _, _, _, _, _, _] _ hq, pm2 [0]⟩⟩)) (off_cons hqb.2.1 (off_cons (Nat.ne_of_gt e1) (off_cons g1 (off_cons g2 (off_cons g3 (off_cons g4 (off_cons g5 (off_cons g6 (off_cons g7 (off_cons g8 (off_two (fun p hp => (hRl p hp).2.1) (fun p hp => (hZ p hp).1)))))))))))) (by (with_reducible exact o_le (by assumption) (by decide))) fun h₅ F7 N7 => ?_
            (try dsimp only)
            k_steps
            unfold Marked
            refine unpackN_ F7 N7 (News.isTup N7 (List.Mem.tail _ (List.Mem.head _))) rfl rfl rfl fun h₆ F8 N8 => ?_
            have hqn1 : @Ne Nat q (L + 1 + 1 + 1) := Nat.ne_of_gt (Nat.lt_trans f3 hqb.1)
            have hqn2 : @Ne Nat q (L + 1 + 1 + 1 + 1) := Nat.ne_of_gt (Nat.lt_trans f4 hqb.1)
            (try dsimp only)
            k_steps
            unfold Marked
            rename News _ _ _ _ => N9
            refine item_let (i := p) N9 (by k_mem) hL rfl (by (with_reducible exact o_eqlt (by assumption) (by assumption))) (by (with_reducible exact o_ltl (by assumption) (by decide))) fun t7 => ?_
            (try dsimp only)
            k_steps
            unfold Marked
            rename Fr _ _ _ _ => Fa
            rename News _ _ _ _ => Na
            rename_i oP dP _ oD dD q2 _ l9
            have b1 : @LT.lt Nat _ lq q2 := l9.2.2.1
            have b2 : @LT.lt Nat _ lb q2 := l9.2.2.2.1
            have b3 : @LT.lt Nat _ lp q2 := l9.1
            have b4 : I ≠ q2 := Nat.ne_of_lt (allLt_mem l9.2.2.2.2.2.2.2.2.2.2.2 (I, io) (List.mem_append_right _ hIm))
            clear l9
            refine app_led (rest := (q2, tupV (.str (capS (ks.getD p 0)) t7) d td 0) :: (lp, listOf us.toArray (kp + 1)) :: eB :: eI :: (L + 1 + 1 + 1 + 1, oD) :: (L + 1 + 1 + 1, oP) :: (L + 1 + 1, ob) :: (L + 1, o4) :: eT :: eW :: (R ++ Z)) Fa (news_sub Na (by (repeat refine List.forall_mem_cons.mpr ⟨by k_mem, ?_⟩); intro p hp; k_mem)) (off_cons (Nat.ne_of_gt b1) (off_cons (Nat.ne_of_lt e1) (off_cons (Nat.ne_of_lt e2) (off_cons (Nat.ne_of_lt (Nat.lt_trans c5 e2)) (off_cons (Nat.ne_of_lt (Nat.lt_trans f4 e2)) (off_cons (Nat.ne_of_lt (Nat.lt_trans f3 e2)) (off_cons (Nat.ne_of_lt (Nat.lt_trans f2 e2)) (off_cons (Nat.ne_of_lt (Nat.lt_trans f1 e2)) (off_cons (Nat.ne_of_lt (Nat.lt_trans ft e2)) (off_cons (Nat.ne_of_lt (Nat.lt_trans fw e2)) (off_two (fun p hp => (hRl p hp).2.2) (fun p hp => (hZ p hp).2)))))))))))) (Nat.le_trans (Nat.le_of_eq (hgv.len.trans (List.length_map ..))) (Nat.le_trans (bN_plen wt i) (Nat.le_trans (Nat.le_of_lt hi) (by decide)))) fun h₇ Fb Nb => ?_
            have hgv2 : PrAre ((q2, tupV (.str (capS (ks.getD p 0)) t7) d td 0) :: R) IsC (gv ++ [.ref q2]) ((bN wt (i + 1)).page.map fun e => (ks.getD e.1 0, e.2)) := by
              rw [bN_next hpl, List.map_append]
              exact (hgv.sub fun p hp => List.mem_cons_of_mem _ hp).app (.cons q2 _ _ _ _ _ ⟨_, rfl⟩ (List.Mem.head _) .nil)
            have hus2 : PrAre ((q2, tupV (.str (capS (ks.getD p 0)) t7) d td 0) :: R) IsI us pl := hus.sub fun p hp => List.mem_cons_of_mem _ hp
            have hRl2 : BkFar lb lp lq ((q2, tupV (.str (capS (ks.getD p 0)) t7) d td 0) :: R) := List.forall_mem_cons.mpr ⟨⟨b2, Ne.symm (Nat.ne_of_lt b3), Ne.symm (Nat.ne_of_lt b1)⟩, hRl⟩
            have hRI2 : ∀ z ∈ ((q2, tupV (.str (capS (ks.getD p 0)) t7) d td 0) :: R), z.1 ≠ I := List.forall_mem_cons.mpr ⟨Ne.symm b4, fun p hp => hoff p (by (repeat apply List.mem_cons_of_mem); exact List.mem_append_left _ hp)⟩
            obtain ⟨R2, hgv2, hus2, hRl2, hRI2, Nb⟩ : ∃ R2, PrAre R2 IsC (gv ++ [.ref q2]) ((bN wt (i + 1)).page.map fun e => (ks.getD e.1 0, e.2)) ∧ PrAre R2 IsI us pl ∧ BkFar lb lp lq R2 ∧ (∀ p ∈ R2, p.1 ≠ I) ∧ News g L h₇ ((lq, listOf (gv ++ [Value.ref q2]).toArray (kg + 1)) :: (lp, listOf us.toArray (kp + 1)) :: eB :: eI :: (L + 1 + 1 + 1 + 1, oD) :: (L + 1 + 1 + 1, oP) :: (L + 1 + 1, ob) :: (L + 1, o4) :: eT :: eW :: (R2 ++ Z)) := ⟨_, hgv2, hus2, hRl2, hRI2, news_sub Nb (by (repeat refine List.forall_mem_cons.mpr ⟨by k_mem, ?_⟩); intro p hp; k_mem)⟩
            clear hgv hus hRl hpv q8 q9 hq hqb b1 b2 b3 b4
            (try dsimp only)
            k_steps
            unfold Marked
            rename News _ _ _ _ => Nc
            refine item_nat (i := p) Nc (by k_mem) hwv rfl (by rw [within_len]; (with_reducible assumption)) (by (with_reducible exact o_ltl (by assumption) (by decide))) fun t8 => ?_
            (try dsimp only)
            k_steps
            rename IsRange _ _ _ _ _ _ _ _ => RR5
            rename Fr _ _ _ _ => FR
            rename News _ _ _ _ => NR
            rename_i hR tkR tR1 tR2 tR3 htkR
            have hx10 : (withinF wt).getD p 0 ≤ 20 := within_le hw10 hp7
            generalize hxe : (withinF wt).getD p 0 = xw at RR5 hx10
            generalize hbe : (behindF wt).getD p 0 = bp
            refine comp_range (n := xw) (F := FR) (N := NR) rfl (by decide) rfl rfl RR5 (rsmall_down (by omega) (by omega) (by omega) (by omega)) (by rw [rsize_down]; omega) (by unfold sizeLine; (with_reducible exact o_le (by assumption) (by decide))) (by (try dsimp only); (with_reducible exact o_pos (by assumption)))
              (fun n ys nx _ => ∃ R, nx = (lq, listOf (gv ++ [Value.ref q2]).toArray (kg + 1)) :: (lp, listOf us.toArray (kp + 1)) :: eB :: eI :: (L + 1 + 1 + 1 + 1, oD) :: (L + 1 + 1 + 1, oP) :: (L + 1 + 1, ob) :: (L + 1, o4) :: eT :: eW :: (R ++ Z) ∧ PrAre R IsC (gv ++ [.ref q2]) ((bN wt (i + 1)).page.map fun e => (ks.getD e.1 0, e.2)) ∧ PrAre R IsI us pl ∧ PrAre R IsI ys ((List.range n).map fun j => (bp + (xw - 1 - j), d + 1)) ∧ BkFar lb lp lq R ∧ ∀ z ∈ R, z.1 ≠ I)
              ⟨R2, rfl, hgv2, hus2, .nil, hRl2, hRI2⟩ ?_ (.expr ?_)
            · clear FR NR hgv2 hus2 hRl2 hRI2
              rintro n tj ys nx tk₁ hn ⟨R, rfl, hgv, hus, hys, hRl, hRI⟩ I₁ oI C oC D m₂ h hoC hkv htk F4 N4 hoff₁ ⟨i1, i2, i3⟩
              refine wpAny_tests_nil ?_
              simp only [if_true]
              k_steps
              unfold Marked
              refine item_nat (i := p) N4 (by k_mem) hbv rfl (by rw [bPre_len]; (with_reducible assumption)) (by (with_reducible exact o_ltl (by assumption) (by decide))) fun t9 => ?_
              rw [show (bPre wt 6).getD p 0 = bp from hbe]
              (try dsimp only)
              k_steps
              rename_i q3 h₈ F5 N5 l5
              obtain ⟨a1, a2, a3, a4, a5, a6, -, -, -, -, -, -, -, a7⟩ := l5
              have a8 : I ≠ q3 := Nat.ne_of_lt (allLt_mem a7 (I, io) (List.mem_append_right _ hIm))
              rw [show ((bp : Nat) : Int) + ((xw : Int) - 1 + (n : Int) * -1) = ((bp + (xw - 1 - n) : Nat) : Int) by omega, show ((d : Nat) : Int) + 1 = ((d + 1 : Nat) : Int) by omega] at N5
              refine cend ((lq, listOf (gv ++ [Value.ref q2]).toArray (kg + 1)) :: (lp, listOf us.toArray (kp + 1)) :: eB :: eI :: (L + 1 + 1 + 1 + 1, oD) :: (L + 1 + 1 + 1, oP) :: (L + 1 + 1, ob) :: (L + 1, o4) :: eT :: eW :: (((q3, tupV (.int ((bp + (xw - 1 - n) : Nat) : Int) tk₁) ((d + 1 : Nat) : Int) (tk₁ + 1 + 1) 0) :: R) ++ Z)) F5 (news_sub N5 (by (repeat refine List.forall_mem_cons.mpr ⟨by k_mem, ?_⟩); intro p hp; k_mem)) ?_ trivial ⟨_, rfl, hgv.sub fun p hp => List.mem_cons_of_mem _ hp, hus.sub fun p hp => List.mem_cons_of_mem _ hp, ?_, List.forall_mem_cons.mpr ⟨⟨a6, Ne.symm (Nat.ne_of_lt a5), Ne.symm (Nat.ne_of_lt a4)⟩, hRl⟩, List.forall_mem_cons.mpr ⟨Ne.symm a8, hRI⟩⟩
              · have b : q3 ≠ I₁ ∧ q3 ≠ C ∧ q3 ≠ D := ⟨Ne.symm (Nat.ne_of_lt a1), Ne.symm (Nat.ne_of_lt a2), Ne.symm (Nat.ne_of_lt a3)⟩
                exact off_mid (P := fun a => a ≠ I₁ ∧ a ≠ C ∧ a ≠ D) [_, _, _, _, _, _, _, _, _, _] (pre' := [_, _, _, _, _, _, _, _, _, _]) hoff₁ rfl b
              · rw [List.range_succ, List.map_append]
                exact (hys.sub fun p hp => List.mem_cons_of_mem _ hp).app (.cons q3 _ _ _ _ _ ⟨_, rfl⟩ (List.Mem.head _) .nil)
            · clear FR NR hgv2 hus2 hRl2 hRI2
              rintro D h tk₁ ys nx9 F4 N4 hoffD htk HJ9
              revert F4 N4 hoffD
              (apply hide2 (a := ys) (b := nx9); intro PP hPP)
              obtain ⟨R, rfl, hgv, hus, hys, hRl, hRI⟩ := HJ9
              refine hPP _ _ ?_
              clear hPP
              intro F4 N4 hoffD
              (try dsimp only)
              k_steps
              unfold Marked
              rename Fr _ _ _ _ => F5
              rename News _ _ _ _ => N5
              have hDp := hoffD (lp, _) (by k_mem)
              refine ext_led (ys := ys) (k := ys.length) (rest := (D, listOf ys.toArray ys.length) :: (lq, listOf (gv ++ [Value.ref q2]).toArray (kg + 1)) :: eB :: eI :: (L + 1 + 1 + 1 + 1, oD) :: (L + 1 + 1 + 1, oP) :: (L + 1 + 1, ob) :: (L + 1, o4) :: eT :: eW :: (R ++ Z)) F5 (news_sub N5 (by (repeat refine List.forall_mem_cons.mpr ⟨by k_mem, ?_⟩); intro p hp; k_mem)) (off_cons (Ne.symm hDp) (off_cons (Nat.ne_of_gt e1) (off_cons g1 (off_cons g2 (off_cons g3 (off_cons g4 (off_cons g5 (off_cons g6 (off_cons g7 (off_cons g8 (off_two (fun p hp => (hRl p hp).2.1) (fun p hp => (hZ p hp).1)))))))))))) (List.Mem.head _) (by (with_reducible exact o_le (by assumption) (by decide))) (by have := hys.len; rw [List.length_map, List.length_range] at this; (with_reducible exact o_eqle2 (by assumption) (by assumption) (by decide))) fun h₉ kp2 F6 N6 => ?_
              (try dsimp only)
              k_steps
              have hpile : (bN wt (i + 1)).pile = pl ++ (List.range xw).map fun j => (bp + (xw - 1 - j), d + 1) := by
                rw [bN_next hpl]
                show pl ++ _ = _
                rw [hxe, hbe, rev_map]
              refine hP1 _ _ <| turn_next ((lq, listOf (gv ++ [Value.ref q2]).toArray (kg + 1)) :: (lp, listOf (us ++ ys).toArray kp2) :: eB :: eI :: (L + 1 + 1 + 1 + 1, oD) :: (L + 1 + 1 + 1, oP) :: (L + 1 + 1, ob) :: (L + 1, o4) :: eT :: eW :: (R ++ rest)) F6 (news_sub N6 ?_) ?_
                ⟨⟨_, up_up ..⟩, us ++ ys, gv ++ [Value.ref q2], kp2, kg + 1, R, oD, oP, rfl, by rw [hpile]; exact hus.app hys, hgv, hRl, ⟨_, dD⟩, ⟨_, dP⟩⟩
              · subst hZe
                simp only [List.cons_append, List.append_assoc]
                (repeat refine List.forall_mem_cons.mpr ⟨by k_mem, ?_⟩)
                intro p hp
                k_mem
              · exact off_end (P := fun a => a ≠ I) [_, _, _, _, _, _, _, _, _, _] (pre' := [_, _, _, _, _, _, _, _, _, _]) hoff rfl hRI (fun p hp => hp)
          · clear FR NR hys
            rintro m₁ nx9 h tk HJ9
            (apply hide2 (a := m₁) (b := nx9); intro PP hPP)
            obtain ⟨⟨ut, rfl⟩, pv, gv, kp, kg, R, o1, o2, rfl, hpv, hgv, hRl, -, -⟩ := HJ9
            refine hPP _ _ ?_
            clear hPP
            rintro htk F4 N4
            (try dsimp only)
            k_steps
            exact hP0 _ _ <| body_ret F4 (news_sub N4 fun p hp => by
              rcases List.mem_cons.mp hp with rfl | hp
              · exact List.Mem.head _
              rcases List.mem_append.mp hp with hp | hp
              · (repeat apply List.mem_cons_of_mem)
                exact List.mem_append_left _ hp
              rcases List.mem_cons.mp hp with rfl | hp
              · k_mem
              rcases List.mem_cons.mp hp with rfl | hp
              · k_mem
              (repeat apply List.mem_cons_of_mem)
              exact List.mem_append_right _ hp) ⟨lq, gv, kg, R, rfl, rfl, hgv⟩
    · show ys.length + 1 ≤ sizeLine
      have := hys.len
      rw [this]
      show (List.map _ (List.range 6)).length + 1 ≤ sizeLine
      rw [List.length_map, List.length_range]
      decide
theorem does_back {w : World} (wt ks : List Nat) (hw : okBack wt = true) (hks : ks.length = 7) (lt lw : Addr) (tvs wvs : List Value) (kt kw tk0 : Nat) (rest : Led) (hL : LetAre tk0 tvs ks) (hW : NatsAre wvs wt) :
    Does w 11 63 (.ref 394) [.ref lt, .ref lw] ((lt, listOf tvs.toArray kt) :: (lw, listOf wvs.toArray kw) :: rest)
      (fun v n' _ => ∃ (r : Addr) (gv : List Value) (kg : Nat) (R : Led), v = .ref r ∧ n' = (r, listOf gv.toArray kg) :: (R ++ (lt, listOf tvs.toArray kt) :: (lw, listOf wvs.toArray kw) :: rest) ∧ PrAre R IsC gv ((bN wt 7).page.map fun e => (ks.getD e.1 0, e.2))) := by
  refine does_fnC (binds := [("taken", .ref lt), ("waits", .ref lw)]) (by k_is) (by k_is) (fun s X => BindsTo.of_eq rfl) rfl (by decide) (fun L => ?_) (fun L => ?_) rfl rfl rfl (@b_back w wt ks hw hks lt lw tvs wvs kt kw tk0 rest hL hW)
  · rfl
  · rfl
end

section
open PySem PySem.W PySem.Calls PyProof.Rows
set_option Elab.async false
set_option maxRecDepth 100000
set_option maxHeartbeats 4000000
theorem size_nat (x : Int) : ∃ T : Nat, 1 + (1 + x).fmod 5 = (T : Int) ∧ 1 ≤ T ∧ T ≤ 5 := by
  have h1 := Int.fmod_eq_emod_of_nonneg (1 + x) (by decide : (0 : Int) ≤ 5)
  have h2 := Int.emod_nonneg (1 + x) (by decide : (5 : Int) ≠ 0)
  have h3 := Int.emod_lt_of_pos (1 + x) (by decide : (0 : Int) < 5)
  rw [← h1] at h2 h3
  have p1 := Int.le_add_of_nonneg_right (a := 1) h2
  have p0 := Int.le_trans (by decide : (0 : Int) ≤ 1) p1
  exact ⟨(1 + (1 + x).fmod 5).toNat, (Int.toNat_of_nonneg p0).symm, (Int.le_toNat p0).mpr p1, Int.toNat_le.mpr (Int.le_trans (Int.le_of_eq (Int.add_comm 1 _)) h3)⟩
theorem cells_len (ns : List Int) : (cellsF ns).length = 7 := by simp [cellsF]
theorem cells_get (ns : List Int) {k : Nat} (hk : k < 7) : ∃ c : Nat, (cellsF ns).getD k 0 = (c : Int) ∧ c < 1000000 := by
  have e : (cellsF ns).getD k 0 = cellF ns k := by simp [cellsF, hk]
  rw [e]
  unfold cellF
  split
  · have h2 := Int.emod_nonneg (ns.getD k 0) (by decide : (1000000 : Int) ≠ 0)
    have h3 := Int.emod_lt_of_pos (ns.getD k 0) (by decide : (0 : Int) < 1000000)
    exact ⟨((ns.getD k 0).emod 1000000).toNat, (Int.toNat_of_nonneg h2).symm, (Int.toNat_lt h2).mpr h3⟩
  · have key : ∀ k < 7, 0 ≤ spareF.getD k 0 ∧ spareF.getD k 0 < 1000000 := by decide +kernel
    obtain ⟨a, b⟩ := key k hk
    exact ⟨(spareF.getD k 0).toNat, (Int.toNat_of_nonneg a).symm, (Int.toNat_lt a).mpr b⟩
theorem sign_ok (c : Int) : sgOK (signOf c) := by
  have h2 := Int.emod_nonneg (c / 12) (by decide : (8 : Int) ≠ 0)
  have h3 := Int.emod_lt_of_pos (c / 12) (by decide : (0 : Int) < 8)
  have key : ∀ j < 8, (signsF.getD j 0 = 38 ∨ signsF.getD j 0 = 62 ∨ signsF.getD j 0 = 34 ∨ signsF.getD j 0 = 9 ∨ signsF.getD j 0 = 10 ∨ signsF.getD j 0 = 13 ∨ signsF.getD j 0 = 59 ∨ signsF.getD j 0 = 107) := by decide +kernel
  exact key _ ((Int.toNat_lt h2).mpr h3)
def sgF (cs : List Int) (k : Nat) : Nat := signOf (cs.getD k 0)
theorem head_eq (cs : List Int) : headF cs = hdS (sgF cs) := rfl
theorem depth_step (l : List Int) (n : Nat) (c : Int) : ∃ m : Nat, depthStep (l ++ [(n : Int)]) c = (l ++ [(n : Int)]) ++ [(m : Int)] ∧ m < if n < 3 then n + 2 else 4 := by
  unfold depthStep
  have e : (l ++ [(n : Int)]).getLastD 0 = (n : Int) := by simp
  rw [e]
  have hp : (if (n : Int) < 3 then (n : Int) + 2 else 4) = ((if n < 3 then n + 2 else 4 : Nat) : Int) := by
    by_cases h : n < 3
    · rw [if_pos h, if_pos (show (n : Int) < 3 from Int.ofNat_lt.mpr h)]; rfl
    · rw [if_neg h, if_neg (show ¬(n : Int) < 3 from fun e => h (Int.ofNat_lt.mp e))]; rfl
  rw [hp]
  have hq : 0 < (if n < 3 then n + 2 else 4) := by (split; exact Nat.succ_pos _; decide)
  generalize (if n < 3 then n + 2 else 4) = q at hq ⊢
  have h2 := Int.emod_nonneg c (show (q : Int) ≠ 0 from fun e => Nat.ne_of_gt hq (Int.ofNat_eq_zero.mp e))
  have h3 := Int.emod_lt_of_pos c (show (0 : Int) < q from Int.ofNat_lt.mpr hq)
  exact ⟨(c % (q : Int)).toNat, by rw [Int.toNat_of_nonneg h2], (Int.toNat_lt h2).mpr h3⟩
theorem depths_rows {cs : List Int} (h7 : cs.length = 7) : ∃ dN, dN ∈ allRows ∧ depthsF cs = dN.map Int.ofNat ∧ dN.length = 7 := by
  match cs, h7 with
  | [c0, c1, c2, c3, c4, c5, c6], _ =>
    show ∃ dN, dN ∈ allRows ∧ depthStep (depthStep (depthStep (depthStep (depthStep (depthStep ([] ++ [((0 : Nat) : Int)]) c1) c2) c3) c4) c5) c6 = dN.map Int.ofNat ∧ dN.length = 7
    obtain ⟨a, ea, ha⟩ := depth_step [] 0 c1
    rw [ea]
    obtain ⟨b, eb, hb⟩ := depth_step ([] ++ [((0 : Nat) : Int)]) a c2
    rw [eb]
    obtain ⟨c, ec, hc⟩ := depth_step ([] ++ [((0 : Nat) : Int)] ++ [(a : Int)]) b c3
    rw [ec]
    obtain ⟨d, ed, hd⟩ := depth_step ([] ++ [((0 : Nat) : Int)] ++ [(a : Int)] ++ [(b : Int)]) c c4
    rw [ed]
    obtain ⟨e, ee, he⟩ := depth_step ([] ++ [((0 : Nat) : Int)] ++ [(a : Int)] ++ [(b : Int)] ++ [(c : Int)]) d c5
    rw [ee]
    obtain ⟨f, ef, hf⟩ := depth_step ([] ++ [((0 : Nat) : Int)] ++ [(a : Int)] ++ [(b : Int)] ++ [(c : Int)] ++ [(d : Int)]) e c6
    rw [ef]
    exact ⟨[0, a, b, c, d, e, f], mem_rows ha hb hc hd he hf, rfl, rfl⟩
/-- all that the law needs of a row of depths -/
structure RowOK (dN : List Nat) : Prop where
  len : dN.length = 7
  le3 : ∀ k, k < 7 → dN.getD k 0 ≤ 3
  nx : ∀ k, k + 1 < 7 → dN.getD (k + 1) 0 ≤ dN.getD k 0 + 1
  z0 : dN.getD 0 0 = 0
  turns : okTurns (rowsOf dN) = true
  q7 : (qN (rowsOf dN) 7).Q = []
  g28 : gN (rowsOf dN) 7 = 28
  back : okBack (qN (rowsOf dN) 7).waits = true
  tl : (qN (rowsOf dN) 7).taken.length = 7
  tlt : ∀ x ∈ (qN (rowsOf dN) 7).taken, x < 7
  dues : (qN (rowsOf dN) 7).waits = (qN (rowsOf dN) 7).taken.map (dueF dN)
  page : (bN (qN (rowsOf dN) 7).waits 7).page.map (fun e => ((qN (rowsOf dN) 7).taken.getD e.1 0, e.2)) = rowsOf dN
def okShape (d : List Nat) : Bool := decide (d.length = 7) && (List.range 7).all (fun k => decide (d.getD k 0 ≤ 3)) && (List.range 6).all (fun k => decide (d.getD (k + 1) 0 ≤ d.getD k 0 + 1)) && decide (d.getD 0 0 = 0)
theorem shape_ok : allRows.all okShape = true := by decide +kernel
theorem row_ok {dN : List Nat} (h : dN ∈ allRows) : RowOK dN := by
  have h1 := List.all_eq_true.mp shape_ok dN h
  have h2 := List.all_eq_true.mp turns_ok dN h
  have h3 := List.all_eq_true.mp given_ok dN h
  have h4 := List.all_eq_true.mp back_ok dN h
  have h5 := List.all_eq_true.mp all_ok dN h
  unfold okShape at h1
  unfold okRow at h5
  simp only [Bool.and_eq_true, decide_eq_true_eq, List.all_eq_true, beq_iff_eq, List.mem_range, List.isEmpty_iff] at h1 h3 h5
  obtain ⟨⟨⟨a1, a2⟩, a3⟩, a4⟩ := h1
  obtain ⟨⟨⟨⟨⟨⟨⟨⟨b1, b2⟩, b3⟩, b4⟩, b5⟩, b6⟩, b7⟩, b8⟩, b9⟩ := h5
  exact ⟨a1, a2, fun k hk => a3 k (Nat.lt_of_succ_lt_succ hk), a4, h2, h3.2, h3.1, h4, b3, b5, b6, b8⟩
theorem doc_eq (sg : Nat → Nat) {dN : List Nat} (h : RowOK dN) : nestF (hdS sg) (dN.map Int.ofNat) = tx (fT (hdS sg) (rowsOf dN)) ∧ toldF (hdS sg) (dN.map Int.ofNat) = tx (fT (hdS sg) (rowsOf dN)) := by
  have hdn : ∀ k, k < 7 → ((dN.map Int.ofNat).getD k 0).toNat = dN.getD k 0 := by
    intro k hk
    have hk' : k < dN.length := by rw [h.len]; exact hk
    simp [List.getD_eq_getElem?_getD, List.getElem?_map, List.getElem?_eq_getElem hk']
  have e2 : toldF (hdS sg) (dN.map Int.ofNat) = tx (fT (hdS sg) (rowsOf dN)) := by
    unfold toldF fT rowsOf
    rw [List.flatMap_map]
    congr 1
    refine flatMap_congr7 fun k hk => ?_
    unfold toldRow rowT
    rw [hdn k hk]
  exact ⟨(nest_told (hdS sg) _ (fun k => dN.getD k 0) hdn h.le3 h.nx h.z0).trans e2, e2⟩
where
  flatMap_congr7 {f g : Nat → List Nat} (h : ∀ k, k < 7 → f k = g k) : (List.range 7).flatMap f = (List.range 7).flatMap g := by
    show [f 0, f 1, f 2, f 3, f 4, f 5, f 6].flatten = [g 0, g 1, g 2, g 3, g 4, g 5, g 6].flatten
    rw [h 0 (by (with_reducible (refine o_lts ?_; ((iterate 7 (try (first | assumption | exact Nat.le_refl _ | refine Nat.le_trans (by assumption) ?_ | refine o_s1 (by assumption) ?_ | refine o_s2 (by assumption) ?_ | refine o_s3 (by assumption) ?_ | refine o_s4 (by assumption) ?_ | refine Nat.le_succ_of_le ?_))); done)))), h 1 (by (with_reducible (refine o_lts ?_; ((iterate 7 (try (first | assumption | exact Nat.le_refl _ | refine Nat.le_trans (by assumption) ?_ | refine o_s1 (by assumption) ?_ | refine o_s2 (by assumption) ?_ | refine o_s3 (by assumption) ?_ | refine o_s4 (by assumption) ?_ | refine Nat.le_succ_of_le ?_))); done)))), h 2 (by (with_reducible (refine o_lts ?_; ((iterate 7 (try (first | assumption | exact Nat.le_refl _ | refine Nat.le_trans (by assumption) ?_ | refine o_s1 (by assumption) ?_ | refine o_s2 (by assumption) ?_ | refine o_s3 (by assumption) ?_ | refine o_s4 (by assumption) ?_ | refine Nat.le_succ_of_le ?_))); done)))), h 3 (by (with_reducible (refine o_lts ?_; ((iterate 7 (try (first | assumption | exact Nat.le_refl _ | refine Nat.le_trans (by assumption) ?_ | refine o_s1 (by assumption) ?_ | refine o_s2 (by assumption) ?_ | refine o_s3 (by assumption) ?_ | refine o_s4 (by assumption) ?_ | refine Nat.le_succ_of_le ?_))); done)))), h 4 (by (with_reducible (refine o_lts ?_; ((iterate 7 (try (first | assumption | exact Nat.le_refl _ | refine Nat.le_trans (by assumption) ?_ | refine o_s1 (by assumption) ?_ | refine o_s2 (by assumption) ?_ | refine o_s3 (by assumption) ?_ | refine o_s4 (by assumption) ?_ | refine Nat.le_succ_of_le ?_))); done)))), h 5 (by (with_reducible (refine o_lts ?_; ((iterate 7 (try (first | assumption | exact Nat.le_refl _ | refine Nat.le_trans (by assumption) ?_ | refine o_s1 (by assumption) ?_ | refine o_s2 (by assumption) ?_ | refine o_s3 (by assumption) ?_ | refine o_s4 (by assumption) ?_ | refine Nat.le_succ_of_le ?_))); done)))), h 6 (by (with_reducible (refine o_lts ?_; ((iterate 7 (try (first | assumption | exact Nat.le_refl _ | refine Nat.le_trans (by assumption) ?_ | refine o_s1 (by assumption) ?_ | refine o_s2 (by assumption) ?_ | refine o_s3 (by assumption) ?_ | refine o_s4 (by assumption) ?_ | refine Nat.le_succ_of_le ?_))); done))))]
theorem nats_of {vs : List Value} : ∀ {ks : List Nat}, IntsAre vs (ks.map Int.ofNat) → NatsAre vs ks
  | [], h => by cases h; exact .nil
  | k :: ks, h => by
    cases h with
    | cons _ t r => exact .cons k t (nats_of r)
theorem ints_of {vs : List Value} {ks : List Nat} (h : NatsAre vs ks) : IntsAre vs (ks.map Int.ofNat) := by
  induction h with
  | nil => exact .nil
  | cons k t _ ih => exact .cons (Int.ofNat k) t ih
theorem cells_nat (ns : List Int) : ∃ cN : List Nat, cellsF ns = cN.map Int.ofNat ∧ cN.length = 7 ∧ ∀ k, k < 7 → cN.getD k 0 < 1000000 := by
  refine ⟨(List.range 7).map fun k => ((cellsF ns).getD k 0).toNat, ?_, by simp, fun k hk => ?_⟩
  · refine List.ext_getElem (by rw [cells_len]; simp) fun i h1 h2 => ?_
    rw [cells_len] at h1
    obtain ⟨c, e, _⟩ := cells_get ns h1
    simp only [List.getElem_map, List.getElem_range]
    rw [e]
    have : (cellsF ns)[i]'(by rw [cells_len]; exact h1) = (cellsF ns).getD i 0 := by
      rw [List.getD_eq_getElem?_getD, List.getElem?_eq_getElem (by rw [cells_len]; exact h1)]; rfl
    rw [this, e]
    rfl
  · obtain ⟨c, e, hc⟩ := cells_get ns hk
    have : ((List.range 7).map fun k => ((cellsF ns).getD k 0).toNat).getD k 0 = ((cellsF ns).getD k 0).toNat := by
      rw [List.getD_eq_getElem?_getD, List.getElem?_map, List.getElem?_range hk]; rfl
    rw [this, e]
    exact hc
/-- a row of the page: the lead and what stands behind it -/
def rowL (sg : Nat → Nat) (k d c S : Nat) : List Nat := leadF k d c S ++ [97 + k, sg k, 10]
theorem leadF_len (k d c S : Nat) (h5 : S ≤ 5) (hd : d ≤ 3) (h1 : 1 ≤ S) : (leadF k d c S).length ≤ 510 := by
  unfold leadF
  rw [List.length_append]
  have h2 : (bl (k % S)).length = k % S := by simp [bl]
  exact Nat.le_trans (Nat.add_le_add (lead_len k c S d h5 hd) (Nat.le_trans (Nat.le_of_eq h2) (Nat.le_trans (Nat.le_of_lt (Nat.mod_lt k h1)) h5))) (by decide)
theorem row_pre (sg : Nat → Nat) (k d c S : Nat) (hk : k < 7) : (rowL sg k d c S).takeWhile blank = leadF k d c S := by
  unfold rowL
  refine takeWhile_pre (lead_blank k d c S) ?_
  have key : ∀ k < 7, blank (97 + k) = false := by decide +kernel
  exact key k hk
theorem row_slice (sg : Nat → Nat) (k d c S : Nat) : Txt.slice (tx (rowL sg k d c S)) (some (((leadF k d c S).length : Nat) : Int)) none = tx [97 + k, sg k, 10] := by
  unfold rowL
  rw [slice_from (by rw [List.length_append]; exact Nat.le_add_right _ _), List.drop_left]
theorem head_slice (sg : Nat → Nat) (k : Nat) : Txt.slice (hdS sg k) (some 1) none = tx [97 + k, sg k, 10] := slice_from (l := [60, 97 + k, sg k, 10]) (n := 1) (by simp)
/-- columns with tokens that grow -/
def ColsAre (tk : Nat) (vs : List Value) (zs : List Nat) : Prop := ∃ ts : List Nat, vs = List.zipWith (fun (z t : Nat) => Value.int (z : Int) t) zs ts ∧ ts.length = zs.length ∧ ts.Pairwise (· < ·) ∧ ∀ t ∈ ts, 1 ≤ t ∧ t < tk
theorem ColsAre.nil (tk : Nat) : ColsAre tk [] [] := ⟨[], rfl, rfl, .nil, fun _ h => nomatch h⟩
theorem ColsAre.mono {a b : Nat} {vs : List Value} {zs : List Nat} (h : ColsAre a vs zs) (hab : a ≤ b) : ColsAre b vs zs :=
  let ⟨ts, e, hl, hp, ht⟩ := h
  ⟨ts, e, hl, hp, fun t hm => ⟨(ht t hm).1, Nat.lt_of_lt_of_le (ht t hm).2 hab⟩⟩
theorem ColsAre.snoc {a b : Nat} {vs : List Value} {zs : List Nat} (h : ColsAre a vs zs) {z t : Nat} (h1 : a ≤ t) (h2 : t < b) (h0 : 1 ≤ t) : ColsAre b (vs ++ [.int (z : Int) t]) (zs ++ [z]) := by
  obtain ⟨ts, rfl, hl, hp, ht⟩ := h
  refine ⟨ts ++ [t], ?_, by simp [hl], ?_, ?_⟩
  · rw [List.zipWith_append hl.symm]; rfl
  · rw [List.pairwise_append]
    exact ⟨hp, List.pairwise_singleton _ _, fun x hx y hy => by cases List.mem_singleton.mp hy; exact Nat.lt_of_lt_of_le (ht x hx).2 h1⟩
  · intro x hx
    rcases List.mem_append.mp hx with hx | hx
    · exact ⟨(ht x hx).1, Nat.lt_trans (Nat.lt_of_lt_of_le (ht x hx).2 h1) h2⟩
    · cases List.mem_singleton.mp hx
      exact ⟨h0, h2⟩
theorem ColsAre.nats {a : Nat} : ∀ {zs : List Nat} {vs : List Value}, ColsAre a vs zs → NatsAre vs zs
  | [], _, ⟨ts, e, hl, _, _⟩ => by subst e; simp at hl; subst hl; exact .nil
  | z :: zs, _, ⟨t :: ts, e, hl, hp, ht⟩ => by
    subst e
    exact .cons z t (ColsAre.nats ⟨ts, rfl, by simpa using hl, (List.pairwise_cons.mp hp).2, fun x hx => ht x (List.mem_cons_of_mem _ hx)⟩)
  | _ :: _, _, ⟨[], _, hl, _, _⟩ => by simp at hl
/-- the token of a column tells which it is -/
theorem ColsAre.tok {a : Nat} {zs : List Nat} {vs : List Value} (h : ColsAre a vs zs) {i : Nat} {z : Int} {t : Nat} (hi : vs[i]? = some (.int z t)) : 1 ≤ t ∧ t < a ∧ ∀ z' t', Value.int z' t' ∈ vs → @Ne Nat t' 0 ∧ (@LT.lt Nat _ t' a) ∧ (@Eq Nat t' t → z' = z) := by
  obtain ⟨ts, rfl, hl, hp, ht⟩ := h
  have get : ∀ {j : Nat} {y : Int} {u : Nat}, (List.zipWith (fun (z t : Nat) => Value.int (z : Int) t) zs ts)[j]? = some (.int y u) → ∃ k, zs[j]? = some k ∧ y = (k : Int) ∧ ts[j]? = some u := by
    intro j y u e
    rw [List.getElem?_zipWith] at e
    cases h1 : zs[j]? with
    | none => rw [h1] at e; cases e
    | some k =>
      cases h2 : ts[j]? with
      | none => rw [h1, h2] at e; cases e
      | some v => rw [h1, h2] at e; cases e; exact ⟨k, rfl, rfl, rfl⟩
  obtain ⟨k, hk, rfl, htk⟩ := get hi
  have hm := ht t (List.mem_of_getElem? htk)
  refine ⟨hm.1, hm.2, fun z' t' hmem => ?_⟩
  obtain ⟨j, hj⟩ := List.mem_iff_getElem?.mp hmem
  obtain ⟨k', hk', rfl, htk'⟩ := get hj
  have hm' := ht t' (List.mem_of_getElem? htk')
  refine ⟨by show @Ne Nat _ _; exact Nat.ne_of_gt hm'.1, hm'.2, fun e => ?_⟩
  have hij : i = j := by
    obtain ⟨hi1, hi2⟩ := List.getElem?_eq_some_iff.mp htk
    obtain ⟨hj1, hj2⟩ := List.getElem?_eq_some_iff.mp htk'
    rcases Nat.lt_trichotomy i j with h | h | h
    · have := List.pairwise_iff_getElem.mp hp i j hi1 hj1 h
      have e : t' = t := e
      exact absurd this (by rw [hi2, hj2, e]; exact Nat.lt_irrefl t)
    · exact h
    · have := List.pairwise_iff_getElem.mp hp j i hj1 hi1 h
      have e : t' = t := e
      exact absurd this (by rw [hi2, hj2, e]; exact Nat.lt_irrefl t)
  subst hij
  rw [hk] at hk'
  cases hk'
  rfl
theorem item_head {w : World} {A : Around} {E : Value → Shared → Prop} {s : Shared} {gh : Heap} {L : Addr} {news : Led} {value slice : PySem.Expr} {l : Addr} {vs : List Value} {hs : Nat → Str} {k : Int} {i n : Nat} {u : Tok} {Q : Value → Shared → Prop} (N : News gh L s.heap news) (hm : (l, listOf vs.toArray n) ∈ news) (h : StrsAre vs ((List.range 7).map hs)) (hk : k = (i : Int)) (hi : i < 7)
    (hq : ∀ t, Q (.str (hs i) t) s)
    (hs' : subscripted slice false (.ref l) (.int k u) = operate [.ref l, .int k u] (getItem (.ref l) (.int k u)) := by with_unfolding_all rfl) :
    wpAny (model pw w) A (subscriptTail value slice (.ref l) (.int k u)) Q E s := by
  subst hk
  refine item_strsR (ys := (List.range 7).map hs) (l := l) (vs := vs) ⟨_, (N _ hm).1, rfl, _, rfl⟩ h (Int.natCast_nonneg _) (by rw [List.length_map, List.length_range]; (with_reducible exact o_castlt (by assumption))) (by (with_reducible exact o_63 (by assumption) (by decide))) (fun t => ?_) hs'
  have e : ((List.range 7).map hs).getD ((i : Int)).toNat Str.empty = hs i := by
    rw [Int.toNat_natCast, List.getD_eq_getElem?_getD, List.getElem?_map, List.getElem?_range hi]; rfl
  rw [e]
  exact hq t
theorem slice_is {w : World} {A : Around} {E : Value → Shared → Prop} {s : Shared} {g : Heap} {L : Addr} {m : Str → Option Value} {news : Led} {value slice : PySem.Expr} {x y : Str} {t ui : Tok} {i : Int} {Q : Value → Shared → Prop} (e : Txt.slice x (some i) none = y) (F : Fr g L s.heap m) (N : News g L s.heap news) (hsz : x.length ≤ 1000000)
    (h : ∀ h' t' k, s.toks ≤ k → Fr g L h' m → News g L h' news → Q (.str y t') { s with heap := h', toks := k })
    (hs : subscripted slice false (.str x t) (.ref s.heap.objs.size) = operate [.ref s.heap.objs.size, .str x t] (getItem (.str x t) (.ref s.heap.objs.size)) := by with_unfolding_all rfl)
    (ht : ∀ r, letTemporaryGo value (.str x t) r = pure () := by intro _; with_unfolding_all rfl) :
    wpAny (model pw w) A (subscriptTail value slice (.str x t) (.ref s.heap.objs.size)) Q E { s with heap := s.heap.push { cls := .type "slice", data := .fields #[.int i ui, .none, .none] } } := by
  subst e
  exact slice_led F N hsz h hs ht
theorem col_val {S i d c : Nat} (h1 : 1 ≤ S) : ((levelS S (wsRun (leadF i d c S)) : Nat) : Int) - (7 * (S : Int) + (i : Int).fmod (S : Int)) = ((d * S : Nat) : Int) := by
  rw [lead_level h1, Int.fmod_eq_emod_of_nonneg _ (Int.natCast_nonneg _), ← Int.natCast_emod]
  generalize i % S = e
  generalize d * S = f
  exact (congrArg (· - ((7 * S + e : Nat) : Int)) (Int.add_comm ((7 * S + e : Nat) : Int) (f : Int))).trans (Int.add_sub_cancel (f : Int) ((7 * S + e : Nat) : Int))
theorem reads_none (h : Heap) : ∀ n : Nat, ReadsAll h (List.replicate n Value.none) (List.replicate n PyData.none) []
  | 0 => .nil
  | n + 1 => .cons (as := []) (bs := []) .none (reads_none h n)
theorem ne_nones {w : World} {A : Around} {E : Value → Shared → Prop} {s : Shared} {gh : Heap} {L : Addr} {news : Led} {a b : Addr} {i j : Nat} {Q : Value → Shared → Prop} (N : News gh L s.heap news) (ha : (a, listOf (List.replicate 28 Value.none).toArray i) ∈ news) (hb : (b, listOf (List.replicate 28 Value.none).toArray j) ∈ news) (hu : A.units + 64 < cLine) (h : Q (.bool false) s) :
    wpAny (model pw w) A (compareOp .NotEq (.ref a) (.ref b)) Q E s :=
  ne_dataH (.list (N _ ha).1 rfl rfl (reads_none _ 28)) (.list (N _ hb).1 rfl rfl (reads_none _ 28)) (by decide) (by decide) hu (by rw [show (!PyData.eqv (.list (List.replicate 28 PyData.none)) (.list (List.replicate 28 PyData.none))) = false by decide]; exact h)
theorem ne_nils {w : World} {A : Around} {E : Value → Shared → Prop} {s : Shared} {gh : Heap} {L : Addr} {news : Led} {a b : Addr} {i j : Nat} {Q : Value → Shared → Prop} (N : News gh L s.heap news) (ha : (a, listOf #[] i) ∈ news) (hb : (b, listOf #[] j) ∈ news) (hu : A.units + 64 < cLine) (h : Q (.bool false) s) :
    wpAny (model pw w) A (compareOp .NotEq (.ref a) (.ref b)) Q E s :=
  ne_dataH (.list (N _ ha).1 rfl rfl .nil) (.list (N _ hb).1 rfl rfl .nil) (by decide) (by decide) hu (by rw [show (!PyData.eqv (.list []) (.list [])) = false by decide]; exact h)
def agS : Str := Txt.mul (Str.ofString "ABCDEFG") ((2 : Nat) : Int)
theorem ag_get : ∀ i < 7, agS.cps[i]? = some (65 + i) := by decide +kernel
theorem ag_facts {k : Nat} (hk : k < 7) : agS.cps.all (· < 128) = true ∧ (∀ i d, i < k → agS.cps[i]? = some d → (⟨#[d]⟩ : Str) ≠ capS k) ∧ (∀ d, agS.cps[k]? = some d → capS k = ⟨#[d]⟩) ∧ k < agS.cps.size := by
  refine ⟨by decide +kernel, fun i d hi e => ?_, fun d e => ?_, ?_⟩
  · rw [ag_get i (Nat.lt_trans hi hk)] at e
    cases e
    intro h
    have := congrArg (fun s : Str => s.cps.getD 0 0) h
    have : 65 + i = 65 + k := this
    exact Nat.ne_of_lt hi (Nat.add_left_cancel this)
  · rw [ag_get k hk] at e
    cases e
    rfl
  · have : agS.cps.size = 14 := by decide +kernel
    (with_reducible exact o_ltl (by assumption) (by decide))
theorem take_snoc {α : Type} {l : List α} {i : Nat} {d : α} (hi : i < l.length) : l.take (i + 1) = l.take i ++ [l.getD i d] := by
  rw [List.take_add_one, List.getElem?_eq_getElem hi, List.getD_eq_getElem?_getD, List.getElem?_eq_getElem hi]
  rfl
theorem item_col {w : World} {A : Around} {E : Value → Shared → Prop} {s : Shared} {gh : Heap} {L : Addr} {news : Led} {value slice : PySem.Expr} {l : Addr} {vs : List Value} {ks : List Nat} {k : Int} {i n : Nat} {u : Tok} {Q : Value → Shared → Prop} (N : News gh L s.heap news) (hm : (l, listOf vs.toArray n) ∈ news) (h : NatsAre vs ks) (hk : k = (i : Int)) (hi : i < ks.length) (hi2 : i < 1000)
    (hq : ∀ t, vs[i]? = some (.int ((ks.getD i 0 : Nat) : Int) t) → Q (.int ((ks.getD i 0 : Nat) : Int) t) s)
    (hs : subscripted slice false (.ref l) (.int k u) = operate [.ref l, .int k u] (getItem (.ref l) (.int k u)) := by with_unfolding_all rfl) :
    wpAny (model pw w) A (subscriptTail value slice (.ref l) (.int k u)) Q E s := by
  subst hk
  obtain ⟨t, ht⟩ := h.get hi
  exact item_listR (items := vs.toArray) ⟨_, (N _ hm).1, rfl, _, rfl⟩ (Int.natCast_nonneg _) (by (with_reducible exact o_63 (by assumption) (by decide))) (by rw [Int.toNat_natCast]; simpa using ht) (hq t ht) hs
def colsN (dN : List Nat) (S : Nat) : List Nat := (List.range 7).map fun j => dN.getD j 0 * S
theorem cols_map {dN : List Nat} (h7 : dN.length = 7) (S : Nat) : (colsN dN S).map Int.ofNat = dN.map fun d => ((d * S : Nat) : Int) := by
  refine List.ext_getElem (by simp [colsN, h7]) fun i h1 h2 => ?_
  have hi : i < dN.length := by simpa using h2
  simp [colsN, List.getD_eq_getElem?_getD, List.getElem?_eq_getElem hi]
theorem ints_take {vs : List Value} {zs : List Int} (h : IntsAre vs zs) : ∀ n, IntsAre (vs.take n) (zs.take n) := by
  induction h with
  | nil => intro n; simp; exact .nil
  | cons k t _ ih =>
    intro n
    cases n with
    | zero => exact .nil
    | succ n => exact .cons k t (ih n)
theorem ints_drop {vs : List Value} {zs : List Int} (h : IntsAre vs zs) : ∀ n, IntsAre (vs.drop n) (zs.drop n) := by
  induction h with
  | nil => intro n; simp; exact .nil
  | cons k t h ih =>
    intro n
    cases n with
    | zero => exact .cons k t h
    | succ n => exact ih n
theorem count_f (S : Nat) (h1 : 1 ≤ S) (l : List Nat) (d : Nat) : (l.map fun d => ((d * S : Nat) : Int)).count ((d * S : Nat) : Int) = (l.filter (· == d)).length := by
  rw [List.count_eq_countP, List.countP_map, ← List.countP_eq_length_filter]
  refine List.countP_congr fun x _ => ?_
  simp only [Function.comp_apply, beq_iff_eq]
  constructor
  · intro h
    have h : x * S = d * S := by exact_mod_cast h
    exact Nat.eq_of_mul_eq_mul_right h1 h
  · intro h
    rw [h]
theorem due_val {dN : List Nat} (h7 : dN.length = 7) {S : Nat} (h1 : 1 ≤ S) {p : Nat} (hp : p < 7) :
    ((((colsN dN S).map Int.ofNat).drop (p + 1)).count (((colsN dN S).getD p 0 : Nat) : Int) : Int) + ((((colsN dN S).map Int.ofNat).take p).count ((((colsN dN S).getD p 0 : Nat) : Int) + (S : Int)) : Int) = ((dueF dN p : Nat) : Int) := by
  have e : (colsN dN S).getD p 0 = dN.getD p 0 * S := by
    simp [colsN, hp]
  have e2 : ((dN.getD p 0 * S : Nat) : Int) + (S : Int) = (((dN.getD p 0 + 1) * S : Nat) : Int) := by
    rw [Nat.add_mul, Nat.one_mul]; rfl
  rw [cols_map h7, e, e2, ← List.map_drop, ← List.map_take, count_f S h1, count_f S h1]
  rfl
theorem pick_to {l : List Value} {p : Nat} (h : p ≤ l.length) : kms_pick l none (some (p : Int)) = l.take p := by
  have h1 : kms_lo none l.length = 0 := by simp [kms_lo]
  have h2 : kms_hi (some (p : Int)) l.length = p := by
    show (if (p : Int) < 0 then l.length - (-(p : Int)).toNat else min (p : Int).toNat l.length) = p
    rw [if_neg (Int.not_lt.mpr (Int.natCast_nonneg p)), Int.toNat_natCast]
    exact Nat.min_eq_left h
  unfold kms_pick
  rw [h1, h2]
  rfl
theorem pick_from {l : List Value} {p : Nat} (h : p ≤ l.length) : kms_pick l (some (p : Int)) none = l.drop p := by
  have h1 : kms_lo (some (p : Int)) l.length = p := by
    show (if (p : Int) < 0 then l.length - (-(p : Int)).toNat else min (p : Int).toNat l.length) = p
    rw [if_neg (Int.not_lt.mpr (Int.natCast_nonneg p)), Int.toNat_natCast]
    exact Nat.min_eq_left h
  have h2 : kms_hi none l.length = l.length := by simp [kms_hi]
  unfold kms_pick
  rw [h1, h2]
  exact List.take_of_length_le (by rw [List.length_drop]; (with_reducible ((iterate 7 (try (first | assumption | exact Nat.le_refl _ | refine Nat.le_trans (by assumption) ?_ | refine o_s1 (by assumption) ?_ | refine o_s2 (by assumption) ?_ | refine o_s3 (by assumption) ?_ | refine o_s4 (by assumption) ?_ | refine Nat.le_succ_of_le ?_))); done)))
theorem abc_item : ∀ k < 7, Txt.item (Str.ofString "ABCDEFG") ((k : Nat) : Int) = capS k := by decide +kernel
theorem abc_at {w : World} {A : Around} {E : Value → Shared → Prop} {s : Shared} {value slice : PySem.Expr} {k : Nat} {t u : Tok} {Q : Value → Shared → Prop} (hk : k < 7) (h : Q (.str (capS k) s.toks) { s with toks := s.toks + 1 })
    (hs : subscripted slice false (.str (Str.ofString "ABCDEFG") t) (.int (k : Int) u) = operate [.str (Str.ofString "ABCDEFG") t, .int (k : Int) u] (getItem (.str (Str.ofString "ABCDEFG") t) (.int (k : Int) u)) := by with_unfolding_all rfl)
    (ht : ∀ r, letTemporaryGo value (.str (Str.ofString "ABCDEFG") t) r = pure () := by intro _; with_unfolding_all rfl) :
    wpAny (model pw w) A (subscriptTail value slice (.str (Str.ofString "ABCDEFG") t) (.int (k : Int) u)) Q E s := by
  have h7 : (Str.ofString "ABCDEFG").length = 7 := by decide
  refine item_str (fitsSsize_of (N := 9223372036854775808) (Int.lt_of_lt_of_le (by decide) (Int.natCast_nonneg _)) (Int.lt_trans (Int.ofNat_lt.mpr hk) (by decide)) (Int.le_refl _)) (Int.le_trans (by decide) (Int.natCast_nonneg _)) (by rw [h7]; (with_reducible exact o_castlt (by assumption))) (fun _ => ?_) hs ht
  rw [abc_item k hk]
  exact h
theorem page_val {S k d : Nat} (h1 : 1 ≤ S) : -(((k : Int).fmod (S : Int) - ((d * S : Nat) : Int)).fdiv (S : Int)) = (d : Int) := by
  have hS : (0 : Int) < (S : Int) := Int.ofNat_lt.mpr h1
  have e1 : (k : Int).fmod (S : Int) = ((k % S : Nat) : Int) := by rw [Int.fmod_eq_emod_of_nonneg _ (Int.natCast_nonneg _), ← Int.natCast_emod]
  have hlt : k % S < S := Nat.mod_lt k h1
  rw [e1, Int.fdiv_eq_ediv_of_nonneg _ (Int.natCast_nonneg _)]
  have e2 : ((k % S : Nat) : Int) - ((d * S : Nat) : Int) = ((k % S : Nat) : Int) + (-(d : Int)) * (S : Int) := by
    rw [Int.natCast_mul, Int.neg_mul]; rfl
  rw [e2, Int.add_mul_ediv_right _ _ (Int.ne_of_gt hS), Int.ediv_eq_zero_of_lt (by (with_reducible exact Int.natCast_nonneg _)) (by (with_reducible exact o_castlt (by assumption)))]
  rw [Int.zero_add]
  exact Int.neg_neg _
theorem PrAre.get {R : Led} {P : Nat → Value → Prop} {vs : List Value} {l : List (Nat × Nat)} (h : PrAre R P vs l) : ∀ {i : Nat} {v : Value}, vs[i]? = some v → ∃ q k d x td n, v = .ref q ∧ l[i]? = some (k, d) ∧ P k x ∧ (q, tupV x d td n) ∈ R := by
  induction h with
  | nil => intro i v e; cases e
  | cons q k d x td n hp hm _ ih =>
    intro i v e
    cases i with
    | zero => cases e; exact ⟨q, k, d, x, td, n, rfl, rfl, hp, hm⟩
    | succ i => exact ih (i := i) (by simpa using e)
def pgD (e : Nat × Nat) : PyData := .tuple [.str (capS e.1), .int (e.2 : Int)]
theorem reads_pairs {h : Heap} {R : Led} {vs : List Value} {l : List (Nat × Nat)} (hp : PrAre R IsC vs l) (hR : ∀ p ∈ R, h.get? p.1 = some p.2) : ∃ as, ReadsAll h vs (l.map pgD) as := by
  induction hp with
  | nil => exact ⟨_, .nil⟩
  | cons q k d x td n hx hm _ ih =>
    obtain ⟨t, rfl⟩ := hx
    obtain ⟨as, ih⟩ := ih
    exact ⟨_, .cons (.tuple (hR _ hm) rfl rfl (.cons (.str _ _) (.cons (.int _ _) .nil))) ih⟩
theorem pg_eqv : ∀ l : List (Nat × Nat), PyData.eqvAll (l.map pgD) (l.map pgD) = true
  | [] => by simp [PyData.eqvAll]
  | e :: l => by simp [PyData.eqvAll, PyData.eqv, pgD, pg_eqv l]
theorem cap_ok : ∀ k < 7, PyData.strOk (capS k) = true := by decide +kernel
theorem pg_lay : ∀ l : List (Nat × Nat), (∀ e ∈ l, e.1 < 7) → PyData.canLayAll0 (l.map pgD) = true
  | [], _ => rfl
  | e :: l, h => by simp [PyData.canLayAll0, PyData.canLay0, pgD, pg_lay l fun x hx => h x (List.mem_cons_of_mem _ hx), cap_ok e.1 (h e (List.mem_cons_self ..))]
theorem pg_depth : ∀ l : List (Nat × Nat), PyData.depthAll (l.map pgD) ≤ 1
  | [] => Nat.zero_le _
  | e :: l => by
    have := pg_depth l
    simp [PyData.depthAll, PyData.depth, pgD]
    exact Nat.max_le.mpr ⟨Nat.le_refl _, this⟩
theorem pg_shaped (l : List (Nat × Nat)) (h : ∀ e ∈ l, e.1 < 7) : SeqAt.shaped (.list (l.map pgD)) = true := by
  have := pg_depth l
  simp [SeqAt.shaped, PyData.canLay0, PyData.depth, pg_lay l h]
  (with_reducible exact o_le (by assumption) (by decide))
theorem eq_pages {w : World} {A : Around} {E : Value → Shared → Prop} {s : Shared} {gh : Heap} {L : Addr} {news R R' : Led} {a b : Addr} {i j : Nat} {gv pv : List Value} {l : List (Nat × Nat)} {Q : Value → Shared → Prop} (N : News gh L s.heap news) (ha : (a, listOf gv.toArray i) ∈ news) (hb : (b, listOf pv.toArray j) ∈ news) (h1 : PrAre R IsC gv l) (h2 : PrAre R' IsC pv l) (hR : ∀ p ∈ R, p ∈ news) (hR' : ∀ p ∈ R', p ∈ news) (hl : ∀ e ∈ l, e.1 < 7) (hu : A.units + 64 < cLine) (h : Q (.bool true) s) :
    wpAny (model pw w) A (compareOp .Eq (.ref a) (.ref b)) Q E s := by
  obtain ⟨x, hx⟩ := reads_pairs h1 (h := s.heap) fun p hp => (N p (hR p hp)).1
  obtain ⟨y, hy⟩ := reads_pairs h2 (h := s.heap) fun p hp => (N p (hR' p hp)).1
  refine eq_dataH (.list (N _ ha).1 rfl rfl hx) (.list (N _ hb).1 rfl rfl hy) (pg_shaped l hl) (pg_shaped l hl) hu ?_
  rw [show PyData.eqv (.list (l.map pgD)) (.list (l.map pgD)) = true by simp only [PyData.eqv]; exact pg_eqv l]
  exact h
theorem eq_types {w : World} {A : Around} {E : Value → Shared → Prop} {s : Shared} {gh : Heap} {L : Addr} {news : Led} {a b : Addr} {i j : Nat} {v : Value} {Q : Value → Shared → Prop} (N : News gh L s.heap news) (ha : (a, listOf (List.replicate 35 v).toArray i) ∈ news) (hb : (b, listOf (List.replicate 35 v).toArray j) ∈ news) (hu : A.units < cLine) (h : Q (.bool true) s) :
    wpAny (model pw w) A (compareOp .Eq (.ref a) (.ref b)) Q E s :=
  SeqAt.eq_listAt (e := fun _ => true) ⟨_, (N _ ha).1, rfl, _, rfl⟩ ⟨_, (N _ hb).1, rfl, _, rfl⟩ rfl hu (fun j h1 h2 => SeqAt.EqAt.same _) h
theorem eq_nats {w : World} {A : Around} {E : Value → Shared → Prop} {s : Shared} {gh : Heap} {L : Addr} {news : Led} {a b : Addr} {i j : Nat} {xs ys : List Value} {ks : List Nat} {Q : Value → Shared → Prop} (N : News gh L s.heap news) (ha : (a, listOf xs.toArray i) ∈ news) (hb : (b, listOf ys.toArray j) ∈ news) (h1 : NatsAre xs ks) (h2 : NatsAre ys ks) (hu : A.units + 64 < cLine) (h : Q (.bool true) s) :
    wpAny (model pw w) A (compareOp .Eq (.ref a) (.ref b)) Q E s :=
  ke_eq_ints ⟨_, (N _ ha).1, rfl, _, rfl⟩ ⟨_, (N _ hb).1, rfl, _, rfl⟩ (ints_of h1) (ints_of h2) hu (by rw [decide_eq_true rfl]; exact h)
end

section
open PySem PySem.W PySem.Calls PyProof.Rows
set_option Elab.async false
set_option maxRecDepth 100000
set_option maxHeartbeats 2000000
set_option linter.all false
local macro_rules | `(tactic| walk_at "exec For Name Name cons nil") => `(tactic| k_dflt (refine wpAny_For ?_ (by intro _; rfl)))
set_option hygiene false
local macro_rules | `(tactic| walk_at $s) => if ["call ref", "subscriptTail Name Name ref int", "call builtin:list.append", "binaryOp Mult str int", "binaryOp Add ref ref", "subscriptTail Constant", "truthy bool", "compareOp NotEq ref ref", "compareOp Eq ref ref", "binaryOp Mult ref int"].contains s.getString then `(tactic| refine unmark ?_) else Lean.Macro.throwUnsupported
abbrev lawT (lt lw lg li : Addr) (m₀ : Str → Option Value) : Str → Option Value := fun y => if y = "rest" then some (.ref li) else if y = "given" then some (.ref lg) else if y = "waits" then some (.ref lw) else if y = "taken" then some (.ref lt) else m₀ y
abbrev lawV (ldu lp : Addr) (m : Str → Option Value) : Str → Option Value := fun y => if y = "dues" then some (.ref ldu) else if y = "places" then some (.ref lp) else m y
theorem due_start (ldu lp : Addr) (m : Str → Option Value) (a b : Option Value) (ha : m "place" = a) (hb : m "farther" = b) : lawV ldu lp m = up "place" a (up "farther" b (lawV ldu lp m)) := by
  funext y
  by_cases h1 : y = "place"
  · subst h1; subst ha; rfl
  by_cases h2 : y = "farther"
  · subst h2; subst hb; rfl
  simp only [up, if_neg h1, if_neg h2]
theorem due_turn (m : Str → Option Value) (a b ua ub : Option Value) : up "farther" b (up "place" a (up "place" ua (up "farther" ub m))) = up "place" a (up "farther" b m) := by
  funext y
  by_cases h1 : y = "place"
  · subst h1; rfl
  by_cases h2 : y = "farther"
  · subst h2; rfl
  simp only [up, if_neg h1, if_neg h2]
def DueJ (ldu lp : Addr) (mT : Str → Option Value) (Z : Led) (dN taken : List Nat) (tk0 : Nat) : Nat → (Str → Option Value) → Led → Nat → Prop := fun i m nx tk => (∃ ua ub, m = up "place" ua (up "farther" ub (lawV ldu lp mT))) ∧ ∃ duv kd, nx = (ldu, listOf duv.toArray kd) :: Z ∧ NatsAre duv ((taken.take i).map (dueF dN)) ∧ tk0 ≤ tk
def LawEnd (g : Heap) (L : Addr) (s : Shared) (fl : Flow) (s' : Shared) : Prop := fl = .ret (.bool true) ∧ (∃ m, Fr g L s'.heap m) ∧ s'.os = s.os ∧ s'.gens = s.gens
theorem law_rest {w : World} {dN : List Nat} (hrow : RowOK dN) {S : Nat} (hS1 : 1 ≤ S) (hS5 : S ≤ 5) (mean : ExcName → Option Value) (mg mb : Str → Option Value) (dp un : Nat) (gd : Option (List Code)) (outer : List Env) (A₀ : Around) (base g : Heap) (L : Addr) (s : Shared) (f : Addr) (cdv : Value) (m₀ : Str → Option Value) (lt lw lg li lcol : Addr) (tvs wvs cvs : List Value) (kt kw kg ki kc : Nat) (Z : Led) (oC oS : Obj) (tS : Tok) (B : Below A₀ base outer g) (X : (K w.params).In g) (T : Top vw (looseW vw loose) mean mg mb g)
    (F : Fr g L s.heap (lawT lt lw lg li m₀)) (N : News g L s.heap ((lt, listOf tvs.toArray kt) :: (lw, listOf wvs.toArray kw) :: (lg, listOf (List.replicate 28 Value.none).toArray kg) :: (li, listOf #[] ki) :: (lcol, listOf cvs.toArray kc) :: Z)) (mC : (L + 1 + 1, oC) ∈ Z) (dC : oC.data = .cell (some (.ref lcol))) (mS : (L + 1, oS) ∈ Z) (dS : oS.data = .cell (some (.int S tS)))
    (hLe : LetAre s.toks tvs (qN (rowsOf dN) 7).taken) (hNa : NatsAre wvs (qN (rowsOf dN) 7).waits) (hcol : ColsAre s.toks cvs ((List.range 7).map fun j => dN.getD j 0 * S)) (ht : 1 ≤ s.toks) (hd : dp + 100 < recursionLimit) (hu : un + 600 < cLine) :
    let Aa : Around := ktrTop dp un gd "law" s34 L f cdv (cellsFrom (L + 1) s34.names []) outer
    wpAny (model pw w) Aa (execs (b34.drop 9) (envOfC "law" s34 L f cdv)) (fun fl s' => LawEnd g L s fl s') (fun _ _ => False) s := by
  intro Aa
  refine hide_post fun Post0 hP0 => ?_
  dsimp only [b34, b34x, List.drop]
  k_steps
  unfold Marked
  refine KMa.mul (vs := [Value.none]) (ws := List.replicate 28 Value.none) (by assumption) (by assumption) ⟨_, (by assumption : News _ _ _ _) _ (by k_mem) |>.1, rfl, _, rfl⟩ (by decide) (by decide) (by decide) rfl fun lz h1 F1 N1 l1 => ?_
  refine ne_nones N1 (i := kg) (j := 0) (by k_mem) (by k_mem) (by (try dsimp only); (with_reducible exact o_room (by assumption) (by decide))) ?_
  obtain ⟨N1⟩ : Nonempty (News g L h1 ((lt, listOf tvs.toArray kt) :: (lw, listOf wvs.toArray kw) :: (li, listOf #[] ki) :: (lcol, listOf cvs.toArray kc) :: Z)) := ⟨news_sub N1 (by (repeat refine List.forall_mem_cons.mpr ⟨by k_mem, ?_⟩); intro p hp; k_mem)⟩
  clear l1
  (try dsimp only)
  k_steps
  all_goals unfold Marked
  refine wpAny_truthy_bool ?_
  (try dsimp only)
  k_steps
  unfold Marked
  rename Fr _ _ _ _ => F2
  rename News _ _ _ _ => N2
  rename_i lz2 _ _
  refine ne_nils N2 (i := ki) (j := 0) (by k_mem) (by k_mem) (by (try dsimp only); (with_reducible exact o_room (by assumption) (by decide))) ?_
  (try dsimp only)
  k_steps
  all_goals unfold Marked
  refine wpAny_truthy_bool ?_
  obtain ⟨Z, mt, mw, ml, mC, mS, N2⟩ : ∃ Z2 : Led, (lt, listOf tvs.toArray kt) ∈ Z2 ∧ (lw, listOf wvs.toArray kw) ∈ Z2 ∧ (lcol, listOf cvs.toArray kc) ∈ Z2 ∧ (L + 1 + 1, oC) ∈ Z2 ∧ (L + 1, oS) ∈ Z2 ∧ News g L _ Z2 := ⟨_, by k_mem, by k_mem, by k_mem, by k_mem, by k_mem, N2⟩
  have htl := hrow.tl
  have htl2 : tvs.length = 7 := by rw [hLe.len, htl]
  (try dsimp only)
  k_steps
  rename Fr _ _ _ _ => F3
  rename News _ _ _ _ => N3
  refine comp_list (vs := tvs) (l := lt) (lo := listOf tvs.toArray kt) (F := F3) (N := N3) rfl (by decide) rfl rfl mt ⟨rfl, _, rfl⟩ (by rw [htl2]; decide) (by (try dsimp only); (with_reducible exact Nat.le_add_left 1 _))
    (fun n ys nx tk => nx = Z ∧ NatsAre ys ((qN (rowsOf dN) 7).taken.take n) ∧ s.toks ≤ tk) ⟨rfl, .nil, by (try dsimp only); (with_reducible ((iterate 7 (try (first | assumption | exact Nat.le_refl _ | refine Nat.le_trans (by assumption) ?_ | refine o_s1 (by assumption) ?_ | refine o_s2 (by assumption) ?_ | refine o_s3 (by assumption) ?_ | refine o_s4 (by assumption) ?_ | refine Nat.le_succ_of_le ?_))); done))⟩ ?_ (.name "places" _ rfl rfl rfl ?_) (by rintro _ _ _ _ _ hab ⟨a, b, c⟩; exact ⟨a, b, Nat.le_trans c hab⟩)
  · clear F3 N3
    rintro n v ys nx tk hv hl' HJ9
    (apply hide2 (a := ys) (b := nx); intro PP hPP)
    obtain ⟨rfl, hys, htk0⟩ := HJ9
    refine hPP _ _ ?_
    clear hPP
    rintro I oI C oC D m₂ h hoC hkv htk F4 N4 hoff ⟨i1, i2, i3⟩
    have hn7 : n < 7 := by
      have := (List.getElem?_eq_some_iff.mp hv).1
      (with_reducible exact o_lteq (by assumption) (by assumption))
    obtain ⟨tl, e, htl1, htl3⟩ := hLe.get (i := n) (by (with_reducible exact o_eqlt (by assumption) (by assumption)))
    rw [e] at hv
    cases hv
    have hk7 : (qN (rowsOf dN) 7).taken.getD n 0 < 7 := hrow.tlt _ (by rw [List.getD_eq_getElem?_getD, List.getElem?_eq_getElem (by (with_reducible exact o_eqlt (by assumption) (by assumption)))]; exact List.getElem_mem _)
    have hsn := take_snoc (l := (qN (rowsOf dN) 7).taken) (i := n) (d := 0) (by (with_reducible exact o_eqlt (by assumption) (by assumption)))
    obtain ⟨hz, hj, hc, hlt⟩ := ag_facts hk7
    generalize (qN (rowsOf dN) 7).taken.getD n 0 = kk at hk7 hz hj hc hlt hkv hsn
    refine wpAny_tests_nil ?_
    simp only [if_true]
    k_steps
    unfold Marked
    refine mul_ls (N := 2) rfl (by decide) (by decide) fun t1 k1 hk1 => ?_
    (try dsimp only at hk1)
    (try dsimp only)
    k_steps
    unfold Marked
    rename Fr _ _ _ _ => F5
    rename News _ _ _ _ => N5
    refine does_call (does_index agS (capS kk) _ tl kk _ hz hj hc hlt (by show @Ne Nat tl 0; omega) (s.toks) (by show @LE.le Nat _ tl s.toks; (with_reducible exact Nat.le_of_lt (by assumption)))) B F5 X N5 T rfl ?_ ?_ ?_ ?_
    · (try dsimp only); omega
    · (try dsimp only); (with_reducible exact o_room (by assumption) (by decide))
    · (try dsimp only); (with_reducible exact o_room (by assumption) (by decide))
    intro v' h2 tk2 n' hp'
    (apply hide2 (a := v') (b := n'); intro PP hPP)
    obtain ⟨rfl, t2, rfl⟩ := hp'
    refine hPP _ _ ?_
    clear hPP
    intro ht2 F6 N6
    (try dsimp only at ht2)
    refine cend _ F6 N6 hoff (by assumption) ⟨rfl, ?_, by (with_reducible ((iterate 7 (try (first | assumption | exact Nat.le_refl _ | refine Nat.le_trans (by assumption) ?_ | refine o_s1 (by assumption) ?_ | refine o_s2 (by assumption) ?_ | refine o_s3 (by assumption) ?_ | refine o_s4 (by assumption) ?_ | refine Nat.le_succ_of_le ?_))); done))⟩
    rw [hsn]
    exact hys.snoc
  · clear F3 N3
    rintro lp h2 tk2 ys nx9 F3 N3 hoffp htk2 HJ9
    revert F3 N3 hoffp
    (apply hide2 (a := ys) (b := nx9); intro PP hPP)
    obtain ⟨-, rfl, hys, htk3⟩ := HJ9
    refine hPP _ _ ?_
    clear hPP
    intro F3 N3 hoffp
    rw [htl2, List.take_of_length_le (by (with_reducible exact o_eqle (by assumption) (by decide)))] at hys
    (try dsimp only)
    k_steps
    rename Fr _ _ _ _ => F4
    rename News _ _ _ _ => N4
    rename_i ldu _ lA _
    obtain ⟨Z2, mp, mt, mw, ml, mC, mS, fZ, N4⟩ : ∃ Z2 : Led, (lp, listOf ys.toArray ys.length) ∈ Z2 ∧ (lt, listOf tvs.toArray kt) ∈ Z2 ∧ (lw, listOf wvs.toArray kw) ∈ Z2 ∧ (lcol, listOf cvs.toArray kc) ∈ Z2 ∧ (L + 1 + 1, oC) ∈ Z2 ∧ (L + 1, oS) ∈ Z2 ∧ (∀ p ∈ Z2, p.1 ≠ ldu) ∧ News g L _ ((ldu, listOf ([] : List Value).toArray 0) :: Z2) :=
      ⟨_, List.Mem.head _, by k_mem, by k_mem, by k_mem, by k_mem, by k_mem, List.forall_mem_cons.mpr ⟨Nat.ne_of_lt lA.1, fun p hp => Nat.ne_of_lt (allLt_mem lA.2 p hp)⟩, N4⟩
    have F4 : Fr g L _ (lawV ldu lp (lawT lt lw lg li m₀)) := F4
    generalize hmm : lawT lt lw lg li m₀ = mT at F4
    have hys7 : ys.length = 7 := by rw [hys.len, htl]
    refine for_list (lo := listOf ys.toArray ys.length) (vs := ys) rfl rfl rfl (List.mem_cons_of_mem _ mp) ⟨rfl, _, rfl⟩ F4 N4 (by (try dsimp only); (with_reducible exact Nat.le_add_left 1 _))
      (DueJ ldu lp mT Z2 dN (qN (rowsOf dN) 7).taken s.toks) ⟨⟨_, _, due_start _ _ _ _ _ rfl rfl⟩, [], 0, rfl, .nil, by (try dsimp only); (with_reducible ((iterate 7 (try (first | assumption | exact Nat.le_refl _ | refine Nat.le_trans (by assumption) ?_ | refine o_s1 (by assumption) ?_ | refine o_s2 (by assumption) ?_ | refine o_s3 (by assumption) ?_ | refine o_s4 (by assumption) ?_ | refine Nat.le_succ_of_le ?_))); done))⟩ (fun _ _ => False) (fun _ _ => False) ?_ ?_ (fun _ _ _ _ h => h.elim) (fun _ _ _ _ _ h => h.elim) (by rintro _ _ _ _ _ hab ⟨a, d, k, e, b, c⟩; exact ⟨a, d, k, e, b, Nat.le_trans c hab⟩)
    · clear F4 N4
      rintro i v m₁ nx9 h tk I io hv hl' HJ9
      (apply hide2 (a := m₁) (b := nx9); intro PP hPP)
      obtain ⟨⟨ua, ub, rfl⟩, duv, kd, rfl, hdu, htk0⟩ := HJ9
      refine hPP _ _ ?_
      clear hPP
      rintro hoff htk F5 N5
      refine hide_post fun Post1 hP1 => ?_
      have hi7 : i < 7 := by
        have := (List.getElem?_eq_some_iff.mp hv).1
        (with_reducible exact o_lteq (by assumption) (by assumption))
      obtain ⟨tp, e⟩ := hys.get (i := i) (by (with_reducible exact o_eqlt (by assumption) (by assumption)))
      rw [e] at hv
      cases hv
      have hk7 : (qN (rowsOf dN) 7).taken.getD i 0 < 7 := hrow.tlt _ (by rw [List.getD_eq_getElem?_getD, List.getElem?_eq_getElem (by (with_reducible exact o_eqlt (by assumption) (by assumption)))]; exact List.getElem_mem _)
      have hsn := take_snoc (l := (qN (rowsOf dN) 7).taken) (i := i) (d := 0) (by (with_reducible exact o_eqlt (by assumption) (by assumption)))
      generalize (qN (rowsOf dN) 7).taken.getD i 0 = pp at hk7 hsn F5 e
      rw [List.cons_append] at N5
      have hZI : ∀ p ∈ Z2 ++ [(I, io)], p.1 ≠ ldu := fun p hp => by
        rcases List.mem_append.mp hp with hp | hp
        · exact fZ p hp
        · cases List.mem_singleton.mp hp
          exact Ne.symm (hoff (ldu, _) (List.mem_cons_self ..))
      have hoffc : @Ne Nat ldu I := hoff (ldu, listOf duv.toArray kd) (List.mem_cons_self ..)
      have hoffd : ∀ p ∈ Z2, p.1 ≠ I := fun p hp => hoff p (List.mem_cons_of_mem _ hp)
      have ml2 := List.mem_append_left [(I, io)] ml
      have mC2 := List.mem_append_left [(I, io)] mC
      have mS2 := List.mem_append_left [(I, io)] mS
      generalize hZe : Z2 ++ [(I, io)] = Z3 at N5 hZI ml2 mC2 mS2
      clear hl'
      have hc7 : cvs.length = 7 := by have := hcol.nats.len; rw [List.length_map, List.length_range] at this; exact this
      have hczs : cvs.toArray.size ≤ sizeLine := by rw [List.size_toArray, hc7]; decide
      have hci : IntsAre cvs ((colsN dN S).map Int.ofNat) := ints_of hcol.nats
      have hcl7 : (colsN dN S).length = 7 := by simp [colsN]
      k_steps
      unfold Marked
      rename News _ _ _ _ => N6
      rename_i l1s _ _ _
      refine item_col (ks := colsN dN S) (i := pp) N6 (by k_mem) hcol.nats rfl (by (with_reducible exact o_eqlt (by assumption) (by assumption))) (by (with_reducible exact o_ltl (by assumption) (by decide))) fun t1 ht1 => ?_
      (try dsimp only)
      k_steps
      unfold Marked
      rename Fr _ _ _ _ => F7
      rename News _ _ _ _ => N7
      refine does_call (does_opadd _ _ _ _ _ (s.toks - 1)) B F7 X N7 T rfl ?_ ?_ ?_ ?_
      · (try dsimp only); omega
      · (try dsimp only); (with_reducible exact o_room (by assumption) (by decide))
      · (try dsimp only); (with_reducible exact o_room (by assumption) (by decide))
      intro v' h3 tk3 n' hp'
      (apply hide2 (a := v') (b := n'); intro PP hPP)
      obtain ⟨rfl, t2, rfl, hlo, hhi⟩ := hp'
      refine hPP _ _ ?_
      clear hPP
      intro ht3 F8 N8
      clear F7 N7
      (try dsimp only at ht3)
      (try dsimp only)
      k_steps
      unfold Marked
      rename Fr _ _ _ _ => F7
      rename News _ _ _ _ => N7
      refine does_call (does_count l1s _ (cvs.take pp) (((colsN dN S).map Int.ofNat).take pp) _ _ _ (List.Mem.head _) ⟨rfl, _, congrArg (fun l : List Value => Data.seq l.toArray 0) (pick_to (l := cvs) (p := pp) (by omega))⟩ (ints_take hci pp) (by show @Ne Nat t2 0; omega) (fun z t hm => ?_)) B F7 X N7 T rfl ?_ ?_ ?_ ?_
      · obtain ⟨x1, x2, x3⟩ := hcol.tok ht1
        obtain ⟨y1, y2, y3⟩ := x3 z t (List.mem_of_mem_take hm)
        exact ⟨y1, fun e => absurd e (by show @Ne Nat t t2; omega)⟩
      · (try dsimp only); (with_reducible exact Nat.le_add_left 1 _)
      · (try dsimp only); (with_reducible exact o_room (by assumption) (by decide))
      · (try dsimp only); (with_reducible exact o_room (by assumption) (by decide))
      intro v' h4 tk4 n' hp'
      (apply hide2 (a := v') (b := n'); intro PP hPP)
      obtain ⟨rfl, t3, rfl⟩ := hp'
      refine hPP _ _ ?_
      clear hPP
      intro ht4 F8 N8
      clear F7 N7
      (try dsimp only at ht4)
      (try dsimp only)
      obtain ⟨N8⟩ : Nonempty (News g L h4 ((ldu, listOf duv.toArray kd) :: Z3)) := ⟨news_sub N8 (by refine List.forall_mem_cons.mpr ⟨by k_mem, ?_⟩; intro p hp; k_mem)⟩
      k_steps
      unfold Marked
      rename News _ _ _ _ => N6
      rename_i l2s _ _ _
      refine item_col (ks := colsN dN S) (i := pp) N6 (by k_mem) hcol.nats rfl (by (with_reducible exact o_eqlt (by assumption) (by assumption))) (by (with_reducible exact o_ltl (by assumption) (by decide))) fun t4 ht4c => ?_
      obtain ⟨x1, x2, x3⟩ := hcol.tok ht4c
      (try dsimp only)
      k_steps
      unfold Marked
      rename Fr _ _ _ _ => F7
      rename News _ _ _ _ => N7
      refine does_call (does_count l2s _ (cvs.drop (pp + 1)) (((colsN dN S).map Int.ofNat).drop (pp + 1)) _ _ _ (List.Mem.head _) ⟨rfl, _, congrArg (fun l : List Value => Data.seq l.toArray 0) (pick_from (l := cvs) (p := pp + 1) (by omega))⟩ (ints_drop hci (pp + 1)) (by show @Ne Nat t4 0; omega) (fun z t hm => ?_)) B F7 X N7 T rfl ?_ ?_ ?_ ?_
      · obtain ⟨y1, y2, y3⟩ := x3 z t (List.mem_of_mem_drop hm)
        exact ⟨y1, y3⟩
      · (try dsimp only); (with_reducible exact Nat.le_add_left 1 _)
      · (try dsimp only); (with_reducible exact o_room (by assumption) (by decide))
      · (try dsimp only); (with_reducible exact o_room (by assumption) (by decide))
      intro v' h5 tk5 n' hp'
      (apply hide2 (a := v') (b := n'); intro PP hPP)
      obtain ⟨rfl, t5, rfl⟩ := hp'
      refine hPP _ _ ?_
      clear hPP
      intro ht5 F8 N8
      clear F7 N7
      (try dsimp only at ht5)
      (try dsimp only)
      k_steps
      unfold Marked
      rename Fr _ _ _ _ => F7
      rename News _ _ _ _ => N7
      refine does_call (does_opadd _ _ _ _ _ 0) B F7 X N7 T rfl ?_ ?_ ?_ ?_
      · (try dsimp only); (with_reducible exact Nat.le_add_left 1 _)
      · (try dsimp only); (with_reducible exact o_room (by assumption) (by decide))
      · (try dsimp only); (with_reducible exact o_room (by assumption) (by decide))
      intro v' h6 tk6 n' hp'
      (apply hide2 (a := v') (b := n'); intro PP hPP)
      obtain ⟨rfl, t6, rfl, -, -⟩ := hp'
      refine hPP _ _ ?_
      clear hPP
      intro ht6 F8 N8
      clear F7 N7
      (try dsimp only at ht6)
      rw [due_val hrow.len hS1 hk7]
      (try dsimp only)
      k_steps
      unfold Marked
      have hdl : duv.length ≤ 1000 := by
        have := hdu.len
        rw [List.length_map, List.length_take] at this
        omega
      rename Fr _ _ _ _ => F7
      rename News _ _ _ _ => N7
      refine app_led (l := ldu) (rest := Z3) F7 (news_sub N7 (by refine List.forall_mem_cons.mpr ⟨by k_mem, ?_⟩; intro p hp; k_mem)) hZI hdl fun h7 F9 N9 => ?_
      (try dsimp only)
      k_steps
      subst hZe
      refine hP1 _ _ <| turn_next ((ldu, listOf (duv ++ [Value.int ((dueF dN pp : Nat) : Int) t6]).toArray (kd + 1)) :: Z2) F9 N9 (List.forall_mem_cons.mpr ⟨hoffc, hoffd⟩) ⟨List.mem_cons_of_mem _ mp, ⟨_, _, due_turn ..⟩, _, _, rfl, ?_, by (with_reducible ((iterate 7 (try (first | assumption | exact Nat.le_refl _ | refine Nat.le_trans (by assumption) ?_ | refine o_s1 (by assumption) ?_ | refine o_s2 (by assumption) ?_ | refine o_s3 (by assumption) ?_ | refine o_s4 (by assumption) ?_ | refine Nat.le_succ_of_le ?_))); done))⟩
      rw [hsn, List.map_append]
      exact hdu.snoc
    · clear F4 N4
      rintro m₁ nx9 h tk - HJ9
      (apply hide2 (a := m₁) (b := nx9); intro PP hPP)
      obtain ⟨⟨ua, ub, rfl⟩, duv, kd, rfl, hdu, htk0⟩ := HJ9
      refine hPP _ _ ?_
      clear hPP
      rintro htk F5 N5
      rw [hys7, List.take_of_length_le (by (with_reducible exact o_eqle (by assumption) (by decide))), ← hrow.dues] at hdu
      (try dsimp only)
      k_steps
      rename IsRange _ _ _ _ _ _ _ _ => RR
      rename Fr _ _ _ _ => FR
      rename News _ _ _ _ => NR
      rename_i hR tkR tR1 tR2 tR3 htkR
      obtain ⟨Z4, mdu, mp, mt, mw, ml, mC, mS, NR⟩ : ∃ Z4 : Led, (ldu, listOf duv.toArray kd) ∈ Z4 ∧ (lp, listOf ys.toArray ys.length) ∈ Z4 ∧ (lt, listOf tvs.toArray kt) ∈ Z4 ∧ (lw, listOf wvs.toArray kw) ∈ Z4 ∧ (lcol, listOf cvs.toArray kc) ∈ Z4 ∧ (L + 1 + 1, oC) ∈ Z4 ∧ (L + 1, oS) ∈ Z4 ∧ News g L hR Z4 :=
        ⟨(ldu, listOf duv.toArray kd) :: Z2, List.Mem.head _, List.mem_cons_of_mem _ mp, List.mem_cons_of_mem _ mt, List.mem_cons_of_mem _ mw, List.mem_cons_of_mem _ ml, List.mem_cons_of_mem _ mC, List.mem_cons_of_mem _ mS, NR⟩
      have FR : Fr g L hR (up "place" ua (up "farther" ub (lawV ldu lp mT))) := FR
      generalize hmU : up "place" ua (up "farther" ub (lawV ldu lp mT)) = mU at FR
      have hci : IntsAre cvs ((colsN dN S).map Int.ofNat) := ints_of hcol.nats
      have hcl7 : (colsN dN S).length = 7 := by simp [colsN]
      refine comp_range (n := 7) (F := FR) (N := (show News g L hR ([] ++ Z4) from NR)) rfl (by decide) rfl rfl RR (by decide +kernel) (by decide +kernel) (by decide) (by (try dsimp only); (with_reducible exact o_pos (by assumption)))
        (fun n ys nx tk => ∃ R, nx = R ++ Z4 ∧ PrAre R IsC ys ((List.range n).map fun k => (k, dN.getD k 0)) ∧ s.toks ≤ tk) ⟨[], rfl, .nil, by (try dsimp only); (with_reducible ((iterate 7 (try (first | assumption | exact Nat.le_refl _ | refine Nat.le_trans (by assumption) ?_ | refine o_s1 (by assumption) ?_ | refine o_s2 (by assumption) ?_ | refine o_s3 (by assumption) ?_ | refine o_s4 (by assumption) ?_ | refine Nat.le_succ_of_le ?_))); done))⟩ ?_ (.name "page" _ rfl rfl rfl ?_) (by rintro _ _ _ _ _ hab ⟨R, e, b, c⟩; exact ⟨R, e, b, Nat.le_trans c hab⟩)
      · clear FR NR
        rintro n t ys nx tk1 hn ⟨R, rfl, hys2, htk1⟩ I oI C oCC D m₂ h2 hoC hkv htk2 F4 N4 hoff ⟨i1, i2, i3⟩
        rw [show (0 + (n : Int) * 1) = (n : Int) by (with_reducible exact o_01 _)] at hkv
        have ml2 := List.mem_append_right R ml
        have mC2 := List.mem_append_right R mC
        have mS2 := List.mem_append_right R mS
        refine wpAny_tests_nil ?_
        simp only [if_true]
        k_steps
        unfold Marked
        refine abc_at hn ?_
        (try dsimp only)
        k_steps
        unfold Marked
        refine item_col (ks := colsN dN S) (i := n) N4 (by k_mem) hcol.nats rfl (by (with_reducible exact o_eqlt (by assumption) (by assumption))) (by (with_reducible exact o_ltl (by assumption) (by decide))) fun t1 ht1 => ?_
        rw [show (colsN dN S).getD n 0 = dN.getD n 0 * S by simp [colsN, hn]]
        (try dsimp only)
        k_steps
        unfold Marked
        rename Fr _ _ _ _ => F5
        rename News _ _ _ _ => N5
        refine does_call (does_opsub _ _ _ _ _ 0) B F5 X N5 T rfl ?_ ?_ ?_ ?_
        · (try dsimp only); (with_reducible exact Nat.le_add_left 1 _)
        · (try dsimp only); (with_reducible exact o_room (by assumption) (by decide))
        · (try dsimp only); (with_reducible exact o_room (by assumption) (by decide))
        intro v' h3 tk3 n' hp'
        (apply hide2 (a := v') (b := n'); intro PP hPP)
        obtain ⟨rfl, t2, rfl, -, -⟩ := hp'
        refine hPP _ _ ?_
        clear hPP
        intro ht3 F6 N6
        clear F5 N5
        (try dsimp only at ht3)
        (try dsimp only)
        k_steps
        unfold Marked
        rename Fr _ _ _ _ => F5
        rename News _ _ _ _ => N5
        refine does_call (does_opdiv _ (S : Int) _ _ _ (by omega) (by omega)) B F5 X N5 T rfl ?_ ?_ ?_ ?_
        · (try dsimp only); (with_reducible exact Nat.le_add_left 1 _)
        · (try dsimp only); (with_reducible exact o_room (by assumption) (by decide))
        · (try dsimp only); (with_reducible exact o_room (by assumption) (by decide))
        intro v' h4 tk4 n' hp'
        (apply hide2 (a := v') (b := n'); intro PP hPP)
        obtain ⟨rfl, t3, rfl⟩ := hp'
        refine hPP _ _ ?_
        clear hPP
        intro ht4 F6 N6
        clear F5 N5
        (try dsimp only at ht4)
        (try dsimp only)
        k_steps
        rename_i q h5 F7 N7 l7
        rw [page_val hS1] at N7
        refine cend ((q, tupV (.str (capS n) (tk1 + 1)) ((dN.getD n 0 : Nat) : Int) (tk4 + 1) 0) :: R ++ Z4) F7 (news_sub N7 (by refine List.forall_mem_cons.mpr ⟨by k_mem, ?_⟩; refine List.forall_mem_cons.mpr ⟨by k_mem, ?_⟩; refine List.forall_mem_cons.mpr ⟨by k_mem, ?_⟩; refine List.forall_mem_cons.mpr ⟨by k_mem, ?_⟩; intro p hp; k_mem)) (List.forall_mem_cons.mpr ⟨⟨Ne.symm (Nat.ne_of_lt l7.1), Ne.symm (Nat.ne_of_lt l7.2.1), Ne.symm (Nat.ne_of_lt l7.2.2.1)⟩, hoff⟩) trivial ⟨_, rfl, ?_, by (try dsimp only); (with_reducible ((iterate 7 (try (first | assumption | exact Nat.le_refl _ | refine Nat.le_trans (by assumption) ?_ | refine o_s1 (by assumption) ?_ | refine o_s2 (by assumption) ?_ | refine o_s3 (by assumption) ?_ | refine o_s4 (by assumption) ?_ | refine Nat.le_succ_of_le ?_))); done))⟩
        rw [List.range_succ, List.map_append]
        exact (hys2.sub fun p hp => List.mem_cons_of_mem _ hp).app (.cons q _ _ _ _ _ ⟨_, rfl⟩ (List.Mem.head _) .nil)
      · clear FR NR
        rintro lpg h2 tk1 pgv nx9 F4 N4 hoffg htk1 HJ9
        revert F4 N4 hoffg
        (apply hide2 (a := pgv) (b := nx9); intro PP hPP)
        obtain ⟨R, rfl, hpg, htk2⟩ := HJ9
        refine hPP _ _ ?_
        clear hPP
        intro F4 N4 hoffg
        subst hmU
        subst hmm
        obtain ⟨Z5, hR5, mdu, mp, mt, mw, ml, mC, mpg, N4⟩ : ∃ Z5 : Led, (∀ p ∈ R, p ∈ Z5) ∧ (ldu, listOf duv.toArray kd) ∈ Z5 ∧ (lp, listOf ys.toArray ys.length) ∈ Z5 ∧ (lt, listOf tvs.toArray kt) ∈ Z5 ∧ (lw, listOf wvs.toArray kw) ∈ Z5 ∧ (lcol, listOf cvs.toArray kc) ∈ Z5 ∧ (L + 1 + 1, oC) ∈ Z5 ∧ (lpg, listOf pgv.toArray pgv.length) ∈ Z5 ∧ News g L h2 Z5 :=
          ⟨(lpg, lst pgv) :: (R ++ Z4), fun p hp => List.mem_cons_of_mem _ (List.mem_append_left _ hp), List.mem_cons_of_mem _ (List.mem_append_right _ mdu), List.mem_cons_of_mem _ (List.mem_append_right _ mp), List.mem_cons_of_mem _ (List.mem_append_right _ mt), List.mem_cons_of_mem _ (List.mem_append_right _ mw), List.mem_cons_of_mem _ (List.mem_append_right _ ml), List.mem_cons_of_mem _ (List.mem_append_right _ mC), List.Mem.head _, N4⟩
        (try dsimp only)
        have hcl9 : cvs.length = 7 := by have := hcol.nats.len; rw [List.length_map, List.length_range] at this; exact this
        have hyl9 : ys.length = 7 := hys7
        have hwl9 : wvs.length = 7 := by rw [hNa.len, hrow.dues, List.length_map, htl]
        have hdl9 : duv.length = 7 := by rw [hdu.len, hrow.dues, List.length_map, htl]
        have hpl9 : pgv.length = 7 := by rw [hpg.len, List.length_map, List.length_range]
        k_steps
        unfold Marked
        rename Fr _ _ _ _ => F5
        rename News _ _ _ _ => N5
        refine kmk_add_lit (its := (cvs).toArray) (its2 := ys.toArray) (zs := cvs ++ ys) F5 N5 ⟨_, (N5 (lcol, listOf (cvs).toArray _) (by k_mem)).1, rfl, _, rfl⟩ ⟨_, (N5 (lp, listOf ys.toArray _) (by k_mem)).1, rfl, _, rfl⟩ rfl (fun ln1 hn1 F6 N6 l6 => ?_) (by show (cvs).length + ys.length ≤ sizeLine; simp only [List.length_append, hcl9, hyl9, hwl9, hdl9]; decide)
        clear F5 N5
        (try dsimp only)
        k_steps
        unfold Marked
        rename Fr _ _ _ _ => F5
        rename News _ _ _ _ => N5
        refine kmk_add_lit (its := (cvs ++ ys).toArray) (its2 := wvs.toArray) (zs := cvs ++ ys ++ wvs) F5 N5 ⟨_, (N5 (ln1, listOf (cvs ++ ys).toArray _) (List.Mem.head _)).1, rfl, _, rfl⟩ ⟨_, (N5 (lw, listOf wvs.toArray _) (List.mem_cons_of_mem _ mw)).1, rfl, _, rfl⟩ rfl (fun ln2 hn2 F6 N6 l6 => ?_) (by show (cvs ++ ys).length + wvs.length ≤ sizeLine; simp only [List.length_append, hcl9, hyl9, hwl9, hdl9]; decide)
        clear F5 N5
        (try dsimp only)
        k_steps
        unfold Marked
        rename Fr _ _ _ _ => F5
        rename News _ _ _ _ => N5
        refine kmk_add_lit (its := (cvs ++ ys ++ wvs).toArray) (its2 := duv.toArray) (zs := cvs ++ ys ++ wvs ++ duv) F5 N5 ⟨_, (N5 (ln2, listOf (cvs ++ ys ++ wvs).toArray _) (List.Mem.head _)).1, rfl, _, rfl⟩ ⟨_, (N5 (ldu, listOf duv.toArray _) (List.mem_cons_of_mem _ (List.mem_cons_of_mem _ mdu))).1, rfl, _, rfl⟩ rfl (fun ln3 hn3 F6 N6 l6 => ?_) (by show (cvs ++ ys ++ wvs).length + duv.length ≤ sizeLine; simp only [List.length_append, hcl9, hyl9, hwl9, hdl9]; decide)
        clear F5 N5
        (try dsimp only)
        k_steps
        rename Fr _ _ _ _ => F5
        rename News _ _ _ _ => N5
        obtain ⟨N5⟩ : Nonempty (News g L hn3 ((ln3, listOf (cvs ++ ys ++ wvs ++ duv).toArray 0) :: Z5)) := ⟨news_sub N5 (by refine List.forall_mem_cons.mpr ⟨List.Mem.head _, ?_⟩; intro p hp; k_mem)⟩
        refine comp_pairs (vs := pgv) (lo := listOf pgv.toArray pgv.length) (F := F5) (N := N5) rfl (by decide) rfl rfl rfl (by decide) (List.mem_cons_of_mem _ mpg) ⟨rfl, _, rfl⟩ (by rw [hpl9]; decide) (by (try dsimp only); (with_reducible assumption))
          (fun i zs nx tk => nx = (ln3, listOf (cvs ++ ys ++ wvs ++ duv).toArray 0) :: Z5 ∧ NatsAre zs ((List.range i).map fun k => dN.getD k 0) ∧ s.toks ≤ tk) ⟨rfl, .nil, by (try dsimp only); (with_reducible assumption)⟩
          (fun i x y => ∃ td, y = .int ((dN.getD i 0 : Nat) : Int) td) ?_ ?_ (.expr ?_) (by rintro _ _ _ _ _ hab ⟨e, b, c⟩; exact ⟨e, b, Nat.le_trans c hab⟩)
        · rintro i v zs nx tk hv' ⟨rfl, _⟩
          obtain ⟨q, k, d, x, td, n, rfl, hli, -, hq⟩ := hpg.get hv'
          rw [List.getElem?_map] at hli
          have hi7 : i < 7 := by have := (List.getElem?_eq_some_iff.mp hv').1; (with_reducible exact o_lteq (by assumption) (by assumption))
          rw [List.getElem?_range hi7] at hli
          cases hli
          have hq2 := hR5 _ hq
          exact ⟨q, _, _, _, _, rfl, List.mem_cons_of_mem _ hq2, rfl, rfl, _, rfl⟩
        · clear F5 N5
          rintro i x y zs _ tk hi ⟨td, rfl⟩ hl' ⟨rfl, hzs, htk3⟩ I oI C oCC D m₂ h hoC ⟨hk1, hk2⟩ htk F4 N4 hoff ⟨i1, i2, i3⟩
          refine wpAny_tests_nil ?_
          simp only [if_true]
          k_steps
          refine cend _ (by assumption) (by assumption) hoff hl' ⟨rfl, ?_, by (try dsimp only); (with_reducible assumption)⟩
          rw [List.range_succ, List.map_append]
          exact hzs.snoc
        · clear F5 N5
          rintro lzz h tk zs nx9 F5 N5 hoffz htk HJ9
          revert F5 N5 hoffz
          (apply hide2 (a := zs) (b := nx9); intro PP hPP)
          obtain ⟨-, rfl, hzs, htk3⟩ := HJ9
          refine hPP _ _ ?_
          clear hPP
          intro F5 N5 hoffz
          rw [hpl9] at hzs
          have hzl9 : zs.length = 7 := by rw [hzs.len, List.length_map, List.length_range]
          (try dsimp only)
          k_steps
          unfold Marked
          rename Fr _ _ _ _ => F5
          rename News _ _ _ _ => N5
          refine kmk_add_lit (its := (cvs ++ ys ++ wvs ++ duv).toArray) (its2 := zs.toArray) (zs := cvs ++ ys ++ wvs ++ duv ++ zs) F5 N5 ⟨_, (N5 (ln3, listOf (cvs ++ ys ++ wvs ++ duv).toArray 0) (List.mem_cons_of_mem _ (List.Mem.head _))).1, rfl, _, rfl⟩ ⟨_, (N5 (lzz, listOf zs.toArray zs.length) (List.Mem.head _)).1, rfl, _, rfl⟩ rfl (fun lnu hn4 F6 N6 l6 => ?_) (by show (cvs ++ ys ++ wvs ++ duv).length + zs.length ≤ sizeLine; simp only [List.length_append, hcl9, hyl9, hwl9, hdl9, hzl9]; decide)
          clear F5 N5 l6
          have hnum : NatsAre (cvs ++ ys ++ wvs ++ duv ++ zs) (((((colsN dN S) ++ (qN (rowsOf dN) 7).taken) ++ (qN (rowsOf dN) 7).waits) ++ (qN (rowsOf dN) 7).waits) ++ (List.range 7).map fun k => dN.getD k 0) := ((((hcol.nats.app hys).app hNa).app hdu).app hzs)
          have hnl : (cvs ++ ys ++ wvs ++ duv ++ zs).length = 35 := by simp only [List.length_append, hcl9, hyl9, hwl9, hdl9, hzl9]
          generalize cvs ++ ys ++ wvs ++ duv ++ zs = nuv at N6 hnum hnl
          obtain ⟨N6⟩ : Nonempty (News g L hn4 ((lnu, listOf nuv.toArray 0) :: Z5)) := ⟨news_sub N6 (by refine List.forall_mem_cons.mpr ⟨List.Mem.head _, ?_⟩; intro p hp; k_mem)⟩
          (try dsimp only)
          k_steps
          rename Fr _ _ _ _ => F7
          rename News _ _ _ _ => N7
          refine comp_list (vs := nuv) (l := lnu) (lo := listOf nuv.toArray 0) (F := F7) (N := N7) rfl (by decide) rfl rfl (List.Mem.head _) ⟨rfl, _, rfl⟩ (by rw [hnl]; decide) (by (try dsimp only); (with_reducible exact Nat.le_add_left 1 _))
            (fun n zs nx tk => nx = (lnu, listOf nuv.toArray 0) :: Z5 ∧ zs = List.replicate n (Value.type "int") ∧ s.toks ≤ tk) ⟨rfl, rfl, by (try dsimp only); (with_reducible ((iterate 7 (try (first | assumption | exact Nat.le_refl _ | refine Nat.le_trans (by assumption) ?_ | refine o_s1 (by assumption) ?_ | refine o_s2 (by assumption) ?_ | refine o_s3 (by assumption) ?_ | refine o_s4 (by assumption) ?_ | refine Nat.le_succ_of_le ?_))); done))⟩ ?_ (.expr ?_) (by rintro _ _ _ _ _ hab ⟨a, b, c⟩; exact ⟨a, b, Nat.le_trans c hab⟩)
          · clear F7 N7
            rintro n v zs nx tk hv hl' HJ9
            (apply hide2 (a := zs) (b := nx); intro PP hPP)
            obtain ⟨rfl, rfl, htk0⟩ := HJ9
            refine hPP _ _ ?_
            clear hPP
            rintro I oI C oCC D m₂ h hoC hkv htk F4 N4 hoff ⟨i1, i2, i3⟩
            have hn35 := (List.getElem?_eq_some_iff.mp hv).1
            obtain ⟨t, e⟩ := hnum.get (i := n) (by rw [← hnum.len]; exact hn35)
            rw [e] at hv
            cases hv
            refine wpAny_tests_nil ?_
            simp only [if_true]
            k_steps
            exact cend _ (by assumption) (by assumption) hoff hl' ⟨rfl, (List.replicate_succ' ..).symm, by (try dsimp only); (with_reducible assumption)⟩
          · clear F7 N7
            rintro lty h tk zs nx9 F7 N7 hoffz htk HJ9
            revert F7 N7 hoffz
            (apply hide2 (a := zs) (b := nx9); intro PP hPP)
            obtain ⟨-, rfl, rfl, htk3⟩ := HJ9
            refine hPP _ _ ?_
            clear hPP
            intro F7 N7 hoffz
            rw [hnl] at N7
            (try dsimp only)
            k_steps
            unfold Marked
            rename Fr _ _ _ _ => F8
            rename News _ _ _ _ => N8
            refine KMa.mul (vs := [Value.type "int"]) (ws := List.replicate 35 (Value.type "int")) F8 N8 ⟨_, (N8 (_, listOf #[Value.type "int"] 0) (List.Mem.head _)).1, rfl, _, rfl⟩ (by decide) (by decide) (by decide) rfl fun l35 h1 F9 N9 l9 => ?_
            refine eq_types N9 (i := 35) (j := 0) (v := Value.type "int") (List.mem_cons_of_mem _ (List.mem_cons_of_mem _ (List.Mem.head _))) (List.Mem.head _) (by (try dsimp only [Aa]); omega) ?_
            clear F8 N8 l9
            obtain ⟨N9⟩ : Nonempty (News g L h1 Z5) := ⟨news_sub N9 (by intro p hp; k_mem)⟩
            (try dsimp only)
            k_steps
            all_goals unfold Marked
            refine wpAny_truthy_bool ?_
            (try dsimp only)
            k_steps
            all_goals unfold Marked
            rename News _ _ _ _ => Na
            refine eq_nats Na mw mdu hNa hdu (by (try dsimp only [Aa]); (with_reducible exact o_room (by assumption) (by decide))) ?_
            (try dsimp only)
            k_steps
            all_goals unfold Marked
            refine wpAny_truthy_bool ?_
            (try dsimp only)
            k_steps
            all_goals unfold Marked
            rename Fr _ _ _ _ => Fb
            rename News _ _ _ _ => Nb
            refine does_call (does_back (qN (rowsOf dN) 7).waits (qN (rowsOf dN) 7).taken hrow.back htl lt lw tvs wvs kt kw s.toks Z5 hLe hNa) B Fb X (news_sub Nb (List.forall_mem_cons.mpr ⟨mt, List.forall_mem_cons.mpr ⟨mw, fun p hp => hp⟩⟩)) T rfl ?_ ?_ ?_ ?_
            · (try dsimp only); (with_reducible exact Nat.le_add_left 1 _)
            · (try dsimp only); (with_reducible exact o_room (by assumption) (by decide))
            · (try dsimp only); (with_reducible exact o_room (by assumption) (by decide))
            intro v' h2 tk2 n' hp'
            (apply hide2 (a := v') (b := n'); intro PP hPP)
            obtain ⟨lrb, gv, kgb, Rb, rfl, rfl, hgv⟩ := hp'
            refine hPP _ _ ?_
            clear hPP
            intro ht2 Fc Nc
            rw [hrow.page] at hgv
            clear Fb Nb
            (try dsimp only)
            k_steps
            all_goals unfold Marked
            rename News _ _ _ _ => Nd
            refine eq_pages Nd (i := kgb) (j := pgv.length) (List.Mem.head _) (List.mem_cons_of_mem _ (List.mem_append_right _ (List.mem_cons_of_mem _ (List.mem_cons_of_mem _ mpg)))) hgv hpg (fun p hp => List.mem_cons_of_mem _ (List.mem_append_left _ hp)) (fun p hp => List.mem_cons_of_mem _ (List.mem_append_right _ (List.mem_cons_of_mem _ (List.mem_cons_of_mem _ (hR5 p hp))))) ?_ (by (try dsimp only [Aa]); (with_reducible exact o_room (by assumption) (by decide))) ?_
            · intro e he
              obtain ⟨k, hk, rfl⟩ := List.mem_map.mp he
              exact List.mem_range.mp hk
            (try dsimp only)
            k_steps
            rename Fr _ _ _ _ => Fz
            exact hP0 _ _ ⟨rfl, ⟨_, Fz⟩, rfl, rfl⟩
end

section
open PySem PySem.W PySem.Calls PyProof.Rows
set_option Elab.async false
set_option maxRecDepth 100000
set_option maxHeartbeats 16000000
set_option linter.all false
set_option hygiene false
local macro_rules | `(tactic| walk_at "no such key: the count of lines must differ from the text before") => `(tactic| skip)
local macro_rules | `(tactic| walk_at $s) => if ["call ref", "subscriptTail Name Name ref int", "call builtin:list.append", "compareOp NotEq ref ref", "binaryOp Mult ref int", "binaryOp Add str str", "subscriptTail Subscript", "subscriptTail Name Slice str ref", "call builtin:sum", "truthy bool", "call type"].contains s.getString then `(tactic| refine unmark ?_) else Lean.Macro.throwUnsupported
abbrev lawB (la lc ld lh : Addr) (x : Str) (td : Tok) : Str → Option Value := fun y => if y = "doc" then some (.str x td) else if y = "heads" then some (.ref lh) else if y = "depths" then some (.ref ld) else if y = "cells" then some (.ref lc) else if y = "script" then some (.ref la) else none
theorem law_start (la lc ld lh : Addr) (x : Str) (td : Tok) : lawB la lc ld lh x td = up "k" none (up "row" none (up "lead" none (lawB la lc ld lh x td))) := by
  funext y
  by_cases h1 : y = "k"
  · subst h1; rfl
  by_cases h2 : y = "row"
  · subst h2; rfl
  by_cases h3 : y = "lead"
  · subst h3; rfl
  simp only [up, if_neg h1, if_neg h2, if_neg h3]
theorem law_turn (m : Str → Option Value) (k l r uk ur ul : Option Value) : up "lead" l (up "row" r (up "k" k (up "k" uk (up "row" ur (up "lead" ul m))))) = up "k" k (up "row" r (up "lead" l m)) := by
  funext y
  by_cases h1 : y = "k"
  · subst h1; rfl
  by_cases h2 : y = "row"
  · subst h2; rfl
  by_cases h3 : y = "lead"
  · subst h3; rfl
  simp only [up, if_neg h1, if_neg h2, if_neg h3]
def LawJ (la lc ld lh lcol : Addr) (x : Str) (td : Tok) (Z : Led) (dN : List Nat) (S : Nat) : Nat → (Str → Option Value) → Led → Nat → Prop := fun i m nx tk => (∃ uk ur ul, m = up "k" uk (up "row" ur (up "lead" ul (lawB la lc ld lh x td)))) ∧ ∃ cvs kc, nx = (lcol, listOf cvs.toArray kc) :: Z ∧ ColsAre tk cvs ((List.range i).map fun j => dN.getD j 0 * S)
local macro_rules | `(tactic| walk_at "execs cons") => `(tactic| ((with_reducible show wpAny _ _ (execs (PySem.Stmt.If (PySem.Expr.BoolOp _ _ _) _ _ _ :: _) _) _ _ _); refine unmark ?_))
theorem b_law {w : World} (ns : List Int) (hns : ns.length ≤ 63) (mean : ExcName → Option Value) (mg mb : Str → Option Value) (dp un : Nat) (gd : Option (List Code)) (outer : List Env) (A₀ : Around) (base g : Heap) (L : Addr) (s : Shared) (cells : Led) (f : Addr) (cdv : Value) (la : Addr) (vs : List Value) (B : Below A₀ base outer g) (F : Fr g L s.heap (fun y => if y = "script" then some (.ref la) else none)) (X : (K w.params).In g) (N : News g L s.heap cells) (Y : CellsAre (fun _ => none) (cellsFrom (L + 1) s34.names []) cells) (T : Top vw (looseW vw loose) mean mg mb g) (hlst : g.IsList la vs.toArray) (hI : IntsAre vs ns) (hd : dp + 100 < recursionLimit) (hu : un + 600 < cLine) :
    let Aa : Around := ktrTop dp un gd "law" s34 L f cdv (cellsFrom (L + 1) s34.names []) outer
    wpAny (model pw w) Aa (execs b34 (envOfC "law" s34 L f cdv)) (fun fl s' => LawEnd g L s fl s') (fun _ _ => False) s := by
  intro Aa
  refine hide_post fun Post0 hP0 => ?_
  dsimp only [b34, b34x]
  obtain ⟨o1, o2, hE, d1, d2⟩ := CellsAre.two Y
  subst hE
  clear Y
  obtain ⟨S, hS, hS1, hS5⟩ := size_nat ns.sum
  k_steps
  unfold Marked
  refine wpAny_with_toks (n := 1) (by (try dsimp only); (with_reducible exact Nat.le_add_left 1 _)) (sumK rfl F N (hlst.elim fun o e => ⟨o, F.keep _ _ e.1, e.2⟩) hI fun h0 tk0 t0 F0 N0 htk0 => ?_)
  clear F N
  (try dsimp only at htk0)
  (try dsimp only)
  k_steps
  rename Fr _ _ _ _ => F1
  rename News _ _ _ _ => N1
  rename_i _ oS dS
  rw [hS] at dS
  unfold Marked
  refine does_callP (does_cells la vs ns _ hI (by rw [hI.length]; exact hns)) B F1 X N1 T rfl ?_ ?_ ?_ hlst ?_
  · (try dsimp only); (with_reducible exact Nat.le_add_left 1 _)
  · (try dsimp only); (with_reducible exact o_room (by assumption) (by decide))
  · (try dsimp only); (with_reducible exact o_room (by assumption) (by decide))
  intro v' h1 tk1 n' hp'
  (apply hide2 (a := v') (b := n'); intro PP hPP)
  obtain ⟨lc, cv, rfl, rfl, hcv, hclc⟩ := hp'
  refine hPP _ _ ?_
  clear hPP
  intro ht1 F2 N2
  clear F1 N1
  (try dsimp only)
  k_steps
  unfold Marked
  rename Fr _ _ _ _ => F1
  rename News _ _ _ _ => N1
  refine does_call (does_depths lc cv cv.length (cellsF ns) _ (by k_mem) hcv (cells_len ns)) B F1 X N1 T rfl ?_ ?_ ?_ ?_
  · (try dsimp only); (with_reducible exact Nat.le_add_left 1 _)
  · (try dsimp only); (with_reducible exact o_room (by assumption) (by decide))
  · (try dsimp only); (with_reducible exact o_room (by assumption) (by decide))
  intro v' h2 tk2 n' hp'
  (apply hide2 (a := v') (b := n'); intro PP hPP)
  obtain ⟨ld, dv, kd, rfl, rfl, hdv, hld⟩ := hp'
  refine hPP _ _ ?_
  clear hPP
  intro ht2 F2 N2
  obtain ⟨dN, hmem, hdN, hd7⟩ := depths_rows (cells_len ns)
  have hrow := row_ok hmem
  rw [hdN] at hdv
  clear F1 N1
  (try dsimp only)
  k_steps
  unfold Marked
  rename Fr _ _ _ _ => F1
  rename News _ _ _ _ => N1
  refine does_call (does_heads lc cv cv.length (cellsF ns) [(ld, listOf dv.toArray kd), (L + 1 + 1, o1), (L + 1, oS)] hcv (cells_len ns)) B F1 X (news_sub N1 (by (repeat refine List.forall_mem_cons.mpr ⟨by k_mem, ?_⟩); intro p hp; nomatch hp)) T rfl ?_ ?_ ?_ ?_
  · (try dsimp only); (with_reducible exact Nat.le_add_left 1 _)
  · (try dsimp only); (with_reducible exact o_room (by assumption) (by decide))
  · (try dsimp only); (with_reducible exact o_room (by assumption) (by decide))
  intro v' h3 tk3 n' hp'
  (apply hide2 (a := v') (b := n'); intro PP hPP)
  obtain ⟨lh, hv, rfl, rfl, ⟨hv7, hvh⟩, hclh⟩ := hp'
  refine hPP _ _ ?_
  clear hPP
  intro ht3 F2 N2
  have hhv : StrsAre hv ((List.range 7).map (hdS (sgF (cellsF ns)))) := strs_of (hdS (sgF (cellsF ns))) hv7 hvh
  clear F1 N1
  (try dsimp only)
  have hsg : ∀ k, sgOK (sgF (cellsF ns) k) := fun k => sign_ok _
  generalize sgF (cellsF ns) = sg at hhv hsg
  obtain ⟨hnest, htold⟩ := doc_eq sg hrow
  have hdl7 : (dN.map Int.ofNat).length = 7 := by rw [List.length_map]; exact hd7
  have hd03 : ∀ k, k < 7 → 0 ≤ (dN.map Int.ofNat).getD k 0 ∧ (dN.map Int.ofNat).getD k 0 ≤ 3 := by
    intro k hk
    have hk' : k < dN.length := by rw [hd7]; exact hk
    have := hrow.le3 k hk
    rw [List.getD_eq_getElem?_getD, List.getElem?_eq_getElem hk'] at this
    rw [List.getD_eq_getElem?_getD, List.getElem?_map, List.getElem?_eq_getElem hk']
    simp only [Option.getD_some] at this
    exact ⟨Int.natCast_nonneg _, Int.ofNat_le.mpr this⟩
  k_steps
  unfold Marked
  rename Fr _ _ _ _ => F1
  rename News _ _ _ _ => N1
  refine does_call (does_nested lh ld hv dv kd (hdS sg) (dN.map Int.ofNat) [(lc, lst cv), (L + 1 + 1, o1), (L + 1, oS)] hhv hdv hdl7 (fun k _ => rfl) hd03) B F1 X (news_sub N1 (by (repeat refine List.forall_mem_cons.mpr ⟨by k_mem, ?_⟩); intro p hp; nomatch hp)) T rfl ?_ ?_ ?_ ?_
  · (try dsimp only); (with_reducible exact Nat.le_add_left 1 _)
  · (try dsimp only); (with_reducible exact o_room (by assumption) (by decide))
  · (try dsimp only); (with_reducible exact o_room (by assumption) (by decide))
  intro v' h4 tk4 n' hp'
  (apply hide2 (a := v') (b := n'); intro PP hPP)
  obtain ⟨rfl, td, rfl⟩ := hp'
  refine hPP _ _ ?_
  clear hPP
  intro ht4 F2 N2
  rw [hnest]
  clear F1 N1
  (try dsimp only)
  k_steps
  unfold Marked
  rename Fr _ _ _ _ => F1
  rename News _ _ _ _ => N1
  refine does_call (does_told lh ld hv dv kd (hdS sg) (dN.map Int.ofNat) [(lc, lst cv), (L + 1 + 1, o1), (L + 1, oS)] hhv hdv hdl7 (fun k _ => rfl) hd03) B F1 X N1 T rfl ?_ ?_ ?_ ?_
  · (try dsimp only); (with_reducible exact Nat.le_add_left 1 _)
  · (try dsimp only); (with_reducible exact o_room (by assumption) (by decide))
  · (try dsimp only); (with_reducible exact o_room (by assumption) (by decide))
  intro v' h5 tk5 n' hp'
  (apply hide2 (a := v') (b := n'); intro PP hPP)
  obtain ⟨rfl, te, rfl⟩ := hp'
  refine hPP _ _ ?_
  clear hPP
  intro ht5 F2 N2
  rw [htold]
  clear F1 N1
  (try dsimp only)
  k_steps
  unfold Marked
  rw [show (tx (fT (hdS sg) (rowsOf dN)) != tx (fT (hdS sg) (rowsOf dN))) = false from bne_self_eq_false _]
  refine wpAny_truthy_bool ?_
  (try dsimp only)
  have nc1 : @Ne Nat lc (L + 1 + 1) := Ne.symm (hclc (L + 1 + 1, _) (by k_mem))
  have nd1 : @Ne Nat ld (L + 1 + 1) := Ne.symm (Nat.ne_of_lt (hld (L + 1 + 1, _) (by k_mem)))
  have nh1 : @Ne Nat lh (L + 1 + 1) := Ne.symm (hclh (L + 1 + 1, _) (by k_mem))
  k_steps
  rename IsRange _ _ _ _ _ _ _ _ => RR
  rename Fr _ _ _ _ => FR
  rename News _ _ _ _ => NR
  rename_i lcol _ lA _ oC _ _ dC hR tkR tR1 tR2 tR3 htkR
  obtain ⟨cN, hcN, hc7, hcl⟩ := cells_nat ns
  rw [hcN] at hcv
  have hcv := nats_of hcv
  have hdv := nats_of hdv
  obtain ⟨Z, mh, md, mc, mC, mS, fZ, NR⟩ : ∃ Z : Led, (lh, listOf hv.toArray hv.length) ∈ Z ∧ (ld, listOf dv.toArray kd) ∈ Z ∧ (lc, listOf cv.toArray cv.length) ∈ Z ∧ (L + 1 + 1, oC) ∈ Z ∧ (L + 1, oS) ∈ Z ∧ (∀ p ∈ Z, @LT.lt Nat _ p.1 lcol) ∧ News g L hR ((lcol, listOf ([] : List Value).toArray 0) :: Z) :=
    ⟨_, by k_mem, by k_mem, by k_mem, by k_mem, by k_mem, (by simp only [List.forall_mem_cons]; exact ⟨lA.1, lA.2.1, lA.2.2.1, lA.2.2.2.1, lA.2.2.2.2, fun _ h => nomatch h⟩), NR⟩
  have FR : Fr g L hR (lawB la lc ld lh (tx (fT (hdS sg) (rowsOf dN))) td) := FR
  clear lA hclc hclh hld nc1 nd1 nh1
  rename_i FX
  clear FX
  refine for_range (n := 7) rfl RR (by decide +kernel) (by decide +kernel) rfl rfl FR NR (by (try dsimp only); (with_reducible exact o_pos (by assumption)))
    (LawJ la lc ld lh lcol (tx (fT (hdS sg) (rowsOf dN))) td Z dN S) ⟨⟨none, none, none, law_start ..⟩, [], 0, rfl, ColsAre.nil _⟩ (fun _ _ => False) (fun _ _ => False) ?_ ?_ (fun _ _ _ _ h => h.elim) (fun _ _ _ _ _ h => h.elim) (by rintro _ _ _ _ _ hab ⟨a, cvs, kc, e, b⟩; exact ⟨a, cvs, kc, e, b.mono hab⟩)
  · clear FR NR
    rintro i t m₁ nx9 h tk I io hi HJ9
    (apply hide2 (a := m₁) (b := nx9); intro PP hPP)
    obtain ⟨⟨uk, ur, ul, rfl⟩, cvs, kc, rfl, hcol⟩ := HJ9
    refine hPP _ _ ?_
    clear hPP
    rintro hoff htk F4 N4
    refine hide_post fun Post1 hP1 => ?_
    rw [show (0 + (i : Int) * 1) = (i : Int) by (with_reducible exact o_01 _)] at F4
    rw [List.cons_append] at N4
    have hZI : ∀ p ∈ Z ++ [(I, io)], p.1 ≠ lcol := fun p hp => by
      rcases List.mem_append.mp hp with hp | hp
      · exact Nat.ne_of_lt (fZ p hp)
      · cases List.mem_singleton.mp hp
        exact Ne.symm (hoff (lcol, _) (List.mem_cons_self ..))
    have mh2 := List.mem_append_left [(I, io)] mh
    have md2 := List.mem_append_left [(I, io)] md
    have mc2 := List.mem_append_left [(I, io)] mc
    have mC2 := List.mem_append_left [(I, io)] mC
    have mS2 := List.mem_append_left [(I, io)] mS
    have hoffc : @Ne Nat lcol I := hoff (lcol, listOf cvs.toArray kc) (List.mem_cons_self ..)
    have hoffd : ∀ p ∈ Z, p.1 ≠ I := fun p hp => hoff p (List.mem_cons_of_mem _ hp)
    generalize hZe : Z ++ [(I, io)] = Z2 at N4 hZI mh2 md2 mc2 mC2 mS2
    clear mh md mc mC mS
    have hd3 := hrow.le3 i hi
    k_steps
    unfold Marked
    refine item_nat (i := i) N4 (by k_mem) hdv rfl (by (with_reducible exact o_eqlt (by assumption) (by assumption))) (by (with_reducible exact o_ltl (by assumption) (by decide))) fun t1 => ?_
    (try dsimp only)
    k_steps
    unfold Marked
    refine item_nat (i := i) N4 (by k_mem) hcv rfl (by (with_reducible exact o_eqlt (by assumption) (by assumption))) (by (with_reducible exact o_ltl (by assumption) (by decide))) fun t2 => ?_
    (try dsimp only)
    k_steps
    unfold Marked
    rename Fr _ _ _ _ => F5
    rename News _ _ _ _ => N5
    refine does_call (does_lead i (dN.getD i 0) (cN.getD i 0) S _ _ _ _ hi hd3 (hcl i hi) hS1 hS5 _) B F5 X N5 T rfl ?_ ?_ ?_ ?_
    · (try dsimp only); (with_reducible assumption)
    · (try dsimp only); (with_reducible exact o_room (by assumption) (by decide))
    · (try dsimp only); (with_reducible exact o_room (by assumption) (by decide))
    intro v' h6 tk6 n' hp'
    (apply hide2 (a := v') (b := n'); intro PP hPP)
    obtain ⟨rfl, t3, rfl⟩ := hp'
    refine hPP _ _ ?_
    clear hPP
    intro ht6 F6 N6
    (try dsimp only at ht6)
    (try dsimp only)
    k_steps
    unfold Marked
    rename News _ _ _ _ => N7
    refine item_head (hs := hdS sg) (i := i) N7 (by k_mem) hhv rfl hi fun t4 => ?_
    (try dsimp only)
    k_steps
    unfold Marked
    rename Fr _ _ _ _ => F7
    with_unfolding_all refine slice_is (s := ⟨_, _, _, _, _⟩) (head_slice sg i) F7 N7 (by show 4 ≤ _; omega) fun h7 t5 tk7 hk7 F8 N8 => ?_
    (try dsimp only at hk7)
    (try dsimp only)
    clear F7 N7
    k_steps
    unfold Marked
    refine add_ls (by show (leadF i (dN.getD i 0) (cN.getD i 0) S).length + 3 ≤ _; have := leadF_len i (dN.getD i 0) (cN.getD i 0) S hS5 hd3 hS1; (with_reducible exact o_lea (by assumption) (by decide))) fun t6 tk8 hk8 => ?_
    rw [show (tx (leadF i (dN.getD i 0) (cN.getD i 0) S) ++ tx [97 + i, sg i, 10] : Str) = tx (rowL sg i (dN.getD i 0) (cN.getD i 0) S) from ext_ls (by rw [ls_append]; rfl)]
    (try dsimp only at hk8)
    (try dsimp only)
    k_steps
    unfold Marked
    rename Fr _ _ _ _ => F5
    rename News _ _ _ _ => N5
    have hrl : (tx (rowL sg i (dN.getD i 0) (cN.getD i 0) S)).cps.size ≤ 1000 := by
      show (rowL sg i (dN.getD i 0) (cN.getD i 0) S).toArray.size ≤ 1000
      rw [List.size_toArray]
      unfold rowL
      rw [List.length_append]
      have := leadF_len i (dN.getD i 0) (cN.getD i 0) S hS5 hd3 hS1
      show _ + 3 ≤ 1000
      (with_reducible exact o_lea (by assumption) (by decide))
    refine does_call (does_ws (tx (rowL sg i (dN.getD i 0) (cN.getD i 0) S)) t6 ((lcol, listOf cvs.toArray kc) :: Z2) hrl) B F5 X N5 T rfl ?_ ?_ ?_ ?_
    · (try dsimp only); (with_reducible exact Nat.le_add_left 1 _)
    · (try dsimp only); (with_reducible exact o_room (by assumption) (by decide))
    · (try dsimp only); (with_reducible exact o_room (by assumption) (by decide))
    intro v' h8 tk9 n' hp'
    (apply hide2 (a := v') (b := n'); intro PP hPP)
    obtain ⟨lx, ldd, rfl, hW, hldx, hldr⟩ := hp'
    refine hPP _ _ ?_
    clear hPP
    intro ht9 F6 N6
    rw [show (ls (tx (rowL sg i (dN.getD i 0) (cN.getD i 0) S))).takeWhile blank = leadF i (dN.getD i 0) (cN.getD i 0) S from row_pre sg i _ _ S hi] at hW
    have hW2 := hW
    obtain ⟨w0, w1, w2, w3, w4, wn, wm, wb, wsm, wq, wc, wcv, rfl, hwc⟩ := hW2
    rw [lead_n] at N6
    have hW3 : WsL w lx ldd (tx (rowL sg i (dN.getD i 0) (cN.getD i 0) S)) t6 ((lcol, listOf cvs.toArray kc) :: Z2) (wsRun (leadF i (dN.getD i 0) (cN.getD i 0) S)) _ := ⟨w0, w1, w2, w3, w4, wn, wm, wb, wsm, wq, wc, wcv, by rw [lead_n], hwc⟩
    have hcl3 : (wsRun (leadF i (dN.getD i 0) (cN.getD i 0) S)).count.length ≤ 1000 := by
      have h1 := (wsRun_le (leadF i (dN.getD i 0) (cN.getD i 0) S) ⟨0, 0, 0, []⟩).1
      have h2 := leadF_len i (dN.getD i 0) (cN.getD i 0) S hS5 hd3 hS1
      have h3 : (wsRun (leadF i (dN.getD i 0) (cN.getD i 0) S)).count.length ≤ max ([] : List Nat).length (0 + (leadF i (dN.getD i 0) (cN.getD i 0) S).length) := h1
      have h4 : max ([] : List Nat).length (0 + (leadF i (dN.getD i 0) (cN.getD i 0) S).length) ≤ 1000 := Nat.max_le.mpr ⟨Nat.zero_le _, by omega⟩
      exact Nat.le_trans h3 h4
    clear F5 N5 hW hwc
    (try dsimp only at ht9)
    (try dsimp only)
    k_steps
    unfold Marked
    rename Fr _ _ _ _ => F7
    rename News _ _ _ _ => N7
    with_unfolding_all refine slice_is (s := ⟨_, _, _, _, _⟩) (row_slice sg i (dN.getD i 0) (cN.getD i 0) S) F7 N7 (Nat.le_trans hrl (by decide)) fun h9 t7 tk10 hk10 F8 N8 => ?_
    (try dsimp only at hk10)
    (try dsimp only)
    clear F7 N7
    k_steps
    unfold Marked
    rename News _ _ _ _ => N7
    refine item_head (hs := hdS sg) (i := i) N7 (by k_mem) hhv rfl hi fun t8 => ?_
    (try dsimp only)
    k_steps
    unfold Marked
    rename Fr _ _ _ _ => F7
    with_unfolding_all refine slice_is (s := ⟨_, _, _, _, _⟩) (head_slice sg i) F7 N7 (by show 4 ≤ _; omega) fun h10 t9 tk11 hk11 F8 N8 => ?_
    (try dsimp only at hk11)
    (try dsimp only)
    clear F7 N7
    k_steps
    unfold Marked
    rw [show (tx [97 + i, sg i, 10] != tx [97 + i, sg i, 10]) = false from bne_self_eq_false _]
    refine wpAny_truthy_bool ?_
    (try dsimp only)
    k_steps
    unfold Marked
    refine does_call (does_level lx ldd _ t6 _ _ S _ hS1 hS5 hcl3 _ hW3) B F8 X N8 T rfl ?_ ?_ ?_ ?_
    · (try dsimp only); (with_reducible exact o_pos (by assumption))
    · (try dsimp only); (with_reducible exact o_room (by assumption) (by decide))
    · (try dsimp only); (with_reducible exact o_room (by assumption) (by decide))
    intro v' h11 tk12 n' hp'
    (apply hide2 (a := v') (b := n'); intro PP hPP)
    obtain ⟨rfl, t10, rfl⟩ := hp'
    refine hPP _ _ ?_
    clear hPP
    intro ht12 F9 N9
    clear F8 N8 hW3
    (try dsimp only at ht12)
    (try dsimp only)
    k_steps
    unfold Marked
    rename Fr _ _ _ _ => F7
    rename News _ _ _ _ => N7
    refine does_call (does_opsub _ _ _ _ _ (tk - 1)) B F7 X N7 T rfl ?_ ?_ ?_ ?_
    · (try dsimp only); omega
    · (try dsimp only); (with_reducible exact o_room (by assumption) (by decide))
    · (try dsimp only); (with_reducible exact o_room (by assumption) (by decide))
    intro v' h12 tk13 n' hp'
    (apply hide2 (a := v') (b := n'); intro PP hPP)
    obtain ⟨rfl, t11, rfl, hlo, hhi⟩ := hp'
    refine hPP _ _ ?_
    clear hPP
    intro ht13 F8 N8
    rw [col_val hS1]
    clear F7 N7
    (try dsimp only at ht13)
    (try dsimp only)
    k_steps
    unfold Marked
    have hcl7 : cvs.length ≤ 1000 := by
      have := hcol.nats.len
      rw [List.length_map, List.length_range] at this
      omega
    refine app_led (l := lcol) (rest := Z2) F8 (news_sub N8 (by refine List.forall_mem_cons.mpr ⟨by k_mem, ?_⟩; intro p hp; k_mem)) hZI hcl7 fun h13 F9 N9 => ?_
    (try dsimp only)
    k_steps
    subst hZe
    refine hP1 _ _ <| turn_next ((lcol, listOf (cvs ++ [Value.int ((dN.getD i 0 * S : Nat) : Int) t11]).toArray (kc + 1)) :: Z) F9 N9 (List.forall_mem_cons.mpr ⟨hoffc, hoffd⟩) ⟨⟨_, _, _, law_turn ..⟩, _, _, rfl, ?_⟩
    rw [List.range_succ, List.map_append]
    exact hcol.snoc (by show @LE.le Nat _ tk t11; omega) hhi (by show @LE.le Nat _ 1 t11; omega)
  · clear FR NR
    rintro m₁ nx9 h6 tk6 HJ9
    (apply hide2 (a := m₁) (b := nx9); intro PP hPP)
    obtain ⟨⟨uk, ur, ul, rfl⟩, cvs, kc, rfl, hcol⟩ := HJ9
    refine hPP _ _ ?_
    clear hPP
    rintro htk6 F4 N4
    (try dsimp only)
    k_steps
    unfold Marked
    rename Fr _ _ _ _ => F5
    rename News _ _ _ _ => N5
    refine does_call (does_queue sg hsg (rowsOf dN) hrow.turns hrow.q7 td _) B F5 X N5 T rfl ?_ ?_ ?_ ?_
    · (try dsimp only); (with_reducible assumption)
    · (try dsimp only); (with_reducible exact o_room (by assumption) (by decide))
    · (try dsimp only); (with_reducible exact o_room (by assumption) (by decide))
    intro v' h7 tk7 n' hp'
    (apply hide2 (a := v') (b := n'); intro PP hPP)
    obtain ⟨lr, lt, lw, lg, li, kr, kt, kw, kg, ki, tvs, wvs, rfl, rfl, hLe, hNa⟩ := hp'
    refine hPP _ _ ?_
    clear hPP
    intro ht7 F6 N6
    rw [hrow.g28] at N6
    clear F5 N5
    (try dsimp only at ht7)
    (try dsimp only)
    k_steps
    unfold Marked
    rename Fr _ _ _ _ => F5
    rename News _ _ _ _ => N5
    exact wpAny_mono (law_rest hrow hS1 hS5 mean mg mb dp un gd outer A₀ base g L _ f cdv _ lt lw lg li lcol tvs wvs cvs kt kw kg ki kc Z oC oS _ B X T F5 (news_sub N5 (by (repeat refine List.forall_mem_cons.mpr ⟨by k_mem, ?_⟩); intro p hp; k_mem)) mC dC mS dS (hLe.mono (by (try dsimp only); (with_reducible ((iterate 7 (try (first | assumption | exact Nat.le_refl _ | refine Nat.le_trans (by assumption) ?_ | refine o_s1 (by assumption) ?_ | refine o_s2 (by assumption) ?_ | refine o_s3 (by assumption) ?_ | refine o_s4 (by assumption) ?_ | refine Nat.le_succ_of_le ?_))); done)))) hNa (hcol.mono (by (try dsimp only); (with_reducible ((iterate 7 (try (first | assumption | exact Nat.le_refl _ | refine Nat.le_trans (by assumption) ?_ | refine o_s1 (by assumption) ?_ | refine o_s2 (by assumption) ?_ | refine o_s3 (by assumption) ?_ | refine o_s4 (by assumption) ?_ | refine Nat.le_succ_of_le ?_))); done)))) (by (try dsimp only); (with_reducible exact Nat.le_add_left 1 _)) hd hu) (fun fl s' h => hP0 _ _ h) (fun _ _ h => h)
end

section
open PySem PySem.W PySem.Calls PyProof.Rows
set_option Elab.async false
set_option maxRecDepth 100000
set_option maxHeartbeats 3000000
set_option linter.all false
local macro_rules | `(tactic| k_qdec) => `(tactic| decide +kernel)
theorem final : PySem.Challenge.rw_tc0087_01.Holds := by
  refine head ?hw ?hc
  case hw => w_witness2
  unfold HH lawRec
  k_go0
  rename_i hcond1 _ K0 _ h1 tk1 F c1 c0 _ _ N0 X0
  with_unfolding_all refine wpAny_mono (b_law _ ?a1 _ _ _ _ _ _ [] callerA _ _ _ _ _ _ _ _ _ K0 F ?a2 N0 X0 (by assumption) (by assumption) (by assumption) ?a3 ?a4) (fun fl s' h => ?a5) (fun _ _ h => h.elim)
  case a1 => omega
  case a2 =>
    rename Frag.In _ _ => KX
    exact KX
  case a3 => decide
  case a4 => decide
  case a5 =>
    obtain ⟨rfl, ⟨m, Fz⟩, e1, e2⟩ := h
    (try dsimp only)
    refine goodW_bool Fz (e2.trans (by assumption)) (raisesW_false ?b1) ?b2 e1
    · wrow_none_raised
    · wrow_post
end

end Mine
end

set_option maxRecDepth 100000 in
set_option maxHeartbeats 8000000 in
theorem PySem.Challenge.cw_tc0087_01_holds : PySem.Challenge.rw_tc0087_01.Holds := by
  exact Mine.final
