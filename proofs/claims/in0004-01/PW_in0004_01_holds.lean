import PyProof.Rows.All
import Wide.All
import OpenK.AllK
import Wide.FinOn
import PyProof.ZipIter
import PyProof.CollectWalk
import PyProof.Rows.StrSplitMax
import KE.LcTurns
import PyProof.SliceList
import KE.RegLcTurns
import PyProof.Rows.CompDC
import KE.KTab
import KE.KSuper
import PyProof.LetGo
import KE.KEqDat
import KE.KDictList
import Lean
import PySem.Challenge.RW_in0004_01
set_option linter.all false
set_option Elab.async false
set_option maxRecDepth 100000
set_option compiler.extract_closed false
namespace Mine
/-- a goal that waits while cases are told apart -/
structure Wait (G : Prop) : Prop where
  go : G → False
theorem gp {G : Prop} (h : Wait G → False) : G := Classical.byContradiction fun q => h ⟨q⟩
inductive Ex2 {α0 : Type} {α1 : Type} (p : α0 → α1 → Prop) : Prop
  | mk (x0 : α0) (x1 : α1) : p x0 x1 → Ex2 p
inductive Ex3 {α0 : Type} {α1 : Type} {α2 : Type} (p : α0 → α1 → α2 → Prop) : Prop
  | mk (x0 : α0) (x1 : α1) (x2 : α2) : p x0 x1 x2 → Ex3 p
inductive Ex4 {α0 : Type} {α1 : Type} {α2 : Type} {α3 : Type} (p : α0 → α1 → α2 → α3 → Prop) : Prop
  | mk (x0 : α0) (x1 : α1) (x2 : α2) (x3 : α3) : p x0 x1 x2 x3 → Ex4 p
inductive Ex5 {α0 : Type} {α1 : Type} {α2 : Type} {α3 : Type} {α4 : Type} (p : α0 → α1 → α2 → α3 → α4 → Prop) : Prop
  | mk (x0 : α0) (x1 : α1) (x2 : α2) (x3 : α3) (x4 : α4) : p x0 x1 x2 x3 x4 → Ex5 p
inductive Ex6 {α0 : Type} {α1 : Type} {α2 : Type} {α3 : Type} {α4 : Type} {α5 : Type} (p : α0 → α1 → α2 → α3 → α4 → α5 → Prop) : Prop
  | mk (x0 : α0) (x1 : α1) (x2 : α2) (x3 : α3) (x4 : α4) (x5 : α5) : p x0 x1 x2 x3 x4 x5 → Ex6 p
inductive Ex7 {α0 : Type} {α1 : Type} {α2 : Type} {α3 : Type} {α4 : Type} {α5 : Type} {α6 : Type} (p : α0 → α1 → α2 → α3 → α4 → α5 → α6 → Prop) : Prop
  | mk (x0 : α0) (x1 : α1) (x2 : α2) (x3 : α3) (x4 : α4) (x5 : α5) (x6 : α6) : p x0 x1 x2 x3 x4 x5 x6 → Ex7 p
inductive Ex8 {α0 : Type} {α1 : Type} {α2 : Type} {α3 : Type} {α4 : Type} {α5 : Type} {α6 : Type} {α7 : Type} (p : α0 → α1 → α2 → α3 → α4 → α5 → α6 → α7 → Prop) : Prop
  | mk (x0 : α0) (x1 : α1) (x2 : α2) (x3 : α3) (x4 : α4) (x5 : α5) (x6 : α6) (x7 : α7) : p x0 x1 x2 x3 x4 x5 x6 x7 → Ex8 p
inductive Ex9 {α0 : Type} {α1 : Type} {α2 : Type} {α3 : Type} {α4 : Type} {α5 : Type} {α6 : Type} {α7 : Type} {α8 : Type} (p : α0 → α1 → α2 → α3 → α4 → α5 → α6 → α7 → α8 → Prop) : Prop
  | mk (x0 : α0) (x1 : α1) (x2 : α2) (x3 : α3) (x4 : α4) (x5 : α5) (x6 : α6) (x7 : α7) (x8 : α8) : p x0 x1 x2 x3 x4 x5 x6 x7 x8 → Ex9 p
inductive Ex10 {α0 : Type} {α1 : Type} {α2 : Type} {α3 : Type} {α4 : Type} {α5 : Type} {α6 : Type} {α7 : Type} {α8 : Type} {α9 : Type} (p : α0 → α1 → α2 → α3 → α4 → α5 → α6 → α7 → α8 → α9 → Prop) : Prop
  | mk (x0 : α0) (x1 : α1) (x2 : α2) (x3 : α3) (x4 : α4) (x5 : α5) (x6 : α6) (x7 : α7) (x8 : α8) (x9 : α9) : p x0 x1 x2 x3 x4 x5 x6 x7 x8 x9 → Ex10 p
inductive An3 (a0 a1 a2 : Prop) : Prop
  | mk : a0 → a1 → a2 → An3 a0 a1 a2
inductive An4 (a0 a1 a2 a3 : Prop) : Prop
  | mk : a0 → a1 → a2 → a3 → An4 a0 a1 a2 a3
inductive An5 (a0 a1 a2 a3 a4 : Prop) : Prop
  | mk : a0 → a1 → a2 → a3 → a4 → An5 a0 a1 a2 a3 a4
inductive An6 (a0 a1 a2 a3 a4 a5 : Prop) : Prop
  | mk : a0 → a1 → a2 → a3 → a4 → a5 → An6 a0 a1 a2 a3 a4 a5
inductive An7 (a0 a1 a2 a3 a4 a5 a6 : Prop) : Prop
  | mk : a0 → a1 → a2 → a3 → a4 → a5 → a6 → An7 a0 a1 a2 a3 a4 a5 a6
inductive An8 (a0 a1 a2 a3 a4 a5 a6 a7 : Prop) : Prop
  | mk : a0 → a1 → a2 → a3 → a4 → a5 → a6 → a7 → An8 a0 a1 a2 a3 a4 a5 a6 a7
inductive An9 (a0 a1 a2 a3 a4 a5 a6 a7 a8 : Prop) : Prop
  | mk : a0 → a1 → a2 → a3 → a4 → a5 → a6 → a7 → a8 → An9 a0 a1 a2 a3 a4 a5 a6 a7 a8
inductive An10 (a0 a1 a2 a3 a4 a5 a6 a7 a8 a9 : Prop) : Prop
  | mk : a0 → a1 → a2 → a3 → a4 → a5 → a6 → a7 → a8 → a9 → An10 a0 a1 a2 a3 a4 a5 a6 a7 a8 a9
inductive An11 (a0 a1 a2 a3 a4 a5 a6 a7 a8 a9 a10 : Prop) : Prop
  | mk : a0 → a1 → a2 → a3 → a4 → a5 → a6 → a7 → a8 → a9 → a10 → An11 a0 a1 a2 a3 a4 a5 a6 a7 a8 a9 a10
inductive An14 (a0 a1 a2 a3 a4 a5 a6 a7 a8 a9 a10 a11 a12 a13 : Prop) : Prop
  | mk : a0 → a1 → a2 → a3 → a4 → a5 → a6 → a7 → a8 → a9 → a10 → a11 → a12 → a13 → An14 a0 a1 a2 a3 a4 a5 a6 a7 a8 a9 a10 a11 a12 a13
inductive An17 (a0 a1 a2 a3 a4 a5 a6 a7 a8 a9 a10 a11 a12 a13 a14 a15 a16 : Prop) : Prop
  | mk : a0 → a1 → a2 → a3 → a4 → a5 → a6 → a7 → a8 → a9 → a10 → a11 → a12 → a13 → a14 → a15 → a16 → An17 a0 a1 a2 a3 a4 a5 a6 a7 a8 a9 a10 a11 a12 a13 a14 a15 a16
end Mine
section
open PySem PySem.W PySem.Calls PyProof.Rows
set_option maxRecDepth 100000
namespace Mine
/-- the opening, over a tree -/
noncomputable def impRunT (tb : String → Option Builtin) (p : Program) (w : World) : Nat → SharedT → Thread → Option SharedT
  | 0, _, _ => none
  | n + 1, s, t => match t.atExitBegin with
    | some [] => some s
    | some (_ :: _) => none
    | none => match stepT (denote tb) p w s t with
      | some (s', t') => impRunT tb p w n s' t'
      | none => none
/-- the top, over a tree -/
noncomputable def topRunT (tb : String → Option Builtin) (p : Program) (w : World) (n₀ : Nat) (ann : Option Value) : Nat → SharedT → Thread → Option SharedT
  | 0, _, _ => none
  | n + 1, s, t => match through t with
    | true => some s
    | false => match stepOk n₀ ann t with
      | false => none
      | true => match stepT (denote tb) p w s t with
        | some (s', t') => topRunT tb p w n₀ ann n s' t'
        | none => none
section
variable {tb : String → Option Builtin} {p : Program} {w : World} {n₀ : Nat} {ann : Option Value}
theorem impRun_of : ∀ {n : Nat} {s s' : SharedT} {t : Thread}, impRunT tb p w n s t = some s' → importEnds tb p w n s.abs t = some s'.abs
  | 0, _, _, _, h => by cases h
  | n + 1, s, s', t, h => by
    unfold impRunT at h
    unfold importEnds
    cases he : t.atExitBegin with
    | some x =>
      rw [he] at h
      cases x with
      | nil => cases h; rfl
      | cons a b => cases h
    | none =>
      rw [he] at h
      cases hs : stepT (denote tb) p w s t with
      | none => rw [hs] at h; cases h
      | some r => obtain ⟨s₂, t₂⟩ := r; rw [hs] at h; dsimp only; rw [stepT_spec hs]; exact impRun_of h
theorem topRun_of : ∀ {n : Nat} {s s' : SharedT} {t : Thread}, topRunT tb p w n₀ ann n s t = some s' → topRun tb p w n₀ ann n s.abs t = some s'.abs
  | 0, _, _, _, h => by cases h
  | n + 1, s, s', t, h => by
    unfold topRunT at h
    unfold topRun
    cases he : through t with
    | true => rw [he] at h; cases h; rfl
    | false =>
      rw [he] at h
      cases hk : stepOk n₀ ann t with
      | false => rw [hk] at h; cases h
      | true =>
        rw [hk] at h
        cases hs : stepT (denote tb) p w s t with
        | none => rw [hs] at h; cases h
        | some r => obtain ⟨s₂, t₂⟩ := r; rw [hs] at h; dsimp only; rw [stepT_spec hs]; exact topRun_of h
end
/-- a tree of a list -/
noncomputable def treeOf : List Obj → Nat → BT → Option BT
  | [], _, T => some T
  | o :: r, n, T => match ((T.ins n o).get n).isSome with
    | true => treeOf r (n + 1) (T.ins n o)
    | false => none
theorem treeOf_abs {life : Life} : ∀ (l : List Obj) {n : Nat} {T T' : BT}, treeOf l n T = some T' → absHeap T' (n + l.length) life = ⟨(absHeap T n life).objs ++ l.toArray, life⟩
  | [], n, T, T', h => by
    cases h
    show absHeap T n life = _
    unfold absHeap
    simp
  | o :: r, n, T, T', h => by
    unfold treeOf at h
    cases g : ((T.ins n o).get n).isSome with
    | false => rw [g] at h; cases h
    | true =>
      rw [g] at h
      have e := treeOf_abs (life := life) r h
      rw [absHeap_ins g] at e
      rw [List.length_cons, show n + (r.length + 1) = n + 1 + r.length by omega, e]
      show Heap.mk _ _ = _
      congr 1
      show (absHeap T n life).objs.push o ++ r.toArray = _
      simp
theorem treeOf_heap {h : Heap} {T : BT} (e : treeOf h.objs.toList 0 .nil = some T) : absHeap T h.objs.size h.life = h := by
  have := treeOf_abs (life := h.life) _ e
  rw [Nat.zero_add, Array.length_toList] at this
  rw [this]
  obtain ⟨o, l⟩ := h
  congr 1
  unfold absHeap BT.list
  simp
section
variable {α : Type}
end
end Mine
end
section
open PySem PySem.W PySem.Calls PyProof.Rows
set_option maxRecDepth 100000
namespace Mine
/-- some steps of the top, over a tree -/
noncomputable def topGoT (tb : String → Option Builtin) (p : Program) (w : World) (n₀ : Nat) (ann : Option Value) : Nat → SharedT → Thread → Option (SharedT × Thread)
  | 0, s, t => some (s, t)
  | n + 1, s, t => match through t with
    | true => none
    | false => match stepOk n₀ ann t with
      | false => none
      | true => match stepT (denote tb) p w s t with
        | some (s', t') => topGoT tb p w n₀ ann n s' t'
        | none => none
section
variable {tb : String → Option Builtin} {p : Program} {w : World} {n₀ : Nat} {ann : Option Value}
theorem topGo_of : ∀ {n : Nat} {s s' : SharedT} {t t' : Thread}, topGoT tb p w n₀ ann n s t = some (s', t') → topGo tb p w n₀ ann n s.abs t = some (s'.abs, t')
  | 0, _, _, _, _, h => by cases h; rfl
  | n + 1, s, s', t, t', h => by
    unfold topGoT at h
    unfold topGo
    cases he : through t with
    | true => rw [he] at h; cases h
    | false =>
      rw [he] at h
      cases hk : stepOk n₀ ann t with
      | false => rw [hk] at h; cases h
      | true =>
        rw [hk] at h
        cases hs : stepT (denote tb) p w s t with
        | none => rw [hs] at h; cases h
        | some r => obtain ⟨s₂, t₂⟩ := r; rw [hs] at h; dsimp only; rw [stepT_spec hs]; exact topGo_of h
theorem run_join {k0 nb n0 n1 n2 n3 N : Nat} {s0 sa sb sZ sA sB s3 : SharedT} {r : Shared} {stub : Thread} {l0 l1 l2 l3 : List Stmt} {env : Env} {c : Code} {q pos0 p1 pZ pA pB p3 : Pos}
    (g : topGoT tb p w n₀ ann k0 s0 stub = some (sa, ⟨denote tb (.body (l0 ++ (l1 ++ (l2 ++ (l3 ++ [])))) env), c, pos0, [topFrame q]⟩))
    (b : segRunT tb p w n₀ ann 1 nb sa (blockOf (l0 ++ (l1 ++ (l2 ++ (l3 ++ [])))) env c pos0 [topFrame q]) = some (.next, sb, c, p1))
    (h0 : segRunT tb p w n₀ ann 1 n0 sb (piecesOf l0 env c p1 [topFrame q]) = some (.next, sZ, c, pZ))
    (h1 : segRunT tb p w n₀ ann 1 n1 sZ (piecesOf l1 env c pZ [topFrame q]) = some (.next, sA, c, pA))
    (h2 : segRunT tb p w n₀ ann 1 n2 sA (piecesOf l2 env c pA [topFrame q]) = some (.next, sB, c, pB))
    (h3 : segRunT tb p w n₀ ann 1 n3 sB (piecesOf l3 env c pB [topFrame q]) = some (.next, s3, c, p3))
    (hf : topRun tb p w n₀ ann N s3.abs ⟨doneF .next, c, p3, [topFrame q]⟩ = some r) : topRun tb p w n₀ ann (k0 + (nb + (n0 + (n1 + (n2 + (n3 + N)))))) s0.abs stub = some r :=
  go_top (topGo_of g) (piece_block (segRun_of b) (piece_app (segRun_of h0) (piece_app (segRun_of h1) (piece_app (segRun_of h2) (piece_app (rest := []) (segRun_of h3) (piece_nil hf))))))
end
end Mine
end
section
open PySem PySem.W PySem.Calls PyProof.Rows
set_option maxRecDepth 100000
namespace Mine
noncomputable def openT (tb : String → Option Builtin) (p : Program) (N : Nat) (w : World) : Option Shared :=
  match impRunT tb (opening p) w N ⟨.nil, 0, (start (opening p)).1.heap.life, (start (opening p)).1.gens, (start (opening p)).1.drawn, (start (opening p)).1.toks, (start (opening p)).1.os⟩ (start (opening p)).2 with
  | none => none
  | some s1 => fenceModules? p s1.abs
theorem openT_of {p : Program} {N : Nat} {w : World} {s : Shared} (h : openT treeTable p N w = some s) : fencedOpening treeTable p w N = some s := by
  unfold openT at h
  split at h
  · cases h
  rename_i s1 h1
  have e1 := impRun_of h1
  have e0 : SharedT.abs ⟨.nil, 0, (start (opening p)).1.heap.life, (start (opening p)).1.gens, (start (opening p)).1.drawn, (start (opening p)).1.toks, (start (opening p)).1.os⟩ = (start (opening p)).1 := rfl
  rw [e0] at e1
  unfold fencedOpening
  rw [e1]
  exact h
/-- the first steps, up to the body -/
noncomputable def goT (tb : String → Option Builtin) (p : Program) (N k : Nat) (w : World) : Option (Shared × SharedT × Thread) :=
  match openT tb p N w with
  | none => none
  | some s => match s.heap.isNs mainGlobals && s.gens.size == 0 with
    | false => none
    | true => match treeOf s.heap.objs.toList 0 .nil with
      | none => none
      | some T => match topGoT tb p w s.heap.objs.size (s.heap.nsMap mainGlobals "__annotations__") k ⟨T, s.heap.objs.size, s.heap.life, s.gens, s.drawn, s.toks, s.os⟩ (topStub p) with
        | none => none
        | some (sa, ta) => some (s, sa, ta)
structure GoOk (p : Program) (N k n₀ : Nat) (ann : Option Value) (w : World) (s : Shared) (sa : SharedT) (ta : Thread) : Prop where
  op : fencedOpening treeTable p w N = some s
  ns : (s.heap.isNs mainGlobals && s.gens.size == 0) = true
  sz : s.heap.objs.size = n₀
  an : s.heap.nsMap mainGlobals "__annotations__" = ann
  go : ∃ s0 : SharedT, s0.abs = s ∧ topGoT treeTable p w n₀ ann k s0 (topStub p) = some (sa, ta)
theorem goT_of {p : Program} {N k n₀ : Nat} {ann : Option Value} {w : World} {s : Shared} {sa : SharedT} {ta : Thread} (h : goT treeTable p N k w = some (s, sa, ta)) (h1 : s.heap.objs.size = n₀) (h2 : s.heap.nsMap mainGlobals "__annotations__" = ann) : GoOk p N k n₀ ann w s sa ta := by
  unfold goT at h
  split at h
  · cases h
  rename_i s' e1
  split at h
  · cases h
  rename_i e2
  split at h
  · cases h
  rename_i T e3
  split at h
  · cases h
  rename_i sa' ta' e4
  cases h
  subst h1 h2
  refine ⟨openT_of e1, e2, rfl, rfl, _, ?_, e4⟩
  unfold SharedT.abs
  dsimp only
  rw [treeOf_heap e3]
/-- from the state behind the last piece: the end, and what is looked at -/
noncomputable def lastT {α : Type} (tb : String → Option Builtin) (p q : Program) (loose : List Str) (Xt : Shared → Bool) (Yf : Shared → α) (g0 : Bool) (n₀ : Nat) (ann : Option Value) (N n3 : Nat) (l3 : List Stmt) (env : Env) (c : Code) (pB : Pos) (q0 : Pos) (sB : SharedT) (w : World) :=
  match openT tb p N w with
  | none => none
  | some s => match segRunT tb p w n₀ ann 1 n3 sB (piecesOf l3 env c pB [topFrame q0]) with
    | some (.next, s3, c3, p3) => match topRunT tb p w n₀ ann 10 s3 ⟨doneF .next, c, p3, [topFrame q0]⟩ with
      | none => none
      | some s4 => match staticsOk (importedModules p.main.body) s.heap s4.abs.heap && namesBound p s4.abs.heap && gensDone s4.abs && laidKept s.heap s4.abs.heap with
        | true => some (c3, openSeen q loose (importedModules p.main.body) Xt g0 s4.abs, Yf s4.abs)
        | false => none
    | _ => none
theorem left_cut {α : Type} {p q : Program} {loose : List Str} {Xt : Shared → Bool} {Yf : Shared → α} {Ya : World → α} {N k n₀ nb n0 n1 n2 n3 : Nat} {ann : Option Value} {l0 l1 l2 l3 : List Stmt} {env : Env} {q0 pos0 pZ pA pB : Pos} {Z A B : World → SharedT}
    (h0 : ∀ w, (goT treeTable p N k w).map (fun x => (x.1.heap.objs.size, x.1.heap.nsMap mainGlobals "__annotations__", x.2.2)) = some (n₀, ann, ⟨denote treeTable (.body (l0 ++ (l1 ++ (l2 ++ (l3 ++ [])))) env), .body (l0 ++ (l1 ++ (l2 ++ (l3 ++ [])))) env, pos0, [topFrame q0]⟩))
    (h1 : ∀ w, ((goT treeTable p N k w).bind fun x => ((segRunT treeTable p w n₀ ann 1 nb x.2.1 (blockOf (l0 ++ (l1 ++ (l2 ++ (l3 ++ [])))) env (.body (l0 ++ (l1 ++ (l2 ++ (l3 ++ [])))) env) pos0 [topFrame q0])).bind fun y =>
      ((segRunT treeTable p w n₀ ann 1 n0 y.2.1 (piecesOf l0 env (.body (l0 ++ (l1 ++ (l2 ++ (l3 ++ [])))) env) pos0 [topFrame q0])).map fun z => (y.1, y.2.2, z)))) = some (.next, (.body (l0 ++ (l1 ++ (l2 ++ (l3 ++ [])))) env, pos0), (.next, Z w, .body (l0 ++ (l1 ++ (l2 ++ (l3 ++ [])))) env, pZ)))
    (hZ : ∀ w, segRunT treeTable p w n₀ ann 1 n1 (Z w) (piecesOf l1 env (.body (l0 ++ (l1 ++ (l2 ++ (l3 ++ [])))) env) pZ [topFrame q0]) = some (.next, A w, .body (l0 ++ (l1 ++ (l2 ++ (l3 ++ [])))) env, pA))
    (h2 : ∀ w, segRunT treeTable p w n₀ ann 1 n2 (A w) (piecesOf l2 env (.body (l0 ++ (l1 ++ (l2 ++ (l3 ++ [])))) env) pA [topFrame q0]) = some (.next, B w, .body (l0 ++ (l1 ++ (l2 ++ (l3 ++ [])))) env, pB))
    (h3 : ∀ w, lastT treeTable p q loose Xt Yf true n₀ ann N n3 l3 env (.body (l0 ++ (l1 ++ (l2 ++ (l3 ++ [])))) env) pB q0 (B w) w = some (.body (l0 ++ (l1 ++ (l2 ++ (l3 ++ [])))) env, openGood q loose, Ya w))
    (le : Nat.ble (k + (nb + (n0 + (n1 + (n2 + (n3 + 10)))))) N = true) : LeftO p q loose Xt Yf Ya N := fun w => by
  obtain ⟨⟨s, sa, ta⟩, g, e⟩ := Option.map_eq_some_iff.mp (h0 w)
  dsimp only at e
  obtain ⟨e1, e2, e3⟩ : _ ∧ _ ∧ _ := by simpa only [Prod.mk.injEq] using e
  have G := goT_of g e1 e2
  subst e3
  obtain ⟨op, ns, sz, an, s0, es, hgo⟩ := G
  have k1 := h1 w
  rw [g, Option.bind_some] at k1
  obtain ⟨⟨f1, sb, c1, p1⟩, b1, b2⟩ := Option.bind_eq_some_iff.mp k1
  obtain ⟨⟨f2, sA, c2, p2⟩, d1, d2⟩ := Option.map_eq_some_iff.mp b2
  cases d2
  have k3 := h3 w
  unfold lastT at k3
  split at k3
  · cases k3
  rename_i s' o1
  have o2 := openT_of o1
  rw [op] at o2
  cases o2
  split at k3
  case h_2 => cases k3
  rename_i s3 c3 p3 g3
  split at k3
  · cases k3
  rename_i s4 g4
  split at k3
  case h_2 => cases k3
  rename_i g5
  simp only [Option.some.injEq, Prod.mk.injEq] at k3
  obtain ⟨hc, hs, hy⟩ := k3
  subst hc
  have r := run_join hgo b1 d1 (hZ w) (h2 w) g3 (topRun_of g4)
  have r' := topRun_mono (N - (k + (nb + (n0 + (n1 + (n2 + (n3 + 10))))))) _ _ _ _ r
  rw [show k + (nb + (n0 + (n1 + (n2 + (n3 + 10))))) + (N - (k + (nb + (n0 + (n1 + (n2 + (n3 + 10))))))) = N by have := Nat.le_of_ble_eq_true le; omega, es] at r'
  unfold openEnds topFrom
  rw [op]
  show Option.map _ (match s.heap.isNs mainGlobals && s.gens.size == 0 with | true => _ | false => _) = _
  rw [ns, sz, an]
  dsimp only
  rw [r']
  show Option.map _ (match staticsOk (importedModules p.main.body) s.heap s4.abs.heap && namesBound p s4.abs.heap && gensDone s4.abs && laidKept s.heap s4.abs.heap with | true => _ | false => _) = _
  rw [g5]
  exact congrArg some (Prod.ext hs hy)
end Mine
end
section
open PySem PySem.W PySem.Calls PyProof.Rows
set_option maxRecDepth 100000
namespace Mine
/-! the same, over the kit's quick forms -/
noncomputable def impRunQ (tb : String → Option Builtin) (p : Program) (w : World) : Nat → SharedT → Thread → Option SharedT
  | 0, _, _ => none
  | n + 1, s, t => match Fast.tw3805553451399329143 t with
    | some [] => some s
    | some (_ :: _) => none
    | none => match Fast.tw10156331382660048174 (Fast.tw11892475500146522536 tb) p w s t with
      | some (s', t') => impRunQ tb p w n s' t'
      | none => none
noncomputable def topRunQ (tb : String → Option Builtin) (p : Program) (w : World) (n₀ : Nat) (ann : Option Value) : Nat → SharedT → Thread → Option SharedT
  | 0, _, _ => none
  | n + 1, s, t => match through t with
    | true => some s
    | false => match Fast.tw6613529449190102663 n₀ ann t with
      | false => none
      | true => match Fast.tw10156331382660048174 (Fast.tw11892475500146522536 tb) p w s t with
        | some (s', t') => topRunQ tb p w n₀ ann n s' t'
        | none => none
noncomputable def topGoQ (tb : String → Option Builtin) (p : Program) (w : World) (n₀ : Nat) (ann : Option Value) : Nat → SharedT → Thread → Option (SharedT × Thread)
  | 0, s, t => some (s, t)
  | n + 1, s, t => match through t with
    | true => none
    | false => match Fast.tw6613529449190102663 n₀ ann t with
      | false => none
      | true => match Fast.tw10156331382660048174 (Fast.tw11892475500146522536 tb) p w s t with
        | some (s', t') => topGoQ tb p w n₀ ann n s' t'
        | none => none
noncomputable def segRunQ (tb : String → Option Builtin) (p : Program) (w : World) (n₀ : Nat) (ann : Option Value) (b : Nat) : Nat → SharedT → Thread → Option (Flow × SharedT × Code × Pos)
  | 0, _, _ => none
  | n + 1, s, t => match endAt b t with
    | some f => some (f, s, t.code, t.pos)
    | none => match Fast.tw6613529449190102663 n₀ ann t with
      | false => none
      | true => match Fast.tw10156331382660048174 (Fast.tw11892475500146522536 tb) p w s t with
        | some (s', t') => segRunQ tb p w n₀ ann b n s' t'
        | none => none
theorem impRunQ_eq (tb : String → Option Builtin) (p : Program) (w : World) : ∀ (n : Nat) (s : SharedT) (t : Thread), impRunT tb p w n s t = impRunQ tb p w n s t
  | 0, _, _ => rfl
  | n + 1, s, t => by
    unfold impRunT impRunQ
    rw [Fast.te3805553451399329143, Fast.te10156331382660048174, Fast.te11892475500146522536]
    cases Fast.tw3805553451399329143 t with
    | some x => cases x <;> rfl
    | none =>
      dsimp only
      cases Fast.tw10156331382660048174 (Fast.tw11892475500146522536 tb) p w s t with
      | none => rfl
      | some r => obtain ⟨s₂, t₂⟩ := r; exact impRunQ_eq tb p w n s₂ t₂
theorem topRunQ_eq (tb : String → Option Builtin) (p : Program) (w : World) (n₀ : Nat) (ann : Option Value) : ∀ (n : Nat) (s : SharedT) (t : Thread), topRunT tb p w n₀ ann n s t = topRunQ tb p w n₀ ann n s t
  | 0, _, _ => rfl
  | n + 1, s, t => by
    unfold topRunT topRunQ
    rw [Fast.te6613529449190102663, Fast.te10156331382660048174, Fast.te11892475500146522536]
    cases through t with
    | true => rfl
    | false =>
      dsimp only
      cases Fast.tw6613529449190102663 n₀ ann t with
      | false => rfl
      | true =>
        dsimp only
        cases Fast.tw10156331382660048174 (Fast.tw11892475500146522536 tb) p w s t with
        | none => rfl
        | some r => obtain ⟨s₂, t₂⟩ := r; exact topRunQ_eq tb p w n₀ ann n s₂ t₂
theorem topGoQ_eq (tb : String → Option Builtin) (p : Program) (w : World) (n₀ : Nat) (ann : Option Value) : ∀ (n : Nat) (s : SharedT) (t : Thread), topGoT tb p w n₀ ann n s t = topGoQ tb p w n₀ ann n s t
  | 0, _, _ => rfl
  | n + 1, s, t => by
    unfold topGoT topGoQ
    rw [Fast.te6613529449190102663, Fast.te10156331382660048174, Fast.te11892475500146522536]
    cases through t with
    | true => rfl
    | false =>
      dsimp only
      cases Fast.tw6613529449190102663 n₀ ann t with
      | false => rfl
      | true =>
        dsimp only
        cases Fast.tw10156331382660048174 (Fast.tw11892475500146522536 tb) p w s t with
        | none => rfl
        | some r => obtain ⟨s₂, t₂⟩ := r; exact topGoQ_eq tb p w n₀ ann n s₂ t₂
theorem segRunQ_eq (tb : String → Option Builtin) (p : Program) (w : World) (n₀ : Nat) (ann : Option Value) (b : Nat) : ∀ (n : Nat) (s : SharedT) (t : Thread), segRunT tb p w n₀ ann b n s t = segRunQ tb p w n₀ ann b n s t
  | 0, _, _ => rfl
  | n + 1, s, t => by
    unfold segRunT segRunQ
    rw [Fast.te6613529449190102663, Fast.te10156331382660048174, Fast.te11892475500146522536]
    cases endAt b t with
    | some f => rfl
    | none =>
      dsimp only
      cases Fast.tw6613529449190102663 n₀ ann t with
      | false => rfl
      | true =>
        dsimp only
        cases Fast.tw10156331382660048174 (Fast.tw11892475500146522536 tb) p w s t with
        | none => rfl
        | some r => obtain ⟨s₂, t₂⟩ := r; exact segRunQ_eq tb p w n₀ ann b n s₂ t₂
noncomputable def openQ (tb : String → Option Builtin) (p : Program) (N : Nat) (w : World) : Option Shared :=
  match impRunQ tb (opening p) w N ⟨.nil, 0, (Fast.tw1435165496053646825 (opening p)).1.heap.life, (Fast.tw1435165496053646825 (opening p)).1.gens, (Fast.tw1435165496053646825 (opening p)).1.drawn, (Fast.tw1435165496053646825 (opening p)).1.toks, (Fast.tw1435165496053646825 (opening p)).1.os⟩ (Fast.tw1435165496053646825 (opening p)).2 with
  | none => none
  | some s1 => Fast.tw14289696077712309145 p s1.abs
theorem openQ_eq (tb : String → Option Builtin) (p : Program) (N : Nat) (w : World) : openT tb p N w = openQ tb p N w := by
  unfold openT openQ
  rw [Fast.te1435165496053646825, Fast.te14289696077712309145, impRunQ_eq]
  all_goals rfl
noncomputable def goQ (tb : String → Option Builtin) (p : Program) (N k : Nat) (w : World) : Option (Shared × SharedT × Thread) :=
  match openQ tb p N w with
  | none => none
  | some s => match s.heap.isNs mainGlobals && s.gens.size == 0 with
    | false => none
    | true => match treeOf s.heap.objs.toList 0 .nil with
      | none => none
      | some T => match topGoQ tb p w s.heap.objs.size (Fast.tw8920871248978507458 s.heap mainGlobals "__annotations__") k ⟨T, s.heap.objs.size, s.heap.life, s.gens, s.drawn, s.toks, s.os⟩ (topStub p) with
        | none => none
        | some (sa, ta) => some (s, sa, ta)
theorem goQ_eq (tb : String → Option Builtin) (p : Program) (N k : Nat) (w : World) : goT tb p N k w = goQ tb p N k w := by
  unfold goT goQ
  rw [openQ_eq, Fast.te8920871248978507458]
  simp only [topGoQ_eq]
  all_goals rfl
noncomputable abbrev piecesQ (l : List Stmt) (env : Env) (c : Code) (p : Pos) (B : List Frame) : Thread := ⟨(Fast.tw12563942051412417395 l env).wrap doneF deadEnd id id, c, p, B⟩
noncomputable abbrev blockQ (b : List Stmt) (env : Env) (c : Code) (p : Pos) (B : List Frame) : Thread := ⟨(Fast.tw1066825118222455980 b env).wrap (fun _ => doneF .next) deadEnd id id, c, p, B⟩
theorem piecesQ_eq (l : List Stmt) (env : Env) (c : Code) (p : Pos) (B : List Frame) : piecesOf l env c p B = piecesQ l env c p B := by
  unfold piecesOf piecesQ
  rw [Fast.te12563942051412417395]
theorem blockQ_eq (l : List Stmt) (env : Env) (c : Code) (p : Pos) (B : List Frame) : blockOf l env c p B = blockQ l env c p B := by
  unfold blockOf blockQ
  rw [Fast.te1066825118222455980]
noncomputable def lastQ {α : Type} (tb : String → Option Builtin) (p q : Program) (loose : List Str) (Xt : Shared → Bool) (Yf : Shared → α) (g0 : Bool) (n₀ : Nat) (ann : Option Value) (N n3 : Nat) (l3 : List Stmt) (env : Env) (c : Code) (pB : Pos) (q0 : Pos) (sB : SharedT) (w : World) :=
  match openQ tb p N w with
  | none => none
  | some s => match segRunQ tb p w n₀ ann 1 n3 sB (piecesQ l3 env c pB [topFrame q0]) with
    | some (.next, s3, c3, p3) => match topRunQ tb p w n₀ ann 10 s3 ⟨doneF .next, c, p3, [topFrame q0]⟩ with
      | none => none
      | some s4 => match staticsOk (Fast.tw5923862056798008813 p.main.body) s.heap s4.abs.heap && namesBound p s4.abs.heap && gensDone s4.abs && laidKept s.heap s4.abs.heap with
        | true => some (c3, Fast.tw4187177175401517315 q loose (Fast.tw5923862056798008813 p.main.body) Xt g0 s4.abs, Yf s4.abs)
        | false => none
    | _ => none
theorem lastQ_eq {α : Type} (tb : String → Option Builtin) (p q : Program) (loose : List Str) (Xt : Shared → Bool) (Yf : Shared → α) (g0 : Bool) (n₀ : Nat) (ann : Option Value) (N n3 : Nat) (l3 : List Stmt) (env : Env) (c : Code) (pB : Pos) (q0 : Pos) (sB : SharedT) (w : World) :
    lastT tb p q loose Xt Yf g0 n₀ ann N n3 l3 env c pB q0 sB w = lastQ tb p q loose Xt Yf g0 n₀ ann N n3 l3 env c pB q0 sB w := by
  unfold lastT lastQ
  rw [openQ_eq, segRunQ_eq, piecesQ_eq, Fast.te5923862056798008813, Fast.te4187177175401517315]
  simp only [topRunQ_eq]
  all_goals rfl
end Mine
end
section
open PySem PySem.W PySem.Calls PyProof.Rows
set_option maxRecDepth 100000
set_option maxHeartbeats 8000000
namespace Mine
noncomputable abbrev RW := PySem.Challenge.rw_in0004_01
noncomputable abbrev PR : Program := RW.row.prog
noncomputable def stIn (b : List Stmt) : List Nat → Option Stmt
  | [] => none
  | i :: r => match r with
    | [] => b[i]?
    | _ => match b[i]? with
      | some (.ClassDef _ _ _ c _ _ _ _ _ _ _) => stIn c r
      | _ => none
noncomputable def fnO (p : Program) (path : List Nat) (k : Str → Arguments → List Stmt → Scope → Obj) : Obj := match stIn p.main.body path with
  | some (.FunctionDef n a b _ _ _ c _ _ _) => k n a b c
  | _ => default
noncomputable def ko_2 (P : Params) : Obj := ⟨.none, none, (.dict #[⟨(PyData.keyHash P ⟨⟨[105,109,112,111,114,116,46,108,111,97,100,101,100,46,95,99,111,108,108,101,99,116,105,111,110,115]⟩⟩), (.str ⟨⟨[105,109,112,111,114,116,46,108,111,97,100,101,100,46,95,99,111,108,108,101,99,116,105,111,110,115]⟩⟩ 185), (.bool true)⟩, ⟨(PyData.keyHash P ⟨⟨[99,108,97,115,115,46,95,102,114,111,122,101,110,95,105,109,112,111,114,116,108,105,98,46,66,117,105,108,116,105,110,73,109,112,111,114,116,101,114]⟩⟩), (.str ⟨⟨[99,108,97,115,115,46,95,102,114,111,122,101,110,95,105,109,112,111,114,116,108,105,98,46,66,117,105,108,116,105,110,73,109,112,111,114,116,101,114]⟩⟩ 187), (.ref 15)⟩, ⟨(PyData.keyHash P ⟨⟨[119,97,116,99,104,101,100,46,105,109,112,111,114,116]⟩⟩), (.str ⟨⟨[119,97,116,99,104,101,100,46,105,109,112,111,114,116]⟩⟩ 208), (.ref 19)⟩, ⟨(PyData.keyHash P ⟨⟨[99,108,97,115,115,46,95,102,114,111,122,101,110,95,105,109,112,111,114,116,108,105,98,46,77,111,100,117,108,101,83,112,101,99]⟩⟩), (.str ⟨⟨[99,108,97,115,115,46,95,102,114,111,122,101,110,95,105,109,112,111,114,116,108,105,98,46,77,111,100,117,108,101,83,112,101,99]⟩⟩ 218), (.ref 23)⟩, ⟨(PyData.keyHash P ⟨⟨[115,121,115,46,109,111,100,117,108,101,115,46,98,111,111,107,101,100,45,101,112,111,99,104]⟩⟩), (.str ⟨⟨[115,121,115,46,109,111,100,117,108,101,115,46,98,111,111,107,101,100,45,101,112,111,99,104]⟩⟩ 247), (.int 3 0)⟩, ⟨(PyData.keyHash P ⟨⟨[115,121,115,46,109,111,100,117,108,101,115,46,108,97,110,100,101,100,46,95,99,111,108,108,101,99,116,105,111,110,115]⟩⟩), (.str ⟨⟨[115,121,115,46,109,111,100,117,108,101,115,46,108,97,110,100,101,100,46,95,99,111,108,108,101,99,116,105,111,110,115]⟩⟩ 248), (.bool true)⟩, ⟨(PyData.keyHash P ⟨⟨[105,109,112,111,114,116,46,108,97,116,101,114,45,108,97,105,100,46,95,99,111,108,108,101,99,116,105,111,110,115]⟩⟩), (.str ⟨⟨[105,109,112,111,114,116,46,108,97,116,101,114,45,108,97,105,100,46,95,99,111,108,108,101,99,116,105,111,110,115]⟩⟩ 263), (.bool true)⟩, ⟨(PyData.keyHash P ⟨⟨[119,97,116,99,104,101,100,46,108,105,98,114,97,114,121]⟩⟩), (.str ⟨⟨[119,97,116,99,104,101,100,46,108,105,98,114,97,114,121]⟩⟩ 265), (.ref 28)⟩, ⟨(PyData.keyHash P ⟨⟨[119,97,116,99,104,101,100,46,108,105,98,114,97,114,121,45,111,98,106,101,99,116,115]⟩⟩), (.str ⟨⟨[119,97,116,99,104,101,100,46,108,105,98,114,97,114,121,45,111,98,106,101,99,116,115]⟩⟩ 0), (.str ⟨⟨[13]⟩⟩ 0)⟩, ⟨(PyData.keyHash P ⟨⟨[119,97,116,99,104,101,100,46,108,105,98,114,97,114,121,45,100,101,101,112,46,95,99,111,108,108,101,99,116,105,111,110,115]⟩⟩), (.str ⟨⟨[119,97,116,99,104,101,100,46,108,105,98,114,97,114,121,45,100,101,101,112,46,95,99,111,108,108,101,99,116,105,111,110,115]⟩⟩ 266), (.str ⟨⟨[4,0,0,12,4,0,0,12,4,0,0,3,4,0,0,12,8,4,100,105,99,116,2]⟩⟩ 0)⟩, ⟨(PyData.keyHash P ⟨⟨[116,121,112,101,46,95,95,115,117,98,99,108,97,115,115,101,115,95,95,46,99,111,108,108,101,99,116,105,111,110,115,46,100,101,102,97,117,108,116,100,105,99,116,46,48]⟩⟩), (.str ⟨⟨[116,121,112,101,46,95,95,115,117,98,99,108,97,115,115,101,115,95,95,46,99,111,108,108,101,99,116,105,111,110,115,46,100,101,102,97,117,108,116,100,105,99,116,46,48]⟩⟩ 430), (.int 136 0)⟩, ⟨(PyData.keyHash P ⟨⟨[116,121,112,101,46,95,95,115,117,98,99,108,97,115,115,101,115,95,95,46,99,111,108,108,101,99,116,105,111,110,115,46,100,101,102,97,117,108,116,100,105,99,116,46,110]⟩⟩), (.str ⟨⟨[116,121,112,101,46,95,95,115,117,98,99,108,97,115,115,101,115,95,95,46,99,111,108,108,101,99,116,105,111,110,115,46,100,101,102,97,117,108,116,100,105,99,116,46,110]⟩⟩ 431), (.int 1 0)⟩] 12), #[]⟩
noncomputable def ko_3 (P : Params) : Obj := ⟨(.type PySem.W.SL.s14018661285674007319x4), none, (.dict #[⟨(PyData.keyHash P ⟨⟨[95,95,110,97,109,101,95,95]⟩⟩), (.str ⟨⟨[95,95,110,97,109,101,95,95]⟩⟩ 165), (.str ⟨⟨[108,97,119,95,105,110,48,48,48,52,95,48,49]⟩⟩ 587)⟩, ⟨(PyData.keyHash P ⟨⟨[95,95,100,111,99,95,95]⟩⟩), (.str ⟨⟨[95,95,100,111,99,95,95]⟩⟩ 166), .none⟩, ⟨(PyData.keyHash P ⟨⟨[95,95,112,97,99,107,97,103,101,95,95]⟩⟩), (.str ⟨⟨[95,95,112,97,99,107,97,103,101,95,95]⟩⟩ 167), .none⟩, ⟨(PyData.keyHash P ⟨⟨[95,95,108,111,97,100,101,114,95,95]⟩⟩), (.str ⟨⟨[95,95,108,111,97,100,101,114,95,95]⟩⟩ 168), (.builtin PySem.W.SL.s7097527257260152453x26)⟩, ⟨(PyData.keyHash P ⟨⟨[95,95,115,112,101,99,95,95]⟩⟩), (.str ⟨⟨[95,95,115,112,101,99,95,95]⟩⟩ 169), .none⟩, ⟨(PyData.keyHash P ⟨⟨[95,95,97,110,110,111,116,97,116,105,111,110,115,95,95]⟩⟩), (.str ⟨⟨[95,95,97,110,110,111,116,97,116,105,111,110,115,95,95]⟩⟩ 170), (.ref 6)⟩, ⟨(PyData.keyHash P ⟨⟨[95,95,98,117,105,108,116,105,110,115,95,95]⟩⟩), (.str ⟨⟨[95,95,98,117,105,108,116,105,110,115,95,95]⟩⟩ 171), (.ref 4)⟩, ⟨(PyData.keyHash P ⟨⟨[95,95,102,105,108,101,95,95]⟩⟩), (.str ⟨⟨[95,95,102,105,108,101,95,95]⟩⟩ 173), (.str ⟨⟨[47,99,108,97,105,109,47,99,117,116,46,112,121]⟩⟩ 172)⟩, ⟨(PyData.keyHash P ⟨⟨[95,95,99,97,99,104,101,100,95,95]⟩⟩), (.str ⟨⟨[95,95,99,97,99,104,101,100,95,95]⟩⟩ 174), .none⟩, ⟨(PyData.keyHash P ⟨⟨[100,101,102,97,117,108,116,100,105,99,116]⟩⟩), (.str ⟨⟨[100,101,102,97,117,108,116,100,105,99,116]⟩⟩ 272), (.type PySem.W.SL.s9278979716766391425x23)⟩, ⟨(PyData.keyHash P ⟨⟨[95,119,97,108,108]⟩⟩), (.str ⟨⟨[95,119,97,108,108]⟩⟩ 285), (.ref 39)⟩, ⟨(PyData.keyHash P ⟨⟨[84,117,112,108,101,67,111,109,112]⟩⟩), (.str ⟨⟨[84,117,112,108,101,67,111,109,112]⟩⟩ 331), (.ref 63)⟩, ⟨(PyData.keyHash P ⟨⟨[95,116,117,112,108,101,103,101,116,116,101,114]⟩⟩), (.str ⟨⟨[95,116,117,112,108,101,103,101,116,116,101,114]⟩⟩ 390), (.ref 106)⟩, ⟨(PyData.keyHash P ⟨⟨[70,114,101,101,122,97,98,108,101,68,101,102,97,117,108,116,68,105,99,116]⟩⟩), (.str ⟨⟨[70,114,101,101,122,97,98,108,101,68,101,102,97,117,108,116,68,105,99,116]⟩⟩ 433), (.ref 136)⟩, ⟨(PyData.keyHash P ⟨⟨[80,97,105,114]⟩⟩), (.str ⟨⟨[80,97,105,114]⟩⟩ 548), (.ref 231)⟩, ⟨(PyData.keyHash P ⟨⟨[95,108,97,119,95,110,111,98,111,100,121]⟩⟩), (.str ⟨⟨[95,108,97,119,95,110,111,98,111,100,121]⟩⟩ 594), (.ref 241)⟩, ⟨(PyData.keyHash P ⟨⟨[95,108,97,119,95,114,101,97,100]⟩⟩), (.str ⟨⟨[95,108,97,119,95,114,101,97,100]⟩⟩ 603), (.ref 248)⟩, ⟨(PyData.keyHash P ⟨⟨[95,108,97,119,95,115,111,114,116,101,100]⟩⟩), (.str ⟨⟨[95,108,97,119,95,115,111,114,116,101,100]⟩⟩ 614), (.ref 255)⟩, ⟨(PyData.keyHash P ⟨⟨[95,108,97,119,95,115,105,100,101,95,98,121,95,115,105,100,101]⟩⟩), (.str ⟨⟨[95,108,97,119,95,115,105,100,101,95,98,121,95,115,105,100,101]⟩⟩ 627), (.ref 262)⟩, ⟨(PyData.keyHash P ⟨⟨[95,108,97,119,95,98,111,111,107]⟩⟩), (.str ⟨⟨[95,108,97,119,95,98,111,111,107]⟩⟩ 638), (.ref 269)⟩, ⟨(PyData.keyHash P ⟨⟨[108,97,119]⟩⟩), (.str ⟨⟨[108,97,119]⟩⟩ 644), (.ref 274)⟩] 21), #[]⟩
noncomputable def ko_33 (P : Params) : Obj := ⟨(.type PySem.W.SL.s2766695959194262286x5), none, (.seq #[] 0), #[]⟩
noncomputable def ko_35 (P : Params) : Obj := ⟨(.type PySem.W.SL.s2766695959194262286x5), none, (.seq #[(.str ⟨⟨[107]⟩⟩ 282)] 0), #[]⟩
noncomputable def ko_36 (P : Params) : Obj := ⟨(.type PySem.W.SL.s2766695959194262286x5), none, (.seq #[] 0), #[]⟩
noncomputable def ko_38 (P : Params) : Obj := ⟨(.type PySem.W.SL.s5856160107412720595x4), none, (.fields #[(.str ⟨⟨[95,119,97,108,108]⟩⟩ 279), (.str ⟨⟨[95,119,97,108,108]⟩⟩ 280), (.str ⟨⟨[47,99,108,97,105,109,47,99,117,116,46,112,121]⟩⟩ 281), (.int 2 0), (.int 1 0), (.int 0 0), (.int 0 0), (.int 3 0), (.ref 33), (.bool true), (.int 273 0), (.ref 34), .none, (.ref 35), (.ref 36), (.ref 37), (.int 283 0), (.int 2 0), (.str ⟨⟨[47,99,108,97,105,109,47,99,117,116,46,112,121]⟩⟩ 284)]), #[]⟩
noncomputable def ko_39 (p : Program) (_ : Params) : Obj := fnO p [1] fun n a b c => ⟨(.type PySem.W.SL.s7174869446012820540x8), none, .func ⟨n, ⟨⟨[95,119,97,108,108]⟩⟩, a, .stmts b, c, 3, [], .none, .none, .none, (.str ⟨⟨[95,95,109,97,105,110,95,95]⟩⟩ 164), none, (.ref 38), .none, 0⟩, #[]⟩
noncomputable def ko_47 (P : Params) : Obj := ⟨(.type PySem.W.SL.s2766695959194262286x5), none, (.seq #[] 0), #[]⟩
noncomputable def ko_49 (P : Params) : Obj := ⟨(.type PySem.W.SL.s2766695959194262286x5), none, (.seq #[(.str ⟨⟨[115,101,108,102]⟩⟩ 306), (.str ⟨⟨[99,111,109,112,95,115,101,108,101,99,116,95,108,105,115,116]⟩⟩ 307)] 0), #[]⟩
noncomputable def ko_50 (P : Params) : Obj := ⟨(.type PySem.W.SL.s2766695959194262286x5), none, (.seq #[] 0), #[]⟩
noncomputable def ko_52 (P : Params) : Obj := ⟨(.type PySem.W.SL.s5856160107412720595x4), none, (.fields #[(.str ⟨⟨[95,95,105,110,105,116,95,95]⟩⟩ 303), (.str ⟨⟨[84,117,112,108,101,67,111,109,112,46,95,95,105,110,105,116,95,95]⟩⟩ 304), (.str ⟨⟨[47,99,108,97,105,109,47,99,117,116,46,112,121]⟩⟩ 305), (.int 14 0), (.int 2 0), (.int 0 0), (.int 0 0), (.int 3 0), (.ref 47), (.bool true), (.int 273 0), (.ref 48), .none, (.ref 49), (.ref 50), (.ref 51), (.int 308 0), (.int 14 0), (.str ⟨⟨[47,99,108,97,105,109,47,99,117,116,46,112,121]⟩⟩ 309)]), #[]⟩
noncomputable def ko_53 (p : Program) (_ : Params) : Obj := fnO p [3, 1] fun n a b c => ⟨(.type PySem.W.SL.s7174869446012820540x8), none, .func ⟨n, ⟨⟨[84,117,112,108,101,67,111,109,112,46,95,95,105,110,105,116,95,95]⟩⟩, a, .stmts b, c, 3, [], .none, .none, .none, (.str ⟨⟨[99,112,121,51,49,51,46,112,115,116,97,116,115]⟩⟩ 286), none, (.ref 52), .none, 0⟩, #[]⟩
noncomputable def ko_54 (P : Params) : Obj := ⟨(.type PySem.W.SL.s2766695959194262286x5), none, (.seq #[] 0), #[]⟩
noncomputable def ko_56 (P : Params) : Obj := ⟨(.type PySem.W.SL.s2766695959194262286x5), none, (.seq #[(.str ⟨⟨[115,101,108,102]⟩⟩ 314), (.str ⟨⟨[108,101,102,116]⟩⟩ 315), (.str ⟨⟨[114,105,103,104,116]⟩⟩ 316), (.str ⟨⟨[105,110,100,101,120]⟩⟩ 317), (.str ⟨⟨[100,105,114,101,99,116,105,111,110]⟩⟩ 318), (.str ⟨⟨[108]⟩⟩ 319), (.str ⟨⟨[114]⟩⟩ 320)] 0), #[]⟩
noncomputable def ko_57 (P : Params) : Obj := ⟨(.type PySem.W.SL.s2766695959194262286x5), none, (.seq #[] 0), #[]⟩
noncomputable def ko_59 (P : Params) : Obj := ⟨(.type PySem.W.SL.s5856160107412720595x4), none, (.fields #[(.str ⟨⟨[99,111,109,112,97,114,101]⟩⟩ 311), (.str ⟨⟨[84,117,112,108,101,67,111,109,112,46,99,111,109,112,97,114,101]⟩⟩ 312), (.str ⟨⟨[47,99,108,97,105,109,47,99,117,116,46,112,121]⟩⟩ 313), (.int 17 0), (.int 3 0), (.int 0 0), (.int 0 0), (.int 3 0), (.ref 54), (.bool true), (.int 273 0), (.ref 55), .none, (.ref 56), (.ref 57), (.ref 58), (.int 321 0), (.int 17 0), (.str ⟨⟨[47,99,108,97,105,109,47,99,117,116,46,112,121]⟩⟩ 322)]), #[]⟩
noncomputable def ko_60 (p : Program) (_ : Params) : Obj := fnO p [3, 2] fun n a b c => ⟨(.type PySem.W.SL.s7174869446012820540x8), none, .func ⟨n, ⟨⟨[84,117,112,108,101,67,111,109,112,46,99,111,109,112,97,114,101]⟩⟩, a, .stmts b, c, 3, [], .none, .none, .none, (.str ⟨⟨[99,112,121,51,49,51,46,112,115,116,97,116,115]⟩⟩ 286), none, (.ref 59), .none, 0⟩, #[]⟩
noncomputable def ko_61 (P : Params) : Obj := ⟨(.type PySem.W.SL.s2766695959194262286x5), none, (.seq #[(.str ⟨⟨[99,111,109,112,95,115,101,108,101,99,116,95,108,105,115,116]⟩⟩ 324)] 0), #[]⟩
noncomputable def ko_62 (P : Params) : Obj := ⟨(.type PySem.W.SL.s14018661285674007319x4), none, (.dict #[⟨(PyData.keyHash P ⟨⟨[95,95,109,111,100,117,108,101,95,95]⟩⟩), (.str ⟨⟨[95,95,109,111,100,117,108,101,95,95]⟩⟩ 295), (.str ⟨⟨[99,112,121,51,49,51,46,112,115,116,97,116,115]⟩⟩ 286)⟩, ⟨(PyData.keyHash P ⟨⟨[95,95,102,105,114,115,116,108,105,110,101,110,111,95,95]⟩⟩), (.str ⟨⟨[95,95,102,105,114,115,116,108,105,110,101,110,111,95,95]⟩⟩ 299), (.int 6 298)⟩, ⟨(PyData.keyHash P ⟨⟨[95,95,100,111,99,95,95]⟩⟩), (.str ⟨⟨[95,95,100,111,99,95,95]⟩⟩ 301), (.str ⟨⟨[84,104,105,115,32,99,108,97,115,115,32,112,114,111,118,105,100,101,115,32,97,32,103,101,110,101,114,105,99,32,102,117,110,99,116,105,111,110,32,102,111,114,32,99,111,109,112,97,114,105,110,103,32,97,110,121,32,116,119,111,32,116,117,112,108,101,115,46,10,69,97,99,104,32,105,110,115,116,97,110,99,101,32,114,101,99,111,114,100,115,32,97,32,108,105,115,116,32,111,102,32,116,117,112,108,101,45,105,110,100,105,99,101,115,32,40,102,114,111,109,32,109,111,115,116,32,115,105,103,110,105,102,105,99,97,110,116,10,116,111,32,108,101,97,115,116,32,115,105,103,110,105,102,105,99,97,110,116,41,44,32,97,110,100,32,115,111,114,116,32,100,105,114,101,99,116,105,111,110,32,40,97,115,99,101,110,100,105,110,103,32,111,114,32,100,101,115,99,101,110,100,105,110,103,41,32,102,111,114,10,101,97,99,104,32,116,117,112,108,101,45,105,110,100,101,120,46,32,32,84,104,101,32,99,111,109,112,97,114,101,32,102,117,110,99,116,105,111,110,115,32,99,97,110,32,116,104,101,110,32,98,101,32,117,115,101,100,32,97,115,32,116,104,101,32,102,117,110,99,116,105,111,110,10,97,114,103,117,109,101,110,116,32,116,111,32,116,104,101,32,115,121,115,116,101,109,32,115,111,114,116,40,41,32,102,117,110,99,116,105,111,110,32,119,104,101,110,32,97,32,108,105,115,116,32,111,102,32,116,117,112,108,101,115,32,110,101,101,100,32,116,111,32,98,101,10,115,111,114,116,101,100,32,105,110,32,116,104,101,32,105,110,115,116,97,110,99,101,115,32,111,114,100,101,114,46]⟩⟩ 300)⟩, ⟨(PyData.keyHash P ⟨⟨[95,95,105,110,105,116,95,95]⟩⟩), (.str ⟨⟨[95,95,105,110,105,116,95,95]⟩⟩ 310), (.ref 53)⟩, ⟨(PyData.keyHash P ⟨⟨[99,111,109,112,97,114,101]⟩⟩), (.str ⟨⟨[99,111,109,112,97,114,101]⟩⟩ 323), (.ref 60)⟩, ⟨(PyData.keyHash P ⟨⟨[95,95,115,116,97,116,105,99,95,97,116,116,114,105,98,117,116,101,115,95,95]⟩⟩), (.str ⟨⟨[95,95,115,116,97,116,105,99,95,97,116,116,114,105,98,117,116,101,115,95,95]⟩⟩ 325), (.ref 61)⟩, ⟨(PyData.keyHash P ⟨⟨[95,95,100,105,99,116,95,95]⟩⟩), (.str ⟨⟨[95,95,100,105,99,116,95,95]⟩⟩ 327), (.ref 64)⟩, ⟨(PyData.keyHash P ⟨⟨[95,95,119,101,97,107,114,101,102,95,95]⟩⟩), (.str ⟨⟨[95,95,119,101,97,107,114,101,102,95,95]⟩⟩ 329), (.ref 65)⟩] 3), #[]⟩
noncomputable def ko_63 (P : Params) : Obj := ⟨(.type PySem.W.SL.s17162191345867700912x4), none, (.cls ⟨⟨⟨[84,117,112,108,101,67,111,109,112]⟩⟩, [(.type PySem.W.SL.s2742458400755230247x6)], [(.ref 63), (.type PySem.W.SL.s2742458400755230247x6)], 62, ⟨⟨[84,117,112,108,101,67,111,109,112]⟩⟩, true, [], [], false, none, false⟩), #[none, none, (some (.str ⟨⟨[84,117,112,108,101,67,111,109,112]⟩⟩ 288)), (some (.str ⟨⟨[84,117,112,108,101,67,111,109,112]⟩⟩ 296)), (some (.builtin PySem.W.SL.s11443829558043349243x14)), (some (.bool true))]⟩
noncomputable def ko_64 (P : Params) : Obj := ⟨(.type PySem.W.SL.s14755015743595814543x17), none, (.fields #[(.str ⟨⟨[95,95,100,105,99,116,95,95]⟩⟩ 326), (.ref 63), (.builtin PySem.W.SL.s6511155373996960695x17), (.builtin PySem.W.SL.s12411053484034534018x21)]), #[]⟩
noncomputable def ko_65 (P : Params) : Obj := ⟨(.type PySem.W.SL.s14755015743595814543x17), none, (.fields #[(.str ⟨⟨[95,95,119,101,97,107,114,101,102,95,95]⟩⟩ 328), (.ref 63), (.builtin PySem.W.SL.s10220274742760427390x26), .none]), #[]⟩
noncomputable def ko_75 (P : Params) : Obj := ⟨(.type PySem.W.SL.s2766695959194262286x5), none, (.seq #[] 0), #[]⟩
noncomputable def ko_77 (P : Params) : Obj := ⟨(.type PySem.W.SL.s2766695959194262286x5), none, (.seq #[(.str ⟨⟨[115,101,108,102]⟩⟩ 349), (.str ⟨⟨[105,110,100,101,120]⟩⟩ 350), (.str ⟨⟨[100,111,99]⟩⟩ 351)] 0), #[]⟩
noncomputable def ko_78 (P : Params) : Obj := ⟨(.type PySem.W.SL.s2766695959194262286x5), none, (.seq #[] 0), #[]⟩
noncomputable def ko_80 (P : Params) : Obj := ⟨(.type PySem.W.SL.s5856160107412720595x4), none, (.fields #[(.str ⟨⟨[95,95,105,110,105,116,95,95]⟩⟩ 346), (.str ⟨⟨[95,116,117,112,108,101,103,101,116,116,101,114,46,95,95,105,110,105,116,95,95]⟩⟩ 347), (.str ⟨⟨[47,99,108,97,105,109,47,99,117,116,46,112,121]⟩⟩ 348), (.int 29 0), (.int 3 0), (.int 0 0), (.int 0 0), (.int 3 0), (.ref 75), (.bool true), (.int 273 0), (.ref 76), .none, (.ref 77), (.ref 78), (.ref 79), (.int 352 0), (.int 29 0), (.str ⟨⟨[47,99,108,97,105,109,47,99,117,116,46,112,121]⟩⟩ 353)]), #[]⟩
noncomputable def ko_81 (p : Program) (_ : Params) : Obj := fnO p [5, 0] fun n a b c => ⟨(.type PySem.W.SL.s7174869446012820540x8), none, .func ⟨n, ⟨⟨[95,116,117,112,108,101,103,101,116,116,101,114,46,95,95,105,110,105,116,95,95]⟩⟩, a, .stmts b, c, 3, [], .none, .none, .none, (.str ⟨⟨[99,112,121,51,49,51,46,105,109,112,111,114,116,108,105,98,46,109,101,116,97,100,97,116,97,46,95,99,111,108,108,101,99,116,105,111,110,115]⟩⟩ 332), none, (.ref 80), .none, 0⟩, #[]⟩
noncomputable def ko_82 (P : Params) : Obj := ⟨(.type PySem.W.SL.s2766695959194262286x5), none, (.seq #[.none] 0), #[]⟩
noncomputable def ko_83 (P : Params) : Obj := ⟨(.type PySem.W.SL.s2766695959194262286x5), none, (.seq #[] 0), #[]⟩
noncomputable def ko_85 (P : Params) : Obj := ⟨(.type PySem.W.SL.s2766695959194262286x5), none, (.seq #[(.str ⟨⟨[115,101,108,102]⟩⟩ 358), (.str ⟨⟨[111,98,106]⟩⟩ 359), (.str ⟨⟨[111,98,106,116,121,112,101]⟩⟩ 360)] 0), #[]⟩
noncomputable def ko_86 (P : Params) : Obj := ⟨(.type PySem.W.SL.s2766695959194262286x5), none, (.seq #[] 0), #[]⟩
noncomputable def ko_88 (P : Params) : Obj := ⟨(.type PySem.W.SL.s5856160107412720595x4), none, (.fields #[(.str ⟨⟨[95,95,103,101,116,95,95]⟩⟩ 355), (.str ⟨⟨[95,116,117,112,108,101,103,101,116,116,101,114,46,95,95,103,101,116,95,95]⟩⟩ 356), (.str ⟨⟨[47,99,108,97,105,109,47,99,117,116,46,112,121]⟩⟩ 357), (.int 33 0), (.int 3 0), (.int 0 0), (.int 0 0), (.int 3 0), (.ref 83), (.bool true), (.int 273 0), (.ref 84), .none, (.ref 85), (.ref 86), (.ref 87), (.int 361 0), (.int 33 0), (.str ⟨⟨[47,99,108,97,105,109,47,99,117,116,46,112,121]⟩⟩ 362)]), #[]⟩
noncomputable def ko_89 (p : Program) (_ : Params) : Obj := fnO p [5, 1] fun n a b c => ⟨(.type PySem.W.SL.s7174869446012820540x8), none, .func ⟨n, ⟨⟨[95,116,117,112,108,101,103,101,116,116,101,114,46,95,95,103,101,116,95,95]⟩⟩, a, .stmts b, c, 3, [], (.ref 82), .none, .none, (.str ⟨⟨[99,112,121,51,49,51,46,105,109,112,111,114,116,108,105,98,46,109,101,116,97,100,97,116,97,46,95,99,111,108,108,101,99,116,105,111,110,115]⟩⟩ 332), none, (.ref 88), .none, 0⟩, #[]⟩
noncomputable def ko_90 (P : Params) : Obj := ⟨(.type PySem.W.SL.s2766695959194262286x5), none, (.seq #[] 0), #[]⟩
noncomputable def ko_92 (P : Params) : Obj := ⟨(.type PySem.W.SL.s2766695959194262286x5), none, (.seq #[(.str ⟨⟨[115,101,108,102]⟩⟩ 367), (.str ⟨⟨[111,98,106]⟩⟩ 368), (.str ⟨⟨[118,97,108,117,101]⟩⟩ 369)] 0), #[]⟩
noncomputable def ko_93 (P : Params) : Obj := ⟨(.type PySem.W.SL.s2766695959194262286x5), none, (.seq #[] 0), #[]⟩
noncomputable def ko_95 (P : Params) : Obj := ⟨(.type PySem.W.SL.s5856160107412720595x4), none, (.fields #[(.str ⟨⟨[95,95,115,101,116,95,95]⟩⟩ 364), (.str ⟨⟨[95,116,117,112,108,101,103,101,116,116,101,114,46,95,95,115,101,116,95,95]⟩⟩ 365), (.str ⟨⟨[47,99,108,97,105,109,47,99,117,116,46,112,121]⟩⟩ 366), (.int 40 0), (.int 3 0), (.int 0 0), (.int 0 0), (.int 3 0), (.ref 90), (.bool true), (.int 273 0), (.ref 91), .none, (.ref 92), (.ref 93), (.ref 94), (.int 370 0), (.int 40 0), (.str ⟨⟨[47,99,108,97,105,109,47,99,117,116,46,112,121]⟩⟩ 371)]), #[]⟩
noncomputable def ko_96 (p : Program) (_ : Params) : Obj := fnO p [5, 2] fun n a b c => ⟨(.type PySem.W.SL.s7174869446012820540x8), none, .func ⟨n, ⟨⟨[95,116,117,112,108,101,103,101,116,116,101,114,46,95,95,115,101,116,95,95]⟩⟩, a, .stmts b, c, 3, [], .none, .none, .none, (.str ⟨⟨[99,112,121,51,49,51,46,105,109,112,111,114,116,108,105,98,46,109,101,116,97,100,97,116,97,46,95,99,111,108,108,101,99,116,105,111,110,115]⟩⟩ 332), none, (.ref 95), .none, 0⟩, #[]⟩
noncomputable def ko_97 (P : Params) : Obj := ⟨(.type PySem.W.SL.s2766695959194262286x5), none, (.seq #[] 0), #[]⟩
noncomputable def ko_99 (P : Params) : Obj := ⟨(.type PySem.W.SL.s2766695959194262286x5), none, (.seq #[(.str ⟨⟨[115,101,108,102]⟩⟩ 376), (.str ⟨⟨[111,98,106]⟩⟩ 377)] 0), #[]⟩
noncomputable def ko_100 (P : Params) : Obj := ⟨(.type PySem.W.SL.s2766695959194262286x5), none, (.seq #[] 0), #[]⟩
noncomputable def ko_102 (P : Params) : Obj := ⟨(.type PySem.W.SL.s5856160107412720595x4), none, (.fields #[(.str ⟨⟨[95,95,100,101,108,101,116,101,95,95]⟩⟩ 373), (.str ⟨⟨[95,116,117,112,108,101,103,101,116,116,101,114,46,95,95,100,101,108,101,116,101,95,95]⟩⟩ 374), (.str ⟨⟨[47,99,108,97,105,109,47,99,117,116,46,112,121]⟩⟩ 375), (.int 43 0), (.int 2 0), (.int 0 0), (.int 0 0), (.int 3 0), (.ref 97), (.bool true), (.int 273 0), (.ref 98), .none, (.ref 99), (.ref 100), (.ref 101), (.int 378 0), (.int 43 0), (.str ⟨⟨[47,99,108,97,105,109,47,99,117,116,46,112,121]⟩⟩ 379)]), #[]⟩
noncomputable def ko_103 (p : Program) (_ : Params) : Obj := fnO p [5, 3] fun n a b c => ⟨(.type PySem.W.SL.s7174869446012820540x8), none, .func ⟨n, ⟨⟨[95,116,117,112,108,101,103,101,116,116,101,114,46,95,95,100,101,108,101,116,101,95,95]⟩⟩, a, .stmts b, c, 3, [], .none, .none, .none, (.str ⟨⟨[99,112,121,51,49,51,46,105,109,112,111,114,116,108,105,98,46,109,101,116,97,100,97,116,97,46,95,99,111,108,108,101,99,116,105,111,110,115]⟩⟩ 332), none, (.ref 102), .none, 0⟩, #[]⟩
noncomputable def ko_104 (P : Params) : Obj := ⟨(.type PySem.W.SL.s2766695959194262286x5), none, (.seq #[(.str ⟨⟨[95,95,100,111,99,95,95]⟩⟩ 381), (.str ⟨⟨[105,110,100,101,120]⟩⟩ 382)] 0), #[]⟩
noncomputable def ko_105 (P : Params) : Obj := ⟨(.type PySem.W.SL.s14018661285674007319x4), none, (.dict #[⟨(PyData.keyHash P ⟨⟨[95,95,109,111,100,117,108,101,95,95]⟩⟩), (.str ⟨⟨[95,95,109,111,100,117,108,101,95,95]⟩⟩ 341), (.str ⟨⟨[99,112,121,51,49,51,46,105,109,112,111,114,116,108,105,98,46,109,101,116,97,100,97,116,97,46,95,99,111,108,108,101,99,116,105,111,110,115]⟩⟩ 332)⟩, ⟨(PyData.keyHash P ⟨⟨[95,95,102,105,114,115,116,108,105,110,101,110,111,95,95]⟩⟩), (.str ⟨⟨[95,95,102,105,114,115,116,108,105,110,101,110,111,95,95]⟩⟩ 345), (.int 27 344)⟩, ⟨(PyData.keyHash P ⟨⟨[95,95,105,110,105,116,95,95]⟩⟩), (.str ⟨⟨[95,95,105,110,105,116,95,95]⟩⟩ 354), (.ref 81)⟩, ⟨(PyData.keyHash P ⟨⟨[95,95,103,101,116,95,95]⟩⟩), (.str ⟨⟨[95,95,103,101,116,95,95]⟩⟩ 363), (.ref 89)⟩, ⟨(PyData.keyHash P ⟨⟨[95,95,115,101,116,95,95]⟩⟩), (.str ⟨⟨[95,95,115,101,116,95,95]⟩⟩ 372), (.ref 96)⟩, ⟨(PyData.keyHash P ⟨⟨[95,95,100,101,108,101,116,101,95,95]⟩⟩), (.str ⟨⟨[95,95,100,101,108,101,116,101,95,95]⟩⟩ 380), (.ref 103)⟩, ⟨(PyData.keyHash P ⟨⟨[95,95,115,116,97,116,105,99,95,97,116,116,114,105,98,117,116,101,115,95,95]⟩⟩), (.str ⟨⟨[95,95,115,116,97,116,105,99,95,97,116,116,114,105,98,117,116,101,115,95,95]⟩⟩ 383), (.ref 104)⟩, ⟨(PyData.keyHash P ⟨⟨[95,95,100,105,99,116,95,95]⟩⟩), (.str ⟨⟨[95,95,100,105,99,116,95,95]⟩⟩ 385), (.ref 107)⟩, ⟨(PyData.keyHash P ⟨⟨[95,95,119,101,97,107,114,101,102,95,95]⟩⟩), (.str ⟨⟨[95,95,119,101,97,107,114,101,102,95,95]⟩⟩ 387), (.ref 108)⟩, ⟨(PyData.keyHash P ⟨⟨[95,95,100,111,99,95,95]⟩⟩), (.str ⟨⟨[95,95,100,111,99,95,95]⟩⟩ 388), .none⟩] 4), #[]⟩
noncomputable def ko_106 (P : Params) : Obj := ⟨(.type PySem.W.SL.s17162191345867700912x4), none, (.cls ⟨⟨⟨[95,116,117,112,108,101,103,101,116,116,101,114]⟩⟩, [(.type PySem.W.SL.s2742458400755230247x6)], [(.ref 106), (.type PySem.W.SL.s2742458400755230247x6)], 105, ⟨⟨[95,116,117,112,108,101,103,101,116,116,101,114]⟩⟩, true, [], [], false, none, false⟩), #[none, none, (some (.str ⟨⟨[95,116,117,112,108,101,103,101,116,116,101,114]⟩⟩ 334)), (some (.str ⟨⟨[95,116,117,112,108,101,103,101,116,116,101,114]⟩⟩ 342)), (some (.builtin PySem.W.SL.s11443829558043349243x14)), (some (.bool true))]⟩
noncomputable def ko_107 (P : Params) : Obj := ⟨(.type PySem.W.SL.s14755015743595814543x17), none, (.fields #[(.str ⟨⟨[95,95,100,105,99,116,95,95]⟩⟩ 384), (.ref 106), (.builtin PySem.W.SL.s6511155373996960695x17), (.builtin PySem.W.SL.s12411053484034534018x21)]), #[]⟩
noncomputable def ko_108 (P : Params) : Obj := ⟨(.type PySem.W.SL.s14755015743595814543x17), none, (.fields #[(.str ⟨⟨[95,95,119,101,97,107,114,101,102,95,95]⟩⟩ 386), (.ref 106), (.builtin PySem.W.SL.s10220274742760427390x26), .none]), #[]⟩
noncomputable def ko_111 (P : Params) : Obj := ⟨(.type PySem.W.SL.s2766695959194262286x5), none, (.seq #[(.type PySem.W.SL.s9278979716766391425x23)] 0), #[]⟩
noncomputable def ko_114 (P : Params) : Obj := ⟨(.type PySem.W.SL.s15660640913423913556x4), none, (.cell (some (.ref 136))), #[]⟩
noncomputable def ko_119 (P : Params) : Obj := ⟨(.type PySem.W.SL.s2766695959194262286x5), none, (.seq #[(.ref 114)] 0), #[]⟩
noncomputable def ko_120 (P : Params) : Obj := ⟨(.type PySem.W.SL.s2766695959194262286x5), none, (.seq #[(.str ⟨⟨[95,95,99,108,97,115,115,95,95]⟩⟩ 409)] 0), #[]⟩
noncomputable def ko_122 (P : Params) : Obj := ⟨(.type PySem.W.SL.s2766695959194262286x5), none, (.seq #[(.str ⟨⟨[115,101,108,102]⟩⟩ 410), (.str ⟨⟨[107,101,121]⟩⟩ 411)] 0), #[]⟩
noncomputable def ko_123 (P : Params) : Obj := ⟨(.type PySem.W.SL.s2766695959194262286x5), none, (.seq #[] 0), #[]⟩
noncomputable def ko_125 (P : Params) : Obj := ⟨(.type PySem.W.SL.s5856160107412720595x4), none, (.fields #[(.str ⟨⟨[95,95,109,105,115,115,105,110,103,95,95]⟩⟩ 406), (.str ⟨⟨[70,114,101,101,122,97,98,108,101,68,101,102,97,117,108,116,68,105,99,116,46,95,95,109,105,115,115,105,110,103,95,95]⟩⟩ 407), (.str ⟨⟨[47,99,108,97,105,109,47,99,117,116,46,112,121]⟩⟩ 408), (.int 60 0), (.int 2 0), (.int 0 0), (.int 0 0), (.int 3 0), (.ref 120), (.bool true), (.int 273 0), (.ref 121), .none, (.ref 122), (.ref 123), (.ref 124), (.int 412 0), (.int 60 0), (.str ⟨⟨[47,99,108,97,105,109,47,99,117,116,46,112,121]⟩⟩ 413)]), #[]⟩
noncomputable def ko_126 (p : Program) (_ : Params) : Obj := fnO p [6, 1] fun n a b c => ⟨(.type PySem.W.SL.s7174869446012820540x8), none, .func ⟨n, ⟨⟨[70,114,101,101,122,97,98,108,101,68,101,102,97,117,108,116,68,105,99,116,46,95,95,109,105,115,115,105,110,103,95,95]⟩⟩, a, .stmts b, c, 3, [⟨⟨⟨[95,95,99,108,97,115,115,95,95]⟩⟩, 114⟩], .none, .none, .none, (.str ⟨⟨[99,112,121,51,49,51,46,105,109,112,111,114,116,108,105,98,46,109,101,116,97,100,97,116,97,46,95,99,111,108,108,101,99,116,105,111,110,115]⟩⟩ 332), none, (.ref 125), (.ref 119), 0⟩, #[]⟩
noncomputable def ko_127 (P : Params) : Obj := ⟨(.type PySem.W.SL.s2766695959194262286x5), none, (.seq #[] 0), #[]⟩
noncomputable def ko_129 (P : Params) : Obj := ⟨(.type PySem.W.SL.s2766695959194262286x5), none, (.seq #[(.str ⟨⟨[115,101,108,102]⟩⟩ 418)] 0), #[]⟩
noncomputable def ko_130 (P : Params) : Obj := ⟨(.type PySem.W.SL.s2766695959194262286x5), none, (.seq #[(.str ⟨⟨[115,101,108,102]⟩⟩ 419)] 0), #[]⟩
noncomputable def ko_132 (P : Params) : Obj := ⟨(.type PySem.W.SL.s5856160107412720595x4), none, (.fields #[(.str ⟨⟨[102,114,101,101,122,101]⟩⟩ 415), (.str ⟨⟨[70,114,101,101,122,97,98,108,101,68,101,102,97,117,108,116,68,105,99,116,46,102,114,101,101,122,101]⟩⟩ 416), (.str ⟨⟨[47,99,108,97,105,109,47,99,117,116,46,112,121]⟩⟩ 417), (.int 63 0), (.int 1 0), (.int 0 0), (.int 0 0), (.int 3 0), (.ref 127), (.bool true), (.int 273 0), (.ref 128), .none, (.ref 129), (.ref 130), (.ref 131), (.int 420 0), (.int 63 0), (.str ⟨⟨[47,99,108,97,105,109,47,99,117,116,46,112,121]⟩⟩ 421)]), #[]⟩
noncomputable def ko_133 (p : Program) (_ : Params) : Obj := fnO p [6, 2] fun n a b c => ⟨(.type PySem.W.SL.s7174869446012820540x8), none, .func ⟨n, ⟨⟨[70,114,101,101,122,97,98,108,101,68,101,102,97,117,108,116,68,105,99,116,46,102,114,101,101,122,101]⟩⟩, a, .stmts b, c, 3, [], .none, .none, .none, (.str ⟨⟨[99,112,121,51,49,51,46,105,109,112,111,114,116,108,105,98,46,109,101,116,97,100,97,116,97,46,95,99,111,108,108,101,99,116,105,111,110,115]⟩⟩ 332), none, (.ref 132), .none, 0⟩, #[]⟩
noncomputable def ko_134 (P : Params) : Obj := ⟨(.type PySem.W.SL.s2766695959194262286x5), none, (.seq #[(.str ⟨⟨[95,102,114,111,122,101,110]⟩⟩ 423)] 0), #[]⟩
noncomputable def ko_135 (P : Params) : Obj := ⟨(.type PySem.W.SL.s14018661285674007319x4), none, (.dict #[⟨(PyData.keyHash P ⟨⟨[95,95,109,111,100,117,108,101,95,95]⟩⟩), (.str ⟨⟨[95,95,109,111,100,117,108,101,95,95]⟩⟩ 398), (.str ⟨⟨[99,112,121,51,49,51,46,105,109,112,111,114,116,108,105,98,46,109,101,116,97,100,97,116,97,46,95,99,111,108,108,101,99,116,105,111,110,115]⟩⟩ 332)⟩, ⟨(PyData.keyHash P ⟨⟨[95,95,102,105,114,115,116,108,105,110,101,110,111,95,95]⟩⟩), (.str ⟨⟨[95,95,102,105,114,115,116,108,105,110,101,110,111,95,95]⟩⟩ 402), (.int 45 401)⟩, ⟨(PyData.keyHash P ⟨⟨[95,95,100,111,99,95,95]⟩⟩), (.str ⟨⟨[95,95,100,111,99,95,95]⟩⟩ 404), (.str ⟨⟨[10,79,102,116,101,110,32,105,116,32,105,115,32,100,101,115,105,114,97,98,108,101,32,116,111,32,112,114,101,118,101,110,116,32,116,104,101,32,109,117,116,97,116,105,111,110,32,111,102,10,97,32,100,101,102,97,117,108,116,32,100,105,99,116,32,97,102,116,101,114,32,105,116,115,32,105,110,105,116,105,97,108,32,99,111,110,115,116,114,117,99,116,105,111,110,44,32,115,117,99,104,10,97,115,32,116,111,32,112,114,101,118,101,110,116,32,109,117,116,97,116,105,111,110,32,100,117,114,105,110,103,32,105,116,101,114,97,116,105,111,110,46,10,10,62,62,62,32,100,100,32,61,32,70,114,101,101,122,97,98,108,101,68,101,102,97,117,108,116,68,105,99,116,40,108,105,115,116,41,10,62,62,62,32,100,100,91,48,93,46,97,112,112,101,110,100,40,39,49,39,41,10,62,62,62,32,100,100,46,102,114,101,101,122,101,40,41,10,62,62,62,32,100,100,91,49,93,10,91,93,10,62,62,62,32,108,101,110,40,100,100,41,10,49,10]⟩⟩ 403)⟩, ⟨(PyData.keyHash P ⟨⟨[95,95,109,105,115,115,105,110,103,95,95]⟩⟩), (.str ⟨⟨[95,95,109,105,115,115,105,110,103,95,95]⟩⟩ 414), (.ref 126)⟩, ⟨(PyData.keyHash P ⟨⟨[102,114,101,101,122,101]⟩⟩), (.str ⟨⟨[102,114,101,101,122,101]⟩⟩ 422), (.ref 133)⟩, ⟨(PyData.keyHash P ⟨⟨[95,95,115,116,97,116,105,99,95,97,116,116,114,105,98,117,116,101,115,95,95]⟩⟩), (.str ⟨⟨[95,95,115,116,97,116,105,99,95,97,116,116,114,105,98,117,116,101,115,95,95]⟩⟩ 424), (.ref 134)⟩, ⟨(PyData.keyHash P ⟨⟨[95,95,100,105,99,116,95,95]⟩⟩), (.str ⟨⟨[95,95,100,105,99,116,95,95]⟩⟩ 427), (.ref 137)⟩, ⟨(PyData.keyHash P ⟨⟨[95,95,119,101,97,107,114,101,102,95,95]⟩⟩), (.str ⟨⟨[95,95,119,101,97,107,114,101,102,95,95]⟩⟩ 429), (.ref 138)⟩] 4), #[]⟩
noncomputable def ko_136 (P : Params) : Obj := ⟨(.type PySem.W.SL.s17162191345867700912x4), none, (.cls ⟨⟨⟨[70,114,101,101,122,97,98,108,101,68,101,102,97,117,108,116,68,105,99,116]⟩⟩, [(.type PySem.W.SL.s9278979716766391425x23)], [(.ref 136), (.type PySem.W.SL.s9278979716766391425x23), (.type PySem.W.SL.s14018661285674007319x4), (.type PySem.W.SL.s2742458400755230247x6)], 135, ⟨⟨[70,114,101,101,122,97,98,108,101,68,101,102,97,117,108,116,68,105,99,116]⟩⟩, true, [⟨⟨[]⟩⟩], [], false, none, false⟩), #[(some (.ref 111)), none, (some (.str ⟨⟨[70,114,101,101,122,97,98,108,101,68,101,102,97,117,108,116,68,105,99,116]⟩⟩ 391)), (some (.str ⟨⟨[70,114,101,101,122,97,98,108,101,68,101,102,97,117,108,116,68,105,99,116]⟩⟩ 399)), (some (.builtin PySem.W.SL.s15987600418018006706x12)), (some (.bool true))]⟩
noncomputable def ko_137 (P : Params) : Obj := ⟨(.type PySem.W.SL.s14755015743595814543x17), none, (.fields #[(.str ⟨⟨[95,95,100,105,99,116,95,95]⟩⟩ 426), (.ref 136), (.builtin PySem.W.SL.s6511155373996960695x17), (.builtin PySem.W.SL.s12411053484034534018x21)]), #[]⟩
noncomputable def ko_138 (P : Params) : Obj := ⟨(.type PySem.W.SL.s14755015743595814543x17), none, (.fields #[(.str ⟨⟨[95,95,119,101,97,107,114,101,102,95,95]⟩⟩ 428), (.ref 136), (.builtin PySem.W.SL.s10220274742760427390x26), .none]), #[]⟩
noncomputable def ko_141 (P : Params) : Obj := ⟨(.type PySem.W.SL.s2766695959194262286x5), none, (.seq #[(.type PySem.W.SL.s2766695959194262286x5)] 0), #[]⟩
noncomputable def ko_144 (P : Params) : Obj := ⟨(.type PySem.W.SL.s15660640913423913556x4), none, (.cell (some (.ref 208))), #[]⟩
noncomputable def ko_149 (P : Params) : Obj := ⟨(.type PySem.W.SL.s2766695959194262286x5), none, (.seq #[] 0), #[]⟩
noncomputable def ko_150 (P : Params) : Obj := ⟨(.type PySem.W.SL.s2766695959194262286x5), none, (.seq #[(.str ⟨⟨[110,97,109,101]⟩⟩ 450), (.str ⟨⟨[118,97,108,117,101]⟩⟩ 451)] 0), #[]⟩
noncomputable def ko_151 (P : Params) : Obj := ⟨(.type PySem.W.SL.s14018661285674007319x4), none, (.dict #[] 0), #[]⟩
noncomputable def ko_152 (P : Params) : Obj := ⟨(.type PySem.W.SL.s2766695959194262286x5), none, (.seq #[] 0), #[]⟩
noncomputable def ko_154 (P : Params) : Obj := ⟨(.type PySem.W.SL.s2766695959194262286x5), none, (.seq #[(.str ⟨⟨[95,99,108,115]⟩⟩ 457), (.str ⟨⟨[110,97,109,101]⟩⟩ 458), (.str ⟨⟨[118,97,108,117,101]⟩⟩ 459)] 0), #[]⟩
noncomputable def ko_155 (P : Params) : Obj := ⟨(.type PySem.W.SL.s2766695959194262286x5), none, (.seq #[] 0), #[]⟩
noncomputable def ko_157 (P : Params) : Obj := ⟨(.type PySem.W.SL.s5856160107412720595x4), none, (.fields #[(.str ⟨⟨[95,95,110,101,119,95,95]⟩⟩ 454), (.str ⟨⟨[80,97,105,114,46,95,95,110,101,119,95,95]⟩⟩ 455), (.str ⟨⟨[47,99,108,97,105,109,47,99,117,116,46,112,121]⟩⟩ 456), (.int 71 0), (.int 3 0), (.int 0 0), (.int 0 0), (.int 3 0), (.ref 152), (.bool true), (.int 273 0), (.ref 153), .none, (.ref 154), (.ref 155), (.ref 156), (.int 460 0), (.int 71 0), (.str ⟨⟨[47,99,108,97,105,109,47,99,117,116,46,112,121]⟩⟩ 461)]), #[]⟩
noncomputable def ko_158 (p : Program) (_ : Params) : Obj := fnO p [7, 4] fun n a b c => ⟨(.type PySem.W.SL.s7174869446012820540x8), none, .func ⟨n, ⟨⟨[80,97,105,114,46,95,95,110,101,119,95,95]⟩⟩, a, .stmts b, c, 3, [], .none, .none, (.str ⟨⟨[67,114,101,97,116,101,32,110,101,119,32,105,110,115,116,97,110,99,101,32,111,102,32,80,97,105,114,40,110,97,109,101,44,32,118,97,108,117,101,41]⟩⟩ 462), (.str ⟨⟨[99,112,121,51,49,51,46,105,109,112,111,114,116,108,105,98,46,109,101,116,97,100,97,116,97,46,95,99,111,108,108,101,99,116,105,111,110,115]⟩⟩ 332), none, (.ref 157), .none, 0⟩, #[]⟩
noncomputable def ko_159 (P : Params) : Obj := ⟨(.type PySem.W.SL.s2766695959194262286x5), none, (.seq #[] 0), #[]⟩
noncomputable def ko_161 (P : Params) : Obj := ⟨(.type PySem.W.SL.s2766695959194262286x5), none, (.seq #[(.str ⟨⟨[99,108,115]⟩⟩ 467), (.str ⟨⟨[105,116,101,114,97,98,108,101]⟩⟩ 468), (.str ⟨⟨[114,101,115,117,108,116]⟩⟩ 469)] 0), #[]⟩
noncomputable def ko_162 (P : Params) : Obj := ⟨(.type PySem.W.SL.s2766695959194262286x5), none, (.seq #[] 0), #[]⟩
noncomputable def ko_164 (P : Params) : Obj := ⟨(.type PySem.W.SL.s5856160107412720595x4), none, (.fields #[(.str ⟨⟨[95,109,97,107,101]⟩⟩ 464), (.str ⟨⟨[80,97,105,114,46,95,109,97,107,101]⟩⟩ 465), (.str ⟨⟨[47,99,108,97,105,109,47,99,117,116,46,112,121]⟩⟩ 466), (.int 75 0), (.int 2 0), (.int 0 0), (.int 0 0), (.int 3 0), (.ref 159), (.bool true), (.int 273 0), (.ref 160), .none, (.ref 161), (.ref 162), (.ref 163), (.int 470 0), (.int 75 0), (.str ⟨⟨[47,99,108,97,105,109,47,99,117,116,46,112,121]⟩⟩ 471)]), #[]⟩
noncomputable def ko_165 (p : Program) (_ : Params) : Obj := fnO p [7, 5] fun n a b c => ⟨(.type PySem.W.SL.s7174869446012820540x8), none, .func ⟨n, ⟨⟨[80,97,105,114,46,95,109,97,107,101]⟩⟩, a, .stmts b, c, 3, [], .none, .none, (.str ⟨⟨[77,97,107,101,32,97,32,110,101,119,32,80,97,105,114,32,111,98,106,101,99,116,32,102,114,111,109,32,97,32,115,101,113,117,101,110,99,101,32,111,114,32,105,116,101,114,97,98,108,101]⟩⟩ 472), (.str ⟨⟨[99,112,121,51,49,51,46,105,109,112,111,114,116,108,105,98,46,109,101,116,97,100,97,116,97,46,95,99,111,108,108,101,99,116,105,111,110,115]⟩⟩ 332), (some 168), (.ref 164), .none, 0⟩, #[]⟩
noncomputable def ko_166 (P : Params) : Obj := ⟨(.type PySem.W.SL.s14018661285674007319x4), none, (.dict #[⟨(PyData.keyHash P ⟨⟨[95,95,109,111,100,117,108,101,95,95]⟩⟩), (.str ⟨⟨[95,95,109,111,100,117,108,101,95,95]⟩⟩ 474), (.str ⟨⟨[99,112,121,51,49,51,46,105,109,112,111,114,116,108,105,98,46,109,101,116,97,100,97,116,97,46,95,99,111,108,108,101,99,116,105,111,110,115]⟩⟩ 332)⟩, ⟨(PyData.keyHash P ⟨⟨[95,95,110,97,109,101,95,95]⟩⟩), (.str ⟨⟨[95,95,110,97,109,101,95,95]⟩⟩ 477), (.str ⟨⟨[95,109,97,107,101]⟩⟩ 476)⟩, ⟨(PyData.keyHash P ⟨⟨[95,95,113,117,97,108,110,97,109,101,95,95]⟩⟩), (.str ⟨⟨[95,95,113,117,97,108,110,97,109,101,95,95]⟩⟩ 480), (.str ⟨⟨[80,97,105,114,46,95,109,97,107,101]⟩⟩ 479)⟩, ⟨(PyData.keyHash P ⟨⟨[95,95,100,111,99,95,95]⟩⟩), (.str ⟨⟨[95,95,100,111,99,95,95]⟩⟩ 482), (.str ⟨⟨[77,97,107,101,32,97,32,110,101,119,32,80,97,105,114,32,111,98,106,101,99,116,32,102,114,111,109,32,97,32,115,101,113,117,101,110,99,101,32,111,114,32,105,116,101,114,97,98,108,101]⟩⟩ 472)⟩, ⟨(PyData.keyHash P ⟨⟨[95,95,97,110,110,111,116,97,116,105,111,110,115,95,95]⟩⟩), (.str ⟨⟨[95,95,97,110,110,111,116,97,116,105,111,110,115,95,95]⟩⟩ 484), (.ref 168)⟩] 5), #[]⟩
noncomputable def ko_167 (P : Params) : Obj := ⟨(.type PySem.W.SL.s591115383303110208x11), (some 166), (.fields #[(.ref 165), (.bool false)]), #[]⟩
noncomputable def ko_168 (P : Params) : Obj := ⟨(.type PySem.W.SL.s14018661285674007319x4), none, (.dict #[] 0), #[]⟩
noncomputable def ko_169 (P : Params) : Obj := ⟨(.type PySem.W.SL.s2766695959194262286x5), none, (.seq #[(.ref 144)] 0), #[]⟩
noncomputable def ko_170 (P : Params) : Obj := ⟨(.type PySem.W.SL.s2766695959194262286x5), none, (.seq #[(.str ⟨⟨[95,95,99,108,97,115,115,95,95]⟩⟩ 489)] 0), #[]⟩
noncomputable def ko_172 (P : Params) : Obj := ⟨(.type PySem.W.SL.s2766695959194262286x5), none, (.seq #[(.str ⟨⟨[115,101,108,102]⟩⟩ 490), (.str ⟨⟨[107,119,100,115]⟩⟩ 491), (.str ⟨⟨[114,101,115,117,108,116]⟩⟩ 492)] 0), #[]⟩
noncomputable def ko_173 (P : Params) : Obj := ⟨(.type PySem.W.SL.s2766695959194262286x5), none, (.seq #[] 0), #[]⟩
noncomputable def ko_175 (P : Params) : Obj := ⟨(.type PySem.W.SL.s5856160107412720595x4), none, (.fields #[(.str ⟨⟨[95,114,101,112,108,97,99,101]⟩⟩ 486), (.str ⟨⟨[80,97,105,114,46,95,114,101,112,108,97,99,101]⟩⟩ 487), (.str ⟨⟨[47,99,108,97,105,109,47,99,117,116,46,112,121]⟩⟩ 488), (.int 83 0), (.int 1 0), (.int 1 0), (.int 0 0), (.int 11 0), (.ref 170), (.bool true), (.int 273 0), (.ref 171), .none, (.ref 172), (.ref 173), (.ref 174), (.int 493 0), (.int 83 0), (.str ⟨⟨[47,99,108,97,105,109,47,99,117,116,46,112,121]⟩⟩ 494)]), #[]⟩
noncomputable def ko_176 (p : Program) (_ : Params) : Obj := fnO p [7, 6] fun n a b c => ⟨(.type PySem.W.SL.s7174869446012820540x8), none, .func ⟨n, ⟨⟨[80,97,105,114,46,95,114,101,112,108,97,99,101]⟩⟩, a, .stmts b, c, 3, [⟨⟨⟨[95,95,99,108,97,115,115,95,95]⟩⟩, 144⟩], .none, .none, (.str ⟨⟨[82,101,116,117,114,110,32,97,32,110,101,119,32,80,97,105,114,32,111,98,106,101,99,116,32,114,101,112,108,97,99,105,110,103,32,115,112,101,99,105,102,105,101,100,32,102,105,101,108,100,115,32,119,105,116,104,32,110,101,119,32,118,97,108,117,101,115]⟩⟩ 495), (.str ⟨⟨[99,112,121,51,49,51,46,105,109,112,111,114,116,108,105,98,46,109,101,116,97,100,97,116,97,46,95,99,111,108,108,101,99,116,105,111,110,115]⟩⟩ 332), none, (.ref 175), (.ref 169), 0⟩, #[]⟩
noncomputable def ko_177 (P : Params) : Obj := ⟨(.type PySem.W.SL.s2766695959194262286x5), none, (.seq #[] 0), #[]⟩
noncomputable def ko_179 (P : Params) : Obj := ⟨(.type PySem.W.SL.s2766695959194262286x5), none, (.seq #[(.str ⟨⟨[115,101,108,102]⟩⟩ 501)] 0), #[]⟩
noncomputable def ko_180 (P : Params) : Obj := ⟨(.type PySem.W.SL.s2766695959194262286x5), none, (.seq #[] 0), #[]⟩
noncomputable def ko_182 (P : Params) : Obj := ⟨(.type PySem.W.SL.s5856160107412720595x4), none, (.fields #[(.str ⟨⟨[95,95,114,101,112,114,95,95]⟩⟩ 498), (.str ⟨⟨[80,97,105,114,46,95,95,114,101,112,114,95,95]⟩⟩ 499), (.str ⟨⟨[47,99,108,97,105,109,47,99,117,116,46,112,121]⟩⟩ 500), (.int 94 0), (.int 1 0), (.int 0 0), (.int 0 0), (.int 3 0), (.ref 177), (.bool true), (.int 273 0), (.ref 178), .none, (.ref 179), (.ref 180), (.ref 181), (.int 502 0), (.int 94 0), (.str ⟨⟨[47,99,108,97,105,109,47,99,117,116,46,112,121]⟩⟩ 503)]), #[]⟩
noncomputable def ko_183 (p : Program) (_ : Params) : Obj := fnO p [7, 8] fun n a b c => ⟨(.type PySem.W.SL.s7174869446012820540x8), none, .func ⟨n, ⟨⟨[80,97,105,114,46,95,95,114,101,112,114,95,95]⟩⟩, a, .stmts b, c, 3, [], .none, .none, (.str ⟨⟨[82,101,116,117,114,110,32,97,32,110,105,99,101,108,121,32,102,111,114,109,97,116,116,101,100,32,114,101,112,114,101,115,101,110,116,97,116,105,111,110,32,115,116,114,105,110,103]⟩⟩ 504), (.str ⟨⟨[99,112,121,51,49,51,46,105,109,112,111,114,116,108,105,98,46,109,101,116,97,100,97,116,97,46,95,99,111,108,108,101,99,116,105,111,110,115]⟩⟩ 332), none, (.ref 182), .none, 0⟩, #[]⟩
noncomputable def ko_184 (P : Params) : Obj := ⟨(.type PySem.W.SL.s2766695959194262286x5), none, (.seq #[] 0), #[]⟩
noncomputable def ko_186 (P : Params) : Obj := ⟨(.type PySem.W.SL.s2766695959194262286x5), none, (.seq #[(.str ⟨⟨[115,101,108,102]⟩⟩ 509)] 0), #[]⟩
noncomputable def ko_187 (P : Params) : Obj := ⟨(.type PySem.W.SL.s2766695959194262286x5), none, (.seq #[] 0), #[]⟩
noncomputable def ko_189 (P : Params) : Obj := ⟨(.type PySem.W.SL.s5856160107412720595x4), none, (.fields #[(.str ⟨⟨[95,97,115,100,105,99,116]⟩⟩ 506), (.str ⟨⟨[80,97,105,114,46,95,97,115,100,105,99,116]⟩⟩ 507), (.str ⟨⟨[47,99,108,97,105,109,47,99,117,116,46,112,121]⟩⟩ 508), (.int 98 0), (.int 1 0), (.int 0 0), (.int 0 0), (.int 3 0), (.ref 184), (.bool true), (.int 273 0), (.ref 185), .none, (.ref 186), (.ref 187), (.ref 188), (.int 510 0), (.int 98 0), (.str ⟨⟨[47,99,108,97,105,109,47,99,117,116,46,112,121]⟩⟩ 511)]), #[]⟩
noncomputable def ko_190 (p : Program) (_ : Params) : Obj := fnO p [7, 9] fun n a b c => ⟨(.type PySem.W.SL.s7174869446012820540x8), none, .func ⟨n, ⟨⟨[80,97,105,114,46,95,97,115,100,105,99,116]⟩⟩, a, .stmts b, c, 3, [], .none, .none, .none, (.str ⟨⟨[99,112,121,51,49,51,46,105,109,112,111,114,116,108,105,98,46,109,101,116,97,100,97,116,97,46,95,99,111,108,108,101,99,116,105,111,110,115]⟩⟩ 332), none, (.ref 189), .none, 0⟩, #[]⟩
noncomputable def ko_191 (P : Params) : Obj := ⟨(.type PySem.W.SL.s2766695959194262286x5), none, (.seq #[] 0), #[]⟩
noncomputable def ko_193 (P : Params) : Obj := ⟨(.type PySem.W.SL.s2766695959194262286x5), none, (.seq #[(.str ⟨⟨[115,101,108,102]⟩⟩ 516)] 0), #[]⟩
noncomputable def ko_194 (P : Params) : Obj := ⟨(.type PySem.W.SL.s2766695959194262286x5), none, (.seq #[] 0), #[]⟩
noncomputable def ko_196 (P : Params) : Obj := ⟨(.type PySem.W.SL.s5856160107412720595x4), none, (.fields #[(.str ⟨⟨[95,95,103,101,116,110,101,119,97,114,103,115,95,95]⟩⟩ 513), (.str ⟨⟨[80,97,105,114,46,95,95,103,101,116,110,101,119,97,114,103,115,95,95]⟩⟩ 514), (.str ⟨⟨[47,99,108,97,105,109,47,99,117,116,46,112,121]⟩⟩ 515), (.int 101 0), (.int 1 0), (.int 0 0), (.int 0 0), (.int 3 0), (.ref 191), (.bool true), (.int 273 0), (.ref 192), .none, (.ref 193), (.ref 194), (.ref 195), (.int 517 0), (.int 101 0), (.str ⟨⟨[47,99,108,97,105,109,47,99,117,116,46,112,121]⟩⟩ 518)]), #[]⟩
noncomputable def ko_197 (p : Program) (_ : Params) : Obj := fnO p [7, 10] fun n a b c => ⟨(.type PySem.W.SL.s7174869446012820540x8), none, .func ⟨n, ⟨⟨[80,97,105,114,46,95,95,103,101,116,110,101,119,97,114,103,115,95,95]⟩⟩, a, .stmts b, c, 3, [], .none, .none, (.str ⟨⟨[82,101,116,117,114,110,32,115,101,108,102,32,97,115,32,97,32,112,108,97,105,110,32,116,117,112,108,101,46,32,32,85,115,101,100,32,98,121,32,99,111,112,121,32,97,110,100,32,112,105,99,107,108,101,46]⟩⟩ 519), (.str ⟨⟨[99,112,121,51,49,51,46,105,109,112,111,114,116,108,105,98,46,109,101,116,97,100,97,116,97,46,95,99,111,108,108,101,99,116,105,111,110,115]⟩⟩ 332), none, (.ref 196), .none, 0⟩, #[]⟩
noncomputable def ko_198 (P : Params) : Obj := ⟨(.type PySem.W.SL.s2766695959194262286x5), none, (.seq #[(.str ⟨⟨[110,97,109,101]⟩⟩ 521), (.str ⟨⟨[118,97,108,117,101]⟩⟩ 522)] 0), #[]⟩
noncomputable def ko_199 (P : Params) : Obj := ⟨(.type PySem.W.SL.s14018661285674007319x4), none, (.dict #[⟨(PyData.keyHash P ⟨⟨[105,110,100,101,120]⟩⟩), (.str ⟨⟨[105,110,100,101,120]⟩⟩ 530), (.int 0 524)⟩, ⟨(PyData.keyHash P ⟨⟨[95,95,100,111,99,95,95]⟩⟩), (.str ⟨⟨[95,95,100,111,99,95,95]⟩⟩ 532), (.str ⟨⟨[65,108,105,97,115,32,102,111,114,32,102,105,101,108,100,32,110,117,109,98,101,114,32,48]⟩⟩ 525)⟩] 2), #[]⟩
noncomputable def ko_200 (P : Params) : Obj := ⟨(.ref 106), (some 199), .plain, #[]⟩
noncomputable def ko_202 (P : Params) : Obj := ⟨(.type PySem.W.SL.s14018661285674007319x4), none, (.dict #[⟨(PyData.keyHash P ⟨⟨[105,110,100,101,120]⟩⟩), (.str ⟨⟨[105,110,100,101,120]⟩⟩ 540), (.int 1 534)⟩, ⟨(PyData.keyHash P ⟨⟨[95,95,100,111,99,95,95]⟩⟩), (.str ⟨⟨[95,95,100,111,99,95,95]⟩⟩ 542), (.str ⟨⟨[65,108,105,97,115,32,102,111,114,32,102,105,101,108,100,32,110,117,109,98,101,114,32,49]⟩⟩ 535)⟩] 2), #[]⟩
noncomputable def ko_203 (P : Params) : Obj := ⟨(.ref 106), (some 202), .plain, #[]⟩
noncomputable def ko_205 (P : Params) : Obj := ⟨(.type PySem.W.SL.s2766695959194262286x5), none, (.seq #[] 0), #[]⟩
noncomputable def ko_207 (P : Params) : Obj := ⟨(.type PySem.W.SL.s14018661285674007319x4), none, (.dict #[⟨(PyData.keyHash P ⟨⟨[95,95,109,111,100,117,108,101,95,95]⟩⟩), (.str ⟨⟨[95,95,109,111,100,117,108,101,95,95]⟩⟩ 441), (.str ⟨⟨[99,112,121,51,49,51,46,105,109,112,111,114,116,108,105,98,46,109,101,116,97,100,97,116,97,46,95,99,111,108,108,101,99,116,105,111,110,115]⟩⟩ 332)⟩, ⟨(PyData.keyHash P ⟨⟨[95,95,102,105,114,115,116,108,105,110,101,110,111,95,95]⟩⟩), (.str ⟨⟨[95,95,102,105,114,115,116,108,105,110,101,110,111,95,95]⟩⟩ 445), (.int 65 444)⟩, ⟨(PyData.keyHash P ⟨⟨[95,95,100,111,99,95,95]⟩⟩), (.str ⟨⟨[95,95,100,111,99,95,95]⟩⟩ 447), (.str ⟨⟨[80,97,105,114,40,110,97,109,101,44,32,118,97,108,117,101,41]⟩⟩ 446)⟩, ⟨(PyData.keyHash P ⟨⟨[95,95,115,108,111,116,115,95,95]⟩⟩), (.str ⟨⟨[95,95,115,108,111,116,115,95,95]⟩⟩ 449), (.ref 149)⟩, ⟨(PyData.keyHash P ⟨⟨[95,102,105,101,108,100,115]⟩⟩), (.str ⟨⟨[95,102,105,101,108,100,115]⟩⟩ 452), (.ref 150)⟩, ⟨(PyData.keyHash P ⟨⟨[95,102,105,101,108,100,95,100,101,102,97,117,108,116,115]⟩⟩), (.str ⟨⟨[95,102,105,101,108,100,95,100,101,102,97,117,108,116,115]⟩⟩ 453), (.ref 151)⟩, ⟨(PyData.keyHash P ⟨⟨[95,95,110,101,119,95,95]⟩⟩), (.str ⟨⟨[95,95,110,101,119,95,95]⟩⟩ 463), (.ref 209)⟩, ⟨(PyData.keyHash P ⟨⟨[95,109,97,107,101]⟩⟩), (.str ⟨⟨[95,109,97,107,101]⟩⟩ 485), (.ref 167)⟩, ⟨(PyData.keyHash P ⟨⟨[95,114,101,112,108,97,99,101]⟩⟩), (.str ⟨⟨[95,114,101,112,108,97,99,101]⟩⟩ 496), (.ref 176)⟩, ⟨(PyData.keyHash P ⟨⟨[95,95,114,101,112,108,97,99,101,95,95]⟩⟩), (.str ⟨⟨[95,95,114,101,112,108,97,99,101,95,95]⟩⟩ 497), (.ref 176)⟩, ⟨(PyData.keyHash P ⟨⟨[95,95,114,101,112,114,95,95]⟩⟩), (.str ⟨⟨[95,95,114,101,112,114,95,95]⟩⟩ 505), (.ref 183)⟩, ⟨(PyData.keyHash P ⟨⟨[95,97,115,100,105,99,116]⟩⟩), (.str ⟨⟨[95,97,115,100,105,99,116]⟩⟩ 512), (.ref 190)⟩, ⟨(PyData.keyHash P ⟨⟨[95,95,103,101,116,110,101,119,97,114,103,115,95,95]⟩⟩), (.str ⟨⟨[95,95,103,101,116,110,101,119,97,114,103,115,95,95]⟩⟩ 520), (.ref 197)⟩, ⟨(PyData.keyHash P ⟨⟨[95,95,109,97,116,99,104,95,97,114,103,115,95,95]⟩⟩), (.str ⟨⟨[95,95,109,97,116,99,104,95,97,114,103,115,95,95]⟩⟩ 523), (.ref 198)⟩, ⟨(PyData.keyHash P ⟨⟨[110,97,109,101]⟩⟩), (.str ⟨⟨[110,97,109,101]⟩⟩ 533), (.ref 200)⟩, ⟨(PyData.keyHash P ⟨⟨[118,97,108,117,101]⟩⟩), (.str ⟨⟨[118,97,108,117,101]⟩⟩ 543), (.ref 203)⟩, ⟨(PyData.keyHash P ⟨⟨[95,95,115,116,97,116,105,99,95,97,116,116,114,105,98,117,116,101,115,95,95]⟩⟩), (.str ⟨⟨[95,95,115,116,97,116,105,99,95,97,116,116,114,105,98,117,116,101,115,95,95]⟩⟩ 544), (.ref 205)⟩] 2), #[]⟩
noncomputable def ko_208 (P : Params) : Obj := ⟨(.type PySem.W.SL.s17162191345867700912x4), none, (.cls ⟨⟨⟨[80,97,105,114]⟩⟩, [(.type PySem.W.SL.s2766695959194262286x5)], [(.ref 208), (.type PySem.W.SL.s2766695959194262286x5), (.type PySem.W.SL.s2742458400755230247x6)], 207, ⟨⟨[80,97,105,114]⟩⟩, false, [], [(.ref 231)], false, none, false⟩), #[(some (.ref 141)), none, (some (.str ⟨⟨[80,97,105,114]⟩⟩ 434)), (some (.str ⟨⟨[80,97,105,114]⟩⟩ 442)), (some .none), (some (.bool false))]⟩
noncomputable def ko_209 (P : Params) : Obj := ⟨(.type PySem.W.SL.s16656946322747308186x12), none, (.fields #[(.ref 158)]), #[]⟩
noncomputable def ko_212 (P : Params) : Obj := ⟨(.type PySem.W.SL.s2766695959194262286x5), none, (.seq #[(.ref 208)] 0), #[]⟩
noncomputable def ko_219 (P : Params) : Obj := ⟨(.type PySem.W.SL.s2766695959194262286x5), none, (.seq #[] 0), #[]⟩
noncomputable def ko_221 (P : Params) : Obj := ⟨(.type PySem.W.SL.s2766695959194262286x5), none, (.seq #[(.str ⟨⟨[99,108,115]⟩⟩ 564), (.str ⟨⟨[116,101,120,116]⟩⟩ 565)] 0), #[]⟩
noncomputable def ko_222 (P : Params) : Obj := ⟨(.type PySem.W.SL.s2766695959194262286x5), none, (.seq #[] 0), #[]⟩
noncomputable def ko_224 (P : Params) : Obj := ⟨(.type PySem.W.SL.s5856160107412720595x4), none, (.fields #[(.str ⟨⟨[112,97,114,115,101]⟩⟩ 561), (.str ⟨⟨[80,97,105,114,46,112,97,114,115,101]⟩⟩ 562), (.str ⟨⟨[47,99,108,97,105,109,47,99,117,116,46,112,121]⟩⟩ 563), (.int 109 0), (.int 2 0), (.int 0 0), (.int 0 0), (.int 3 0), (.ref 219), (.bool true), (.int 273 0), (.ref 220), .none, (.ref 221), (.ref 222), (.ref 223), (.int 566 0), (.int 109 0), (.str ⟨⟨[47,99,108,97,105,109,47,99,117,116,46,112,121]⟩⟩ 567)]), #[]⟩
noncomputable def ko_225 (p : Program) (_ : Params) : Obj := fnO p [8, 0] fun n a b c => ⟨(.type PySem.W.SL.s7174869446012820540x8), none, .func ⟨n, ⟨⟨[80,97,105,114,46,112,97,114,115,101]⟩⟩, a, .stmts b, c, 3, [], .none, .none, .none, (.str ⟨⟨[99,112,121,51,49,51,46,105,109,112,111,114,116,108,105,98,46,109,101,116,97,100,97,116,97,46,95,99,111,108,108,101,99,116,105,111,110,115]⟩⟩ 332), (some 228), (.ref 224), .none, 0⟩, #[]⟩
noncomputable def ko_226 (P : Params) : Obj := ⟨(.type PySem.W.SL.s14018661285674007319x4), none, (.dict #[⟨(PyData.keyHash P ⟨⟨[95,95,109,111,100,117,108,101,95,95]⟩⟩), (.str ⟨⟨[95,95,109,111,100,117,108,101,95,95]⟩⟩ 569), (.str ⟨⟨[99,112,121,51,49,51,46,105,109,112,111,114,116,108,105,98,46,109,101,116,97,100,97,116,97,46,95,99,111,108,108,101,99,116,105,111,110,115]⟩⟩ 332)⟩, ⟨(PyData.keyHash P ⟨⟨[95,95,110,97,109,101,95,95]⟩⟩), (.str ⟨⟨[95,95,110,97,109,101,95,95]⟩⟩ 572), (.str ⟨⟨[112,97,114,115,101]⟩⟩ 571)⟩, ⟨(PyData.keyHash P ⟨⟨[95,95,113,117,97,108,110,97,109,101,95,95]⟩⟩), (.str ⟨⟨[95,95,113,117,97,108,110,97,109,101,95,95]⟩⟩ 575), (.str ⟨⟨[80,97,105,114,46,112,97,114,115,101]⟩⟩ 574)⟩, ⟨(PyData.keyHash P ⟨⟨[95,95,100,111,99,95,95]⟩⟩), (.str ⟨⟨[95,95,100,111,99,95,95]⟩⟩ 577), .none⟩, ⟨(PyData.keyHash P ⟨⟨[95,95,97,110,110,111,116,97,116,105,111,110,115,95,95]⟩⟩), (.str ⟨⟨[95,95,97,110,110,111,116,97,116,105,111,110,115,95,95]⟩⟩ 579), (.ref 228)⟩] 5), #[]⟩
noncomputable def ko_227 (P : Params) : Obj := ⟨(.type PySem.W.SL.s591115383303110208x11), (some 226), (.fields #[(.ref 225), (.bool false)]), #[]⟩
noncomputable def ko_228 (P : Params) : Obj := ⟨(.type PySem.W.SL.s14018661285674007319x4), none, (.dict #[] 0), #[]⟩
noncomputable def ko_229 (P : Params) : Obj := ⟨(.type PySem.W.SL.s2766695959194262286x5), none, (.seq #[] 0), #[]⟩
noncomputable def ko_230 (P : Params) : Obj := ⟨(.type PySem.W.SL.s14018661285674007319x4), none, (.dict #[⟨(PyData.keyHash P ⟨⟨[95,95,109,111,100,117,108,101,95,95]⟩⟩), (.str ⟨⟨[95,95,109,111,100,117,108,101,95,95]⟩⟩ 556), (.str ⟨⟨[99,112,121,51,49,51,46,105,109,112,111,114,116,108,105,98,46,109,101,116,97,100,97,116,97,46,95,99,111,108,108,101,99,116,105,111,110,115]⟩⟩ 332)⟩, ⟨(PyData.keyHash P ⟨⟨[95,95,102,105,114,115,116,108,105,110,101,110,111,95,95]⟩⟩), (.str ⟨⟨[95,95,102,105,114,115,116,108,105,110,101,110,111,95,95]⟩⟩ 560), (.int 107 559)⟩, ⟨(PyData.keyHash P ⟨⟨[112,97,114,115,101]⟩⟩), (.str ⟨⟨[112,97,114,115,101]⟩⟩ 580), (.ref 227)⟩, ⟨(PyData.keyHash P ⟨⟨[95,95,115,116,97,116,105,99,95,97,116,116,114,105,98,117,116,101,115,95,95]⟩⟩), (.str ⟨⟨[95,95,115,116,97,116,105,99,95,97,116,116,114,105,98,117,116,101,115,95,95]⟩⟩ 581), (.ref 229)⟩, ⟨(PyData.keyHash P ⟨⟨[95,95,100,105,99,116,95,95]⟩⟩), (.str ⟨⟨[95,95,100,105,99,116,95,95]⟩⟩ 583), (.ref 232)⟩, ⟨(PyData.keyHash P ⟨⟨[95,95,100,111,99,95,95]⟩⟩), (.str ⟨⟨[95,95,100,111,99,95,95]⟩⟩ 584), .none⟩] 3), #[]⟩
noncomputable def ko_231 (P : Params) : Obj := ⟨(.type PySem.W.SL.s17162191345867700912x4), none, (.cls ⟨⟨⟨[80,97,105,114]⟩⟩, [(.ref 208)], [(.ref 231), (.ref 208), (.type PySem.W.SL.s2766695959194262286x5), (.type PySem.W.SL.s2742458400755230247x6)], 230, ⟨⟨[80,97,105,114]⟩⟩, true, [], [], false, none, false⟩), #[(some (.ref 212)), none, (some (.str ⟨⟨[80,97,105,114]⟩⟩ 549)), (some (.str ⟨⟨[80,97,105,114]⟩⟩ 557)), (some .none), (some (.bool false))]⟩
noncomputable def ko_232 (P : Params) : Obj := ⟨(.type PySem.W.SL.s14755015743595814543x17), none, (.fields #[(.str ⟨⟨[95,95,100,105,99,116,95,95]⟩⟩ 582), (.ref 231), (.builtin PySem.W.SL.s6511155373996960695x17), (.builtin PySem.W.SL.s12411053484034534018x21)]), #[]⟩
noncomputable def ko_235 (P : Params) : Obj := ⟨(.type PySem.W.SL.s2766695959194262286x5), none, (.seq #[] 0), #[]⟩
noncomputable def ko_237 (P : Params) : Obj := ⟨(.type PySem.W.SL.s2766695959194262286x5), none, (.seq #[] 0), #[]⟩
noncomputable def ko_238 (P : Params) : Obj := ⟨(.type PySem.W.SL.s2766695959194262286x5), none, (.seq #[] 0), #[]⟩
noncomputable def ko_240 (P : Params) : Obj := ⟨(.type PySem.W.SL.s5856160107412720595x4), none, (.fields #[(.str ⟨⟨[95,108,97,119,95,110,111,98,111,100,121]⟩⟩ 589), (.str ⟨⟨[95,108,97,119,95,110,111,98,111,100,121]⟩⟩ 590), (.str ⟨⟨[47,99,108,97,105,109,47,99,117,116,46,112,121]⟩⟩ 591), (.int 113 0), (.int 0 0), (.int 0 0), (.int 0 0), (.int 3 0), (.ref 235), (.bool true), (.int 273 0), (.ref 236), .none, (.ref 237), (.ref 238), (.ref 239), (.int 592 0), (.int 113 0), (.str ⟨⟨[47,99,108,97,105,109,47,99,117,116,46,112,121]⟩⟩ 593)]), #[]⟩
noncomputable def ko_241 (p : Program) (_ : Params) : Obj := fnO p [10] fun n a b c => ⟨(.type PySem.W.SL.s7174869446012820540x8), none, .func ⟨n, ⟨⟨[95,108,97,119,95,110,111,98,111,100,121]⟩⟩, a, .stmts b, c, 3, [], .none, .none, .none, (.str ⟨⟨[108,97,119,95,105,110,48,48,48,52,95,48,49]⟩⟩ 587), none, (.ref 240), .none, 0⟩, #[]⟩
noncomputable def ko_242 (P : Params) : Obj := ⟨(.type PySem.W.SL.s2766695959194262286x5), none, (.seq #[] 0), #[]⟩
noncomputable def ko_244 (P : Params) : Obj := ⟨(.type PySem.W.SL.s2766695959194262286x5), none, (.seq #[(.str ⟨⟨[112,97,105,114]⟩⟩ 598), (.str ⟨⟨[112,108,97,99,101]⟩⟩ 599), (.str ⟨⟨[103,97,112]⟩⟩ 600)] 0), #[]⟩
noncomputable def ko_245 (P : Params) : Obj := ⟨(.type PySem.W.SL.s2766695959194262286x5), none, (.seq #[] 0), #[]⟩
noncomputable def ko_247 (P : Params) : Obj := ⟨(.type PySem.W.SL.s5856160107412720595x4), none, (.fields #[(.str ⟨⟨[95,108,97,119,95,114,101,97,100]⟩⟩ 595), (.str ⟨⟨[95,108,97,119,95,114,101,97,100]⟩⟩ 596), (.str ⟨⟨[47,99,108,97,105,109,47,99,117,116,46,112,121]⟩⟩ 597), (.int 115 0), (.int 2 0), (.int 0 0), (.int 0 0), (.int 3 0), (.ref 242), (.bool true), (.int 273 0), (.ref 243), .none, (.ref 244), (.ref 245), (.ref 246), (.int 601 0), (.int 115 0), (.str ⟨⟨[47,99,108,97,105,109,47,99,117,116,46,112,121]⟩⟩ 602)]), #[]⟩
noncomputable def ko_248 (p : Program) (_ : Params) : Obj := fnO p [11] fun n a b c => ⟨(.type PySem.W.SL.s7174869446012820540x8), none, .func ⟨n, ⟨⟨[95,108,97,119,95,114,101,97,100]⟩⟩, a, .stmts b, c, 3, [], .none, .none, .none, (.str ⟨⟨[108,97,119,95,105,110,48,48,48,52,95,48,49]⟩⟩ 587), none, (.ref 247), .none, 0⟩, #[]⟩
noncomputable def ko_249 (P : Params) : Obj := ⟨(.type PySem.W.SL.s2766695959194262286x5), none, (.seq #[] 0), #[]⟩
noncomputable def ko_251 (P : Params) : Obj := ⟨(.type PySem.W.SL.s2766695959194262286x5), none, (.seq #[(.str ⟨⟨[114,111,119,115]⟩⟩ 607), (.str ⟨⟨[106,117,100,103,101]⟩⟩ 608), (.str ⟨⟨[100,111,110,101]⟩⟩ 609), (.str ⟨⟨[114,111,119]⟩⟩ 610), (.str ⟨⟨[107]⟩⟩ 611)] 0), #[]⟩
noncomputable def ko_252 (P : Params) : Obj := ⟨(.type PySem.W.SL.s2766695959194262286x5), none, (.seq #[] 0), #[]⟩
noncomputable def ko_254 (P : Params) : Obj := ⟨(.type PySem.W.SL.s5856160107412720595x4), none, (.fields #[(.str ⟨⟨[95,108,97,119,95,115,111,114,116,101,100]⟩⟩ 604), (.str ⟨⟨[95,108,97,119,95,115,111,114,116,101,100]⟩⟩ 605), (.str ⟨⟨[47,99,108,97,105,109,47,99,117,116,46,112,121]⟩⟩ 606), (.int 118 0), (.int 2 0), (.int 0 0), (.int 0 0), (.int 3 0), (.ref 249), (.bool true), (.int 273 0), (.ref 250), .none, (.ref 251), (.ref 252), (.ref 253), (.int 612 0), (.int 118 0), (.str ⟨⟨[47,99,108,97,105,109,47,99,117,116,46,112,121]⟩⟩ 613)]), #[]⟩
noncomputable def ko_255 (p : Program) (_ : Params) : Obj := fnO p [12] fun n a b c => ⟨(.type PySem.W.SL.s7174869446012820540x8), none, .func ⟨n, ⟨⟨[95,108,97,119,95,115,111,114,116,101,100]⟩⟩, a, .stmts b, c, 3, [], .none, .none, .none, (.str ⟨⟨[108,97,119,95,105,110,48,48,48,52,95,48,49]⟩⟩ 587), none, (.ref 254), .none, 0⟩, #[]⟩
noncomputable def ko_256 (P : Params) : Obj := ⟨(.type PySem.W.SL.s2766695959194262286x5), none, (.seq #[] 0), #[]⟩
noncomputable def ko_258 (P : Params) : Obj := ⟨(.type PySem.W.SL.s2766695959194262286x5), none, (.seq #[(.str ⟨⟨[108,101,102,116]⟩⟩ 618), (.str ⟨⟨[114,105,103,104,116]⟩⟩ 619), (.str ⟨⟨[106,117,100,103,101]⟩⟩ 620), (.str ⟨⟨[106,111,105,110,101,100]⟩⟩ 621), (.str ⟨⟨[107]⟩⟩ 622), (.str ⟨⟨[114,111,119]⟩⟩ 623), (.str ⟨⟨[106]⟩⟩ 624)] 0), #[]⟩
noncomputable def ko_259 (P : Params) : Obj := ⟨(.type PySem.W.SL.s2766695959194262286x5), none, (.seq #[] 0), #[]⟩
noncomputable def ko_261 (P : Params) : Obj := ⟨(.type PySem.W.SL.s5856160107412720595x4), none, (.fields #[(.str ⟨⟨[95,108,97,119,95,115,105,100,101,95,98,121,95,115,105,100,101]⟩⟩ 615), (.str ⟨⟨[95,108,97,119,95,115,105,100,101,95,98,121,95,115,105,100,101]⟩⟩ 616), (.str ⟨⟨[47,99,108,97,105,109,47,99,117,116,46,112,121]⟩⟩ 617), (.int 126 0), (.int 3 0), (.int 0 0), (.int 0 0), (.int 3 0), (.ref 256), (.bool true), (.int 273 0), (.ref 257), .none, (.ref 258), (.ref 259), (.ref 260), (.int 625 0), (.int 126 0), (.str ⟨⟨[47,99,108,97,105,109,47,99,117,116,46,112,121]⟩⟩ 626)]), #[]⟩
noncomputable def ko_262 (p : Program) (_ : Params) : Obj := fnO p [13] fun n a b c => ⟨(.type PySem.W.SL.s7174869446012820540x8), none, .func ⟨n, ⟨⟨[95,108,97,119,95,115,105,100,101,95,98,121,95,115,105,100,101]⟩⟩, a, .stmts b, c, 3, [], .none, .none, .none, (.str ⟨⟨[108,97,119,95,105,110,48,48,48,52,95,48,49]⟩⟩ 587), none, (.ref 261), .none, 0⟩, #[]⟩
noncomputable def ko_263 (P : Params) : Obj := ⟨(.type PySem.W.SL.s2766695959194262286x5), none, (.seq #[] 0), #[]⟩
noncomputable def ko_265 (P : Params) : Obj := ⟨(.type PySem.W.SL.s2766695959194262286x5), none, (.seq #[(.str ⟨⟨[114,105,103,104,116]⟩⟩ 631), (.str ⟨⟨[98,111,111,107]⟩⟩ 632), (.str ⟨⟨[112,108,97,99,101]⟩⟩ 633), (.str ⟨⟨[114,111,119]⟩⟩ 634), (.str ⟨⟨[112,97,105,114]⟩⟩ 635)] 0), #[]⟩
noncomputable def ko_266 (P : Params) : Obj := ⟨(.type PySem.W.SL.s2766695959194262286x5), none, (.seq #[] 0), #[]⟩
noncomputable def ko_268 (P : Params) : Obj := ⟨(.type PySem.W.SL.s5856160107412720595x4), none, (.fields #[(.str ⟨⟨[95,108,97,119,95,98,111,111,107]⟩⟩ 628), (.str ⟨⟨[95,108,97,119,95,98,111,111,107]⟩⟩ 629), (.str ⟨⟨[47,99,108,97,105,109,47,99,117,116,46,112,121]⟩⟩ 630), (.int 137 0), (.int 1 0), (.int 0 0), (.int 0 0), (.int 3 0), (.ref 263), (.bool true), (.int 273 0), (.ref 264), .none, (.ref 265), (.ref 266), (.ref 267), (.int 636 0), (.int 137 0), (.str ⟨⟨[47,99,108,97,105,109,47,99,117,116,46,112,121]⟩⟩ 637)]), #[]⟩
noncomputable def ko_269 (p : Program) (_ : Params) : Obj := fnO p [14] fun n a b c => ⟨(.type PySem.W.SL.s7174869446012820540x8), none, .func ⟨n, ⟨⟨[95,108,97,119,95,98,111,111,107]⟩⟩, a, .stmts b, c, 3, [], .none, .none, .none, (.str ⟨⟨[108,97,119,95,105,110,48,48,48,52,95,48,49]⟩⟩ 587), none, (.ref 268), .none, 0⟩, #[]⟩
noncomputable def ko_270 (P : Params) : Obj := ⟨(.type PySem.W.SL.s2766695959194262286x5), none, (.seq #[] 0), #[]⟩
noncomputable def ko_273 (P : Params) : Obj := ⟨(.type PySem.W.SL.s5856160107412720595x4), none, (.fields #[(.str ⟨⟨[108,97,119]⟩⟩ 639), (.str ⟨⟨[108,97,119]⟩⟩ 640), (.str ⟨⟨[47,99,108,97,105,109,47,99,117,116,46,112,121]⟩⟩ 641), (.int 144 0), (.int 1 0), (.int 0 0), (.int 0 0), (.int 3 0), (.ref 270), (.bool true), (.int 273 0), (.ref 271), .none, .none, .none, (.ref 272), (.int 642 0), (.int 144 0), (.str ⟨⟨[47,99,108,97,105,109,47,99,117,116,46,112,121]⟩⟩ 643)]), #[]⟩
noncomputable def ko_274 (p : Program) (_ : Params) : Obj := fnO p [15] fun n a b c => ⟨(.type PySem.W.SL.s7174869446012820540x8), none, .func ⟨n, ⟨⟨[108,97,119]⟩⟩, a, .stmts b, c, 3, [], .none, .none, .none, (.str ⟨⟨[108,97,119,95,105,110,48,48,48,52,95,48,49]⟩⟩ 587), none, (.ref 273), .none, 0⟩, #[]⟩
noncomputable def Kof (p : Program) (P : Params) : Frag := (nat_lit 2, ko_2 P) :: (nat_lit 3, ko_3 P) :: (nat_lit 33, ko_33 P) :: (nat_lit 35, ko_35 P) :: (nat_lit 36, ko_36 P) :: (nat_lit 38, ko_38 P) :: (nat_lit 39, ko_39 p P) :: (nat_lit 47, ko_47 P) :: (nat_lit 49, ko_49 P) :: (nat_lit 50, ko_50 P) :: (nat_lit 52, ko_52 P) :: (nat_lit 53, ko_53 p P) :: (nat_lit 54, ko_54 P) :: (nat_lit 56, ko_56 P) :: (nat_lit 57, ko_57 P) :: (nat_lit 59, ko_59 P) :: (nat_lit 60, ko_60 p P) :: (nat_lit 61, ko_61 P) :: (nat_lit 62, ko_62 P) :: (nat_lit 63, ko_63 P) :: (nat_lit 64, ko_64 P) :: (nat_lit 65, ko_65 P) :: (nat_lit 75, ko_75 P) :: (nat_lit 77, ko_77 P) :: (nat_lit 78, ko_78 P) :: (nat_lit 80, ko_80 P) :: (nat_lit 81, ko_81 p P) :: (nat_lit 82, ko_82 P) :: (nat_lit 83, ko_83 P) :: (nat_lit 85, ko_85 P) :: (nat_lit 86, ko_86 P) :: (nat_lit 88, ko_88 P) :: (nat_lit 89, ko_89 p P) :: (nat_lit 90, ko_90 P) :: (nat_lit 92, ko_92 P) :: (nat_lit 93, ko_93 P) :: (nat_lit 95, ko_95 P) :: (nat_lit 96, ko_96 p P) :: (nat_lit 97, ko_97 P) :: (nat_lit 99, ko_99 P) :: (nat_lit 100, ko_100 P) :: (nat_lit 102, ko_102 P) :: (nat_lit 103, ko_103 p P) :: (nat_lit 104, ko_104 P) :: (nat_lit 105, ko_105 P) :: (nat_lit 106, ko_106 P) :: (nat_lit 107, ko_107 P) :: (nat_lit 108, ko_108 P) :: (nat_lit 111, ko_111 P) :: (nat_lit 114, ko_114 P) :: (nat_lit 119, ko_119 P) :: (nat_lit 120, ko_120 P) :: (nat_lit 122, ko_122 P) :: (nat_lit 123, ko_123 P) :: (nat_lit 125, ko_125 P) :: (nat_lit 126, ko_126 p P) :: (nat_lit 127, ko_127 P) :: (nat_lit 129, ko_129 P) :: (nat_lit 130, ko_130 P) :: (nat_lit 132, ko_132 P) :: (nat_lit 133, ko_133 p P) :: (nat_lit 134, ko_134 P) :: (nat_lit 135, ko_135 P) :: (nat_lit 136, ko_136 P) :: (nat_lit 137, ko_137 P) :: (nat_lit 138, ko_138 P) :: (nat_lit 141, ko_141 P) :: (nat_lit 144, ko_144 P) :: (nat_lit 149, ko_149 P) :: (nat_lit 150, ko_150 P) :: (nat_lit 151, ko_151 P) :: (nat_lit 152, ko_152 P) :: (nat_lit 154, ko_154 P) :: (nat_lit 155, ko_155 P) :: (nat_lit 157, ko_157 P) :: (nat_lit 158, ko_158 p P) :: (nat_lit 159, ko_159 P) :: (nat_lit 161, ko_161 P) :: (nat_lit 162, ko_162 P) :: (nat_lit 164, ko_164 P) :: (nat_lit 165, ko_165 p P) :: (nat_lit 166, ko_166 P) :: (nat_lit 167, ko_167 P) :: (nat_lit 168, ko_168 P) :: (nat_lit 169, ko_169 P) :: (nat_lit 170, ko_170 P) :: (nat_lit 172, ko_172 P) :: (nat_lit 173, ko_173 P) :: (nat_lit 175, ko_175 P) :: (nat_lit 176, ko_176 p P) :: (nat_lit 177, ko_177 P) :: (nat_lit 179, ko_179 P) :: (nat_lit 180, ko_180 P) :: (nat_lit 182, ko_182 P) :: (nat_lit 183, ko_183 p P) :: (nat_lit 184, ko_184 P) :: (nat_lit 186, ko_186 P) :: (nat_lit 187, ko_187 P) :: (nat_lit 189, ko_189 P) :: (nat_lit 190, ko_190 p P) :: (nat_lit 191, ko_191 P) :: (nat_lit 193, ko_193 P) :: (nat_lit 194, ko_194 P) :: (nat_lit 196, ko_196 P) :: (nat_lit 197, ko_197 p P) :: (nat_lit 198, ko_198 P) :: (nat_lit 199, ko_199 P) :: (nat_lit 200, ko_200 P) :: (nat_lit 202, ko_202 P) :: (nat_lit 203, ko_203 P) :: (nat_lit 205, ko_205 P) :: (nat_lit 207, ko_207 P) :: (nat_lit 208, ko_208 P) :: (nat_lit 209, ko_209 P) :: (nat_lit 212, ko_212 P) :: (nat_lit 219, ko_219 P) :: (nat_lit 221, ko_221 P) :: (nat_lit 222, ko_222 P) :: (nat_lit 224, ko_224 P) :: (nat_lit 225, ko_225 p P) :: (nat_lit 226, ko_226 P) :: (nat_lit 227, ko_227 P) :: (nat_lit 228, ko_228 P) :: (nat_lit 229, ko_229 P) :: (nat_lit 230, ko_230 P) :: (nat_lit 231, ko_231 P) :: (nat_lit 232, ko_232 P) :: (nat_lit 235, ko_235 P) :: (nat_lit 237, ko_237 P) :: (nat_lit 238, ko_238 P) :: (nat_lit 240, ko_240 P) :: (nat_lit 241, ko_241 p P) :: (nat_lit 242, ko_242 P) :: (nat_lit 244, ko_244 P) :: (nat_lit 245, ko_245 P) :: (nat_lit 247, ko_247 P) :: (nat_lit 248, ko_248 p P) :: (nat_lit 249, ko_249 P) :: (nat_lit 251, ko_251 P) :: (nat_lit 252, ko_252 P) :: (nat_lit 254, ko_254 P) :: (nat_lit 255, ko_255 p P) :: (nat_lit 256, ko_256 P) :: (nat_lit 258, ko_258 P) :: (nat_lit 259, ko_259 P) :: (nat_lit 261, ko_261 P) :: (nat_lit 262, ko_262 p P) :: (nat_lit 263, ko_263 P) :: (nat_lit 265, ko_265 P) :: (nat_lit 266, ko_266 P) :: (nat_lit 268, ko_268 P) :: (nat_lit 269, ko_269 p P) :: (nat_lit 270, ko_270 P) :: (nat_lit 273, ko_273 P) :: (nat_lit 274, ko_274 p P) :: []
noncomputable def K (P : Params) : Frag := (nat_lit 2, ko_2 P) :: (nat_lit 3, ko_3 P) :: (nat_lit 33, ko_33 P) :: (nat_lit 35, ko_35 P) :: (nat_lit 36, ko_36 P) :: (nat_lit 38, ko_38 P) :: (nat_lit 39, ko_39 PR P) :: (nat_lit 47, ko_47 P) :: (nat_lit 49, ko_49 P) :: (nat_lit 50, ko_50 P) :: (nat_lit 52, ko_52 P) :: (nat_lit 53, ko_53 PR P) :: (nat_lit 54, ko_54 P) :: (nat_lit 56, ko_56 P) :: (nat_lit 57, ko_57 P) :: (nat_lit 59, ko_59 P) :: (nat_lit 60, ko_60 PR P) :: (nat_lit 61, ko_61 P) :: (nat_lit 62, ko_62 P) :: (nat_lit 63, ko_63 P) :: (nat_lit 64, ko_64 P) :: (nat_lit 65, ko_65 P) :: (nat_lit 75, ko_75 P) :: (nat_lit 77, ko_77 P) :: (nat_lit 78, ko_78 P) :: (nat_lit 80, ko_80 P) :: (nat_lit 81, ko_81 PR P) :: (nat_lit 82, ko_82 P) :: (nat_lit 83, ko_83 P) :: (nat_lit 85, ko_85 P) :: (nat_lit 86, ko_86 P) :: (nat_lit 88, ko_88 P) :: (nat_lit 89, ko_89 PR P) :: (nat_lit 90, ko_90 P) :: (nat_lit 92, ko_92 P) :: (nat_lit 93, ko_93 P) :: (nat_lit 95, ko_95 P) :: (nat_lit 96, ko_96 PR P) :: (nat_lit 97, ko_97 P) :: (nat_lit 99, ko_99 P) :: (nat_lit 100, ko_100 P) :: (nat_lit 102, ko_102 P) :: (nat_lit 103, ko_103 PR P) :: (nat_lit 104, ko_104 P) :: (nat_lit 105, ko_105 P) :: (nat_lit 106, ko_106 P) :: (nat_lit 107, ko_107 P) :: (nat_lit 108, ko_108 P) :: (nat_lit 111, ko_111 P) :: (nat_lit 114, ko_114 P) :: (nat_lit 119, ko_119 P) :: (nat_lit 120, ko_120 P) :: (nat_lit 122, ko_122 P) :: (nat_lit 123, ko_123 P) :: (nat_lit 125, ko_125 P) :: (nat_lit 126, ko_126 PR P) :: (nat_lit 127, ko_127 P) :: (nat_lit 129, ko_129 P) :: (nat_lit 130, ko_130 P) :: (nat_lit 132, ko_132 P) :: (nat_lit 133, ko_133 PR P) :: (nat_lit 134, ko_134 P) :: (nat_lit 135, ko_135 P) :: (nat_lit 136, ko_136 P) :: (nat_lit 137, ko_137 P) :: (nat_lit 138, ko_138 P) :: (nat_lit 141, ko_141 P) :: (nat_lit 144, ko_144 P) :: (nat_lit 149, ko_149 P) :: (nat_lit 150, ko_150 P) :: (nat_lit 151, ko_151 P) :: (nat_lit 152, ko_152 P) :: (nat_lit 154, ko_154 P) :: (nat_lit 155, ko_155 P) :: (nat_lit 157, ko_157 P) :: (nat_lit 158, ko_158 PR P) :: (nat_lit 159, ko_159 P) :: (nat_lit 161, ko_161 P) :: (nat_lit 162, ko_162 P) :: (nat_lit 164, ko_164 P) :: (nat_lit 165, ko_165 PR P) :: (nat_lit 166, ko_166 P) :: (nat_lit 167, ko_167 P) :: (nat_lit 168, ko_168 P) :: (nat_lit 169, ko_169 P) :: (nat_lit 170, ko_170 P) :: (nat_lit 172, ko_172 P) :: (nat_lit 173, ko_173 P) :: (nat_lit 175, ko_175 P) :: (nat_lit 176, ko_176 PR P) :: (nat_lit 177, ko_177 P) :: (nat_lit 179, ko_179 P) :: (nat_lit 180, ko_180 P) :: (nat_lit 182, ko_182 P) :: (nat_lit 183, ko_183 PR P) :: (nat_lit 184, ko_184 P) :: (nat_lit 186, ko_186 P) :: (nat_lit 187, ko_187 P) :: (nat_lit 189, ko_189 P) :: (nat_lit 190, ko_190 PR P) :: (nat_lit 191, ko_191 P) :: (nat_lit 193, ko_193 P) :: (nat_lit 194, ko_194 P) :: (nat_lit 196, ko_196 P) :: (nat_lit 197, ko_197 PR P) :: (nat_lit 198, ko_198 P) :: (nat_lit 199, ko_199 P) :: (nat_lit 200, ko_200 P) :: (nat_lit 202, ko_202 P) :: (nat_lit 203, ko_203 P) :: (nat_lit 205, ko_205 P) :: (nat_lit 207, ko_207 P) :: (nat_lit 208, ko_208 P) :: (nat_lit 209, ko_209 P) :: (nat_lit 212, ko_212 P) :: (nat_lit 219, ko_219 P) :: (nat_lit 221, ko_221 P) :: (nat_lit 222, ko_222 P) :: (nat_lit 224, ko_224 P) :: (nat_lit 225, ko_225 PR P) :: (nat_lit 226, ko_226 P) :: (nat_lit 227, ko_227 P) :: (nat_lit 228, ko_228 P) :: (nat_lit 229, ko_229 P) :: (nat_lit 230, ko_230 P) :: (nat_lit 231, ko_231 P) :: (nat_lit 232, ko_232 P) :: (nat_lit 235, ko_235 P) :: (nat_lit 237, ko_237 P) :: (nat_lit 238, ko_238 P) :: (nat_lit 240, ko_240 P) :: (nat_lit 241, ko_241 PR P) :: (nat_lit 242, ko_242 P) :: (nat_lit 244, ko_244 P) :: (nat_lit 245, ko_245 P) :: (nat_lit 247, ko_247 P) :: (nat_lit 248, ko_248 PR P) :: (nat_lit 249, ko_249 P) :: (nat_lit 251, ko_251 P) :: (nat_lit 252, ko_252 P) :: (nat_lit 254, ko_254 P) :: (nat_lit 255, ko_255 PR P) :: (nat_lit 256, ko_256 P) :: (nat_lit 258, ko_258 P) :: (nat_lit 259, ko_259 P) :: (nat_lit 261, ko_261 P) :: (nat_lit 262, ko_262 PR P) :: (nat_lit 263, ko_263 P) :: (nat_lit 265, ko_265 P) :: (nat_lit 266, ko_266 P) :: (nat_lit 268, ko_268 P) :: (nat_lit 269, ko_269 PR P) :: (nat_lit 270, ko_270 P) :: (nat_lit 273, ko_273 P) :: (nat_lit 274, ko_274 PR P) :: []
noncomputable def kAs : List Addr := nat_lit 2 :: nat_lit 3 :: nat_lit 33 :: nat_lit 35 :: nat_lit 36 :: nat_lit 38 :: nat_lit 39 :: nat_lit 47 :: nat_lit 49 :: nat_lit 50 :: nat_lit 52 :: nat_lit 53 :: nat_lit 54 :: nat_lit 56 :: nat_lit 57 :: nat_lit 59 :: nat_lit 60 :: nat_lit 61 :: nat_lit 62 :: nat_lit 63 :: nat_lit 64 :: nat_lit 65 :: nat_lit 75 :: nat_lit 77 :: nat_lit 78 :: nat_lit 80 :: nat_lit 81 :: nat_lit 82 :: nat_lit 83 :: nat_lit 85 :: nat_lit 86 :: nat_lit 88 :: nat_lit 89 :: nat_lit 90 :: nat_lit 92 :: nat_lit 93 :: nat_lit 95 :: nat_lit 96 :: nat_lit 97 :: nat_lit 99 :: nat_lit 100 :: nat_lit 102 :: nat_lit 103 :: nat_lit 104 :: nat_lit 105 :: nat_lit 106 :: nat_lit 107 :: nat_lit 108 :: nat_lit 111 :: nat_lit 114 :: nat_lit 119 :: nat_lit 120 :: nat_lit 122 :: nat_lit 123 :: nat_lit 125 :: nat_lit 126 :: nat_lit 127 :: nat_lit 129 :: nat_lit 130 :: nat_lit 132 :: nat_lit 133 :: nat_lit 134 :: nat_lit 135 :: nat_lit 136 :: nat_lit 137 :: nat_lit 138 :: nat_lit 141 :: nat_lit 144 :: nat_lit 149 :: nat_lit 150 :: nat_lit 151 :: nat_lit 152 :: nat_lit 154 :: nat_lit 155 :: nat_lit 157 :: nat_lit 158 :: nat_lit 159 :: nat_lit 161 :: nat_lit 162 :: nat_lit 164 :: nat_lit 165 :: nat_lit 166 :: nat_lit 167 :: nat_lit 168 :: nat_lit 169 :: nat_lit 170 :: nat_lit 172 :: nat_lit 173 :: nat_lit 175 :: nat_lit 176 :: nat_lit 177 :: nat_lit 179 :: nat_lit 180 :: nat_lit 182 :: nat_lit 183 :: nat_lit 184 :: nat_lit 186 :: nat_lit 187 :: nat_lit 189 :: nat_lit 190 :: nat_lit 191 :: nat_lit 193 :: nat_lit 194 :: nat_lit 196 :: nat_lit 197 :: nat_lit 198 :: nat_lit 199 :: nat_lit 200 :: nat_lit 202 :: nat_lit 203 :: nat_lit 205 :: nat_lit 207 :: nat_lit 208 :: nat_lit 209 :: nat_lit 212 :: nat_lit 219 :: nat_lit 221 :: nat_lit 222 :: nat_lit 224 :: nat_lit 225 :: nat_lit 226 :: nat_lit 227 :: nat_lit 228 :: nat_lit 229 :: nat_lit 230 :: nat_lit 231 :: nat_lit 232 :: nat_lit 235 :: nat_lit 237 :: nat_lit 238 :: nat_lit 240 :: nat_lit 241 :: nat_lit 242 :: nat_lit 244 :: nat_lit 245 :: nat_lit 247 :: nat_lit 248 :: nat_lit 249 :: nat_lit 251 :: nat_lit 252 :: nat_lit 254 :: nat_lit 255 :: nat_lit 256 :: nat_lit 258 :: nat_lit 259 :: nat_lit 261 :: nat_lit 262 :: nat_lit 263 :: nat_lit 265 :: nat_lit 266 :: nat_lit 268 :: nat_lit 269 :: nat_lit 270 :: nat_lit 273 :: nat_lit 274 :: []
noncomputable def sZo_0 (P : Params) : Obj := ⟨(.type PySem.W.SL.s14018661285674007319x4), none, (.dict #[⟨(PyData.keyHash P ⟨⟨[95,95,110,97,109,101,95,95]⟩⟩), (.str ⟨⟨[95,95,110,97,109,101,95,95]⟩⟩ 1), (.str ⟨⟨[98,117,105,108,116,105,110,115]⟩⟩ 160)⟩, ⟨(PyData.keyHash P ⟨⟨[95,95,100,111,99,95,95]⟩⟩), (.str ⟨⟨[95,95,100,111,99,95,95]⟩⟩ 2), (.builtin "builtins.__doc__:str#opaque")⟩, ⟨(PyData.keyHash P ⟨⟨[95,95,112,97,99,107,97,103,101,95,95]⟩⟩), (.str ⟨⟨[95,95,112,97,99,107,97,103,101,95,95]⟩⟩ 3), (.builtin "builtins.__package__:str#opaque")⟩, ⟨(PyData.keyHash P ⟨⟨[95,95,108,111,97,100,101,114,95,95]⟩⟩), (.str ⟨⟨[95,95,108,111,97,100,101,114,95,95]⟩⟩ 4), (.builtin "builtins.__loader__:shared#opaque")⟩, ⟨(PyData.keyHash P ⟨⟨[95,95,115,112,101,99,95,95]⟩⟩), (.str ⟨⟨[95,95,115,112,101,99,95,95]⟩⟩ 5), (.builtin "builtins.__spec__#opaque")⟩, ⟨(PyData.keyHash P ⟨⟨[95,95,98,117,105,108,100,95,99,108,97,115,115,95,95]⟩⟩), (.str ⟨⟨[95,95,98,117,105,108,100,95,99,108,97,115,115,95,95]⟩⟩ 6), (.builtin "__build_class__")⟩, ⟨(PyData.keyHash P ⟨⟨[95,95,105,109,112,111,114,116,95,95]⟩⟩), (.str ⟨⟨[95,95,105,109,112,111,114,116,95,95]⟩⟩ 7), (.builtin "__import__")⟩, ⟨(PyData.keyHash P ⟨⟨[97,98,115]⟩⟩), (.str ⟨⟨[97,98,115]⟩⟩ 8), (.builtin "abs")⟩, ⟨(PyData.keyHash P ⟨⟨[97,108,108]⟩⟩), (.str ⟨⟨[97,108,108]⟩⟩ 9), (.builtin "all")⟩, ⟨(PyData.keyHash P ⟨⟨[97,110,121]⟩⟩), (.str ⟨⟨[97,110,121]⟩⟩ 10), (.builtin "any")⟩, ⟨(PyData.keyHash P ⟨⟨[97,115,99,105,105]⟩⟩), (.str ⟨⟨[97,115,99,105,105]⟩⟩ 11), (.builtin "ascii")⟩, ⟨(PyData.keyHash P ⟨⟨[98,105,110]⟩⟩), (.str ⟨⟨[98,105,110]⟩⟩ 12), (.builtin "bin")⟩, ⟨(PyData.keyHash P ⟨⟨[98,114,101,97,107,112,111,105,110,116]⟩⟩), (.str ⟨⟨[98,114,101,97,107,112,111,105,110,116]⟩⟩ 13), (.builtin "breakpoint")⟩, ⟨(PyData.keyHash P ⟨⟨[99,97,108,108,97,98,108,101]⟩⟩), (.str ⟨⟨[99,97,108,108,97,98,108,101]⟩⟩ 14), (.builtin "callable")⟩, ⟨(PyData.keyHash P ⟨⟨[99,104,114]⟩⟩), (.str ⟨⟨[99,104,114]⟩⟩ 15), (.builtin "chr")⟩, ⟨(PyData.keyHash P ⟨⟨[99,111,109,112,105,108,101]⟩⟩), (.str ⟨⟨[99,111,109,112,105,108,101]⟩⟩ 16), (.builtin "compile")⟩, ⟨(PyData.keyHash P ⟨⟨[100,101,108,97,116,116,114]⟩⟩), (.str ⟨⟨[100,101,108,97,116,116,114]⟩⟩ 17), (.builtin "delattr")⟩, ⟨(PyData.keyHash P ⟨⟨[100,105,114]⟩⟩), (.str ⟨⟨[100,105,114]⟩⟩ 18), (.builtin "dir")⟩, ⟨(PyData.keyHash P ⟨⟨[100,105,118,109,111,100]⟩⟩), (.str ⟨⟨[100,105,118,109,111,100]⟩⟩ 19), (.builtin "divmod")⟩, ⟨(PyData.keyHash P ⟨⟨[101,118,97,108]⟩⟩), (.str ⟨⟨[101,118,97,108]⟩⟩ 20), (.builtin "eval")⟩, ⟨(PyData.keyHash P ⟨⟨[101,120,101,99]⟩⟩), (.str ⟨⟨[101,120,101,99]⟩⟩ 21), (.builtin "exec")⟩, ⟨(PyData.keyHash P ⟨⟨[102,111,114,109,97,116]⟩⟩), (.str ⟨⟨[102,111,114,109,97,116]⟩⟩ 22), (.builtin "format")⟩, ⟨(PyData.keyHash P ⟨⟨[103,101,116,97,116,116,114]⟩⟩), (.str ⟨⟨[103,101,116,97,116,116,114]⟩⟩ 23), (.builtin "getattr")⟩, ⟨(PyData.keyHash P ⟨⟨[103,108,111,98,97,108,115]⟩⟩), (.str ⟨⟨[103,108,111,98,97,108,115]⟩⟩ 24), (.builtin "globals")⟩, ⟨(PyData.keyHash P ⟨⟨[104,97,115,97,116,116,114]⟩⟩), (.str ⟨⟨[104,97,115,97,116,116,114]⟩⟩ 25), (.builtin "hasattr")⟩, ⟨(PyData.keyHash P ⟨⟨[104,97,115,104]⟩⟩), (.str ⟨⟨[104,97,115,104]⟩⟩ 26), (.builtin "hash")⟩, ⟨(PyData.keyHash P ⟨⟨[104,101,120]⟩⟩), (.str ⟨⟨[104,101,120]⟩⟩ 27), (.builtin "hex")⟩, ⟨(PyData.keyHash P ⟨⟨[105,100]⟩⟩), (.str ⟨⟨[105,100]⟩⟩ 28), (.builtin "id")⟩, ⟨(PyData.keyHash P ⟨⟨[105,110,112,117,116]⟩⟩), (.str ⟨⟨[105,110,112,117,116]⟩⟩ 29), (.builtin "input")⟩, ⟨(PyData.keyHash P ⟨⟨[105,115,105,110,115,116,97,110,99,101]⟩⟩), (.str ⟨⟨[105,115,105,110,115,116,97,110,99,101]⟩⟩ 30), (.builtin "isinstance")⟩, ⟨(PyData.keyHash P ⟨⟨[105,115,115,117,98,99,108,97,115,115]⟩⟩), (.str ⟨⟨[105,115,115,117,98,99,108,97,115,115]⟩⟩ 31), (.builtin "issubclass")⟩, ⟨(PyData.keyHash P ⟨⟨[105,116,101,114]⟩⟩), (.str ⟨⟨[105,116,101,114]⟩⟩ 32), (.builtin "iter")⟩, ⟨(PyData.keyHash P ⟨⟨[97,105,116,101,114]⟩⟩), (.str ⟨⟨[97,105,116,101,114]⟩⟩ 33), (.builtin "aiter")⟩, ⟨(PyData.keyHash P ⟨⟨[108,101,110]⟩⟩), (.str ⟨⟨[108,101,110]⟩⟩ 34), (.builtin "len")⟩, ⟨(PyData.keyHash P ⟨⟨[108,111,99,97,108,115]⟩⟩), (.str ⟨⟨[108,111,99,97,108,115]⟩⟩ 35), (.builtin "locals")⟩, ⟨(PyData.keyHash P ⟨⟨[109,97,120]⟩⟩), (.str ⟨⟨[109,97,120]⟩⟩ 36), (.builtin "max")⟩, ⟨(PyData.keyHash P ⟨⟨[109,105,110]⟩⟩), (.str ⟨⟨[109,105,110]⟩⟩ 37), (.builtin "min")⟩, ⟨(PyData.keyHash P ⟨⟨[110,101,120,116]⟩⟩), (.str ⟨⟨[110,101,120,116]⟩⟩ 38), (.builtin "next")⟩, ⟨(PyData.keyHash P ⟨⟨[97,110,101,120,116]⟩⟩), (.str ⟨⟨[97,110,101,120,116]⟩⟩ 39), (.builtin "anext")⟩, ⟨(PyData.keyHash P ⟨⟨[111,99,116]⟩⟩), (.str ⟨⟨[111,99,116]⟩⟩ 40), (.builtin "oct")⟩, ⟨(PyData.keyHash P ⟨⟨[111,114,100]⟩⟩), (.str ⟨⟨[111,114,100]⟩⟩ 41), (.builtin "ord")⟩, ⟨(PyData.keyHash P ⟨⟨[112,111,119]⟩⟩), (.str ⟨⟨[112,111,119]⟩⟩ 42), (.builtin "pow")⟩, ⟨(PyData.keyHash P ⟨⟨[112,114,105,110,116]⟩⟩), (.str ⟨⟨[112,114,105,110,116]⟩⟩ 43), (.builtin "print")⟩, ⟨(PyData.keyHash P ⟨⟨[114,101,112,114]⟩⟩), (.str ⟨⟨[114,101,112,114]⟩⟩ 44), (.builtin "repr")⟩, ⟨(PyData.keyHash P ⟨⟨[114,111,117,110,100]⟩⟩), (.str ⟨⟨[114,111,117,110,100]⟩⟩ 45), (.builtin "round")⟩, ⟨(PyData.keyHash P ⟨⟨[115,101,116,97,116,116,114]⟩⟩), (.str ⟨⟨[115,101,116,97,116,116,114]⟩⟩ 46), (.builtin "setattr")⟩, ⟨(PyData.keyHash P ⟨⟨[115,111,114,116,101,100]⟩⟩), (.str ⟨⟨[115,111,114,116,101,100]⟩⟩ 47), (.builtin "sorted")⟩, ⟨(PyData.keyHash P ⟨⟨[115,117,109]⟩⟩), (.str ⟨⟨[115,117,109]⟩⟩ 48), (.builtin "sum")⟩, ⟨(PyData.keyHash P ⟨⟨[118,97,114,115]⟩⟩), (.str ⟨⟨[118,97,114,115]⟩⟩ 49), (.builtin "vars")⟩, ⟨(PyData.keyHash P ⟨⟨[78,111,110,101]⟩⟩), (.str ⟨⟨[78,111,110,101]⟩⟩ 50), .none⟩, ⟨(PyData.keyHash P ⟨⟨[69,108,108,105,112,115,105,115]⟩⟩), (.str ⟨⟨[69,108,108,105,112,115,105,115]⟩⟩ 51), .ellipsis⟩, ⟨(PyData.keyHash P ⟨⟨[78,111,116,73,109,112,108,101,109,101,110,116,101,100]⟩⟩), (.str ⟨⟨[78,111,116,73,109,112,108,101,109,101,110,116,101,100]⟩⟩ 52), .notImplemented⟩, ⟨(PyData.keyHash P ⟨⟨[70,97,108,115,101]⟩⟩), (.str ⟨⟨[70,97,108,115,101]⟩⟩ 53), (.bool false)⟩, ⟨(PyData.keyHash P ⟨⟨[84,114,117,101]⟩⟩), (.str ⟨⟨[84,114,117,101]⟩⟩ 54), (.bool true)⟩, ⟨(PyData.keyHash P ⟨⟨[98,111,111,108]⟩⟩), (.str ⟨⟨[98,111,111,108]⟩⟩ 55), (.type "bool")⟩, ⟨(PyData.keyHash P ⟨⟨[109,101,109,111,114,121,118,105,101,119]⟩⟩), (.str ⟨⟨[109,101,109,111,114,121,118,105,101,119]⟩⟩ 56), (.type "memoryview")⟩, ⟨(PyData.keyHash P ⟨⟨[98,121,116,101,97,114,114,97,121]⟩⟩), (.str ⟨⟨[98,121,116,101,97,114,114,97,121]⟩⟩ 57), (.type "bytearray")⟩, ⟨(PyData.keyHash P ⟨⟨[98,121,116,101,115]⟩⟩), (.str ⟨⟨[98,121,116,101,115]⟩⟩ 58), (.type "bytes")⟩, ⟨(PyData.keyHash P ⟨⟨[99,108,97,115,115,109,101,116,104,111,100]⟩⟩), (.str ⟨⟨[99,108,97,115,115,109,101,116,104,111,100]⟩⟩ 59), (.type PySem.W.SL.s591115383303110208x11)⟩, ⟨(PyData.keyHash P ⟨⟨[99,111,109,112,108,101,120]⟩⟩), (.str ⟨⟨[99,111,109,112,108,101,120]⟩⟩ 60), (.type "complex")⟩, ⟨(PyData.keyHash P ⟨⟨[100,105,99,116]⟩⟩), (.str ⟨⟨[100,105,99,116]⟩⟩ 61), (.type PySem.W.SL.s14018661285674007319x4)⟩, ⟨(PyData.keyHash P ⟨⟨[101,110,117,109,101,114,97,116,101]⟩⟩), (.str ⟨⟨[101,110,117,109,101,114,97,116,101]⟩⟩ 62), (.type "enumerate")⟩, ⟨(PyData.keyHash P ⟨⟨[102,105,108,116,101,114]⟩⟩), (.str ⟨⟨[102,105,108,116,101,114]⟩⟩ 63), (.type "filter")⟩, ⟨(PyData.keyHash P ⟨⟨[102,108,111,97,116]⟩⟩), (.str ⟨⟨[102,108,111,97,116]⟩⟩ 64), (.type "float")⟩, ⟨(PyData.keyHash P ⟨⟨[102,114,111,122,101,110,115,101,116]⟩⟩), (.str ⟨⟨[102,114,111,122,101,110,115,101,116]⟩⟩ 65), (.type "frozenset")⟩, ⟨(PyData.keyHash P ⟨⟨[112,114,111,112,101,114,116,121]⟩⟩), (.str ⟨⟨[112,114,111,112,101,114,116,121]⟩⟩ 66), (.type "property")⟩, ⟨(PyData.keyHash P ⟨⟨[105,110,116]⟩⟩), (.str ⟨⟨[105,110,116]⟩⟩ 67), (.type "int")⟩, ⟨(PyData.keyHash P ⟨⟨[108,105,115,116]⟩⟩), (.str ⟨⟨[108,105,115,116]⟩⟩ 68), (.type "list")⟩, ⟨(PyData.keyHash P ⟨⟨[109,97,112]⟩⟩), (.str ⟨⟨[109,97,112]⟩⟩ 69), (.type "map")⟩, ⟨(PyData.keyHash P ⟨⟨[111,98,106,101,99,116]⟩⟩), (.str ⟨⟨[111,98,106,101,99,116]⟩⟩ 70), (.type PySem.W.SL.s2742458400755230247x6)⟩, ⟨(PyData.keyHash P ⟨⟨[114,97,110,103,101]⟩⟩), (.str ⟨⟨[114,97,110,103,101]⟩⟩ 71), (.type "range")⟩, ⟨(PyData.keyHash P ⟨⟨[114,101,118,101,114,115,101,100]⟩⟩), (.str ⟨⟨[114,101,118,101,114,115,101,100]⟩⟩ 72), (.type "reversed")⟩, ⟨(PyData.keyHash P ⟨⟨[115,101,116]⟩⟩), (.str ⟨⟨[115,101,116]⟩⟩ 73), (.type "set")⟩, ⟨(PyData.keyHash P ⟨⟨[115,108,105,99,101]⟩⟩), (.str ⟨⟨[115,108,105,99,101]⟩⟩ 74), (.type "slice")⟩, ⟨(PyData.keyHash P ⟨⟨[115,116,97,116,105,99,109,101,116,104,111,100]⟩⟩), (.str ⟨⟨[115,116,97,116,105,99,109,101,116,104,111,100]⟩⟩ 75), (.type PySem.W.SL.s16656946322747308186x12)⟩, ⟨(PyData.keyHash P ⟨⟨[115,116,114]⟩⟩), (.str ⟨⟨[115,116,114]⟩⟩ 76), (.type "str")⟩, ⟨(PyData.keyHash P ⟨⟨[115,117,112,101,114]⟩⟩), (.str ⟨⟨[115,117,112,101,114]⟩⟩ 77), (.type "super")⟩, ⟨(PyData.keyHash P ⟨⟨[116,117,112,108,101]⟩⟩), (.str ⟨⟨[116,117,112,108,101]⟩⟩ 78), (.type PySem.W.SL.s2766695959194262286x5)⟩, ⟨(PyData.keyHash P ⟨⟨[116,121,112,101]⟩⟩), (.str ⟨⟨[116,121,112,101]⟩⟩ 79), (.type PySem.W.SL.s17162191345867700912x4)⟩, ⟨(PyData.keyHash P ⟨⟨[122,105,112]⟩⟩), (.str ⟨⟨[122,105,112]⟩⟩ 80), (.type "zip")⟩, ⟨(PyData.keyHash P ⟨⟨[95,95,100,101,98,117,103,95,95]⟩⟩), (.str ⟨⟨[95,95,100,101,98,117,103,95,95]⟩⟩ 81), (.bool true)⟩, ⟨(PyData.keyHash P ⟨⟨[66,97,115,101,69,120,99,101,112,116,105,111,110]⟩⟩), (.str ⟨⟨[66,97,115,101,69,120,99,101,112,116,105,111,110]⟩⟩ 82), (.type "BaseException")⟩, ⟨(PyData.keyHash P ⟨⟨[66,97,115,101,69,120,99,101,112,116,105,111,110,71,114,111,117,112]⟩⟩), (.str ⟨⟨[66,97,115,101,69,120,99,101,112,116,105,111,110,71,114,111,117,112]⟩⟩ 83), (.type "BaseExceptionGroup")⟩, ⟨(PyData.keyHash P ⟨⟨[69,120,99,101,112,116,105,111,110]⟩⟩), (.str ⟨⟨[69,120,99,101,112,116,105,111,110]⟩⟩ 84), (.type "Exception")⟩, ⟨(PyData.keyHash P ⟨⟨[71,101,110,101,114,97,116,111,114,69,120,105,116]⟩⟩), (.str ⟨⟨[71,101,110,101,114,97,116,111,114,69,120,105,116]⟩⟩ 85), (.type "GeneratorExit")⟩, ⟨(PyData.keyHash P ⟨⟨[75,101,121,98,111,97,114,100,73,110,116,101,114,114,117,112,116]⟩⟩), (.str ⟨⟨[75,101,121,98,111,97,114,100,73,110,116,101,114,114,117,112,116]⟩⟩ 86), (.type "KeyboardInterrupt")⟩, ⟨(PyData.keyHash P ⟨⟨[83,121,115,116,101,109,69,120,105,116]⟩⟩), (.str ⟨⟨[83,121,115,116,101,109,69,120,105,116]⟩⟩ 87), (.type "SystemExit")⟩, ⟨(PyData.keyHash P ⟨⟨[65,114,105,116,104,109,101,116,105,99,69,114,114,111,114]⟩⟩), (.str ⟨⟨[65,114,105,116,104,109,101,116,105,99,69,114,114,111,114]⟩⟩ 88), (.type "ArithmeticError")⟩, ⟨(PyData.keyHash P ⟨⟨[65,115,115,101,114,116,105,111,110,69,114,114,111,114]⟩⟩), (.str ⟨⟨[65,115,115,101,114,116,105,111,110,69,114,114,111,114]⟩⟩ 89), (.type "AssertionError")⟩, ⟨(PyData.keyHash P ⟨⟨[65,116,116,114,105,98,117,116,101,69,114,114,111,114]⟩⟩), (.str ⟨⟨[65,116,116,114,105,98,117,116,101,69,114,114,111,114]⟩⟩ 90), (.type "AttributeError")⟩, ⟨(PyData.keyHash P ⟨⟨[66,117,102,102,101,114,69,114,114,111,114]⟩⟩), (.str ⟨⟨[66,117,102,102,101,114,69,114,114,111,114]⟩⟩ 91), (.type "BufferError")⟩, ⟨(PyData.keyHash P ⟨⟨[69,79,70,69,114,114,111,114]⟩⟩), (.str ⟨⟨[69,79,70,69,114,114,111,114]⟩⟩ 92), (.type "EOFError")⟩, ⟨(PyData.keyHash P ⟨⟨[73,109,112,111,114,116,69,114,114,111,114]⟩⟩), (.str ⟨⟨[73,109,112,111,114,116,69,114,114,111,114]⟩⟩ 93), (.type "ImportError")⟩, ⟨(PyData.keyHash P ⟨⟨[76,111,111,107,117,112,69,114,114,111,114]⟩⟩), (.str ⟨⟨[76,111,111,107,117,112,69,114,114,111,114]⟩⟩ 94), (.type "LookupError")⟩, ⟨(PyData.keyHash P ⟨⟨[77,101,109,111,114,121,69,114,114,111,114]⟩⟩), (.str ⟨⟨[77,101,109,111,114,121,69,114,114,111,114]⟩⟩ 95), (.type "MemoryError")⟩, ⟨(PyData.keyHash P ⟨⟨[78,97,109,101,69,114,114,111,114]⟩⟩), (.str ⟨⟨[78,97,109,101,69,114,114,111,114]⟩⟩ 96), (.type "NameError")⟩, ⟨(PyData.keyHash P ⟨⟨[79,83,69,114,114,111,114]⟩⟩), (.str ⟨⟨[79,83,69,114,114,111,114]⟩⟩ 97), (.type "OSError")⟩, ⟨(PyData.keyHash P ⟨⟨[82,101,102,101,114,101,110,99,101,69,114,114,111,114]⟩⟩), (.str ⟨⟨[82,101,102,101,114,101,110,99,101,69,114,114,111,114]⟩⟩ 98), (.type "ReferenceError")⟩, ⟨(PyData.keyHash P ⟨⟨[82,117,110,116,105,109,101,69,114,114,111,114]⟩⟩), (.str ⟨⟨[82,117,110,116,105,109,101,69,114,114,111,114]⟩⟩ 99), (.type "RuntimeError")⟩, ⟨(PyData.keyHash P ⟨⟨[83,116,111,112,65,115,121,110,99,73,116,101,114,97,116,105,111,110]⟩⟩), (.str ⟨⟨[83,116,111,112,65,115,121,110,99,73,116,101,114,97,116,105,111,110]⟩⟩ 100), (.type "StopAsyncIteration")⟩, ⟨(PyData.keyHash P ⟨⟨[83,116,111,112,73,116,101,114,97,116,105,111,110]⟩⟩), (.str ⟨⟨[83,116,111,112,73,116,101,114,97,116,105,111,110]⟩⟩ 101), (.type "StopIteration")⟩, ⟨(PyData.keyHash P ⟨⟨[83,121,110,116,97,120,69,114,114,111,114]⟩⟩), (.str ⟨⟨[83,121,110,116,97,120,69,114,114,111,114]⟩⟩ 102), (.type "SyntaxError")⟩, ⟨(PyData.keyHash P ⟨⟨[83,121,115,116,101,109,69,114,114,111,114]⟩⟩), (.str ⟨⟨[83,121,115,116,101,109,69,114,114,111,114]⟩⟩ 103), (.type "SystemError")⟩, ⟨(PyData.keyHash P ⟨⟨[84,121,112,101,69,114,114,111,114]⟩⟩), (.str ⟨⟨[84,121,112,101,69,114,114,111,114]⟩⟩ 104), (.type "TypeError")⟩, ⟨(PyData.keyHash P ⟨⟨[86,97,108,117,101,69,114,114,111,114]⟩⟩), (.str ⟨⟨[86,97,108,117,101,69,114,114,111,114]⟩⟩ 105), (.type "ValueError")⟩, ⟨(PyData.keyHash P ⟨⟨[87,97,114,110,105,110,103]⟩⟩), (.str ⟨⟨[87,97,114,110,105,110,103]⟩⟩ 106), (.type "Warning")⟩, ⟨(PyData.keyHash P ⟨⟨[70,108,111,97,116,105,110,103,80,111,105,110,116,69,114,114,111,114]⟩⟩), (.str ⟨⟨[70,108,111,97,116,105,110,103,80,111,105,110,116,69,114,114,111,114]⟩⟩ 107), (.type "FloatingPointError")⟩, ⟨(PyData.keyHash P ⟨⟨[79,118,101,114,102,108,111,119,69,114,114,111,114]⟩⟩), (.str ⟨⟨[79,118,101,114,102,108,111,119,69,114,114,111,114]⟩⟩ 108), (.type "OverflowError")⟩, ⟨(PyData.keyHash P ⟨⟨[90,101,114,111,68,105,118,105,115,105,111,110,69,114,114,111,114]⟩⟩), (.str ⟨⟨[90,101,114,111,68,105,118,105,115,105,111,110,69,114,114,111,114]⟩⟩ 109), (.type "ZeroDivisionError")⟩, ⟨(PyData.keyHash P ⟨⟨[66,121,116,101,115,87,97,114,110,105,110,103]⟩⟩), (.str ⟨⟨[66,121,116,101,115,87,97,114,110,105,110,103]⟩⟩ 110), (.type "BytesWarning")⟩, ⟨(PyData.keyHash P ⟨⟨[68,101,112,114,101,99,97,116,105,111,110,87,97,114,110,105,110,103]⟩⟩), (.str ⟨⟨[68,101,112,114,101,99,97,116,105,111,110,87,97,114,110,105,110,103]⟩⟩ 111), (.type "DeprecationWarning")⟩, ⟨(PyData.keyHash P ⟨⟨[69,110,99,111,100,105,110,103,87,97,114,110,105,110,103]⟩⟩), (.str ⟨⟨[69,110,99,111,100,105,110,103,87,97,114,110,105,110,103]⟩⟩ 112), (.type "EncodingWarning")⟩, ⟨(PyData.keyHash P ⟨⟨[70,117,116,117,114,101,87,97,114,110,105,110,103]⟩⟩), (.str ⟨⟨[70,117,116,117,114,101,87,97,114,110,105,110,103]⟩⟩ 113), (.type "FutureWarning")⟩, ⟨(PyData.keyHash P ⟨⟨[73,109,112,111,114,116,87,97,114,110,105,110,103]⟩⟩), (.str ⟨⟨[73,109,112,111,114,116,87,97,114,110,105,110,103]⟩⟩ 114), (.type "ImportWarning")⟩, ⟨(PyData.keyHash P ⟨⟨[80,101,110,100,105,110,103,68,101,112,114,101,99,97,116,105,111,110,87,97,114,110,105,110,103]⟩⟩), (.str ⟨⟨[80,101,110,100,105,110,103,68,101,112,114,101,99,97,116,105,111,110,87,97,114,110,105,110,103]⟩⟩ 115), (.type "PendingDeprecationWarning")⟩, ⟨(PyData.keyHash P ⟨⟨[82,101,115,111,117,114,99,101,87,97,114,110,105,110,103]⟩⟩), (.str ⟨⟨[82,101,115,111,117,114,99,101,87,97,114,110,105,110,103]⟩⟩ 116), (.type "ResourceWarning")⟩, ⟨(PyData.keyHash P ⟨⟨[82,117,110,116,105,109,101,87,97,114,110,105,110,103]⟩⟩), (.str ⟨⟨[82,117,110,116,105,109,101,87,97,114,110,105,110,103]⟩⟩ 117), (.type "RuntimeWarning")⟩, ⟨(PyData.keyHash P ⟨⟨[83,121,110,116,97,120,87,97,114,110,105,110,103]⟩⟩), (.str ⟨⟨[83,121,110,116,97,120,87,97,114,110,105,110,103]⟩⟩ 118), (.type "SyntaxWarning")⟩, ⟨(PyData.keyHash P ⟨⟨[85,110,105,99,111,100,101,87,97,114,110,105,110,103]⟩⟩), (.str ⟨⟨[85,110,105,99,111,100,101,87,97,114,110,105,110,103]⟩⟩ 119), (.type "UnicodeWarning")⟩, ⟨(PyData.keyHash P ⟨⟨[85,115,101,114,87,97,114,110,105,110,103]⟩⟩), (.str ⟨⟨[85,115,101,114,87,97,114,110,105,110,103]⟩⟩ 120), (.type "UserWarning")⟩, ⟨(PyData.keyHash P ⟨⟨[66,108,111,99,107,105,110,103,73,79,69,114,114,111,114]⟩⟩), (.str ⟨⟨[66,108,111,99,107,105,110,103,73,79,69,114,114,111,114]⟩⟩ 121), (.type "BlockingIOError")⟩, ⟨(PyData.keyHash P ⟨⟨[67,104,105,108,100,80,114,111,99,101,115,115,69,114,114,111,114]⟩⟩), (.str ⟨⟨[67,104,105,108,100,80,114,111,99,101,115,115,69,114,114,111,114]⟩⟩ 122), (.type "ChildProcessError")⟩, ⟨(PyData.keyHash P ⟨⟨[67,111,110,110,101,99,116,105,111,110,69,114,114,111,114]⟩⟩), (.str ⟨⟨[67,111,110,110,101,99,116,105,111,110,69,114,114,111,114]⟩⟩ 123), (.type "ConnectionError")⟩, ⟨(PyData.keyHash P ⟨⟨[70,105,108,101,69,120,105,115,116,115,69,114,114,111,114]⟩⟩), (.str ⟨⟨[70,105,108,101,69,120,105,115,116,115,69,114,114,111,114]⟩⟩ 124), (.type "FileExistsError")⟩, ⟨(PyData.keyHash P ⟨⟨[70,105,108,101,78,111,116,70,111,117,110,100,69,114,114,111,114]⟩⟩), (.str ⟨⟨[70,105,108,101,78,111,116,70,111,117,110,100,69,114,114,111,114]⟩⟩ 125), (.type "FileNotFoundError")⟩, ⟨(PyData.keyHash P ⟨⟨[73,110,116,101,114,114,117,112,116,101,100,69,114,114,111,114]⟩⟩), (.str ⟨⟨[73,110,116,101,114,114,117,112,116,101,100,69,114,114,111,114]⟩⟩ 126), (.type "InterruptedError")⟩, ⟨(PyData.keyHash P ⟨⟨[73,115,65,68,105,114,101,99,116,111,114,121,69,114,114,111,114]⟩⟩), (.str ⟨⟨[73,115,65,68,105,114,101,99,116,111,114,121,69,114,114,111,114]⟩⟩ 127), (.type "IsADirectoryError")⟩, ⟨(PyData.keyHash P ⟨⟨[78,111,116,65,68,105,114,101,99,116,111,114,121,69,114,114,111,114]⟩⟩), (.str ⟨⟨[78,111,116,65,68,105,114,101,99,116,111,114,121,69,114,114,111,114]⟩⟩ 128), (.type "NotADirectoryError")⟩, ⟨(PyData.keyHash P ⟨⟨[80,101,114,109,105,115,115,105,111,110,69,114,114,111,114]⟩⟩), (.str ⟨⟨[80,101,114,109,105,115,115,105,111,110,69,114,114,111,114]⟩⟩ 129), (.type "PermissionError")⟩, ⟨(PyData.keyHash P ⟨⟨[80,114,111,99,101,115,115,76,111,111,107,117,112,69,114,114,111,114]⟩⟩), (.str ⟨⟨[80,114,111,99,101,115,115,76,111,111,107,117,112,69,114,114,111,114]⟩⟩ 130), (.type "ProcessLookupError")⟩, ⟨(PyData.keyHash P ⟨⟨[84,105,109,101,111,117,116,69,114,114,111,114]⟩⟩), (.str ⟨⟨[84,105,109,101,111,117,116,69,114,114,111,114]⟩⟩ 131), (.type "TimeoutError")⟩, ⟨(PyData.keyHash P ⟨⟨[73,110,100,101,110,116,97,116,105,111,110,69,114,114,111,114]⟩⟩), (.str ⟨⟨[73,110,100,101,110,116,97,116,105,111,110,69,114,114,111,114]⟩⟩ 132), (.type "IndentationError")⟩, ⟨(PyData.keyHash P ⟨⟨[95,73,110,99,111,109,112,108,101,116,101,73,110,112,117,116,69,114,114,111,114]⟩⟩), (.str ⟨⟨[95,73,110,99,111,109,112,108,101,116,101,73,110,112,117,116,69,114,114,111,114]⟩⟩ 133), (.type "_IncompleteInputError")⟩, ⟨(PyData.keyHash P ⟨⟨[73,110,100,101,120,69,114,114,111,114]⟩⟩), (.str ⟨⟨[73,110,100,101,120,69,114,114,111,114]⟩⟩ 134), (.type "IndexError")⟩, ⟨(PyData.keyHash P ⟨⟨[75,101,121,69,114,114,111,114]⟩⟩), (.str ⟨⟨[75,101,121,69,114,114,111,114]⟩⟩ 135), (.type "KeyError")⟩, ⟨(PyData.keyHash P ⟨⟨[77,111,100,117,108,101,78,111,116,70,111,117,110,100,69,114,114,111,114]⟩⟩), (.str ⟨⟨[77,111,100,117,108,101,78,111,116,70,111,117,110,100,69,114,114,111,114]⟩⟩ 136), (.type "ModuleNotFoundError")⟩, ⟨(PyData.keyHash P ⟨⟨[78,111,116,73,109,112,108,101,109,101,110,116,101,100,69,114,114,111,114]⟩⟩), (.str ⟨⟨[78,111,116,73,109,112,108,101,109,101,110,116,101,100,69,114,114,111,114]⟩⟩ 137), (.type "NotImplementedError")⟩, ⟨(PyData.keyHash P ⟨⟨[80,121,116,104,111,110,70,105,110,97,108,105,122,97,116,105,111,110,69,114,114,111,114]⟩⟩), (.str ⟨⟨[80,121,116,104,111,110,70,105,110,97,108,105,122,97,116,105,111,110,69,114,114,111,114]⟩⟩ 138), (.type "PythonFinalizationError")⟩, ⟨(PyData.keyHash P ⟨⟨[82,101,99,117,114,115,105,111,110,69,114,114,111,114]⟩⟩), (.str ⟨⟨[82,101,99,117,114,115,105,111,110,69,114,114,111,114]⟩⟩ 139), (.type "RecursionError")⟩, ⟨(PyData.keyHash P ⟨⟨[85,110,98,111,117,110,100,76,111,99,97,108,69,114,114,111,114]⟩⟩), (.str ⟨⟨[85,110,98,111,117,110,100,76,111,99,97,108,69,114,114,111,114]⟩⟩ 140), (.type "UnboundLocalError")⟩, ⟨(PyData.keyHash P ⟨⟨[85,110,105,99,111,100,101,69,114,114,111,114]⟩⟩), (.str ⟨⟨[85,110,105,99,111,100,101,69,114,114,111,114]⟩⟩ 141), (.type "UnicodeError")⟩, ⟨(PyData.keyHash P ⟨⟨[66,114,111,107,101,110,80,105,112,101,69,114,114,111,114]⟩⟩), (.str ⟨⟨[66,114,111,107,101,110,80,105,112,101,69,114,114,111,114]⟩⟩ 142), (.type "BrokenPipeError")⟩, ⟨(PyData.keyHash P ⟨⟨[67,111,110,110,101,99,116,105,111,110,65,98,111,114,116,101,100,69,114,114,111,114]⟩⟩), (.str ⟨⟨[67,111,110,110,101,99,116,105,111,110,65,98,111,114,116,101,100,69,114,114,111,114]⟩⟩ 143), (.type "ConnectionAbortedError")⟩, ⟨(PyData.keyHash P ⟨⟨[67,111,110,110,101,99,116,105,111,110,82,101,102,117,115,101,100,69,114,114,111,114]⟩⟩), (.str ⟨⟨[67,111,110,110,101,99,116,105,111,110,82,101,102,117,115,101,100,69,114,114,111,114]⟩⟩ 144), (.type "ConnectionRefusedError")⟩, ⟨(PyData.keyHash P ⟨⟨[67,111,110,110,101,99,116,105,111,110,82,101,115,101,116,69,114,114,111,114]⟩⟩), (.str ⟨⟨[67,111,110,110,101,99,116,105,111,110,82,101,115,101,116,69,114,114,111,114]⟩⟩ 145), (.type "ConnectionResetError")⟩, ⟨(PyData.keyHash P ⟨⟨[84,97,98,69,114,114,111,114]⟩⟩), (.str ⟨⟨[84,97,98,69,114,114,111,114]⟩⟩ 146), (.type "TabError")⟩, ⟨(PyData.keyHash P ⟨⟨[85,110,105,99,111,100,101,68,101,99,111,100,101,69,114,114,111,114]⟩⟩), (.str ⟨⟨[85,110,105,99,111,100,101,68,101,99,111,100,101,69,114,114,111,114]⟩⟩ 147), (.type "UnicodeDecodeError")⟩, ⟨(PyData.keyHash P ⟨⟨[85,110,105,99,111,100,101,69,110,99,111,100,101,69,114,114,111,114]⟩⟩), (.str ⟨⟨[85,110,105,99,111,100,101,69,110,99,111,100,101,69,114,114,111,114]⟩⟩ 148), (.type "UnicodeEncodeError")⟩, ⟨(PyData.keyHash P ⟨⟨[85,110,105,99,111,100,101,84,114,97,110,115,108,97,116,101,69,114,114,111,114]⟩⟩), (.str ⟨⟨[85,110,105,99,111,100,101,84,114,97,110,115,108,97,116,101,69,114,114,111,114]⟩⟩ 149), (.type "UnicodeTranslateError")⟩, ⟨(PyData.keyHash P ⟨⟨[69,120,99,101,112,116,105,111,110,71,114,111,117,112]⟩⟩), (.str ⟨⟨[69,120,99,101,112,116,105,111,110,71,114,111,117,112]⟩⟩ 150), (.type "ExceptionGroup")⟩, ⟨(PyData.keyHash P ⟨⟨[69,110,118,105,114,111,110,109,101,110,116,69,114,114,111,114]⟩⟩), (.str ⟨⟨[69,110,118,105,114,111,110,109,101,110,116,69,114,114,111,114]⟩⟩ 151), (.type "OSError")⟩, ⟨(PyData.keyHash P ⟨⟨[73,79,69,114,114,111,114]⟩⟩), (.str ⟨⟨[73,79,69,114,114,111,114]⟩⟩ 152), (.type "OSError")⟩, ⟨(PyData.keyHash P ⟨⟨[111,112,101,110]⟩⟩), (.str ⟨⟨[111,112,101,110]⟩⟩ 153), (.builtin "open")⟩, ⟨(PyData.keyHash P ⟨⟨[113,117,105,116]⟩⟩), (.str ⟨⟨[113,117,105,116]⟩⟩ 154), (.builtin "builtins.quit#opaque")⟩, ⟨(PyData.keyHash P ⟨⟨[101,120,105,116]⟩⟩), (.str ⟨⟨[101,120,105,116]⟩⟩ 155), (.builtin "builtins.exit#opaque")⟩, ⟨(PyData.keyHash P ⟨⟨[99,111,112,121,114,105,103,104,116]⟩⟩), (.str ⟨⟨[99,111,112,121,114,105,103,104,116]⟩⟩ 156), (.builtin "builtins.copyright#opaque")⟩, ⟨(PyData.keyHash P ⟨⟨[99,114,101,100,105,116,115]⟩⟩), (.str ⟨⟨[99,114,101,100,105,116,115]⟩⟩ 157), (.builtin "builtins.credits#opaque")⟩, ⟨(PyData.keyHash P ⟨⟨[108,105,99,101,110,115,101]⟩⟩), (.str ⟨⟨[108,105,99,101,110,115,101]⟩⟩ 158), (.builtin "builtins.license#opaque")⟩, ⟨(PyData.keyHash P ⟨⟨[104,101,108,112]⟩⟩), (.str ⟨⟨[104,101,108,112]⟩⟩ 159), (.builtin "builtins.help#opaque")⟩] 159), #[]⟩
noncomputable def sZo_1 (P : Params) : Obj := ⟨(.type PySem.W.SL.s14018661285674007319x4), none, (.dict #[⟨(PyData.keyHash P ⟨⟨[98,117,105,108,116,105,110,115]⟩⟩), (.str ⟨⟨[98,117,105,108,116,105,110,115]⟩⟩ 162), (.ref 4)⟩, ⟨(PyData.keyHash P ⟨⟨[95,95,109,97,105,110,95,95]⟩⟩), (.str ⟨⟨[95,95,109,97,105,110,95,95]⟩⟩ 163), (.ref 5)⟩, ⟨(PyData.keyHash P ⟨⟨[95,99,111,108,108,101,99,116,105,111,110,115]⟩⟩), (.str ⟨⟨[95,99,111,108,108,101,99,116,105,111,110,115]⟩⟩ 246), (.ref 13)⟩] 3), #[]⟩
noncomputable def sZo_2 (P : Params) : Obj := ⟨.none, none, (.dict #[⟨(PyData.keyHash P ⟨⟨[105,109,112,111,114,116,46,108,111,97,100,101,100,46,95,99,111,108,108,101,99,116,105,111,110,115]⟩⟩), (.str ⟨⟨[105,109,112,111,114,116,46,108,111,97,100,101,100,46,95,99,111,108,108,101,99,116,105,111,110,115]⟩⟩ 185), (.bool true)⟩, ⟨(PyData.keyHash P ⟨⟨[99,108,97,115,115,46,95,102,114,111,122,101,110,95,105,109,112,111,114,116,108,105,98,46,66,117,105,108,116,105,110,73,109,112,111,114,116,101,114]⟩⟩), (.str ⟨⟨[99,108,97,115,115,46,95,102,114,111,122,101,110,95,105,109,112,111,114,116,108,105,98,46,66,117,105,108,116,105,110,73,109,112,111,114,116,101,114]⟩⟩ 187), (.ref 15)⟩, ⟨(PyData.keyHash P ⟨⟨[119,97,116,99,104,101,100,46,105,109,112,111,114,116]⟩⟩), (.str ⟨⟨[119,97,116,99,104,101,100,46,105,109,112,111,114,116]⟩⟩ 208), (.ref 19)⟩, ⟨(PyData.keyHash P ⟨⟨[99,108,97,115,115,46,95,102,114,111,122,101,110,95,105,109,112,111,114,116,108,105,98,46,77,111,100,117,108,101,83,112,101,99]⟩⟩), (.str ⟨⟨[99,108,97,115,115,46,95,102,114,111,122,101,110,95,105,109,112,111,114,116,108,105,98,46,77,111,100,117,108,101,83,112,101,99]⟩⟩ 218), (.ref 23)⟩, ⟨(PyData.keyHash P ⟨⟨[115,121,115,46,109,111,100,117,108,101,115,46,98,111,111,107,101,100,45,101,112,111,99,104]⟩⟩), (.str ⟨⟨[115,121,115,46,109,111,100,117,108,101,115,46,98,111,111,107,101,100,45,101,112,111,99,104]⟩⟩ 247), (.int 3 0)⟩, ⟨(PyData.keyHash P ⟨⟨[115,121,115,46,109,111,100,117,108,101,115,46,108,97,110,100,101,100,46,95,99,111,108,108,101,99,116,105,111,110,115]⟩⟩), (.str ⟨⟨[115,121,115,46,109,111,100,117,108,101,115,46,108,97,110,100,101,100,46,95,99,111,108,108,101,99,116,105,111,110,115]⟩⟩ 248), (.bool true)⟩, ⟨(PyData.keyHash P ⟨⟨[105,109,112,111,114,116,46,108,97,116,101,114,45,108,97,105,100,46,95,99,111,108,108,101,99,116,105,111,110,115]⟩⟩), (.str ⟨⟨[105,109,112,111,114,116,46,108,97,116,101,114,45,108,97,105,100,46,95,99,111,108,108,101,99,116,105,111,110,115]⟩⟩ 263), (.bool true)⟩, ⟨(PyData.keyHash P ⟨⟨[119,97,116,99,104,101,100,46,108,105,98,114,97,114,121]⟩⟩), (.str ⟨⟨[119,97,116,99,104,101,100,46,108,105,98,114,97,114,121]⟩⟩ 265), (.ref 28)⟩, ⟨(PyData.keyHash P ⟨⟨[119,97,116,99,104,101,100,46,108,105,98,114,97,114,121,45,111,98,106,101,99,116,115]⟩⟩), (.str ⟨⟨[119,97,116,99,104,101,100,46,108,105,98,114,97,114,121,45,111,98,106,101,99,116,115]⟩⟩ 0), (.str ⟨⟨[13]⟩⟩ 0)⟩, ⟨(PyData.keyHash P ⟨⟨[119,97,116,99,104,101,100,46,108,105,98,114,97,114,121,45,100,101,101,112,46,95,99,111,108,108,101,99,116,105,111,110,115]⟩⟩), (.str ⟨⟨[119,97,116,99,104,101,100,46,108,105,98,114,97,114,121,45,100,101,101,112,46,95,99,111,108,108,101,99,116,105,111,110,115]⟩⟩ 266), (.str ⟨⟨[4,0,0,12,4,0,0,12,4,0,0,3,4,0,0,12,8,4,100,105,99,116,2]⟩⟩ 0)⟩] 10), #[]⟩
noncomputable def sZo_3 (P : Params) : Obj := ⟨(.type PySem.W.SL.s14018661285674007319x4), none, (.dict #[⟨(PyData.keyHash P ⟨⟨[95,95,110,97,109,101,95,95]⟩⟩), (.str ⟨⟨[95,95,110,97,109,101,95,95]⟩⟩ 165), (.str ⟨⟨[99,112,121,51,49,51,46,105,109,112,111,114,116,108,105,98,46,109,101,116,97,100,97,116,97,46,95,99,111,108,108,101,99,116,105,111,110,115]⟩⟩ 332)⟩, ⟨(PyData.keyHash P ⟨⟨[95,95,100,111,99,95,95]⟩⟩), (.str ⟨⟨[95,95,100,111,99,95,95]⟩⟩ 166), .none⟩, ⟨(PyData.keyHash P ⟨⟨[95,95,112,97,99,107,97,103,101,95,95]⟩⟩), (.str ⟨⟨[95,95,112,97,99,107,97,103,101,95,95]⟩⟩ 167), .none⟩, ⟨(PyData.keyHash P ⟨⟨[95,95,108,111,97,100,101,114,95,95]⟩⟩), (.str ⟨⟨[95,95,108,111,97,100,101,114,95,95]⟩⟩ 168), (.builtin PySem.W.SL.s7097527257260152453x26)⟩, ⟨(PyData.keyHash P ⟨⟨[95,95,115,112,101,99,95,95]⟩⟩), (.str ⟨⟨[95,95,115,112,101,99,95,95]⟩⟩ 169), .none⟩, ⟨(PyData.keyHash P ⟨⟨[95,95,97,110,110,111,116,97,116,105,111,110,115,95,95]⟩⟩), (.str ⟨⟨[95,95,97,110,110,111,116,97,116,105,111,110,115,95,95]⟩⟩ 170), (.ref 6)⟩, ⟨(PyData.keyHash P ⟨⟨[95,95,98,117,105,108,116,105,110,115,95,95]⟩⟩), (.str ⟨⟨[95,95,98,117,105,108,116,105,110,115,95,95]⟩⟩ 171), (.ref 4)⟩, ⟨(PyData.keyHash P ⟨⟨[95,95,102,105,108,101,95,95]⟩⟩), (.str ⟨⟨[95,95,102,105,108,101,95,95]⟩⟩ 173), (.str ⟨⟨[47,99,108,97,105,109,47,99,117,116,46,112,121]⟩⟩ 172)⟩, ⟨(PyData.keyHash P ⟨⟨[95,95,99,97,99,104,101,100,95,95]⟩⟩), (.str ⟨⟨[95,95,99,97,99,104,101,100,95,95]⟩⟩ 174), .none⟩, ⟨(PyData.keyHash P ⟨⟨[100,101,102,97,117,108,116,100,105,99,116]⟩⟩), (.str ⟨⟨[100,101,102,97,117,108,116,100,105,99,116]⟩⟩ 272), (.type PySem.W.SL.s9278979716766391425x23)⟩, ⟨(PyData.keyHash P ⟨⟨[95,119,97,108,108]⟩⟩), (.str ⟨⟨[95,119,97,108,108]⟩⟩ 285), (.ref 39)⟩, ⟨(PyData.keyHash P ⟨⟨[84,117,112,108,101,67,111,109,112]⟩⟩), (.str ⟨⟨[84,117,112,108,101,67,111,109,112]⟩⟩ 331), (.ref 63)⟩] 12), #[]⟩
noncomputable def sZo_4 (P : Params) : Obj := ⟨(.type "module"), (some 0), .plain, #[]⟩
noncomputable def sZo_5 (P : Params) : Obj := ⟨(.type "module"), (some 3), .plain, #[]⟩
noncomputable def sZo_6 (P : Params) : Obj := ⟨(.type PySem.W.SL.s14018661285674007319x4), none, (.dict #[] 0), #[]⟩
noncomputable def sZo_7 (P : Params) : Obj := ⟨(.type PySem.W.SL.s2766695959194262286x5), none, (.seq #[] 0), #[]⟩
noncomputable def sZo_8 (P : Params) : Obj := ⟨.none, none, (.fields #[]), #[]⟩
noncomputable def sZo_9 (P : Params) : Obj := ⟨(.type PySem.W.SL.s5856160107412720595x4), none, (.fields #[(.str ⟨⟨[60,109,111,100,117,108,101,62]⟩⟩ 176), (.str ⟨⟨[60,109,111,100,117,108,101,62]⟩⟩ 177), (.str ⟨⟨[47,99,108,97,105,109,47,99,117,116,46,112,121]⟩⟩ 178), (.int 1 0), (.int 0 0), (.int 0 0), (.int 0 0), (.int 0 0), (.ref 7), (.bool false), (.int 175 0), (.ref 8), .none, .none, .none, .none, (.int 179 0), (.int 1 0), (.str ⟨⟨[47,99,108,97,105,109,47,99,117,116,46,112,121]⟩⟩ 180)]), #[]⟩
noncomputable def sZo_10 (P : Params) : Obj := ⟨(.type "frame"), none, .plain, #[(some (.ref 9)), (some (.ref 3)), (some (.ref 3)), none, (some (.str ⟨⟨[95,95,109,97,105,110,95,95]⟩⟩ 164)), none, (some (.ref 0))]⟩
noncomputable def sZo_11 (P : Params) : Obj := ⟨(.type PySem.W.SL.s2766695959194262286x5), none, (.seq #[(.str ⟨⟨[100,101,102,97,117,108,116,100,105,99,116]⟩⟩ 182)] 0), #[]⟩
noncomputable def sZo_12 (P : Params) : Obj := ⟨(.type PySem.W.SL.s14018661285674007319x4), none, (.dict #[⟨(PyData.keyHash P ⟨⟨[95,95,110,97,109,101,95,95]⟩⟩), (.str ⟨⟨[95,95,110,97,109,101,95,95]⟩⟩ 250), (.str ⟨⟨[95,99,111,108,108,101,99,116,105,111,110,115]⟩⟩ 249)⟩, ⟨(PyData.keyHash P ⟨⟨[95,95,100,111,99,95,95]⟩⟩), (.str ⟨⟨[95,95,100,111,99,95,95]⟩⟩ 251), (.builtin "off-the-table:_collections.__doc__:shared#opaque")⟩, ⟨(PyData.keyHash P ⟨⟨[95,95,112,97,99,107,97,103,101,95,95]⟩⟩), (.str ⟨⟨[95,95,112,97,99,107,97,103,101,95,95]⟩⟩ 253), (.str ⟨⟨[]⟩⟩ 252)⟩, ⟨(PyData.keyHash P ⟨⟨[95,95,108,111,97,100,101,114,95,95]⟩⟩), (.str ⟨⟨[95,95,108,111,97,100,101,114,95,95]⟩⟩ 254), (.builtin "off-the-table:_collections.__loader__:shared#opaque")⟩, ⟨(PyData.keyHash P ⟨⟨[95,95,115,112,101,99,95,95]⟩⟩), (.str ⟨⟨[95,95,115,112,101,99,95,95]⟩⟩ 255), (.builtin "off-the-table:_collections.__spec__:shared#opaque")⟩, ⟨(PyData.keyHash P ⟨⟨[95,99,111,117,110,116,95,101,108,101,109,101,110,116,115]⟩⟩), (.str ⟨⟨[95,99,111,117,110,116,95,101,108,101,109,101,110,116,115]⟩⟩ 256), (.builtin "_collections._count_elements")⟩, ⟨(PyData.keyHash P ⟨⟨[100,101,113,117,101]⟩⟩), (.str ⟨⟨[100,101,113,117,101]⟩⟩ 257), (.type "collections.deque")⟩, ⟨(PyData.keyHash P ⟨⟨[100,101,102,97,117,108,116,100,105,99,116]⟩⟩), (.str ⟨⟨[100,101,102,97,117,108,116,100,105,99,116]⟩⟩ 258), (.type PySem.W.SL.s9278979716766391425x23)⟩, ⟨(PyData.keyHash P ⟨⟨[95,100,101,113,117,101,95,105,116,101,114,97,116,111,114]⟩⟩), (.str ⟨⟨[95,100,101,113,117,101,95,105,116,101,114,97,116,111,114]⟩⟩ 259), (.builtin "off-the-table:_collections._deque_iterator:shared#opaque")⟩, ⟨(PyData.keyHash P ⟨⟨[95,100,101,113,117,101,95,114,101,118,101,114,115,101,95,105,116,101,114,97,116,111,114]⟩⟩), (.str ⟨⟨[95,100,101,113,117,101,95,114,101,118,101,114,115,101,95,105,116,101,114,97,116,111,114]⟩⟩ 260), (.builtin "off-the-table:_collections._deque_reverse_iterator:shared#opaque")⟩, ⟨(PyData.keyHash P ⟨⟨[95,116,117,112,108,101,103,101,116,116,101,114]⟩⟩), (.str ⟨⟨[95,116,117,112,108,101,103,101,116,116,101,114]⟩⟩ 261), (.type "collections._tuplegetter")⟩, ⟨(PyData.keyHash P ⟨⟨[79,114,100,101,114,101,100,68,105,99,116]⟩⟩), (.str ⟨⟨[79,114,100,101,114,101,100,68,105,99,116]⟩⟩ 262), (.type "collections.OrderedDict")⟩] 12), #[]⟩
noncomputable def sZo_13 (P : Params) : Obj := ⟨(.type "module"), (some 12), .plain, #[]⟩
noncomputable def sZo_14 (P : Params) : Obj := ⟨(.type PySem.W.SL.s14018661285674007319x4), none, (.dict #[⟨(PyData.keyHash P ⟨⟨[95,95,109,111,100,117,108,101,95,95]⟩⟩), (.str ⟨⟨[95,95,109,111,100,117,108,101,95,95]⟩⟩ 191), (.str ⟨⟨[95,102,114,111,122,101,110,95,105,109,112,111,114,116,108,105,98]⟩⟩ 188)⟩, ⟨(PyData.keyHash P ⟨⟨[95,95,102,105,114,115,116,108,105,110,101,110,111,95,95]⟩⟩), (.str ⟨⟨[95,95,102,105,114,115,116,108,105,110,101,110,111,95,95]⟩⟩ 192), (.int 971 189)⟩, ⟨(PyData.keyHash P ⟨⟨[95,95,100,111,99,95,95]⟩⟩), (.str ⟨⟨[95,95,100,111,99,95,95]⟩⟩ 193), (.builtin "_frozen_importlib.BuiltinImporter.__doc__:str#opaque")⟩, ⟨(PyData.keyHash P ⟨⟨[95,79,82,73,71,73,78]⟩⟩), (.str ⟨⟨[95,79,82,73,71,73,78]⟩⟩ 194), (.str ⟨⟨[98,117,105,108,116,45,105,110]⟩⟩ 190)⟩, ⟨(PyData.keyHash P ⟨⟨[102,105,110,100,95,115,112,101,99]⟩⟩), (.str ⟨⟨[102,105,110,100,95,115,112,101,99]⟩⟩ 195), (.builtin "_frozen_importlib.BuiltinImporter.find_spec#opaque")⟩, ⟨(PyData.keyHash P ⟨⟨[99,114,101,97,116,101,95,109,111,100,117,108,101]⟩⟩), (.str ⟨⟨[99,114,101,97,116,101,95,109,111,100,117,108,101]⟩⟩ 196), (.builtin "_frozen_importlib.BuiltinImporter.create_module#opaque")⟩, ⟨(PyData.keyHash P ⟨⟨[101,120,101,99,95,109,111,100,117,108,101]⟩⟩), (.str ⟨⟨[101,120,101,99,95,109,111,100,117,108,101]⟩⟩ 197), (.builtin "_frozen_importlib.BuiltinImporter.exec_module#opaque")⟩, ⟨(PyData.keyHash P ⟨⟨[103,101,116,95,99,111,100,101]⟩⟩), (.str ⟨⟨[103,101,116,95,99,111,100,101]⟩⟩ 198), (.builtin "_frozen_importlib.BuiltinImporter.get_code#opaque")⟩, ⟨(PyData.keyHash P ⟨⟨[103,101,116,95,115,111,117,114,99,101]⟩⟩), (.str ⟨⟨[103,101,116,95,115,111,117,114,99,101]⟩⟩ 199), (.builtin "_frozen_importlib.BuiltinImporter.get_source#opaque")⟩, ⟨(PyData.keyHash P ⟨⟨[105,115,95,112,97,99,107,97,103,101]⟩⟩), (.str ⟨⟨[105,115,95,112,97,99,107,97,103,101]⟩⟩ 200), (.builtin "_frozen_importlib.BuiltinImporter.is_package#opaque")⟩, ⟨(PyData.keyHash P ⟨⟨[108,111,97,100,95,109,111,100,117,108,101]⟩⟩), (.str ⟨⟨[108,111,97,100,95,109,111,100,117,108,101]⟩⟩ 201), (.builtin "_frozen_importlib.BuiltinImporter.load_module#opaque")⟩, ⟨(PyData.keyHash P ⟨⟨[95,95,115,116,97,116,105,99,95,97,116,116,114,105,98,117,116,101,115,95,95]⟩⟩), (.str ⟨⟨[95,95,115,116,97,116,105,99,95,97,116,116,114,105,98,117,116,101,115,95,95]⟩⟩ 202), (.ref 16)⟩, ⟨(PyData.keyHash P ⟨⟨[95,95,100,105,99,116,95,95]⟩⟩), (.str ⟨⟨[95,95,100,105,99,116,95,95]⟩⟩ 204), (.ref 17)⟩, ⟨(PyData.keyHash P ⟨⟨[95,95,119,101,97,107,114,101,102,95,95]⟩⟩), (.str ⟨⟨[95,95,119,101,97,107,114,101,102,95,95]⟩⟩ 206), (.ref 18)⟩] 14), #[]⟩
noncomputable def sZo_15 (P : Params) : Obj := ⟨(.type PySem.W.SL.s17162191345867700912x4), none, (.cls ⟨⟨⟨[66,117,105,108,116,105,110,73,109,112,111,114,116,101,114]⟩⟩, [(.type PySem.W.SL.s2742458400755230247x6)], [(.ref 15), (.type PySem.W.SL.s2742458400755230247x6)], 14, ⟨⟨[66,117,105,108,116,105,110,73,109,112,111,114,116,101,114]⟩⟩, true, [], [], false, none, false⟩), #[]⟩
noncomputable def sZo_16 (P : Params) : Obj := ⟨(.type PySem.W.SL.s2766695959194262286x5), none, (.seq #[] 0), #[]⟩
noncomputable def sZo_17 (P : Params) : Obj := ⟨(.type PySem.W.SL.s14755015743595814543x17), none, (.fields #[(.str ⟨⟨[95,95,100,105,99,116,95,95]⟩⟩ 203), (.ref 15), (.builtin PySem.W.SL.s6511155373996960695x17), (.builtin PySem.W.SL.s12411053484034534018x21)]), #[]⟩
noncomputable def sZo_18 (P : Params) : Obj := ⟨(.type PySem.W.SL.s14755015743595814543x17), none, (.fields #[(.str ⟨⟨[95,95,119,101,97,107,114,101,102,95,95]⟩⟩ 205), (.ref 15), (.builtin PySem.W.SL.s10220274742760427390x26), .none]), #[]⟩
noncomputable def sZo_19 (P : Params) : Obj := ⟨.none, none, (.seq #[(.int 14 0), (.str ⟨⟨[6,191,10,95,95,109,111,100,117,108,101,95,95,6,188,17,95,102,114,111,122,101,110,95,105,109,112,111,114,116,108,105,98,6,192,15,95,95,102,105,114,115,116,108,105,110,101,110,111,95,95,4,189,0,971,6,193,7,95,95,100,111,99,95,95,9,52,95,102,114,111,122,101,110,95,105,109,112,111,114,116,108,105,98,46,66,117,105,108,116,105,110,73,109,112,111,114,116,101,114,46,95,95,100,111,99,95,95,58,115,116,114,35,111,112,97,113,117,101,6,194,7,95,79,82,73,71,73,78,6,190,8,98,117,105,108,116,45,105,110,6,195,9,102,105,110,100,95,115,112,101,99,9,50,95,102,114,111,122,101,110,95,105,109,112,111,114,116,108,105,98,46,66,117,105,108,116,105,110,73,109,112,111,114,116,101,114,46,102,105,110,100,95,115,112,101,99,35,111,112,97,113,117,101,6,196,13,99,114,101,97,116,101,95,109,111,100,117,108,101,9,54,95,102,114,111,122,101,110,95,105,109,112,111,114,116,108,105,98,46,66,117,105,108,116,105,110,73,109,112,111,114,116,101,114,46,99,114,101,97,116,101,95,109,111,100,117,108,101,35,111,112,97,113,117,101,6,197,11,101,120,101,99,95,109,111,100,117,108,101,9,52,95,102,114,111,122,101,110,95,105,109,112,111,114,116,108,105,98,46,66,117,105,108,116,105,110,73,109,112,111,114,116,101,114,46,101,120,101,99,95,109,111,100,117,108,101,35,111,112,97,113,117,101,6,198,8,103,101,116,95,99,111,100,101,9,49,95,102,114,111,122,101,110,95,105,109,112,111,114,116,108,105,98,46,66,117,105,108,116,105,110,73,109,112,111,114,116,101,114,46,103,101,116,95,99,111,100,101,35,111,112,97,113,117,101,6,199,10,103,101,116,95,115,111,117,114,99,101,9,51,95,102,114,111,122,101,110,95,105,109,112,111,114,116,108,105,98,46,66,117,105,108,116,105,110,73,109,112,111,114,116,101,114,46,103,101,116,95,115,111,117,114,99,101,35,111,112,97,113,117,101,6,200,10,105,115,95,112,97,99,107,97,103,101,9,51,95,102,114,111,122,101,110,95,105,109,112,111,114,116,108,105,98,46,66,117,105,108,116,105,110,73,109,112,111,114,116,101,114,46,105,115,95,112,97,99,107,97,103,101,35,111,112,97,113,117,101,6,201,11,108,111,97,100,95,109,111,100,117,108,101,9,52,95,102,114,111,122,101,110,95,105,109,112,111,114,116,108,105,98,46,66,117,105,108,116,105,110,73,109,112,111,114,116,101,114,46,108,111,97,100,95,109,111,100,117,108,101,35,111,112,97,113,117,101,6,202,21,95,95,115,116,97,116,105,99,95,97,116,116,114,105,98,117,116,101,115,95,95,4,0,0,16,6,204,8,95,95,100,105,99,116,95,95,4,0,0,17,6,206,11,95,95,119,101,97,107,114,101,102,95,95,4,0,0,18]⟩⟩ 0), (.bool true), (.bool true), (.str ⟨⟨[]⟩⟩ 207), (.int 22 0), (.str ⟨⟨[6,229,10,95,95,109,111,100,117,108,101,95,95,6,219,17,95,102,114,111,122,101,110,95,105,109,112,111,114,116,108,105,98,6,230,15,95,95,102,105,114,115,116,108,105,110,101,110,111,95,95,4,220,0,562,6,231,7,95,95,100,111,99,95,95,9,47,95,102,114,111,122,101,110,95,105,109,112,111,114,116,108,105,98,46,77,111,100,117,108,101,83,112,101,99,46,95,95,100,111,99,95,95,58,115,116,114,35,111,112,97,113,117,101,6,232,8,95,95,105,110,105,116,95,95,9,44,95,102,114,111,122,101,110,95,105,109,112,111,114,116,108,105,98,46,77,111,100,117,108,101,83,112,101,99,46,95,95,105,110,105,116,95,95,35,111,112,97,113,117,101,6,233,8,95,95,114,101,112,114,95,95,9,44,95,102,114,111,122,101,110,95,105,109,112,111,114,116,108,105,98,46,77,111,100,117,108,101,83,112,101,99,46,95,95,114,101,112,114,95,95,35,111,112,97,113,117,101,6,234,6,95,95,101,113,95,95,9,42,95,102,114,111,122,101,110,95,105,109,112,111,114,116,108,105,98,46,77,111,100,117,108,101,83,112,101,99,46,95,95,101,113,95,95,35,111,112,97,113,117,101,6,235,6,99,97,99,104,101,100,9,42,95,102,114,111,122,101,110,95,105,109,112,111,114,116,108,105,98,46,77,111,100,117,108,101,83,112,101,99,46,99,97,99,104,101,100,35,111,112,97,113,117,101,6,236,6,112,97,114,101,110,116,9,42,95,102,114,111,122,101,110,95,105,109,112,111,114,116,108,105,98,46,77,111,100,117,108,101,83,112,101,99,46,112,97,114,101,110,116,35,111,112,97,113,117,101,6,237,12,104,97,115,95,108,111,99,97,116,105,111,110,9,48,95,102,114,111,122,101,110,95,105,109,112,111,114,116,108,105,98,46,77,111,100,117,108,101,83,112,101,99,46,104,97,115,95,108,111,99,97,116,105,111,110,35,111,112,97,113,117,101,6,238,21,95,95,115,116,97,116,105,99,95,97,116,116,114,105,98,117,116,101,115,95,95,4,0,0,24,6,240,8,95,95,100,105,99,116,95,95,4,0,0,25,6,242,11,95,95,119,101,97,107,114,101,102,95,95,4,0,0,26,6,243,8,95,95,104,97,115,104,95,95,0]⟩⟩ 0), (.bool true), (.bool true), (.str ⟨⟨[]⟩⟩ 244)] 1), #[]⟩
noncomputable def sZo_20 (P : Params) : Obj := ⟨(.type "list"), none, (.seq #[] 0), #[]⟩
noncomputable def sZo_21 (P : Params) : Obj := ⟨(.type PySem.W.SL.s14018661285674007319x4), none, (.dict #[⟨(PyData.keyHash P ⟨⟨[110,97,109,101]⟩⟩), (.str ⟨⟨[110,97,109,101]⟩⟩ 210), (.str ⟨⟨[95,99,111,108,108,101,99,116,105,111,110,115]⟩⟩ 209)⟩, ⟨(PyData.keyHash P ⟨⟨[108,111,97,100,101,114]⟩⟩), (.str ⟨⟨[108,111,97,100,101,114]⟩⟩ 211), (.ref 15)⟩, ⟨(PyData.keyHash P ⟨⟨[111,114,105,103,105,110]⟩⟩), (.str ⟨⟨[111,114,105,103,105,110]⟩⟩ 212), (.str ⟨⟨[98,117,105,108,116,45,105,110]⟩⟩ 186)⟩, ⟨(PyData.keyHash P ⟨⟨[108,111,97,100,101,114,95,115,116,97,116,101]⟩⟩), (.str ⟨⟨[108,111,97,100,101,114,95,115,116,97,116,101]⟩⟩ 213), .none⟩, ⟨(PyData.keyHash P ⟨⟨[115,117,98,109,111,100,117,108,101,95,115,101,97,114,99,104,95,108,111,99,97,116,105,111,110,115]⟩⟩), (.str ⟨⟨[115,117,98,109,111,100,117,108,101,95,115,101,97,114,99,104,95,108,111,99,97,116,105,111,110,115]⟩⟩ 214), .none⟩, ⟨(PyData.keyHash P ⟨⟨[95,117,110,105,110,105,116,105,97,108,105,122,101,100,95,115,117,98,109,111,100,117,108,101,115]⟩⟩), (.str ⟨⟨[95,117,110,105,110,105,116,105,97,108,105,122,101,100,95,115,117,98,109,111,100,117,108,101,115]⟩⟩ 215), (.ref 20)⟩, ⟨(PyData.keyHash P ⟨⟨[95,115,101,116,95,102,105,108,101,97,116,116,114]⟩⟩), (.str ⟨⟨[95,115,101,116,95,102,105,108,101,97,116,116,114]⟩⟩ 216), (.bool false)⟩, ⟨(PyData.keyHash P ⟨⟨[95,99,97,99,104,101,100]⟩⟩), (.str ⟨⟨[95,99,97,99,104,101,100]⟩⟩ 217), .none⟩, ⟨(PyData.keyHash P ⟨⟨[95,105,110,105,116,105,97,108,105,122,105,110,103]⟩⟩), (.str ⟨⟨[95,105,110,105,116,105,97,108,105,122,105,110,103]⟩⟩ 245), (.bool false)⟩] 9), #[]⟩
noncomputable def sZo_22 (P : Params) : Obj := ⟨(.type PySem.W.SL.s14018661285674007319x4), none, (.dict #[⟨(PyData.keyHash P ⟨⟨[95,95,109,111,100,117,108,101,95,95]⟩⟩), (.str ⟨⟨[95,95,109,111,100,117,108,101,95,95]⟩⟩ 229), (.str ⟨⟨[95,102,114,111,122,101,110,95,105,109,112,111,114,116,108,105,98]⟩⟩ 219)⟩, ⟨(PyData.keyHash P ⟨⟨[95,95,102,105,114,115,116,108,105,110,101,110,111,95,95]⟩⟩), (.str ⟨⟨[95,95,102,105,114,115,116,108,105,110,101,110,111,95,95]⟩⟩ 230), (.int 562 220)⟩, ⟨(PyData.keyHash P ⟨⟨[95,95,100,111,99,95,95]⟩⟩), (.str ⟨⟨[95,95,100,111,99,95,95]⟩⟩ 231), (.builtin "_frozen_importlib.ModuleSpec.__doc__:str#opaque")⟩, ⟨(PyData.keyHash P ⟨⟨[95,95,105,110,105,116,95,95]⟩⟩), (.str ⟨⟨[95,95,105,110,105,116,95,95]⟩⟩ 232), (.builtin "_frozen_importlib.ModuleSpec.__init__#opaque")⟩, ⟨(PyData.keyHash P ⟨⟨[95,95,114,101,112,114,95,95]⟩⟩), (.str ⟨⟨[95,95,114,101,112,114,95,95]⟩⟩ 233), (.builtin "_frozen_importlib.ModuleSpec.__repr__#opaque")⟩, ⟨(PyData.keyHash P ⟨⟨[95,95,101,113,95,95]⟩⟩), (.str ⟨⟨[95,95,101,113,95,95]⟩⟩ 234), (.builtin "_frozen_importlib.ModuleSpec.__eq__#opaque")⟩, ⟨(PyData.keyHash P ⟨⟨[99,97,99,104,101,100]⟩⟩), (.str ⟨⟨[99,97,99,104,101,100]⟩⟩ 235), (.builtin "_frozen_importlib.ModuleSpec.cached#opaque")⟩, ⟨(PyData.keyHash P ⟨⟨[112,97,114,101,110,116]⟩⟩), (.str ⟨⟨[112,97,114,101,110,116]⟩⟩ 236), (.builtin "_frozen_importlib.ModuleSpec.parent#opaque")⟩, ⟨(PyData.keyHash P ⟨⟨[104,97,115,95,108,111,99,97,116,105,111,110]⟩⟩), (.str ⟨⟨[104,97,115,95,108,111,99,97,116,105,111,110]⟩⟩ 237), (.builtin "_frozen_importlib.ModuleSpec.has_location#opaque")⟩, ⟨(PyData.keyHash P ⟨⟨[95,95,115,116,97,116,105,99,95,97,116,116,114,105,98,117,116,101,115,95,95]⟩⟩), (.str ⟨⟨[95,95,115,116,97,116,105,99,95,97,116,116,114,105,98,117,116,101,115,95,95]⟩⟩ 238), (.ref 24)⟩, ⟨(PyData.keyHash P ⟨⟨[95,95,100,105,99,116,95,95]⟩⟩), (.str ⟨⟨[95,95,100,105,99,116,95,95]⟩⟩ 240), (.ref 25)⟩, ⟨(PyData.keyHash P ⟨⟨[95,95,119,101,97,107,114,101,102,95,95]⟩⟩), (.str ⟨⟨[95,95,119,101,97,107,114,101,102,95,95]⟩⟩ 242), (.ref 26)⟩, ⟨(PyData.keyHash P ⟨⟨[95,95,104,97,115,104,95,95]⟩⟩), (.str ⟨⟨[95,95,104,97,115,104,95,95]⟩⟩ 243), .none⟩] 13), #[]⟩
noncomputable def sZo_23 (P : Params) : Obj := ⟨(.type PySem.W.SL.s17162191345867700912x4), none, (.cls ⟨⟨⟨[77,111,100,117,108,101,83,112,101,99]⟩⟩, [(.type PySem.W.SL.s2742458400755230247x6)], [(.ref 23), (.type PySem.W.SL.s2742458400755230247x6)], 22, ⟨⟨[77,111,100,117,108,101,83,112,101,99]⟩⟩, true, [], [], false, none, false⟩), #[]⟩
noncomputable def sZo_24 (P : Params) : Obj := ⟨(.type PySem.W.SL.s2766695959194262286x5), none, (.seq #[(.str ⟨⟨[95,99,97,99,104,101,100]⟩⟩ 221), (.str ⟨⟨[95,115,101,116,95,102,105,108,101,97,116,116,114]⟩⟩ 222), (.str ⟨⟨[95,117,110,105,110,105,116,105,97,108,105,122,101,100,95,115,117,98,109,111,100,117,108,101,115]⟩⟩ 223), (.str ⟨⟨[108,111,97,100,101,114]⟩⟩ 224), (.str ⟨⟨[108,111,97,100,101,114,95,115,116,97,116,101]⟩⟩ 225), (.str ⟨⟨[110,97,109,101]⟩⟩ 226), (.str ⟨⟨[111,114,105,103,105,110]⟩⟩ 227), (.str ⟨⟨[115,117,98,109,111,100,117,108,101,95,115,101,97,114,99,104,95,108,111,99,97,116,105,111,110,115]⟩⟩ 228)] 0), #[]⟩
noncomputable def sZo_25 (P : Params) : Obj := ⟨(.type PySem.W.SL.s14755015743595814543x17), none, (.fields #[(.str ⟨⟨[95,95,100,105,99,116,95,95]⟩⟩ 239), (.ref 23), (.builtin PySem.W.SL.s6511155373996960695x17), (.builtin PySem.W.SL.s12411053484034534018x21)]), #[]⟩
noncomputable def sZo_26 (P : Params) : Obj := ⟨(.type PySem.W.SL.s14755015743595814543x17), none, (.fields #[(.str ⟨⟨[95,95,119,101,97,107,114,101,102,95,95]⟩⟩ 241), (.ref 23), (.builtin PySem.W.SL.s10220274742760427390x26), .none]), #[]⟩
noncomputable def sZo_27 (P : Params) : Obj := ⟨(.ref 23), (some 21), .plain, #[]⟩
noncomputable def sZo_28 (P : Params) : Obj := ⟨.none, none, (.seq #[(.int 12 0), (.str ⟨⟨[6,250,8,95,95,110,97,109,101,95,95,6,249,12,95,99,111,108,108,101,99,116,105,111,110,115,6,251,7,95,95,100,111,99,95,95,9,31,95,99,111,108,108,101,99,116,105,111,110,115,46,95,95,100,111,99,95,95,58,115,116,114,35,111,112,97,113,117,101,6,253,11,95,95,112,97,99,107,97,103,101,95,95,6,252,0,6,254,10,95,95,108,111,97,100,101,114,95,95,4,0,0,15,6,255,8,95,95,115,112,101,99,95,95,4,0,0,27,6,256,15,95,99,111,117,110,116,95,101,108,101,109,101,110,116,115,9,28,95,99,111,108,108,101,99,116,105,111,110,115,46,95,99,111,117,110,116,95,101,108,101,109,101,110,116,115,6,257,5,100,101,113,117,101,8,17,99,111,108,108,101,99,116,105,111,110,115,46,100,101,113,117,101,6,258,11,100,101,102,97,117,108,116,100,105,99,116,8,23,99,111,108,108,101,99,116,105,111,110,115,46,100,101,102,97,117,108,116,100,105,99,116,6,259,15,95,100,101,113,117,101,95,105,116,101,114,97,116,111,114,8,27,99,111,108,108,101,99,116,105,111,110,115,46,95,100,101,113,117,101,95,105,116,101,114,97,116,111,114,6,260,23,95,100,101,113,117,101,95,114,101,118,101,114,115,101,95,105,116,101,114,97,116,111,114,8,35,99,111,108,108,101,99,116,105,111,110,115,46,95,100,101,113,117,101,95,114,101,118,101,114,115,101,95,105,116,101,114,97,116,111,114,6,261,12,95,116,117,112,108,101,103,101,116,116,101,114,8,24,99,111,108,108,101,99,116,105,111,110,115,46,95,116,117,112,108,101,103,101,116,116,101,114,6,262,11,79,114,100,101,114,101,100,68,105,99,116,8,23,99,111,108,108,101,99,116,105,111,110,115,46,79,114,100,101,114,101,100,68,105,99,116]⟩⟩ 0), (.bool true), (.bool false), (.str ⟨⟨[95,99,111,108,108,101,99,116,105,111,110,115]⟩⟩ 264)] 0), #[]⟩
noncomputable def sZo_29 (P : Params) : Obj := ⟨(.type PySem.W.SL.s2766695959194262286x5), none, (.seq #[] 0), #[]⟩
noncomputable def sZo_30 (P : Params) : Obj := ⟨.none, none, (.fields #[(.int 2 0), (.int 0 0), (.ref 38), (.int 6 0), (.int 0 0), (.ref 45)]), #[]⟩
noncomputable def sZo_31 (P : Params) : Obj := ⟨(.type PySem.W.SL.s5856160107412720595x4), none, (.fields #[(.str ⟨⟨[60,109,111,100,117,108,101,62]⟩⟩ 274), (.str ⟨⟨[60,109,111,100,117,108,101,62]⟩⟩ 275), (.str ⟨⟨[47,99,108,97,105,109,47,99,117,116,46,112,121]⟩⟩ 276), (.int 1 0), (.int 0 0), (.int 0 0), (.int 0 0), (.int 0 0), (.ref 29), (.bool false), (.int 273 0), (.ref 30), .none, .none, .none, .none, (.int 277 0), (.int 1 0), (.str ⟨⟨[47,99,108,97,105,109,47,99,117,116,46,112,121]⟩⟩ 278)]), #[]⟩
noncomputable def sZo_32 (P : Params) : Obj := ⟨(.type "frame"), none, .plain, #[(some (.ref 31)), (some (.ref 3)), (some (.ref 3)), none, (some (.str ⟨⟨[95,95,109,97,105,110,95,95]⟩⟩ 164)), none, (some (.ref 0))]⟩
noncomputable def sZo_34 (P : Params) : Obj := ⟨.none, none, (.fields #[]), #[]⟩
noncomputable def sZo_37 (p : Program) (_ : Params) : Obj := fnO p [1] fun n a b c => ⟨.none, none, .func ⟨n, ⟨⟨[95,119,97,108,108]⟩⟩, a, .stmts b, c, 0, [], .none, .none, .none, .none, none, .none, .none, 0⟩, #[]⟩
noncomputable def sZo_40 (P : Params) : Obj := ⟨(.type PySem.W.SL.s2766695959194262286x5), none, (.seq #[] 0), #[]⟩
noncomputable def sZo_41 (P : Params) : Obj := ⟨(.type "builtin_function_or_method"), none, (.fields #[(.builtin "type.__prepare__"), (.type PySem.W.SL.s17162191345867700912x4)]), #[]⟩
noncomputable def sZo_42 (P : Params) : Obj := ⟨(.type PySem.W.SL.s14018661285674007319x4), none, (.dict #[⟨(PyData.keyHash P ⟨⟨[95,95,109,111,100,117,108,101,95,95]⟩⟩), (.str ⟨⟨[95,95,109,111,100,117,108,101,95,95]⟩⟩ 295), (.str ⟨⟨[99,112,121,51,49,51,46,112,115,116,97,116,115]⟩⟩ 286)⟩, ⟨(PyData.keyHash P ⟨⟨[95,95,113,117,97,108,110,97,109,101,95,95]⟩⟩), (.str ⟨⟨[95,95,113,117,97,108,110,97,109,101,95,95]⟩⟩ 297), (.str ⟨⟨[84,117,112,108,101,67,111,109,112]⟩⟩ 296)⟩, ⟨(PyData.keyHash P ⟨⟨[95,95,102,105,114,115,116,108,105,110,101,110,111,95,95]⟩⟩), (.str ⟨⟨[95,95,102,105,114,115,116,108,105,110,101,110,111,95,95]⟩⟩ 299), (.int 6 298)⟩, ⟨(PyData.keyHash P ⟨⟨[95,95,100,111,99,95,95]⟩⟩), (.str ⟨⟨[95,95,100,111,99,95,95]⟩⟩ 301), (.str ⟨⟨[84,104,105,115,32,99,108,97,115,115,32,112,114,111,118,105,100,101,115,32,97,32,103,101,110,101,114,105,99,32,102,117,110,99,116,105,111,110,32,102,111,114,32,99,111,109,112,97,114,105,110,103,32,97,110,121,32,116,119,111,32,116,117,112,108,101,115,46,10,69,97,99,104,32,105,110,115,116,97,110,99,101,32,114,101,99,111,114,100,115,32,97,32,108,105,115,116,32,111,102,32,116,117,112,108,101,45,105,110,100,105,99,101,115,32,40,102,114,111,109,32,109,111,115,116,32,115,105,103,110,105,102,105,99,97,110,116,10,116,111,32,108,101,97,115,116,32,115,105,103,110,105,102,105,99,97,110,116,41,44,32,97,110,100,32,115,111,114,116,32,100,105,114,101,99,116,105,111,110,32,40,97,115,99,101,110,100,105,110,103,32,111,114,32,100,101,115,99,101,110,100,105,110,103,41,32,102,111,114,10,101,97,99,104,32,116,117,112,108,101,45,105,110,100,101,120,46,32,32,84,104,101,32,99,111,109,112,97,114,101,32,102,117,110,99,116,105,111,110,115,32,99,97,110,32,116,104,101,110,32,98,101,32,117,115,101,100,32,97,115,32,116,104,101,32,102,117,110,99,116,105,111,110,10,97,114,103,117,109,101,110,116,32,116,111,32,116,104,101,32,115,121,115,116,101,109,32,115,111,114,116,40,41,32,102,117,110,99,116,105,111,110,32,119,104,101,110,32,97,32,108,105,115,116,32,111,102,32,116,117,112,108,101,115,32,110,101,101,100,32,116,111,32,98,101,10,115,111,114,116,101,100,32,105,110,32,116,104,101,32,105,110,115,116,97,110,99,101,115,32,111,114,100,101,114,46]⟩⟩ 300)⟩, ⟨(PyData.keyHash P ⟨⟨[95,95,105,110,105,116,95,95]⟩⟩), (.str ⟨⟨[95,95,105,110,105,116,95,95]⟩⟩ 310), (.ref 53)⟩, ⟨(PyData.keyHash P ⟨⟨[99,111,109,112,97,114,101]⟩⟩), (.str ⟨⟨[99,111,109,112,97,114,101]⟩⟩ 323), (.ref 60)⟩, ⟨(PyData.keyHash P ⟨⟨[95,95,115,116,97,116,105,99,95,97,116,116,114,105,98,117,116,101,115,95,95]⟩⟩), (.str ⟨⟨[95,95,115,116,97,116,105,99,95,97,116,116,114,105,98,117,116,101,115,95,95]⟩⟩ 325), (.ref 61)⟩] 7), #[]⟩
noncomputable def sZo_43 (P : Params) : Obj := ⟨(.type PySem.W.SL.s2766695959194262286x5), none, (.seq #[] 0), #[]⟩
noncomputable def sZo_44 (P : Params) : Obj := ⟨.none, none, (.fields #[(.int 14 0), (.int 4 0), (.ref 52), (.int 17 0), (.int 4 0), (.ref 59)]), #[]⟩
noncomputable def sZo_45 (P : Params) : Obj := ⟨(.type PySem.W.SL.s5856160107412720595x4), none, (.fields #[(.str ⟨⟨[84,117,112,108,101,67,111,109,112]⟩⟩ 290), (.str ⟨⟨[84,117,112,108,101,67,111,109,112]⟩⟩ 291), (.str ⟨⟨[47,99,108,97,105,109,47,99,117,116,46,112,121]⟩⟩ 292), (.int 6 0), (.int 0 0), (.int 0 0), (.int 0 0), (.int 0 0), (.ref 43), (.bool false), (.int 273 0), (.ref 44), .none, .none, .none, .none, (.int 293 0), (.int 6 0), (.str ⟨⟨[47,99,108,97,105,109,47,99,117,116,46,112,121]⟩⟩ 294)]), #[]⟩
noncomputable def sZo_46 (P : Params) : Obj := ⟨(.type "frame"), none, .plain, #[(some (.ref 45)), (some (.ref 3)), (some (.ref 42)), none, (some (.str ⟨⟨[99,112,121,51,49,51,46,112,115,116,97,116,115]⟩⟩ 286)), none, (some (.ref 0))]⟩
noncomputable def sZo_48 (P : Params) : Obj := ⟨.none, none, (.fields #[]), #[]⟩
noncomputable def sZo_51 (p : Program) (_ : Params) : Obj := fnO p [3, 1] fun n a b c => ⟨.none, none, .func ⟨n, ⟨⟨[84,117,112,108,101,67,111,109,112,46,95,95,105,110,105,116,95,95]⟩⟩, a, .stmts b, c, 0, [], .none, .none, .none, .none, none, .none, .none, 0⟩, #[]⟩
noncomputable def sZo_55 (P : Params) : Obj := ⟨.none, none, (.fields #[]), #[]⟩
noncomputable def sZo_58 (p : Program) (_ : Params) : Obj := fnO p [3, 2] fun n a b c => ⟨.none, none, .func ⟨n, ⟨⟨[84,117,112,108,101,67,111,109,112,46,99,111,109,112,97,114,101]⟩⟩, a, .stmts b, c, 0, [], .none, .none, .none, .none, none, .none, .none, 0⟩, #[]⟩
noncomputable def sZo_66 (P : Params) : Obj := ⟨(.type "super"), none, (.fields #[(.ref 63), (.ref 63), (.ref 63)]), #[]⟩
noncomputable def sZo_67 (P : Params) : Obj := ⟨(.type "builtin_function_or_method"), none, (.fields #[(.builtin "object.__init_subclass__"), (.ref 63)]), #[]⟩
noncomputable def treeZ (p : Program) (P : Params) : BT := (.node (sZo_0 P) (.node (sZo_1 P) (.node (sZo_3 P) (.node (sZo_7 P) (.node (sZo_15 P) (.node (sZo_31 P) (.node (ko_63 P) .nil .nil) .nil) (.node (ko_47 P) .nil .nil)) (.node (sZo_23 P) (.node (ko_39 p P) .nil .nil) (.node (sZo_55 P) .nil .nil))) (.node (sZo_11 P) (.node (sZo_19 P) (.node (ko_35 P) (.node (sZo_67 P) .nil .nil) .nil) (.node (sZo_51 p P) .nil .nil)) (.node (sZo_27 P) (.node (sZo_43 P) .nil .nil) (.node (ko_59 P) .nil .nil)))) (.node (sZo_5 P) (.node (sZo_9 P) (.node (sZo_17 P) (.node (ko_33 P) (.node (ko_65 P) .nil .nil) .nil) (.node (ko_49 P) .nil .nil)) (.node (sZo_25 P) (.node (sZo_41 P) .nil .nil) (.node (ko_57 P) .nil .nil))) (.node (sZo_13 P) (.node (sZo_21 P) (.node (sZo_37 p P) .nil .nil) (.node (ko_53 p P) .nil .nil)) (.node (sZo_29 P) (.node (sZo_45 P) .nil .nil) (.node (ko_61 P) .nil .nil))))) (.node (sZo_2 P) (.node (sZo_4 P) (.node (sZo_8 P) (.node (sZo_16 P) (.node (sZo_32 P) (.node (ko_64 P) .nil .nil) .nil) (.node (sZo_48 P) .nil .nil)) (.node (sZo_24 P) (.node (sZo_40 P) .nil .nil) (.node (ko_56 P) .nil .nil))) (.node (sZo_12 P) (.node (sZo_20 P) (.node (ko_36 P) .nil .nil) (.node (ko_52 P) .nil .nil)) (.node (sZo_28 P) (.node (sZo_44 P) .nil .nil) (.node (ko_60 p P) .nil .nil)))) (.node (sZo_6 P) (.node (sZo_10 P) (.node (sZo_18 P) (.node (sZo_34 P) (.node (sZo_66 P) .nil .nil) .nil) (.node (ko_50 P) .nil .nil)) (.node (sZo_26 P) (.node (sZo_42 P) .nil .nil) (.node (sZo_58 p P) .nil .nil))) (.node (sZo_14 P) (.node (sZo_22 P) (.node (ko_38 P) .nil .nil) (.node (ko_54 P) .nil .nil)) (.node (sZo_30 P) (.node (sZo_46 P) .nil .nil) (.node (ko_62 P) .nil .nil))))))
noncomputable def sAo_3 (P : Params) : Obj := ⟨(.type PySem.W.SL.s14018661285674007319x4), none, (.dict #[⟨(PyData.keyHash P ⟨⟨[95,95,110,97,109,101,95,95]⟩⟩), (.str ⟨⟨[95,95,110,97,109,101,95,95]⟩⟩ 165), (.str ⟨⟨[99,112,121,51,49,51,46,105,109,112,111,114,116,108,105,98,46,109,101,116,97,100,97,116,97,46,95,99,111,108,108,101,99,116,105,111,110,115]⟩⟩ 332)⟩, ⟨(PyData.keyHash P ⟨⟨[95,95,100,111,99,95,95]⟩⟩), (.str ⟨⟨[95,95,100,111,99,95,95]⟩⟩ 166), .none⟩, ⟨(PyData.keyHash P ⟨⟨[95,95,112,97,99,107,97,103,101,95,95]⟩⟩), (.str ⟨⟨[95,95,112,97,99,107,97,103,101,95,95]⟩⟩ 167), .none⟩, ⟨(PyData.keyHash P ⟨⟨[95,95,108,111,97,100,101,114,95,95]⟩⟩), (.str ⟨⟨[95,95,108,111,97,100,101,114,95,95]⟩⟩ 168), (.builtin PySem.W.SL.s7097527257260152453x26)⟩, ⟨(PyData.keyHash P ⟨⟨[95,95,115,112,101,99,95,95]⟩⟩), (.str ⟨⟨[95,95,115,112,101,99,95,95]⟩⟩ 169), .none⟩, ⟨(PyData.keyHash P ⟨⟨[95,95,97,110,110,111,116,97,116,105,111,110,115,95,95]⟩⟩), (.str ⟨⟨[95,95,97,110,110,111,116,97,116,105,111,110,115,95,95]⟩⟩ 170), (.ref 6)⟩, ⟨(PyData.keyHash P ⟨⟨[95,95,98,117,105,108,116,105,110,115,95,95]⟩⟩), (.str ⟨⟨[95,95,98,117,105,108,116,105,110,115,95,95]⟩⟩ 171), (.ref 4)⟩, ⟨(PyData.keyHash P ⟨⟨[95,95,102,105,108,101,95,95]⟩⟩), (.str ⟨⟨[95,95,102,105,108,101,95,95]⟩⟩ 173), (.str ⟨⟨[47,99,108,97,105,109,47,99,117,116,46,112,121]⟩⟩ 172)⟩, ⟨(PyData.keyHash P ⟨⟨[95,95,99,97,99,104,101,100,95,95]⟩⟩), (.str ⟨⟨[95,95,99,97,99,104,101,100,95,95]⟩⟩ 174), .none⟩, ⟨(PyData.keyHash P ⟨⟨[100,101,102,97,117,108,116,100,105,99,116]⟩⟩), (.str ⟨⟨[100,101,102,97,117,108,116,100,105,99,116]⟩⟩ 272), (.type PySem.W.SL.s9278979716766391425x23)⟩, ⟨(PyData.keyHash P ⟨⟨[95,119,97,108,108]⟩⟩), (.str ⟨⟨[95,119,97,108,108]⟩⟩ 285), (.ref 39)⟩, ⟨(PyData.keyHash P ⟨⟨[84,117,112,108,101,67,111,109,112]⟩⟩), (.str ⟨⟨[84,117,112,108,101,67,111,109,112]⟩⟩ 331), (.ref 63)⟩, ⟨(PyData.keyHash P ⟨⟨[95,116,117,112,108,101,103,101,116,116,101,114]⟩⟩), (.str ⟨⟨[95,116,117,112,108,101,103,101,116,116,101,114]⟩⟩ 390), (.ref 106)⟩, ⟨(PyData.keyHash P ⟨⟨[70,114,101,101,122,97,98,108,101,68,101,102,97,117,108,116,68,105,99,116]⟩⟩), (.str ⟨⟨[70,114,101,101,122,97,98,108,101,68,101,102,97,117,108,116,68,105,99,116]⟩⟩ 433), (.ref 136)⟩] 14), #[]⟩
noncomputable def sAo_30 (P : Params) : Obj := ⟨.none, none, (.fields #[(.int 2 0), (.int 0 0), (.ref 38), (.int 6 0), (.int 0 0), (.ref 45), (.int 27 0), (.int 0 0), (.ref 73), (.int 45 0), (.int 0 0), (.ref 117)]), #[]⟩
noncomputable def sAo_68 (P : Params) : Obj := ⟨(.type PySem.W.SL.s2766695959194262286x5), none, (.seq #[] 0), #[]⟩
noncomputable def sAo_69 (P : Params) : Obj := ⟨(.type "builtin_function_or_method"), none, (.fields #[(.builtin "type.__prepare__"), (.type PySem.W.SL.s17162191345867700912x4)]), #[]⟩
noncomputable def sAo_70 (P : Params) : Obj := ⟨(.type PySem.W.SL.s14018661285674007319x4), none, (.dict #[⟨(PyData.keyHash P ⟨⟨[95,95,109,111,100,117,108,101,95,95]⟩⟩), (.str ⟨⟨[95,95,109,111,100,117,108,101,95,95]⟩⟩ 341), (.str ⟨⟨[99,112,121,51,49,51,46,105,109,112,111,114,116,108,105,98,46,109,101,116,97,100,97,116,97,46,95,99,111,108,108,101,99,116,105,111,110,115]⟩⟩ 332)⟩, ⟨(PyData.keyHash P ⟨⟨[95,95,113,117,97,108,110,97,109,101,95,95]⟩⟩), (.str ⟨⟨[95,95,113,117,97,108,110,97,109,101,95,95]⟩⟩ 343), (.str ⟨⟨[95,116,117,112,108,101,103,101,116,116,101,114]⟩⟩ 342)⟩, ⟨(PyData.keyHash P ⟨⟨[95,95,102,105,114,115,116,108,105,110,101,110,111,95,95]⟩⟩), (.str ⟨⟨[95,95,102,105,114,115,116,108,105,110,101,110,111,95,95]⟩⟩ 345), (.int 27 344)⟩, ⟨(PyData.keyHash P ⟨⟨[95,95,105,110,105,116,95,95]⟩⟩), (.str ⟨⟨[95,95,105,110,105,116,95,95]⟩⟩ 354), (.ref 81)⟩, ⟨(PyData.keyHash P ⟨⟨[95,95,103,101,116,95,95]⟩⟩), (.str ⟨⟨[95,95,103,101,116,95,95]⟩⟩ 363), (.ref 89)⟩, ⟨(PyData.keyHash P ⟨⟨[95,95,115,101,116,95,95]⟩⟩), (.str ⟨⟨[95,95,115,101,116,95,95]⟩⟩ 372), (.ref 96)⟩, ⟨(PyData.keyHash P ⟨⟨[95,95,100,101,108,101,116,101,95,95]⟩⟩), (.str ⟨⟨[95,95,100,101,108,101,116,101,95,95]⟩⟩ 380), (.ref 103)⟩, ⟨(PyData.keyHash P ⟨⟨[95,95,115,116,97,116,105,99,95,97,116,116,114,105,98,117,116,101,115,95,95]⟩⟩), (.str ⟨⟨[95,95,115,116,97,116,105,99,95,97,116,116,114,105,98,117,116,101,115,95,95]⟩⟩ 383), (.ref 104)⟩] 8), #[]⟩
noncomputable def sAo_71 (P : Params) : Obj := ⟨(.type PySem.W.SL.s2766695959194262286x5), none, (.seq #[] 0), #[]⟩
noncomputable def sAo_72 (P : Params) : Obj := ⟨.none, none, (.fields #[(.int 29 0), (.int 4 0), (.ref 80), (.int 33 0), (.int 4 0), (.ref 88), (.int 40 0), (.int 4 0), (.ref 95), (.int 43 0), (.int 4 0), (.ref 102)]), #[]⟩
noncomputable def sAo_73 (P : Params) : Obj := ⟨(.type PySem.W.SL.s5856160107412720595x4), none, (.fields #[(.str ⟨⟨[95,116,117,112,108,101,103,101,116,116,101,114]⟩⟩ 336), (.str ⟨⟨[95,116,117,112,108,101,103,101,116,116,101,114]⟩⟩ 337), (.str ⟨⟨[47,99,108,97,105,109,47,99,117,116,46,112,121]⟩⟩ 338), (.int 27 0), (.int 0 0), (.int 0 0), (.int 0 0), (.int 0 0), (.ref 71), (.bool false), (.int 273 0), (.ref 72), .none, .none, .none, .none, (.int 339 0), (.int 27 0), (.str ⟨⟨[47,99,108,97,105,109,47,99,117,116,46,112,121]⟩⟩ 340)]), #[]⟩
noncomputable def sAo_74 (P : Params) : Obj := ⟨(.type "frame"), none, .plain, #[(some (.ref 73)), (some (.ref 3)), (some (.ref 70)), none, (some (.str ⟨⟨[99,112,121,51,49,51,46,105,109,112,111,114,116,108,105,98,46,109,101,116,97,100,97,116,97,46,95,99,111,108,108,101,99,116,105,111,110,115]⟩⟩ 332)), none, (some (.ref 0))]⟩
noncomputable def sAo_76 (P : Params) : Obj := ⟨.none, none, (.fields #[]), #[]⟩
noncomputable def sAo_79 (p : Program) (_ : Params) : Obj := fnO p [5, 0] fun n a b c => ⟨.none, none, .func ⟨n, ⟨⟨[95,116,117,112,108,101,103,101,116,116,101,114,46,95,95,105,110,105,116,95,95]⟩⟩, a, .stmts b, c, 0, [], .none, .none, .none, .none, none, .none, .none, 0⟩, #[]⟩
noncomputable def sAo_84 (P : Params) : Obj := ⟨.none, none, (.fields #[]), #[]⟩
noncomputable def sAo_87 (p : Program) (_ : Params) : Obj := fnO p [5, 1] fun n a b c => ⟨.none, none, .func ⟨n, ⟨⟨[95,116,117,112,108,101,103,101,116,116,101,114,46,95,95,103,101,116,95,95]⟩⟩, a, .stmts b, c, 0, [], .none, .none, .none, .none, none, .none, .none, 0⟩, #[]⟩
noncomputable def sAo_91 (P : Params) : Obj := ⟨.none, none, (.fields #[]), #[]⟩
noncomputable def sAo_94 (p : Program) (_ : Params) : Obj := fnO p [5, 2] fun n a b c => ⟨.none, none, .func ⟨n, ⟨⟨[95,116,117,112,108,101,103,101,116,116,101,114,46,95,95,115,101,116,95,95]⟩⟩, a, .stmts b, c, 0, [], .none, .none, .none, .none, none, .none, .none, 0⟩, #[]⟩
noncomputable def sAo_98 (P : Params) : Obj := ⟨.none, none, (.fields #[]), #[]⟩
noncomputable def sAo_101 (p : Program) (_ : Params) : Obj := fnO p [5, 3] fun n a b c => ⟨.none, none, .func ⟨n, ⟨⟨[95,116,117,112,108,101,103,101,116,116,101,114,46,95,95,100,101,108,101,116,101,95,95]⟩⟩, a, .stmts b, c, 0, [], .none, .none, .none, .none, none, .none, .none, 0⟩, #[]⟩
noncomputable def sAo_109 (P : Params) : Obj := ⟨(.type "super"), none, (.fields #[(.ref 106), (.ref 106), (.ref 106)]), #[]⟩
noncomputable def sAo_110 (P : Params) : Obj := ⟨(.type "builtin_function_or_method"), none, (.fields #[(.builtin "object.__init_subclass__"), (.ref 106)]), #[]⟩
noncomputable def sAo_112 (P : Params) : Obj := ⟨(.type "builtin_function_or_method"), none, (.fields #[(.builtin "type.__prepare__"), (.type PySem.W.SL.s17162191345867700912x4)]), #[]⟩
noncomputable def sAo_113 (P : Params) : Obj := ⟨(.type PySem.W.SL.s14018661285674007319x4), none, (.dict #[⟨(PyData.keyHash P ⟨⟨[95,95,109,111,100,117,108,101,95,95]⟩⟩), (.str ⟨⟨[95,95,109,111,100,117,108,101,95,95]⟩⟩ 398), (.str ⟨⟨[99,112,121,51,49,51,46,105,109,112,111,114,116,108,105,98,46,109,101,116,97,100,97,116,97,46,95,99,111,108,108,101,99,116,105,111,110,115]⟩⟩ 332)⟩, ⟨(PyData.keyHash P ⟨⟨[95,95,113,117,97,108,110,97,109,101,95,95]⟩⟩), (.str ⟨⟨[95,95,113,117,97,108,110,97,109,101,95,95]⟩⟩ 400), (.str ⟨⟨[70,114,101,101,122,97,98,108,101,68,101,102,97,117,108,116,68,105,99,116]⟩⟩ 399)⟩, ⟨(PyData.keyHash P ⟨⟨[95,95,102,105,114,115,116,108,105,110,101,110,111,95,95]⟩⟩), (.str ⟨⟨[95,95,102,105,114,115,116,108,105,110,101,110,111,95,95]⟩⟩ 402), (.int 45 401)⟩, ⟨(PyData.keyHash P ⟨⟨[95,95,100,111,99,95,95]⟩⟩), (.str ⟨⟨[95,95,100,111,99,95,95]⟩⟩ 404), (.str ⟨⟨[10,79,102,116,101,110,32,105,116,32,105,115,32,100,101,115,105,114,97,98,108,101,32,116,111,32,112,114,101,118,101,110,116,32,116,104,101,32,109,117,116,97,116,105,111,110,32,111,102,10,97,32,100,101,102,97,117,108,116,32,100,105,99,116,32,97,102,116,101,114,32,105,116,115,32,105,110,105,116,105,97,108,32,99,111,110,115,116,114,117,99,116,105,111,110,44,32,115,117,99,104,10,97,115,32,116,111,32,112,114,101,118,101,110,116,32,109,117,116,97,116,105,111,110,32,100,117,114,105,110,103,32,105,116,101,114,97,116,105,111,110,46,10,10,62,62,62,32,100,100,32,61,32,70,114,101,101,122,97,98,108,101,68,101,102,97,117,108,116,68,105,99,116,40,108,105,115,116,41,10,62,62,62,32,100,100,91,48,93,46,97,112,112,101,110,100,40,39,49,39,41,10,62,62,62,32,100,100,46,102,114,101,101,122,101,40,41,10,62,62,62,32,100,100,91,49,93,10,91,93,10,62,62,62,32,108,101,110,40,100,100,41,10,49,10]⟩⟩ 403)⟩, ⟨(PyData.keyHash P ⟨⟨[95,95,109,105,115,115,105,110,103,95,95]⟩⟩), (.str ⟨⟨[95,95,109,105,115,115,105,110,103,95,95]⟩⟩ 414), (.ref 126)⟩, ⟨(PyData.keyHash P ⟨⟨[102,114,101,101,122,101]⟩⟩), (.str ⟨⟨[102,114,101,101,122,101]⟩⟩ 422), (.ref 133)⟩, ⟨(PyData.keyHash P ⟨⟨[95,95,115,116,97,116,105,99,95,97,116,116,114,105,98,117,116,101,115,95,95]⟩⟩), (.str ⟨⟨[95,95,115,116,97,116,105,99,95,97,116,116,114,105,98,117,116,101,115,95,95]⟩⟩ 424), (.ref 134)⟩, ⟨(PyData.keyHash P ⟨⟨[95,95,99,108,97,115,115,99,101,108,108,95,95]⟩⟩), (.str ⟨⟨[95,95,99,108,97,115,115,99,101,108,108,95,95]⟩⟩ 425), (.ref 114)⟩] 8), #[]⟩
noncomputable def sAo_115 (P : Params) : Obj := ⟨(.type PySem.W.SL.s2766695959194262286x5), none, (.seq #[] 0), #[]⟩
noncomputable def sAo_116 (P : Params) : Obj := ⟨.none, none, (.fields #[(.int 60 0), (.int 4 0), (.ref 125), (.int 63 0), (.int 4 0), (.ref 132)]), #[]⟩
noncomputable def sAo_117 (P : Params) : Obj := ⟨(.type PySem.W.SL.s5856160107412720595x4), none, (.fields #[(.str ⟨⟨[70,114,101,101,122,97,98,108,101,68,101,102,97,117,108,116,68,105,99,116]⟩⟩ 393), (.str ⟨⟨[70,114,101,101,122,97,98,108,101,68,101,102,97,117,108,116,68,105,99,116]⟩⟩ 394), (.str ⟨⟨[47,99,108,97,105,109,47,99,117,116,46,112,121]⟩⟩ 395), (.int 45 0), (.int 0 0), (.int 0 0), (.int 0 0), (.int 0 0), (.ref 115), (.bool false), (.int 273 0), (.ref 116), .none, .none, .none, .none, (.int 396 0), (.int 45 0), (.str ⟨⟨[47,99,108,97,105,109,47,99,117,116,46,112,121]⟩⟩ 397)]), #[]⟩
noncomputable def sAo_118 (P : Params) : Obj := ⟨(.type "frame"), none, .plain, #[(some (.ref 117)), (some (.ref 3)), (some (.ref 113)), none, (some (.str ⟨⟨[99,112,121,51,49,51,46,105,109,112,111,114,116,108,105,98,46,109,101,116,97,100,97,116,97,46,95,99,111,108,108,101,99,116,105,111,110,115]⟩⟩ 332)), none, (some (.ref 0))]⟩
noncomputable def sAo_121 (P : Params) : Obj := ⟨.none, none, (.fields #[]), #[]⟩
noncomputable def sAo_124 (p : Program) (_ : Params) : Obj := fnO p [6, 1] fun n a b c => ⟨.none, none, .func ⟨n, ⟨⟨[70,114,101,101,122,97,98,108,101,68,101,102,97,117,108,116,68,105,99,116,46,95,95,109,105,115,115,105,110,103,95,95]⟩⟩, a, .stmts b, c, 0, [], .none, .none, .none, .none, none, .none, .none, 0⟩, #[]⟩
noncomputable def sAo_128 (P : Params) : Obj := ⟨.none, none, (.fields #[]), #[]⟩
noncomputable def sAo_131 (p : Program) (_ : Params) : Obj := fnO p [6, 2] fun n a b c => ⟨.none, none, .func ⟨n, ⟨⟨[70,114,101,101,122,97,98,108,101,68,101,102,97,117,108,116,68,105,99,116,46,102,114,101,101,122,101]⟩⟩, a, .stmts b, c, 0, [], .none, .none, .none, .none, none, .none, .none, 0⟩, #[]⟩
noncomputable def sAo_139 (P : Params) : Obj := ⟨(.type "super"), none, (.fields #[(.ref 136), (.ref 136), (.ref 136)]), #[]⟩
noncomputable def sAo_140 (P : Params) : Obj := ⟨(.type "builtin_function_or_method"), none, (.fields #[(.builtin "object.__init_subclass__"), (.ref 136)]), #[]⟩
noncomputable def treeA (p : Program) (P : Params) : BT := (.node (sZo_0 P) (.node (sZo_1 P) (.node (sAo_3 P) (.node (sZo_7 P) (.node (sZo_15 P) (.node (sZo_31 P) (.node (ko_63 P) (.node (ko_127 P) .nil .nil) .nil) (.node (ko_95 P) .nil .nil)) (.node (ko_47 P) (.node (sAo_79 p P) .nil .nil) (.node (ko_111 P) .nil .nil))) (.node (sZo_23 P) (.node (ko_39 p P) (.node (sAo_71 P) (.node (ko_135 P) .nil .nil) .nil) (.node (ko_103 p P) .nil .nil)) (.node (sZo_55 P) (.node (sAo_87 p P) .nil .nil) (.node (ko_119 P) .nil .nil)))) (.node (sZo_11 P) (.node (sZo_19 P) (.node (ko_35 P) (.node (sZo_67 P) (.node (sAo_131 p P) .nil .nil) .nil) (.node (ko_99 P) .nil .nil)) (.node (sZo_51 p P) (.node (ko_83 P) .nil .nil) (.node (sAo_115 P) .nil .nil))) (.node (sZo_27 P) (.node (sZo_43 P) (.node (ko_75 P) (.node (sAo_139 P) .nil .nil) .nil) (.node (ko_107 P) .nil .nil)) (.node (ko_59 P) (.node (sAo_91 P) .nil .nil) (.node (ko_123 P) .nil .nil))))) (.node (sZo_5 P) (.node (sZo_9 P) (.node (sZo_17 P) (.node (ko_33 P) (.node (ko_65 P) (.node (ko_129 P) .nil .nil) .nil) (.node (ko_97 P) .nil .nil)) (.node (ko_49 P) (.node (ko_81 p P) .nil .nil) (.node (sAo_113 P) .nil .nil))) (.node (sZo_25 P) (.node (sZo_41 P) (.node (sAo_73 P) (.node (ko_137 P) .nil .nil) .nil) (.node (ko_105 P) .nil .nil)) (.node (ko_57 P) (.node (ko_89 p P) .nil .nil) (.node (sAo_121 P) .nil .nil)))) (.node (sZo_13 P) (.node (sZo_21 P) (.node (sZo_37 p P) (.node (sAo_69 P) (.node (ko_133 p P) .nil .nil) .nil) (.node (sAo_101 p P) .nil .nil)) (.node (ko_53 p P) (.node (ko_85 P) .nil .nil) (.node (sAo_117 P) .nil .nil))) (.node (sZo_29 P) (.node (sZo_45 P) (.node (ko_77 P) .nil .nil) (.node (sAo_109 P) .nil .nil)) (.node (ko_61 P) (.node (ko_93 P) .nil .nil) (.node (ko_125 P) .nil .nil)))))) (.node (ko_2 P) (.node (sZo_4 P) (.node (sZo_8 P) (.node (sZo_16 P) (.node (sZo_32 P) (.node (ko_64 P) (.node (sAo_128 P) .nil .nil) .nil) (.node (ko_96 p P) .nil .nil)) (.node (sZo_48 P) (.node (ko_80 P) .nil .nil) (.node (sAo_112 P) .nil .nil))) (.node (sZo_24 P) (.node (sZo_40 P) (.node (sAo_72 P) (.node (ko_136 P) .nil .nil) .nil) (.node (ko_104 P) .nil .nil)) (.node (ko_56 P) (.node (ko_88 P) .nil .nil) (.node (ko_120 P) .nil .nil)))) (.node (sZo_12 P) (.node (sZo_20 P) (.node (ko_36 P) (.node (sAo_68 P) (.node (ko_132 P) .nil .nil) .nil) (.node (ko_100 P) .nil .nil)) (.node (ko_52 P) (.node (sAo_84 P) .nil .nil) (.node (sAo_116 P) .nil .nil))) (.node (sZo_28 P) (.node (sZo_44 P) (.node (sAo_76 P) (.node (sAo_140 P) .nil .nil) .nil) (.node (ko_108 P) .nil .nil)) (.node (ko_60 p P) (.node (ko_92 P) .nil .nil) (.node (sAo_124 p P) .nil .nil))))) (.node (sZo_6 P) (.node (sZo_10 P) (.node (sZo_18 P) (.node (sZo_34 P) (.node (sZo_66 P) (.node (ko_130 P) .nil .nil) .nil) (.node (sAo_98 P) .nil .nil)) (.node (ko_50 P) (.node (ko_82 P) .nil .nil) (.node (ko_114 P) .nil .nil))) (.node (sZo_26 P) (.node (sZo_42 P) (.node (sAo_74 P) (.node (ko_138 P) .nil .nil) .nil) (.node (ko_106 P) .nil .nil)) (.node (sZo_58 p P) (.node (ko_90 P) .nil .nil) (.node (ko_122 P) .nil .nil)))) (.node (sZo_14 P) (.node (sZo_22 P) (.node (ko_38 P) (.node (sAo_70 P) (.node (ko_134 P) .nil .nil) .nil) (.node (ko_102 P) .nil .nil)) (.node (ko_54 P) (.node (ko_86 P) .nil .nil) (.node (sAo_118 P) .nil .nil))) (.node (sAo_30 P) (.node (sZo_46 P) (.node (ko_78 P) .nil .nil) (.node (sAo_110 P) .nil .nil)) (.node (ko_62 P) (.node (sAo_94 p P) .nil .nil) (.node (ko_126 p P) .nil .nil)))))))
noncomputable def sBo_3 (P : Params) : Obj := ⟨(.type PySem.W.SL.s14018661285674007319x4), none, (.dict #[⟨(PyData.keyHash P ⟨⟨[95,95,110,97,109,101,95,95]⟩⟩), (.str ⟨⟨[95,95,110,97,109,101,95,95]⟩⟩ 165), (.str ⟨⟨[99,112,121,51,49,51,46,105,109,112,111,114,116,108,105,98,46,109,101,116,97,100,97,116,97,46,95,99,111,108,108,101,99,116,105,111,110,115]⟩⟩ 332)⟩, ⟨(PyData.keyHash P ⟨⟨[95,95,100,111,99,95,95]⟩⟩), (.str ⟨⟨[95,95,100,111,99,95,95]⟩⟩ 166), .none⟩, ⟨(PyData.keyHash P ⟨⟨[95,95,112,97,99,107,97,103,101,95,95]⟩⟩), (.str ⟨⟨[95,95,112,97,99,107,97,103,101,95,95]⟩⟩ 167), .none⟩, ⟨(PyData.keyHash P ⟨⟨[95,95,108,111,97,100,101,114,95,95]⟩⟩), (.str ⟨⟨[95,95,108,111,97,100,101,114,95,95]⟩⟩ 168), (.builtin PySem.W.SL.s7097527257260152453x26)⟩, ⟨(PyData.keyHash P ⟨⟨[95,95,115,112,101,99,95,95]⟩⟩), (.str ⟨⟨[95,95,115,112,101,99,95,95]⟩⟩ 169), .none⟩, ⟨(PyData.keyHash P ⟨⟨[95,95,97,110,110,111,116,97,116,105,111,110,115,95,95]⟩⟩), (.str ⟨⟨[95,95,97,110,110,111,116,97,116,105,111,110,115,95,95]⟩⟩ 170), (.ref 6)⟩, ⟨(PyData.keyHash P ⟨⟨[95,95,98,117,105,108,116,105,110,115,95,95]⟩⟩), (.str ⟨⟨[95,95,98,117,105,108,116,105,110,115,95,95]⟩⟩ 171), (.ref 4)⟩, ⟨(PyData.keyHash P ⟨⟨[95,95,102,105,108,101,95,95]⟩⟩), (.str ⟨⟨[95,95,102,105,108,101,95,95]⟩⟩ 173), (.str ⟨⟨[47,99,108,97,105,109,47,99,117,116,46,112,121]⟩⟩ 172)⟩, ⟨(PyData.keyHash P ⟨⟨[95,95,99,97,99,104,101,100,95,95]⟩⟩), (.str ⟨⟨[95,95,99,97,99,104,101,100,95,95]⟩⟩ 174), .none⟩, ⟨(PyData.keyHash P ⟨⟨[100,101,102,97,117,108,116,100,105,99,116]⟩⟩), (.str ⟨⟨[100,101,102,97,117,108,116,100,105,99,116]⟩⟩ 272), (.type PySem.W.SL.s9278979716766391425x23)⟩, ⟨(PyData.keyHash P ⟨⟨[95,119,97,108,108]⟩⟩), (.str ⟨⟨[95,119,97,108,108]⟩⟩ 285), (.ref 39)⟩, ⟨(PyData.keyHash P ⟨⟨[84,117,112,108,101,67,111,109,112]⟩⟩), (.str ⟨⟨[84,117,112,108,101,67,111,109,112]⟩⟩ 331), (.ref 63)⟩, ⟨(PyData.keyHash P ⟨⟨[95,116,117,112,108,101,103,101,116,116,101,114]⟩⟩), (.str ⟨⟨[95,116,117,112,108,101,103,101,116,116,101,114]⟩⟩ 390), (.ref 106)⟩, ⟨(PyData.keyHash P ⟨⟨[70,114,101,101,122,97,98,108,101,68,101,102,97,117,108,116,68,105,99,116]⟩⟩), (.str ⟨⟨[70,114,101,101,122,97,98,108,101,68,101,102,97,117,108,116,68,105,99,116]⟩⟩ 433), (.ref 136)⟩, ⟨(PyData.keyHash P ⟨⟨[80,97,105,114]⟩⟩), (.str ⟨⟨[80,97,105,114]⟩⟩ 548), (.ref 208)⟩] 15), #[]⟩
noncomputable def sBo_30 (P : Params) : Obj := ⟨.none, none, (.fields #[(.int 2 0), (.int 0 0), (.ref 38), (.int 6 0), (.int 0 0), (.ref 45), (.int 27 0), (.int 0 0), (.ref 73), (.int 45 0), (.int 0 0), (.ref 117), (.int 65 0), (.int 0 0), (.ref 147)]), #[]⟩
noncomputable def sBo_142 (P : Params) : Obj := ⟨(.type "builtin_function_or_method"), none, (.fields #[(.builtin "type.__prepare__"), (.type PySem.W.SL.s17162191345867700912x4)]), #[]⟩
noncomputable def sBo_143 (P : Params) : Obj := ⟨(.type PySem.W.SL.s14018661285674007319x4), none, (.dict #[⟨(PyData.keyHash P ⟨⟨[95,95,109,111,100,117,108,101,95,95]⟩⟩), (.str ⟨⟨[95,95,109,111,100,117,108,101,95,95]⟩⟩ 441), (.str ⟨⟨[99,112,121,51,49,51,46,105,109,112,111,114,116,108,105,98,46,109,101,116,97,100,97,116,97,46,95,99,111,108,108,101,99,116,105,111,110,115]⟩⟩ 332)⟩, ⟨(PyData.keyHash P ⟨⟨[95,95,113,117,97,108,110,97,109,101,95,95]⟩⟩), (.str ⟨⟨[95,95,113,117,97,108,110,97,109,101,95,95]⟩⟩ 443), (.str ⟨⟨[80,97,105,114]⟩⟩ 442)⟩, ⟨(PyData.keyHash P ⟨⟨[95,95,102,105,114,115,116,108,105,110,101,110,111,95,95]⟩⟩), (.str ⟨⟨[95,95,102,105,114,115,116,108,105,110,101,110,111,95,95]⟩⟩ 445), (.int 65 444)⟩, ⟨(PyData.keyHash P ⟨⟨[95,95,100,111,99,95,95]⟩⟩), (.str ⟨⟨[95,95,100,111,99,95,95]⟩⟩ 447), (.str ⟨⟨[80,97,105,114,40,110,97,109,101,44,32,118,97,108,117,101,41]⟩⟩ 446)⟩, ⟨(PyData.keyHash P ⟨⟨[95,95,115,108,111,116,115,95,95]⟩⟩), (.str ⟨⟨[95,95,115,108,111,116,115,95,95]⟩⟩ 449), (.ref 149)⟩, ⟨(PyData.keyHash P ⟨⟨[95,102,105,101,108,100,115]⟩⟩), (.str ⟨⟨[95,102,105,101,108,100,115]⟩⟩ 452), (.ref 150)⟩, ⟨(PyData.keyHash P ⟨⟨[95,102,105,101,108,100,95,100,101,102,97,117,108,116,115]⟩⟩), (.str ⟨⟨[95,102,105,101,108,100,95,100,101,102,97,117,108,116,115]⟩⟩ 453), (.ref 151)⟩, ⟨(PyData.keyHash P ⟨⟨[95,95,110,101,119,95,95]⟩⟩), (.str ⟨⟨[95,95,110,101,119,95,95]⟩⟩ 463), (.ref 158)⟩, ⟨(PyData.keyHash P ⟨⟨[95,109,97,107,101]⟩⟩), (.str ⟨⟨[95,109,97,107,101]⟩⟩ 485), (.ref 167)⟩, ⟨(PyData.keyHash P ⟨⟨[95,114,101,112,108,97,99,101]⟩⟩), (.str ⟨⟨[95,114,101,112,108,97,99,101]⟩⟩ 496), (.ref 176)⟩, ⟨(PyData.keyHash P ⟨⟨[95,95,114,101,112,108,97,99,101,95,95]⟩⟩), (.str ⟨⟨[95,95,114,101,112,108,97,99,101,95,95]⟩⟩ 497), (.ref 176)⟩, ⟨(PyData.keyHash P ⟨⟨[95,95,114,101,112,114,95,95]⟩⟩), (.str ⟨⟨[95,95,114,101,112,114,95,95]⟩⟩ 505), (.ref 183)⟩, ⟨(PyData.keyHash P ⟨⟨[95,97,115,100,105,99,116]⟩⟩), (.str ⟨⟨[95,97,115,100,105,99,116]⟩⟩ 512), (.ref 190)⟩, ⟨(PyData.keyHash P ⟨⟨[95,95,103,101,116,110,101,119,97,114,103,115,95,95]⟩⟩), (.str ⟨⟨[95,95,103,101,116,110,101,119,97,114,103,115,95,95]⟩⟩ 520), (.ref 197)⟩, ⟨(PyData.keyHash P ⟨⟨[95,95,109,97,116,99,104,95,97,114,103,115,95,95]⟩⟩), (.str ⟨⟨[95,95,109,97,116,99,104,95,97,114,103,115,95,95]⟩⟩ 523), (.ref 198)⟩, ⟨(PyData.keyHash P ⟨⟨[110,97,109,101]⟩⟩), (.str ⟨⟨[110,97,109,101]⟩⟩ 533), (.ref 200)⟩, ⟨(PyData.keyHash P ⟨⟨[118,97,108,117,101]⟩⟩), (.str ⟨⟨[118,97,108,117,101]⟩⟩ 543), (.ref 203)⟩, ⟨(PyData.keyHash P ⟨⟨[95,95,115,116,97,116,105,99,95,97,116,116,114,105,98,117,116,101,115,95,95]⟩⟩), (.str ⟨⟨[95,95,115,116,97,116,105,99,95,97,116,116,114,105,98,117,116,101,115,95,95]⟩⟩ 544), (.ref 205)⟩, ⟨(PyData.keyHash P ⟨⟨[95,95,99,108,97,115,115,99,101,108,108,95,95]⟩⟩), (.str ⟨⟨[95,95,99,108,97,115,115,99,101,108,108,95,95]⟩⟩ 545), (.ref 144)⟩] 19), #[]⟩
noncomputable def sBo_145 (P : Params) : Obj := ⟨(.type PySem.W.SL.s2766695959194262286x5), none, (.seq #[] 0), #[]⟩
noncomputable def sBo_146 (P : Params) : Obj := ⟨.none, none, (.fields #[(.int 71 0), (.int 4 0), (.ref 157), (.int 76 0), (.int 4 0), (.ref 164), (.int 83 0), (.int 4 0), (.ref 175), (.int 94 0), (.int 4 0), (.ref 182), (.int 98 0), (.int 4 0), (.ref 189), (.int 101 0), (.int 4 0), (.ref 196)]), #[]⟩
noncomputable def sBo_147 (P : Params) : Obj := ⟨(.type PySem.W.SL.s5856160107412720595x4), none, (.fields #[(.str ⟨⟨[80,97,105,114]⟩⟩ 436), (.str ⟨⟨[80,97,105,114]⟩⟩ 437), (.str ⟨⟨[47,99,108,97,105,109,47,99,117,116,46,112,121]⟩⟩ 438), (.int 65 0), (.int 0 0), (.int 0 0), (.int 0 0), (.int 0 0), (.ref 145), (.bool false), (.int 273 0), (.ref 146), .none, .none, .none, .none, (.int 439 0), (.int 65 0), (.str ⟨⟨[47,99,108,97,105,109,47,99,117,116,46,112,121]⟩⟩ 440)]), #[]⟩
noncomputable def sBo_148 (P : Params) : Obj := ⟨(.type "frame"), none, .plain, #[(some (.ref 147)), (some (.ref 3)), (some (.ref 143)), none, (some (.str ⟨⟨[99,112,121,51,49,51,46,105,109,112,111,114,116,108,105,98,46,109,101,116,97,100,97,116,97,46,95,99,111,108,108,101,99,116,105,111,110,115]⟩⟩ 332)), none, (some (.ref 0))]⟩
noncomputable def sBo_153 (P : Params) : Obj := ⟨.none, none, (.fields #[]), #[]⟩
noncomputable def sBo_156 (p : Program) (_ : Params) : Obj := fnO p [7, 4] fun n a b c => ⟨.none, none, .func ⟨n, ⟨⟨[80,97,105,114,46,95,95,110,101,119,95,95]⟩⟩, a, .stmts b, c, 0, [], .none, .none, .none, .none, none, .none, .none, 0⟩, #[]⟩
noncomputable def sBo_160 (P : Params) : Obj := ⟨.none, none, (.fields #[]), #[]⟩
noncomputable def sBo_163 (p : Program) (_ : Params) : Obj := fnO p [7, 5] fun n a b c => ⟨.none, none, .func ⟨n, ⟨⟨[80,97,105,114,46,95,109,97,107,101]⟩⟩, a, .stmts b, c, 0, [], .none, .none, .none, .none, none, .none, .none, 0⟩, #[]⟩
noncomputable def sBo_171 (P : Params) : Obj := ⟨.none, none, (.fields #[]), #[]⟩
noncomputable def sBo_174 (p : Program) (_ : Params) : Obj := fnO p [7, 6] fun n a b c => ⟨.none, none, .func ⟨n, ⟨⟨[80,97,105,114,46,95,114,101,112,108,97,99,101]⟩⟩, a, .stmts b, c, 0, [], .none, .none, .none, .none, none, .none, .none, 0⟩, #[]⟩
noncomputable def sBo_178 (P : Params) : Obj := ⟨.none, none, (.fields #[]), #[]⟩
noncomputable def sBo_181 (p : Program) (_ : Params) : Obj := fnO p [7, 8] fun n a b c => ⟨.none, none, .func ⟨n, ⟨⟨[80,97,105,114,46,95,95,114,101,112,114,95,95]⟩⟩, a, .stmts b, c, 0, [], .none, .none, .none, .none, none, .none, .none, 0⟩, #[]⟩
noncomputable def sBo_185 (P : Params) : Obj := ⟨.none, none, (.fields #[]), #[]⟩
noncomputable def sBo_188 (p : Program) (_ : Params) : Obj := fnO p [7, 9] fun n a b c => ⟨.none, none, .func ⟨n, ⟨⟨[80,97,105,114,46,95,97,115,100,105,99,116]⟩⟩, a, .stmts b, c, 0, [], .none, .none, .none, .none, none, .none, .none, 0⟩, #[]⟩
noncomputable def sBo_192 (P : Params) : Obj := ⟨.none, none, (.fields #[]), #[]⟩
noncomputable def sBo_195 (p : Program) (_ : Params) : Obj := fnO p [7, 10] fun n a b c => ⟨.none, none, .func ⟨n, ⟨⟨[80,97,105,114,46,95,95,103,101,116,110,101,119,97,114,103,115,95,95]⟩⟩, a, .stmts b, c, 0, [], .none, .none, .none, .none, none, .none, .none, 0⟩, #[]⟩
noncomputable def sBo_201 (P : Params) : Obj := ⟨(.type "frame"), none, (.dict #[⟨(PyData.keyHash P ⟨⟨[115,101,108,102]⟩⟩), (.str ⟨⟨[115,101,108,102]⟩⟩ 526), (.ref 200)⟩, ⟨(PyData.keyHash P ⟨⟨[105,110,100,101,120]⟩⟩), (.str ⟨⟨[105,110,100,101,120]⟩⟩ 527), (.int 0 524)⟩, ⟨(PyData.keyHash P ⟨⟨[100,111,99]⟩⟩), (.str ⟨⟨[100,111,99]⟩⟩ 528), (.str ⟨⟨[65,108,105,97,115,32,102,111,114,32,102,105,101,108,100,32,110,117,109,98,101,114,32,48]⟩⟩ 525)⟩] 3), #[]⟩
noncomputable def sBo_204 (P : Params) : Obj := ⟨(.type "frame"), none, (.dict #[⟨(PyData.keyHash P ⟨⟨[115,101,108,102]⟩⟩), (.str ⟨⟨[115,101,108,102]⟩⟩ 536), (.ref 203)⟩, ⟨(PyData.keyHash P ⟨⟨[105,110,100,101,120]⟩⟩), (.str ⟨⟨[105,110,100,101,120]⟩⟩ 537), (.int 1 534)⟩, ⟨(PyData.keyHash P ⟨⟨[100,111,99]⟩⟩), (.str ⟨⟨[100,111,99]⟩⟩ 538), (.str ⟨⟨[65,108,105,97,115,32,102,111,114,32,102,105,101,108,100,32,110,117,109,98,101,114,32,49]⟩⟩ 535)⟩] 3), #[]⟩
noncomputable def sBo_206 (P : Params) : Obj := ⟨(.type "list"), none, (.seq #[] 0), #[]⟩
noncomputable def sBo_208 (P : Params) : Obj := ⟨(.type PySem.W.SL.s17162191345867700912x4), none, (.cls ⟨⟨⟨[80,97,105,114]⟩⟩, [(.type PySem.W.SL.s2766695959194262286x5)], [(.ref 208), (.type PySem.W.SL.s2766695959194262286x5), (.type PySem.W.SL.s2742458400755230247x6)], 207, ⟨⟨[80,97,105,114]⟩⟩, false, [], [], false, none, false⟩), #[(some (.ref 141)), none, (some (.str ⟨⟨[80,97,105,114]⟩⟩ 434)), (some (.str ⟨⟨[80,97,105,114]⟩⟩ 442)), (some .none), (some (.bool false))]⟩
noncomputable def sBo_210 (P : Params) : Obj := ⟨(.type "super"), none, (.fields #[(.ref 208), (.ref 208), (.ref 208)]), #[]⟩
noncomputable def sBo_211 (P : Params) : Obj := ⟨(.type "builtin_function_or_method"), none, (.fields #[(.builtin "object.__init_subclass__"), (.ref 208)]), #[]⟩
noncomputable def treeB (p : Program) (P : Params) : BT := (.node (sZo_0 P) (.node (sZo_1 P) (.node (sBo_3 P) (.node (sZo_7 P) (.node (sZo_15 P) (.node (sZo_31 P) (.node (ko_63 P) (.node (ko_127 P) .nil .nil) (.node (ko_191 P) .nil .nil)) (.node (ko_95 P) (.node (ko_159 P) .nil .nil) .nil)) (.node (ko_47 P) (.node (sAo_79 p P) (.node (sBo_143 P) .nil .nil) (.node (ko_207 P) .nil .nil)) (.node (ko_111 P) (.node (ko_175 P) .nil .nil) .nil))) (.node (sZo_23 P) (.node (ko_39 p P) (.node (sAo_71 P) (.node (ko_135 P) .nil .nil) (.node (ko_199 P) .nil .nil)) (.node (ko_103 p P) (.node (ko_167 P) .nil .nil) .nil)) (.node (sZo_55 P) (.node (sAo_87 p P) (.node (ko_151 P) .nil .nil) .nil) (.node (ko_119 P) (.node (ko_183 p P) .nil .nil) .nil)))) (.node (sZo_11 P) (.node (sZo_19 P) (.node (ko_35 P) (.node (sZo_67 P) (.node (sAo_131 p P) .nil .nil) (.node (sBo_195 p P) .nil .nil)) (.node (ko_99 P) (.node (sBo_163 p P) .nil .nil) .nil)) (.node (sZo_51 p P) (.node (ko_83 P) (.node (sBo_147 P) .nil .nil) (.node (sBo_211 P) .nil .nil)) (.node (sAo_115 P) (.node (ko_179 P) .nil .nil) .nil))) (.node (sZo_27 P) (.node (sZo_43 P) (.node (ko_75 P) (.node (sAo_139 P) .nil .nil) (.node (ko_203 P) .nil .nil)) (.node (ko_107 P) (.node (sBo_171 P) .nil .nil) .nil)) (.node (ko_59 P) (.node (sAo_91 P) (.node (ko_155 P) .nil .nil) .nil) (.node (ko_123 P) (.node (ko_187 P) .nil .nil) .nil))))) (.node (sZo_5 P) (.node (sZo_9 P) (.node (sZo_17 P) (.node (ko_33 P) (.node (ko_65 P) (.node (ko_129 P) .nil .nil) (.node (ko_193 P) .nil .nil)) (.node (ko_97 P) (.node (ko_161 P) .nil .nil) .nil)) (.node (ko_49 P) (.node (ko_81 p P) (.node (sBo_145 P) .nil .nil) (.node (ko_209 P) .nil .nil)) (.node (sAo_113 P) (.node (ko_177 P) .nil .nil) .nil))) (.node (sZo_25 P) (.node (sZo_41 P) (.node (sAo_73 P) (.node (ko_137 P) .nil .nil) (.node (sBo_201 P) .nil .nil)) (.node (ko_105 P) (.node (ko_169 P) .nil .nil) .nil)) (.node (ko_57 P) (.node (ko_89 p P) (.node (sBo_153 P) .nil .nil) .nil) (.node (sAo_121 P) (.node (sBo_185 P) .nil .nil) .nil)))) (.node (sZo_13 P) (.node (sZo_21 P) (.node (sZo_37 p P) (.node (sAo_69 P) (.node (ko_133 p P) .nil .nil) (.node (ko_197 p P) .nil .nil)) (.node (sAo_101 p P) (.node (ko_165 p P) .nil .nil) .nil)) (.node (ko_53 p P) (.node (ko_85 P) (.node (ko_149 P) .nil .nil) .nil) (.node (sAo_117 P) (.node (sBo_181 p P) .nil .nil) .nil))) (.node (sZo_29 P) (.node (sZo_45 P) (.node (ko_77 P) (.node (ko_141 P) .nil .nil) (.node (ko_205 P) .nil .nil)) (.node (sAo_109 P) (.node (ko_173 P) .nil .nil) .nil)) (.node (ko_61 P) (.node (ko_93 P) (.node (ko_157 P) .nil .nil) .nil) (.node (ko_125 P) (.node (ko_189 P) .nil .nil) .nil)))))) (.node (ko_2 P) (.node (sZo_4 P) (.node (sZo_8 P) (.node (sZo_16 P) (.node (sZo_32 P) (.node (ko_64 P) (.node (sAo_128 P) .nil .nil) (.node (sBo_192 P) .nil .nil)) (.node (ko_96 p P) (.node (sBo_160 P) .nil .nil) .nil)) (.node (sZo_48 P) (.node (ko_80 P) (.node (ko_144 P) .nil .nil) (.node (sBo_208 P) .nil .nil)) (.node (sAo_112 P) (.node (ko_176 p P) .nil .nil) .nil))) (.node (sZo_24 P) (.node (sZo_40 P) (.node (sAo_72 P) (.node (ko_136 P) .nil .nil) (.node (ko_200 P) .nil .nil)) (.node (ko_104 P) (.node (ko_168 P) .nil .nil) .nil)) (.node (ko_56 P) (.node (ko_88 P) (.node (ko_152 P) .nil .nil) .nil) (.node (ko_120 P) (.node (ko_184 P) .nil .nil) .nil)))) (.node (sZo_12 P) (.node (sZo_20 P) (.node (ko_36 P) (.node (sAo_68 P) (.node (ko_132 P) .nil .nil) (.node (ko_196 P) .nil .nil)) (.node (ko_100 P) (.node (ko_164 P) .nil .nil) .nil)) (.node (ko_52 P) (.node (sAo_84 P) (.node (sBo_148 P) .nil .nil) .nil) (.node (sAo_116 P) (.node (ko_180 P) .nil .nil) .nil))) (.node (sZo_28 P) (.node (sZo_44 P) (.node (sAo_76 P) (.node (sAo_140 P) .nil .nil) (.node (sBo_204 P) .nil .nil)) (.node (ko_108 P) (.node (ko_172 P) .nil .nil) .nil)) (.node (ko_60 p P) (.node (ko_92 P) (.node (sBo_156 p P) .nil .nil) .nil) (.node (sAo_124 p P) (.node (sBo_188 p P) .nil .nil) .nil))))) (.node (sZo_6 P) (.node (sZo_10 P) (.node (sZo_18 P) (.node (sZo_34 P) (.node (sZo_66 P) (.node (ko_130 P) .nil .nil) (.node (ko_194 P) .nil .nil)) (.node (sAo_98 P) (.node (ko_162 P) .nil .nil) .nil)) (.node (ko_50 P) (.node (ko_82 P) (.node (sBo_146 P) .nil .nil) (.node (sBo_210 P) .nil .nil)) (.node (ko_114 P) (.node (sBo_178 P) .nil .nil) .nil))) (.node (sZo_26 P) (.node (sZo_42 P) (.node (sAo_74 P) (.node (ko_138 P) .nil .nil) (.node (ko_202 P) .nil .nil)) (.node (ko_106 P) (.node (ko_170 P) .nil .nil) .nil)) (.node (sZo_58 p P) (.node (ko_90 P) (.node (ko_154 P) .nil .nil) .nil) (.node (ko_122 P) (.node (ko_186 P) .nil .nil) .nil)))) (.node (sZo_14 P) (.node (sZo_22 P) (.node (ko_38 P) (.node (sAo_70 P) (.node (ko_134 P) .nil .nil) (.node (ko_198 P) .nil .nil)) (.node (ko_102 P) (.node (ko_166 P) .nil .nil) .nil)) (.node (ko_54 P) (.node (ko_86 P) (.node (ko_150 P) .nil .nil) .nil) (.node (sAo_118 P) (.node (ko_182 P) .nil .nil) .nil))) (.node (sBo_30 P) (.node (sZo_46 P) (.node (ko_78 P) (.node (sBo_142 P) .nil .nil) (.node (sBo_206 P) .nil .nil)) (.node (sAo_110 P) (.node (sBo_174 p P) .nil .nil) .nil)) (.node (ko_62 P) (.node (sAo_94 p P) (.node (ko_158 p P) .nil .nil) .nil) (.node (ko_126 p P) (.node (ko_190 p P) .nil .nil) .nil)))))))
noncomputable def vw : Program := PySem.W.view PR [0, 1, 3, 5, 6, 7, 8, 10, 11, 12, 13, 14, 15]
theorem said : OpenLaw.wellSaid PySem.Challenge.rw_in0004_01 = true := by decide +kernel
theorem open_law (h : PySem.Challenge.rw_in0004_01.row.Holds) : PySem.Challenge.rw_in0004_01.Holds := holds_law said fun _ => h
theorem kE : ∀ P, kAs = (K P).map (·.1) := fun _ => by kernel_rfl
noncomputable abbrev loose : List PySem.Str := [Str.ofString "_tuplegetter", Str.ofString "Pair"]
noncomputable abbrev looseq : List PySem.Str := [⟨⟨[95, 116, 117, 112, 108, 101, 103, 101, 116, 116, 101, 114]⟩⟩, ⟨⟨[80, 97, 105, 114]⟩⟩]
theorem loose_eq : loose = looseq := by decide +kernel
noncomputable abbrev vwq : Program := PySem.W.view PR [0, 1, 3, 5, 6, 7, 8, 10, 11, 12, 13, 14, 15]
/-! the run cut in three -/
noncomputable def envM : Env := { scope := PR.main.scope, locals := mainNs, globals := mainNs, cells := [], code := .ref 31, frame := some 32 }
noncomputable abbrev st0 : List Stmt := (behindTheImports PR).take 4
noncomputable abbrev st1 : List Stmt := ((behindTheImports PR).drop 4).take 2
noncomputable abbrev st2 : List Stmt := ((behindTheImports PR).drop 6).take 1
noncomputable abbrev st3 : List Stmt := (behindTheImports PR).drop 7
noncomputable abbrev cE : Code := .body (st0 ++ (st1 ++ (st2 ++ (st3 ++ [])))) envM
noncomputable abbrev ps0 : Pos := ⟨0, 0, 0, 0⟩
noncomputable abbrev psZ : Pos := ⟨26, 0, 26, 8⟩
noncomputable abbrev psA : Pos := ⟨45, 0, 64, 57⟩
noncomputable abbrev psB : Pos := ⟨65, 0, 106, 55⟩
noncomputable def litZ (w : World) : SharedT := ⟨treeZ PR w.params, 68, {}, #[], {}, 334, (start (opening PR)).1.os⟩
noncomputable def litA (w : World) : SharedT := ⟨treeA PR w.params, 141, {}, #[], {}, 434, (start (opening PR)).1.os⟩
noncomputable def litB (w : World) : SharedT := ⟨treeB PR w.params, 212, {}, #[], {}, 549, (start (opening PR)).1.os⟩
noncomputable abbrev an0 : Option Value := some (.ref 6)
theorem hc0 : ∀ w : World, (goQ Fast.tw14364793385576792824 PR 4924 12 w).map (fun x => (x.1.heap.objs.size, Fast.tw8920871248978507458 x.1.heap mainGlobals "__annotations__", x.2.2)) = some (29, an0, ⟨Fast.tw11892475500146522536 Fast.tw14364793385576792824 cE, cE, ps0, [topFrame ps0]⟩) := fun w => by kernel_rfl
theorem hc1 : ∀ w : World, ((goQ Fast.tw14364793385576792824 PR 4924 12 w).bind fun x => ((segRunQ Fast.tw14364793385576792824 PR w 29 an0 1 10 x.2.1 (blockQ (st0 ++ (st1 ++ (st2 ++ (st3 ++ [])))) envM cE ps0 [topFrame ps0])).bind fun y =>
      ((segRunQ Fast.tw14364793385576792824 PR w 29 an0 1 1000 y.2.1 (piecesQ st0 envM cE ps0 [topFrame ps0])).map fun z => (y.1, y.2.2, z)))) = some (.next, (cE, ps0), (.next, litZ w, cE, psZ)) := fun w => by kernel_rfl
theorem hcZ : ∀ w : World, segRunQ Fast.tw14364793385576792824 PR w 29 an0 1 1000 (litZ w) (piecesQ st1 envM cE psZ [topFrame ps0]) = some (.next, litA w, cE, psA) := fun w => by kernel_rfl
theorem hc2 : ∀ w : World, segRunQ Fast.tw14364793385576792824 PR w 29 an0 1 1000 (litA w) (piecesQ st2 envM cE psA [topFrame ps0]) = some (.next, litB w, cE, psB) := fun w => by kernel_rfl
theorem hc3 : ∀ w : World, lastQ Fast.tw14364793385576792824 PR vwq looseq (fun s => xlAt vwq [] s && recOk (RowW.records (OpenRow.toRowW RW.row)) s) (fun s => (kAs.map s.heap.get?, [128].map s.heap.get?)) true 29 an0 4924 1000 st3 envM cE psB ps0 (litB w) w = some (cE, openGood vwq looseq, ((Kof PR w.params).map fun p => some p.2, [128].map fun _ => some (tabObj #[]))) := fun w => by kernel_rfl
theorem hd0 : ∀ w : World, (goT treeTable PR 4924 12 w).map (fun x => (x.1.heap.objs.size, x.1.heap.nsMap mainGlobals "__annotations__", x.2.2)) = some (29, an0, ⟨denote treeTable cE, cE, ps0, [topFrame ps0]⟩) := fun w => by
  rw [goQ_eq, Fast.te14364793385576792824, Fast.te8920871248978507458, Fast.te11892475500146522536]
  exact hc0 w
theorem hd1 : ∀ w : World, ((goT treeTable PR 4924 12 w).bind fun x => ((segRunT treeTable PR w 29 an0 1 10 x.2.1 (blockOf (st0 ++ (st1 ++ (st2 ++ (st3 ++ [])))) envM cE ps0 [topFrame ps0])).bind fun y =>
      ((segRunT treeTable PR w 29 an0 1 1000 y.2.1 (piecesOf st0 envM cE ps0 [topFrame ps0])).map fun z => (y.1, y.2.2, z)))) = some (.next, (cE, ps0), (.next, litZ w, cE, psZ)) := fun w => by
  rw [goQ_eq, Fast.te14364793385576792824, piecesQ_eq, blockQ_eq]
  simp only [segRunQ_eq]
  exact hc1 w
theorem hdZ : ∀ w : World, segRunT treeTable PR w 29 an0 1 1000 (litZ w) (piecesOf st1 envM cE psZ [topFrame ps0]) = some (.next, litA w, cE, psA) := fun w => by
  rw [segRunQ_eq, Fast.te14364793385576792824, piecesQ_eq]
  exact hcZ w
theorem hd2 : ∀ w : World, segRunT treeTable PR w 29 an0 1 1000 (litA w) (piecesOf st2 envM cE psA [topFrame ps0]) = some (.next, litB w, cE, psB) := fun w => by
  rw [segRunQ_eq, Fast.te14364793385576792824, piecesQ_eq]
  exact hc2 w
theorem hd3 : ∀ w : World, lastT treeTable PR vw loose (fun s => xlAt vw [] s && recOk (RowW.records (OpenRow.toRowW RW.row)) s) (Hook.obs (kmHook K kAs kE (128 :: []))) true 29 an0 4924 1000 st3 envM cE psB ps0 (litB w) w = some (cE, openGood vw loose, Hook.val (kmHook K kAs kE (128 :: [])) w) := fun w => by
  rw [lastQ_eq, Fast.te14364793385576792824, loose_eq]
  exact hc3 w
theorem hl : LeftO PR vw loose (fun s => xlAt vw [] s && recOk (RowW.records (OpenRow.toRowW PySem.Challenge.rw_in0004_01.row)) s) (Hook.obs (kmHook K kAs kE (128 :: []))) (Hook.val (kmHook K kAs kE (128 :: []))) 4924 :=
  left_cut hd0 hd1 hdZ hd2 hd3 (by decide)
end Mine
end
section
open PySem PySem.W PyProof.Rows
set_option maxRecDepth 100000
set_option maxHeartbeats 8000000
namespace Mine
/-- the contract of a def: called over a ledger -/
noncomputable def Ctr (room : Nat) (w : World) (f : Addr) (args : List Value) (news : List (Addr × Obj)) (Post : List (Addr × Obj) → Value → Prop) : Prop :=
  ∀ (dp un : Nat) (gd : Option (List Code)) (cn : Str) (cs : Scope) (a : Addr) (ccd : Value) (cl : List (Str × Addr)) (outer : List Env) (A₀ : Around) (base h₀ : Heap) (L : Addr) (m : Str → Option Value) (p : Program) (loose : List Str) (mean : ExcName → Option Value) (mg mb : Str → Option Value) (s : Shared) (Q E : Value → Shared → Prop),
    Below A₀ base outer h₀ → Fr h₀ L s.heap m → (Mine.K w.params).In h₀ → News h₀ L s.heap news → Top p loose mean mg mb h₀ → cs.kind = .function → dp + room < recursionLimit → un + 10 * room < cLine →
    (∀ v tl h' tk', Fr h₀ L h' m → News h₀ L h' (tl ++ news) → (∀ q ∈ news, ∀ p ∈ tl, q.1 < p.1) → Post (tl ++ news) v → Q v { s with heap := h', toks := tk' }) →
    wpAny (model PySem.Challenge.rw_in0004_01.row.prog w) (ktrTop dp un gd cn cs L a ccd cl outer) (call (.ref f) args) Q E s
noncomputable abbrev tupO (vs : List Value) : Obj := { cls := .type "tuple", data := .seq vs.toArray }
theorem Ctr.use {room : Nat} {w : World} {f : Addr} {args : List Value} {news : List (Addr × Obj)} {Post : List (Addr × Obj) → Value → Prop} (C : Ctr room w f args news Post)
    {dp un : Nat} {gd : Option (List Code)} {cn : PySem.Str} {cs : Scope} {a : Addr} {ccd : Value} {cl : List (PySem.Str × Addr)} {outer : List Env} {A₀ : Around} {base h₀ : Heap} {L : Addr} {m : PySem.Str → Option Value} {p : Program} {loose : List PySem.Str} {mean : ExcName → Option Value} {mg mb : PySem.Str → Option Value} {s : Shared} {Q E : Value → Shared → Prop}
    (B : Below A₀ base outer h₀) (F : Fr h₀ L s.heap m) (X : (Mine.K w.params).In h₀) (N : News h₀ L s.heap news) (T : Top p loose mean mg mb h₀) (hk : cs.kind = .function) (hd : dp + room < recursionLimit) (hu : un + 10 * room < cLine)
    (ret : ∀ v tl h' tk', Fr h₀ L h' m → News h₀ L h' (tl ++ news) → (∀ q ∈ news, ∀ p ∈ tl, q.1 < p.1) → Post (tl ++ news) v → Q v { s with heap := h', toks := tk' }) :
    wpAny (model PySem.Challenge.rw_in0004_01.row.prog w) (ktrTop dp un gd cn cs L a ccd cl outer) (call (.ref f) args) Q E s := C _ _ _ _ _ _ _ _ _ _ _ _ _ _ _ _ _ _ _ _ _ _ B F X N T hk hd hu ret
end Mine
end
section
open PySem PySem.W PySem.W.X PyProof.Rows
set_option maxRecDepth 100000
set_option maxHeartbeats 8000000
namespace Mine
/-- as Ctr, of the code itself, and of the new objects only that they are other ones -/
noncomputable def CtrC (room : Nat) (w : World) (f : Addr) (args : List Value) (news : List (Addr × Obj)) (Post : List (Addr × Obj) → Value → Prop) : Prop :=
  ∀ (dp un : Nat) (gd : Option (List Code)) (cn : PySem.Str) (cs : Scope) (a : Addr) (ccd : Value) (cl : List (PySem.Str × Addr)) (outer : List Env) (A₀ : Around) (base h₀ : Heap) (L : Addr) (m : PySem.Str → Option Value) (p : Program) (loose : List PySem.Str) (mean : ExcName → Option Value) (mg mb : PySem.Str → Option Value) (s : Shared) (Q E : Value → Shared → Prop),
    Below A₀ base outer h₀ → Fr h₀ L s.heap m → (Mine.K w.params).In h₀ → News h₀ L s.heap news → Top p loose mean mg mb h₀ → cs.kind = .function → dp + room < recursionLimit → un + 10 * room < cLine →
    (∀ v tl h' tk', Fr h₀ L h' m → News h₀ L h' (tl ++ news) → (∀ q ∈ news, ∀ p ∈ tl, q.1 ≠ p.1) → Post (tl ++ news) v → Q v { s with heap := h', toks := tk' }) →
    codeAny (model PySem.Challenge.rw_in0004_01.row.prog w) (ktrTop dp un gd cn cs L a ccd cl outer) (.call (.ref f) ⟨args, []⟩) (fun r s' => match r with | .ok (.ret v) => Q v s' | .ok _ => False | .error e => E e s') s
theorem CtrC.code {room : Nat} {w : World} {f : Addr} {args : List Value} {news : List (Addr × Obj)} {Post : List (Addr × Obj) → Value → Prop} (C : CtrC room w f args news Post)
    {dp un : Nat} {gd : Option (List Code)} {cn : PySem.Str} {cs : Scope} {a : Addr} {ccd : Value} {cl : List (PySem.Str × Addr)} {outer : List Env} {A₀ : Around} {base h₀ : Heap} {L : Addr} {m : PySem.Str → Option Value} {p : Program} {loose : List PySem.Str} {mean : ExcName → Option Value} {mg mb : PySem.Str → Option Value} {s : Shared} {Q E : Value → Shared → Prop}
    (B : Below A₀ base outer h₀) (F : Fr h₀ L s.heap m) (X : (Mine.K w.params).In h₀) (N : News h₀ L s.heap news) (T : Top p loose mean mg mb h₀) (hk : cs.kind = .function) (hd : dp + room < recursionLimit) (hu : un + 10 * room < cLine)
    (ret : ∀ v tl h' tk', Fr h₀ L h' m → News h₀ L h' (tl ++ news) → (∀ q ∈ news, ∀ p ∈ tl, q.1 ≠ p.1) → Post (tl ++ news) v → Q v { s with heap := h', toks := tk' }) :
    codeAny (model PySem.Challenge.rw_in0004_01.row.prog w) (ktrTop dp un gd cn cs L a ccd cl outer) (.call (.ref f) ⟨args, []⟩) (fun r s' => match r with | .ok (.ret v) => Q v s' | .ok _ => False | .error e => E e s') s := C _ _ _ _ _ _ _ _ _ _ _ _ _ _ _ _ _ _ _ _ _ _ B F X N T hk hd hu ret
theorem CtrC.use {room : Nat} {w : World} {f : Addr} {args : List Value} {news : List (Addr × Obj)} {Post : List (Addr × Obj) → Value → Prop} (C : CtrC room w f args news Post)
    {dp un : Nat} {gd : Option (List Code)} {cn : PySem.Str} {cs : Scope} {a : Addr} {ccd : Value} {cl : List (PySem.Str × Addr)} {outer : List Env} {A₀ : Around} {base h₀ : Heap} {L : Addr} {m : PySem.Str → Option Value} {p : Program} {loose : List PySem.Str} {mean : ExcName → Option Value} {mg mb : PySem.Str → Option Value} {s : Shared} {Q E : Value → Shared → Prop}
    (B : Below A₀ base outer h₀) (F : Fr h₀ L s.heap m) (X : (Mine.K w.params).In h₀) (N : News h₀ L s.heap news) (T : Top p loose mean mg mb h₀) (hk : cs.kind = .function) (hd : dp + room < recursionLimit) (hu : un + 10 * room < cLine)
    (ret : ∀ v tl h' tk', Fr h₀ L h' m → News h₀ L h' (tl ++ news) → (∀ q ∈ news, ∀ p ∈ tl, q.1 ≠ p.1) → Post (tl ++ news) v → Q v { s with heap := h', toks := tk' }) :
    wpAny (model PySem.Challenge.rw_in0004_01.row.prog w) (ktrTop dp un gd cn cs L a ccd cl outer) (call (.ref f) args) Q E s := wpAny_call (C.code B F X N T hk hd hu ret)
/-- how far x_run's calls reach -/
noncomputable def AX : Around := { handled := none, depth := 980, frames := none, guards := none, units := 9700 }
theorem wpAny_weaken {α : Type} {M : Model} {A A' : Around} {t : Sem α} {Q : α → Shared → Prop} {E : Value → Shared → Prop} {s : Shared} (h : wpAny M A' t Q E s) (hh : A.handled = A'.handled) (hd : A.depth ≤ A'.depth) (hf : ∀ l, A'.frames = some l → A.frames = some l) (hg : ∀ l, A'.guards = some l → A.guards = some l) (hu : A.units ≤ A'.units) :
    wpAny M A t Q E s := fun Γ p hΓ => h Γ p ⟨hΓ.1.trans hh, Nat.le_trans hΓ.2.1 hd, fun l hl => hΓ.2.2.1 l (hf l hl), fun g hl => hΓ.2.2.2.1 g (hg g hl), Nat.le_trans hΓ.2.2.2.2 hu⟩
theorem of_AX {α : Type} {M : Model} {A : Around} {t : Sem α} {Q : α → Shared → Prop} {E : Value → Shared → Prop} {s : Shared} (h : wpAny M AX t Q E s) (hh : A.handled = none) (hd : A.depth ≤ 980) (hu : A.units ≤ 9700) : wpAny M A t Q E s :=
  wpAny_weaken h hh hd (fun _ e => nomatch e) (fun _ e => nomatch e) hu
theorem mem_ext {h₀ h : Heap} {news : List (Addr × Obj)} (D : Mem h₀ h [] news) : ∀ p o, h₀.get? p = some o → h.get? p = some o :=
  fun p o e => D.keep p o e (by simp [away])
/-- what a call that changes no object gives back -/
structure Ret (s : Shared) (Q : Value → Shared → Prop) (P : Value → Heap → Prop) : Prop where
  go : ∀ v h' tk', P v h' → (∀ p o, s.heap.get? p = some o → h'.get? p = some o) → Q v ⟨h', s.gens, s.drawn, tk', s.os⟩
theorem Ret.end {s : Shared} {Q : Value → Shared → Prop} {P : Value → Heap → Prop} {v : Value} {h' : Heap} {tk' : Nat} {news : List (Addr × Obj)} (R : Ret s Q P) (D : Mem s.heap h' [] news) (hp : P v h') : Q v ⟨h', s.gens, s.drawn, tk', s.os⟩ := R.go _ _ _ hp (mem_ext D)
/-- a Pair -/
noncomputable abbrev pairO (dd : Addr) (a b : Value) : Obj := { cls := .ref 231, dict := some dd, data := .seq #[a, b] }
noncomputable abbrev noDict : Obj := { cls := .type "dict", data := .dict #[] }
local macro_rules | `(tactic| x_close) => `(tactic| (refine Ret.end (by assumption) (by assumption) ?_; exact ⟨_, _, rfl, Mem.at (by assumption) 0 _ _ rfl, (Mem.nw (by assumption) _ (List.Mem.head _)).2, Mem.at (by assumption) 1 _ _ rfl, (Mem.nw (by assumption) _ (List.Mem.tail _ (List.Mem.head _))).2, Mem.ne (by assumption) 0 1 _ _ _ _ rfl rfl rfl⟩))
theorem tuple_new {w : World} {s : Shared} {E : Value → Shared → Prop} {Q : Value → Shared → Prop} (X : (Mine.K w.params).In s.heap) {T : Addr} {a b : PySem.Str} {ta tb : Tok} (hT : s.heap.get? T = some (Obj.mk (.type "tuple") none (.seq #[.str a ta, .str b tb] 0) #[]))
   (R : Ret s Q fun v h' => (Ex2 fun r dd => An6 (v = .ref r) (h'.get? r = some (pairO dd (.str a ta) (.str b tb))) (s.heap.get? r = none) (h'.get? dd = some noDict) (s.heap.get? dd = none) (r ≠ dd))) :
   wpAny (model PySem.Challenge.rw_in0004_01.row.prog w) AX (call (.builtin "tuple.__new__") [.ref 231, .ref T]) Q E s := by
  x_run
/-- the same over a ledger -/
theorem tuple_new_K {w : World} {A : Around} {s : Shared} {E : Value → Shared → Prop} {Q : Value → Shared → Prop} {h₀ : Heap} {L : Addr} {m : PySem.Str → Option Value} {news : List (Addr × Obj)} (X : (Mine.K w.params).In h₀) (F : Fr h₀ L s.heap m) (N : News h₀ L s.heap news) {T : Addr} {a b : PySem.Str} {ta tb : Tok} (hT : (T, tupO [.str a ta, .str b tb]) ∈ news)
   (hh : A.handled = none) (hd : A.depth ≤ 980) (hu : A.units ≤ 9700)
   (R : ∀ r dd h' tk', Fr h₀ L h' m → News h₀ L h' ((r, pairO dd (.str a ta) (.str b tb)) :: (dd, noDict) :: news) → (∀ p ∈ news, p.1 ≠ r ∧ p.1 ≠ dd) → r ≠ dd → Q (.ref r) { s with heap := h', toks := tk' }) :
   wpAny (model PySem.Challenge.rw_in0004_01.row.prog w) A (call (.builtin "tuple.__new__") [.ref 231, .ref T]) Q E s := by
  refine of_AX (tuple_new (X.keeps F.keep) (N _ hT).1 ⟨?_⟩) hh hd hu
  rintro v h' tk' ⟨r, dd, rfl, hr, hr0, hdd, hdd0, hne⟩ keep
  have fresh : ∀ x, s.heap.get? x = none → x ≠ L ∧ h₀.get? x = none := fun x hx => by
    refine ⟨fun e => ?_, ?_⟩
    · obtain ⟨o, _, _, hL, _⟩ := F.ns
      rw [e, hL] at hx; cases hx
    · cases e : h₀.get? x with
      | none => rfl
      | some o => rw [F.keep _ _ e] at hx; cases hx
  refine R r dd h' tk' (F.keeps keep) ?_ ?_ hne
  · intro p hp
    rcases List.mem_cons.mp hp with rfl | hp
    · exact ⟨hr, fresh _ hr0⟩
    rcases List.mem_cons.mp hp with rfl | hp
    · exact ⟨hdd, fresh _ hdd0⟩
    · exact ⟨keep _ _ (N p hp).1, (N p hp).2⟩
  · intro p hp
    refine ⟨fun e => ?_, fun e => ?_⟩
    · rw [← e, (N p hp).1] at hr0; cases hr0
    · rw [← e, (N p hp).1] at hdd0; cases hdd0
end Mine
end
section
open PySem PySem.W PySem.Calls PySem.Spec PyProof.Rows PyProof.V
set_option maxRecDepth 100000
set_option maxHeartbeats 4000000
namespace Mine
/-- a goal that the walk lets stand -/
structure Hold (P : Prop) : Prop where
  out : P
theorem hold {P : Prop} (h : Hold P) : P := h.out
section
variable {prog : Program} {w : World} {A : Around} {E : Value → Shared → Prop} {s : Shared} {env : Env} {h₀ : Heap} {target : Expr} {body : List Stmt} {Q : Flow → Shared → Prop}
/-- how a turn of a loop ends: the iterator's objects stand, the invariant holds for what is left -/
noncomputable def TEnd (h₀ : Heap) (L : Addr) (its : List (Addr × Obj)) (s₁ : Shared) (C : (Str → Option Value) → List (Addr × Obj) → Prop) (Q : Flow → Shared → Prop) (f : Flow) (s₂ : Shared) : Prop :=
  match f with
  | .ret v => Q (.ret v) s₂
  | .brk => Q .next s₂
  | _ => ∃ h' tk m' n', s₂ = { s₁ with heap := h', toks := tk } ∧ Fr h₀ L h' m' ∧ News h₀ L h' (its ++ n') ∧ (∀ p ∈ n', ∀ q ∈ its, p.1 ≠ q.1) ∧ C m' n'
theorem TEnd.next {L : Addr} {its n' : List (Addr × Obj)} {s₁ : Shared} {C : (Str → Option Value) → List (Addr × Obj) → Prop} {h' : Heap} {tk : Nat} {m' : Str → Option Value}
    (F : Fr h₀ L h' m') (N : News h₀ L h' (its ++ n')) (off : ∀ p ∈ n', ∀ q ∈ its, p.1 ≠ q.1) (c : C m' n') : TEnd h₀ L its s₁ C Q .next { s₁ with heap := h', toks := tk } := ⟨h', tk, m', n', rfl, F, N, off, c⟩
theorem loop_list {ax : Addr} {vs : List Value} {c : Nat} {m₀ : Str → Option Value} {news : List (Addr × Obj)} (C : List Value → (Str → Option Value) → List (Addr × Obj) → Prop)
    (hh : A.handled = none) (F : Fr h₀ env.locals s.heap m₀) (N : News h₀ env.locals s.heap news) (hax : ∀ r m n, C r m n → (ax, listOf vs.toArray c) ∈ n) (hC : C vs m₀ news)
    (turn : ∀ v r m₁ n₁ h₁ tk₁ its, C (v :: r) m₁ n₁ → (∃ p, its = [p]) → (∀ p ∈ n₁, ∀ q ∈ its, p.1 ≠ q.1) → Fr h₀ env.locals h₁ m₁ → News h₀ env.locals h₁ (its ++ n₁) →
      wpAny (model prog w) A (assign target env v) (fun _ s₃ => wpAny (model prog w) A (execs body env) (TEnd h₀ env.locals its { s with heap := h₁, toks := tk₁ } (C r) Q) E s₃) E { s with heap := h₁, toks := tk₁ })
    (done : ∀ m₁ n₁ h tk, C [] m₁ n₁ → Fr h₀ env.locals h m₁ → News h₀ env.locals h n₁ → Q .next { s with heap := h, toks := tk }) :
    wpAny (model prog w) A (pyIter (.ref ax)) (fun it s₂ => TurnsAt prog w A h₀ env target body Q E it s₂) E s := by
  have hm := hax _ _ _ hC
  have hol := N _ hm
  have hl : s.heap.IsList ax vs.toArray := ⟨_, hol.1, rfl, c, rfl⟩
  have hlt : ax < s.heap.objs.size := Heap.lt_size hol.1
  have hne : ax ≠ s.heap.objs.size := Nat.ne_of_lt hlt
  refine wpAny_pyIter_list hl ?_
  have W := KTurns.ofWalks (prog := prog) (w := w) (A := A) (target := target) (Walks.list hh s.heap.objs.size ax hne vs.toArray) fun i v s Q E st q => letGo_listiter st.1 q
  have hlen : vs.toArray.size = vs.length := by simp
  rw [hlen] at W
  have hI₀ : h₀.get? s.heap.objs.size = none := next_is_new F
  refine ⟨_, _, _, vs.length, _, _, _, m₀, news, fun i m n => C (vs.drop i) m n, rfl, W, ?_, ?_, ?_, ⟨⟨_, Heap.get?_push_size _ rfl, rfl, rfl⟩, hl.at fun o e => Heap.get?_push_of_some _ e⟩, F.push _, (fun p hp => ⟨Heap.get?_push_of_some _ (N p hp).1, (N p hp).2⟩), hC, ?_, ?_⟩
  · intro hI
    rcases List.mem_cons.mp hI with e | hI
    · exact absurd F.ns.lt (e ▸ Nat.lt_irrefl _)
    · exact hol.2.1 (List.mem_singleton.mp hI).symm
  · intro b hb
    rw [List.mem_singleton.mp hb]; exact hI₀
  · intro p hp hI
    exact absurd (Heap.lt_size (N p hp).1) ((List.mem_singleton.mp hI) ▸ Nat.lt_irrefl _)
  · intro i v m₁ n₁ h₁ tk₁ own hlt' hP hJ hoff hown hget hall hst F₁ N₁
    have hv : vs[i]? = some v := by
      have : vs.toArray[i]? = some v := hP
      simpa using this
    have hd : vs.drop i = v :: vs.drop (i + 1) := by
      rw [List.drop_eq_getElem_cons hlt']
      congr 1
      exact Option.some.inj ((List.getElem?_eq_getElem hlt').symm.trans hv)
    replace hJ : C (vs.drop i) m₁ n₁ := hJ
    rw [hd] at hJ
    obtain ⟨oI, hoI, _⟩ := hst.1
    have hIown : (s.heap.objs.size, oI) ∈ own := hall _ (by simp) hI₀ _ hoI
    have off : ∀ p ∈ n₁, ∀ q ∈ [(s.heap.objs.size, oI)], p.1 ≠ q.1 := fun p hp q hq => by
      rw [List.mem_singleton.mp hq]; exact fun e => hoff p hp (by rw [e]; simp)
    refine wpAny_mono (turn v _ m₁ n₁ h₁ tk₁ [(s.heap.objs.size, oI)] hJ ⟨_, rfl⟩ off F₁ (fun p hp => N₁ p ?_)) (fun _ s₃ h₃ => wpAny_mono h₃ (fun f s₄ p => ?_) fun _ _ e => e) fun _ _ e => e
    · rcases List.mem_append.mp hp with hp | hp
      · rw [List.mem_singleton.mp hp]; exact List.mem_append_left _ hIown
      · exact List.mem_append_right _ hp
    · have fin : (∃ h' tk m' n', s₄ = { ({ s with heap := h₁, toks := tk₁ } : Shared) with heap := h', toks := tk } ∧ Fr h₀ env.locals h' m' ∧ News h₀ env.locals h' ([(s.heap.objs.size, oI)] ++ n') ∧ (∀ p ∈ n', ∀ q ∈ [(s.heap.objs.size, oI)], p.1 ≠ q.1) ∧ C (vs.drop (i + 1)) m' n') →
          LoopStepU h₀ env.locals [s.heap.objs.size] own (fun m n => C (vs.drop (i + 1)) m n) { s with heap := h₁, toks := tk₁ } .next s₄ := by
        rintro ⟨h', tk, m', n', e, F', N', ho, hc⟩
        refine ⟨rfl, h', tk, m', n', e, F', fun p hp => ?_, fun p hp hI => ?_, hc⟩
        · rcases List.mem_append.mp hp with hp | hp
          · rcases List.mem_cons.mp (hown p hp) with h1 | h1
            · have : p.2 = oI := by have h2 := hget p hp; rw [h1, hoI] at h2; exact (Option.some.inj h2).symm
              have e2 : p = (s.heap.objs.size, oI) := Prod.ext h1 this
              rw [e2]; exact N' _ (by simp)
            · have h2 := List.mem_singleton.mp h1
              have h3 := hget p hp
              have h4 := (N₁ _ (List.mem_append_right own (hax _ _ _ hJ))).1
              rw [h2] at h3
              have e2 : p = (ax, listOf vs.toArray c) := Prod.ext h2 (Option.some.inj (h3.symm.trans h4))
              rw [e2]; exact N' _ (List.mem_append_right _ (hax _ _ _ hc))
          · exact N' _ (List.mem_append_right _ hp)
        · exact ho p hp _ (List.mem_singleton.mpr rfl) (List.mem_singleton.mp hI)
      cases f with
      | ret v => exact .ret p
      | brk => exact .brk p
      | next => exact .next (fin p)
      | cont => exact .cont (fin p)
  · intro h' tk m' n' F' N' _ hJ
    replace hJ : C (vs.drop vs.length) m' n' := hJ
    rw [List.drop_length] at hJ
    exact done m' n' h' tk hJ F' N'
theorem loop_enum {elts : List Expr} {k : Nat} {pos : Pos} {l : Addr} {vs : List Value} {c : Nat} {m₀ : Str → Option Value} {news : List (Addr × Obj)} (C : Nat → List Value → (Str → Option Value) → List (Addr × Obj) → Prop)
    (hh : A.handled = none) (F : Fr h₀ env.locals s.heap m₀) (N : News h₀ env.locals s.heap news) (hax : ∀ i r m n, C i r m n → (l, listOf vs.toArray c) ∈ n) (hC : C 0 vs m₀ news)
    (turn : ∀ i v r m₁ n₁ h₁ tk₁ its T t, C i (v :: r) m₁ n₁ → vs[i]? = some v → (∃ p q, its = [p, q]) → (∀ p ∈ n₁, ∀ q ∈ its, p.1 ≠ q.1) → IsTup h₁ T #[.int i t, v] → Fr h₀ env.locals h₁ m₁ → News h₀ env.locals h₁ (its ++ n₁) →
      wpAny (model prog w) A (assign (.Tuple elts k pos) env (.ref T)) (fun _ s₃ => wpAny (model prog w) A (execs body env) (TEnd h₀ env.locals its { s with heap := h₁, toks := tk₁ } (C (i + 1) r) Q) E s₃) E { s with heap := h₁, toks := tk₁ })
    (done : ∀ m₁ n₁ h tk, C vs.length [] m₁ n₁ → Fr h₀ env.locals h m₁ → News h₀ env.locals h n₁ → Q .next { s with heap := h, toks := tk }) :
    wpAny (model prog w) A (call (.type "enumerate") [.ref l]) (fun xv s₁ => wpAny (model prog w) A (pyIter xv) (fun it s₂ => TurnsAt prog w A h₀ env (.Tuple elts k pos) body Q E it s₂) E s₁) E s := by
  have hm := hax _ _ _ _ hC
  have hol := N _ hm
  have hl : s.heap.IsList l vs.toArray := ⟨_, hol.1, rfl, c, rfl⟩
  have hlt : l < s.heap.objs.size := Heap.lt_size hol.1
  have hLs : env.locals < s.heap.objs.size := F.ns.lt
  refine call_enumerate_list hl fun h' hE hI hsz hk => ?_
  refine wpAny_pyIter_enum hE ?_
  have W := KTurns.ofWalksU (elts := elts) (k := k) (pos := pos) (WalksT.enumerate (prog := prog) (w := w) hh (s.heap.objs.size + 1) s.heap.objs.size l (Nat.succ_ne_self _) (ktu_ne 1 hlt) (Nat.ne_of_lt hlt) vs.toArray).toU
  have hlen : vs.toArray.size = vs.length := by simp
  rw [hlen] at W
  have hI₀ : h₀.get? s.heap.objs.size = none := ktu_new F (Nat.le_refl _)
  have hE₀ : h₀.get? (s.heap.objs.size + 1) = none := ktu_new F (Nat.le_add_right _ _)
  refine ⟨_, _, _, vs.length, _, _, _, m₀, news, fun i m n => C i (vs.drop i) m n, rfl, W, ?_, ?_, ?_, ⟨⟨.none, hE⟩, hI, hl.at fun o e => hk l o e⟩, F.keeps hk, N.grown hk, hC, ?_, ?_⟩
  · intro hI'
    have hb' : env.locals = s.heap.objs.size + 1 ∨ env.locals = s.heap.objs.size ∨ env.locals = l := by simpa using hI'
    rcases hb' with e | e | e
    · exact ktu_ne 1 hLs e
    · exact Nat.ne_of_lt hLs e
    · exact hol.2.1 e.symm
  · intro b hb
    have hb' : b = s.heap.objs.size + 1 ∨ b = s.heap.objs.size := by simpa using hb
    rcases hb' with rfl | rfl
    · exact hE₀
    · exact hI₀
  · intro p hp hI'
    have hb' : p.1 = s.heap.objs.size + 1 ∨ p.1 = s.heap.objs.size := by simpa using hI'
    have hlp := Heap.lt_size (N p hp).1
    rcases hb' with e | e
    · exact ktu_ne 1 hlp e
    · exact Nat.ne_of_lt hlp e
  · intro i v m₁ n₁ h₁ tk₁ own hlt' hP hJ hoff hown hget hall hst F₁ N₁
    obtain ⟨T, vals, rfl, ⟨t, x, hx, rfl⟩, hT⟩ := hP
    have hv : vs[i]? = some x := by simpa using hx
    have hd : vs.drop i = x :: vs.drop (i + 1) := by
      rw [List.drop_eq_getElem_cons hlt']
      congr 1
      exact Option.some.inj ((List.getElem?_eq_getElem hlt').symm.trans hv)
    replace hJ : C i (vs.drop i) m₁ n₁ := hJ
    rw [hd] at hJ
    obtain ⟨⟨old, he⟩, ⟨oI, hoI, _⟩, _⟩ := hst
    have he' : ∃ oe : Obj, h₁.get? (s.heap.objs.size + 1) = some oe := ⟨_, he⟩
    obtain ⟨oE, hoE⟩ := he'
    have hIown : (s.heap.objs.size, oI) ∈ own := hall _ (by simp) hI₀ _ hoI
    have hEown : (s.heap.objs.size + 1, oE) ∈ own := hall _ (by simp) hE₀ _ hoE
    have off : ∀ p ∈ n₁, ∀ q ∈ [(s.heap.objs.size + 1, oE), (s.heap.objs.size, oI)], p.1 ≠ q.1 := fun p hp q hq e => by
      rcases List.mem_cons.mp hq with rfl | hq
      · exact hoff p hp (by rw [e]; simp)
      · rw [List.mem_singleton.mp hq] at e; exact hoff p hp (by rw [e]; simp)
    refine wpAny_mono (turn i x _ m₁ n₁ h₁ tk₁ [(s.heap.objs.size + 1, oE), (s.heap.objs.size, oI)] T t hJ hv ⟨_, _, rfl⟩ off hT F₁ (fun p hp => N₁ p ?_)) (fun _ s₃ h₃ => wpAny_mono h₃ (fun f s₄ p => ?_) fun _ _ e => e) fun _ _ e => e
    · rcases List.mem_append.mp hp with hp | hp
      · rcases List.mem_cons.mp hp with rfl | hp
        · exact List.mem_append_left _ hEown
        · rw [List.mem_singleton.mp hp]; exact List.mem_append_left _ hIown
      · exact List.mem_append_right _ hp
    · have fin : (∃ h' tk m' n', s₄ = { ({ s with heap := h₁, toks := tk₁ } : Shared) with heap := h', toks := tk } ∧ Fr h₀ env.locals h' m' ∧ News h₀ env.locals h' ([(s.heap.objs.size + 1, oE), (s.heap.objs.size, oI)] ++ n') ∧ (∀ p ∈ n', ∀ q ∈ [(s.heap.objs.size + 1, oE), (s.heap.objs.size, oI)], p.1 ≠ q.1) ∧ C (i + 1) (vs.drop (i + 1)) m' n') →
          LoopStepU h₀ env.locals [s.heap.objs.size + 1, s.heap.objs.size] own (fun m n => C (i + 1) (vs.drop (i + 1)) m n) { s with heap := h₁, toks := tk₁ } .next s₄ := by
        rintro ⟨h', tk, m', n', e, F', N', ho, hc⟩
        refine ⟨rfl, h', tk, m', n', e, F', fun p hp => ?_, fun p hp hI => ?_, hc⟩
        · rcases List.mem_append.mp hp with hp | hp
          · rcases List.mem_cons.mp (hown p hp) with h1 | h1
            · have : p.2 = oE := by have h2 := hget p hp; rw [h1, hoE] at h2; exact (Option.some.inj h2).symm
              have e2 : p = (s.heap.objs.size + 1, oE) := Prod.ext h1 this
              rw [e2]; exact N' _ (by simp)
            rcases List.mem_cons.mp h1 with h1 | h1
            · have : p.2 = oI := by have h2 := hget p hp; rw [h1, hoI] at h2; exact (Option.some.inj h2).symm
              have e2 : p = (s.heap.objs.size, oI) := Prod.ext h1 this
              rw [e2]; exact N' _ (by simp)
            · have h2 := List.mem_singleton.mp h1
              have h3 := hget p hp
              have h4 := (N₁ _ (List.mem_append_right own (hax _ _ _ _ hJ))).1
              rw [h2] at h3
              have e2 : p = (l, listOf vs.toArray c) := Prod.ext h2 (Option.some.inj (h3.symm.trans h4))
              rw [e2]; exact N' _ (List.mem_append_right _ (hax _ _ _ _ hc))
          · exact N' _ (List.mem_append_right _ hp)
        · rcases List.mem_cons.mp hI with h1 | h1
          · exact ho p hp (s.heap.objs.size + 1, oE) (by simp) h1
          · exact ho p hp (s.heap.objs.size, oI) (by simp) (List.mem_singleton.mp h1)
      cases f with
      | ret v => exact .ret p
      | brk => exact .brk p
      | next => exact .next (fin p)
      | cont => exact .cont (fin p)
  · intro h' tk m' n' F' N' _ hJ
    replace hJ : C vs.length (vs.drop vs.length) m' n' := hJ
    rw [List.drop_length] at hJ
    exact done m' n' h' tk hJ F' N'
/-- a while, its end cut -/
noncomputable def MidEnd (h₀ : Heap) (L : Addr) (s : Shared) (C : (Str → Option Value) → List (Addr × Obj) → Prop) (s₂ : Shared) : Prop :=
  ∃ h' tk m' n', s₂ = { s with heap := h', toks := tk } ∧ Fr h₀ L h' m' ∧ News h₀ L h' n' ∧ C m' n'
noncomputable def NextEnd (h₀ : Heap) (L : Addr) (s : Shared) (J : Nat → (Str → Option Value) → List (Addr × Obj) → Prop) (n : Nat) (f : Flow) (s₂ : Shared) : Prop :=
  f = .next ∧ ∃ h' tk m' n' k, s₂ = { s with heap := h', toks := tk } ∧ Fr h₀ L h' m' ∧ News h₀ L h' n' ∧ k < n ∧ J k m' n'
theorem while_mid {L : Addr} {test : Expr} {pos : Pos} {m : Str → Option Value} {news : List (Addr × Obj)} (J : Nat → (Str → Option Value) → List (Addr × Obj) → Prop) (C : (Str → Option Value) → List (Addr × Obj) → Prop) {n₀ : Nat}
    (F : Fr h₀ L s.heap m) (N : News h₀ L s.heap news) (hJ : J n₀ m news)
    (turn : ∀ n m₁ news₁ h₁ tk₁, Fr h₀ L h₁ m₁ → News h₀ L h₁ news₁ → J n m₁ news₁ →
      wpAny (model prog w) A (isTrue test env (eval test env)) (fun b s₂ =>
        if b = true then wpAny (model prog w) A (execs body env) (NextEnd h₀ L s J n) E s₂ else MidEnd h₀ L s C s₂) E { s with heap := h₁, toks := tk₁ })
    (rest : ∀ h' tk m' n', Fr h₀ L h' m' → News h₀ L h' n' → C m' n' → Q .next { s with heap := h', toks := tk })
    (hE : PassesOwn (model prog w) A env E := by passes_own) :
    wpAny (model prog w) A (exec (.While test body [] pos) env) Q E s := by
  refine wpAny_mono (Q := fun f s₂ => f = .next ∧ MidEnd h₀ L s C s₂) (While_inv2 J F N hJ (fun n m₁ news₁ h₁ tk₁ F₁ N₁ hj => wpAny_mono (turn n m₁ news₁ h₁ tk₁ F₁ N₁ hj) (fun b s₂ p => ?_) fun _ _ e => e) hE) ?_ fun _ _ e => e
  · cases b with
    | false => exact ⟨rfl, by simpa using p⟩
    | true =>
      simp only [if_true] at p ⊢
      refine wpAny_mono p (fun f s₃ q => ?_) fun _ _ e => e
      obtain ⟨rfl, h', tk, m', n', k, e, F', N', hk, j⟩ := q
      exact ⟨h', tk, m', n', k, e, F', N', hk, j⟩
  · rintro f s₂ ⟨rfl, h', tk, m', n', rfl, F', N', c⟩
    exact rest h' tk m' n' F' N' c
end
end Mine
end
section
open PySem PySem.W PyProof.Rows
set_option maxRecDepth 100000
set_option maxHeartbeats 8000000
namespace Mine
inductive CritAll (news : List (Addr × Obj)) : List Value → List (Nat × Int) → Prop
  | nil : CritAll news [] []
  | cons {a : Addr} {i : Nat} {d : Int} {k₀ k₁ : Tok} {vs : List Value} {cs : List (Nat × Int)} : (a, tupO [.int i k₀, .int d k₁]) ∈ news → CritAll news vs cs → CritAll news (.ref a :: vs) ((i, d) :: cs)
structure JudgeIn (news : List (Addr × Obj)) (j : Addr) (cs : List (Nat × Int)) : Prop where
  at_ : (Ex7 fun dj hh tk nd ls nl ts => An4 ((j, instObj 63 dj) ∈ news) ((dj, dictOf [⟨hh, .str (Str.ofString "comp_select_list") tk, .ref ls⟩] nd) ∈ news) ((ls, listOf (List.toArray ts) nl) ∈ news) (CritAll news ts cs))
noncomputable def cmpD : List (Nat × Int) → List Dat → List Dat → Int
  | [], _, _ => 0
  | (i, d) :: r, xs, ys => match xs[i]?, ys[i]? with
    | some (.str x), some (.str y) => if x.cps.toList < y.cps.toList then -d else if y.cps.toList < x.cps.toList then d else cmpD r xs ys
    | some (.int x), some (.int y) => if x < y then -d else if y < x then d else cmpD r xs ys
    | _, _ => 0
noncomputable def CmpOk (cs : List (Nat × Int)) (xs ys : List Dat) : Prop := ∀ c ∈ cs, c.1 < 1000 ∧ ((∃ x y, xs[c.1]? = some (.str x) ∧ ys[c.1]? = some (.str y)) ∨ ∃ x y, xs[c.1]? = some (.int x) ∧ ys[c.1]? = some (.int y))
theorem item_nat {prog : Program} {w : World} {A : Around} {E : Value → Shared → Prop} {s : Shared} {value slice : PySem.Expr} {t : Addr} {l : List Value} {i : Nat} {u : Tok} {x : Value} {Q : Value → Shared → Prop} (ht : IsTup s.heap t l.toArray)
    (hi : i < 1000) (hx : l[i]? = some x) (h : Q x s)
    (hs : subscripted slice false (.ref t) (.int i u) = operate [.ref t, .int i u] (getItem (.ref t) (.int i u)) := by with_unfolding_all rfl) :
    wpAny (model prog w) A (subscriptTail value slice (.ref t) (.int (i : Int) u)) Q E s := by
  have hl : i < l.length := (List.getElem?_eq_some_iff.mp hx).1
  have e : seqIndex? (i : Int) l.length = some i := by
    unfold seqIndex?
    have h1 : ¬ ((i : Int) < 0) := by omega
    have h2 : (0 : Int) ≤ (i : Int) ∧ (i : Int) < (l.length : Int) := by omega
    simp only [h1, if_false, h2.1, h2.2, decide_true, Bool.and_self, if_true, Int.toNat_natCast]
  exact item_tupleT ht (by have : (0 : Int) ≤ (i : Int) := by omega
                           exact Int.le_trans (by decide) this) (by have : (i : Int) < 1000 := by omega
                                                                    exact Int.lt_trans this (by decide)) e hx h hs
theorem dat_str {news : List (Addr × Obj)} {vs : List Value} {ds : List Dat} {i : Nat} {x : PySem.Str} (h : DatAll news vs ds) (e : ds[i]? = some (.str x)) : ∃ t, vs[i]? = some (.str x t) := by
  obtain ⟨hi, e'⟩ := List.getElem?_eq_some_iff.mp e
  obtain ⟨v, hv, hd⟩ := h.get hi
  rw [e'] at hd
  cases hd with
  | str x t => exact ⟨t, hv⟩
theorem dat_int {news : List (Addr × Obj)} {vs : List Value} {ds : List Dat} {i : Nat} {x : Int} (h : DatAll news vs ds) (e : ds[i]? = some (.int x)) : ∃ t, vs[i]? = some (.int x t) := by
  obtain ⟨hi, e'⟩ := List.getElem?_eq_some_iff.mp e
  obtain ⟨v, hv, hd⟩ := h.get hi
  rw [e'] at hd
  cases hd with
  | int x t => exact ⟨t, hv⟩
local macro_rules | `(tactic| walk_at "TEnd") => `(tactic| ((with_reducible show TEnd _ _ _ _ _ _ (Flow.ret _) _); dsimp only [TEnd]))
local macro_rules | `(tactic| walk_at "exec For Tuple Attribute cons nil") => `(tactic| (k_here; (rename Fr _ _ _ _ => lF'); (with_unfolding_all refine' For_turns lF' ?_; k_whole)))
local macro_rules | `(tactic| walk_at "eval Name") => `(tactic| (k_here; k_dflt (refine ld (by assumption) (by with_unfolding_all assumption) ?_)))
local macro_rules | `(tactic| walk_at "subscriptTail Name Name ref int") => `(tactic| (k_here; k_dflt (refine item_nat (News.isTup (by assumption) (by k_mem)) (by assumption) (by assumption) ?_)))
theorem cmp_ok {w : World} {news : List (Addr × Obj)} {j a b : Addr} {cs : List (Nat × Int)} {xs ys : List Dat} (hj : JudgeIn news j cs) (ha : DatIn news (.ref a) (.tuple xs)) (hb : DatIn news (.ref b) (.tuple ys)) (hok : CmpOk cs xs ys) :
   Ctr 3 w 60 [.ref j, .ref a, .ref b] news fun nw v => ∃ t, v = .int (cmpD cs xs ys) t := by
  unfold Ctr
  (k_fill; w_top off)
  intro dp un gd cn cs' cA ccd cl outer A₀ base h₀ L m p loose mean mg mb s Q E B F X N T hk hdp hun hret
  refine gp fun kG4 => ?_
  obtain ⟨dj, hh, tk, nd, ls, nl, ts, m1, m2, m3, hcs⟩ := hj.at_
  refine kG4.go ?_
  refine wpAny_call ?_
  k_dflt ktr_enter
  k_steps
  rename Fr _ _ _ _ => F1
  rename News _ _ _ _ => N1
  refine gp fun kG5 => ?_
  cases ha with
  | tuple hA hAs =>
  cases hb with
  | tuple hB hBs =>
  refine kG5.go ?_
  refine loop_list (vs := ts) (c := nl) (C := fun r m n => (∃ cr, An6 (CritAll news r cr) (CmpOk cr xs ys) (cmpD cr xs ys = cmpD cs xs ys) (m (Str.ofString "left") = some (.ref a)) (m (Str.ofString "right") = some (.ref b)) (∀ p ∈ news, p ∈ n))) (by rfl) F1 N1 ?_ ?_ ?_ ?_
  · rintro r m n ⟨_, _, _, _, _, _, h⟩; exact h _ m3
  · exact ⟨cs, hcs, hok, rfl, by rfl, by rfl, fun _ h => h⟩
  · clear F1 N1
    intro v r m₁ n₁ h₁ tk₁ its hR1 hR2 off F1 N1
    refine gp fun kG6 => ?_
    obtain ⟨cr, hcr, hok', heq, hl, hr, hsub⟩ := hR1
    obtain ⟨pI, rfl⟩ := hR2
    cases hcr with
    | cons hT hrest =>
    have hT' := List.mem_append_right [pI] (hsub _ hT)
    have hA' := List.mem_append_right [pI] (hsub _ hA)
    have hB' := List.mem_append_right [pI] (hsub _ hB)
    obtain ⟨hi9, hty⟩ := hok' _ (List.mem_cons_self ..)
    refine kG6.go ?_
    rcases hty with ⟨x, y, hx, hy⟩ | ⟨x, y, hx, hy⟩
    · obtain ⟨tx, hx'⟩ := dat_str hAs hx
      obtain ⟨ty, hy'⟩ := dat_str hBs hy
      k_steps
      · exact hret _ [] _ _ (by assumption) (fun p hp => by rename News _ _ _ _ => kN; exact kN p (List.mem_append_right _ (hsub p hp))) (fun _ _ _ h => nomatch h) ⟨_, by rw [← heq]; simp only [cmpD, hx, hy]; rw [if_pos (by assumption)]⟩
      · exact hret _ [] _ _ (by assumption) (fun p hp => by rename News _ _ _ _ => kN; exact kN p (List.mem_append_right _ (hsub p hp))) (fun _ _ _ h => nomatch h) ⟨_, by rw [← heq]; simp only [cmpD, hx, hy]; rw [if_neg (by assumption), if_pos (by assumption)]⟩
      · refine TEnd.next (by assumption) (by assumption) off ⟨_, hrest, fun c hc => hok' c (List.mem_cons_of_mem _ hc), ?_, ?_, ?_, hsub⟩
        · rw [← heq]; simp only [cmpD, hx, hy]; rw [if_neg (by assumption), if_neg (by assumption)]
        · with_unfolding_all exact hl
        · with_unfolding_all exact hr
    · obtain ⟨tx, hx'⟩ := dat_int hAs hx
      obtain ⟨ty, hy'⟩ := dat_int hBs hy
      k_steps
      · exact hret _ [] _ _ (by assumption) (fun p hp => by rename News _ _ _ _ => kN; exact kN p (List.mem_append_right _ (hsub p hp))) (fun _ _ _ h => nomatch h) ⟨_, by rw [← heq]; simp only [cmpD, hx, hy]; rw [if_pos (by assumption)]⟩
      · exact hret _ [] _ _ (by assumption) (fun p hp => by rename News _ _ _ _ => kN; exact kN p (List.mem_append_right _ (hsub p hp))) (fun _ _ _ h => nomatch h) ⟨_, by rw [← heq]; simp only [cmpD, hx, hy]; rw [if_neg (by assumption), if_pos (by assumption)]⟩
      · refine TEnd.next (by assumption) (by assumption) off ⟨_, hrest, fun c hc => hok' c (List.mem_cons_of_mem _ hc), ?_, ?_, ?_, hsub⟩
        · rw [← heq]; simp only [cmpD, hx, hy]; rw [if_neg (by assumption), if_neg (by assumption)]
        · with_unfolding_all exact hl
        · with_unfolding_all exact hr
  · intro m₁ n₁ h₁ tk₁ hR3 F1 N1
    refine gp fun kG7 => ?_
    obtain ⟨cr, hcr, hok', heq, hl, hr, hsub⟩ := hR3
    cases hcr
    refine kG7.go ?_
    k_steps
    exact hret _ [] _ _ (by assumption) (fun p hp => by rename News _ _ _ _ => kN; exact kN p (hsub p hp)) (fun _ _ _ h => nomatch h) ⟨_, by rw [← heq]; rfl⟩
end Mine
end
section
open PySem PySem.W PyProof.Rows
set_option maxRecDepth 100000
set_option maxHeartbeats 8000000
namespace Mine
theorem CritAll.mono {n n' : List (Addr × Obj)} (h : ∀ p ∈ n, p ∈ n') : ∀ {vs cs}, CritAll n vs cs → CritAll n' vs cs
  | _, _, .nil => .nil
  | _, _, .cons hm r => .cons (h _ hm) (r.mono h)
theorem JudgeIn.mono {n n' : List (Addr × Obj)} {j : Addr} {cs : List (Nat × Int)} (h : ∀ p ∈ n, p ∈ n') (J : JudgeIn n j cs) : JudgeIn n' j cs := by
  refine gp fun kG8 => ?_
  obtain ⟨dj, hh, tk, nd, ls, nl, ts, m1, m2, m3, hcs⟩ := J.at_
  refine kG8.go ?_
  exact ⟨dj, hh, tk, nd, ls, nl, ts, h _ m1, h _ m2, h _ m3, hcs.mono h⟩
noncomputable def cmpDD (cs : List (Nat × Int)) : Dat → Dat → Int
  | .tuple xs, .tuple ys => cmpD cs xs ys
  | _, _ => 0
noncomputable def posD (cs : List (Nat × Int)) (done : List Dat) (row : Dat) : Nat → Nat
  | 0 => 0
  | k + 1 => match done[k]? with
    | some d => if cmpDD cs d row > 0 then posD cs done row k else k + 1
    | none => 0
noncomputable def insD (cs : List (Nat × Int)) (done : List Dat) (row : Dat) : List Dat := done.take (posD cs done row done.length) ++ row :: done.drop (posD cs done row done.length)
noncomputable def sortD (cs : List (Nat × Int)) (rows : List Dat) : List Dat := rows.foldl (insD cs) []
theorem posD_le (cs : List (Nat × Int)) (done : List Dat) (row : Dat) : ∀ k, posD cs done row k ≤ k
  | 0 => Nat.le_refl _
  | k + 1 => by
    unfold posD
    split
    · split
      · exact Nat.le_succ_of_le (posD_le cs done row k)
      · exact Nat.le_refl _
    · exact Nat.zero_le _
/-- every datum is a tuple, each two fit the judge -/
noncomputable def RowsOk (cs : List (Nat × Int)) (ds : List Dat) : Prop := (∀ d ∈ ds, ∃ xs, d = .tuple xs) ∧ ∀ xs ys, Dat.tuple xs ∈ ds → Dat.tuple ys ∈ ds → CmpOk cs xs ys
theorem datAll_ref {n : List (Addr × Obj)} {vs : List Value} {ds : List Dat} (h : DatAll n vs ds) (hr : ∀ d ∈ ds, ∃ xs, d = .tuple xs) {i : Nat} {v : Value} (e : vs[i]? = some v) : (Ex2 fun a xs => An3 (v = .ref a) (ds[i]? = some (.tuple xs)) (DatIn n (.ref a) (.tuple xs))) := by
  have hi : i < vs.length := (List.getElem?_eq_some_iff.mp e).1
  have hi' : i < ds.length := by rw [← h.length]; exact hi
  obtain ⟨v', hv, hd⟩ := h.get hi'
  obtain ⟨xs, hx⟩ := hr _ (List.getElem_mem hi')
  rw [e] at hv
  cases hv
  rw [hx] at hd
  cases hd with
  | tuple hm hs => exact ⟨_, _, rfl, by rw [List.getElem?_eq_getElem hi', hx], .tuple hm hs⟩
theorem DatAll.take' {n : List (Addr × Obj)} : ∀ {vs : List Value} {ds : List Dat} (k : Nat), DatAll n vs ds → DatAll n (vs.take k) (ds.take k)
  | _, _, 0, _ => .nil
  | _, _, _ + 1, .nil => .nil
  | _, _, k + 1, .cons h r => .cons h (DatAll.take' k r)
theorem DatAll.drop' {n : List (Addr × Obj)} : ∀ {vs : List Value} {ds : List Dat} (k : Nat), DatAll n vs ds → DatAll n (vs.drop k) (ds.drop k)
  | _, _, 0, h => h
  | _, _, _ + 1, .nil => .nil
  | _, _, k + 1, .cons _ r => DatAll.drop' k r
theorem ins_dat {n : List (Addr × Obj)} {us : List Value} {es : List Dat} {cs : List (Nat × Int)} {d : Dat} {v : Value} {ki : Int} {k : Nat} (h : DatAll n us es) (hv : DatIn n v d) (hk : ki = (k : Int)) (hle : k ≤ es.length) (hp : k = posD cs es d es.length) :
    DatAll n (kl_ins us ki v) (insD cs es d) := by
  have hl := h.length
  subst hk
  unfold kl_ins insD
  rw [if_neg (by omega), ← hp, show min (k : Int).toNat us.length = k by omega]
  exact (DatAll.take' k h).append (.cons hv (DatAll.drop' k h))
theorem insD_mem {cs : List (Nat × Int)} {es : List Dat} {d x : Dat} (h : x ∈ insD cs es d) : x = d ∨ x ∈ es := by
  unfold insD at h
  rcases List.mem_append.mp h with h | h
  · exact .inr (List.mem_of_mem_take h)
  · rcases List.mem_cons.mp h with h | h
    · exact .inl h
    · exact .inr (List.mem_of_mem_drop h)
theorem insD_length {cs : List (Nat × Int)} {es : List Dat} {d : Dat} : (insD cs es d).length = es.length + 1 := by
  unfold insD
  have := posD_le cs es d es.length
  rw [List.length_append, List.length_cons, List.length_take, List.length_drop]
  omega
theorem fits_small {x : Int} (h0 : 0 ≤ x) (h : x < 100000) : Builtin.List.listFitsIndex x = true := by
  unfold Builtin.List.listFitsIndex
  rw [Bool.and_eq_true, decide_eq_true_eq, decide_eq_true_eq]
  constructor
  · exact Int.le_trans (by decide) h0
  · exact Int.lt_trans h (by decide)
local macro_rules | `(tactic| walk_at "TEnd") => `(tactic| ((with_reducible show TEnd _ _ _ _ _ _ (Flow.ret _) _); dsimp only [TEnd]))
local macro_rules | `(tactic| walk_at "eval Name") => `(tactic| (k_here; k_dflt (refine ld (by assumption) (by with_unfolding_all assumption) ?_)))
local macro_rules | `(tactic| walk_at "exec For Name Name cons nil") => `(tactic| (k_here; (rename Fr _ _ _ _ => lF'); (with_unfolding_all refine' For_turns lF' ?_; k_whole)))
local macro_rules | `(tactic| walk_at "loadName") => `(tactic| (k_here; k_dflt (refine ldn (by assumption) (by with_unfolding_all assumption) ?_)))
local macro_rules | `(tactic| walk_at "exec While") => `(tactic| (k_here; refine hold ?_))
local macro_rules | `(tactic| walk_at "call ref") => `(tactic| (k_here; (with_reducible show wpAny _ _ (call (Value.ref 60) _ _) _ _ _); refine hold ?_))local macro_rules | `(tactic| walk_at "subscriptTail Name BinOp ref int") => `(tactic| (k_here; refine hold ?_))
local macro_rules | `(tactic| k_mem) => `(tactic| (first | assumption | exact List.Mem.head _ | (refine' List.Mem.tail _ ?_; k_mem)))
theorem item_list {prog : Program} {w : World} {A : Around} {E : Value → Shared → Prop} {s : Shared} {value slice : PySem.Expr} {h₀ : Heap} {L t : Addr} {news : List (Addr × Obj)} {l : List Value} {c : Nat} {i : Int} {u : Tok} {x : Value} {Q : Value → Shared → Prop} (N : News h₀ L s.heap news) (hm : (t, listOf l.toArray c) ∈ news)
    (h0 : 0 ≤ i) (hi : i < 1000000) (hx : l[i.toNat]? = some x) (h : Q x s)
    (hs : subscripted slice false (.ref t) (.int i u) = operate [.ref t, .int i u] (getItem (.ref t) (.int i u)) := by with_unfolding_all rfl) :
    wpAny (model prog w) A (subscriptTail value slice (.ref t) (.int i u)) Q E s :=
  have hl : s.heap.IsList t l.toArray := N.isList hm
  tail_any hl.typeIs slot_list_getitem.lookup (wpAny_getItem_list hl h0 (by omega) (by simpa using hx) h) hs
theorem len_led {prog : Program} {w : World} {A : Around} {E : Value → Shared → Prop} {s : Shared} {h₀ : Heap} {L t : Addr} {news : List (Addr × Obj)} {l : List Value} {c k : Nat} {Q : Value → Shared → Prop} (N : News h₀ L s.heap news) (hm : (t, listOf l.toArray c) ∈ news)
    (hl : l.length = k) (hk : k ≤ 1000000) (h : Q (.int (k : Int) (s.toks + 1)) { s with toks := s.toks + 1 + 1 }) : wpAny (model prog w) A (call (.builtin "len") [.ref t]) Q E s :=
  have e : l.toArray.size = k := by rw [List.size_toArray, hl]
  PyProof.Rows.len_list (N.isList hm) (by rw [e]; omega) (by rw [e]; exact h)
theorem sorted_ok {w : World} {news : List (Addr × Obj)} {j l : Addr} {cs : List (Nat × Int)} {vs : List Value} {ds : List Dat} {nr : Nat} 
   (hj : JudgeIn news j cs) (hl : (l, listOf vs.toArray nr) ∈ news) (hd : DatAll news vs ds) (hok : RowsOk cs ds) (hlen : ds.length ≤ 1000) :
   Ctr 8 w 255 [.ref l, .ref j] news fun nw v => (Ex3 fun D us c => An3 (v = .ref D) ((D, listOf (List.toArray us) c) ∈ nw) (DatAll nw us (sortD cs ds))) := by
  unfold Ctr
  (k_fill; w_top off)
  intro dp un gd cn cs' cA ccd cl outer A₀ base h₀ L m p loose mean mg mb s Q E B F X N T hk hdp hun hret
  refine wpAny_call ?_
  k_dflt ktr_enter
  k_steps
  rename Fr _ _ _ _ => F1
  rename News _ _ _ _ => N1
  rename (∀ p ∈ news, p.1 < _) => hlt
  rename_i D _ _
  refine loop_list (vs := vs) (c := nr) (C := fun r m n => (Ex4 fun us c es dr => An9 (n = (D, listOf (List.toArray us) c) :: news) (DatAll news us es) (DatAll news r dr) ((∀ d ∈ es, d ∈ ds)) ((∀ d ∈ dr, d ∈ ds)) (dr.foldl (insD cs) es = sortD cs ds) (es.length + dr.length ≤ 1000) (m (PySem.Str.ofString "done") = some (.ref D)) (m (PySem.Str.ofString "judge") = some (.ref j)))) (by rfl) F1 N1 ?_ ?_ ?_ ?_
  · rintro r m n ⟨_, _, _, _, rfl, _⟩; exact List.mem_cons_of_mem _ hl
  · exact ⟨[], 0, [], ds, rfl, .nil, hd, (fun _ h => nomatch h), (fun _ h => h), rfl, by simpa using hlen, by rfl, by rfl⟩
  · clear F1 N1
    intro v r m₁ n₁ h₁ tk₁ its hR9 hR10 off F1 N1
    refine gp fun kG13 => ?_
    obtain ⟨us, c, es, dr, rfl, hus, hrs, hes, hdr, hfold, hle, hmd, hmj⟩ := hR9
    obtain ⟨pI, rfl⟩ := hR10
    cases hrs with
    | cons hv hrest =>
    rename_i d dr
    simp only [List.cons_append, List.nil_append] at N1
    obtain ⟨xs, rfl⟩ := hok.1 _ (hdr _ (List.mem_cons_self ..))
    cases hv with
    | tuple hvm hvs =>
    refine kG13.go ?_
    rename_i aR vsR nR
    k_steps
    refine Hold.mk ?_
    rename Fr _ _ _ _ => F2
    rename News _ _ _ _ => N2
    refine While_inv2 (fun n m nx => nx = pI :: (D, listOf (List.toArray us) c) :: news ∧ n ≤ es.length ∧ (∃ ki tk, m (PySem.Str.ofString "k") = some (.int ki tk) ∧ ki = (n : Int)) ∧ posD cs es (.tuple xs) n = posD cs es (.tuple xs) es.length ∧
      m (PySem.Str.ofString "done") = some (.ref D) ∧ m (PySem.Str.ofString "judge") = some (.ref j) ∧ m (PySem.Str.ofString "row") = some (.ref aR)) (n₀ := es.length) F2 N2 ?_ ?_
    · exact ⟨rfl, Nat.le_refl _, ⟨_, _, by rfl, rfl⟩, rfl, by with_unfolding_all exact hmd, by with_unfolding_all exact hmj, by rfl⟩
    · clear F2 N2
      intro n m₂ n₂ h₂ tk₂ F3 N3 hR11
      refine gp fun kG14 => ?_
      obtain ⟨rfl, hn, ⟨ki, tki, hk1, hk2⟩, hpos, hmd2, hmj2, hmr2⟩ := hR11
      obtain ⟨dj, hh, tkj, nd, ls, nl, ts, m1, m2, m3, hcs⟩ := hj.at_
      refine kG14.go ?_
      have hDn : ∀ p ∈ news, p.1 ≠ D := fun p hp => Nat.ne_of_lt (hlt p hp)
      have hID : pI.1 ≠ D := fun e => off _ (List.mem_cons_self ..) _ (List.mem_singleton.mpr rfl) e.symm
      have hrow : DatIn news (.ref aR) (.tuple xs) := .tuple hvm hvs
      have husl : us.length = es.length := hus.length
      have hle1 : es.length ≤ 1000 := Nat.le_trans (Nat.le_add_right _ _) hle
      k_steps
      · refine Hold.mk ?_
        have hpos0 : 0 < ki := by assumption
        refine gp fun kG15 => ?_
        obtain ⟨n', rfl⟩ : ∃ n', n = n' + 1 := ⟨n - 1, by omega⟩
        have hn1 : n' < us.length := by omega
        have hx : us[n']? = some us[n'] := List.getElem?_eq_getElem hn1
        obtain ⟨b, ys, hvb, hesb, hdb⟩ := datAll_ref hus (fun d hd => hok.1 d (hes d hd)) hx
        refine kG15.go ?_
        rw [hvb] at hx
        have hmem : Dat.tuple ys ∈ ds := hes _ (List.mem_of_getElem? hesb)
        have hcmp : CmpOk cs ys xs := hok.2 _ _ hmem (hdr _ (List.mem_cons_self ..))
        refine item_list (l := us) (c := c) (x := .ref b) N3 (List.mem_cons_of_mem _ (List.mem_cons_self ..)) (by omega) (by omega) (by rw [show (ki - 1).toNat = n' by omega]; exact hx) ?_
        k_steps
        refine Hold.mk ?_
        have sub : ∀ p ∈ news, p ∈ pI :: (D, listOf (List.toArray us) c) :: news := fun p hp => List.mem_cons_of_mem _ (List.mem_cons_of_mem _ hp)
        k_dflt (refine' Ctr.use (cmp_ok (hj.mono sub) (hdb.mono sub) (hrow.mono sub) hcmp) ?B F3 ?X N3 ?T ?K ?d ?u ?_; (case B => k_asm); (case X => k_asm); (case T => k_asm); (case K => exact rfl); (case d => ktr_room); (case u => ktr_units))
        intro v' tl h' tk' F4 N4 _ hv'
        obtain ⟨t', rfl⟩ := hv'
        have N4' : News _ _ h' (pI :: (D, listOf (List.toArray us) c) :: news) := fun p hp => N4 p (List.mem_append_right _ hp)
        clear N4
        k_steps
        · refine ⟨_, _, _, _, n', rfl, by assumption, by assumption, Nat.lt_succ_self _, rfl, by omega, ⟨_, _, by rfl, by omega⟩, ?_, by with_unfolding_all exact hmd2, by with_unfolding_all exact hmj2, by with_unfolding_all exact hmr2⟩
          rw [← hpos]
          conv => rhs; unfold posD
          rw [hesb]
          exact (if_pos (by assumption)).symm
        · have hpk : n' + 1 = posD cs es (.tuple xs) es.length := by
            rw [← hpos]
            conv => rhs; unfold posD
            rw [hesb]
            exact (if_neg (by assumption)).symm
          rename Fr _ _ _ _ => F5
          rename News _ _ _ _ => N5
          refine kl_insert (D := D) (its := us.toArray) (n := c) (news' := pI :: (D, listOf (kl_ins us ki (.ref aR)).toArray (c + 1)) :: news) F5 N5 (fits_small (by omega) (by omega)) (by rfl) (Upd.tail hID (Upd.head hDn)) (by show us.length ≤ _; rw [husl]; exact Nat.le_trans hle1 (by decide)) ?_
          intro h' F' N'
          k_steps
          refine TEnd.next (its := [pI]) (n' := (D, listOf (kl_ins us ki (.ref aR)).toArray (c + 1)) :: news) (by assumption) (by assumption) (fun p hp q hq => ?_) ⟨_, _, insD cs es (.tuple xs), dr, rfl, ins_dat hus hrow hk2 hn hpk, hrest, fun d hd => (insD_mem hd).elim (fun e => e ▸ hdr _ (List.mem_cons_self ..)) (hes d), fun d hd => hdr d (List.mem_cons_of_mem _ hd), hfold, by rw [insD_length]; simp only [List.length_cons] at hle; omega, hmd2, hmj2⟩
          rcases List.mem_cons.mp hp with rfl | hp
          · rw [List.mem_singleton.mp hq]; exact Ne.symm hID
          · exact off p (List.mem_cons_of_mem _ hp) q hq
      · have hpk : n = posD cs es (.tuple xs) es.length := by
          rw [← hpos, show n = 0 by omega]; rfl
        rename Fr _ _ _ _ => F5
        rename News _ _ _ _ => N5
        refine kl_insert (D := D) (its := us.toArray) (n := c) (news' := pI :: (D, listOf (kl_ins us ki (.ref aR)).toArray (c + 1)) :: news) F5 N5 (fits_small (by omega) (by omega)) (by rfl) (Upd.tail hID (Upd.head hDn)) (by show us.length ≤ _; rw [husl]; exact Nat.le_trans hle1 (by decide)) ?_
        intro h' F' N'
        k_steps
        refine TEnd.next (its := [pI]) (n' := (D, listOf (kl_ins us ki (.ref aR)).toArray (c + 1)) :: news) (by assumption) (by assumption) (fun p hp q hq => ?_) ⟨_, _, insD cs es (.tuple xs), dr, rfl, ins_dat hus hrow hk2 hn hpk, hrest, fun d hd => (insD_mem hd).elim (fun e => e ▸ hdr _ (List.mem_cons_self ..)) (hes d), fun d hd => hdr d (List.mem_cons_of_mem _ hd), hfold, by rw [insD_length]; simp only [List.length_cons] at hle; omega, hmd2, hmj2⟩
        rcases List.mem_cons.mp hp with rfl | hp
        · rw [List.mem_singleton.mp hq]; exact Ne.symm hID
        · exact off p (List.mem_cons_of_mem _ hp) q hq
  · intro m₁ n₁ h₁ tk₁ hR12 F1 N1
    refine gp fun kG16 => ?_
    obtain ⟨us, c, es, dr, rfl, hus, hrs, hes, hdr, hfold, hle, hmd, hmj⟩ := hR12
    cases hrs
    refine kG16.go ?_
    k_steps
    rename Fr h₀ _ _ _ => kF
    rename News h₀ _ _ _ => kN
    exact hret _ [(D, listOf (List.toArray us) c)] _ _ kF kN (fun q hq p hp => by rw [List.mem_singleton.mp hp]; exact hlt q hq) ⟨D, us, c, rfl, List.mem_cons_self .., by rw [← hfold]; exact hus.mono fun p hp => List.mem_cons_of_mem _ hp⟩
end Mine
end
section
open PySem PySem.W PyProof.Rows
set_option maxRecDepth 100000
set_option maxHeartbeats 8000000
namespace Mine
noncomputable def glue : Dat → Dat → Dat
  | .tuple xs, .tuple ys => .tuple (xs ++ ys.drop 1)
  | d, _ => d
noncomputable def restD (cs : List (Nat × Int)) (rest : List Dat) (row : Dat) : List Dat := rest.dropWhile fun d => decide (cmpDD cs d row < 0)
noncomputable def hitsD (cs : List (Nat × Int)) (rest : List Dat) (row : Dat) : List Dat := (rest.takeWhile fun d => decide (cmpDD cs d row = 0)).map (glue row)
noncomputable def sideStep (cs : List (Nat × Int)) (st : List Dat × List Dat) (row : Dat) : List Dat × List Dat := (restD cs st.1 row, st.2 ++ hitsD cs (restD cs st.1 row) row)
noncomputable def sideD (cs : List (Nat × Int)) (left right : List Dat) : List Dat := (left.foldl (sideStep cs) (right, [])).2
local macro_rules | `(tactic| walk_at "TEnd") => `(tactic| ((with_reducible show TEnd _ _ _ _ _ _ (Flow.ret _) _); dsimp only [TEnd]))
local macro_rules | `(tactic| walk_at "eval Name") => `(tactic| (k_here; k_dflt (refine ld (by assumption) (by with_unfolding_all assumption) ?_)))
local macro_rules | `(tactic| walk_at "exec For Name Name cons nil") => `(tactic| (k_here; (rename Fr _ _ _ _ => lF'); (with_unfolding_all refine' For_turns lF' ?_; k_whole)))
local macro_rules | `(tactic| walk_at "loadName") => `(tactic| (k_here; k_dflt (refine ldn (by assumption) (by with_unfolding_all assumption) ?_)))
local macro_rules | `(tactic| walk_at "exec While") => `(tactic| (k_here; refine hold ?_))
local macro_rules | `(tactic| walk_at "call ref") => `(tactic| (k_here; (with_reducible show wpAny _ _ (call (Value.ref 60) _ _) _ _ _); refine hold ?_))
local macro_rules | `(tactic| walk_at "subscriptTail Name Name ref int") => `(tactic| (k_here; refine hold ?_))
local macro_rules | `(tactic| k_mem) => `(tactic| (first | assumption | exact List.Mem.head _ | (refine' List.Mem.tail _ ?_; k_mem)))
local macro_rules | `(tactic| walk_at "call builtin:len") => `(tactic| (k_here; k_dflt (refine len_led (by assumption) (by k_mem) (by assumption) (by omega) ?_)))
local macro_rules | `(tactic| walk_at "subscriptTail Subscript Slice ref ref") => `(tactic| (k_here; refine hold ?_))
local macro_rules | `(tactic| walk_at "binaryOp Add ref ref") => `(tactic| (k_here; refine hold ?_))
local macro_rules | `(tactic| walk_at "call builtin:list.append") => `(tactic| (k_here; refine hold ?_))
theorem dropWhile_at {α : Type} {p : α → Bool} {l : List α} {k : Nat} {x : α} (e : l[k]? = some x) : (l.drop k).dropWhile p = if p x then (l.drop (k + 1)).dropWhile p else l.drop k := by
  obtain ⟨hk, hx⟩ := List.getElem?_eq_some_iff.mp e
  rw [List.drop_eq_getElem_cons hk, hx, List.dropWhile_cons]
theorem takeWhile_at {α : Type} {p : α → Bool} {l : List α} {k : Nat} {x : α} (e : l[k]? = some x) : (l.drop k).takeWhile p = if p x then x :: (l.drop (k + 1)).takeWhile p else [] := by
  obtain ⟨hk, hx⟩ := List.getElem?_eq_some_iff.mp e
  rw [List.drop_eq_getElem_cons hk, hx, List.takeWhile_cons]
theorem hits_one {cs : List (Nat × Int)} {dr : List Dat} {row d : Dat} {jj : Nat} (e : dr[jj]? = some d) (h : cmpDD cs d row = 0) : hitsD cs (dr.drop jj) row = glue row d :: hitsD cs (dr.drop (jj + 1)) row := by
  unfold hitsD
  rw [takeWhile_at e, if_pos (decide_eq_true h), List.map_cons]
theorem hits_none {cs : List (Nat × Int)} {dr : List Dat} {row d : Dat} {jj : Nat} (e : dr[jj]? = some d) (h : ¬ cmpDD cs d row = 0) : hitsD cs (dr.drop jj) row = [] := by
  unfold hitsD
  rw [takeWhile_at e, if_neg (by rw [decide_eq_true_eq]; exact h), List.map_nil]
theorem hits_out {cs : List (Nat × Int)} {dr : List Dat} {row : Dat} {jj : Nat} (h : dr.length ≤ jj) : hitsD cs (dr.drop jj) row = [] := by
  rw [List.drop_of_length_le h]; rfl
theorem hits_len {cs : List (Nat × Int)} {rest : List Dat} {row : Dat} : (hitsD cs rest row).length ≤ rest.length := by
  unfold hitsD
  rw [List.length_map]
  exact List.IsPrefix.length_le (List.takeWhile_prefix _)
theorem side_ok {w : World} {news : List (Addr × Obj)} {j ll lr : Addr} {cs : List (Nat × Int)} {vl vr : List Value} {dl dr : List Dat} {nl nr : Nat} 
   (hj : JudgeIn news j cs) (hl : (ll, listOf vl.toArray nl) ∈ news) (hdl : DatAll news vl dl) (hr : (lr, listOf vr.toArray nr) ∈ news) (hdr : DatAll news vr dr)
   (hokl : ∀ d ∈ dl, ∃ xs, d = .tuple xs) (hokr : ∀ d ∈ dr, ∃ xs, d = .tuple xs) (hok : ∀ xs ys, Dat.tuple xs ∈ dl → Dat.tuple ys ∈ dr → CmpOk cs ys xs ∧ 1 ≤ xs.length ∧ xs.length ≤ 10 ∧ 2 ≤ ys.length ∧ ys.length ≤ 10) (hlenl : dl.length ≤ 1000) (hlenr : dr.length ≤ 1000) :
   Ctr 8 w 262 [.ref ll, .ref lr, .ref j] news fun nw v => (Ex3 fun D us c => An3 (v = .ref D) ((D, listOf (List.toArray us) c) ∈ nw) (DatAll nw us (sideD cs dl dr))) := by
  unfold Ctr
  (k_fill; w_top off)
  intro dp un gd cn cs' cA ccd cl outer A₀ base h₀ L m p loose mean mg mb s Q E B F X N T hk hdp hun hret
  refine wpAny_call ?_
  k_dflt ktr_enter
  k_steps
  rename Fr _ _ _ _ => F1
  rename News _ _ _ _ => N1
  rename (∀ p ∈ news, p.1 < _) => hlt
  rename_i D _ _ _
  refine loop_list (vs := vl) (c := nl) (C := fun r m n => (Ex8 fun us c es dlr kI tkk k rest => An14 (n = (D, listOf (List.toArray us) c) :: rest) ((∀ p ∈ news, p ∈ rest)) ((∀ p ∈ rest, p.1 ≠ D ∧ (p ∈ news ∨ ∀ q ∈ news, q.1 < p.1))) (DatAll rest us es) (DatAll news r dlr) ((∀ d ∈ dlr, d ∈ dl)) ((dlr.foldl (sideStep cs) (dr.drop k, es)).2 = sideD cs dl dr) (k ≤ dr.length) (es.length + dlr.length * 1000 ≤ 1000000) (m (PySem.Str.ofString "k") = some (.int kI tkk)) (kI = (k : Int)) (m (PySem.Str.ofString "joined") = some (.ref D)) (m (PySem.Str.ofString "judge") = some (.ref j)) (m (PySem.Str.ofString "right") = some (.ref lr)))) (by rfl) F1 N1 ?_ ?_ ?_ ?_
  · rintro r m n ⟨_, _, _, _, _, _, _, _, rfl, hs, _⟩; exact List.mem_cons_of_mem _ (hs _ hl)
  · exact ⟨[], 0, [], dl, 0, _, 0, news, rfl, fun _ h => h, fun p hp => ⟨Nat.ne_of_lt (hlt p hp), .inl hp⟩, .nil, hdl, fun _ h => h, rfl, Nat.zero_le _, by simp only [List.length_nil]; omega, by rfl, rfl, by rfl, by rfl, by rfl⟩
  · clear F1 N1
    intro v r m₁ n₁ h₁ tk₁ its hR17 hR18 off F1 N1
    refine gp fun kG24 => ?_
    obtain ⟨us, c, es, dlr, kI, tkk, k, rest, rfl, hsub, hoffD, hus, hrs, hdlr, hfold, hkle, hle, hmk, hkI, hmd, hmj, hmr⟩ := hR17
    obtain ⟨pI, rfl⟩ := hR18
    cases hrs with
    | cons hv hrest =>
    rename_i d dlr
    simp only [List.cons_append, List.nil_append] at N1
    obtain ⟨xs, rfl⟩ := hokl _ (hdlr _ (List.mem_cons_self ..))
    cases hv with
    | tuple hvm hvs =>
    rename_i aR vsR nR
    obtain ⟨dj, hh, tkj, nd, ls, nls, ts, m1, m2, m3, hcs⟩ := hj.at_
    refine kG24.go ?_
    have hrow : DatIn news (.ref aR) (.tuple xs) := .tuple hvm hvs
    have hrl : vr.length = dr.length := hdr.length
    have hoffI : ∀ p ∈ rest, p.1 ≠ pI.1 := fun p hp => off p (List.mem_cons_of_mem _ hp) _ (List.mem_singleton.mpr rfl)
    have hID : pI.1 ≠ D := fun e => off _ (List.mem_cons_self ..) _ (List.mem_singleton.mpr rfl) e.symm
    have m1' := hsub _ m1
    have m2' := hsub _ m2
    have hr' := hsub _ hr
    have sub : ∀ p ∈ news, p ∈ pI :: (D, listOf (List.toArray us) c) :: rest := fun p hp => List.mem_cons_of_mem _ (List.mem_cons_of_mem _ (hsub p hp))
    k_steps
    refine Hold.mk ?_
    rename Fr _ _ _ _ => F2
    rename News _ _ _ _ => N2
    refine while_mid (fun n m nx => nx = pI :: (D, listOf (List.toArray us) c) :: rest ∧ ∃ ki' tki' k', n = dr.length - k' ∧ k' ≤ dr.length ∧ restD cs (dr.drop k') (.tuple xs) = restD cs (dr.drop k) (.tuple xs) ∧ m (PySem.Str.ofString "k") = some (.int ki' tki') ∧ ki' = (k' : Int) ∧
      m (PySem.Str.ofString "joined") = some (.ref D) ∧ m (PySem.Str.ofString "judge") = some (.ref j) ∧ m (PySem.Str.ofString "right") = some (.ref lr) ∧ m (PySem.Str.ofString "row") = some (.ref aR))
      (fun m nx => nx = pI :: (D, listOf (List.toArray us) c) :: rest ∧ ∃ ki' tki' k', k' ≤ dr.length ∧ dr.drop k' = restD cs (dr.drop k) (.tuple xs) ∧ m (PySem.Str.ofString "k") = some (.int ki' tki') ∧ ki' = (k' : Int) ∧
      m (PySem.Str.ofString "joined") = some (.ref D) ∧ m (PySem.Str.ofString "judge") = some (.ref j) ∧ m (PySem.Str.ofString "right") = some (.ref lr) ∧ m (PySem.Str.ofString "row") = some (.ref aR))
      (n₀ := dr.length - k) F2 N2 ?_ ?_ ?_
    · exact ⟨rfl, kI, tkk, k, rfl, hkle, rfl, by with_unfolding_all exact hmk, hkI, by with_unfolding_all exact hmd, by with_unfolding_all exact hmj, by with_unfolding_all exact hmr, by rfl⟩
    · clear F2 N2
      intro n m₂ n₂ h₂ tk₂ F3 N3 hR19
      refine gp fun kG25 => ?_
      obtain ⟨rfl, ki, tki, k', rfl, hk'l, hdrop, hk1, hk2, hmd2, hmj2, hmr2, hmw2⟩ := hR19
      refine kG25.go ?_
      k_steps
      · refine Hold.mk ?_
        have hlt1 : ki < (dr.length : Int) := by assumption
        have hn1 : k' < vr.length := by omega
        have hx : vr[k']? = some vr[k'] := List.getElem?_eq_getElem hn1
        refine gp fun kG26 => ?_
        obtain ⟨b, ys, hvb, hdb', hdb⟩ := datAll_ref hdr hokr hx
        refine kG26.go ?_
        rw [hvb] at hx
        have hcmp : CmpOk cs ys xs := (hok _ _ (hdlr _ (List.mem_cons_self ..)) (List.mem_of_getElem? hdb')).1
        refine item_list (l := vr) (c := nr) (x := .ref b) N3 (sub _ hr) (by omega) (by omega) (by rw [show ki.toNat = k' by omega]; exact hx) ?_
        k_steps
        refine Hold.mk ?_
        k_dflt (refine' Ctr.use (cmp_ok (hj.mono sub) (hdb.mono sub) (hrow.mono sub) hcmp) ?B F3 ?X N3 ?T ?K ?d ?u ?_; (case B => k_asm); (case X => k_asm); (case T => k_asm); (case K => exact rfl); (case d => ktr_room); (case u => ktr_units))
        intro v' tl h' tk' F4 N4 _ hv'
        obtain ⟨t', rfl⟩ := hv'
        have N4' : News _ _ h' (pI :: (D, listOf (List.toArray us) c) :: rest) := fun p hp => N4 p (List.mem_append_right _ hp)
        clear N4
        k_steps
        · refine ⟨rfl, _, _, _, _, dr.length - (k' + 1), rfl, by assumption, by assumption, by omega, rfl, _, _, k' + 1, rfl, by omega, ?_, by rfl, by omega, by with_unfolding_all exact hmd2, by with_unfolding_all exact hmj2, by with_unfolding_all exact hmr2, by with_unfolding_all exact hmw2⟩
          rw [← hdrop]
          unfold restD
          rw [dropWhile_at hdb', if_pos (decide_eq_true (by assumption))]
        · refine ⟨_, _, _, _, rfl, by assumption, by assumption, rfl, _, _, k', hk'l, ?_, hk1, hk2, hmd2, hmj2, hmr2, hmw2⟩
          rw [← hdrop]
          unfold restD
          rw [dropWhile_at hdb', if_neg]
          rw [decide_eq_true_eq]
          assumption
      · refine ⟨_, _, _, _, rfl, by assumption, by assumption, rfl, _, _, k', hk'l, ?_, hk1, hk2, hmd2, hmj2, hmr2, hmw2⟩
        rw [← hdrop, List.drop_of_length_le (by omega)]
        rfl
    · clear F2 N2
      intro h₃ tk₃ m₃ n₃ F3 N3 hR20
      refine gp fun kG27 => ?_
      obtain ⟨rfl, ki, tki, k', hk'l, hdrop, hk1, hk2, hmd2, hmj2, hmr2, hmw2⟩ := hR20
      refine kG27.go ?_
      k_steps
      refine Hold.mk ?_
      rename Fr _ _ _ _ => F4
      rename News _ _ _ _ => N4
      skip
      refine while_mid (fun n m nx => (Ex7 fun us' c' es' rest' jI tkj' jj => An17 (nx = pI :: (D, listOf (List.toArray us') c') :: rest') ((∀ p ∈ rest, p ∈ rest')) ((∀ p ∈ rest', p.1 ≠ D ∧ (p ∈ news ∨ ∀ q ∈ news, q.1 < p.1))) ((∀ p ∈ rest', p.1 ≠ pI.1)) (DatAll rest' us' es') (es' ++ hitsD cs (dr.drop jj) (.tuple xs) = es ++ hitsD cs (dr.drop k') (.tuple xs)) (n = dr.length - jj) (k' ≤ jj) (jj ≤ dr.length) (es'.length ≤ es.length + (jj - k')) (m (PySem.Str.ofString "j") = some (.int jI tkj')) (jI = (jj : Int)) (m (PySem.Str.ofString "k") = some (.int ki tki)) (m (PySem.Str.ofString "joined") = some (.ref D)) (m (PySem.Str.ofString "judge") = some (.ref j)) (m (PySem.Str.ofString "right") = some (.ref lr)) (m (PySem.Str.ofString "row") = some (.ref aR))))
        (fun m nx => (Ex4 fun us' c' es' rest' => An11 (nx = pI :: (D, listOf (List.toArray us') c') :: rest') ((∀ p ∈ rest, p ∈ rest')) ((∀ p ∈ rest', p.1 ≠ D ∧ (p ∈ news ∨ ∀ q ∈ news, q.1 < p.1))) ((∀ p ∈ rest', p.1 ≠ pI.1)) (DatAll rest' us' es') (es' = es ++ hitsD cs (dr.drop k') (.tuple xs)) (es'.length ≤ es.length + 1000) (m (PySem.Str.ofString "k") = some (.int ki tki)) (m (PySem.Str.ofString "joined") = some (.ref D)) (m (PySem.Str.ofString "judge") = some (.ref j)) (m (PySem.Str.ofString "right") = some (.ref lr))))
        (n₀ := dr.length - k') F4 N4 ?_ ?_ ?_
      · exact ⟨us, c, es, rest, ki, tki, k', rfl, fun _ h => h, hoffD, hoffI, hus, rfl, rfl, Nat.le_refl _, hk'l, Nat.le_add_right _ _, by rfl, hk2, by with_unfolding_all exact hk1, by with_unfolding_all exact hmd2, by with_unfolding_all exact hmj2, by with_unfolding_all exact hmr2, by with_unfolding_all exact hmw2⟩
      · clear F4 N4
        intro n m₂ n₂ h₂ tk₂ F3 N3 hR21
        refine gp fun kG28 => ?_
        obtain ⟨us', c', es', rest', jI, tkj', jj, rfl, hsub', hoffD', hoffI', hus', heq', rfl, hkj, hjl, hlen', hj1, hj2, hk3, hmd3, hmj3, hmr3, hmw3⟩ := hR21
        refine kG28.go ?_
        have sub' : ∀ p ∈ news, p ∈ pI :: (D, listOf (List.toArray us') c') :: rest' := fun p hp => List.mem_cons_of_mem _ (List.mem_cons_of_mem _ (hsub' _ (hsub p hp)))
        have m1'' := hsub' _ m1'
        have m2'' := hsub' _ m2'
        have hr'' := hsub' _ hr'
        k_steps
        · refine Hold.mk ?_
          have hlt1 : jI < (dr.length : Int) := by assumption
          have hn1 : jj < vr.length := by omega
          have hx : vr[jj]? = some vr[jj] := List.getElem?_eq_getElem hn1
          refine gp fun kG29 => ?_
          obtain ⟨b, ys, hvb, hdb', hdb⟩ := datAll_ref hdr hokr hx
          rw [hvb] at hx
          obtain ⟨hcmp, hx1, hxl, hy1, hyl⟩ := hok _ _ (hdlr _ (List.mem_cons_self ..)) (List.mem_of_getElem? hdb')
          refine kG29.go ?_
          refine item_list (l := vr) (c := nr) (x := .ref b) N3 (sub' _ hr) (by omega) (by omega) (by rw [show jI.toNat = jj by omega]; exact hx) ?_
          k_steps
          refine Hold.mk ?_
          k_dflt (refine' Ctr.use (cmp_ok (hj.mono sub') (hdb.mono sub') (hrow.mono sub') hcmp) ?B F3 ?X N3 ?T ?K ?d ?u ?_; (case B => k_asm); (case X => k_asm); (case T => k_asm); (case K => exact rfl); (case d => ktr_room); (case u => ktr_units))
          intro v' tl h' tk' F4 N4 _ hv'
          obtain ⟨t', rfl⟩ := hv'
          have N4' : News _ _ h' (pI :: (D, listOf (List.toArray us') c') :: rest') := fun p hp => N4 p (List.mem_append_right _ hp)
          clear N4
          k_steps
          · refine Hold.mk ?_
            have hc0 : cmpD cs ys xs = 0 := by assumption
            refine item_list (l := vr) (c := nr) (x := .ref b) N4' (sub' _ hr) (by omega) (by omega) (by rw [show jI.toNat = jj by omega]; exact hx) ?_
            k_steps
            cases hdb with
            | tuple hbm hbs =>
            rename_i vsY nY
            have hyl' : vsY.length = ys.length := hbs.length
            have hxl' : vsR.length = xs.length := hvs.length
            have hDm : (D, listOf (List.toArray us') c') ∈ pI :: (D, listOf (List.toArray us') c') :: rest' := List.mem_cons_of_mem _ (List.mem_cons_self ..)
            refine slice_tuple_from (a := 1) (items := vsY.toArray) F4 N4' (News.isTup N4' (sub' _ hbm)) (Nat.le_refl _) (by rw [List.size_toArray]; omega) ?_ (by with_unfolding_all rfl) (by intro _; with_unfolding_all rfl) (by rw [List.size_toArray, sizeLine_eq]; omega)
            intro h5 F5 N5
            k_steps
            refine Hold.mk ?_
            have hT1 := Heap.lt_size (N4' _ hDm).1
            have hT1I := Heap.lt_size (N4' _ (List.mem_cons_self ..)).1
            have hT1r : ∀ p ∈ rest', p.1 < h'.objs.size := fun p hp => Heap.lt_size (N4' p (List.mem_cons_of_mem _ (List.mem_cons_of_mem _ hp))).1
            refine add_tuples (vs := vsR) (ws := vsY.drop 1) F5 N5 (News.isTup N5 (List.mem_cons_of_mem _ (sub' _ hvm))) (News.isTup (n := 0) (d := none) (sl := #[]) N5 (List.mem_cons_self ..)) (fun e => absurd (congrArg List.length e) (by simp only [List.length_nil]; omega)) (fun _ e => absurd (congrArg List.length e) (by simp only [List.length_nil, List.length_drop]; omega)) ?_ (by rw [List.length_drop, sizeLine_eq]; omega)
            intro _ _ h6 F6 N6
            k_steps
            refine Hold.mk ?_
            have hT2 : ∀ p ∈ pI :: (D, listOf (List.toArray us') c') :: rest', p.1 < h5.objs.size := fun p hp => Heap.lt_size (N5 p (List.mem_cons_of_mem _ hp)).1
            have hT3 : h'.objs.size + 1 < h5.objs.size := Heap.lt_size (N5 _ (List.mem_cons_self ..)).1
            refine append_K (D := D) (its := us'.toArray) (n := c') (news' := (h5.objs.size, tupO (vsR ++ vsY.drop 1)) :: (h'.objs.size + 1, tupO (vsY.drop 1)) :: pI :: (D, listOf (us'.toArray.push (.ref h5.objs.size)) (c' + 1)) :: rest') F6 N6 (Upd.tail (Nat.ne_of_gt (hT2 _ hDm)) (Upd.tail (Nat.ne_of_gt (Nat.lt_succ_of_lt hT1)) (Upd.tail hID (Upd.head fun p hp => (hoffD' p hp).1)))) ?_ (by show us'.toArray.size ≤ _; rw [List.size_toArray, hus'.length, sizeLine_eq]; omega)
            intro h7 F7 N7
            have N8 : News _ _ h7 (pI :: (D, listOf (us' ++ [Value.ref h5.objs.size]).toArray (c' + 1)) :: (h5.objs.size, tupO (vsR ++ vsY.drop 1)) :: rest') := fun p hp => by
              rw [← List.push_toArray] at hp
              rcases List.mem_cons.mp hp with rfl | hp
              · exact N7 _ (by simp)
              rcases List.mem_cons.mp hp with rfl | hp
              · exact N7 _ (by simp)
              rcases List.mem_cons.mp hp with rfl | hp
              · exact N7 _ (by simp)
              · exact N7 _ (by simp [hp])
            clear N7 N6 N5 F5 F6
            k_steps
            have subR : ∀ p ∈ rest', p ∈ (h5.objs.size, tupO (vsR ++ vsY.drop 1)) :: rest' := fun p hp => List.mem_cons_of_mem _ hp
            have subN : ∀ p ∈ news, p ∈ (h5.objs.size, tupO (vsR ++ vsY.drop 1)) :: rest' := fun p hp => subR _ (hsub' _ (hsub _ hp))
            refine ⟨rfl, _, _, _, _, dr.length - (jj + 1), rfl, by assumption, by assumption, by omega, _, _, es' ++ [glue (.tuple xs) (.tuple ys)], _, _, _, jj + 1, rfl, fun p hp => subR _ (hsub' _ hp), ?_, ?_, (hus'.mono subR).append (.one (.tuple (n := 0) (List.mem_cons_self ..) ((hvs.mono subN).append (DatAll.drop' 1 (hbs.mono subN))))), ?_, rfl, by omega, by omega, ?_, by rfl, by omega, by with_unfolding_all exact hk3, by with_unfolding_all exact hmd3, by with_unfolding_all exact hmj3, by with_unfolding_all exact hmr3, by with_unfolding_all exact hmw3⟩
            · intro p hp
              rcases List.mem_cons.mp hp with rfl | hp
              · exact ⟨Nat.ne_of_gt (hT2 _ hDm), .inr fun q hq => hT2 _ (sub' _ hq)⟩
              · exact hoffD' p hp
            · intro p hp
              rcases List.mem_cons.mp hp with rfl | hp
              · exact Nat.ne_of_gt (hT2 _ (List.mem_cons_self ..))
              · exact hoffI' p hp
            · rw [List.append_assoc, List.singleton_append, ← hits_one hdb' (show cmpDD cs (.tuple ys) (.tuple xs) = 0 from hc0)]
              exact heq'
            · rw [List.length_append, List.length_singleton]
              omega
          · refine ⟨_, _, _, _, rfl, by assumption, by assumption, us', c', es', rest', rfl, hsub', hoffD', hoffI', hus', ?_, by omega, hk3, hmd3, hmj3, hmr3⟩
            rw [← heq', hits_none hdb' (by assumption), List.append_nil]
        · refine ⟨_, _, _, _, rfl, by assumption, by assumption, us', c', es', rest', rfl, hsub', hoffD', hoffI', hus', ?_, by omega, hk3, hmd3, hmj3, hmr3⟩
          rw [← heq', hits_out (by omega), List.append_nil]
      · clear F4 N4
        intro h₃ tk₃ m₄ n₄ F3 N3 hR22
        refine gp fun kG30 => ?_
        obtain ⟨us', c', es', rest', rfl, hsub', hoffD', hoffI', hus', heq', hlen', hk3, hmd3, hmj3, hmr3⟩ := hR22
        refine kG30.go ?_
        k_steps
        refine TEnd.next (its := [pI]) (n' := (D, listOf (List.toArray us') c') :: rest') F3 N3 (fun p hp q hq => ?_) ⟨us', c', es', dlr, ki, tki, k', rest', rfl, fun p hp => hsub' _ (hsub p hp), hoffD', hus', hrest, fun d hd => hdlr d (List.mem_cons_of_mem _ hd), ?_, hk'l, ?_, hk3, hk2, hmd3, hmj3, hmr3⟩
        · rw [List.mem_singleton.mp hq]
          rcases List.mem_cons.mp hp with rfl | hp
          · exact Ne.symm hID
          · exact hoffI' p hp
        · rw [← hfold, List.foldl_cons]
          show _ = (List.foldl (sideStep cs) (restD cs (dr.drop k) (.tuple xs), es ++ hitsD cs (restD cs (dr.drop k) (.tuple xs)) (.tuple xs)) dlr).2
          rw [← hdrop, ← heq']
        · simp only [List.length_cons] at hle
          omega
  · intro m₁ n₁ h₁ tk₁ hR23 F1 N1
    refine gp fun kG31 => ?_
    obtain ⟨us, c, es, dlr, kI, tkk, k, rest, rfl, hsub, hoffD, hus, hrs, hdlr, hfold, hkle, hle, hmk, hkI, hmd, hmj, hmr⟩ := hR23
    cases hrs
    refine kG31.go ?_
    k_steps
    rename Fr h₀ _ _ _ => kF
    rename News h₀ _ _ _ => kN
    have hb : ∀ p : Addr × Obj, (news.all fun q => decide (q.1 < p.1)) = true ↔ ∀ q ∈ news, q.1 < p.1 := fun p => by rw [List.all_eq_true]; exact ⟨fun h q hq => of_decide_eq_true (h q hq), fun h q hq => decide_eq_true (h q hq)⟩
    refine hret _ ((D, listOf (List.toArray us) c) :: rest.filter fun p => news.all fun q => decide (q.1 < p.1)) _ _ kF (fun p hp => ?_) (fun q hq p hp => ?_) ⟨D, us, c, rfl, List.mem_cons_self .., ?_⟩
    · rcases List.mem_append.mp hp with hp | hp
      · rcases List.mem_cons.mp hp with rfl | hp
        · exact kN _ (List.mem_cons_self ..)
        · exact kN _ (List.mem_cons_of_mem _ (List.mem_filter.mp hp).1)
      · exact kN _ (List.mem_cons_of_mem _ (hsub _ hp))
    · rcases List.mem_cons.mp hp with rfl | hp
      · exact hlt q hq
      · exact (hb p).mp (List.mem_filter.mp hp).2 q hq
    · have e : es = sideD cs dl dr := by rw [← hfold]; rfl
      rw [← e]
      refine hus.mono fun p hp => ?_
      rcases (hoffD p hp).2 with h | h
      · exact List.mem_append_right _ h
      · exact List.mem_append_left _ (List.mem_cons_of_mem _ (List.mem_filter.mpr ⟨hp, (hb p).mpr h⟩))
end Mine
end
section
open PySem PySem.W PySem.Calls PySem.Spec PyProof.Rows
set_option maxRecDepth 100000
set_option maxHeartbeats 4000000
namespace Mine
open PySem.F in
theorem owner_map : Manifest.owners.lookup (String.ofList ['p', 'a', 'm'].reverse) = some Manifest.sig_map := by kernel_rfl
theorem slot_map_init : Slot "map" "__init__" "object.__init__" :=
  .of (owner := "object") (n := "__init__") (by rw [typeLookup_type, builtinLookup_eq_fast]; kernel_rfl) (by decide +kernel) (by decide +kernel) (by decide +kernel)
    (by first | exact .inl (by decide +kernel) | exact .inr (by decide +kernel)) (by rw [isSubtype_type]; kernel_rfl)
theorem slot_map_iter : Slot "map" "__iter__" "map.__iter__" :=
  .of (owner := "map") (n := "__iter__") (by rw [typeLookup_type, builtinLookup_eq_fast]; kernel_rfl) (by decide +kernel) (by decide +kernel) (by decide +kernel)
    (by first | exact .inl (by decide +kernel) | exact .inr (by decide +kernel)) (by rw [isSubtype_type]; kernel_rfl)
theorem args_map_iter_1 (a : Value) : argsOk "map.__iter__" ⟨[a], []⟩ := by
  unfold argsOk; rw [signature?_of (id := "map.__iter__") (n := ['_', '_', 'r', 'e', 't', 'i', '_', '_']) (o := ['p', 'a', 'm']) (by kernel_rfl) owner_map]; kernel_rfl
theorem slot_map_next : Slot "map" "__next__" "map.__next__" :=
  .of (owner := "map") (n := "__next__") (by rw [typeLookup_type, builtinLookup_eq_fast]; kernel_rfl) (by decide +kernel) (by decide +kernel) (by decide +kernel)
    (by first | exact .inl (by decide +kernel) | exact .inr (by decide +kernel)) (by rw [isSubtype_type]; kernel_rfl)
theorem entry_map_next : entryFor table "map.__next__" = some Builtin.«map.__next__» := entryFor_of_tree (by kernel_rfl)
theorem args_map_next_1 (a : Value) : argsOk "map.__next__" ⟨[a], []⟩ := by
  unfold argsOk; rw [signature?_of (id := "map.__next__") (n := ['_', '_', 't', 'x', 'e', 'n', '_', '_']) (o := ['p', 'a', 'm']) (by kernel_rfl) owner_map]; kernel_rfl
theorem entry_map_iter : entryFor table "map.__iter__" = some Builtin.«dict_keyiterator.__iter__» :=
  entryFor_alias (id' := "dict_keyiterator.__iter__") (by kernel_rfl) (by first | rfl | decide +kernel | (unfold String.splitOn; simp +decide [String.splitOnAux])) (by decide +kernel) (by kernel_rfl)
theorem mro_map : mroOf (.type "map") = pure [.type "map", .type "object"] := by rw [mroOf_type]; kernel_rfl
theorem lookup_map_new : typeLookup (.type "map") "__new__" = pure (some (.builtin "map.__new__")) := by rw [typeLookup_type, builtinLookup_eq_fast]; kernel_rfl
theorem called_map : TypeCalled "map" "map.__new__" "object.__init__" :=
  ⟨by decide +kernel, by decide +kernel, ⟨_, _, mro_map⟩, madeBy_type mro_map lookup_map_new (by decide +kernel), by decide +kernel, by rw [isSubtype_type]; kernel_rfl, slot_map_init⟩
theorem typeCall_map_2 (a b : Value) : checkTypeCall "map" ⟨[a, b], []⟩ = pure () := by kernel_rfl
theorem newCall_map_2 (a b : Value) : checkBuiltinCall "map.__new__" ⟨[.type "map", a, b], []⟩ = pure () := by kernel_rfl
theorem entry_map_new : entryFor table "map.__new__" = some Builtin.«map.__new__» := entryFor_of_tree (by kernel_rfl)
theorem sub_map : isSubtype (.type "map") (.type "map") = pure true := by rw [isSubtype_type]; kernel_rfl
theorem map_no_len : typeLookup (.type "map") "__len__" = pure none := by rw [typeLookup_type, builtinLookup_eq_fast]; kernel_rfl
theorem map_no_hint : typeLookup (.type "map") "__length_hint__" = pure none := by rw [typeLookup_type, builtinLookup_eq_fast]; kernel_rfl
noncomputable abbrev IsMap (h : Heap) (z TI : Addr) (f : Value) : Prop := h.get? z = some { cls := .type "map", dict := none, data := .fields #[.ref TI, f], slots := #[] }
noncomputable abbrev IsOne (h : Heap) (T : Addr) (a : Value) : Prop := h.get? T = some { cls := .type "tuple", data := .seq #[a] }
section
variable {prog : Program} {w : World} {A : Around} {E : Value → Shared → Prop} {s : Shared}
/-- what a call of f on the i-th item tells -/
noncomputable def Gives (prog : Program) (w : World) (A : Around) (f : Value) (items : Array Value) (R : Nat → Value → Prop) : Prop :=
  ∀ (i : Nat) (v : Value) (s : Shared) (Q E : Value → Shared → Prop), items[i]? = some v → (∀ y tk, R i y → Q y { s with toks := tk }) → wpAny (model prog w) A (call f [v]) Q E s
theorem map_next_item {z TI it l : Addr} {f v : Value} {i : Nat} {items : Array Value} {R : Nat → Value → Prop} {Q : Value → Shared → Prop} (G : Gives prog w A f items R)
    (hzi : it ≠ z)
    (hz : IsMap s.heap z TI f) (hTI : IsOne s.heap TI (.ref it)) (h1 : s.heap.IsListIter it l i) (hls : s.heap.IsList l items) (hx : items[i]? = some v)
    (hQ : ∀ y h' tk, R i y → h'.IsListIter it l (i + 1) → Heap.SameBut it s.heap h' → Q y { s with heap := h', toks := tk }) :
    wpAny (model prog w) A (Builtin.«map.__next__» ⟨[.ref z], []⟩) (fun fin s' => ∃ v, fin = .done (.ret v) ∧ Q v s') E s := by
  show wpAny _ _ (field (.ref z) 0 >>= _) _ _ _
  refine wpAny_bind (wpAny_field hz rfl (x := .ref TI) rfl ?_)
  refine wpAny_bind (wpAny_seqItems hTI rfl ?_)
  refine wpAny_bind ?_
  simp only [List.forIn_toArray, List.forIn_cons, List.forIn_nil]
  refine wpAny_bind (wpAny_bind (wpAny_holding (wpAny_nextOf_list_item h1 hls hx fun h₂ h1₂ hs₂ => wpAny_pure (wpAny_pure ?_))))
  have hz₂ := hs₂.extBut _ _ hzi.symm hz
  show wpAny _ _ (field (.ref z) 1 >>= _) _ _ _
  refine wpAny_bind (wpAny_field hz₂ rfl (x := f) rfl ?_)
  refine wpAny_bind (wpAny_holding (G i v _ _ _ hx fun y tk hy => ?_))
  refine wpAny_bind (wpAny_letGo ?_)
  exact wpAny_pure ⟨_, rfl, hQ _ _ _ hy h1₂ hs₂⟩
theorem map_next_end {z TI it l : Addr} {f : Value} {i : Nat} {items : Array Value} {Q : Fin → Shared → Prop} (hh : A.handled = none)
    (hz : IsMap s.heap z TI f) (hTI : IsOne s.heap TI (.ref it)) (h1 : s.heap.IsListIter it l i) (hls : s.heap.IsList l items) (hx : items[i]? = none)
    (hE : ∀ h' e, Heap.ExtBut it s.heap h' → (∃ o, h'.get? e = some o ∧ o.cls = .type "StopIteration") → E (.ref e) { s with heap := h' }) :
    wpAny (model prog w) A (Builtin.«map.__next__» ⟨[.ref z], []⟩) Q E s := by
  show wpAny _ _ (field (.ref z) 0 >>= _) _ _ _
  refine wpAny_bind (wpAny_field hz rfl (x := .ref TI) rfl ?_)
  refine wpAny_bind (wpAny_seqItems hTI rfl ?_)
  refine wpAny_bind ?_
  simp only [List.forIn_toArray, List.forIn_cons, List.forIn_nil]
  refine wpAny_bind (wpAny_bind (wpAny_holding (wpAny_nextOf_list_end hh h1 hls hx fun h₂ e hs₂ he => ?_)))
  exact hE _ _ hs₂ he
theorem Walks.map (hh : A.handled = none) {f : Value} {items : Array Value} {R : Nat → Value → Prop} (G : Gives prog w A.in1 f items R) (z TI it l : Addr) (hzi : it ≠ z) (hTi : TI ≠ it) (hl : l ≠ it) :
    PySem.Walks prog w A z [z, TI, it, l] [it] items.size R (fun i h => IsMap h z TI f ∧ IsOne h TI (.ref it) ∧ h.IsListIter it l i ∧ h.IsList l items) where
  sub := fun c hc => by simp at hc ⊢; simp [hc]
  frame := fun i h h' ⟨hz, hT, h1, hls⟩ hk => ⟨hk z (by simp) _ hz, hk TI (by simp) _ hT, h1.at fun o e => hk it (by simp) o e, hls.at fun o e => hk l (by simp) o e⟩
  item := fun i s Q E hi ⟨hz, hTI, h1, hls⟩ hQ => by
    have hT : s.TypeIs (.ref z) "map" := ⟨_, hz, rfl⟩
    unfold pyNext
    refine wpAny_bind (wpAny_attempt (wpAny_callSpecial?_slot (name := PySem.Str.ofString "__next__") hT slot_map_next
      (wpAny_call_entry slot_map_next hT entry_map_next (map_next_item G hzi hz hTI h1 hls (v := items[i]) (by simp [hi]) fun y h' tk hy h1' hs' => ?_) (args_map_next_1 _))))
    exact wpAny_pure (hQ _ _ _ hy ⟨hs'.extBut _ _ hzi.symm hz, hs'.extBut _ _ hTi hTI, h1', hls.extBut hs'.extBut hl⟩ fun b o hb e => hs'.extBut b o (fun h => hb (by simp [h])) e)
  done := fun s Q E ⟨hz, hTI, h1, hls⟩ hQ => by
    have hT : s.TypeIs (.ref z) "map" := ⟨_, hz, rfl⟩
    unfold pyNext
    refine wpAny_bind (wpAny_attempt (wpAny_callSpecial?_slot (name := PySem.Str.ofString "__next__") hT slot_map_next
      (wpAny_call_entry slot_map_next hT entry_map_next (map_next_end hh hz hTI h1 hls (by simp) fun h' e hk he => ?_) (args_map_next_1 _))))
    obtain ⟨o, ho, hc⟩ := he
    refine wpAny_bind (wpAny_isInstance (T := "StopIteration") (b := true) ⟨o, ho, hc⟩ isSubtype_stop ?_)
    exact wpAny_pure (hQ _ _ fun b o hb e => hk b o (fun h => hb (by simp [h])) e)
  self := fun i s Q E ⟨hz, hTI, h1, hls⟩ hQ => by
    have hT : s.TypeIs (.ref z) "map" := ⟨_, hz, rfl⟩
    refine wpAny_pyIter_slot hT slot_map_iter (wpAny_call_entry slot_map_iter hT entry_map_iter ?_ (args_map_iter_1 _))
    show wpAny _ _ (ret (.ref z)) _ _ s
    exact wpAny_pure ⟨_, rfl, "map", _, hT, slot_map_next.lookup, hQ⟩
theorem collect_nohint {I : Addr} {fp wr : List Addr} {G : Array GenState → Array GenState → Prop} {n : Nat} {P : Nat → Value → Prop} {St : Nat → Shared → Prop} {T : String} {Q : List Value → Shared → Prop} (W : WalksS prog w A.in1 I fp wr G n P St) (hT : ∀ i s, St i s → s.TypeIs (.ref I) T)
    (n1 : typeLookup (.type T) "__len__" = pure none) (n2 : typeLookup (.type T) "__length_hint__" = pure none) (h2 : (Value.type T == Value.type "list") = false) (h3 : (Value.type T == Value.type "tuple") = false)
    (hst : St 0 s) (hfp : ∀ b ∈ fp, b < s.heap.objs.size) (hI : I ∈ fp)
    (hQ : ∀ s' acc, Moved wr G s s' → ItemsOf P acc n → Q acc.toList s') (hn : n ≤ sizeLine) : wpAny (model prog w) A (collect (.ref I)) Q E s := by
  have hSf : s.heap.objs.size ∉ fp := fun hm => Nat.lt_irrefl _ (hfp _ hm)
  have hSI : s.heap.objs.size ≠ I := fun e => hSf (e ▸ hI)
  unfold collect
  refine wpAny_bind (wpAny_runValue (codeAny_builtin F.entry_proto_collect ?_))
  rw [Around.under_plainId F.plain_proto_collect _]
  show wpAny _ A.in1 (newList [] >>= fun l => again (.builtin "list.__iadd__" ⟨[l, .ref I], []⟩)) _ _ s
  refine wpAny_bind (wpAny_newObj_type ?_)
  refine wpAny_pure ⟨plainId_quiet F.plain_list_iadd _, codeAny_builtin F.entry_list_iadd ?_⟩
  rw [Around.under_plainId F.plain_list_iadd _]
  have hst₁ := W.frame 0 s (s.heap.push { cls := .type "list", data := .seq ([] : List Value).toArray }) s.toks hst (Nat.le_refl _) fun b _ o e => Heap.get?_push_of_some _ e
  show wpAny _ A.in1 (Builtin.List.listExtendWith (.ref s.heap.objs.size) (.ref I) (.ref s.heap.objs.size)) _ _ _
  unfold Builtin.List.listExtendWith
  refine wpAny_bind (wpAny_typeOf (hT 0 _ hst₁) ?_)
  have h1 : Builtin.List.listSameRef (.ref s.heap.objs.size) (.ref I) = false := by simp [Builtin.List.listSameRef, hSI]
  simp only [h1, h2, h3, Bool.or_false, Bool.false_eq_true, if_false]
  refine wpAny_bind (W.self 0 _ _ _ hst₁ ?_)
  refine wpAny_bind (wpAny_holding ?_)
  unfold Builtin.List.listLengthHint
  refine wpAny_bind (wpAny_specialOf (hT 0 _ hst₁) n1 ?_)
  show wpAny _ A.in1 (specialOf (Value.ref I) (PySem.Str.ofString "__length_hint__") >>= _) _ _ _
  refine wpAny_bind (wpAny_specialOf (hT 0 _ hst₁) n2 ?_)
  refine wpAny_pure ?_
  show wpAny _ A.in1 (rule "list.extend.makes-room" >>= fun _ => Builtin.List.listTouch (.ref s.heap.objs.size) >>= fun _ =>
    again (.builtin "list.extend.loop" ⟨[.ref s.heap.objs.size, .ref I, .ref s.heap.objs.size], []⟩)) _ _ _
  refine wpAny_bind (wpAny_rule ?_)
  have hS₁ : (s.heap.push { cls := .type "list", data := .seq ([] : List Value).toArray }).get? s.heap.objs.size = some { cls := .type "list", data := .seq ([] : List Value).toArray } := Heap.get?_push_size _ rfl
  refine wpAny_bind ?_
  show wpAny _ A.in1 (updateSeq s.heap.objs.size (·.push .none) >>= fun _ => updateSeq s.heap.objs.size (·.pop)) _ _ _
  refine wpAny_bind (wpAny_updateSeq hS₁ rfl ?_)
  have hS₂ := Heap.get?_update_self (Obj.mapSeq (·.push Value.none)) hS₁ rfl
  refine wpAny_updateSeq hS₂ rfl ?_
  have hS₃ := Heap.get?_update_self (Obj.mapSeq (·.pop)) hS₂ rfl
  have oth : ∀ b o, b ≠ s.heap.objs.size → (s.heap.push { cls := .type "list", data := .seq ([] : List Value).toArray }).get? b = some o →
      (((s.heap.push { cls := .type "list", data := .seq ([] : List Value).toArray }).update s.heap.objs.size (Obj.mapSeq (·.push Value.none))).update s.heap.objs.size (Obj.mapSeq (·.pop))).get? b = some o :=
    fun b o hb e => (Heap.get?_update_other _ _ (Ne.symm hb)).trans ((Heap.get?_update_other _ _ (Ne.symm hb)).trans e)
  refine wpAny_pure ⟨plainId_quiet F.plain_extend_loop _, codeAny_extend_loopS W hn _ hSf _ n 0 _ _ _ rfl (Nat.zero_le _)
    (W.frame 0 ({ s with heap := s.heap.push { cls := .type "list", data := .seq ([] : List Value).toArray } } : Shared) _ s.toks hst₁ (Nat.le_refl _) fun b hb o e => oth b o (fun h => hSf (h ▸ hb)) e) hS₃ (ItemsOf.nil P) fun s' acc' c' hm hS' hacc => ?_⟩
  show wpAny _ A (load s.heap.objs.size >>= _) _ _ s'
  refine wpAny_bind (wpAny_load hS' ?_)
  refine wpAny_pure (hQ s' acc' (Moved.drop_new (o := { cls := .type "list", data := .seq ([] : List Value).toArray }) (tk := s.toks) (Moved.trans W.gtrans ((Moved.refl W.grefl).then_heap (by first | exact Nat.le_refl _ | exact Nat.le_succ _ | omega) fun b o hb e => ?_) hm) (Nat.le_refl _)) hacc)
  exact oth b o (fun h => hb (h ▸ List.mem_cons_self)) e
noncomputable abbrev mapH1 (h : Heap) (l : Addr) : Heap := h.push { cls := .type "list_iterator", data := .fields #[.ref l, .int 0 0] }
noncomputable abbrev mapH2 (h : Heap) (l : Addr) : Heap := (mapH1 h l).push { cls := .type "tuple", data := .seq #[.ref h.objs.size] }
noncomputable abbrev mapH3 (h : Heap) (l : Addr) (f : Value) : Heap := (mapH2 h l).push { cls := .type "map", data := .fields #[.ref (mapH1 h l).objs.size, f] }
theorem meets_map_new (f : Value) (l : Addr) (xs : Array Value) :
    Meets (Builtin.«map.__new__» ⟨[.type "map", f, .ref l], []⟩) (fun _ R s => s.heap.IsList l xs ∧
      R (.ok (.ret (.ref (mapH2 s.heap l).objs.size))) { s with heap := mapH3 s.heap l f }) :=
  .of_wp fun prog w A R s h => by
    obtain ⟨hp, g, d, tk, os⟩ := s; obtain ⟨hl1, h⟩ := h
    have hsub := sub_map
    have hL1 : Heap.IsList (Shared.heap ⟨hp, g, d, tk, os⟩) l xs := hl1
    wp_walk using wpAny_pyIter_list hL1
    exact ⟨_, rfl, h⟩
/-- `map(f, a list)`, then starred -/
theorem map_star {h₀ : Heap} {L l : Addr} {m : PySem.Str → Option Value} {news : List (Addr × Obj)} {f : Value} {vs : List Value} {c : Nat} {R : Nat → Value → Prop} {Q : List Value → Shared → Prop} (hh : A.handled = none)
    (F : Fr h₀ L s.heap m) (N : News h₀ L s.heap news) (hl : (l, listOf vs.toArray c) ∈ news) (G : Gives prog w A.in1.in1 f vs.toArray R) (hn : vs.length ≤ 1000)
    (h : ∀ ws h' tk, ws.length = vs.length → (∀ i y, ws[i]? = some y → R i y) → Fr h₀ L h' m → News h₀ L h' news → Q ws { s with heap := h', toks := tk }) :
    wpAny (model prog w) A (call (.type "map") [f, .ref l]) (fun v s₁ => StarOf (model prog w) A E v Q s₁) E s := by
  have hol := N _ hl
  have hls : s.heap.IsList l vs.toArray := ⟨_, hol.1, rfl, c, rfl⟩
  refine callType_new called_map (by decide) (typeCall_map_2 _ _) (newCall_map_2 _ _) (fun obj => PySem.F.args_object_init_3 obj _ _) entry_map_new
    (meets_map_new f l vs.toArray) ⟨hls, ?_⟩
  have z1 : (mapH1 s.heap l).objs.size = s.heap.objs.size + 1 := Heap.size_push ..
  have z2 : (mapH2 s.heap l).objs.size = s.heap.objs.size + 2 := by rw [Heap.size_push, z1]
  have z3 : (mapH3 s.heap l f).objs.size = s.heap.objs.size + 3 := by rw [Heap.size_push, z2]
  have g3 : (mapH3 s.heap l f).get? (mapH2 s.heap l).objs.size = some _ := Heap.get?_push_size _ rfl
  have g2 : (mapH3 s.heap l f).get? (mapH1 s.heap l).objs.size = some _ := Heap.get?_push_of_some _ (Heap.get?_push_size _ rfl)
  have g1 : (mapH3 s.heap l f).get? s.heap.objs.size = some _ := Heap.get?_push_of_some _ (Heap.get?_push_of_some _ (Heap.get?_push_size _ rfl))
  have up : ∀ b o, s.heap.get? b = some o → (mapH3 s.heap l f).get? b = some o := fun b o e => Heap.get?_push_of_some _ (Heap.get?_push_of_some _ (Heap.get?_push_of_some _ e))
  have hlt : l < s.heap.objs.size := Heap.lt_size hol.1
  refine ⟨⟨_, g3, rfl⟩, ?_⟩
  rw [z1] at g2 g3
  rw [z2] at g3
  rw [z2]
  have W := (Walks.map (A := A.in1) (prog := prog) (w := w) hh G (s.heap.objs.size + 2) (s.heap.objs.size + 1) s.heap.objs.size l (Nat.ne_of_lt (Nat.lt_add_of_pos_right (by decide))) (Nat.succ_ne_self _) (Nat.ne_of_lt hlt)).toS
  have hM : Shared.TypeIs { s with heap := mapH3 s.heap l f } (.ref (s.heap.objs.size + 2)) "map" := ⟨_, g3, rfl⟩
  unfold StarOf notIterableAtAll
  refine wpAny_bind (wpAny_specialOf hM slot_map_iter.lookup (wpAny_pure ⟨rfl, ?_⟩))
  refine collect_nohint (T := "map") W (fun i s ⟨hz, _⟩ => ⟨_, hz, rfl⟩) map_no_len map_no_hint (by decide) (by decide) ⟨g3, g2, ⟨_, g1, rfl, rfl⟩, hls.at fun o e => up l o e⟩ ?_ (by simp) ?_ (by rw [sizeLine_eq]; simp; omega)
  · intro b hb
    show b < (mapH3 s.heap l f).objs.size
    rw [z3]
    have h3 : s.heap.objs.size < s.heap.objs.size + 3 := Nat.lt_add_of_pos_right (by decide)
    simp only [List.mem_cons, List.not_mem_nil, or_false] at hb
    rcases hb with rfl | rfl | rfl | rfl
    · exact Nat.lt_succ_self _
    · exact Nat.lt_succ_of_lt (Nat.lt_succ_self _)
    · exact h3
    · exact Nat.lt_trans hlt h3
  · intro s' acc hm hacc
    obtain ⟨h', g', d', t', os'⟩ := s'
    obtain ⟨hk, e1, e2, e3, _⟩ := hm
    dsimp only at hk e1 e2 e3
    subst e1 e2 e3
    have keep : ∀ b o, s.heap.get? b = some o → h'.get? b = some o := fun b o e => hk b o (by simp; exact Nat.ne_of_lt (Heap.lt_size e)) (up b o e)
    refine h acc.toList h' t' ?_ (fun i y e => hacc.2 i y (by simpa using e)) (F.keeps keep) (N.grown keep)
    have := hacc.1
    simpa using this
end
end Mine
end
section
open PySem PySem.W PySem.Calls PyProof.Rows
set_option maxRecDepth 100000
set_option maxHeartbeats 4000000
namespace Mine
/-- a class with a `__new__` of its own (slot 4 says: no builtin maker) -/
noncomputable def ownIn (K : Frag) (C : Addr) : Bool := match K.lookup C with
  | some ⟨_, _, .cls cd, sl⟩ => !cd.abstract && !cd.hasDel && (sl.toList[4]?).join == some .none && !cd.mro.isEmpty && cd.mro.contains (.ref C) && cd.mro.contains (.type "object") &&
      specialIn K (.ref C) "__call__" == some (some (.builtin "type.__call__")) && instIn K (.ref C) (.type "type") == some true
  | _ => false
structure Owns (M : Model) (h : Heap) (C : Addr) : Prop where
  obj : (Ex4 fun oc od cd sl => An4 (h.get? C = some ⟨oc, od, .cls cd, sl⟩) (cd.abstract = false) (cd.hasDel = false) (cd.mro.isEmpty = false))
  made : Looks M h (Bind.madeBy (.ref C)) none
  self : Looks M h (isSubtype (.ref C) (.ref C)) true
  top : Looks M h (isSubtype (.ref C) (.type "object")) true
  call : Looks M h (specialOf (.ref C) "__call__") (some (.builtin "type.__call__"))
  typ : Looks M h (isInstance (.ref C) (.type "type")) true
theorem owns_of {K : Frag} {M : Model} {h : Heap} (X : K.In h) {C : Addr} (e : ownIn K C = true) : Owns M h C := by
  unfold ownIn at e
  split at e
  · rename_i oc od cd sl ho
    simp only [Bool.and_eq_true, Bool.not_eq_true', beq_iff_eq] at e
    obtain ⟨⟨⟨⟨⟨⟨⟨e1, e2⟩, e3⟩, e4⟩, e5⟩, e6⟩, e7⟩, e8⟩ := e
    have hc : clsIn K C = some cd := by unfold clsIn; rw [ho]
    have hm : Looks M h (mroOf (.ref C)) cd.mro := (looks_clsIn X hc).andThen .now
    obtain ⟨c, l, hl⟩ : ∃ c l, cd.mro = c :: l := by cases q : cd.mro with | nil => rw [q] at e4; cases e4 | cons c l => exact ⟨c, l, rfl⟩
    have made : Looks M h (Bind.madeBy (.ref C)) none := by
      intro A Q E s k q
      unfold Bind.madeBy
      refine wpAny_bind (hm A _ E s k ?_)
      rw [hl, List.forIn_cons]
      refine wpAny_bind (wpAny_bind (wpAny_bind (wpAny_bind (wpAny_loadPart (k _ _ (X _ _ ho)) (wpAny_pure ?_)))))
      dsimp only
      rw [← Array.getElem?_toList, e3]
      exact wpAny_pure (wpAny_pure (wpAny_pure q))
    refine ⟨⟨oc, od, cd, sl, X _ _ ho, e1, e2, e4⟩, made, looks_mroIn X ?_, looks_mroIn X ?_, looks_specialIn X e7, looks_instIn X e8⟩
    · unfold mroIn; rw [hc, Option.bind_some, if_neg (by rw [e4]; decide), e5]
    · unfold mroIn; rw [hc, Option.bind_some, if_neg (by rw [e4]; decide), e6]
  · cases e
/-- what the class's own `__new__` must give back -/
noncomputable def NewBack (K : Frag) (C : Addr) (Q : Value → Shared → Prop) (E : Value → Shared → Prop) (r : Result) (s' : Shared) : Prop := match r with
  | .ok (.ret v) => (Ex2 fun x ox => An5 (v = .ref x) (K.In s'.heap) (s'.heap.get? x = some ox) (ox.cls = .ref C) (Q v s'))
  | .ok _ => False
  | .error e => E e s'
section
variable {prog : Program} {w : World} {A : Around} {E : Value → Shared → Prop} {s : Shared} {K : Frag} {C L : Addr} {h₀ : Heap} {m : PySem.Str → Option Value} {Q : Value → Shared → Prop}
theorem call_own {fN p : Addr} {a b : Value} {more : List Value} (F : Fr h₀ L s.heap m) (X₀ : K.In h₀) (hc : ownIn K C = true) (hm : typeIn K (.ref C) = some (.type "type")) (hr : readsIn K C (.type "type") = true)
    (e : findCls K (.ref C) (.type "type") "__new__" = some (.get (.builtin "staticmethod.__get__") (.ref p) .none (.ref C))) (hp : recIn K p "staticmethod" = some (.ref fN :: more)) (hv : handedIn (.ref fN) = true)
    (hi : findIn K (.ref C) "__init__" = some (some (.builtin "object.__init__")))
    (hq : codeAny (model prog w) (A.under (.builtin "type.__call__" ⟨[.ref C, a, b], []⟩)) (.call (.ref fN) ⟨[.ref C, a, b], []⟩) (NewBack K C Q E) { s with toks := s.toks + 1 }) :
    wpAny (model prog w) A (call (.ref C) [a, b]) Q E s := by
  refine wpAny_call ?_
  have Y := owns_of (M := model prog w) (X₀.keeps F.keep) hc
  have Y' := Y
  obtain ⟨⟨oc, od, cd, sl, hC, e1, e2, e4⟩, made, self, top, call, typ⟩ := Y
  have hs := F
  obtain ⟨h, g, d, t, os⟩ := s
  dsimp only at hC made self top call typ F
  refine codeAny_of_tree ?_
  show wpAny _ _ (callAny (.ref C) _) _ _ _
  refine nd_load hC ?_
  show wpAny _ _ (callAny.viaDunder (.ref C) _) _ _ _
  unfold callAny.viaDunder
  refine wpAny_bind (call.at ?_)
  dsimp only
  rw [tc_bind]
  refine wpAny_bind (wpAny_pure (wpAny_bind (wpAny_pure ?_)))
  refine wpAny_pure (a := Fin.again (.call (.builtin "type.__call__") ⟨[.ref C, a, b], []⟩)) (And.intro rfl ?_)
  refine codeAny_call_builtin_at (Code.quiet_builtin _ (by decide +kernel)) entry_typeCall (check_slot tc_kind tc_split typ (tc_args _ _ _) ?_)
  unfold Builtin.«type.__call__»
  have hmro : Looks (model prog w) h (mroOf (.ref C)) cd.mro := ((Looks.ld (part := none) hC).andThen .now).andThen .now
  refine wpAny_bind (hmro.at ?_)
  simp only [e4, Bool.false_eq_true, if_false]
  refine wpAny_bind (made.at ?_)
  dsimp only
  refine wpAny_bind (cls_sm (K := K) (mc := .type "type") hs X₀ hm hr e hp hv ?_)
  refine wpAny_bind (wpAny_holding (wpAny_call ?_))
  refine codeAny_mono hq fun r s' z => ?_
  rcases r with e | (v | _ | _ | _) <;> first | exact z | exact z.elim | skip
  obtain ⟨x, ox, rfl, X', hx, hcx, z⟩ := z
  have Z := owns_of (M := model prog w) X' hc
  obtain ⟨_, made', self', top', _, _⟩ := Z
  have t1 : Looks (model prog w) s'.heap (typeOf (.ref x)) (.ref C) := by
    rw [← hcx]
    exact (Looks.ld hx).andThen .now
  have i1 := looks_findIn (M := model prog w) X' hi
  obtain ⟨h', g', d', t', os'⟩ := s'
  dsimp only at made' self' top' t1 i1 hx X'
  unfold isInstance callSpecial? specialOf
  have tI : Looks (model prog w) h' (isInstance (.ref x) (.type "object")) true := t1.andThen top'
  repeat (first | (with_reducible refine wpAny_call ?_) | (rw [oi_bind]) | lk)
  refine codeAny_call_builtin oi_plain entry_oi (@check_slot (model prog w) _ _ _ "object.__init__" "object" "__init__" (.ref x) [a, b] [] _ oi_kind oi_split tI (PySem.F.args_object_init_3 (.ref x) a b) ?_)
  unfold Builtin.«object.__init__»
  refine wpAny_bind (t1.at (wpAny_bind (i1.at (wpAny_bind (made'.at ?_)))))
  exact wpAny_pure (wpAny_pure (wpAny_pure z))
end
end Mine
end
section
open PySem PySem.W PyProof.Rows
set_option maxRecDepth 100000
set_option maxHeartbeats 8000000
set_option linter.unusedSimpArgs false
namespace Mine
section
variable {prog : Program} {w : World} {A : Around} {E : Value → Shared → Prop} {s : Shared} {K : Frag} {h₀ : Heap} {L : Addr} {m : PySem.Str → Option Value}
theorem attr_type {T : String} {name : PySem.Str} {v : Value} {expr : Bool} {Q : Value → Shared → Prop} (F : Fr h₀ L s.heap m) (X₀ : K.In h₀) (ht : kitMeta T = true) (hs : Manifest.isStub T = false)
    (e : findCls K (.type T) (.type "type") name = some (.val v)) (hh : handedIn v = true)
    (h : Q v { s with toks := s.toks + 1 }) : wpAny (model prog w) A (getAttr (.type T) name expr) Q E s := by
  have X := X₀.keeps F.keep
  have hstub : opaqueClassAbove (.type T) = pure none := by unfold opaqueClassAbove; dsimp only; rw [hs]; rfl
  have L0 : Looks (model prog w) s.heap (typeOf (.type T)) (.type "type") := Looks.of_pure (kitMeta_of ht)
  have hg : findIn K (.type "type") "__getattribute__" = some (some (.builtin "type.__getattribute__")) := type_tga
  have LO : Looks (model prog w) s.heap (opaqueClassAbove (.type T)) none := Looks.of_pure hstub
  refine cls_open X LO L0 hg (looks_hook X (r := none) (by rfl)) (by show subIn K _ _ = _; rfl) e
    (wpAny_pure (by show wpAny _ _ (handedOut v) _ _ _; rw [handedOut_of hh]; exact wpAny_pure h))
end
local macro_rules | `(tactic| walk_at "eval Name") => `(tactic| (k_here; k_dflt (refine ld (by assumption) (by with_unfolding_all assumption) ?_)))
local macro_rules | `(tactic| k_mem) => `(tactic| (first | assumption | exact List.Mem.head _ | (refine' List.Mem.tail _ ?_; k_mem)))
local macro_rules | `(tactic| walk_at "getAttr") => `(tactic| (k_here; k_dflt (refine' attr_type ?F ?X ?t ?s ?e ?hh ?_; (case F => k_asm); (case X => k_asm); (case t => decide +kernel); (case s => decide +kernel); (case e => k_is); (case hh => k_handed); k_whole)))
local macro_rules | `(tactic| walk_at "getMethod") => `(tactic| (k_here; k_dflt (refine' method_type ?k1 ?k2 ?k3 ?k4 ?k5 ?k6 ?_; (case k1 => k_asm); (case k2 => k_asm); (case k3 => exact kitMeta_of (by decide +kernel)); (case k4 => decide +kernel); (case k5 => k_is); (case k6 => k_handed); k_whole)))
local macro_rules | `(tactic| walk_at "call builtin:tuple.__new__") => `(tactic| (k_here; refine hold ?_))
local macro_rules | `(tactic| walk_at "call type:map") => `(tactic| (k_here; refine hold ?_))
theorem gives_strip {prog : Program} {w : World} {A : Around} {l : List (PySem.Str × Tok)} (hl : ∀ a ∈ l.map (·.1), a.length ≤ 1000) :
    Gives prog w A (.builtin "str.strip") (strValues l).toArray fun i y => ∃ x t, (l.map (·.1))[i]? = some x ∧ y = .str (Txt.strip x) t := by
  intro i v s Q E hi hQ
  obtain ⟨p, hp, rfl⟩ : ∃ p, l[i]? = some p ∧ v = .str p.1 p.2 := by
    have : (strValues l)[i]? = some v := by simpa using hi
    unfold strValues at this
    rw [List.getElem?_map] at this
    cases e : l[i]? with
    | none => rw [e] at this; cases this
    | some p => rw [e] at this; exact ⟨p, rfl, (Option.some.inj this).symm⟩
  have hm : p.1 ∈ l.map (·.1) := List.mem_map_of_mem (List.mem_of_getElem? hp)
  refine KXw.strip rfl (by rw [sizeLine_eq]; have := hl _ hm; omega) fun t' k => hQ _ _ ⟨p.1, t', ?_, rfl⟩
  rw [List.getElem?_map, hp]; rfl
theorem parse_ok {w : World} {news : List (Addr × Obj)} {x xa xb a b : PySem.Str} {tp : Tok} (hx : x.length ≤ 100) (hsp : Txt.splitMax x (PySem.Str.ofString "=") 1 = [xa, xb]) (ha : Txt.strip xa = a) (hb : Txt.strip xb = b) :
   CtrC 30 w 225 [.ref 231, .str x tp] news fun nw v => (Ex4 fun r dd ta tb => An3 (v = .ref r) ((r, pairO dd (.str a ta) (.str b tb)) ∈ nw) ((dd, noDict) ∈ nw)) := by
  unfold CtrC
  (k_fill; w_top off)
  intro dp un gd cn cs' cA ccd cl outer A₀ base h₀ L m p loose mean mg mb s Q E B F X N T hk9 hdp hun hret
  k_dflt ktr_enter
  k_steps
  refine Hold.mk ?_
  rename Fr _ _ _ _ => F1
  rename News _ _ _ _ => N1
  rename_i l hh tkk he hS hlen hIs
  have hm2 : l.map (fun x => x.1) = [xa, xb] := he.trans hsp
  have hl2 : l.length = 2 := by rw [← List.length_map (f := fun x : PySem.Str × Tok => x.1) (as := l), hm2]; rfl
  refine map_star (by rfl) F1 N1 (List.mem_cons_self ..) (gives_strip (l := l) fun a h => by have := hlen a h; omega) (by simp [strValues, hl2]) ?_
  intro ws h' tk' hwl hws F2 N2
  have hwl2 : ws.length = 2 := by rw [hwl]; simp [strValues, hl2]
  obtain ⟨v0, v1, rfl⟩ : ∃ v0 v1, ws = [v0, v1] := by
    match ws, hwl2 with
    | [v0, v1], _ => exact ⟨v0, v1, rfl⟩
  obtain ⟨x0, t0, hx0, rfl⟩ := hws 0 _ rfl
  obtain ⟨x1, t1, hx1, rfl⟩ := hws 1 _ rfl
  rw [hm2] at hx0 hx1
  obtain rfl : xa = x0 := by simpa using hx0
  obtain rfl : xb = x1 := by simpa using hx1
  rw [ha, hb]
  clear hws hwl hwl2 hx0 hx1 F1 N1
  refine ⟨by k_in, ?_⟩
  k_dflt (refine' call_own ?k1 ?k2 ?k3 ?k4 ?k5 ?k6 ?k7 ?k8 ?k9 ?_; (case k1 => k_asm); (case k2 => k_asm); (case k3 => kernel_rfl); (case k4 => k_is); (case k5 => k_is); (case k6 => k_is); (case k7 => k_is); (case k8 => k_handed); (case k9 => k_is))
  k_dflt (refine' code_def ?k1 ?k2 ?k3 ?k4 ?k5 ?kA ?kF ?kK ?k6 ?k7 ?k8 ?k9 ?kB ?_ ?c2 ?c3 ?c4 ?c5; (case kA => exact rfl); (case kF => exact rfl); (case kK => exact rfl); (case k1 => k_asm); (case k2 => k_asm); (case k3 => k_asm); (case k4 => k_asm); (case k5 => k_asm); (case k6 => k_is); (case k7 => k_is); (case k8 => ktr_room); (case k9 => exact BindsTo.of_eq rfl); (case c5 => decide); (case kB => exact locs rfl); (case c2 => exact rfl); (case c3 => exact rfl); (case c4 => exact rfl); k_whole; intro g' L' h' FG' F' N' B' X' T'; (try dsimp only); (try k_fold))
  k_steps
  refine Hold.mk ?_
  rename Fr _ _ _ _ => F3
  rename News _ _ _ _ => N3
  have hlim : recursionLimit = 1000 := rfl
  have hcl := cLine_is
  refine tuple_new_K (by assumption) F3 N3 (List.mem_cons_self ..) (by rfl) ?_ ?_ ?_
  · show dp + 1 + 1 + 1 ≤ 980
    omega
  · simp only [units_under_make, units_in1, units_deeper, Around.mark_units, units_caller]
    (try dsimp only [ktrTop])
    omega
  intro r dd h9 tk9 F4 N4 hoff hne
  k_steps
  refine ⟨r, _, rfl, by k_in, News.get (by assumption) (List.mem_cons_self ..), rfl, ?_⟩
  k_steps
  rename News _ _ _ _ => kN
  refine hret _ [(r, pairO dd (.str a t0) (.str b t1)), (dd, noDict)] _ _ (by assumption) (fun p hp => kN p ?_) (fun q hq p hp => ?_) ⟨r, dd, t0, t1, rfl, List.mem_cons_self .., List.mem_cons_of_mem _ (List.mem_cons_self ..)⟩
  · simp only [List.cons_append, List.nil_append, List.mem_cons] at hp ⊢
    rcases hp with h | h | h
    · exact .inl h
    · exact .inr (.inl h)
    · exact .inr (.inr (.inr (.inr h)))
  · have ho := hoff q (List.mem_cons_of_mem _ (List.mem_cons_of_mem _ hq))
    rcases List.mem_cons.mp hp with rfl | hp
    · exact ho.1
    · rw [List.mem_singleton.mp hp]; exact ho.2
end Mine
end
section
open PySem PySem.W PyProof.Rows
set_option maxRecDepth 100000
set_option maxHeartbeats 8000000
namespace Mine
local macro_rules | `(tactic| walk_at "eval Name") => `(tactic| (k_here; k_dflt (refine ld (by assumption) (by with_unfolding_all assumption) ?_)))
local macro_rules | `(tactic| k_mem) => `(tactic| (first | assumption | exact List.Mem.head _ | (refine' List.Mem.tail _ ?_; k_mem)))
noncomputable def gapOf (k : Nat) : PySem.Str := match k % 4 with
  | 0 => PySem.Str.ofString ""
  | 1 => PySem.Str.ofString " "
  | 2 => PySem.Str.ofString "\t"
  | _ => PySem.Str.ofString " \n"
theorem gap_at (k : Nat) (t0 t1 t2 t3 : Tok) : ∃ t, [Value.str (PySem.Str.ofString "") t0, Value.str (PySem.Str.ofString " ") t1, Value.str (PySem.Str.ofString "\t") t2, Value.str (PySem.Str.ofString " \n") t3][(Int.fmod (k : Int) 4).toNat]? = some (.str (gapOf k) t) := by
  have e : (Int.fmod (k : Int) 4).toNat = k % 4 := by
    rw [Int.fmod_eq_emod_of_nonneg _ (by decide)]
    omega
  rw [e]
  unfold gapOf
  have h : k % 4 = 0 ∨ k % 4 = 1 ∨ k % 4 = 2 ∨ k % 4 = 3 := by omega
  rcases h with h | h | h | h <;> rw [h] <;> exact ⟨_, rfl⟩
theorem gap_len (k : Nat) : (gapOf k).length ≤ 2 := by
  unfold gapOf
  split <;> decide +kernel
noncomputable def lineOf (k : Nat) (n v : PySem.Str) : PySem.Str := gapOf k ++ n ++ gapOf k ++ PySem.Str.ofString "=" ++ gapOf k ++ v ++ gapOf k
structure ReadOk (k : Nat) (n v : PySem.Str) : Prop where
  nl : n.length ≤ 10
  vl : v.length ≤ 10
  cut : (Ex2 fun xa xb => An3 (Txt.splitMax (lineOf k n v) (PySem.Str.ofString "=") 1 = [xa, xb]) (Txt.strip xa = n) (Txt.strip xb = v))
local macro_rules | `(tactic| walk_at "call ref") => `(tactic| (k_here; refine hold ?_))
theorem read_ok {w : World} {news : List (Addr × Obj)} {t : Addr} {n v : PySem.Str} {tn tv tp : Tok} {k nR : Nat} (hp : (t, ({ cls := .type "tuple", data := .seq [Value.str n tn, Value.str v tv].toArray nR } : Obj)) ∈ news) (hk : k < 1000) (ho : ReadOk k n v) :
   CtrC 60 w 248 [.ref t, .int (k : Int) tp] news fun nw x => (Ex4 fun r dd ta tb => An3 (x = .ref r) ((r, pairO dd (.str n ta) (.str v tb)) ∈ nw) ((dd, noDict) ∈ nw)) := by
  obtain ⟨hn, hv, xa, xb, hcut, hxa, hxb⟩ := ho
  unfold CtrC
  (k_fill; w_top off)
  intro dp un gd cn cs' cA ccd cl outer A₀ base h₀ L m p loose mean mg mb s Q E B F X N T hk9 hdp hun hret
  k_dflt ktr_enter
  k_steps
  rename Fr _ _ _ _ => F1
  rename News _ _ _ _ => N1
  obtain ⟨tg, hg⟩ := gap_at k _ _ _ _
  have hgl := gap_len k
  refine PyProof.Rows.item_list (News.isList N1 (List.mem_cons_self ..)) (by rw [Int.fmod_eq_emod_of_nonneg _ (by decide)]; omega) (by rw [Int.fmod_eq_emod_of_nonneg _ (by decide)]; omega) (by simpa using hg) ?_ (by with_unfolding_all rfl) (by intro _; with_unfolding_all rfl)
  clear hg
  k_steps
  refine Hold.mk ?_
  have heq1 : (PySem.Str.ofString "=").length = 1 := by decide
  have hlen : (lineOf k n v).length ≤ 100 := by
    show (gapOf k ++ n ++ gapOf k ++ PySem.Str.ofString "=" ++ gapOf k ++ v ++ gapOf k).length ≤ 100
    omega
  rename Fr _ _ _ _ => F2
  rename News _ _ _ _ => N2
  refine call_meth N2 (List.mem_cons_self ..) ?_
  k_dflt (refine' CtrC.code (parse_ok (x := lineOf k n v) hlen hcut hxa hxb) ?B F2 ?X N2 ?T ?K ?d ?u ?_; (case B => k_asm); (case X => k_asm); (case T => k_asm); (case K => exact rfl); (case d => ktr_room); (case u => ktr_units))
  intro v' tl h' tk' F4 N4 hoff hv'
  k_steps
  rename News _ _ _ _ => kN
  obtain ⟨r, dd, ta, tb, rfl, hr, hdd⟩ := hv'
  have key : ∀ (e : Addr × Obj) (T : String) (x y : Addr × Obj), x.2.cls = .type "method" → y.2.cls = .type "list" → e.2.cls = .ref 231 ∨ e.2.cls = .type "dict" → e ∈ tl ++ x :: y :: news → e ∈ tl ++ news := by
    intro e T x y hx hy he hm
    rcases List.mem_append.mp hm with h | h
    · exact List.mem_append_left _ h
    rcases List.mem_cons.mp h with rfl | h
    · rw [hx] at he; rcases he with h | h
      · cases h
      · injection h with h; exact absurd h (by decide)
    rcases List.mem_cons.mp h with rfl | h
    · rw [hy] at he; rcases he with h | h
      · cases h
      · injection h with h; exact absurd h (by decide)
    · exact List.mem_append_right _ h
  refine hret _ tl _ _ (by assumption) (fun p hp => kN p ?_) (fun q hq p hp => ?_) ⟨r, dd, ta, tb, rfl, key _ "" _ _ rfl rfl (.inl rfl) hr, key _ "" _ _ rfl rfl (.inr rfl) hdd⟩
  · rcases List.mem_append.mp hp with h | h
    · exact List.mem_append_left _ h
    · exact List.mem_append_right _ (List.mem_cons_of_mem _ (List.mem_cons_of_mem _ h))
  · exact hoff q (List.mem_cons_of_mem _ (List.mem_cons_of_mem _ hq)) p hp
end Mine
end
section
open PySem PySem.W PySem.Calls PySem.Spec PyProof.Rows PyProof.V
set_option maxRecDepth 100000
set_option maxHeartbeats 4000000
namespace Mine
/-- the inside of a comprehension's turn, ahead of the rest -/
noncomputable def compInner (elt : PySem.Expr) (gens : List Comprehension) (scope : Scope) (pos : Pos) (d : Nat) (acc : Value) (env : Env) (k : Sem Fin) : Sem Fin := match gens[d+1]? with
  | some g' => do
     let x ← eval g'.iter env
     standAt g'.iter.pos
     let x ← foldedSetIterable g'.iter env x
     let i ← holding [x] (pyIter x)
     let _ ← runOwn (.compStart (.ListComp elt gens scope pos) (d + 1) i acc env) env
     k
  | none => do
     (do let _ ← call (.builtin "list.append") [acc, ← eval elt env])
     k
theorem compTurn_at {elt target iter : PySem.Expr} {ifs : List PySem.Expr} {gens : List Comprehension} {scope : Scope} {pos : Pos} {d : Nat} {it acc : Value} {env : Env} (hg : gens[d]? = some ⟨target, iter, ifs, 0⟩) (hz : ∀ g, gens[d+1]? = some g → g.is_async = 0) :
    compTurn (.ListComp elt gens scope pos) d it acc env = (do
      standAt iter.pos
      match ← pyNext it with
      | none => pure (.done .next)
      | some v =>
        letOwnedTupleGo target it v
        assign target env v
        let ok ← forIn ifs true fun c r => if r = true then do let ok ← isTrue c env (eval c env); pure (ForInStep.yield ok) else pure (ForInStep.yield r)
        if ok = true then compInner elt gens scope pos d acc env (again (.compLoop (.ListComp elt gens scope pos) d it acc env))
        else again (.compLoop (.ListComp elt gens scope pos) d it acc env)) := by
  unfold compTurn compInner
  dsimp only
  rw [hg]
  cases e : gens[d+1]? with
  | none => rfl
  | some g' =>
    have h0 := hz g' e
    obtain ⟨t', i', f', a'⟩ := g'
    cases h0
    rfl
section
variable {prog : Program} {w : World} {A : Around} {E : Value → Shared → Prop} {R : Result → Shared → Prop} {s : Shared} {env : Env} {h₀ : Heap}
/-- the inside of a turn, as a demand -/
noncomputable def CInner (prog : Program) (w : World) (A : Around) (E : Value → Shared → Prop) (elt : PySem.Expr) (gens : List Comprehension) (scope : Scope) (pos : Pos) (d : Nat) (acc : Value) (env : Env) (Q : Unit → Shared → Prop) (s : Shared) : Prop :=
  ∀ (k : Sem Fin) (Q' : Fin → Shared → Prop), (∀ s', Q () s' → wpAny (model prog w) A k Q' E s') → wpAny (model prog w) A (compInner elt gens scope pos d acc env k) Q' E s
/-- a comprehension's turn behind the taking of the item -/
noncomputable def CompBody (prog : Program) (w : World) (A : Around) (E : Value → Shared → Prop) (ifs : List PySem.Expr) (inner : (Unit → Shared → Prop) → Shared → Prop) (env : Env) (Q : Unit → Shared → Prop) (s : Shared) : Prop :=
  wpAny (model prog w) A (forIn ifs true fun c r => if r = true then do let ok ← isTrue c env (eval c env); pure (ForInStep.yield ok) else pure (ForInStep.yield r)) (fun ok s₃ => if ok = true then inner Q s₃ else Q () s₃) E s
theorem CompBody.all {inner : (Unit → Shared → Prop) → Shared → Prop} {Q : Unit → Shared → Prop} (h : inner Q s) : CompBody prog w A E [] inner env Q s := by
  refine wpAny_tests_nil ?_
  rw [if_pos rfl]; exact h
theorem CompBody.one {c : PySem.Expr} {inner : (Unit → Shared → Prop) → Shared → Prop} {Q : Unit → Shared → Prop} (h : wpAny (model prog w) A (isTrue c env (eval c env)) (fun ok s₃ => if ok = true then inner Q s₃ else Q () s₃) E s) : CompBody prog w A E [c] inner env Q s := wpAny_tests_one h
theorem inner_emit {elt : PySem.Expr} {gens : List Comprehension} {scope : Scope} {pos : Pos} {d : Nat} {acc : Value} {Q : Unit → Shared → Prop} (hg : gens[d+1]? = none)
    (h : wpAny (model prog w) A (eval elt env) (fun x s₄ => wpAny (model prog w) A (call (.builtin "list.append") [acc, x]) (fun _ s₅ => Q () s₅) E s₄) E s) :
    CInner prog w A E elt gens scope pos d acc env Q s := by
  intro k Q' hk
  unfold compInner
  rw [hg]
  exact wpAny_bind (wpAny_bind (wpAny_mono h (fun x s₄ h₄ => wpAny_bind (wpAny_mono h₄ (fun _ s₅ h₅ => wpAny_pure (hk _ h₅)) fun _ _ e => e)) fun _ _ e => e))
theorem inner_next {elt target iter : PySem.Expr} {ifs : List PySem.Expr} {gens : List Comprehension} {scope : Scope} {pos : Pos} {d : Nat} {acc : Value} {Q : Unit → Shared → Prop} (hg : gens[d+1]? = some ⟨target, iter, ifs, 0⟩)
    (h : wpAny (model prog w) A (eval iter env) (fun x s₄ => wpAny (model prog w) A (pyIter x) (fun it s₅ =>
      codeAny (model prog w) A (.compStart (.ListComp elt gens scope pos) (d + 1) it acc env) (fun r s' => match r with | .ok _ => Q () s' | .error e => cameBackBy (model prog w) A env E e s') s₅) E s₄) E s)
    (hs : ∀ x, foldedSetIterable iter env x = pure x := by intro _; rfl) :
    CInner prog w A E elt gens scope pos d acc env Q s := by
  intro k Q' hk
  unfold compInner
  rw [hg]
  refine wpAny_bind (wpAny_mono h (fun x s₄ h₄ => wpAny_bind (wpAny_standAt (wpAny_bind (wpAny_of_eq (hs x) (wpAny_bind (wpAny_holding (wpAny_mono h₄ (fun it s₅ h₅ => ?_) fun _ _ e => e))))))) fun _ _ e => e)
  refine wpAny_bind (wpAny_runOwn (h := none) (codeAny_mono h₅ fun r s' z => ?_) (by intro x; cases x))
  cases r with
  | ok f => exact hk _ z
  | error e => exact z
/-- a comprehension's source, its turns and its end -/
noncomputable def CompAt (prog : Program) (w : World) (A : Around) (h₀ : Heap) (env : Env) (target : PySem.Expr) (ifs : List PySem.Expr) (inner : (Value → Shared → Prop) → (Unit → Shared → Prop) → Shared → Prop) (Q : Shared → Prop) (it : Value) (s₂ : Shared) : Prop :=
  ∃ (I : Addr) (fp wr : List Addr) (n : Nat) (P Md : Nat → Value → Heap → Prop) (St : Nat → Heap → Prop) (m : PySem.Str → Option Value) (news : List (Addr × Obj)) (J : Nat → (PySem.Str → Option Value) → List (Addr × Obj) → Prop),
    it = .ref I ∧ KTurns prog w A target I fp wr n P Md St ∧ (∀ i (s : Shared) (Q : Value → Shared → Prop) (E : Value → Shared → Prop), St i s.heap → Q (.ref I) s → wpAny (model prog w) A (pyIter (.ref I)) Q E s) ∧ env.locals ∉ fp ∧ (∀ b ∈ wr, h₀.get? b = none) ∧ (∀ p ∈ news, p.1 ∉ wr) ∧ St 0 s₂.heap ∧ Fr h₀ env.locals s₂.heap m ∧ News h₀ env.locals s₂.heap news ∧ J 0 m news ∧
    (∀ i v m₁ news₁ h₁ tk₁ own (E : Value → Shared → Prop), i < n → P i v h₁ → J i m₁ news₁ → (∀ p ∈ news₁, p.1 ∉ wr) → (∀ p ∈ own, p.1 ∈ fp) → (∀ p ∈ own, h₁.get? p.1 = some p.2) → (∀ b ∈ fp, h₀.get? b = none → ∀ o, h₁.get? b = some o → (b, o) ∈ own) → St (i + 1) h₁ →
      Fr h₀ env.locals h₁ m₁ → News h₀ env.locals h₁ (own ++ news₁) →
      wpAny (model prog w) A (assign target env v) (fun _ s₃ => CompBody prog w A E ifs (inner E) env (fun _ => LoopStepU h₀ env.locals wr own (J (i + 1)) { s₂ with heap := h₁, toks := tk₁ } .next) s₃) E { s₂ with heap := h₁, toks := tk₁ }) ∧
    ∀ h' tk m' news', Fr h₀ env.locals h' m' → News h₀ env.locals h' news' → (∀ p ∈ news', p.1 ∉ wr) → J n m' news' → Q { s₂ with heap := h', toks := tk }
theorem comp_loop {elt target iter : PySem.Expr} {ifs : List PySem.Expr} {gens : List Comprehension} {scope : Scope} {pos : Pos} {d : Nat} {it acc : Value} (hg : gens[d]? = some ⟨target, iter, ifs, 0⟩) (hz : ∀ g, gens[d+1]? = some g → g.is_async = 0)
    (h : CompAt prog w A h₀ env target ifs (fun E => CInner prog w A E elt gens scope pos d acc env) (fun s' => R (.ok .next) s') it s) :
    codeAny (model prog w) A (.compStart (.ListComp elt gens scope pos) d it acc env) R s := by
  obtain ⟨I, fp, wr, n, P, Md, St, m, news, J, rfl, W, self, hLf, hwr, hnw, hst, F, N, h0, step, hR⟩ := h
  have hLw : env.locals ∉ wr := fun h => hLf (W.sub _ h)
  have old : ∀ b o, h₀.get? b = some o → b ∉ wr := fun b o e hb => by rw [hwr b hb] at e; cases e
  have loop : codeAny (model prog w) A (.compLoop (.ListComp elt gens scope pos) d (.ref I) acc env) R s := by
    refine codeAny_loop rfl
      (fun k s' => ∃ h' tk m' news' i, s' = { s with heap := h', toks := tk } ∧ St i h' ∧ Fr h₀ env.locals h' m' ∧ News h₀ env.locals h' news' ∧ (∀ p ∈ news', p.1 ∉ wr) ∧ J i m' news' ∧ i ≤ n ∧ k = n + 1 - i) ?_ (n + 1)
      ⟨s.heap, s.toks, m, news, 0, rfl, hst, F, N, hnw, h0, Nat.zero_le _, rfl⟩
    rintro k s' ⟨h', tk, m', news', i, rfl, hst', F', N', hnw', hJ, hi, rfl⟩
    show wpAny _ A ((compTurn (.ListComp elt gens scope pos) d (.ref I) acc env).onRaise (fun x => do noteFrame x env; theTreesLotGoes x)) _ _ _
    refine wpAny_noted ?_
    rw [compTurn_at hg hz]
    have next : ∀ h₁ : Heap, (∀ b o, b ∉ wr → h'.get? b = some o → h₁.get? b = some o) → Fr h₀ env.locals h₁ m' ∧ News h₀ env.locals h₁ news' := fun h₁ hk₁ =>
      ⟨⟨F'.ns.at' fun o e => hk₁ _ o hLw e, fun b o e => hk₁ b o (old b o e) (F'.keep b o e), F'.above⟩, fun p hp => ⟨hk₁ _ _ (hnw' p hp) (N' p hp).1, (N' p hp).2⟩⟩
    refine wpAny_bind (wpAny_standAt ?_)
    by_cases hlt : i < n
    · refine wpAny_bind (W.item i _ _ _ hlt hst' fun v h₁ tk₁ hMd hk₁ => ?_)
      refine wpAny_bind (W.go i v _ _ _ hMd fun h₂ hP hst₂ hk₂ => ?_)
      obtain ⟨F₂, N₂⟩ := next h₂ fun b o hb x => hk₂ b o hb (hk₁ b o hb x)
      have Nown : News h₀ env.locals h₂ (PyProof.Rows.ownOf h₀ fp h₂) := news_ownOf hLf
      refine wpAny_bind (wpAny_mono (step i v m' news' h₂ tk₁ (PyProof.Rows.ownOf h₀ fp h₂) _ hlt hP hJ hnw' ownOf_sub (fun p hp => (Nown p hp).1) (fun b hb hn o e => mem_ownOf hb hn e) hst₂ F₂ (Nown.append N₂)) (fun _ s₂ h₂' => ?_) fun _ _ e => e)
      have fin : ∀ s₃, LoopStepU h₀ env.locals wr (PyProof.Rows.ownOf h₀ fp h₂) (J (i + 1)) { s with heap := h₂, toks := tk₁ } .next s₃ →
          ∃ m, m < n + 1 - i ∧ ∃ h' tk m' news' i, s₃ = { s with heap := h', toks := tk } ∧ St i h' ∧ Fr h₀ env.locals h' m' ∧ News h₀ env.locals h' news' ∧ (∀ p ∈ news', p.1 ∉ wr) ∧ J i m' news' ∧ i ≤ n ∧ m = n + 1 - i := by
        rintro s₃ ⟨_, h₃', tk₃, m₂, news₂, rfl, F₃, N₃, ha₃, hJ₃⟩
        refine ⟨n + 1 - (i + 1), by omega, h₃', tk₃, m₂, news₂, i + 1, rfl, ?_, F₃, N₃.right, ha₃, hJ₃, hlt, rfl⟩
        refine W.frame _ _ _ hst₂ fun b hb o e => ?_
        cases hn : h₀.get? b with
        | some o₀ =>
          have : o₀ = o := by have q := F₂.keep b o₀ hn; rw [e] at q; exact (Option.some.inj q).symm
          exact this ▸ F₃.keep b o₀ hn
        | none => exact (N₃ _ (List.mem_append_left _ (mem_ownOf hb hn e))).1
      refine wpAny_bind (wpAny_mono h₂' (fun ok s₃ h₃ => ?_) fun _ _ e => e)
      cases ok with
      | false => exact wpAny_pure ⟨rfl, fin _ h₃⟩
      | true =>
        rw [if_pos rfl] at h₃
        exact h₃ _ _ fun _ h₄ => wpAny_pure ⟨rfl, fin _ h₄⟩
    · have hin : i = n := by omega
      subst hin
      refine wpAny_bind (W.done _ _ _ hst' fun h₁ tk₁ hk₁ => wpAny_pure ?_)
      obtain ⟨F₁, N₁⟩ := next h₁ hk₁
      exact hR h₁ tk₁ m' news' F₁ N₁ hnw' hJ
  refine codeAny_of_tree ?_
  show wpAny _ _ ((compStart (.ListComp elt gens scope pos) d (.ref I) acc env).onRaise (fun x => do noteFrame x env; standAt theWindowsPlace)) _ _ s
  refine wpAny_notedAt ?_
  unfold compStart
  have hc : (clausesOf (.ListComp elt gens scope pos))[d]? = some ⟨target, iter, ifs, 0⟩ := hg
  rw [hc]
  show wpAny _ _ (ask >>= _) _ _ s
  refine wpAny_bind (wpAny_askSetting (wpAny_ite ?_))
  split
  · first
      | exact wpAny_bind (wpAny_pure (wpAny_pure (And.intro rfl loop)))
      | exact wpAny_pure (And.intro rfl loop)
  · first
      | exact wpAny_bind (wpAny_rule (wpAny_bind (wpAny_standAt (wpAny_bind (self 0 _ _ _ hst (wpAny_pure (And.intro rfl loop)))))))
      | (refine wpAny_bind (wpAny_rule ?_); show wpAny _ _ (standAt iter.pos >>= _) _ _ s; exact wpAny_bind (wpAny_standAt (wpAny_bind (self 0 _ _ _ hst (wpAny_pure (And.intro rfl loop))))))
end
end Mine
end
section
open PySem PySem.W PySem.Calls PySem.Spec PyProof.Rows PyProof.V
set_option maxRecDepth 100000
set_option maxHeartbeats 4000000
namespace Mine
section
variable {prog : Program} {w : World} {A : Around} {E : Value → Shared → Prop} {R : Result → Shared → Prop} {s : Shared} {env : Env} {h₀ : Heap}
theorem CInner.mono {elt : PySem.Expr} {gens : List Comprehension} {scope : Scope} {pos : Pos} {d : Nat} {acc : Value} {Q Q' : Unit → Shared → Prop} (h : CInner prog w A E elt gens scope pos d acc env Q s) (hq : ∀ s, Q () s → Q' () s) :
    CInner prog w A E elt gens scope pos d acc env Q' s := fun k P hk => h k P fun s' q => hk s' (hq s' q)
/-- how a comprehension's turn ends -/
noncomputable def CEnd (h₀ : Heap) (L : Addr) (its : List (Addr × Obj)) (s₁ : Shared) (C : (PySem.Str → Option Value) → List (Addr × Obj) → Prop) (s₂ : Shared) : Prop :=
  ∃ h' tk m' n', s₂ = { s₁ with heap := h', toks := tk } ∧ Fr h₀ L h' m' ∧ News h₀ L h' (its ++ n') ∧ (∀ p ∈ n', ∀ q ∈ its, p.1 ≠ q.1) ∧ C m' n'
theorem CEnd.mk' {L : Addr} {its n' : List (Addr × Obj)} {s₁ : Shared} {C : (PySem.Str → Option Value) → List (Addr × Obj) → Prop} {h' : Heap} {tk : Nat} {m' : PySem.Str → Option Value}
    (F : Fr h₀ L h' m') (N : News h₀ L h' (its ++ n')) (off : ∀ p ∈ n', ∀ q ∈ its, p.1 ≠ q.1) (c : C m' n') : CEnd h₀ L its s₁ C { s₁ with heap := h', toks := tk } := ⟨h', tk, m', n', rfl, F, N, off, c⟩
/-- what the inside of a turn must bear: a weaker end -/
noncomputable def Bears (inner : (Value → Shared → Prop) → (Unit → Shared → Prop) → Shared → Prop) : Prop := ∀ E Q Q' s, inner E Q s → (∀ s, Q () s → Q' () s) → inner E Q' s
theorem bears_inner {elt : PySem.Expr} {gens : List Comprehension} {scope : Scope} {pos : Pos} {d : Nat} {acc : Value} : Bears (fun E => CInner prog w A E elt gens scope pos d acc env) := fun _ _ _ _ h hq => h.mono hq
theorem CompBody.mono {ifs : List PySem.Expr} {inner : (Value → Shared → Prop) → (Unit → Shared → Prop) → Shared → Prop} (B : Bears inner) {Q Q' : Unit → Shared → Prop} (h : CompBody prog w A E ifs (inner E) env Q s) (hq : ∀ s, Q () s → Q' () s) :
    CompBody prog w A E ifs (inner E) env Q' s := by
  refine wpAny_mono h (fun ok s₃ z => ?_) fun _ _ e => e
  cases ok with
  | false => exact hq _ z
  | true => rw [if_pos rfl] at z ⊢; exact B _ _ _ _ z hq
theorem comp_walk {target : PySem.Expr} {ifs : List PySem.Expr} {inner : (Value → Shared → Prop) → (Unit → Shared → Prop) → Shared → Prop} {Q : Shared → Prop} {I ax : Addr} {oax : Obj} {vs : List Value} {St : Nat → Heap → Prop} {m₀ : PySem.Str → Option Value} {news : List (Addr × Obj)}
    (C : List Value → (PySem.Str → Option Value) → List (Addr × Obj) → Prop) (B : Bears inner)
    (W : Walks prog w A I [I, ax] [I] vs.length (fun i v => vs[i]? = some v) St) (hIo : ∀ i h, St i h → ∃ o, h.get? I = some o)
    (hgo : ∀ i v (s : Shared) (Q : Unit → Shared → Prop) (E : Value → Shared → Prop), St i s.heap → Q () s → wpAny (model prog w) A (letOwnedTupleGo target (.ref I) v) Q E s)
    (F : Fr h₀ env.locals s.heap m₀) (N : News h₀ env.locals s.heap news) (hax : ∀ r m n, C r m n → (ax, oax) ∈ n) (hC : C vs m₀ news) (hst : St 0 s.heap) (hI₀ : h₀.get? I = none) (hIL : env.locals ≠ I) (offI : ∀ p ∈ news, p.1 ≠ I)
    (turn : ∀ v r m₁ n₁ h₁ tk₁ its (E : Value → Shared → Prop), C (v :: r) m₁ n₁ → (∃ p, its = [p]) → (∀ p ∈ n₁, ∀ q ∈ its, p.1 ≠ q.1) → Fr h₀ env.locals h₁ m₁ → News h₀ env.locals h₁ (its ++ n₁) →
      wpAny (model prog w) A (assign target env v) (fun _ s₃ => CompBody prog w A E ifs (inner E) env (fun _ => CEnd h₀ env.locals its { s with heap := h₁, toks := tk₁ } (C r)) s₃) E { s with heap := h₁, toks := tk₁ })
    (done : ∀ m₁ n₁ h tk, C [] m₁ n₁ → Fr h₀ env.locals h m₁ → News h₀ env.locals h n₁ → Q { s with heap := h, toks := tk }) :
    CompAt prog w A h₀ env target ifs inner Q (.ref I) s := by
  have hm := hax _ _ _ hC
  have hol := N _ hm
  refine ⟨I, [I, ax], [I], vs.length, fun i v _ => vs[i]? = some v, _, St, m₀, news, fun i m n => C (vs.drop i) m n, rfl, KTurns.ofWalks W fun i v s Q E st q => hgo i v s Q E st q, W.self, ?_, ?_, ?_, hst, F, N, hC, ?_, ?_⟩
  · intro hI
    rcases List.mem_cons.mp hI with e | hI
    · exact hIL e
    · exact hol.2.1 (List.mem_singleton.mp hI).symm
  · intro b hb
    rw [List.mem_singleton.mp hb]; exact hI₀
  · intro p hp hI
    exact offI p hp (List.mem_singleton.mp hI)
  · intro i v m₁ n₁ h₁ tk₁ own E hlt' hP hJ hoff hown hget hall hst F₁ N₁
    have hv : vs[i]? = some v := hP
    have hd : vs.drop i = v :: vs.drop (i + 1) := by
      rw [List.drop_eq_getElem_cons hlt']
      congr 1
      exact Option.some.inj ((List.getElem?_eq_getElem hlt').symm.trans hv)
    replace hJ : C (vs.drop i) m₁ n₁ := hJ
    rw [hd] at hJ
    obtain ⟨oI, hoI⟩ := hIo _ _ hst
    have hIown : (I, oI) ∈ own := hall _ (by simp) hI₀ _ hoI
    have off : ∀ p ∈ n₁, ∀ q ∈ [(I, oI)], p.1 ≠ q.1 := fun p hp q hq => by
      rw [List.mem_singleton.mp hq]; exact fun e => hoff p hp (by rw [e]; simp)
    refine wpAny_mono (turn v _ m₁ n₁ h₁ tk₁ [(I, oI)] E hJ ⟨_, rfl⟩ off F₁ (fun p hp => N₁ p ?_)) (fun _ s₃ h₃ => CompBody.mono B h₃ fun s₄ => ?_) fun _ _ e => e
    · rcases List.mem_append.mp hp with hp | hp
      · rw [List.mem_singleton.mp hp]; exact List.mem_append_left _ hIown
      · exact List.mem_append_right _ hp
    · rintro ⟨h', tk, m', n', e, F', N', ho, hc⟩
      refine ⟨rfl, h', tk, m', n', e, F', fun p hp => ?_, fun p hp hI => ?_, hc⟩
      · rcases List.mem_append.mp hp with hp | hp
        · rcases List.mem_cons.mp (hown p hp) with h1 | h1
          · have : p.2 = oI := by have h2 := hget p hp; rw [h1, hoI] at h2; exact (Option.some.inj h2).symm
            have e2 : p = (I, oI) := Prod.ext h1 this
            rw [e2]; exact N' _ (by simp)
          · have h2 := List.mem_singleton.mp h1
            have h3 := hget p hp
            have h4 := (N₁ _ (List.mem_append_right own (hax _ _ _ hJ))).1
            rw [h2] at h3
            have e2 : p = (ax, oax) := Prod.ext h2 (Option.some.inj (h3.symm.trans h4))
            rw [e2]; exact N' _ (List.mem_append_right _ (hax _ _ _ hc))
        · exact N' _ (List.mem_append_right _ hp)
      · exact ho p hp _ (List.mem_singleton.mpr rfl) (List.mem_singleton.mp hI)
  · intro h' tk m' n' F' N' _ hJ
    replace hJ : C (vs.drop vs.length) m' n' := hJ
    rw [List.drop_length] at hJ
    exact done m' n' h' tk hJ F' N'
/-- a comprehension's clause over a list of the ledger, its iterator made -/
theorem comp_list {target : PySem.Expr} {ifs : List PySem.Expr} {inner : (Value → Shared → Prop) → (Unit → Shared → Prop) → Shared → Prop} {Q : Shared → Prop} {I ax : Addr} {c : Nat} {vs : List Value} {m₀ : PySem.Str → Option Value} {news : List (Addr × Obj)}
    (C : List Value → (PySem.Str → Option Value) → List (Addr × Obj) → Prop) (B : Bears inner) (hh : A.handled = none)
    (F : Fr h₀ env.locals s.heap m₀) (N : News h₀ env.locals s.heap news) (hax : ∀ r m n, C r m n → (ax, listOf vs.toArray c) ∈ n) (hC : C vs m₀ news) (hst : s.heap.IsListIter I ax 0) (hI₀ : h₀.get? I = none) (hIL : env.locals ≠ I) (offI : ∀ p ∈ news, p.1 ≠ I)
    (turn : ∀ v r m₁ n₁ h₁ tk₁ its (E : Value → Shared → Prop), C (v :: r) m₁ n₁ → (∃ p, its = [p]) → (∀ p ∈ n₁, ∀ q ∈ its, p.1 ≠ q.1) → Fr h₀ env.locals h₁ m₁ → News h₀ env.locals h₁ (its ++ n₁) →
      wpAny (model prog w) A (assign target env v) (fun _ s₃ => CompBody prog w A E ifs (inner E) env (fun _ => CEnd h₀ env.locals its { s with heap := h₁, toks := tk₁ } (C r)) s₃) E { s with heap := h₁, toks := tk₁ })
    (done : ∀ m₁ n₁ h tk, C [] m₁ n₁ → Fr h₀ env.locals h m₁ → News h₀ env.locals h n₁ → Q { s with heap := h, toks := tk }) :
    CompAt prog w A h₀ env target ifs inner Q (.ref I) s := by
  have hm := hax _ _ _ hC
  have hol := N _ hm
  have hl : s.heap.IsList ax vs.toArray := ⟨_, hol.1, rfl, c, rfl⟩
  have W := Walks.list (prog := prog) (w := w) (A := A) hh I ax (offI _ hm) vs.toArray
  have hlen : vs.toArray.size = vs.length := by simp
  rw [hlen] at W
  have W' : Walks prog w A I [I, ax] [I] vs.length (fun i v => vs[i]? = some v) (fun i h => h.IsListIter I ax i ∧ h.IsList ax vs.toArray) :=
    { sub := W.sub, frame := W.frame, done := W.done, self := W.self, item := fun i s Q E hi st hQ => W.item i s Q E hi st fun v h' tk hP => hQ v h' tk (by simpa using hP) }
  exact comp_walk C B W' (fun i h st => by obtain ⟨o, e, _⟩ := st.1; exact ⟨o, e⟩) (fun i v s Q E st q => letGo_listiter st.1 q) F N hax hC ⟨hst, hl⟩ hI₀ hIL offI turn done
/-- the same over a tuple -/
theorem comp_tuple {target : PySem.Expr} {ifs : List PySem.Expr} {inner : (Value → Shared → Prop) → (Unit → Shared → Prop) → Shared → Prop} {Q : Shared → Prop} {I ax : Addr} {c : Nat} {vs : List Value} {m₀ : PySem.Str → Option Value} {news : List (Addr × Obj)}
    (C : List Value → (PySem.Str → Option Value) → List (Addr × Obj) → Prop) (B : Bears inner) (hh : A.handled = none)
    (F : Fr h₀ env.locals s.heap m₀) (N : News h₀ env.locals s.heap news) (hax : ∀ r m n, C r m n → (ax, { cls := .type "tuple", data := .seq vs.toArray c }) ∈ n) (hC : C vs m₀ news) (hst : s.heap.IsTupleIter I ax 0) (hI₀ : h₀.get? I = none) (hIL : env.locals ≠ I) (offI : ∀ p ∈ news, p.1 ≠ I)
    (turn : ∀ v r m₁ n₁ h₁ tk₁ its (E : Value → Shared → Prop), C (v :: r) m₁ n₁ → (∃ p, its = [p]) → (∀ p ∈ n₁, ∀ q ∈ its, p.1 ≠ q.1) → Fr h₀ env.locals h₁ m₁ → News h₀ env.locals h₁ (its ++ n₁) →
      wpAny (model prog w) A (assign target env v) (fun _ s₃ => CompBody prog w A E ifs (inner E) env (fun _ => CEnd h₀ env.locals its { s with heap := h₁, toks := tk₁ } (C r)) s₃) E { s with heap := h₁, toks := tk₁ })
    (done : ∀ m₁ n₁ h tk, C [] m₁ n₁ → Fr h₀ env.locals h m₁ → News h₀ env.locals h n₁ → Q { s with heap := h, toks := tk }) :
    CompAt prog w A h₀ env target ifs inner Q (.ref I) s := by
  have hm := hax _ _ _ hC
  have hol := N _ hm
  have hl : s.heap.IsTuple ax vs.toArray := ⟨_, hol.1, rfl, c, rfl⟩
  have W := Walks.tuple (prog := prog) (w := w) (A := A) hh I ax (offI _ hm) vs.toArray
  have hlen : vs.toArray.size = vs.length := by simp
  rw [hlen] at W
  have W' : Walks prog w A I [I, ax] [I] vs.length (fun i v => vs[i]? = some v) (fun i h => h.IsTupleIter I ax i ∧ h.IsTuple ax vs.toArray) :=
    { sub := W.sub, frame := W.frame, done := W.done, self := W.self, item := fun i s Q E hi st hQ => W.item i s Q E hi st fun v h' tk hP => hQ v h' tk (by simpa using hP) }
  exact comp_walk C B W' (fun i h st => by obtain ⟨o, e, _⟩ := st.1; exact ⟨o, e⟩) (fun i v s Q E st q => letGo_tupleiter st.1 q) F N hax hC ⟨hst, hl⟩ hI₀ hIL offI turn done
/-- the same over enumerate(a list) -/
theorem comp_enum {elts : List PySem.Expr} {k : Nat} {tpos : Pos} {ifs : List PySem.Expr} {inner : (Value → Shared → Prop) → (Unit → Shared → Prop) → Shared → Prop} {Q : Shared → Prop} {e it l : Addr} {c : Nat} {old : Value} {vs : List Value} {m₀ : PySem.Str → Option Value} {news : List (Addr × Obj)}
    (C : Nat → List Value → (PySem.Str → Option Value) → List (Addr × Obj) → Prop) (B : Bears inner) (hh : A.handled = none)
    (F : Fr h₀ env.locals s.heap m₀) (N : News h₀ env.locals s.heap news) (hax : ∀ i r m n, C i r m n → (l, listOf vs.toArray c) ∈ n) (hC : C 0 vs m₀ news) (hE : IsEnum s.heap e it 0 old) (hst : s.heap.IsListIter it l 0) (hei : e ≠ it)
    (hE₀ : h₀.get? e = none) (hI₀ : h₀.get? it = none) (hEL : env.locals ≠ e) (hIL : env.locals ≠ it) (offE : ∀ p ∈ news, p.1 ≠ e ∧ p.1 ≠ it)
    (turn : ∀ i v r m₁ n₁ h₁ tk₁ its T t (E : Value → Shared → Prop), C i (v :: r) m₁ n₁ → vs[i]? = some v → (∃ p q, its = [p, q]) → (∀ p ∈ n₁, ∀ q ∈ its, p.1 ≠ q.1) → IsTup h₁ T #[.int i t, v] → Fr h₀ env.locals h₁ m₁ → News h₀ env.locals h₁ (its ++ n₁) →
      wpAny (model prog w) A (assign (.Tuple elts k tpos) env (.ref T)) (fun _ s₃ => CompBody prog w A E ifs (inner E) env (fun _ => CEnd h₀ env.locals its { s with heap := h₁, toks := tk₁ } (C (i + 1) r)) s₃) E { s with heap := h₁, toks := tk₁ })
    (done : ∀ m₁ n₁ h tk, C vs.length [] m₁ n₁ → Fr h₀ env.locals h m₁ → News h₀ env.locals h n₁ → Q { s with heap := h, toks := tk }) :
    CompAt prog w A h₀ env (.Tuple elts k tpos) ifs inner Q (.ref e) s := by
  have hm := hax _ _ _ _ hC
  have hol := N _ hm
  have hl : s.heap.IsList l vs.toArray := ⟨_, hol.1, rfl, c, rfl⟩
  have W₀ := (WalksT.enumerate (prog := prog) (w := w) (A := A) hh e it l hei (offE _ hm).1 (offE _ hm).2 vs.toArray)
  have self := W₀.self
  have W := KTurns.ofWalksU (elts := elts) (k := k) (pos := tpos) W₀.toU
  have hlen : vs.toArray.size = vs.length := by simp
  rw [hlen] at W
  refine ⟨e, _, _, vs.length, _, _, _, m₀, news, fun i m n => C i (vs.drop i) m n, rfl, W, self, ?_, ?_, ?_, ⟨⟨old, hE⟩, hst, hl⟩, F, N, hC, ?_, ?_⟩
  · intro hI'
    have hb' : env.locals = e ∨ env.locals = it ∨ env.locals = l := by simpa using hI'
    rcases hb' with x | x | x
    · exact hEL x
    · exact hIL x
    · exact hol.2.1 x.symm
  · intro b hb
    have hb' : b = e ∨ b = it := by simpa using hb
    rcases hb' with rfl | rfl
    · exact hE₀
    · exact hI₀
  · intro p hp hI'
    have hb' : p.1 = e ∨ p.1 = it := by simpa using hI'
    rcases hb' with x | x
    · exact (offE p hp).1 x
    · exact (offE p hp).2 x
  · intro i v m₁ n₁ h₁ tk₁ own E hlt' hP hJ hoff hown hget hall hst F₁ N₁
    obtain ⟨T, vals, rfl, ⟨t, x, hx, rfl⟩, hT⟩ := hP
    have hv : vs[i]? = some x := by simpa using hx
    have hd : vs.drop i = x :: vs.drop (i + 1) := by
      rw [List.drop_eq_getElem_cons hlt']
      congr 1
      exact Option.some.inj ((List.getElem?_eq_getElem hlt').symm.trans hv)
    replace hJ : C i (vs.drop i) m₁ n₁ := hJ
    rw [hd] at hJ
    obtain ⟨⟨old', he⟩, ⟨oI, hoI, _⟩, _⟩ := hst
    have he' : ∃ oe : Obj, h₁.get? e = some oe := ⟨_, he⟩
    obtain ⟨oE, hoE⟩ := he'
    have hIown : (it, oI) ∈ own := hall _ (by simp) hI₀ _ hoI
    have hEown : (e, oE) ∈ own := hall _ (by simp) hE₀ _ hoE
    have off : ∀ p ∈ n₁, ∀ q ∈ [(e, oE), (it, oI)], p.1 ≠ q.1 := fun p hp q hq x => by
      rcases List.mem_cons.mp hq with rfl | hq
      · exact hoff p hp (by rw [x]; simp)
      · rw [List.mem_singleton.mp hq] at x; exact hoff p hp (by rw [x]; simp)
    refine wpAny_mono (turn i x _ m₁ n₁ h₁ tk₁ [(e, oE), (it, oI)] T t E hJ hv ⟨_, _, rfl⟩ off hT F₁ (fun p hp => N₁ p ?_)) (fun _ s₃ h₃ => CompBody.mono B h₃ fun s₄ => ?_) fun _ _ e => e
    · rcases List.mem_append.mp hp with hp | hp
      · rcases List.mem_cons.mp hp with rfl | hp
        · exact List.mem_append_left _ hEown
        · rw [List.mem_singleton.mp hp]; exact List.mem_append_left _ hIown
      · exact List.mem_append_right _ hp
    · rintro ⟨h', tk, m', n', e1, F', N', ho, hc⟩
      refine ⟨rfl, h', tk, m', n', e1, F', fun p hp => ?_, fun p hp hI => ?_, hc⟩
      · rcases List.mem_append.mp hp with hp | hp
        · rcases List.mem_cons.mp (hown p hp) with h1 | h1
          · have : p.2 = oE := by have h2 := hget p hp; rw [h1, hoE] at h2; exact (Option.some.inj h2).symm
            have e2 : p = (e, oE) := Prod.ext h1 this
            rw [e2]; exact N' _ (by simp)
          rcases List.mem_cons.mp h1 with h1 | h1
          · have : p.2 = oI := by have h2 := hget p hp; rw [h1, hoI] at h2; exact (Option.some.inj h2).symm
            have e2 : p = (it, oI) := Prod.ext h1 this
            rw [e2]; exact N' _ (by simp)
          · have h2 := List.mem_singleton.mp h1
            have h3 := hget p hp
            have h4 := (N₁ _ (List.mem_append_right own (hax _ _ _ _ hJ))).1
            rw [h2] at h3
            have e2 : p = (l, listOf vs.toArray c) := Prod.ext h2 (Option.some.inj (h3.symm.trans h4))
            rw [e2]; exact N' _ (List.mem_append_right _ (hax _ _ _ _ hc))
        · exact N' _ (List.mem_append_right _ hp)
      · rcases List.mem_cons.mp hI with h1 | h1
        · exact ho p hp (e, oE) (by simp) h1
        · exact ho p hp (it, oI) (by simp) (List.mem_singleton.mp h1)
  · intro h' tk m' n' F' N' _ hJ
    replace hJ : C vs.length (vs.drop vs.length) m' n' := hJ
    rw [List.drop_length] at hJ
    exact done m' n' h' tk hJ F' N'
end
end Mine
end
section
open PySem PySem.W PySem.Calls PySem.Spec PyProof.Rows PyProof.V
set_option maxRecDepth 100000
set_option maxHeartbeats 4000000
namespace Mine
section
variable {prog : Program} {w : World} {A : Around} {E : Value → Shared → Prop} {s : Shared} {env : Env} {h₀ : Heap} {L : Addr}
/-- the comprehension's own namespace C and its list D, laid; C is the frame now, L an object of the ledger -/
structure Laid2 (h₀ : Heap) (L C D : Addr) (oL : Obj) (m : PySem.Str → Option Value) (news : List (Addr × Obj)) (g h : Heap) : Prop where
  F : Fr h₀ C h (fun _ => none)
  N : News h₀ C h ((L, oL) :: (D, listOf #[] 0) :: news)
  ns : LCg.NsObj oL m
  keep : ∀ b o, g.get? b = some o → h.get? b = some o
  far : ∀ b, b < g.objs.size → b ≠ C ∧ b ≠ D
  DC : D ≠ C
  CL : C ≠ L
  DL : D ≠ L
  offL : ∀ p ∈ news, p.1 ≠ L
  offD : ∀ p ∈ news, p.1 ≠ D
/-- how a comprehension ends -/
noncomputable def CompOut (h₀ : Heap) (L C D : Addr) (oL : Obj) (md : PySem.Str → Option Value) (s₂ : Shared) (Q : Value → Shared → Prop) (r : Result) (s' : Shared) : Prop :=
  r = .ok .next ∧ ∃ h tk mC n', s' = { s₂ with heap := h, toks := tk } ∧ Fr h₀ C h mC ∧ News h₀ C h ((L, oL) :: n') ∧ (∀ p ∈ n', p.1 ≠ L) ∧
    ∀ h' tk', Fr h₀ L h' md → News h₀ L h' n' → Q (.ref D) { s₂ with heap := h', toks := tk' }
noncomputable def CompGo (prog : Program) (w : World) (A : Around) (h₀ : Heap) (L : Addr) (e : PySem.Expr) (scope : Scope) (cl : List (PySem.Str × Addr)) (env : Env) (md : (PySem.Str → Option Value) → Addr → PySem.Str → Option Value) (Q : Value → Shared → Prop) (it : Value) (s₂ : Shared) : Prop :=
  ∃ m news, Fr h₀ L s₂.heap m ∧ News h₀ L s₂.heap news ∧ ∀ C D oL h₁, Laid2 h₀ L C D oL m news s₂.heap h₁ →
    codeAny (model prog w) A (.compStart e 0 it (.ref D) (compEnvC scope cl C env)) (CompOut h₀ L C D oL (md m D) { s₂ with heap := h₁ } Q) { s₂ with heap := h₁ }
theorem comp_lay {e : PySem.Expr} {scope : Scope} {cl : List (PySem.Str × Addr)} {it : Value} {m : PySem.Str → Option Value} {news : List (Addr × Obj)} {RR : Value → Addr → Result → Shared → Prop}
    (hcell : ∀ y ∈ scope.names, y.2 ≠ .cell) (hkind : scope.kind = .function) (F : Fr h₀ L s.heap m) (N : News h₀ L s.heap news)
    (h : ∀ C D oL h₁, Laid2 h₀ L C D oL m news s.heap h₁ → codeAny (model prog w) A (.compStart e 0 it (.ref D) (compEnvC scope cl C env)) (RR (.ref D) C) { s with heap := h₁ }) :
    wpAny (model prog w) A (newList []) (fun acc s₃ => wpAny (model prog w) A (newFunctionEnv scope env.globals cl [] env.qual none .none (some env)) (fun cenv s₄ =>
      codeAny (model prog w) A (.compStart e 0 it acc { cenv with scope := relabel scope env }) (RR acc cenv.locals) s₄) E s₃) E s := by
  refine wpAny_newObj_type (wpAny_newFunctionEnv hcell (by intro y hy; simp at hy) (fun h₁ hns₁ hsb₁ => ?_) hkind)
  dsimp only at hns₁ hsb₁ ⊢
  generalize hH2 : s.heap.push { cls := .type "list", dict := none, data := .seq ([] : List Value).toArray } = H2 at hns₁ hsb₁ ⊢
  have hC : H2.objs.size = s.heap.objs.size + 1 := by rw [← hH2, Heap.size_push]
  have hDC : s.heap.objs.size ≠ H2.objs.size := by rw [hC]; exact Nat.ne_of_lt (Nat.lt_succ_self _)
  have below : ∀ b, b < s.heap.objs.size → b ≠ H2.objs.size ∧ b ≠ s.heap.objs.size := fun b hb => ⟨by rw [hC]; exact Nat.ne_of_lt (Nat.lt_succ_of_lt hb), Nat.ne_of_lt hb⟩
  have old : ∀ b o, s.heap.get? b = some o → h₁.get? b = some o := fun b o e => hsb₁.extBut b o (below b (Heap.lt_size e)).1 (Heap.get?_push_of_some _ (hH2 ▸ Heap.get?_push_of_some _ e))
  have hacc : h₁.get? s.heap.objs.size = some (listOf #[] 0) := hsb₁.extBut _ _ hDC (Heap.get?_push_of_some _ (hH2 ▸ Heap.get?_push_size _ rfl))
  have fresh : ∀ a, s.heap.objs.size ≤ a → s.heap.get? a = none := fun a ha => by
    cases e : s.heap.get? a with
    | none => rfl
    | some o' => exact absurd (Heap.lt_size e) (Nat.not_lt.mpr ha)
  have fresh₀ : ∀ a, s.heap.objs.size ≤ a → h₀.get? a = none := fun a ha => by
    cases e : h₀.get? a with
    | none => rfl
    | some o' => have := F.keep a o' e; rw [fresh a ha] at this; cases this
  have hLlt : L < s.heap.objs.size := F.ns.lt
  obtain ⟨oL, hoL, hNs⟩ := LCg.ns_obj F.ns
  have hs : ({ s with heap := h₁, toks := s.toks + ([] : List (PySem.Str × Value)).length } : Shared) = { s with heap := h₁ } := rfl
  rw [hs]
  have hL₀ : h₀.get? L = none := Heap.get?_none_of_le F.above
  refine h H2.objs.size s.heap.objs.size oL h₁ ⟨⟨hns₁, fun b o e => old b o (F.keep b o e), ?_⟩, ?_, hNs, old, below, hDC, (below L hLlt).1.symm, (below L hLlt).2.symm, fun p hp => (N p hp).2.1, fun p hp => (below _ (Heap.lt_size (N p hp).1)).2⟩
  · exact Nat.le_trans F.above (Nat.le_of_lt (Nat.lt_trans hLlt (by rw [hC]; exact Nat.lt_succ_self _)))
  · intro p hp
    rcases List.mem_cons.mp hp with rfl | hp
    · exact ⟨old _ _ hoL, (below _ hLlt).1, hL₀⟩
    rcases List.mem_cons.mp hp with rfl | hp
    · exact ⟨hacc, hDC, fresh₀ _ (Nat.le_refl _)⟩
    · exact ⟨old _ _ (N p hp).1, (below _ (Heap.lt_size (N p hp).1)).1, (N p hp).2.2⟩
/-- a comprehension as an expression -/
theorem eval_comp {elt target iter : PySem.Expr} {ifs : List PySem.Expr} {rest : List Comprehension} {scope : Scope} {cl : List (PySem.Str × Addr)} {pos : Pos} {Q : Value → Shared → Prop} (hL : h₀.objs.size ≤ L)
    (hclos : closureFor scope env = pure cl) (hcell : ∀ y ∈ scope.names, y.2 ≠ .cell) (hkind : scope.kind = .function)
    (hnames : ∀ y ∈ scope.names, y.2 = .local → scope.names.lookup y.1 = some .local)
    (h : wpAny (model prog w) A (eval iter env) (fun xv s₁ => wpAny (model prog w) A (pyIter xv) (CompGo prog w A h₀ L (.ListComp elt (⟨target, iter, ifs, 0⟩ :: rest) scope pos) scope cl env (fun m _ => m) Q) E s₁) E s)
    (hs : ∀ x, foldedSetIterable iter env x = pure x := by intro _; rfl) :
    wpAny (model prog w) A (eval (.ListComp elt (⟨target, iter, ifs, 0⟩ :: rest) scope pos) env) Q E s := by
  rw [eval_ListComp]
  refine wpAny_comprehension_free (use := none) rfl hs hclos hkind hnames (wpAny_mono h (fun xv s₁ h₁ => wpAny_mono h₁ (fun it s₂ h₂ => ?_) fun _ _ e => e) fun _ _ e => e)
  obtain ⟨m, news, F, N, h⟩ := h₂
  refine comp_lay hcell hkind F N fun C D oL h₁ Y => codeAny_mono (h C D oL h₁ Y) fun r s' z => ?_
  obtain ⟨rfl, h2, tk, mC, n', rfl, F2, N2, offL, q⟩ := z
  refine ⟨mC, F2.ns, fun h3 hs3 => q h3 tk ?_ ?_⟩
  · have hoL := (N2 _ (List.mem_cons_self ..)).1
    refine ⟨Y.ns.ns (hs3.extBut _ _ Y.CL.symm hoL), fun b o e => ?_, hL⟩
    exact hs3.extBut b o (fun x => by have e' : h₀.get? C = none := Heap.get?_none_of_le F2.above; rw [x, e'] at e; cases e) (F2.keep b o e)
  · intro p hp
    have hN := N2 p (List.mem_cons_of_mem _ hp)
    exact ⟨hs3.extBut _ _ hN.2.1 hN.1, offL p hp, hN.2.2⟩
/-- x = [a comprehension], x a local of the function's, on the comprehension's line -/
theorem assign_comp {elt target iter : PySem.Expr} {ifs : List PySem.Expr} {rest : List Comprehension} {scope : Scope} {cl : List (PySem.Str × Addr)} {pos spos py : Pos} {y : PySem.Str} {Q : Flow → Shared → Prop} (hL : h₀.objs.size ≤ L) (hLe : env.locals = L)
    (hsw : swapsWith (.ListComp elt (⟨target, iter, ifs, 0⟩ :: rest) scope pos) (some (.Name y py)) spos.line env = pure true)
    (hclos : closureFor scope env = pure cl) (hcell : ∀ y ∈ scope.names, y.2 ≠ .cell) (hkind : scope.kind = .function)
    (hnames : ∀ y ∈ scope.names, y.2 = .local → scope.names.lookup y.1 = some .local)
    (hy : env.kindOf y = some .local) (hp : (env.scope.kind == .class || (env.scope.kind == .module && env.locals != env.globals)) = false)
    (h : wpAny (model prog w) A (eval iter env) (fun xv s₁ => wpAny (model prog w) A (pyIter xv) (CompGo prog w A h₀ L (.ListComp elt (⟨target, iter, ifs, 0⟩ :: rest) scope pos) scope cl env
      (fun m D z => if z = y then some (.ref D) else m z) fun _ s' => Q .next s') E s₁) E s)
    (hs : ∀ x, foldedSetIterable iter env x = pure x := by intro _; rfl) :
    wpAny (model prog w) A (exec (.Assign [.Name y py] (.ListComp elt (⟨target, iter, ifs, 0⟩ :: rest) scope pos) spos) env) Q E s := by
  subst hLe
  rw [exec_Assign_Name_used _ _ _ _ hsw]
  refine wpAny_bind (wpAny_standAt (wpAny_bind ?_))
  show wpAny _ A (do let _ ← comprehension (.ListComp elt (⟨target, iter, ifs, 0⟩ :: rest) scope pos) scope env _ (newList []) false (eval iter env) (some (assign (.Name y py) env))) _ _ s
  refine wpAny_bind (wpAny_mono (wpAny_comprehension_free (use := some (assign (.Name y py) env)) (Q := fun _ s' => Q .next s') rfl hs hclos hkind hnames
    (wpAny_mono h (fun xv s₁ h₁ => wpAny_mono h₁ (fun it s₂ h₂ => ?_) fun _ _ e => e) fun _ _ e => e)) (fun _ s' hq => wpAny_pure (wpAny_pure hq)) fun _ _ e => e)
  obtain ⟨m, news, F, N, h⟩ := h₂
  refine comp_lay hcell hkind F N fun C D oL h₁ Y => codeAny_mono (h C D oL h₁ Y) fun r s' z => ?_
  obtain ⟨rfl, h2, tk, mC, n', rfl, F2, N2, offL, q⟩ := z
  have hoL := (N2 _ (List.mem_cons_self ..)).1
  have hC₀ : h₀.get? C = none := Heap.get?_none_of_le F2.above
  have hns2 := Y.ns.ns hoL
  show wpAny _ A (assign (.Name y py) env (.ref D)) _ _ _
  refine wpAny_assign_Name (wpAny_storeName_local hy hns2 (fun h₃ hn₃ hs₃ => ?_) hp)
  have hL₀ : h₀.get? env.locals = none := Heap.get?_none_of_le hL
  refine ⟨mC, F2.ns.sameBut hs₃ Y.CL, fun h4 hs4 => ?_⟩
  have hCL := Y.CL
  refine q h4 _ ⟨?_, ?_, hL⟩ ?_
  · exact hn₃.sameBut hs4 hCL.symm
  · intro b o e
    exact hs4.extBut b o (fun x => by rw [x, hC₀] at e; cases e) (hs₃.extBut b o (fun x => by rw [x, hL₀] at e; cases e) (F2.keep b o e))
  · intro p hp
    have hN := N2 p (List.mem_cons_of_mem _ hp)
    exact ⟨hs4.extBut _ _ hN.2.1 (hs₃.extBut _ _ (offL p hp) hN.1), offL p hp, hN.2.2⟩
end
end Mine
end
section
open PySem PySem.W PySem.Calls PySem.Spec PyProof.Rows PyProof.V
set_option maxRecDepth 100000
set_option maxHeartbeats 4000000
namespace Mine
section
variable {prog : Program} {w : World} {A : Around} {E : Value → Shared → Prop} {s : Shared} {env : Env} {h₀ : Heap} {L : Addr}
/-- a comprehension over enumerate(a list of the ledger), whole -/
theorem go_enum {elt iter : PySem.Expr} {elts : List PySem.Expr} {k : Nat} {tpos pos : Pos} {ifs : List PySem.Expr} {rest : List Comprehension} {scope : Scope} {cl : List (PySem.Str × Addr)} {md : (PySem.Str → Option Value) → Addr → PySem.Str → Option Value} {Q : Value → Shared → Prop}
    {l : Addr} {c : Nat} {vs : List Value} {m : PySem.Str → Option Value} {news : List (Addr × Obj)} (hh : A.handled = none) (F : Fr h₀ L s.heap m) (N : News h₀ L s.heap news) (hl : (l, listOf vs.toArray c) ∈ news) (hz : ∀ g, rest[0]? = some g → g.is_async = 0)
    (C : Addr → Addr → Obj → Nat → List Value → (PySem.Str → Option Value) → List (Addr × Obj) → Prop)
    (hax : ∀ Cn D oL i r m n, C Cn D oL i r m n → (l, listOf vs.toArray c) ∈ n)
    (init : ∀ Cn D oL, LCg.NsObj oL m → D ≠ Cn → Cn ≠ L → D ≠ L → (∀ p ∈ news, p.1 ≠ L ∧ p.1 ≠ D ∧ p.1 ≠ Cn) → C Cn D oL 0 vs (fun _ => none) ((L, oL) :: (D, listOf #[] 0) :: news))
    (turn : ∀ Cn D oL i v r m₁ n₁ h₁ tk₁ its T t (E : Value → Shared → Prop), C Cn D oL i (v :: r) m₁ n₁ → vs[i]? = some v → (∃ p q, its = [p, q]) → (∀ p ∈ n₁, ∀ q ∈ its, p.1 ≠ q.1) → IsTup h₁ T #[.int i t, v] → Fr h₀ Cn h₁ m₁ → News h₀ Cn h₁ (its ++ n₁) →
      wpAny (model prog w) A (assign (.Tuple elts k tpos) (compEnvC scope cl Cn env) (.ref T)) (fun _ s₃ => CompBody prog w A E ifs (CInner prog w A E elt (⟨.Tuple elts k tpos, iter, ifs, 0⟩ :: rest) scope pos 0 (.ref D) (compEnvC scope cl Cn env)) (compEnvC scope cl Cn env)
        (fun _ => CEnd h₀ Cn its { s with heap := h₁, toks := tk₁ } (C Cn D oL (i + 1) r)) s₃) E { s with heap := h₁, toks := tk₁ })
    (done : ∀ Cn D oL m₁ n₁, C Cn D oL vs.length [] m₁ n₁ → ∃ n', n₁ = (L, oL) :: n' ∧ (∀ p ∈ n', p.1 ≠ L) ∧ ∀ h' tk', Fr h₀ L h' (md m D) → News h₀ L h' n' → Q (.ref D) { s with heap := h', toks := tk' }) :
    wpAny (model prog w) A (call (.type "enumerate") [.ref l]) (fun xv s₁ => wpAny (model prog w) A (pyIter xv) (CompGo prog w A h₀ L (.ListComp elt (⟨.Tuple elts k tpos, iter, ifs, 0⟩ :: rest) scope pos) scope cl env md Q) E s₁) E s := by
  have hol := N _ hl
  have hls : s.heap.IsList l vs.toArray := ⟨_, hol.1, rfl, c, rfl⟩
  have hlt : l < s.heap.objs.size := Heap.lt_size hol.1
  have hLs : L < s.heap.objs.size := F.ns.lt
  refine call_enumerate_list hls fun h' hE hI hsz hk => ?_
  refine wpAny_pyIter_enum hE ?_
  have hI₀ : h₀.get? s.heap.objs.size = none := ktu_new F (Nat.le_refl _)
  have hE₀ : h₀.get? (s.heap.objs.size + 1) = none := ktu_new F (Nat.le_add_right _ _)
  have hs1 : s.heap.objs.size < h'.objs.size := by rw [hsz]; exact Nat.lt_add_of_pos_right (by decide)
  have hs2 : s.heap.objs.size + 1 < h'.objs.size := by rw [hsz]; exact Nat.lt_succ_self _
  refine ⟨m, news, F.keeps hk, N.grown hk, fun Cn D oL h₁ Y => ?_⟩
  have hnl : ∀ p ∈ news, p.1 < s.heap.objs.size := fun p hp => Heap.lt_size (N p hp).1
  refine comp_loop (h₀ := h₀) (d := 0) rfl (by simpa using hz) ?_
  refine comp_enum (old := .none) (e := s.heap.objs.size + 1) (it := s.heap.objs.size) (l := l) (c := c) (vs := vs) (C Cn D oL) bears_inner hh Y.F Y.N (hax Cn D oL) ?_ ?_ ?_ (Nat.succ_ne_self _) hE₀ hI₀ ?_ ?_ ?_ ?_ ?_
  · exact init Cn D oL Y.ns Y.DC Y.CL Y.DL fun p hp => ⟨Y.offL p hp, Y.offD p hp, (Y.far _ (Nat.lt_trans (hnl p hp) hs1)).1⟩
  · exact Y.keep _ _ hE
  · exact hI.at fun o e => Y.keep _ _ e
  · exact (Y.far _ hs2).1.symm
  · exact (Y.far _ hs1).1.symm
  · intro p hp
    rcases List.mem_cons.mp hp with rfl | hp
    · exact ⟨Nat.ne_of_lt (Nat.lt_succ_of_lt hLs), Nat.ne_of_lt hLs⟩
    rcases List.mem_cons.mp hp with rfl | hp
    · exact ⟨(Y.far _ hs2).2.symm, (Y.far _ hs1).2.symm⟩
    · exact ⟨Nat.ne_of_lt (Nat.lt_succ_of_lt (hnl p hp)), Nat.ne_of_lt (hnl p hp)⟩
  · intro i v r m₁ n₁ h₂ tk₁ its T t E' a1 a2 a3 a4 a5 a6 a7
    exact turn Cn D oL i v r m₁ n₁ h₂ tk₁ its T t E' a1 a2 a3 a4 a5 a6 a7
  · intro m₁ n₁ h tk hc F' N'
    obtain ⟨n', rfl, offL, q⟩ := done Cn D oL m₁ n₁ hc
    exact ⟨rfl, h, tk, m₁, n', rfl, F', N', offL, fun h' tk' F'' N'' => q h' tk' F'' N''⟩
/-- a comprehension over a list of the ledger, whole -/
theorem go_list {elt iter target : PySem.Expr} {pos : Pos} {ifs : List PySem.Expr} {rest : List Comprehension} {scope : Scope} {cl : List (PySem.Str × Addr)} {md : (PySem.Str → Option Value) → Addr → PySem.Str → Option Value} {Q : Value → Shared → Prop}
    {l : Addr} {c : Nat} {vs : List Value} {m : PySem.Str → Option Value} {news : List (Addr × Obj)} (hh : A.handled = none) (F : Fr h₀ L s.heap m) (N : News h₀ L s.heap news) (hl : (l, listOf vs.toArray c) ∈ news) (hz : ∀ g, rest[0]? = some g → g.is_async = 0)
    (C : Addr → Addr → Obj → List Value → (PySem.Str → Option Value) → List (Addr × Obj) → Prop)
    (hax : ∀ Cn D oL r m n, C Cn D oL r m n → (l, listOf vs.toArray c) ∈ n)
    (init : ∀ Cn D oL, LCg.NsObj oL m → D ≠ Cn → Cn ≠ L → D ≠ L → (∀ p ∈ news, p.1 ≠ L ∧ p.1 ≠ D ∧ p.1 ≠ Cn) → C Cn D oL vs (fun _ => none) ((L, oL) :: (D, listOf #[] 0) :: news))
    (turn : ∀ Cn D oL v r m₁ n₁ h₁ tk₁ its (E : Value → Shared → Prop), C Cn D oL (v :: r) m₁ n₁ → (∃ p, its = [p]) → (∀ p ∈ n₁, ∀ q ∈ its, p.1 ≠ q.1) → Fr h₀ Cn h₁ m₁ → News h₀ Cn h₁ (its ++ n₁) →
      wpAny (model prog w) A (assign target (compEnvC scope cl Cn env) v) (fun _ s₃ => CompBody prog w A E ifs (CInner prog w A E elt (⟨target, iter, ifs, 0⟩ :: rest) scope pos 0 (.ref D) (compEnvC scope cl Cn env)) (compEnvC scope cl Cn env)
        (fun _ => CEnd h₀ Cn its { s with heap := h₁, toks := tk₁ } (C Cn D oL r)) s₃) E { s with heap := h₁, toks := tk₁ })
    (done : ∀ Cn D oL m₁ n₁, C Cn D oL [] m₁ n₁ → ∃ n', n₁ = (L, oL) :: n' ∧ (∀ p ∈ n', p.1 ≠ L) ∧ ∀ h' tk', Fr h₀ L h' (md m D) → News h₀ L h' n' → Q (.ref D) { s with heap := h', toks := tk' }) :
    wpAny (model prog w) A (pyIter (.ref l)) (CompGo prog w A h₀ L (.ListComp elt (⟨target, iter, ifs, 0⟩ :: rest) scope pos) scope cl env md Q) E s := by
  have hol := N _ hl
  have hls : s.heap.IsList l vs.toArray := ⟨_, hol.1, rfl, c, rfl⟩
  have hLs : L < s.heap.objs.size := F.ns.lt
  refine wpAny_pyIter_list hls ?_
  have up : ∀ b o, s.heap.get? b = some o → (s.heap.push { cls := .type "list_iterator", data := .fields #[.ref l, .int 0 0] }).get? b = some o := fun b o e => Heap.get?_push_of_some _ e
  have hI₀ : h₀.get? s.heap.objs.size = none := ktu_new F (Nat.le_refl _)
  have hs1 : s.heap.objs.size < (s.heap.push { cls := .type "list_iterator", data := .fields #[.ref l, .int 0 0] }).objs.size := by rw [Heap.size_push]; exact Nat.lt_succ_self _
  refine ⟨m, news, F.keeps up, N.grown up, fun Cn D oL h₁ Y => ?_⟩
  have hnl : ∀ p ∈ news, p.1 < s.heap.objs.size := fun p hp => Heap.lt_size (N p hp).1
  refine comp_loop (h₀ := h₀) (d := 0) rfl (by simpa using hz) ?_
  refine comp_list (I := s.heap.objs.size) (ax := l) (c := c) (vs := vs) (C Cn D oL) bears_inner hh Y.F Y.N (hax Cn D oL) ?_ ?_ hI₀ ?_ ?_ ?_ ?_
  · exact init Cn D oL Y.ns Y.DC Y.CL Y.DL fun p hp => ⟨Y.offL p hp, Y.offD p hp, (Y.far _ (Nat.lt_trans (hnl p hp) hs1)).1⟩
  · exact ⟨_, Y.keep _ _ (Heap.get?_push_size _ rfl), rfl, rfl⟩
  · exact (Y.far _ hs1).1.symm
  · intro p hp
    rcases List.mem_cons.mp hp with rfl | hp
    · exact Nat.ne_of_lt hLs
    rcases List.mem_cons.mp hp with rfl | hp
    · exact (Y.far _ hs1).2.symm
    · exact Nat.ne_of_lt (hnl p hp)
  · intro v r m₁ n₁ h₂ tk₁ its E' a1 a2 a3 a4 a5
    exact turn Cn D oL v r m₁ n₁ h₂ tk₁ its E' a1 a2 a3 a4 a5
  · intro m₁ n₁ h tk hc F' N'
    obtain ⟨n', rfl, offL, q⟩ := done Cn D oL m₁ n₁ hc
    exact ⟨rfl, h, tk, m₁, n', rfl, F', N', offL, fun h' tk' F'' N'' => q h' tk' F'' N''⟩
/-- a comprehension over a tuple of the ledger, whole -/
theorem go_tuple {elt iter target : PySem.Expr} {pos : Pos} {ifs : List PySem.Expr} {rest : List Comprehension} {scope : Scope} {cl : List (PySem.Str × Addr)} {md : (PySem.Str → Option Value) → Addr → PySem.Str → Option Value} {Q : Value → Shared → Prop}
    {l : Addr} {c : Nat} {vs : List Value} {m : PySem.Str → Option Value} {news : List (Addr × Obj)} (hh : A.handled = none) (F : Fr h₀ L s.heap m) (N : News h₀ L s.heap news) (hl : (l, { cls := .type "tuple", data := .seq vs.toArray c }) ∈ news) (hz : ∀ g, rest[0]? = some g → g.is_async = 0)
    (C : Addr → Addr → Obj → List Value → (PySem.Str → Option Value) → List (Addr × Obj) → Prop)
    (hax : ∀ Cn D oL r m n, C Cn D oL r m n → (l, { cls := .type "tuple", data := .seq vs.toArray c }) ∈ n)
    (init : ∀ Cn D oL, LCg.NsObj oL m → D ≠ Cn → Cn ≠ L → D ≠ L → (∀ p ∈ news, p.1 ≠ L ∧ p.1 ≠ D ∧ p.1 ≠ Cn) → C Cn D oL vs (fun _ => none) ((L, oL) :: (D, listOf #[] 0) :: news))
    (turn : ∀ Cn D oL v r m₁ n₁ h₁ tk₁ its (E : Value → Shared → Prop), C Cn D oL (v :: r) m₁ n₁ → (∃ p, its = [p]) → (∀ p ∈ n₁, ∀ q ∈ its, p.1 ≠ q.1) → Fr h₀ Cn h₁ m₁ → News h₀ Cn h₁ (its ++ n₁) →
      wpAny (model prog w) A (assign target (compEnvC scope cl Cn env) v) (fun _ s₃ => CompBody prog w A E ifs (CInner prog w A E elt (⟨target, iter, ifs, 0⟩ :: rest) scope pos 0 (.ref D) (compEnvC scope cl Cn env)) (compEnvC scope cl Cn env)
        (fun _ => CEnd h₀ Cn its { s with heap := h₁, toks := tk₁ } (C Cn D oL r)) s₃) E { s with heap := h₁, toks := tk₁ })
    (done : ∀ Cn D oL m₁ n₁, C Cn D oL [] m₁ n₁ → ∃ n', n₁ = (L, oL) :: n' ∧ (∀ p ∈ n', p.1 ≠ L) ∧ ∀ h' tk', Fr h₀ L h' (md m D) → News h₀ L h' n' → Q (.ref D) { s with heap := h', toks := tk' }) :
    wpAny (model prog w) A (pyIter (.ref l)) (CompGo prog w A h₀ L (.ListComp elt (⟨target, iter, ifs, 0⟩ :: rest) scope pos) scope cl env md Q) E s := by
  have hol := N _ hl
  have hls : s.heap.IsTuple l vs.toArray := ⟨_, hol.1, rfl, c, rfl⟩
  have hLs : L < s.heap.objs.size := F.ns.lt
  refine wpAny_pyIter_tuple hls ?_
  have up : ∀ b o, s.heap.get? b = some o → (s.heap.push { cls := .type "tuple_iterator", data := .fields #[.ref l, .int 0 0] }).get? b = some o := fun b o e => Heap.get?_push_of_some _ e
  have hI₀ : h₀.get? s.heap.objs.size = none := ktu_new F (Nat.le_refl _)
  have hs1 : s.heap.objs.size < (s.heap.push { cls := .type "tuple_iterator", data := .fields #[.ref l, .int 0 0] }).objs.size := by rw [Heap.size_push]; exact Nat.lt_succ_self _
  refine ⟨m, news, F.keeps up, N.grown up, fun Cn D oL h₁ Y => ?_⟩
  have hnl : ∀ p ∈ news, p.1 < s.heap.objs.size := fun p hp => Heap.lt_size (N p hp).1
  refine comp_loop (h₀ := h₀) (d := 0) rfl (by simpa using hz) ?_
  refine comp_tuple (I := s.heap.objs.size) (ax := l) (c := c) (vs := vs) (C Cn D oL) bears_inner hh Y.F Y.N (hax Cn D oL) ?_ ?_ hI₀ ?_ ?_ ?_ ?_
  · exact init Cn D oL Y.ns Y.DC Y.CL Y.DL fun p hp => ⟨Y.offL p hp, Y.offD p hp, (Y.far _ (Nat.lt_trans (hnl p hp) hs1)).1⟩
  · exact ⟨_, Y.keep _ _ (Heap.get?_push_size _ rfl), rfl, rfl⟩
  · exact (Y.far _ hs1).1.symm
  · intro p hp
    rcases List.mem_cons.mp hp with rfl | hp
    · exact Nat.ne_of_lt hLs
    rcases List.mem_cons.mp hp with rfl | hp
    · exact (Y.far _ hs1).2.symm
    · exact Nat.ne_of_lt (hnl p hp)
  · intro v r m₁ n₁ h₂ tk₁ its E' a1 a2 a3 a4 a5
    exact turn Cn D oL v r m₁ n₁ h₂ tk₁ its E' a1 a2 a3 a4 a5
  · intro m₁ n₁ h tk hc F' N'
    obtain ⟨n', rfl, offL, q⟩ := done Cn D oL m₁ n₁ hc
    exact ⟨rfl, h, tk, m₁, n', rfl, F', N', offL, fun h' tk' F'' N'' => q h' tk' F'' N''⟩
end
end Mine
end
section
open PySem PySem.W PySem.Calls PySem.Spec PyProof.Rows PyProof.V
set_option maxRecDepth 100000
set_option maxHeartbeats 4000000
namespace Mine
section
variable {prog : Program} {w : World} {A : Around} {E : Value → Shared → Prop} {s : Shared} {h₀ : Heap} {L : Addr} {m : PySem.Str → Option Value} {news : List (Addr × Obj)}
theorem slice_part {v : Value} {o : Option Int} (p : IsPart v o) {Q : Option Int → Shared → Prop} (h : Q o s) : wpAny (model prog w) A (Builtin.Slice.slicePartIndex v) Q E s := by
  cases p with
  | none => exact slicePart_none h
  | int i t => exact slicePart_int h
noncomputable def tAdj (n : Nat) (lo hi st : Option Int) : Int × Int := Builtin.Slice.sliceAdjust lo hi (st.getD 1) (n : Int)
noncomputable def tCount (n : Nat) (lo hi st : Option Int) : Nat := Builtin.Slice.slicePlaces (tAdj n lo hi st).1 (tAdj n lo hi st).2 (st.getD 1)
noncomputable def tPick (xs : List Value) (lo hi st : Option Int) : List Value := (List.range (tCount xs.length lo hi st)).filterMap fun (k : Nat) => xs[((tAdj xs.length lo hi st).1 + (k : Int) * (st.getD 1)).toNat]?
noncomputable def tSame (n : Nat) (lo hi st : Option Int) : Bool := (tAdj n lo hi st).1 == 0 && (st.getD 1) == 1 && tCount n lo hi st == n
theorem slice_applied {sl : Addr} {n : Nat} {vl vu vk : Value} {lo hi st : Option Int} {Q : Int × Int × Nat → Shared → Prop} (hs : s.heap.IsSliceOf sl vl vu vk) (pl : IsPart vl lo) (pu : IsPart vu hi) (pk : IsPart vk st) (h0 : st ≠ some 0)
    (h : Q ((tAdj n lo hi st).1, st.getD 1, tCount n lo hi st) s) :
    wpAny (model prog w) A (Builtin.Slice.sliceApplied (.ref sl) (pure (n : Int))) Q E s := by
  obtain ⟨os, hos, hcs, hds⟩ := id hs
  unfold Builtin.Slice.sliceApplied Builtin.Slice.sliceFields
  refine wpAny_bind (wpAny_bind (wpAny_field hos hds (x := vl) rfl (wpAny_bind (wpAny_field hos hds (x := vu) rfl (wpAny_bind (wpAny_field hos hds (x := vk) rfl (wpAny_pure ?_)))))))
  refine wpAny_bind (slice_part pk ?_)
  have hne : ¬ ((st.getD 1 == 0) = true) := by
    cases st with
    | none => decide
    | some c => simpa using fun h : c = 0 => h0 (by rw [h])
  rw [if_neg hne]
  refine wpAny_bind (slice_part pl (wpAny_bind (slice_part pu (wpAny_bind (wpAny_pure ?_)))))
  exact wpAny_pure h
theorem getItem_tup_slice {t sl : Addr} {items : List Value} {vl vu vk : Value} {lo hi st : Option Int} {Q : Value → Shared → Prop} (ht : IsTup s.heap t items.toArray) (hs : s.heap.IsSliceOf sl vl vu vk) (pl : IsPart vl lo) (pu : IsPart vu hi) (pk : IsPart vk st) (h0 : st ≠ some 0)
    (hz : (tPick items lo hi st).length ≤ sizeLine)
    (h : if tSame items.length lo hi st = true then Q (.ref t) s else Q (.ref s.heap.objs.size) { s with heap := s.heap.push { cls := .type "tuple", data := .seq (tPick items lo hi st).toArray } }) :
    wpAny (model prog w) A (getItem (.ref t) (.ref sl)) Q E s := by
  have hdrop : sizeOk (.seq (tPick items lo hi st).toArray) := by
    show (tPick items lo hi st).toArray.size ≤ sizeLine
    rw [List.size_toArray]
    exact hz
  obtain ⟨os, hos, hcs, hds⟩ := id hs
  have hTs : s.TypeIs (.ref sl) "slice" := ⟨os, hos, hcs⟩
  unfold getItem
  try with_reducible refine wpAny_holding ?_
  first | refine wpAny_bind (wpAny_pure ?_) | skip
  refine wpAny_bind (wpAny_sequenceKey ht.typeIs (by decide) ?_)
  refine wpAny_bind (wpAny_callSpecial?_slot (name := PySem.Str.ofString "__getitem__") ht.typeIs slot_tuple_getitem
    (wpAny_call_entry slot_tuple_getitem ht.typeIs entry_tuple_getitem ?_ (args_tuple_getitem _ _)))
  show wpAny _ _ (Builtin.Tuple.tupleItemsOf (.ref t) >>= _) _ _ s
  refine wpAny_bind (tupleItemsOf_ ht ?_)
  refine wpAny_bind (wpAny_typeOf hTs ?_)
  rw [if_pos (by decide)]
  have hsz : items.toArray.size = items.length := List.size_toArray ..
  rw [hsz]
  refine wpAny_bind (slice_applied hs pl pu pk h0 ?_)
  have hp : ((List.range (tCount items.length lo hi st)).filterMap fun (k : Nat) => items.toArray[((tAdj items.length lo hi st).1 + (k : Int) * (st.getD 1)).toNat]?) = tPick items lo hi st := by
    unfold tPick
    simp only [List.getElem?_toArray]
  dsimp only
  by_cases hc : tSame items.length lo hi st = true
  · rw [if_pos hc] at h
    have hc' : ((tAdj items.length lo hi st).1 == 0 && (st.getD 1) == 1 && tCount items.length lo hi st == items.length) = true := hc
    show wpAny _ _ (if ((tAdj items.length lo hi st).1 == 0 && (st.getD 1) == 1 && tCount items.length lo hi st == items.length) = true then _ else _) _ _ s
    rw [if_pos hc']
    have hx : wpAny (model prog w) A.in1 (Builtin.Tuple.tupleIsExact (.ref t)) (fun b s' => b = true ∧ s' = s) E s := by
      unfold Builtin.Tuple.tupleIsExact
      exact wpAny_bind (wpAny_typeOf ht.typeIs (wpAny_pure ⟨by decide, rfl⟩))
    refine wpAny_bind (wpAny_mono hx ?_ fun _ _ e => e)
    rintro b s' ⟨rfl, rfl⟩
    rw [if_pos rfl]
    exact wpAny_bind (wpAny_rule (wpAny_pure ⟨_, rfl, wpAny_pure h⟩))
  · rw [if_neg hc] at h
    have hc' : ¬ ((tAdj items.length lo hi st).1 == 0 && (st.getD 1) == 1 && tCount items.length lo hi st == items.length) = true := hc
    show wpAny _ _ (if ((tAdj items.length lo hi st).1 == 0 && (st.getD 1) == 1 && tCount items.length lo hi st == items.length) = true then _ else _) _ _ s
    rw [if_neg hc', hp]
    first
      | exact wpAny_bind (m := Builtin.Tuple.tupleExact _) (wpAny_newObj_type (wpAny_pure ⟨_, rfl, wpAny_pure h⟩) hdrop)
      | exact wpAny_bind (m := Builtin.Tuple.tupleExact _) (wpAny_newObj_type (wpAny_bind (wpAny_pure (wpAny_pure ⟨_, rfl, wpAny_pure h⟩))) hdrop)
      | exact wpAny_bind (wpAny_bind (m := Builtin.Tuple.tupleExact _) (wpAny_newObj_type (wpAny_pure (wpAny_pure ⟨_, rfl, wpAny_pure h⟩)) hdrop))
      | exact wpAny_bind (wpAny_bind (m := Builtin.Tuple.tupleExact _) (wpAny_newObj_type (wpAny_pure ⟨_, rfl, wpAny_pure h⟩) hdrop))
theorem slice_tup {value slice : PySem.Expr} {t : Addr} {items : List Value} {vl vu vk : Value} {lo hi st : Option Int} {ops : List Value} {Q : Value → Shared → Prop}
    (F : Fr h₀ L s.heap m) (N : News h₀ L s.heap news) (ht : IsTup s.heap t items.toArray) (pl : IsPart vl lo) (pu : IsPart vu hi) (pk : IsPart vk st) (h0 : st ≠ some 0) (hz : (tPick items lo hi st).length ≤ sizeLine)
    (h : ∀ T h' news', (tSame items.length lo hi st = true → T = t ∧ news' = news) → (tSame items.length lo hi st = false → news' = (T, { cls := .type "tuple", data := .seq (tPick items lo hi st).toArray }) :: news ∧ ∀ p ∈ news, p.1 < T) → Fr h₀ L h' m → News h₀ L h' news' → Q (.ref T) { s with heap := h' })
    (hs : subscripted slice false (.ref t) (.ref s.heap.objs.size) = operate ops (getItem (.ref t) (.ref s.heap.objs.size)) := by with_unfolding_all rfl)
    (hg : ∀ r, letTemporaryGo value (.ref t) r = pure () := by intro _; with_unfolding_all rfl) :
    wpAny (model prog w) A (subscriptTail value slice (.ref t) (.ref s.heap.objs.size)) Q E { s with heap := s.heap.push { cls := .type "slice", data := .fields #[vl, vu, vk] } } := by
  have ht' : IsTup (s.heap.push { cls := .type "slice", data := .fields #[vl, vu, vk] }) t items.toArray := ht.keeps fun _ _ e => Heap.get?_push_of_some _ e
  have N0 := N.grown (h' := s.heap.push { cls := .type "slice", data := .fields #[vl, vu, vk] }) fun _ _ e => Heap.get?_push_of_some _ e
  have F0 := F.push { cls := .type "slice", data := .fields #[vl, vu, vk] }
  refine subscriptTail_ops (s := { s with heap := s.heap.push { cls := .type "slice", data := .fields #[vl, vu, vk] } }) ht'.typeIs slot_tuple_getitem.lookup
    (getItem_tup_slice ht' (Heap.IsSliceOf.new ..) pl pu pk h0 hz ?_) hs hg
  split
  · rename_i hc
    exact h t _ news (fun _ => ⟨rfl, rfl⟩) (fun e => by rw [hc] at e; cases e) F0 N0
  · rename_i hc
    have N1 := News.push F0 N0 { cls := .type "tuple", data := .seq (tPick items lo hi st).toArray }
    refine h _ _ _ (fun e => absurd e hc) (fun _ => ⟨rfl, fun p hp => ?_⟩) (F0.push _) N1
    exact Heap.lt_size (N0 p hp).1
theorem slice_tup_new {value slice : PySem.Expr} {t : Addr} {items ys : List Value} {vl vu vk : Value} {lo hi st : Option Int} {ops : List Value} {Q : Value → Shared → Prop}
    (F : Fr h₀ L s.heap m) (N : News h₀ L s.heap news) (ht : IsTup s.heap t items.toArray) (pl : IsPart vl lo) (pu : IsPart vu hi) (pk : IsPart vk st) (h0 : st ≠ some 0) (hn : tSame items.length lo hi st = false) (hy : tPick items lo hi st = ys) (hz : ys.length ≤ sizeLine)
    (h : ∀ T h', Fr h₀ L h' m → News h₀ L h' ((T, { cls := .type "tuple", data := .seq ys.toArray }) :: news) → (∀ p ∈ news, p.1 < T) → Q (.ref T) { s with heap := h' })
    (hs : subscripted slice false (.ref t) (.ref s.heap.objs.size) = operate ops (getItem (.ref t) (.ref s.heap.objs.size)))
    (hg : ∀ r, letTemporaryGo value (.ref t) r = pure ()) :
    wpAny (model prog w) A (subscriptTail value slice (.ref t) (.ref s.heap.objs.size)) Q E { s with heap := s.heap.push { cls := .type "slice", data := .fields #[vl, vu, vk] } } := by
  subst hy
  refine slice_tup F N ht pl pu pk h0 hz (fun T h' news' a b F' N' => ?_) hs hg
  obtain ⟨rfl, l⟩ := b hn
  exact h T h' F' N' l
theorem slice_tup_same {value slice : PySem.Expr} {t : Addr} {items : List Value} {vl vu vk : Value} {lo hi st : Option Int} {ops : List Value} {Q : Value → Shared → Prop}
    (F : Fr h₀ L s.heap m) (N : News h₀ L s.heap news) (ht : IsTup s.heap t items.toArray) (pl : IsPart vl lo) (pu : IsPart vu hi) (pk : IsPart vk st) (h0 : st ≠ some 0) (hn : tSame items.length lo hi st = true) (hz : (tPick items lo hi st).length ≤ sizeLine)
    (h : ∀ h', Fr h₀ L h' m → News h₀ L h' news → Q (.ref t) { s with heap := h' })
    (hs : subscripted slice false (.ref t) (.ref s.heap.objs.size) = operate ops (getItem (.ref t) (.ref s.heap.objs.size)))
    (hg : ∀ r, letTemporaryGo value (.ref t) r = pure ()) :
    wpAny (model prog w) A (subscriptTail value slice (.ref t) (.ref s.heap.objs.size)) Q E { s with heap := s.heap.push { cls := .type "slice", data := .fields #[vl, vu, vk] } } := by
  refine slice_tup F N ht pl pu pk h0 hz (fun T h' news' a b F' N' => ?_) hs hg
  obtain ⟨rfl, rfl⟩ := a hn
  exact h h' F' N'
end
end Mine
end
section
open PySem PySem.W PySem.Calls PySem.Spec PyProof.Rows PyProof.V
set_option maxRecDepth 100000
set_option maxHeartbeats 4000000
namespace Mine
theorem tPick_eq (xs : List Value) (lo hi st : Option Int) {n c : Nat} {a b : Int} (hn : xs.length = n) (ha : tAdj n lo hi st = (a, b)) (hc : tCount n lo hi st = c) : tPick xs lo hi st = (List.range c).filterMap fun (k : Nat) => xs[(a + (k : Int) * (st.getD 1)).toNat]? := by
  unfold tPick
  rw [hn, hc, ha]
theorem pick7_4 (a b c d e f g : Value) : tPick [a, b, c, d, e, f, g] none (some 4) none = [a, b, c, d] :=
  (tPick_eq _ _ _ _ (n := 7) (c := 4) (a := 0) (b := 4) rfl (by decide +kernel) (by decide +kernel)).trans (by rfl)
theorem pick7_5 (a b c d e f g : Value) : tPick [a, b, c, d, e, f, g] (some 5) none none = [f, g] :=
  (tPick_eq _ _ _ _ (n := 7) (c := 2) (a := 5) (b := 7) rfl (by decide +kernel) (by decide +kernel)).trans (by rfl)
theorem pick7_r (a b c d e f g : Value) : tPick [a, b, c, d, e, f, g] none none (some (-1)) = [g, f, e, d, c, b, a] :=
  (tPick_eq _ _ _ _ (n := 7) (c := 7) (a := 6) (b := -1) rfl (by decide +kernel) (by decide +kernel)).trans (by rfl)
theorem pick7_s (a b c d e f g : Value) : tPick [a, b, c, d, e, f, g] none none (some 1) = [a, b, c, d, e, f, g] :=
  (tPick_eq _ _ _ _ (n := 7) (c := 7) (a := 0) (b := 7) rfl (by decide +kernel) (by decide +kernel)).trans (by rfl)
theorem pick5_r (a b c d e : Value) : tPick [a, b, c, d, e] none none (some (-1)) = [e, d, c, b, a] :=
  (tPick_eq _ _ _ _ (n := 5) (c := 5) (a := 4) (b := -1) rfl (by decide +kernel) (by decide +kernel)).trans (by rfl)
theorem pick5_s (a b c d e : Value) : tPick [a, b, c, d, e] none none (some 1) = [a, b, c, d, e] :=
  (tPick_eq _ _ _ _ (n := 5) (c := 5) (a := 0) (b := 5) rfl (by decide +kernel) (by decide +kernel)).trans (by rfl)
theorem same7_4 : tSame 7 none (some 4) none = false := by decide +kernel
theorem same7_5 : tSame 7 (some 5) none none = false := by decide +kernel
theorem same7_r : tSame 7 none none (some (-1)) = false := by decide +kernel
theorem same7_s : tSame 7 none none (some 1) = true := by decide +kernel
theorem same5_r : tSame 5 none none (some (-1)) = false := by decide +kernel
theorem same5_s : tSame 5 none none (some 1) = true := by decide +kernel
section
variable {prog : Program} {w : World} {A : Around} {E : Value → Shared → Prop} {s : Shared} {h₀ : Heap} {L : Addr} {m : PySem.Str → Option Value} {news : List (Addr × Obj)}
theorem cut7_4 {value slice : PySem.Expr} {t : Addr} {a b c d e f g : Value} {i : Tok} {Q : Value → Shared → Prop} (F : Fr h₀ L s.heap m) (N : News h₀ L s.heap news) (ht : IsTup s.heap t [a, b, c, d, e, f, g].toArray)
    (h : ∀ T h', Fr h₀ L h' m → News h₀ L h' ((T, { cls := .type "tuple", data := .seq [a, b, c, d].toArray }) :: news) → (∀ p ∈ news, p.1 < T) → Q (.ref T) { s with heap := h' })
    (hs : subscripted slice false (.ref t) (.ref s.heap.objs.size) = operate [.ref s.heap.objs.size, .ref t] (getItem (.ref t) (.ref s.heap.objs.size))) (hg : ∀ r, letTemporaryGo value (.ref t) r = pure ()) :
    wpAny (model prog w) A (subscriptTail value slice (.ref t) (.ref s.heap.objs.size)) Q E { s with heap := s.heap.push { cls := .type "slice", data := .fields #[.none, .int 4 i, .none] } } :=
  slice_tup_new F N ht .none (.int _ _) .none (by simp) same7_4 (pick7_4 ..) (by rw [sizeLine_eq]; simp) h hs hg
theorem cut7_5 {value slice : PySem.Expr} {t : Addr} {a b c d e f g : Value} {i : Tok} {Q : Value → Shared → Prop} (F : Fr h₀ L s.heap m) (N : News h₀ L s.heap news) (ht : IsTup s.heap t [a, b, c, d, e, f, g].toArray)
    (h : ∀ T h', Fr h₀ L h' m → News h₀ L h' ((T, { cls := .type "tuple", data := .seq [f, g].toArray }) :: news) → (∀ p ∈ news, p.1 < T) → Q (.ref T) { s with heap := h' })
    (hs : subscripted slice false (.ref t) (.ref s.heap.objs.size) = operate [.ref s.heap.objs.size, .ref t] (getItem (.ref t) (.ref s.heap.objs.size))) (hg : ∀ r, letTemporaryGo value (.ref t) r = pure ()) :
    wpAny (model prog w) A (subscriptTail value slice (.ref t) (.ref s.heap.objs.size)) Q E { s with heap := s.heap.push { cls := .type "slice", data := .fields #[.int 5 i, .none, .none] } } :=
  slice_tup_new F N ht (.int _ _) .none .none (by simp) same7_5 (pick7_5 ..) (by rw [sizeLine_eq]; simp) h hs hg
end
end Mine
end
section
open PySem PySem.W PySem.Calls PySem.Spec PyProof.Rows PyProof.V
set_option maxRecDepth 100000
set_option maxHeartbeats 4000000
namespace Mine
theorem ints_of : ∀ {l : List Value}, (∀ v ∈ l, ∃ x t, v = .int x t) → ∃ ms, IntsAre l ms
  | [], _ => ⟨[], by first | exact .nil | constructor⟩
  | v :: l, h => by
    obtain ⟨x, t, rfl⟩ := h v (List.mem_cons_self ..)
    obtain ⟨ms, hm⟩ := ints_of fun v hv => h v (List.mem_cons_of_mem _ hv)
    exact ⟨x :: ms, by first | exact .cons hm | constructor <;> assumption⟩
theorem ints_mem : ∀ {l : List Value} {ms : List Int}, IntsAre l ms → ∀ v ∈ l, ∃ x t, v = .int x t := by
  intro l ms h v hv
  induction h with
  | nil => cases hv
  | cons n t h ih =>
    rcases List.mem_cons.mp hv with rfl | hv
    · exact ⟨_, _, rfl⟩
    · exact ih hv
theorem pick_mem {items : Array Value} {lo hi st : Option Int} : ∀ v ∈ (slicePick items lo hi st).toList, v ∈ items.toList := by
  intro v hv
  unfold slicePick at hv
  simp only [List.mem_filterMap] at hv
  obtain ⟨i, _, e⟩ := hv
  have := Array.mem_of_getElem? e
  exact Array.mem_toList_iff.mpr this
theorem pick_len {items : Array Value} {lo : Option Int} (hlo : lo = none ∨ lo = some 1) : (slicePick items lo (some 12) (some 2)).toList.length ≤ 6 := by
  unfold slicePick
  refine Nat.le_trans (List.length_filterMap_le ..) ?_
  unfold sliceRange
  simp only [List.length_map, List.length_range]
  rcases hlo with rfl | rfl <;> simp only [sliceBounds] <;> simp <;> omega
theorem pick_ints {vs : List Value} {ns : List Int} (hi : IntsAre vs ns) {lo : Option Int} (hlo : lo = none ∨ lo = some 1) : ∃ ms, IntsAre (slicePick vs.toArray lo (some 12) (some 2)).toList ms ∧ ms.length ≤ 6 := by
  obtain ⟨ms, hm⟩ := ints_of (l := (slicePick vs.toArray lo (some 12) (some 2)).toList) fun v hv => ints_mem hi v (by simpa using pick_mem v hv)
  exact ⟨ms, hm, by rw [← hm.length]; exact pick_len hlo⟩
end Mine
end
section
open PySem PySem.W PySem.Calls PySem.Spec PyProof.Rows PyProof.V
set_option maxRecDepth 100000
set_option maxHeartbeats 4000000
namespace Mine
section
variable {prog : Program} {w : World} {A : Around} {E : Value → Shared → Prop} {s : Shared} {env : Env} {h₀ : Heap} {C : Addr} {scope : Scope} {cl : List (PySem.Str × Addr)} {m : PySem.Str → Option Value} {news : List (Addr × Obj)}
theorem store_cm {y : PySem.Str} {v : Value} {Q : Unit → Shared → Prop} (F : Fr h₀ C s.heap m) (N : News h₀ C s.heap news) (hy : (compEnvC scope cl C env).kindOf y = some .local) (hk : (compEnvC scope cl C env).scope.kind = .function)
    (h : ∀ h', Fr h₀ C h' (fun z => if z = y then some v else m z) → News h₀ C h' news → Q () { s with heap := h', toks := s.toks + 1 }) :
    wpAny (model prog w) A (storeName (compEnvC scope cl C env) y v) Q E s :=
  wpAny_storeName_local hy F.ns (fun h' hn hs => h h' (F.set hn hs) fun p hp => ⟨hs.extBut _ _ (N p hp).2.1 (N p hp).1, (N p hp).2⟩) (by rw [hk]; rfl)
theorem ldl_cm {x : PySem.Str} {pos : Pos} {v : Value} {Q : Value → Shared → Prop} (F : Fr h₀ C s.heap m) (hx : m x = some v) (h : Q v s)
    (hk : (compEnvC scope cl C env).scope.kind = .function) (hl : (compEnvC scope cl C env).kindOf x = some .local) (hd : (x == (PySem.Str.ofString "__debug__")) = false) :
    wpAny (model prog w) A (eval (.Name x pos) (compEnvC scope cl C env)) Q E s := wpAny_Name (wpAny_loadName_local hk hl F.ns hx h) hd
theorem ldc_cm {x : PySem.Str} {pos : Pos} {c : Addr} {o : Obj} {v : Value} {Q : Value → Shared → Prop} (N : News h₀ C s.heap news) (hc : cl.lookup x = some c) (hm : (c, o) ∈ news) (ho : o.data = .cell (some v)) (h : Q v s)
    (hk : (compEnvC scope cl C env).scope.kind = .function) (hl : (compEnvC scope cl C env).kindOf x = some .cell) (hd : (x == (PySem.Str.ofString "__debug__")) = false) :
    wpAny (model prog w) A (eval (.Name x pos) (compEnvC scope cl C env)) Q E s := wpAny_Name (wpAny_loadName_cell hk hl hc ⟨o, (N _ hm).1, ho⟩ h) hd
end
end Mine
end
section
open PySem PySem.W PySem.Calls PySem.Spec PyProof.Rows PyProof.V
set_option maxRecDepth 100000
set_option maxHeartbeats 4000000
namespace Mine
noncomputable def wordOf : Nat → PySem.Str
  | 0 => PySem.Str.ofString ""
  | 1 => PySem.Str.ofString "B"
  | 2 => PySem.Str.ofString "a"
  | 3 => PySem.Str.ofString "a b"
  | 4 => PySem.Str.ofString "a=b"
  | 5 => PySem.Str.ofString "ab"
  | _ => PySem.Str.ofString "b"
noncomputable def calledOf : Nat → PySem.Str
  | 0 => PySem.Str.ofString ""
  | 1 => PySem.Str.ofString "B"
  | 2 => PySem.Str.ofString "a"
  | 3 => PySem.Str.ofString "a b"
  | 4 => PySem.Str.ofString "ab"
  | _ => PySem.Str.ofString "b"
noncomputable def numOf : Nat → Int
  | 0 => -3
  | 1 => 0
  | 2 => 7
  | 3 => 10
  | _ => 100
theorem fmod_lt (x : Int) {n : Nat} (hn : 0 < n) : 0 ≤ Int.fmod x n ∧ Int.fmod x n < n ∧ (Int.fmod x n).toNat < n := by
  have h1 : 0 ≤ Int.fmod x n := Int.fmod_nonneg_of_pos _ (by omega)
  have h2 : Int.fmod x n < n := Int.fmod_lt_of_pos _ (by omega)
  omega
theorem word_at {k : Nat} (hk : k < 7) (t0 t1 t2 t3 t4 t5 t6 : Tok) : ∃ t, [Value.str (PySem.Str.ofString "") t0, Value.str (PySem.Str.ofString "B") t1, Value.str (PySem.Str.ofString "a") t2, Value.str (PySem.Str.ofString "a b") t3, Value.str (PySem.Str.ofString "a=b") t4, Value.str (PySem.Str.ofString "ab") t5, Value.str (PySem.Str.ofString "b") t6][k]? = some (.str (wordOf k) t) := by
  rcases k with _ | _ | _ | _ | _ | _ | _ | k
  case succ.succ.succ.succ.succ.succ.succ => exact absurd hk (Nat.not_lt.mpr (Nat.le_add_left 7 k))
  all_goals exact ⟨_, rfl⟩
theorem called_at {k : Nat} (hk : k < 6) (t0 t1 t2 t3 t5 t6 : Tok) : ∃ t, [Value.str (PySem.Str.ofString "") t0, Value.str (PySem.Str.ofString "B") t1, Value.str (PySem.Str.ofString "a") t2, Value.str (PySem.Str.ofString "a b") t3, Value.str (PySem.Str.ofString "ab") t5, Value.str (PySem.Str.ofString "b") t6][k]? = some (.str (calledOf k) t) := by
  rcases k with _ | _ | _ | _ | _ | _ | k
  case succ.succ.succ.succ.succ.succ => exact absurd hk (Nat.not_lt.mpr (Nat.le_add_left 6 k))
  all_goals exact ⟨_, rfl⟩
theorem num_at {k : Nat} (hk : k < 5) (t0 t1 t2 t3 t4 : Tok) : ∃ t, [Value.int (-3) t0, Value.int 0 t1, Value.int 7 t2, Value.int 10 t3, Value.int 100 t4][k]? = some (.int (numOf k) t) := by
  rcases k with _ | _ | _ | _ | _ | k
  case succ.succ.succ.succ.succ => exact absurd hk (Nat.not_lt.mpr (Nat.le_add_left 5 k))
  all_goals exact ⟨_, rfl⟩
/-- which word, which number: of a number of the script -/
noncomputable def wi (x : Int) : Nat := (Int.fmod x 7).toNat
noncomputable def ni (x : Int) : Nat := (Int.fmod (Int.fdiv x 7) 5).toNat
noncomputable def ci (x : Int) : Nat := (Int.fmod x 6).toNat
noncomputable def chrS (k : Nat) : PySem.Str := ⟨#[k]⟩
noncomputable def leftRow (i : Nat) (x : Int) : Dat := .tuple [.str (wordOf (wi x)), .int (numOf (ni x)), .str (chrS (97 + i))]
noncomputable def rightRow (i : Nat) (x : Int) : Dat := .tuple [.str (calledOf (ci x)), .str (chrS (65 + i) ++ PySem.Str.ofString "=")]
theorem wi_lt (x : Int) : wi x < 7 := (fmod_lt x (n := 7) (by decide)).2.2
theorem ni_lt (x : Int) : ni x < 5 := (fmod_lt _ (n := 5) (by decide)).2.2
theorem ci_lt (x : Int) : ci x < 6 := (fmod_lt x (n := 6) (by decide)).2.2
/-- rows made of numbers, from a place on -/
noncomputable def rowsFrom (f : Nat → Int → Dat) : Nat → List Int → List Dat
  | _, [] => []
  | i, x :: xs => f i x :: rowsFrom f (i + 1) xs
theorem rowsFrom_snoc (f : Nat → Int → Dat) : ∀ (i : Nat) (xs : List Int) (x : Int), rowsFrom f i (xs ++ [x]) = rowsFrom f i xs ++ [f (i + xs.length) x]
  | i, [], x => rfl
  | i, y :: xs, x => by
    show f i y :: rowsFrom f (i + 1) (xs ++ [x]) = f i y :: (rowsFrom f (i + 1) xs ++ [f (i + (xs.length + 1)) x])
    rw [rowsFrom_snoc f (i + 1) xs x, show i + 1 + xs.length = i + (xs.length + 1) by omega]
end Mine
end
section
open PySem PySem.W PySem.Calls PySem.Spec PyProof.Rows PyProof.V
set_option maxRecDepth 100000
set_option maxHeartbeats 4000000
namespace Mine
theorem news_swap5 {hb h : Heap} {L : Addr} {a b c d e : Addr × Obj} {r : List (Addr × Obj)} (N : News hb L h (a :: b :: c :: d :: e :: r)) : News hb L h (r ++ [a, b, c, d, e]) := fun p hp => N p (by
  rcases List.mem_append.mp hp with hp | hp
  · simp [hp]
  · simp only [List.mem_cons, List.not_mem_nil, or_false] at hp ⊢
    rcases hp with h | h | h | h | h <;> simp [h])
/-- the cells, and what else the law's ledger bears -/
noncomputable abbrev cellsL (L : Addr) (o1 o2 o3 o4 o5 o6 o7 o8 : Obj) (tab : Obj) (rest : List (Addr × Obj)) : List (Addr × Obj) :=
  (L + 1 + 1 + 1 + 1 + 1 + 1 + 1 + 1, o8) :: (L + 1 + 1 + 1 + 1 + 1 + 1 + 1, o7) :: (L + 1 + 1 + 1 + 1 + 1 + 1, o6) :: (L + 1 + 1 + 1 + 1 + 1, o5) :: (L + 1 + 1 + 1 + 1, o4) :: (L + 1 + 1 + 1, o3) :: (L + 1 + 1, o2) :: (L + 1, o1) :: (128, tab) :: rest
noncomputable def WordsAt (rest : List (Addr × Obj)) (D : Addr) : Prop := ∃ t0 t1 t2 t3 t4 t5 t6, (D, tupO [.str (PySem.Str.ofString "") t0, .str (PySem.Str.ofString "B") t1, .str (PySem.Str.ofString "a") t2, .str (PySem.Str.ofString "a b") t3, .str (PySem.Str.ofString "a=b") t4, .str (PySem.Str.ofString "ab") t5, .str (PySem.Str.ofString "b") t6]) ∈ rest
noncomputable def CalledAt (rest : List (Addr × Obj)) (D : Addr) : Prop := ∃ t0 t1 t2 t3 t4 t5, (D, tupO [.str (PySem.Str.ofString "") t0, .str (PySem.Str.ofString "B") t1, .str (PySem.Str.ofString "a") t2, .str (PySem.Str.ofString "a b") t3, .str (PySem.Str.ofString "ab") t4, .str (PySem.Str.ofString "b") t5]) ∈ rest
noncomputable def NumsAt (rest : List (Addr × Obj)) (D : Addr) : Prop := ∃ t0 t1 t2 t3 t4, (D, tupO [.int (-3) t0, .int 0 t1, .int 7 t2, .int 10 t3, .int 100 t4]) ∈ rest
theorem WordsAt.mono {n n' : List (Addr × Obj)} {D : Addr} (h : ∀ p ∈ n, p ∈ n') : WordsAt n D → WordsAt n' D := fun ⟨a, b, c, d, e, f, g, k⟩ => ⟨a, b, c, d, e, f, g, h _ k⟩
theorem CalledAt.mono {n n' : List (Addr × Obj)} {D : Addr} (h : ∀ p ∈ n, p ∈ n') : CalledAt n D → CalledAt n' D := fun ⟨a, b, c, d, e, f, k⟩ => ⟨a, b, c, d, e, f, h _ k⟩
theorem NumsAt.mono {n n' : List (Addr × Obj)} {D : Addr} (h : ∀ p ∈ n, p ∈ n') : NumsAt n D → NumsAt n' D := fun ⟨a, b, c, d, e, k⟩ => ⟨a, b, c, d, e, h _ k⟩
/-- the cells alone -/
noncomputable abbrev cellsF (L : Addr) (o1 o2 o3 o4 o5 o6 o7 o8 tab : Obj) : List (Addr × Obj) := cellsL L o1 o2 o3 o4 o5 o6 o7 o8 tab []
theorem mem_swap {α : Type} {f xs r : List α} {p : α} (h : p ∈ f ++ (xs ++ r)) : p ∈ xs ++ (f ++ r) := by
  rcases List.mem_append.mp h with h | h
  · exact List.mem_append_right _ (List.mem_append_left _ h)
  · rcases List.mem_append.mp h with h | h
    · exact List.mem_append_left _ h
    · exact List.mem_append_right _ (List.mem_append_right _ h)
theorem news_in {hb h : Heap} {L : Addr} {o1 o2 o3 o4 o5 o6 o7 o8 tab : Obj} {xs rest : List (Addr × Obj)} (N : News hb L h (xs ++ cellsL L o1 o2 o3 o4 o5 o6 o7 o8 tab rest)) : News hb L h (cellsL L o1 o2 o3 o4 o5 o6 o7 o8 tab (xs ++ rest)) := fun p hp => N p (mem_swap (f := cellsF L o1 o2 o3 o4 o5 o6 o7 o8 tab) hp)
theorem mem_cells {L : Addr} {o1 o2 o3 o4 o5 o6 o7 o8 tab : Obj} {rest : List (Addr × Obj)} {p : Addr × Obj} (h : p ∈ rest) : p ∈ cellsL L o1 o2 o3 o4 o5 o6 o7 o8 tab rest := List.mem_append_right (cellsF L o1 o2 o3 o4 o5 o6 o7 o8 tab) h
theorem ints_get {l : List Value} {ms : List Int} (h : IntsAre l ms) {i : Nat} {v : Value} (e : l[i]? = some v) : ∃ x t, v = .int x t ∧ ms[i]? = some x := by
  induction h generalizing i with
  | nil => cases e
  | cons n t h ih =>
    cases i with
    | zero => cases e; exact ⟨_, _, rfl, rfl⟩
    | succ i => exact ih e
theorem take_snoc {α : Type} {l : List α} {i : Nat} {x : α} (e : l[i]? = some x) : l.take (i + 1) = l.take i ++ [x] := by
  rw [List.take_succ, e]; rfl
theorem item_small {prog : Program} {w : World} {A : Around} {E : Value → Shared → Prop} {s : Shared} {value slice : PySem.Expr} {t : Addr} {l : List Value} {i : Int} {u : Tok} {x : Value} {Q : Value → Shared → Prop} (ht : IsTup s.heap t l.toArray)
    (h0 : 0 ≤ i) (hi : i < 1000) (hx : l[i.toNat]? = some x) (h : Q x s)
    (hs : ∀ i : Int, subscripted slice false (.ref t) (.int i u) = operate [.ref t, .int i u] (getItem (.ref t) (.int i u)) := by intro i; with_unfolding_all rfl) :
    wpAny (model prog w) A (subscriptTail value slice (.ref t) (.int i u)) Q E s := by
  obtain ⟨n, rfl⟩ := Int.eq_ofNat_of_zero_le h0
  exact item_nat ht (by omega) hx h (hs _)
noncomputable abbrev OffC (L a : Nat) : Prop := a ≠ 128 ∧ (a ≤ L ∨ L + 8 < a)
/-- where the cells lie -/
theorem cellsF_at {L : Nat} {o1 o2 o3 o4 o5 o6 o7 o8 tab : Obj} {p : Addr × Obj} (h : p ∈ cellsF L o1 o2 o3 o4 o5 o6 o7 o8 tab) : p.1 = 128 ∨ ∃ k : Nat, 1 ≤ k ∧ k ≤ 8 ∧ p.1 = L + k := by
  rcases List.mem_cons.mp h with rfl | h
  · exact .inr ⟨8, by decide, by decide, rfl⟩
  rcases List.mem_cons.mp h with rfl | h
  · exact .inr ⟨7, by decide, by decide, rfl⟩
  rcases List.mem_cons.mp h with rfl | h
  · exact .inr ⟨6, by decide, by decide, rfl⟩
  rcases List.mem_cons.mp h with rfl | h
  · exact .inr ⟨5, by decide, by decide, rfl⟩
  rcases List.mem_cons.mp h with rfl | h
  · exact .inr ⟨4, by decide, by decide, rfl⟩
  rcases List.mem_cons.mp h with rfl | h
  · exact .inr ⟨3, by decide, by decide, rfl⟩
  rcases List.mem_cons.mp h with rfl | h
  · exact .inr ⟨2, by decide, by decide, rfl⟩
  rcases List.mem_cons.mp h with rfl | h
  · exact .inr ⟨1, by decide, by decide, rfl⟩
  · exact .inl (by rw [List.mem_singleton.mp h])
theorem cellsF_has {L : Nat} {o1 o2 o3 o4 o5 o6 o7 o8 tab : Obj} : ∀ {k : Nat}, 1 ≤ k → k ≤ 8 → ∃ o, (L + k, o) ∈ cellsF L o1 o2 o3 o4 o5 o6 o7 o8 tab
  | 0, h, _ => absurd h (by decide)
  | 8, _, _ => ⟨o8, .head _⟩
  | 7, _, _ => ⟨o7, .tail _ (.head _)⟩
  | 6, _, _ => ⟨o6, .tail _ (.tail _ (.head _))⟩
  | 5, _, _ => ⟨o5, .tail _ (.tail _ (.tail _ (.head _)))⟩
  | 4, _, _ => ⟨o4, .tail _ (.tail _ (.tail _ (.tail _ (.head _))))⟩
  | 3, _, _ => ⟨o3, .tail _ (.tail _ (.tail _ (.tail _ (.tail _ (.head _)))))⟩
  | 2, _, _ => ⟨o2, .tail _ (.tail _ (.tail _ (.tail _ (.tail _ (.tail _ (.head _))))))⟩
  | 1, _, _ => ⟨o1, .tail _ (.tail _ (.tail _ (.tail _ (.tail _ (.tail _ (.tail _ (.head _)))))))⟩
  | k + 9, _, h => absurd h (by omega)
theorem offC_ne {L D k : Nat} (hD : OffC L D) (h1 : 1 ≤ k) (h8 : k ≤ 8) : L + k ≠ D := fun e => by
  rcases hD.2 with h | h
  · exact absurd (e ▸ h : L + k ≤ L) (Nat.not_le.mpr (Nat.lt_add_of_pos_right h1))
  · exact absurd (e ▸ h : L + 8 < L + k) (Nat.not_lt.mpr (Nat.add_le_add_left h8 L))
theorem cells_off {L D : Addr} {o1 o2 o3 o4 o5 o6 o7 o8 tab : Obj} {rest : List (Addr × Obj)} (hD : OffC L D) (h : ∀ p ∈ rest, p.1 ≠ D) : ∀ p ∈ cellsL L o1 o2 o3 o4 o5 o6 o7 o8 tab rest, p.1 ≠ D := by
  intro p hp
  rcases List.mem_append.mp (show p ∈ cellsF L o1 o2 o3 o4 o5 o6 o7 o8 tab ++ rest from hp) with h3 | h3
  · rcases cellsF_at h3 with e | ⟨k, k1, k8, e⟩
    · exact fun q => hD.1 (q.symm.trans e)
    · exact fun q => offC_ne hD k1 k8 (e.symm.trans q)
  · exact h p h3
theorem cells_cons {L : Addr} {o1 o2 o3 o4 o5 o6 o7 o8 tab : Obj} {rest : List (Addr × Obj)} {x p : Addr × Obj} (h : p ∈ cellsL L o1 o2 o3 o4 o5 o6 o7 o8 tab (x :: rest)) : p = x ∨ p ∈ cellsL L o1 o2 o3 o4 o5 o6 o7 o8 tab rest := List.mem_cons.mp (mem_swap (f := cellsF L o1 o2 o3 o4 o5 o6 o7 o8 tab) (xs := [x]) h)
/-- all that the cells' addresses are off: an address apart from each of them -/
theorem offC_of {L D : Addr} {o1 o2 o3 o4 o5 o6 o7 o8 tab : Obj} {rest : List (Addr × Obj)} (hL : @Ne Nat D L) (h : ∀ p ∈ cellsL L o1 o2 o3 o4 o5 o6 o7 o8 tab rest, p.1 ≠ D) : OffC L D := by
  have hf : ∀ p ∈ cellsF L o1 o2 o3 o4 o5 o6 o7 o8 tab, p.1 ≠ D := fun p hp => h p (List.mem_append_left rest hp)
  refine ⟨fun e => hf (128, tab) (List.mem_append_right (cellsF L o1 o2 o3 o4 o5 o6 o7 o8 tab |>.dropLast) (.head _)) e.symm, ?_⟩
  rcases Nat.lt_or_ge L D with h1 | h1
  · refine .inr (Nat.lt_of_not_le fun h2 => ?_)
    obtain ⟨k, hk⟩ := Nat.exists_eq_add_of_lt h1
    obtain ⟨o, ho⟩ := cellsF_has (o1 := o1) (o2 := o2) (o3 := o3) (o4 := o4) (o5 := o5) (o6 := o6) (o7 := o7) (o8 := o8) (tab := tab) (L := L) (k := k + 1) (Nat.succ_le_succ (Nat.zero_le _)) (Nat.le_of_add_le_add_left (hk ▸ h2 : L + (k + 1) ≤ L + 8))
    exact hf _ ho hk.symm
  · exact .inl h1
theorem rowsFrom_length (f : Nat → Int → Dat) : ∀ (i : Nat) (xs : List Int), (rowsFrom f i xs).length = xs.length
  | _, [] => rfl
  | i, x :: xs => congrArg (· + 1) (rowsFrom_length f (i + 1) xs)
theorem rowsFrom_take {f : Nat → Int → Dat} {l : List Int} {i : Nat} {x : Int} (e : l[i]? = some x) : rowsFrom f 0 (l.take (i + 1)) = rowsFrom f 0 (l.take i) ++ [f i x] := by
  have hi : i < l.length := (List.getElem?_eq_some_iff.mp e).1
  rw [take_snoc e, rowsFrom_snoc, List.length_take, Nat.min_eq_left (Nat.le_of_lt hi), Nat.zero_add]
theorem chr_at (k i : Nat) : ({ cps := #[((k : Int) + (i : Int)).toNat] } : PySem.Str) = chrS (k + i) := by
  unfold chrS
  rw [show ((k : Int) + (i : Int)).toNat = k + i by omega]
theorem mem_swap2 {α : Type} {f xs its r : List α} {p : α} (h : p ∈ its ++ (f ++ (xs ++ r))) : p ∈ xs ++ (its ++ (f ++ r)) := by
  rcases List.mem_append.mp h with h | h
  · exact List.mem_append_right _ (List.mem_append_left _ h)
  · rcases List.mem_append.mp (mem_swap h) with h | h
    · exact List.mem_append_left _ h
    · exact List.mem_append_right _ (List.mem_append_right _ h)
/-- the ledger behind a turn: what the turn made goes in behind the cells -/
theorem news_turn {hb h : Heap} {C L : Addr} {o1 o2 o3 o4 o5 o6 o7 o8 tab : Obj} {xs its rest : List (Addr × Obj)} {a b : Addr × Obj} (N : News hb C h (xs ++ (its ++ a :: b :: cellsL L o1 o2 o3 o4 o5 o6 o7 o8 tab rest))) :
    News hb C h (its ++ a :: b :: cellsL L o1 o2 o3 o4 o5 o6 o7 o8 tab (xs ++ rest)) := fun p hp => N p (mem_swap2 (f := a :: b :: cellsF L o1 o2 o3 o4 o5 o6 o7 o8 tab) hp)
theorem off_turn {L : Addr} {o1 o2 o3 o4 o5 o6 o7 o8 tab : Obj} {xs its rest : List (Addr × Obj)} {a b b' : Addr × Obj} (off : ∀ p ∈ a :: b :: cellsL L o1 o2 o3 o4 o5 o6 o7 o8 tab rest, ∀ q ∈ its, p.1 ≠ q.1) (hb : b'.1 = b.1)
    (hx : ∀ p ∈ xs, ∀ q ∈ its, p.1 ≠ q.1) : ∀ p ∈ a :: b' :: cellsL L o1 o2 o3 o4 o5 o6 o7 o8 tab (xs ++ rest), ∀ q ∈ its, p.1 ≠ q.1 := by
  intro p hp
  rcases List.mem_cons.mp hp with h | h
  · exact h ▸ off a (List.mem_cons_self ..)
  rcases List.mem_cons.mp h with h | h
  · rw [h, hb]; exact off b (List.mem_cons_of_mem _ (List.mem_cons_self ..))
  rcases List.mem_append.mp (mem_swap (f := cellsF L o1 o2 o3 o4 o5 o6 o7 o8 tab) h) with h | h
  · exact hx p h
  · exact off p (List.mem_cons_of_mem _ (List.mem_cons_of_mem _ h))
theorem any_toks {α : Type} {M : Model} {A : Around} {t : Sem α} {Q : α → Shared → Prop} {E : Value → Shared → Prop} {s : Shared} (h : ∀ tk, wpAny M A t Q E { heap := s.heap, gens := s.gens, drawn := s.drawn, toks := tk, os := s.os }) : wpAny M A t Q E s := h s.toks
theorem sign_of (z : Int) : 1 - Int.fmod z 2 * 2 = 1 ∨ 1 - Int.fmod z 2 * 2 = -1 := by
  rw [Int.fmod_eq_emod_of_nonneg _ (by decide)]
  omega
end Mine
end
section
open PySem PySem.W PySem.Calls PySem.Spec PyProof.Rows PyProof.V
set_option maxRecDepth 100000
set_option maxHeartbeats 4000000
namespace Mine
/-- an object that is no cell and no table -/
noncomputable def PlainO (o : Obj) : Prop := (∀ v, o.data ≠ .cell v) ∧ ∀ vs, o.data ≠ .fields vs
noncomputable def PlainAll : List (Addr × Obj) → Prop
  | [] => True
  | p :: r => PlainO p.2 ∧ PlainAll r
theorem PlainAll.get {xs : List (Addr × Obj)} (h : PlainAll xs) (p : Addr × Obj) (hp : p ∈ xs) : PlainO p.2 := by
  induction xs with
  | nil => cases hp
  | cons q r ih =>
    cases hp with
    | head => exact h.1
    | tail _ hp => exact ih h.2 hp
theorem plain_list {a : Array Value} {n : Nat} : PlainO (listOf a n) := ⟨nofun, nofun⟩
theorem plain_tup {a : Array Value} {n : Nat} {d : Option Addr} {sl : Array (Option Value)} : PlainO ⟨.type "tuple", d, .seq a n, sl⟩ := ⟨nofun, nofun⟩
structure CellsOk (o1 o2 o3 o4 o5 o6 o7 o8 tab : Obj) : Prop where
  a1 : ∃ v, o1.data = .cell v
  a2 : ∃ v, o2.data = .cell v
  a3 : ∃ v, o3.data = .cell v
  a4 : ∃ v, o4.data = .cell v
  a5 : ∃ v, o5.data = .cell v
  a6 : ∃ v, o6.data = .cell v
  a7 : ∃ v, o7.data = .cell v
  a8 : ∃ v, o8.data = .cell v
  a9 : ∃ vs, tab.data = .fields vs
section
variable {L : Addr} {o1 o2 o3 o4 o5 o6 o7 o8 tab : Obj} {rest xs tl : List (Addr × Obj)}
theorem cell_not {o ob : Obj} (h : ∃ v, o.data = .cell v) (hp : PlainO ob) (e : ob = o) : False := by
  obtain ⟨v, hv⟩ := h
  rw [← e] at hv
  exact hp.1 v hv
theorem tab_not {o ob : Obj} (h : ∃ v, o.data = .fields v) (hp : PlainO ob) (e : ob = o) : False := by
  obtain ⟨v, hv⟩ := h
  rw [← e] at hv
  exact hp.2 v hv
theorem cells_plain (K : CellsOk o1 o2 o3 o4 o5 o6 o7 o8 tab) {p : Addr × Obj} (h : p ∈ cellsF L o1 o2 o3 o4 o5 o6 o7 o8 tab) : ¬ PlainO p.2 := fun hp => by
  rcases List.mem_cons.mp h with rfl | h
  · exact cell_not K.a8 hp rfl
  rcases List.mem_cons.mp h with rfl | h
  · exact cell_not K.a7 hp rfl
  rcases List.mem_cons.mp h with rfl | h
  · exact cell_not K.a6 hp rfl
  rcases List.mem_cons.mp h with rfl | h
  · exact cell_not K.a5 hp rfl
  rcases List.mem_cons.mp h with rfl | h
  · exact cell_not K.a4 hp rfl
  rcases List.mem_cons.mp h with rfl | h
  · exact cell_not K.a3 hp rfl
  rcases List.mem_cons.mp h with rfl | h
  · exact cell_not K.a2 hp rfl
  rcases List.mem_cons.mp h with rfl | h
  · exact cell_not K.a1 hp rfl
  · exact tab_not K.a9 hp (by rw [List.mem_singleton.mp h])
theorem mem_uncell (K : CellsOk o1 o2 o3 o4 o5 o6 o7 o8 tab) {p : Addr × Obj} (hp : PlainO p.2) (h : p ∈ cellsL L o1 o2 o3 o4 o5 o6 o7 o8 tab rest) : p ∈ rest := by
  rcases List.mem_append.mp (show p ∈ cellsF L o1 o2 o3 o4 o5 o6 o7 o8 tab ++ rest from h) with h | h
  · exact (cells_plain K h hp).elim
  · exact h
/-- from the ledger behind a call to the ledger without the cells -/
theorem mem_call (K : CellsOk o1 o2 o3 o4 o5 o6 o7 o8 tab) {p : Addr × Obj} (hp : PlainO p.2) (h : p ∈ tl ++ (xs ++ cellsL L o1 o2 o3 o4 o5 o6 o7 o8 tab rest)) : p ∈ (tl ++ xs) ++ rest := by
  rcases List.mem_append.mp h with h | h
  · exact List.mem_append_left _ (List.mem_append_left _ h)
  rcases List.mem_append.mp h with h | h
  · exact List.mem_append_left _ (List.mem_append_right _ h)
  · exact List.mem_append_right _ (mem_uncell K hp h)
theorem offC_news {hb h : Heap} (K : CellsOk o1 o2 o3 o4 o5 o6 o7 o8 tab) {news : List (Addr × Obj)} (N : News hb L h news) (hc : ∀ p ∈ cellsL L o1 o2 o3 o4 o5 o6 o7 o8 tab [], p ∈ news) {p : Addr × Obj} (hp : p ∈ news) (hpl : PlainO p.2) : OffC L p.1 := by
  refine offC_of (o1 := o1) (o2 := o2) (o3 := o3) (o4 := o4) (o5 := o5) (o6 := o6) (o7 := o7) (o8 := o8) (tab := tab) (rest := []) (N p hp).2.1 fun q hq e => ?_
  have h1 := (N q (hc q hq)).1
  rw [e, (N p hp).1] at h1
  have e2 : p.2 = q.2 := Option.some.inj h1
  have hq2 : PlainO q.2 := e2 ▸ hpl
  exact nomatch mem_uncell K hq2 hq
theorem after_call {hb h : Heap} (K : CellsOk o1 o2 o3 o4 o5 o6 o7 o8 tab) (N : News hb L h (tl ++ (xs ++ cellsL L o1 o2 o3 o4 o5 o6 o7 o8 tab rest))) (hoff : ∀ q ∈ xs ++ cellsL L o1 o2 o3 o4 o5 o6 o7 o8 tab rest, ∀ p ∈ tl, q.1 ≠ p.1) (hlt : ∀ p ∈ rest, OffC L p.1) (hxs : PlainAll xs) :
    News hb L h (cellsL L o1 o2 o3 o4 o5 o6 o7 o8 tab ((tl ++ xs) ++ rest)) ∧ ∀ p ∈ (tl ++ xs) ++ rest, OffC L p.1 := by
  rw [← List.append_assoc] at N
  refine ⟨news_in N, fun p hp => ?_⟩
  rcases List.mem_append.mp hp with hp | hp
  · rcases List.mem_append.mp hp with hp | hp
    · exact offC_of (o1 := o1) (o2 := o2) (o3 := o3) (o4 := o4) (o5 := o5) (o6 := o6) (o7 := o7) (o8 := o8) (tab := tab) (rest := rest) (N p (List.mem_append_left _ (List.mem_append_left _ hp))).2.1 fun q hq => hoff q (List.mem_append_right _ hq) p hp
    · exact offC_news K N (fun q hq => List.mem_append_right _ (List.mem_append_left rest hq)) (List.mem_append_left _ (List.mem_append_right _ hp)) (hxs.get p hp)
  · exact hlt p hp
end
theorem DatIn.mono_seq {news news' : List (Addr × Obj)} (hs : ∀ p ∈ news, PlainO p.2 → p ∈ news') {v : Value} {d : Dat} (h : DatIn news v d) : DatIn news' v d :=
  DatIn.rec (motive_1 := fun v d _ => DatIn news' v d) (motive_2 := fun vs ds _ => DatAll news' vs ds) .none (fun b => .bool b) (fun i t => .int i t) (fun x t => .str x t) (fun b t => .bytes b t) (fun h _ r => .tuple (hs _ h ⟨nofun, nofun⟩) r) (fun h _ r => .list (hs _ h ⟨nofun, nofun⟩) r) .nil (fun _ _ h r => .cons h r) h
theorem DatAll.mono_seq {news news' : List (Addr × Obj)} (hs : ∀ p ∈ news, PlainO p.2 → p ∈ news') {vs : List Value} {ds : List Dat} (h : DatAll news vs ds) : DatAll news' vs ds :=
  DatAll.rec (motive_1 := fun _ _ _ => True) (motive_2 := fun vs ds _ => DatAll news' vs ds) trivial (fun _ => trivial) (fun _ _ => trivial) (fun _ _ => trivial) (fun _ _ => trivial) (fun _ _ _ => trivial) (fun _ _ _ => trivial) .nil (fun h _ _ r => .cons (DatIn.mono_seq hs h) r) h
theorem CritAll.mono_seq {n n' : List (Addr × Obj)} (h : ∀ p ∈ n, PlainO p.2 → p ∈ n') {vs : List Value} {cs : List (Nat × Int)} (k : CritAll n vs cs) : CritAll n' vs cs := by
  induction k with
  | nil => exact .nil
  | cons hm _ ih => exact .cons (h _ hm ⟨nofun, nofun⟩) ih
theorem JudgeIn.mono_seq {n n' : List (Addr × Obj)} {j : Addr} {cs : List (Nat × Int)} (h : ∀ p ∈ n, PlainO p.2 → p ∈ n') (J : JudgeIn n j cs) : JudgeIn n' j cs := by
  obtain ⟨dj, hh, tk, nd, ls, nl, ts, m1, m2, m3, hcs⟩ := J.at_
  exact ⟨dj, hh, tk, nd, ls, nl, ts, h _ m1 ⟨nofun, nofun⟩, h _ m2 ⟨nofun, nofun⟩, h _ m3 ⟨nofun, nofun⟩, hcs.mono_seq h⟩
theorem cell_ne {L i j : Nat} (h : i ≠ j) : L + i ≠ L + j := fun e => h (Nat.add_left_cancel e)
theorem tab_ne {L : Nat} (hL : 128 < L) (j : Nat) : 128 ≠ L + j := Nat.ne_of_lt (Nat.lt_of_lt_of_le hL (Nat.le_add_right _ _))
theorem rest_ne {L : Nat} {rest : List (Addr × Obj)} (h : ∀ p ∈ rest, OffC L p.1) {j : Nat} (h1 : 1 ≤ j) (h8 : j ≤ 8) : ∀ p ∈ rest, p.1 ≠ L + j := fun p hp e => offC_ne (h p hp) h1 h8 e.symm
theorem ne_cons {d : Addr} {p : Addr × Obj} {r : List (Addr × Obj)} (h : p.1 ≠ d) (k : ∀ q ∈ r, q.1 ≠ d) : ∀ q ∈ p :: r, q.1 ≠ d := List.forall_mem_cons.mpr ⟨h, k⟩
theorem updF4 {L : Nat} {o1 o2 o3 o4 o5 o6 o7 o8 tab : Obj} {rest : List (Addr × Obj)} (hL : 128 < L) (h : ∀ p ∈ rest, OffC L p.1) : UpdF (L + 1 + 1 + 1 + 1) o4 (cellsL L o1 o2 o3 o4 o5 o6 o7 o8 tab rest) (fun o' => cellsL L o1 o2 o3 o' o5 o6 o7 o8 tab rest) :=
  UpdF.tail (cell_ne (i := 8) (j := 4) (by decide)) (UpdF.tail (cell_ne (i := 7) (j := 4) (by decide)) (UpdF.tail (cell_ne (i := 6) (j := 4) (by decide)) (UpdF.tail (cell_ne (i := 5) (j := 4) (by decide)) (UpdF.head (ne_cons (cell_ne (i := 3) (j := 4) (by decide)) (ne_cons (cell_ne (i := 2) (j := 4) (by decide)) (ne_cons (cell_ne (i := 1) (j := 4) (by decide)) (ne_cons (tab_ne hL 4) (rest_ne h (j := 4) (by decide) (by decide))))))))))
theorem updF5 {L : Nat} {o1 o2 o3 o4 o5 o6 o7 o8 tab : Obj} {rest : List (Addr × Obj)} (hL : 128 < L) (h : ∀ p ∈ rest, OffC L p.1) : UpdF (L + 1 + 1 + 1 + 1 + 1) o5 (cellsL L o1 o2 o3 o4 o5 o6 o7 o8 tab rest) (fun o' => cellsL L o1 o2 o3 o4 o' o6 o7 o8 tab rest) :=
  UpdF.tail (cell_ne (i := 8) (j := 5) (by decide)) (UpdF.tail (cell_ne (i := 7) (j := 5) (by decide)) (UpdF.tail (cell_ne (i := 6) (j := 5) (by decide)) (UpdF.head (ne_cons (cell_ne (i := 4) (j := 5) (by decide)) (ne_cons (cell_ne (i := 3) (j := 5) (by decide)) (ne_cons (cell_ne (i := 2) (j := 5) (by decide)) (ne_cons (cell_ne (i := 1) (j := 5) (by decide)) (ne_cons (tab_ne hL 5) (rest_ne h (j := 5) (by decide) (by decide))))))))))
theorem updF6 {L : Nat} {o1 o2 o3 o4 o5 o6 o7 o8 tab : Obj} {rest : List (Addr × Obj)} (hL : 128 < L) (h : ∀ p ∈ rest, OffC L p.1) : UpdF (L + 1 + 1 + 1 + 1 + 1 + 1) o6 (cellsL L o1 o2 o3 o4 o5 o6 o7 o8 tab rest) (fun o' => cellsL L o1 o2 o3 o4 o5 o' o7 o8 tab rest) :=
  UpdF.tail (cell_ne (i := 8) (j := 6) (by decide)) (UpdF.tail (cell_ne (i := 7) (j := 6) (by decide)) (UpdF.head (ne_cons (cell_ne (i := 5) (j := 6) (by decide)) (ne_cons (cell_ne (i := 4) (j := 6) (by decide)) (ne_cons (cell_ne (i := 3) (j := 6) (by decide)) (ne_cons (cell_ne (i := 2) (j := 6) (by decide)) (ne_cons (cell_ne (i := 1) (j := 6) (by decide)) (ne_cons (tab_ne hL 6) (rest_ne h (j := 6) (by decide) (by decide))))))))))
theorem updF7 {L : Nat} {o1 o2 o3 o4 o5 o6 o7 o8 tab : Obj} {rest : List (Addr × Obj)} (hL : 128 < L) (h : ∀ p ∈ rest, OffC L p.1) : UpdF (L + 1 + 1 + 1 + 1 + 1 + 1 + 1) o7 (cellsL L o1 o2 o3 o4 o5 o6 o7 o8 tab rest) (fun o' => cellsL L o1 o2 o3 o4 o5 o6 o' o8 tab rest) :=
  UpdF.tail (cell_ne (i := 8) (j := 7) (by decide)) (UpdF.head (ne_cons (cell_ne (i := 6) (j := 7) (by decide)) (ne_cons (cell_ne (i := 5) (j := 7) (by decide)) (ne_cons (cell_ne (i := 4) (j := 7) (by decide)) (ne_cons (cell_ne (i := 3) (j := 7) (by decide)) (ne_cons (cell_ne (i := 2) (j := 7) (by decide)) (ne_cons (cell_ne (i := 1) (j := 7) (by decide)) (ne_cons (tab_ne hL 7) (rest_ne h (j := 7) (by decide) (by decide))))))))))
theorem updF8 {L : Nat} {o1 o2 o3 o4 o5 o6 o7 o8 tab : Obj} {rest : List (Addr × Obj)} (hL : 128 < L) (h : ∀ p ∈ rest, OffC L p.1) : UpdF (L + 1 + 1 + 1 + 1 + 1 + 1 + 1 + 1) o8 (cellsL L o1 o2 o3 o4 o5 o6 o7 o8 tab rest) (fun o' => cellsL L o1 o2 o3 o4 o5 o6 o7 o' tab rest) :=
  UpdF.head (ne_cons (cell_ne (i := 7) (j := 8) (by decide)) (ne_cons (cell_ne (i := 6) (j := 8) (by decide)) (ne_cons (cell_ne (i := 5) (j := 8) (by decide)) (ne_cons (cell_ne (i := 4) (j := 8) (by decide)) (ne_cons (cell_ne (i := 3) (j := 8) (by decide)) (ne_cons (cell_ne (i := 2) (j := 8) (by decide)) (ne_cons (cell_ne (i := 1) (j := 8) (by decide)) (ne_cons (tab_ne hL 8) (rest_ne h (j := 8) (by decide) (by decide))))))))))
theorem cellsD_ne {L : Nat} {o1 o2 o3 o4 o5 o6 o7 o8 tab : Obj} (hL : 128 < L) : ∀ {p : Addr × Obj}, p ∈ (cellsF L o1 o2 o3 o4 o5 o6 o7 o8 tab).dropLast → p.1 ≠ 128 := by
  have q : ∀ k : Nat, (L + k : Nat) ≠ 128 := fun k e => tab_ne hL k e.symm
  intro p hp
  exact ne_cons (q 8) (ne_cons (q 7) (ne_cons (q 6) (ne_cons (q 5) (ne_cons (q 4) (ne_cons (q 3) (ne_cons (q 2) (ne_cons (q 1) (List.forall_mem_nil _)))))))) p hp
/-- the ledger behind the book's call -/
theorem after_book {hb h : Heap} {L : Nat} {o1 o2 o3 o4 o5 o6 o7 o8 tab tab' : Obj} {tl rest : List (Addr × Obj)} (hL : 128 < L) (N : News hb L h (tl ++ (128, tab') :: (cellsL L o1 o2 o3 o4 o5 o6 o7 o8 tab rest).filter fun p => decide (p.1 ≠ 128))) (hoff : ∀ q ∈ cellsL L o1 o2 o3 o4 o5 o6 o7 o8 tab rest, ∀ p ∈ tl, q.1 ≠ p.1) (hlt : ∀ p ∈ rest, OffC L p.1) :
    News hb L h (cellsL L o1 o2 o3 o4 o5 o6 o7 o8 tab' (tl ++ rest)) ∧ ∀ p ∈ tl ++ rest, OffC L p.1 := by
  have g : ∀ p ∈ cellsL L o1 o2 o3 o4 o5 o6 o7 o8 tab rest, p.1 ≠ 128 → p ∈ tl ++ (128, tab') :: (cellsL L o1 o2 o3 o4 o5 o6 o7 o8 tab rest).filter fun p => decide (p.1 ≠ 128) := fun p hp hn => List.mem_append_right _ (List.mem_cons_of_mem _ (List.mem_filter.mpr ⟨hp, decide_eq_true hn⟩))
  refine ⟨fun p hp => ?_, fun p hp => ?_⟩
  · rcases List.mem_append.mp (mem_swap (f := cellsF L o1 o2 o3 o4 o5 o6 o7 o8 tab') hp) with h | h
    · exact N _ (List.mem_append_left _ h)
    by_cases e : p.1 = 128
    · rcases List.mem_append.mp (show p ∈ (cellsF L o1 o2 o3 o4 o5 o6 o7 o8 tab').dropLast ++ ((128, tab') :: rest) from h) with h | h
      · exact absurd e (cellsD_ne hL h)
      · rcases List.mem_cons.mp h with h | h
        · rw [h]; exact N _ (List.mem_append_right _ (List.mem_cons_self ..))
        · exact absurd e (hlt p h).1
    · refine N _ (g _ ?_ e)
      rcases List.mem_append.mp (show p ∈ (cellsF L o1 o2 o3 o4 o5 o6 o7 o8 tab').dropLast ++ ((128, tab') :: rest) from h) with h | h
      · exact List.mem_append_left ((128, tab) :: rest) (show p ∈ (cellsF L o1 o2 o3 o4 o5 o6 o7 o8 tab).dropLast from h)
      · rcases List.mem_cons.mp h with h | h
        · exact absurd (by rw [h]) e
        · exact mem_cells h
  · rcases List.mem_append.mp hp with hp | hp
    · exact offC_of (o1 := o1) (o2 := o2) (o3 := o3) (o4 := o4) (o5 := o5) (o6 := o6) (o7 := o7) (o8 := o8) (tab := tab) (rest := rest) (N p (List.mem_append_left _ hp)).2.1 fun q hq => hoff q hq p hp
    · exact hlt p hp
end Mine
end
section
open PySem PySem.W PyProof.Rows
set_option maxRecDepth 100000
set_option maxHeartbeats 4000000
namespace Mine
theorem rowsFrom_mem {f : Nat → Int → Dat} : ∀ {i : Nat} {xs : List Int} {d : Dat}, d ∈ rowsFrom f i xs → ∃ j x, d = f j x
  | _, [], _, h => nomatch h
  | i, x :: xs, d, h => by
    rcases List.mem_cons.mp h with h | h
    · exact ⟨i, x, h⟩
    · exact rowsFrom_mem h
theorem sortD_mem {cs : List (Nat × Int)} {ds : List Dat} {d : Dat} (h : d ∈ sortD cs ds) : d ∈ ds := by
  have key : ∀ (l acc : List Dat) (d : Dat), d ∈ l.foldl (insD cs) acc → d ∈ acc ∨ d ∈ l := by
    intro l
    induction l with
    | nil => intro acc d h; exact .inl h
    | cons a l ih =>
      intro acc d h
      rcases ih _ _ h with h | h
      · rcases insD_mem h with h | h
        · exact .inr (h ▸ List.mem_cons_self ..)
        · exact .inl h
      · exact .inr (List.mem_cons_of_mem _ h)
  rcases key ds [] d h with h | h
  · cases h
  · exact h
theorem sortD_length {cs : List (Nat × Int)} {ds : List Dat} : (sortD cs ds).length = ds.length := by
  have key : ∀ (l acc : List Dat), (l.foldl (insD cs) acc).length = acc.length + l.length := by
    intro l
    induction l with
    | nil => intro acc; rfl
    | cons a l ih =>
      intro acc
      show (l.foldl (insD cs) (insD cs acc a)).length = _
      rw [ih, insD_length, List.length_cons]; omega
  exact (key ds []).trans (Nat.zero_add _)
theorem leftRow_cmp {cs : List (Nat × Int)} (hc : ∀ c ∈ cs, c.1 = 0 ∨ c.1 = 1) {i j : Nat} {x y : Int} {xs ys : List Dat} (hx : Dat.tuple xs = leftRow i x) (hy : Dat.tuple ys = leftRow j y) : CmpOk cs xs ys := by
  unfold leftRow at hx hy
  cases hx; cases hy
  intro c h
  rcases hc c h with e | e
  · rw [e]; exact ⟨by decide, .inl ⟨_, _, rfl, rfl⟩⟩
  · rw [e]; exact ⟨by decide, .inr ⟨_, _, rfl, rfl⟩⟩
theorem left_ok {cs : List (Nat × Int)} (hc : ∀ c ∈ cs, c.1 = 0 ∨ c.1 = 1) (xs : List Int) : RowsOk cs (rowsFrom leftRow 0 xs) := by
  refine ⟨fun d hd => ?_, fun a b ha hb => ?_⟩
  · obtain ⟨j, x, rfl⟩ := rowsFrom_mem hd
    exact ⟨_, rfl⟩
  · obtain ⟨j, x, h1⟩ := rowsFrom_mem ha
    obtain ⟨k, y, h2⟩ := rowsFrom_mem hb
    exact leftRow_cmp hc h1 h2
theorem right_ok {cs : List (Nat × Int)} (hc : ∀ c ∈ cs, c.1 = 0) (xs : List Int) : RowsOk cs (rowsFrom rightRow 0 xs) := by
  refine ⟨fun d hd => ?_, fun a b ha hb => ?_⟩
  · obtain ⟨j, x, rfl⟩ := rowsFrom_mem hd
    exact ⟨_, rfl⟩
  · obtain ⟨j, x, h1⟩ := rowsFrom_mem ha
    obtain ⟨k, y, h2⟩ := rowsFrom_mem hb
    unfold rightRow at h1 h2
    cases h1; cases h2
    intro c h
    rw [hc c h]; exact ⟨by decide, .inl ⟨_, _, rfl, rfl⟩⟩
theorem side_rows {cs : List (Nat × Int)} (hc : ∀ c ∈ cs, c.1 = 0) {ds es : List Dat} (hd : ∀ d ∈ ds, ∃ j x, d = leftRow j x) (he : ∀ d ∈ es, ∃ j x, d = rightRow j x) : ∀ xs ys, Dat.tuple xs ∈ ds → Dat.tuple ys ∈ es → CmpOk cs ys xs ∧ 1 ≤ xs.length ∧ xs.length ≤ 10 ∧ 2 ≤ ys.length ∧ ys.length ≤ 10 := by
  intro xs ys hx hy
  obtain ⟨i, x, h1⟩ := hd _ hx
  obtain ⟨j, y, h2⟩ := he _ hy
  unfold leftRow at h1; unfold rightRow at h2
  cases h1; cases h2
  refine ⟨fun c h => ?_, by simp, by simp, by simp, by simp⟩
  rw [hc c h]; exact ⟨by decide, .inl ⟨_, _, rfl, rfl⟩⟩
theorem left_sorted {cs : List (Nat × Int)} {xs : List Int} : ∀ d ∈ sortD cs (rowsFrom leftRow 0 xs), ∃ j x, d = leftRow j x := fun _ h => rowsFrom_mem (sortD_mem h)
theorem right_sorted {cs : List (Nat × Int)} {xs : List Int} : ∀ d ∈ sortD cs (rowsFrom rightRow 0 xs), ∃ j x, d = rightRow j x := fun _ h => rowsFrom_mem (sortD_mem h)
theorem tup_of_left {ds : List Dat} (h : ∀ d ∈ ds, ∃ j x, d = leftRow j x) : ∀ d ∈ ds, ∃ xs, d = .tuple xs := fun d hd => let ⟨_, _, e⟩ := h d hd; ⟨_, e⟩
theorem tup_of_right {ds : List Dat} (h : ∀ d ∈ ds, ∃ j x, d = rightRow j x) : ∀ d ∈ ds, ∃ xs, d = .tuple xs := fun d hd => let ⟨_, _, e⟩ := h d hd; ⟨_, e⟩
end Mine
end
section
open PySem PySem.W PyProof.Rows
set_option maxRecDepth 100000
set_option maxHeartbeats 8000000
namespace Mine
theorem judge_ok {w : World} {news : List (Addr × Obj)} {ls : Addr} {ts : List Value} {nl : Nat} {cs : List (Nat × Int)} (hl : (ls, listOf (List.toArray ts) nl) ∈ news) (hc : CritAll news ts cs) :
   Ctr 3 w 63 [.ref ls] news fun nw v => ∃ j, v = .ref j ∧ JudgeIn nw j cs := by
  unfold Ctr
  (k_fill; w_top off)
  intro dp un gd cn cs' cA ccd cl outer A₀ base h₀ L m p loose mean mg mb s Q E B F X N T hk hdp hun hret
  k_dflt (refine' call_cls ?k1 ?k2 ?k3 ?k4 ?k5 ?k6 ?_; (case k1 => k_asm); (case k2 => k_asm); (case k3 => k_asm); (case k4 => k_is); (case k5 => k_is); (case k6 => k_is); k_whole; intro x' d' h' F' N' l1 l2; (have l1o := l1); (try k_lt l1); (try k_lt2 l2); (try k_sweep))
  k_dflt ktr_enter
  k_steps
  rename Fr h₀ _ _ _ => kF
  rename News h₀ _ _ _ => kN
  have lx : ∀ q ∈ news, q.1 < x' := fun q hq => Nat.lt_trans (l1o q hq) (by assumption)
  refine hret _ [_, _] _ _ kF kN (fun q hq p hp => ?_) ⟨x', rfl, ⟨_, _, _, _, _, _, _, List.mem_cons_self .., List.mem_cons_of_mem _ (List.mem_cons_self ..), List.mem_cons_of_mem _ (List.mem_cons_of_mem _ hl), hc.mono fun p hp => List.mem_cons_of_mem _ (List.mem_cons_of_mem _ hp)⟩⟩
  rcases List.mem_cons.mp hp with rfl | hp
  · exact lx q hq
  · rw [List.mem_singleton.mp hp]; exact l1o q hq
end Mine
end
section
open PySem PySem.W PySem.Calls PySem.Spec PyProof.Rows PyProof.V
set_option maxRecDepth 100000
set_option maxHeartbeats 4000000
namespace Mine
section
variable {prog : Program} {w : World} {A : Around} {E : Value → Shared → Prop} {s : Shared} {K : Frag} {C b f : Addr} {ob : Obj} {od : Option Obj} {es : Array DictEntry} {ep : Nat} {x : PySem.Str} {t : Tok}
/-- what stands in a dict under a text -/
noncomputable def strAt (es : Array DictEntry) (x : PySem.Str) : Option Value := (es.toList.find? fun e => e.key.isStr x).map (·.val)
theorem dictGet_str {Q : Option Value → Shared → Prop} (ho : s.heap.get? b = some ob) (hd : ob.data = .dict es ep) (hall : (es.all fun e => isExactStrKey e.key) = true)
    (h : Q (strAt es x) { s with toks := s.toks + 1 }) : wpAny (model prog w) A (dictGet b (.str x t)) Q E s := by
  unfold dictGet
  refine wpAny_holding ?_
  refine wpAny_bind ((strKind prog w).pyHash (k := x) (strKind_is prog w x t) (wpAny_bind (PyProof.Rows.KTD.kt_dictFind_strs (s := { s with toks := s.toks + 1 }) ho hd hall ?_)))
  have e : strAt es x = (es.findIdx? fun e => e.key.isStr x).bind fun i => (es[i]?).map (·.val) := by
    unfold strAt
    obtain ⟨l⟩ := es
    simp only [List.findIdx?_toArray, List.getElem?_toArray]
    have g : ∀ l : List DictEntry, (l.find? fun e => e.key.isStr x) = (l.findIdx? fun e => e.key.isStr x).bind fun i => l[i]? := by
      intro l
      induction l with
      | nil => rfl
      | cons a l ih =>
        rw [List.find?_cons, List.findIdx?_cons]
        cases hp : a.key.isStr x with
        | true => rfl
        | false =>
          simp only [Bool.false_eq_true, if_false]
          rw [ih]
          cases l.findIdx? fun e => e.key.isStr x <;> rfl
    rw [g]
    cases l.findIdx? fun e => e.key.isStr x <;> rfl
  rw [e] at h
  cases hi : es.findIdx? fun e => e.key.isStr x with
  | none => rw [hi] at h; exact wpAny_pure h
  | some i => rw [hi] at h; exact wpAny_bind (wpAny_dictEntries (s := { s with toks := s.toks + 1 }) ho hd (wpAny_pure h))
theorem check_meth {M : Model} {A : Around} {E : Value → Shared → Prop} {s : Shared} {i owner n : String} {self : Value} {rest : List Value} {kw : List (PySem.Str × Value)} {Q : Unit → Shared → Prop}
    (hk : builtinKind i = some .method) (hs : splitId i = some (owner, n)) (hi : Looks M s.heap (isInstance self (.type owner)) true) (ha : argsOk i ⟨self :: rest, kw⟩) (q : Q () s) :
    wpAny M A (checkBuiltinCall i ⟨self :: rest, kw⟩) Q E s := by
  simp only [checkBuiltinCall, hk, hs]
  refine wpAny_bind (hi.here ?_)
  simp only [Bool.not_true, Bool.false_eq_true, if_false]
  cases hsig : Manifest.signature? i with
  | none => exact wpAny_pure q
  | some sig =>
    simp only [argsOk, hsig] at ha
    have h2 : Bind.checkArgs i sig ⟨self :: rest, kw⟩ = pure () := ha
    show wpAny M A (Bind.checkArgs i sig ⟨self :: rest, kw⟩) Q E s
    rw [h2]; exact wpAny_pure q
theorem missed_other {key : Value} {Q : Option Value → Shared → Prop} (hb : (b == sysModules) = false) (h : Q none s) : wpAny (model prog w) A (Builtin.Dict.missed b key) Q E s := by
  unfold Builtin.Dict.missed
  rw [if_neg (by rw [hb]; exact Bool.false_ne_true)]
  exact wpAny_pure h
theorem getitem_sub {Q : Value → Shared → Prop} (X : K.In s.heap) (I : InstAt s.heap b ob C od) (hd : ob.data = .dict es ep) (hall : (es.all fun e => isExactStrKey e.key) = true)
    (hq : noSeq K C = true) (hs : findIn K (.ref C) "__getitem__" = some (some (.builtin "dict.__getitem__"))) (hm : mroIn K C (.type "dict") = some true) (hb : (b == sysModules) = false)
    (hms : findIn K (.ref C) "__missing__" = some (some (.ref f))) (hf : isFn K (.ref f) = true)
    (hit : ∀ v, strAt es x = some v → Q v { s with toks := s.toks + 1 })
    (miss : strAt es x = none → wpAny (model prog w) A.in1 (call (.ref f) [.ref b, .str x t]) Q E { s with toks := s.toks + 1 }) :
    wpAny (model prog w) A (getItem (.ref b) (.str x t)) Q E s := by
  unfold getItem sequenceKey
  refine wpAny_holding (wpAny_bind (wpAny_bind (I.type.here ?_)))
  refine wpAny_bind ((anyM_none X hq).here ?_)
  rw [if_pos (show (!false) = true from rfl)]
  refine wpAny_pure (wpAny_bind ?_)
  unfold callSpecial?
  refine wpAny_bind (wpAny_bind (I.type.here ((looks_findIn X hs).here ?_)))
  refine wpAny_holding (wpAny_bind ?_)
  rw [slot_dict_getitem.bind]
  refine wpAny_pure (wpAny_bind (wpAny_call ?_))
  have sub : Looks (model prog w) s.heap (isInstance (.ref b) (.type "dict")) true := I.type.andThen (looks_mroIn X hm)
  refine codeAny_call_builtin slot_dict_getitem.plain entry_dict_getitem (@check_meth (model prog w) _ _ s "dict.__getitem__" "dict" "__getitem__" (.ref b) [.str x t] [] _ (by decide +kernel) (by decide +kernel) sub (args_dict_getitem (.ref b) (.str x t)) ?_)
  show wpAny _ _ (dictGet b (.str x t) >>= _) _ _ s
  refine wpAny_bind (dictGet_str I.at_ hd hall ?_)
  cases hv : strAt es x with
  | some v => exact wpAny_pure (wpAny_pure (wpAny_pure (hit v hv)))
  | none =>
    refine wpAny_bind (missed_other hb ?_)
    have I' : InstAt ({ s with toks := s.toks + 1 } : Shared).heap b ob C od := I
    refine wpAny_bind (I'.type.here ?_)
    rw [if_pos (by rfl)]
    refine wpAny_bind (special_fn (s := { s with toks := s.toks + 1 }) X I' hms (beq_iff_eq.mp hf) (wpAny_mono (miss hv) (fun v s' z => ?_) fun _ _ e => ?_))
    · exact wpAny_bind (wpAny_rule (wpAny_pure (wpAny_pure (wpAny_pure z))))
    · exact e
end
end Mine
end
section
open PySem PySem.W PySem.Calls PySem.Spec PyProof.Rows PyProof.V
set_option maxRecDepth 100000
set_option maxHeartbeats 4000000
namespace Mine
section
variable {M : Model} {A : Around} {E : Value → Shared → Prop} {s : Shared} {c : Code}
theorem at_any {α : Type} {t : Sem α} {Q : α → Shared → Prop} (h : wpAny M A t Q E s) : _root_.PySem.wpAt M A c t Q E s := fun Γ p _ hΓ => h Γ p hΓ
theorem at_pure {α : Type} {a : α} {Q : α → Shared → Prop} (h : Q a s) : _root_.PySem.wpAt M A c (pure a) Q E s := at_any (wpAny_pure h)
theorem at_hold {α : Type} {vs : List Value} {t : Sem α} {Q : α → Shared → Prop} (h : _root_.PySem.wpAt M A c t Q E s) : _root_.PySem.wpAt M A c (holding vs t) Q E s := fun Γ p hc hΓ => by
  rw [Sem.wp_holding]; exact h Γ p hc hΓ
theorem at_spliced_cons {x : Sem Value} {rest : List (Bool × Sem Value)} {Q : List Value → Shared → Prop}
    (h : _root_.PySem.wpAt M A c x (fun v s₁ => _root_.PySem.wpAt M A c (spliced rest) (fun vs s₂ => Q (v :: vs) s₂) E s₁) E s) : _root_.PySem.wpAt M A c (spliced ((false, x) :: rest)) Q E s := by
  rw [spliced]
  refine _root_.PySem.wpAt_bind (_root_.PySem.wpAt_mono h (fun v s₁ h₁ => ?_) fun _ _ x => x)
  simp only [Bool.false_eq_true, if_false]
  exact _root_.PySem.wpAt_bind (at_pure (_root_.PySem.wpAt_bind (at_hold (_root_.PySem.wpAt_mono h₁ (fun vs s₂ h₂ => at_pure h₂) fun _ _ x => x))))
theorem at_spliced_nil {Q : List Value → Shared → Prop} (h : Q [] s) : _root_.PySem.wpAt M A c (spliced []) Q E s := at_any (spliced_nil h)
theorem at_evalArgs {f : Value} {x : Sem Value} {rest : List (Bool × Sem Value)} {Q : Args → Shared → Prop}
    (h : _root_.PySem.wpAt M A c (spliced ((false, x) :: rest)) (fun vs s' => Q ⟨vs, []⟩ s') E s) : _root_.PySem.wpAt M A c (evalArgs f true ((false, x) :: rest) []) Q E s := by
  unfold evalArgs
  show _root_.PySem.wpAt M A c (spliced ((false, x) :: rest) >>= _) Q E s
  refine _root_.PySem.wpAt_bind (_root_.PySem.wpAt_mono h (fun vs s' h' => ?_) fun _ _ x => x)
  refine at_hold ?_
  exact _root_.PySem.wpAt_bind (at_pure (_root_.PySem.wpAt_bind (at_pure (at_pure h'))))
theorem at_callWith_builtin {pos : Pos} {id : String} {first : List Value} {args : List (Bool × Sem Value)} {Q : Value → Shared → Prop} (hplain : args.any (·.1) = false)
    (h : _root_.PySem.wpAt M A c (evalArgs (.builtin id) true args []) (fun a s₁ => wpAny M A (call (.builtin id) (first ++ a.pos) a.kw) Q E s₁) E s) :
    _root_.PySem.wpAt M A c (callWith pos (.builtin id) first args []) Q E s := by
  unfold callWith
  refine _root_.PySem.wpAt_bind (at_hold (_root_.PySem.wpAt_mono h (fun a s₁ h₁ => at_any (wpAny_bind (wpAny_standAt ?_))) fun _ _ x => x))
  simp only [hplain, List.any_nil, Bool.or_false]
  refine wpAny_bind (wpAny_pure ?_)
  exact wpAny_bind (wpAny_mono h₁ (fun r s₂ hr => wpAny_bind (wpAny_holding (wpAny_point (wpAny_pure hr)))) fun _ _ x => x)
theorem at_spliced_star {pos : Pos} {e : PySem.Expr} {rest : List PySem.Expr} {env : Env} {Q : List Value → Shared → Prop}
    (h : _root_.PySem.wpAt M A c (eval e env) (fun v s₁ => _root_.PySem.wpAt M A c (spliced (backTo pos (starEach rest env))) (fun vs s₂ => Q (v :: vs) s₂) E s₁) E s)
    (he : backTo pos (starEach (e :: rest) env) = (false, eval e env) :: backTo pos (starEach rest env) := by rfl) : _root_.PySem.wpAt M A c (spliced (backTo pos (starEach (e :: rest) env))) Q E s := by
  rw [he]; exact at_spliced_cons h
theorem at_callWith_b {pos : Pos} {id : String} {e : PySem.Expr} {rest : List PySem.Expr} {env : Env} {Q : Value → Shared → Prop}
    (h : _root_.PySem.wpAt M A c (spliced (backTo pos (starEach (e :: rest) env))) (fun vs s₁ => wpAny M A (call (.builtin id) vs) Q E s₁) E s)
    (he : backTo pos (starEach (e :: rest) env) = (false, eval e env) :: backTo pos (starEach rest env) := by rfl) (hp : (backTo pos (starEach rest env)).any (·.1) = false := by rfl) :
    _root_.PySem.wpAt M A c (callWith pos (.builtin id) [] (backTo pos (starEach (e :: rest) env)) []) Q E s := by
  rw [he] at h ⊢
  exact at_callWith_builtin (by show (false || (backTo pos (starEach rest env)).any (·.1)) = false; rw [hp]; rfl) (at_evalArgs h)
/-- f(..)(..), f a name -/
theorem at_callcall {f : PySem.Expr} {fa : List PySem.Expr} {fp pos : Pos} {args : List PySem.Expr} {env : Env} {Q : Value → Shared → Prop}
    (h : _root_.PySem.wpAt M A c (eval (.Call f fa [] fp) env) (fun v s₁ => wpAny M A (callWith pos v [] (backTo pos (starEach args env)) []) Q E s₁) E s)
    (he : eval (.Call (.Call f fa [] fp) args [] pos) env = (do callWith pos (← eval (.Call f fa [] fp) env) [] (backTo pos (starEach args env)) []) := by rfl) :
    _root_.PySem.wpAt M A c (eval (.Call (.Call f fa [] fp) args [] pos) env) Q E s := by
  rw [he]
  exact _root_.PySem.wpAt_bind (_root_.PySem.wpAt_mono h (fun v s₁ h₁ => at_any h₁) fun _ _ x => x)
theorem at_callname {x : PySem.Str} {xp pos : Pos} {args : List PySem.Expr} {env : Env} {Q : Value → Shared → Prop}
    (h : wpAny M A (eval (.Name x xp) env) (fun v s₁ => _root_.PySem.wpAt M A c (callWith pos v [] (backTo pos (starEach args env)) []) Q E s₁) E s)
    (he : eval (.Call (.Name x xp) args [] pos) env = (do callWith pos (← eval (.Name x xp) env) [] (backTo pos (starEach args env)) []) := by rfl) :
    _root_.PySem.wpAt M A c (eval (.Call (.Name x xp) args [] pos) env) Q E s := by
  rw [he]
  exact _root_.PySem.wpAt_bind (at_any h)
end
section
variable {prog : Program} {w : World} {A : Around} {E : Value → Shared → Prop} {s : Shared} {c : Code}
theorem at_attr {value : PySem.Expr} {attr : PySem.Str} {pos : Pos} {env : Env} {Q : Value → Shared → Prop}
    (h : _root_.PySem.wpAt (model prog w) A c (attributeBase value attr env (eval value env)) (fun o s₁ => wpAny (model prog w) A (getAttr o attr true) Q E s₁) E s)
    (he : eval (.Attribute value attr pos) env = (do
      let o ← attributeBase value attr env (eval value env)
      standAt pos.atName
      let r ← holding [o] (getAttr o attr true)
      letTemporaryGo value o r
      pure r) := by rfl) :
    _root_.PySem.wpAt (model prog w) A c (eval (.Attribute value attr pos) env) Q E s := by
  rw [he]
  exact _root_.PySem.wpAt_bind (_root_.PySem.wpAt_mono h (fun o s₁ h₁ => at_any (wpAny_bind (wpAny_standAt (wpAny_bind (wpAny_holding (wpAny_mono h₁ (fun r s₂ h₂ => wpAny_bind (wpAny_letTemporaryGo (wpAny_pure h₂))) fun _ _ x => x)))))) fun _ _ x => x)
end
section
variable {prog : Program} {w : World} {A : Around} {E : Value → Shared → Prop} {h : Heap} {g : Array GenState} {d : Drawn} {t : Nat} {os : OsState}
/-- super().name, name a builtin's method -/
theorem super_ga {so D x C : Addr} {l₀ l : List Value} {K : Frag} {name : PySem.Str} {tk : Tok} {id : String} {Q : Fin → Shared → Prop}
    (hso : h.get? so = some { cls := .type "super", dict := none, data := .fields #[.ref D, .ref x, .ref C], slots := #[] }) (hno : Looks (model prog w) h (opaqueClassAbove (.ref C)) none)
    (hC : Looks (model prog w) h (mroOf (.ref C)) l₀) (hl : (l₀.dropWhile (· != .ref D)).drop 1 = l) (X : K.In h)
    (hf : alongIn K name l = some (some (.builtin id))) (hty : typeOf (.builtin id) = pure (.type "method_descriptor")) (hmd : typeLookup (.type "method_descriptor") "__get__" = pure (some (.builtin "method_descriptor.__get__")))
    (hxC : x ≠ C) (hn : (name == ("__class__" : PySem.Str)) = false)
    (hq : wpAny (model prog w) A (call (.builtin "method_descriptor.__get__") [.builtin id, .ref x, .ref C]) (fun v => Q (.done (.ret v))) E ⟨h, g, d, t, os⟩) :
    wpAny (model prog w) A (Builtin.«super.__getattribute__» ⟨[.ref so, .str name tk], []⟩) Q E ⟨h, g, d, t, os⟩ := by
  have hne : (Value.ref x == Value.ref C) = false := by simp [hxC]
  have hdt : ({ cls := .type "super", dict := none, data := .fields #[.ref D, .ref x, .ref C], slots := #[] } : Obj).data = .fields #[.ref D, .ref x, .ref C] := rfl
  have f0 : (#[.ref D, .ref x, .ref C] : Array Value)[0]? = some (.ref D) := rfl
  have f1 : (#[.ref D, .ref x, .ref C] : Array Value)[1]? = some (.ref x) := rfl
  have f2 : (#[.ref D, .ref x, .ref C] : Array Value)[2]? = some (.ref C) := rfl
  unfold Builtin.«super.__getattribute__»
  repeat (first
    | (with_reducible refine wpAny_field hso hdt f0 ?_) | (with_reducible refine wpAny_field hso hdt f1 ?_) | (with_reducible refine wpAny_field hso hdt f2 ?_)
    | (with_reducible refine ks_wpAny_notOpaque hno ?_)
    | (with_reducible refine Looks.at hC ?_; rw [hl])
    | (refine ks_forIn_along X (fun _ _ => rfl) rfl ?_ hf)
    | (with_reducible refine wpAny_bind (wpAny_of_eq hty (wpAny_pure ?_)))
    | (with_reducible refine wpAny_mono hq (fun v s' hv => ?_) fun _ _ z => z)
    | (simp only [hn, hne, Bool.or_false, Bool.false_eq_true, if_false])
    | wp_step
    | dsimp only)
  all_goals first | exact hv | skip
theorem super_attr {so D x C : Addr} {l₀ l : List Value} {K : Frag} {name : PySem.Str} {id : String} {ex : Bool} {Q : Value → Shared → Prop}
    (hso : h.get? so = some { cls := .type "super", dict := none, data := .fields #[.ref D, .ref x, .ref C], slots := #[] }) (hno : Looks (model prog w) h (opaqueClassAbove (.ref C)) none)
    (hC : Looks (model prog w) h (mroOf (.ref C)) l₀) (hl : (l₀.dropWhile (· != .ref D)).drop 1 = l) (X : K.In h)
    (hf : alongIn K name l = some (some (.builtin id))) (hty : typeOf (.builtin id) = pure (.type "method_descriptor")) (hmd : typeLookup (.type "method_descriptor") "__get__" = pure (some (.builtin "method_descriptor.__get__")))
    (hxC : x ≠ C) (hn : (name == ("__class__" : PySem.Str)) = false)
    (hq : wpAny (model prog w) A.in1 (call (.builtin "method_descriptor.__get__") [.builtin id, .ref x, .ref C]) (fun v s' => (∃ a, v = .ref a) ∧ Q v s') (fun _ _ => False) ⟨h, g, d, t + 1, os⟩) :
    wpAny (model prog w) A (getAttr (.ref so) name ex) Q E ⟨h, g, d, t, os⟩ := by
  have hlk := F.ks_slot_super_ga.lookup
  have hT : ∀ t', (⟨h, g, d, t', os⟩ : Shared).TypeIs (.ref so) "super" := fun _ => ⟨_, hso, rfl⟩
  unfold getAttr getAttrBy
  refine wpAny_bind (wpAny_mkText (wpAny_holding (wpAny_bind (wpAny_typeOf (hT _) (wpAny_bind (wpAny_of_eq hlk ?_))))))
  show wpAny _ _ (getAttrByItsOwn (.ref so) (.str name t) (.type "super") (.builtin "super.__getattribute__") _ _) _ _ _
  unfold getAttrByItsOwn hookBefore callGetattribute boundAndCalled
  refine wpAny_bind (wpAny_of_eq (show (if onTheHeap (.type "super") then typeLookup (.type "super") "__getattr__" else pure none) = pure none from rfl) ?_)
  have hoth : (ex && onTheHeap (.builtin "super.__getattribute__")) = false := by cases ex <;> rfl
  refine wpAny_bind (wpAny_attempt (wpAny_holding ?_))
  rw [if_neg (by rw [hoth]; exact Bool.false_ne_true)]
  show wpAny _ _ (bindSpecial (.builtin "super.__getattribute__") (.ref so) >>= _) _ _ _
  refine wpAny_bind (wpAny_of_eq (F.ks_slot_super_ga.bind _) ?_)
  refine wpAny_mono (Q := fun v s' => (∃ a, v = .ref a) ∧ Q v s') (E := fun _ _ => False)
    (wpAny_call_entry F.ks_slot_super_ga (hT _) F.ks_entry_super_ga (super_ga hso hno hC hl X hf hty hmd hxC hn (wpAny_mono hq (fun v s' hv => ⟨_, rfl, hv⟩) fun _ _ z => z)) (F.ks_gaArgs_super _ _)) (fun v s' hv => ?_) fun _ _ z => z.elim
  obtain ⟨⟨a, rfl⟩, hv⟩ := hv
  exact wpAny_pure hv
end
end Mine
end
section
open PySem PySem.W PySem.W.X PyProof.Rows
set_option maxRecDepth 100000
set_option maxHeartbeats 8000000
namespace Mine
noncomputable abbrev bookO (db : Addr) (es : Array DictEntry) (ep : Nat) : Obj := { cls := .ref 136, dict := some db, data := .dict es ep, slots := #[some (.ref 241)] }
noncomputable abbrev bmO (b : Addr) : Obj := { cls := .type "builtin_function_or_method", data := .fields #[.builtin "collections.defaultdict.__missing__", .ref b] }
theorem inst_book {h₀ h : Heap} {L b db : Addr} {es : Array DictEntry} {ep : Nat} {od : Obj} {news : List (Addr × Obj)} (N : News h₀ L h news) (h1 : (b, bookO db es ep) ∈ news) (h2 : (db, od) ∈ news) : InstAt h b (bookO db es ep) 136 (some od) := ⟨(N _ h1).1, rfl, rfl, (N _ h2).1⟩
section
local macro_rules | `(tactic| x_close) => `(tactic| (refine Ret.end (by assumption) (by assumption) ?_; exact ⟨_, rfl, Mem.at (by assumption) 0 _ _ rfl, (Mem.nw (by assumption) _ (List.Mem.head _)).2⟩))
theorem md_get {w : World} {s : Shared} {E : Value → Shared → Prop} {Q : Value → Shared → Prop} (X : (Mine.K w.params).In s.heap) {b db : Addr} {es : Array DictEntry} {ep : Nat} (hb : s.heap.get? b = some (Obj.mk (.ref 136) (some db) (.dict es ep) #[some (.ref 241)]))
   (R : Ret s Q fun v h' => (∃ q, An3 (v = .ref q) (h'.get? q = some (bmO b)) (s.heap.get? q = none))) :
   wpAny (model PySem.Challenge.rw_in0004_01.row.prog w) AX (call (.builtin "method_descriptor.__get__") [.builtin "collections.defaultdict.__missing__", .ref b, .ref 136]) Q E s := by
  x_run
end
/-- what is new stands on the ledger -/
theorem fresh_news {s : Shared} {h₀ h' : Heap} {L q : Addr} {o : Obj} {m : PySem.Str → Option Value} {news : List (Addr × Obj)} (F : Fr h₀ L s.heap m) (N : News h₀ L s.heap news) (hq : h'.get? q = some o) (hq0 : s.heap.get? q = none) (keep : ∀ p o, s.heap.get? p = some o → h'.get? p = some o) :
    Fr h₀ L h' m ∧ News h₀ L h' ((q, o) :: news) ∧ ∀ p ∈ news, p.1 ≠ q := by
  refine ⟨F.keeps keep, fun p hp => ?_, fun p hp e => ?_⟩
  · rcases List.mem_cons.mp hp with rfl | hp
    · refine ⟨hq, fun e => ?_, ?_⟩
      · obtain ⟨o, _, _, hL, _⟩ := F.ns
        dsimp only at e
        rw [e, hL] at hq0; cases hq0
      · cases e : h₀.get? q with
        | none => rfl
        | some o => rw [F.keep _ _ e] at hq0; cases hq0
    · exact ⟨keep _ _ (N p hp).1, (N p hp).2⟩
  · rw [← e, (N p hp).1] at hq0; cases hq0
theorem super_missing {w : World} {A : Around} {E : Value → Shared → Prop} {s : Shared} {h₀ : Heap} {L so b db : Addr} {m : PySem.Str → Option Value} {news : List (Addr × Obj)} {es : Array DictEntry} {ep : Nat} {od : Obj} {ex : Bool} {Q : Value → Shared → Prop}
    (X : (Mine.K w.params).In h₀) (F : Fr h₀ L s.heap m) (N : News h₀ L s.heap news) (hso : (so, ks_superObj 136 b 136) ∈ news) (hb : (b, bookO db es ep) ∈ news) (hdb : (db, od) ∈ news)
    (hh : A.in1.handled = none) (hd : A.in1.depth ≤ 980) (hu : A.in1.units ≤ 9700)
    (R : ∀ q h' tk', Fr h₀ L h' m → News h₀ L h' ((q, bmO b) :: news) → (∀ p ∈ news, p.1 ≠ q) → Q (.ref q) { s with heap := h', toks := tk' }) :
    wpAny (model PySem.Challenge.rw_in0004_01.row.prog w) A (getAttr (.ref so) (PySem.Str.ofString "__missing__") ex) Q E s := by
  revert X; (k_fill; w_top off); intro X
  have I := inst_book N hb hdb
  have Xs := X.keeps F.keep
  have ho : nsIn (Mine.K w.params) cStatics "thirdparty.any" = some none := by k_is
  have hm : ks_superIn (Mine.K w.params) 136 136 (PySem.Str.ofString "__missing__") = some (some (.builtin "collections.defaultdict.__missing__")) := by ks_is
  cases hc : clsIn (Mine.K w.params) 136 with
  | none => unfold ks_superIn at hm; rw [hc] at hm; cases hm
  | some cd =>
    unfold ks_superIn at hm
    rw [hc] at hm
    have hbo := (N _ hb).1
    have key := super_attr (prog := PySem.Challenge.rw_in0004_01.row.prog) (w := w) (A := A) (E := E) (h := s.heap) (g := s.gens) (d := s.drawn) (t := s.toks) (os := s.os) (ex := ex) (Q := Q) (l₀ := cd.mro) (N _ hso).1 (looks_opaque Xs ho)
      (fun A Q E s k q => wpAny_bind ((looks_clsIn Xs hc) A _ E s k (wpAny_pure q))) rfl Xs hm (by show builtinType _ = _; rw [builtinType_eq_fast]; kernel_rfl) (by rw [typeLookup_type, builtinLookup_eq_fast]; kernel_rfl) (ks_ne Xs I hc) (by decide)
    refine key (of_AX (md_get (s := { s with toks := s.toks + 1 }) Xs hbo ⟨?_⟩) hh hd hu)
    rintro v h' tk' ⟨q, rfl, hq, hq0⟩ keep
    obtain ⟨F', N', off⟩ := fresh_news F N hq hq0 keep
    exact ⟨⟨q, rfl⟩, R q h' tk' F' N' off⟩
end Mine
end
section
open PySem PySem.W PySem.Calls PyProof.Rows
set_option maxRecDepth 100000
set_option maxHeartbeats 8000000
namespace Mine
theorem borrowed_eq (f : Value) (pos : List Value) : callBorrowed f pos = (call f pos).keep [borrowed] := by
  unfold callBorrowed call runValue run
  show Sem.call _ _ _ _ _ = Sem.call _ _ _ _ _
  congr 1
  funext r
  rcases r with e | (v | _ | _ | _) <;> rfl
section
variable {prog : Program} {w : World} {A : Around} {E : Value → Shared → Prop} {s : Shared} {K : Frag} {q b db : Addr} {es : Array DictEntry} {ep : Nat} {x : PySem.Str} {t : Tok}
theorem wpAny_borrowed {M : Model} {f : Value} {pos : List Value} {Q : Value → Shared → Prop} (h : wpAny M A (call f pos) Q E s) : wpAny M A (callBorrowed f pos) Q E s := by
  rw [borrowed_eq]; exact wpAny_keep h
theorem sig_bm : Manifest.signature? "collections.defaultdict.__missing__" = some ⟨.oneArg, "defaultdict.__missing__", "__missing__", .self, [⟨"object", .posOnly, true⟩]⟩ := by kernel_rfl
theorem check_args_bm (b : Addr) (k : Value) : Bind.checkArgs "collections.defaultdict.__missing__" { (⟨.oneArg, "defaultdict.__missing__", "__missing__", .self, [⟨"object", .posOnly, true⟩]⟩ : Manifest.Signature) with full := s!"{(PySem.Str.ofString "FreezableDefaultDict").toString}.{Bind.lastOf "collections.defaultdict.__missing__"}" } ⟨[.ref b, k], []⟩ = pure () := by
  kernel_rfl
end
theorem qual_136 (w : World) : (clsIn (Mine.K w.params) 136).map (·.qualname) = some (PySem.Str.ofString "FreezableDefaultDict") := by kernel_rfl
section
variable {w : World} {A : Around} {E : Value → Shared → Prop} {s : Shared} {q b db : Addr} {es : Array DictEntry} {ep : Nat} {x : PySem.Str} {t : Tok} {od : Obj}
theorem kind_bm : builtinKind "collections.defaultdict.__missing__" = some .method := by decide +kernel
theorem check_bound_bm {Q : Unit → Shared → Prop} {k : Value} (X : (Mine.K w.params).In s.heap) (I : InstAt s.heap b (bookO db es ep) 136 (some od)) (h : Q () s) :
    wpAny (model PySem.Challenge.rw_in0004_01.row.prog w) A (checkBoundCall "collections.defaultdict.__missing__" ⟨[.ref b, k], []⟩) Q E s := by
  revert X; (k_fill; w_top off); intro X
  have hm : mroIn (Mine.K w.params) 136 (.type "module") = some false := by k_is
  have ht : typeIn (Mine.K w.params) (.ref 136) = some (.type "type") := by k_is
  obtain ⟨cd, hc, hq⟩ := Option.map_eq_some_iff.mp (qual_136 w)
  unfold checkBoundCall
  rw [sig_bm, kind_bm]
  dsimp only
  rw [if_neg (by decide)]
  have L1 : Looks (model PySem.Challenge.rw_in0004_01.row.prog w) s.heap (isInstance (.ref b) (.type "module")) false := I.type.andThen (looks_mroIn X hm)
  have L2 : Looks (model PySem.Challenge.rw_in0004_01.row.prog w) s.heap (isType (.ref b)) false := by
    unfold isType
    exact (Looks.ld I.at_).andThen .now
  refine wpAny_bind (L1.here ?_)
  rw [if_neg (by decide)]
  refine wpAny_bind (L2.here ?_)
  rw [if_neg (by decide)]
  refine wpAny_bind (I.type.here ?_)
  dsimp only
  refine wpAny_bind ((looks_clsIn X hc).here ?_)
  refine wpAny_bind ((looks_typeIn X ht).here ?_)
  rw [if_pos (by rfl), hq]
  exact wpAny_of_eq (check_args_bm b k) h
/-- a bound defaultdict.__missing__, called -/
theorem call_bm {Q : Value → Shared → Prop} {k : Value} (X : (Mine.K w.params).In s.heap) (hq : s.heap.get? q = some (bmO b)) (I : InstAt s.heap b (bookO db es ep) 136 (some od))
    (h : codeAny (model PySem.Challenge.rw_in0004_01.row.prog w) A (.builtin "collections.defaultdict.__missing__" ⟨[.ref b, k], []⟩) (fun r s' => match r with | .ok (.ret v) => Q v s' | .ok _ => False | .error e => E e s') s) :
    wpAny (model PySem.Challenge.rw_in0004_01.row.prog w) A (call (.ref q) [k]) Q E s := by
  refine wpAny_call (codeAny_of_tree ?_)
  show wpAny _ _ (callAny (.ref q) ⟨[k], []⟩) _ _ s
  unfold callAny
  refine wpAny_bind (wpAny_load hq ?_)
  dsimp only
  rw [if_pos (by rfl)]
  refine wpAny_bind (check_bound_bm X I ?_)
  exact wpAny_pure ⟨plainId_quiet (by decide +kernel) _, h⟩
/-- its own steps: the factory's call, then setdefault -/
theorem missing_body {R : Result → Shared → Prop} {k : Value} {o1 : Obj} {fd : FuncData} (I : InstAt s.heap b (bookO db es ep) 136 (some od)) (hf : s.heap.get? 241 = some o1) (hfd : o1.data = .func fd)
    (h : wpAny (model PySem.Challenge.rw_in0004_01.row.prog w) A.in1 (call (.ref 241) []) (fun v s' => codeAny (model PySem.Challenge.rw_in0004_01.row.prog w) A (.builtin "dict.setdefault" ⟨[.ref b, k, v], []⟩) R s') (fun e s' => R (.error e) s') s) :
    codeAny (model PySem.Challenge.rw_in0004_01.row.prog w) A (.builtin "collections.defaultdict.__missing__" ⟨[.ref b, k], []⟩) R s := by
  refine codeAny_builtin (b := Builtin.«collections.defaultdict.__missing__») (entryFor_of_tree (by kernel_rfl)) ?_
  rw [Around.under_plainId (by decide +kernel)]
  unfold Builtin.«collections.defaultdict.__missing__»
  show wpAny _ _ (Builtin.Collections_defaultdict.factory? (.ref b) >>= _) _ _ s
  unfold Builtin.Collections_defaultdict.factory? slotAt
  refine wpAny_bind (wpAny_bind (wpAny_bind (wpAny_loadPart I.at_ (wpAny_pure ?_))))
  refine wpAny_pure ?_
  show wpAny _ _ (callOutOfASlot (.ref 241) [] >>= _) _ _ s
  refine wpAny_bind ?_
  unfold callOutOfASlot borrowsExactly
  refine wpAny_bind (wpAny_bind (wpAny_load hf ?_))
  rw [hfd]
  refine wpAny_pure ?_
  rw [if_pos rfl]
  exact wpAny_borrowed (wpAny_mono h (fun v s' z => wpAny_pure ⟨plainId_quiet (by decide +kernel) _, z⟩) fun _ _ z => z)
theorem strAt_none {es : Array DictEntry} {x : PySem.Str} (h : strAt es x = none) : (es.findIdx? fun e => e.key.isStr x) = none := by
  unfold strAt at h
  rw [Option.map_eq_none_iff, List.find?_eq_none] at h
  rw [Array.findIdx?_eq_none_iff]
  intro e he
  have := h e (Array.mem_toList_iff.mpr he)
  simpa using this
theorem setdefault_new {R : Result → Shared → Prop} {v : Value} (X : (Mine.K w.params).In s.heap) (I : InstAt s.heap b (bookO db es ep) 136 (some od)) (hall : (es.all fun e => isExactStrKey e.key) = true) (hnone : strAt es x = none) (hz : es.size ≤ 1000) (hb : (b == sysModules) = false)
    (h : R (.ok (.ret v)) { s with heap := s.heap.update b (Obj.mapDictKeys (·.push ⟨hashStr w x, .str x t, v⟩)), toks := s.toks + 1 }) :
    codeAny (model PySem.Challenge.rw_in0004_01.row.prog w) A (.builtin "dict.setdefault" ⟨[.ref b, .str x t, v], []⟩) R s := by
  revert X; (k_fill; w_top off); intro X
  have hm : mroIn (Mine.K w.params) 136 (.type "collections.OrderedDict") = some false := by k_is
  have L1 : Looks (model PySem.Challenge.rw_in0004_01.row.prog w) s.heap (isInstance (.ref b) (.type "collections.OrderedDict")) false := I.type.andThen (looks_mroIn X hm)
  refine codeAny_builtin (b := Builtin.«dict.setdefault») (entryFor_of_tree (by kernel_rfl)) ?_
  unfold Builtin.«dict.setdefault» Builtin.Dict.keyAndDefault
  refine wpAny_bind (wpAny_bind ?_)
  unfold Builtin.Dict.notOrdered
  rw [if_pos (by decide +kernel)]
  refine wpAny_bind (I.type.here ?_)
  rw [if_pos (by rfl)]
  refine wpAny_bind (L1.here ?_)
  rw [if_neg (by decide)]
  refine wpAny_pure ?_
  show wpAny _ _ (do
    let __x ← (pure (b, Value.str x t, some v) : Sem (Addr × Value × Option Value))
    _) _ _ s
  refine wpAny_pure ?_
  dsimp only
  rw [if_neg (by rw [hb]; exact Bool.false_ne_true)]
  show wpAny _ _ (dictSetDefault b (.str x t) v >>= _) _ _ s
  refine wpAny_bind ?_
  unfold dictSetDefault
  refine wpAny_holding (wpAny_bind ((strKind PySem.Challenge.rw_in0004_01.row.prog w).pyHash (k := x) (strKind_is _ w x t) (wpAny_bind (PyProof.Rows.KTD.kt_dictFind_strs (s := { s with toks := s.toks + 1 }) I.at_ rfl hall ?_))))
  rw [strAt_none hnone]
  refine wpAny_bind (wpAny_rule (wpAny_bind (wpAny_updateDictKeys (s := { s with toks := s.toks + 1 }) I.at_ rfl (wpAny_pure (wpAny_pure h)) (hz := by rw [sizeLine_eq]; omega))))
structure Both (P R : Prop) : Prop where
  one : P
  two : R
theorem callWith_bm {pos : Pos} {e : PySem.Expr} {rest : List PySem.Expr} {env : Env} {Q : Value → Shared → Prop}
    (h : wpAny (model PySem.Challenge.rw_in0004_01.row.prog w) A (spliced (backTo pos (starEach (e :: rest) env))) (fun vs s₁ => Both (s₁.heap.get? q = some (bmO b)) (wpAny (model PySem.Challenge.rw_in0004_01.row.prog w) A (call (.ref q) vs) Q E s₁)) E s)
    (he : backTo pos (starEach (e :: rest) env) = (false, eval e env) :: backTo pos (starEach rest env) := by rfl) (hp : (backTo pos (starEach rest env)).any (·.1) = false := by rfl) :
    wpAny (model PySem.Challenge.rw_in0004_01.row.prog w) A (callWith pos (.ref q) [] (backTo pos (starEach (e :: rest) env)) []) Q E s := by
  rw [he] at h ⊢
  unfold callWith
  refine wpAny_bind (wpAny_holding (wpAny_mono (evalArgs_plain (Q := fun a s₁ => Both (s₁.heap.get? q = some (bmO b)) (wpAny (model PySem.Challenge.rw_in0004_01.row.prog w) A (call (.ref q) a.pos a.kw) Q E s₁)) h) (fun a s₁ h₁ => wpAny_bind (wpAny_standAt ?_)) fun _ _ x => x))
  obtain ⟨hq, h₁⟩ := h₁
  have hany : (((false, eval e env) :: backTo pos (starEach rest env)).any (·.1)) = false := by show (false || (backTo pos (starEach rest env)).any (·.1)) = false; rw [hp]; rfl
  simp only [hany, List.any_nil, Bool.or_false]
  unfold keeperOf
  refine wpAny_bind (wpAny_bind (wpAny_load hq ?_))
  dsimp only
  rw [if_pos (by decide), if_pos (by decide)]
  refine wpAny_pure ?_
  exact wpAny_bind (wpAny_mono h₁ (fun r s₂ hr => wpAny_bind (wpAny_holding (wpAny_point (wpAny_pure hr)))) fun _ _ x => x)
end
theorem callWith_fn {prog : Program} {w : World} {A : Around} {E : Value → Shared → Prop} {s : Shared} {q : Addr} {o : Obj} {fd : FuncData} {pos : Pos} {e : PySem.Expr} {rest : List PySem.Expr} {env : Env} {Q : Value → Shared → Prop}
    (h : wpAny (model prog w) A (spliced (backTo pos (starEach (e :: rest) env))) (fun vs s₁ => Both (s₁.heap.get? q = some o ∧ o.data = .func fd) (wpAny (model prog w) A (call (.ref q) vs) Q E s₁)) E s)
    (he : backTo pos (starEach (e :: rest) env) = (false, eval e env) :: backTo pos (starEach rest env) := by rfl) :
    wpAny (model prog w) A (callWith pos (.ref q) [] (backTo pos (starEach (e :: rest) env)) []) Q E s := by
  rw [he] at h ⊢
  exact callWith_function (o := o) (fd := fd) (evalArgs_plain (Q := fun x s₁ => (s₁.heap.get? q = some o ∧ o.data = .func fd) ∧ wpAny (model prog w) A (call (.ref q) ([] ++ x.pos) x.kw) Q E s₁) (wpAny_mono h (fun vs s₁ z => ⟨z.one, z.two⟩) fun _ _ z => z))
section
open PySem.W.X
local macro_rules | `(tactic| x_close) => `(tactic| (refine Ret.end (by assumption) (by assumption) ?_; exact rfl))
theorem getattr_def {w : World} {s : Shared} {E : Value → Shared → Prop} {Q : Value → Shared → Prop} (X : (Mine.K w.params).In s.heap) {b db q : Addr} {es : Array DictEntry} {ep : Nat} {t : Tok} (hb : s.heap.get? b = some (Obj.mk (.ref 136) (some db) (.dict es ep) #[some (.ref 241)])) (hdb : s.heap.get? db = some (Obj.mk (.type "dict") none (.dict #[]) #[]))
   (R : Ret s Q fun v _ => v = .ref q) :
   wpAny (model PySem.Challenge.rw_in0004_01.row.prog w) AX (call (.builtin "getattr") [.ref b, .str (PySem.Str.ofString "_frozen") t, .ref q]) Q E s := by
  x_run
local macro_rules | `(tactic| x_close) => `(tactic| (refine Ret.end (by assumption) (Mem.start _) ?_; exact rfl))
theorem getattr_frozen {w : World} {s : Shared} {E : Value → Shared → Prop} {Q : Value → Shared → Prop} (X : (Mine.K w.params).In s.heap) {b db q lam : Addr} {es : Array DictEntry} {ep n : Nat} {t tk : Tok} {hsh : Int} (hb : s.heap.get? b = some (Obj.mk (.ref 136) (some db) (.dict es ep) #[some (.ref 241)])) (hdb : s.heap.get? db = some (Obj.mk (.type "dict") none (.dict #[⟨hsh, .str (PySem.Str.ofString "_frozen") tk, .ref lam⟩] n) #[]))
   (R : Ret s Q fun v _ => v = .ref lam) :
   wpAny (model PySem.Challenge.rw_in0004_01.row.prog w) AX (call (.builtin "getattr") [.ref b, .str (PySem.Str.ofString "_frozen") t, .ref q]) Q E s := by
  x_run
end
end Mine
end
section
open PySem PySem.W PyProof.Rows
set_option maxRecDepth 100000
set_option maxHeartbeats 8000000
set_option linter.unusedSimpArgs false
set_option linter.unusedVariables false
namespace Mine
/-- a contract that tells the whole ledger behind the call -/
noncomputable def CtrN (room : Nat) (w : World) (f : Addr) (args : List Value) (news : List (Addr × Obj)) (Post : List (Addr × Obj) → Value → Prop) : Prop :=
  ∀ (dp un : Nat) (gd : Option (List Code)) (cn : PySem.Str) (cs : Scope) (a : Addr) (ccd : Value) (cl : List (PySem.Str × Addr)) (outer : List Env) (A₀ : Around) (base h₀ : Heap) (L : Addr) (m : PySem.Str → Option Value) (p : Program) (loose : List PySem.Str) (mean : ExcName → Option Value) (mg mb : PySem.Str → Option Value) (s : Shared) (Q E : Value → Shared → Prop),
    Below A₀ base outer h₀ → Fr h₀ L s.heap m → (Mine.K w.params).In h₀ → News h₀ L s.heap news → Top p loose mean mg mb h₀ → cs.kind = .function → dp + room < recursionLimit → un + 10 * room < cLine →
    (∀ v nw h' tk', Fr h₀ L h' m → News h₀ L h' nw → Post nw v → Q v { s with heap := h', toks := tk' }) →
    codeAny (model PySem.Challenge.rw_in0004_01.row.prog w) (ktrTop dp un gd cn cs L a ccd cl outer) (.call (.ref f) ⟨args, []⟩) (fun r s' => match r with | .ok (.ret v) => Q v s' | .ok _ => False | .error e => E e s') s
theorem CtrN.code {room : Nat} {w : World} {f : Addr} {args : List Value} {news : List (Addr × Obj)} {Post : List (Addr × Obj) → Value → Prop} (C : CtrN room w f args news Post)
    {dp un : Nat} {gd : Option (List Code)} {cn : PySem.Str} {cs : Scope} {a : Addr} {ccd : Value} {cl : List (PySem.Str × Addr)} {outer : List Env} {A₀ : Around} {base h₀ : Heap} {L : Addr} {m : PySem.Str → Option Value} {p : Program} {loose : List PySem.Str} {mean : ExcName → Option Value} {mg mb : PySem.Str → Option Value} {s : Shared} {Q E : Value → Shared → Prop}
    (B : Below A₀ base outer h₀) (F : Fr h₀ L s.heap m) (X : (Mine.K w.params).In h₀) (N : News h₀ L s.heap news) (T : Top p loose mean mg mb h₀) (hk : cs.kind = .function) (hd : dp + room < recursionLimit) (hu : un + 10 * room < cLine)
    (ret : ∀ v nw h' tk', Fr h₀ L h' m → News h₀ L h' nw → Post nw v → Q v { s with heap := h', toks := tk' }) :
    codeAny (model PySem.Challenge.rw_in0004_01.row.prog w) (ktrTop dp un gd cn cs L a ccd cl outer) (.call (.ref f) ⟨args, []⟩) (fun r s' => match r with | .ok (.ret v) => Q v s' | .ok _ => False | .error e => E e s') s := C _ _ _ _ _ _ _ _ _ _ _ _ _ _ _ _ _ _ _ _ _ _ B F X N T hk hd hu ret
local macro_rules | `(tactic| walk_at "wpAt") => `(tactic| (refine hold ?_))
theorem allLt_get {D : Addr} {r : List (Addr × Obj)} (h : AllLt D r) {p : Addr × Obj} (hp : p ∈ r) : p.1 < D := by
  induction r with
  | nil => cases hp
  | cons q r ih =>
    cases hp with
    | head => exact h.1
    | tail _ hp => exact ih h.2 hp
theorem missing_new {w : World} {rest : List (Addr × Obj)} {b db : Addr} {es : Array DictEntry} {ep : Nat} {x : PySem.Str} {t : Tok} (hall : (es.all fun e => isExactStrKey e.key) = true) (hnone : strAt es x = none) (hz : es.size ≤ 1000) (hsy : (b == sysModules) = false) (hrest : ∀ p ∈ rest, p.1 ≠ b) (hdb : (db, dictOf [] 0) ∈ rest) :
   CtrN 60 w 126 [.ref b, .str x t] ((b, bookO db es ep) :: rest) fun nw v => (∃ D, An4 (v = .ref D) (nw = (D, listOf #[] 0) :: (b, bookO db (es.push ⟨hashStr w x, .str x t, .ref D⟩) (ep + 1)) :: rest) (D ≠ b) (∀ p ∈ rest, p.1 ≠ D)) := by
  have hb : (b, bookO db es ep) ∈ (b, bookO db es ep) :: rest := List.mem_cons_self ..
  replace hdb : (db, dictOf [] 0) ∈ (b, bookO db es ep) :: rest := List.mem_cons_of_mem _ hdb
  unfold CtrN
  (k_fill; w_top off)
  intro dp un gd cn cs' cA ccd cl outer A₀ base h₀ L m p loose mean mg mb s Q E B F X N T hk9 hdp hun hret
  have hlim : recursionLimit = 1000 := rfl
  have hcl := cLine_is
  k_dflt (refine' ks_code_super ?k1 ?k2 ?k3 ?k4 ?k5 ?kA ?kF ?kK ?k6 ?k7 ?k8 ?k9 ?kB ?_ ?c1 ?c2 ?c3 ?c4; (case kA => exact rfl); (case kF => exact rfl); (case kK => assumption); (case k1 => k_asm); (case k2 => k_asm); (case k3 => k_asm); (case k4 => k_asm); (case k5 => k_asm); (case k6 => k_is); (case k7 => k_is); (case k8 => ktr_room); (case k9 => exact BindsTo.of_eq rfl); (case kB => exact locs rfl); (case c1 => decide); (case c2 => exact rfl); (case c3 => exact rfl); (case c4 => exact rfl); intro g' L' h' FG' F' N' B' X' T' l1; (try dsimp only))
  refine ks_wpAt_execs_cons (ks_wpAt_Return_some ?_)
  refine at_callcall (at_callname ?_)
  k_steps
  refine Hold.mk ?_
  refine at_callWith_b (at_spliced_star (at_any ?_))
  k_steps
  refine Hold.mk ?_
  refine at_spliced_star (at_any ?_)
  k_steps
  refine Hold.mk ?_
  refine at_spliced_star (at_attr ?_)
  k_dflt (refine ks_node (by k_asm) (by k_asm) (by k_asm) (by k_asm) (by k_is) (by rfl) (by rfl) (inst_book (by k_asm) hb hdb) (by k_is) (by rfl) (by first | rfl | decide +kernel) (by k_is) (by k_is) (by k_is) (by k_is) (by decide) (by rfl) (by rfl) (by rfl) (by rfl) (by decide +kernel) (by first | boot_by_name | rfl | kernel_rfl) ?_; intro so' h' F' N' l1; (try k_lt l1))
  rename Fr _ _ _ _ => F2
  rename News _ _ _ _ => N2
  refine super_missing X' F2 N2 (List.mem_cons_self ..) (List.mem_cons_of_mem _ hb) (List.mem_cons_of_mem _ hdb) (by rfl) ?_ ?_ ?_
  · show dp + 1 ≤ 980
    omega
  · simp only [units_under_make, units_in1, units_deeper, Around.mark_units, units_caller]
    (try dsimp only [ktrTop])
    omega
  intro q h2 tk2 F3 N3 off
  refine at_spliced_nil ?_
  have hb3 := N3.get (List.mem_cons_of_mem _ (List.mem_cons_of_mem _ hb))
  have hdb3 := N3.get (List.mem_cons_of_mem _ (List.mem_cons_of_mem _ hdb))
  refine of_AX (getattr_def (X'.keeps F3.keep) hb3 hdb3 ⟨?_⟩) (by rfl) ?_ ?_
  rotate_left
  · show dp + 1 ≤ 980
    omega
  · simp only [units_under_make, units_in1, units_deeper, Around.mark_units, units_caller]
    (try dsimp only [ktrTop])
    omega
  rintro v h3 tk3 rfl keep3
  replace F3 := F3.keeps keep3
  replace N3 := N3.grown keep3
  clear hb3 hdb3 F2 N2 F' N'
  refine callWith_bm (b := b) ?_
  k_steps
  rename Fr _ _ _ _ => F4
  rename News _ _ _ _ => N4
  refine ⟨N4.get (List.mem_cons_self ..), call_bm (X'.keeps F4.keep) (N4.get (List.mem_cons_self ..)) (inst_book N4 (List.mem_cons_of_mem _ (List.mem_cons_of_mem _ hb)) (List.mem_cons_of_mem _ (List.mem_cons_of_mem _ hdb))) ?_⟩
  refine missing_body (inst_book N4 (List.mem_cons_of_mem _ (List.mem_cons_of_mem _ hb)) (List.mem_cons_of_mem _ (List.mem_cons_of_mem _ hdb))) ((X'.keeps F4.keep) 241 _ (by k_is)) rfl ?_
  refine wpAny_call ?_
  k_dflt (refine' code_def ?k1 ?k2 ?k3 ?k4 ?k5 ?kA ?kF ?kK ?k6 ?k7 ?k8 ?k9 ?kB ?_ ?c2 ?c3 ?c4 ?c5; (case kA => exact rfl); (case kF => exact rfl); (case kK => exact rfl); (case k1 => k_asm); (case k2 => k_asm); (case k3 => k_asm); (case k4 => k_asm); (case k5 => k_asm); (case k6 => k_is); (case k7 => k_is); (case k8 => ktr_room); (case k9 => exact BindsTo.of_eq rfl); (case c5 => decide); (case kB => exact locs rfl); (case c2 => exact rfl); (case c3 => exact rfl); (case c4 => exact rfl); k_whole; intro g' L' h' FG' F' N' B' X' T'; (try dsimp only); (try k_fold))
  k_steps
  rename Fr _ _ _ _ => F5
  rename News _ _ _ _ => N5
  rename_i D hD5 Fc Nc lD Tc Xc
  have hDb : D ≠ b := Nat.ne_of_gt lD.2.2.1
  have hDr : ∀ p ∈ rest, p.1 ≠ D := fun p hp => by
    exact Nat.ne_of_lt (allLt_get lD.2.2.2 hp)
  have hqb : q ≠ b := Ne.symm (off _ (List.mem_cons_of_mem _ hb))
  refine setdefault_new (Xc.keeps F5.keep) (inst_book N5 (List.mem_cons_of_mem _ (List.mem_cons_of_mem _ (List.mem_cons_of_mem _ hb))) (List.mem_cons_of_mem _ (List.mem_cons_of_mem _ (List.mem_cons_of_mem _ hdb)))) hall hnone hz hsy ?_
  have hsb : so' ≠ b := by
    have h1 := N4.get (List.mem_cons_of_mem _ (List.mem_cons_of_mem _ hb))
    intro e
    have h2 := N4.get (List.mem_cons_of_mem _ (List.mem_cons_self ..))
    rw [e, h1] at h2
    exact absurd (congrArg (fun o => o.map Obj.cls) h2) (by simp)
  obtain ⟨F6, N6⟩ := news_upd (pre := [(D, listOf #[] 0), (q, bmO b), (so', ks_superObj 136 b 136)]) (post := rest) (d := b) (o := bookO db es ep) (o' := bookO db (es.push ⟨hashStr w x, .str x t, .ref D⟩) (ep + 1)) (f := Obj.mapDictKeys (·.push ⟨hashStr w x, .str x t, .ref D⟩)) F5 N5 (fun p hp => by
    simp only [List.mem_cons, List.not_mem_nil, or_false] at hp
    rcases hp with h | h | h
    · rw [h]; exact hDb
    · rw [h]; exact hqb
    · rw [h]; exact hsb) hrest rfl rfl
  refine leaveK_ F6 N6 fun F7 N7 => hret _ _ _ _ F7 (fun p hp => N7 p ?_) ⟨D, rfl, rfl, hDb, hDr⟩
  rcases List.mem_cons.mp hp with h | hp
  · rw [h]; exact List.mem_cons_self ..
  · exact List.mem_cons_of_mem _ (List.mem_cons_of_mem _ (List.mem_cons_of_mem _ hp))
end Mine
end
section
open PySem PySem.W PySem.Calls PyProof.Rows
set_option maxRecDepth 100000
set_option maxHeartbeats 8000000
namespace Mine
theorem own1 : classOwn (.type "collections.defaultdict") "__setattr__" = pure none := by kernel_rfl
theorem own2 : classOwn (.type "dict") "__setattr__" = pure none := by kernel_rfl
theorem mro_136 (w : World) : (clsIn (Mine.K w.params) 136).map (·.mro) = some [.ref 136, .type "collections.defaultdict", .type "dict", .type "object"] := by kernel_rfl
theorem refuse_type {self : Value} {what : PySem.Str} {n : String} {l : List Value} (h1 : (n == "_thread._local") = false) (h2 : (n == "_pickle.Pickler" || n == "_pickle.Unpickler") = false) (h3 : classOwn (.type n) what = pure none) : refuseLoop self what (.type n :: l) = refuseLoop self what l := by
  unfold refuseLoop
  simp only [List.forIn_cons, h1, h2, h3, Bool.false_eq_true, if_false]
  rfl
theorem refuse_136 (self : Value) : refuseLoop self "__setattr__" [.ref 136, .type "collections.defaultdict", .type "dict", .type "object"] = pure () := by
  rw [refuseLoop_ref, refuse_type (by decide) (by decide) own1, refuse_type (by decide) (by decide) own2]
  exact PySem.F.store_object.passes self
theorem set_frozen {w : World} {A : Around} {E : Value → Shared → Prop} {s : Shared} {h₀ : Heap} {L b db lam : Addr} {m : PySem.Str → Option Value} {pre post : List (Addr × Obj)} {es : Array DictEntry} {ep : Nat} {Q : Unit → Shared → Prop}
    (F : Fr h₀ L s.heap m) (X₀ : (Mine.K w.params).In h₀) (N : News h₀ L s.heap (pre ++ (db, dictOf [] 0) :: post)) (hb : (b, bookO db es ep) ∈ pre ++ (db, dictOf [] 0) :: post) (h1 : ∀ p ∈ pre, p.1 ≠ db) (h2 : ∀ p ∈ post, p.1 ≠ db)
    (h : ∀ h' hsh tk, Fr h₀ L h' m → News h₀ L h' (pre ++ (db, dictOf [⟨hsh, .str (PySem.Str.ofString "_frozen") tk, .ref lam⟩] 1) :: post) → Q () { s with heap := h', toks := s.toks + 2 }) :
    wpAny (model PySem.Challenge.rw_in0004_01.row.prog w) A (setAttr (.ref b) (PySem.Str.ofString "_frozen") (.ref lam)) Q E s := by
  revert X₀; (k_fill; w_top off); intro X₀
  have X := X₀.keeps F.keep
  have hmo : mroIn (Mine.K w.params) 136 (.type "object") = some true := by k_is
  have hsa : findIn (Mine.K w.params) (.ref 136) "__setattr__" = some (some (.builtin "object.__setattr__")) := by k_is
  have ht : findIn (Mine.K w.params) (.ref 136) (PySem.Str.ofString "_frozen") = some none := by k_is
  have hh : (clsIn (Mine.K w.params) 136).any (·.hasDict) = true := by kernel_rfl
  obtain ⟨cd, hc, hmro⟩ := Option.map_eq_some_iff.mp (mro_136 w)
  have hdict : cd.hasDict = true := by rw [hc] at hh; simpa using hh
  have I := inst_book N hb (List.mem_append_right _ (List.mem_cons_self ..))
  have SF := PySem.F.store_object
  refine set_plain X I hsa ?_
  have I' : InstAt ({ s with toks := s.toks + 1 } : Shared).heap b (bookO db es ep) 136 (some (dictOf [] 0)) := I
  have sub : Looks (model PySem.Challenge.rw_in0004_01.row.prog w) s.heap (isInstance (.ref b) (.type "object")) true := I.type.andThen (looks_mroIn X hmo)
  refine codeAny_call_builtin SF.slot.plain SF.entry (@check_slot (model PySem.Challenge.rw_in0004_01.row.prog w) _ _ { s with toks := s.toks + 1 } "object.__setattr__" "object" "__setattr__" (.ref b) [.str (PySem.Str.ofString "_frozen") s.toks, .ref lam] [] _ SF.kind SF.split sub (SF.args _ _ _) ?_)
  have Lm : Looks (model PySem.Challenge.rw_in0004_01.row.prog w) s.heap (mroOf (.ref 136)) cd.mro := (looks_clsIn X hc).andThen .now
  rw [osa_eq, refuse_eq]
  refine wpAny_bind (wpAny_bind (I'.type.here (wpAny_bind (Lm.here (s := { s with toks := s.toks + 1 }) ?_))))
  rw [hmro, refuse_136]
  refine wpAny_pure (wpAny_bind (I'.type.here (wpAny_bind ((looks_findIn X ht).here (s := { s with toks := s.toks + 1 }) ?_))))
  have e : Obj.putName (PySem.Str.ofString "_frozen") (PyData.keyHash w.params (PySem.Str.ofString "_frozen")) (.str (PySem.Str.ofString "_frozen") (s.toks + 1)) (.ref lam) (dictOf [] 0) = dictOf [⟨PyData.keyHash w.params (PySem.Str.ofString "_frozen"), .str (PySem.Str.ofString "_frozen") (s.toks + 1), .ref lam⟩] 1 := by rfl
  obtain ⟨U1, U2⟩ := news_upd (f := Obj.putName (PySem.Str.ofString "_frozen") (PyData.keyHash w.params (PySem.Str.ofString "_frozen")) (.str (PySem.Str.ofString "_frozen") (s.toks + 1)) (.ref lam)) F N h1 h2 e rfl
  have D := (N (db, dictOf [] 0) (by simp)).1
  have D' := (U2 (db, dictOf [⟨PyData.keyHash w.params (PySem.Str.ofString "_frozen"), .str (PySem.Str.ofString "_frozen") (s.toks + 1), .ref lam⟩] 1) (by simp)).1
  refine wpAny_bind (wpAny_pure (wpAny_bind (wpAny_pure (wpAny_bind (wpAny_bind (wpAny_loadPart I'.at_ (wpAny_bind ((looks_clsIn X hc).here (s := { s with toks := s.toks + 1 }) ?_))))))))
  rw [hdict]
  refine wpAny_pure (a := some db) (wpAny_bind (wpAny_pure (wpAny_bind ?_)))
  unfold nsSet
  refine wpAny_bind (wpAny_bind (wpAny_askSetting (wpAny_pure (wpAny_bind (wpAny_mkText (wpAny_bind (wpAny_loadPart D ?_)))))))
  dsimp only
  rw [aRefKeyMayBeTheName_at, if_neg (by simp)]
  refine wpAny_updatePart D ?_
  refine wpAny_bind (wpAny_lookBehind D' (pastItsLine_dict (by rw [sizeLine_eq]; simp)) ?_)
  exact wpAny_pure (h _ _ _ U1 U2)
end Mine
end
section
open PySem PySem.W PySem.Calls PyProof.Rows
set_option maxRecDepth 100000
set_option maxHeartbeats 8000000
namespace Mine
section
open PySem.W.X
local macro_rules | `(tactic| x_close) => `(tactic| (refine Ret.end (by assumption) (Mem.start _) ?_; exact rfl))
theorem ga_factory {w : World} {s : Shared} {E : Value → Shared → Prop} {Q : Value → Shared → Prop} (X : (Mine.K w.params).In s.heap) {b db : Addr} {es : Array DictEntry} {ep : Nat} {t : Tok} (hb : s.heap.get? b = some (Obj.mk (.ref 136) (some db) (.dict es ep) #[some (.ref 241)]))
   (R : Ret s Q fun v _ => v = .ref 241) :
   wpAny (model PySem.Challenge.rw_in0004_01.row.prog w) AX (call (.builtin "collections.defaultdict.__getattribute__") [.ref b, .str (PySem.Str.ofString "default_factory") t]) Q E s := by
  x_run
end
theorem slot_dga : Slot "collections.defaultdict" "__getattribute__" "collections.defaultdict.__getattribute__" := .of (owner := "collections.defaultdict") (n := "__getattribute__") (by rw [typeLookup_type, builtinLookup_eq_fast]; kernel_rfl) (by decide +kernel) (by decide +kernel) (by decide +kernel)
    (by first | exact .inl (by decide +kernel) | exact .inr (by decide +kernel)) (by rw [isSubtype_type]; kernel_rfl)
theorem factory_attr {w : World} {A : Around} {E : Value → Shared → Prop} {s : Shared} {h₀ : Heap} {L b db : Addr} {m : PySem.Str → Option Value} {news : List (Addr × Obj)} {es : Array DictEntry} {ep : Nat} {od : Obj} {ex : Bool} {Q : Value → Shared → Prop}
    (F : Fr h₀ L s.heap m) (X₀ : (Mine.K w.params).In h₀) (N : News h₀ L s.heap news) (hb : (b, bookO db es ep) ∈ news) (hdb : (db, od) ∈ news)
    (hh : A.handled = none) (hd : A.depth ≤ 980) (hu : A.units ≤ 9700)
    (h : ∀ h' tk', Fr h₀ L h' m → News h₀ L h' news → Q (.ref 241) { s with heap := h', toks := tk' }) :
    wpAny (model PySem.Challenge.rw_in0004_01.row.prog w) A (getAttr (.ref b) (PySem.Str.ofString "default_factory") ex) Q E s := by
  revert X₀; (k_fill; w_top off); intro X₀
  have X := X₀.keeps F.keep
  have I := inst_book N hb hdb
  have hga : findIn (Mine.K w.params) (.ref 136) "__getattribute__" = some (some (.builtin "collections.defaultdict.__getattribute__")) := by k_is
  have hk : findIn (Mine.K w.params) (.ref 136) "__getattr__" = some none := by k_is
  have hb' := N.get hb
  unfold getAttr getAttrBy
  refine wpAny_bind (wpAny_mkText (wpAny_holding (wpAny_bind ((I.type).here (s := { s with toks := s.toks + 1 }) (wpAny_bind ((looks_findIn X hga).here (s := { s with toks := s.toks + 1 }) ?_))))))
  show wpAny _ _ (getAttrByItsOwn (.ref b) (.str _ s.toks) (.ref 136) (.builtin "collections.defaultdict.__getattribute__") _ _) _ _ _
  unfold getAttrByItsOwn hookBefore callGetattribute boundAndCalled
  rw [if_pos (by rfl)]
  refine wpAny_bind ((looks_findIn X hk).here (s := { s with toks := s.toks + 1 }) ?_)
  have hoth : (ex && onTheHeap (.builtin "collections.defaultdict.__getattribute__")) = false := by cases ex <;> rfl
  refine wpAny_bind (wpAny_attempt (wpAny_holding ?_))
  rw [if_neg (by rw [hoth]; exact Bool.false_ne_true)]
  show wpAny _ _ (bindSpecial (.builtin "collections.defaultdict.__getattribute__") (.ref b) >>= _) _ _ _
  refine wpAny_bind (wpAny_of_eq (slot_dga.bind _) ?_)
  refine of_AX (ga_factory (s := { s with toks := s.toks + 1 }) X hb' ⟨?_⟩) hh hd hu
  rintro v h' tk' rfl keep
  exact wpAny_of_eq (handedOut_of rfl) (h h' tk' (F.keeps keep) (N.grown keep))
theorem factory_method {w : World} {A : Around} {E : Value → Shared → Prop} {s : Shared} {h₀ : Heap} {L b db : Addr} {m : PySem.Str → Option Value} {news : List (Addr × Obj)} {es : Array DictEntry} {ep : Nat} {od : Obj} {pl : Sem Bool} {Q : Value × List Value → Shared → Prop}
    (F : Fr h₀ L s.heap m) (X₀ : (Mine.K w.params).In h₀) (N : News h₀ L s.heap news) (hb : (b, bookO db es ep) ∈ news) (hdb : (db, od) ∈ news)
    (hh : A.handled = none) (hd : A.depth ≤ 980) (hu : A.units ≤ 9700)
    (h : ∀ h' tk', Fr h₀ L h' m → News h₀ L h' news → Q (.ref 241, []) { s with heap := h', toks := tk' }) :
    wpAny (model PySem.Challenge.rw_in0004_01.row.prog w) A (getMethod (.ref b) (PySem.Str.ofString "default_factory") pl) Q E s := by
  have hmain := factory_attr (w := w) (A := A) (E := E) (s := s) (ex := false) (Q := fun v s' => Q (v, []) s') F X₀ N hb hdb hh hd hu h
  revert X₀; (k_fill; w_top off); intro X₀
  have X := X₀.keeps F.keep
  have I := inst_book N hb hdb
  have hga : findIn (Mine.K w.params) (.ref 136) "__getattribute__" = some (some (.builtin "collections.defaultdict.__getattribute__")) := by k_is
  have hk : findIn (Mine.K w.params) (.ref 136) "__getattr__" = some none := by k_is
  have hf : findIn (Mine.K w.params) (.ref 136) (PySem.Str.ofString "default_factory") = some (some (.builtin "collections.defaultdict.default_factory")) := by k_is
  have hty : typeOf (.builtin "collections.defaultdict.default_factory") = pure (.type "member_descriptor") := by show builtinType _ = _; rw [builtinType_eq_fast]; kernel_rfl
  unfold getMethod
  refine wpAny_bind (wpAny_bind (I.type.here ((looks_findIn X hga).here ?_)))
  dsimp only
  rw [if_neg (by decide +kernel)]
  refine wpAny_bind (wpAny_bind (I.type.here ((looks_findIn X hk).here ?_)))
  rw [if_neg (by decide)]
  refine wpAny_bind (wpAny_bind (I.type.here ((looks_findIn X hf).here ?_)))
  dsimp only
  refine wpAny_bind (wpAny_of_eq hty ?_)
  rw [if_pos (by decide)]
  exact wpAny_bind (wpAny_mono hmain (fun v s' z => wpAny_pure z) fun _ _ z => z)
end Mine
end
section
open PySem PySem.W PyProof.Rows
set_option maxRecDepth 100000
set_option maxHeartbeats 8000000
set_option linter.unusedSimpArgs false
set_option linter.unusedVariables false
namespace Mine
local macro_rules | `(tactic| walk_at "none 0") => `(tactic| fail)
local macro_rules | `(tactic| walk_at "none 1") => `(tactic| fail)
/-- what the frozen lambda does, wherever its objects stand -/
noncomputable def LamOk (w : World) (lam b : Addr) (objs : List (Addr × Obj)) : Prop := ∀ (news : List (Addr × Obj)) (db : Addr) (es : Array DictEntry) (ep : Nat) (od : Obj) (key : Value), (∀ p ∈ objs, p ∈ news) → (b, bookO db es ep) ∈ news → (db, od) ∈ news →
  CtrN 40 w lam [key] news (fun nw v => (∃ D, An3 (v = .ref D) (nw = (D, listOf #[] 0) :: news) (∀ p ∈ news, p.1 ≠ D)))
local macro_rules | `(tactic| walk_at "setAttr ref") => `(tactic| (refine hold ?_))
theorem freeze_ok {w : World} {rest : List (Addr × Obj)} {b db : Addr} {es : Array DictEntry} {ep : Nat} (h128 : ∀ p ∈ rest, p.1 ≠ 128) (hbr : ∀ p ∈ rest, p.1 ≠ b) (hb128 : b ≠ 128) (hd128 : db ≠ 128) (hbdb : b ≠ db) (hdr : ∀ p ∈ rest, p.1 ≠ db) :
   CtrN 60 w 133 [.ref b] ((b, bookO db es ep) :: (db, dictOf [] 0) :: (128, tabObj #[]) :: rest) fun nw v => (Ex9 fun lam c' cc hsh tk lo oc oC ps => An7 (nw = (lam, lo) :: (c', oc) :: (cc, oC) :: (b, bookO db es ep) :: (db, dictOf [⟨hsh, .str (PySem.Str.ofString "_frozen") tk, .ref lam⟩] 1) :: (128, tabObj ps) :: rest) (LamOk w lam b [(lam, lo), (c', oc), (cc, oC)]) ((∃ fd, lo.data = .func fd)) ((∃ v, oC.data = .cell v)) ((∀ p ∈ (b, bookO db es ep) :: (db, dictOf [⟨hsh, .str (PySem.Str.ofString "_frozen") tk, .ref lam⟩] 1) :: (128, tabObj ps) :: rest, p.1 < cc)) (cc < c') (c' < lam)) := by
  unfold CtrN
  (k_fill; w_top off)
  intro dp un gd cn cs' cA ccd cl outer A₀ base h₀ L m p loose mean mg mb s Q E B F X N T hk9 hdp hun hret
  k_dflt (refine' code_defC ?k1 ?k2 ?k3 ?k4 ?k5 ?kA ?kF ?kK ?k6 ?k7 ?k8 ?k9 ?kB ?kD ?_ ?c2 ?c3 ?c4; (case kA => exact rfl); (case kF => exact rfl); (case kK => assumption); (case k1 => k_asm); (case k2 => k_asm); (case k3 => k_asm); (case k4 => k_asm); (case k5 => k_asm); (case k6 => k_is); (case k7 => k_is); (case k8 => ktr_room); (case k9 => exact BindsTo.of_eq rfl); (case kB => exact rfl); (case kD => decide +kernel); (case c2 => exact rfl); (case c3 => exact rfl); (case c4 => exact rfl); k_whole; intro g' L' h' tk' cells' FG' F' N' Y' B' X' T' l1; (try k_lt l1); k_cells Y'; (try simp only [List.cons_append, List.nil_append] at N'); (try dsimp only); (try k_fold))
  have codeHd : CodeHd g' 132 128 := codeHd_of_K X' (by kernel_rfl)
  rename (_ = Data.cell _) => dc
  replace dc : _ = Data.cell (some (Value.ref b)) := dc
  k_steps
  rename Fr _ _ _ _ => F2
  rename News _ _ _ _ => N2
  k_dflt (refine' kla_eval ?d0 ?_; (case d0 => exact rfl))
  k_dflt (refine' kla_nest F2 N2 ?T codeHd ?cd ?U ?t ?n ?cl ?_; (case T => k_asm); (case cd => exact rfl); (case U => exact UpdF.tail (Nat.ne_of_gt (Nat.lt_succ_of_lt l1.2.2.1)) (UpdF.tail hb128 (UpdF.tail hd128 (UpdF.head h128)))); (case t => kn_triples); (case n => kn_among); (case cl => exact rfl))
  intro lam c' oc' vs' t' ct' h3 tk3 F3 N3 d1' d2' l2 l3
  try dsimp only at N3
  generalize hlo : kla_obj _ _ _ _ _ _ _ _ _ = lo at N3
  rename_i oC
  have lamOk : LamOk w lam b [(lam, lo), (c', oc'), (L' + 1, oC)] := by
    clear N3 F3 N2 F2 hret
    subst hlo
    intro news db es ep od key hsub hb9 hdb9
    have m1 := hsub _ (List.mem_cons_self ..)
    have m2 := hsub _ (List.mem_cons_of_mem _ (List.mem_cons_self ..))
    have m3 := hsub _ (List.mem_cons_of_mem _ (List.mem_cons_of_mem _ (List.mem_cons_self ..)))
    unfold CtrN
    intro dp un gd cn cs' cA ccd cl outer A₀ base h₀ L m p loose mean mg mb s Q E B F X N T hk9 hdp hun hret
    k_dflt (refine' kla_code ?k1 ?k2 ?k3 ?k4 ?k5 ?kA ?kF ?kK ?k6 ?k7 ?k8 ?k9 ?kB ?_ ?c2 ?c3 ?c4 ?c5; (case kA => exact rfl); (case kF => exact rfl); (case kK => assumption); (case k1 => exact B); (case k2 => exact F); (case k3 => exact X); (case k4 => exact N); (case k5 => exact T); (case k6 => exact m1); (case k7 => exact codeRec_news N m2 d1' d2'); (case k8 => ktr_room); (case k9 => exact rfl); (case c5 => decide); (case kB => exact locs rfl); (case c2 => exact rfl); (case c3 => exact rfl); (case c4 => exact rfl); k_whole; intro g' L' h' FG' F' N' B' X' T'; (try dsimp only); (try k_fold))
    k_steps
    rename Fr _ _ _ _ => F5
    rename News _ _ _ _ => N5
    have hlim : recursionLimit = 1000 := rfl
    have hcl := cLine_is
    refine factory_method F5 X' N5 hb9 hdb9 (by rfl) ?_ ?_ ?_
    · show dp + 1 ≤ 980
      omega
    · simp only [units_under_make, units_in1, units_deeper, Around.mark_units, units_caller]
      (try dsimp only [ktrTop])
      omega
    intro h6 tk6 F6 N6
    k_steps
    show wpAny _ _ (call (.ref 241) []) _ _ _
    refine wpAny_call ?_
    k_dflt (refine' code_def ?k1 ?k2 ?k3 ?k4 ?k5 ?kA ?kF ?kK ?k6 ?k7 ?k8 ?k9 ?kB ?_ ?c2 ?c3 ?c4 ?c5; (case kA => exact rfl); (case kF => exact rfl); (case kK => exact rfl); (case k1 => k_asm); (case k2 => k_asm); (case k3 => k_asm); (case k4 => k_asm); (case k5 => k_asm); (case k6 => k_is); (case k7 => k_is); (case k8 => ktr_room); (case k9 => exact BindsTo.of_eq rfl); (case c5 => decide); (case kB => exact locs rfl); (case c2 => exact rfl); (case c3 => exact rfl); (case c4 => exact rfl); k_whole; intro g' L' h' FG' F' N' B' X' T'; (try dsimp only); (try k_fold))
    k_steps
    rename Fr h₀ _ _ _ => kF
    rename News h₀ _ _ _ => kN
    rename (∀ p ∈ news, p.1 < _) => lt1
    exact hret _ _ _ _ kF kN ⟨_, rfl, rfl, fun p hp => Nat.ne_of_lt (lt1 p hp)⟩
  k_steps
  refine Hold.mk ?_
  rename Fr _ _ _ _ => F4
  rename News _ _ _ _ => N4
  refine set_frozen (pre := [_, _, _, _]) (post := _ :: rest) F4 X' N4 (by k_mem) ?_ ?_ ?_
  · intro p hp
    simp only [List.mem_cons, List.not_mem_nil, or_false] at hp
    rcases hp with h | h | h | h
    · rw [h]; exact Nat.ne_of_gt (Nat.lt_trans (l2 (db, _) (by k_mem)) l3)
    · rw [h]; exact Nat.ne_of_gt (l2 (db, _) (by k_mem))
    · rw [h]; exact Nat.ne_of_gt (Nat.lt_succ_of_lt l1.2.1)
    · rw [h]; exact hbdb
  · intro p hp
    rcases List.mem_cons.mp hp with h | hp
    · rw [h]; exact hd128.symm
    · exact hdr p hp
  intro h5 hsh tk5 F5 N5
  simp only [List.cons_append, List.nil_append] at N5
  k_steps
  rename Fr h₀ _ _ _ => kF
  rename News h₀ _ _ _ => kN
  refine hret _ _ _ _ kF kN ⟨lam, c', L' + 1, hsh, tk5, lo, oc', oC, _, rfl, lamOk, ⟨_, by rw [← hlo]⟩, ⟨_, dc⟩, ?_, ?_, l3⟩
  · intro p hp
    have hl1 : ∀ q ∈ (b, bookO db es ep) :: (db, dictOf [] 0) :: (128, tabObj #[]) :: rest, q.1 < L' := fun q hq => allLt_get (r := (b, bookO db es ep) :: (db, dictOf [] 0) :: (128, tabObj #[]) :: rest) l1 hq
    rcases List.mem_cons.mp hp with h | hp
    · rw [h]; exact Nat.lt_succ_of_lt l1.1
    rcases List.mem_cons.mp hp with h | hp
    · rw [h]; exact Nat.lt_succ_of_lt l1.2.1
    rcases List.mem_cons.mp hp with h | hp
    · rw [h]; exact Nat.lt_succ_of_lt l1.2.2.1
    · exact Nat.lt_succ_of_lt (allLt_get l1.2.2.2 hp)
  · exact l2 (L' + 1, oC) (by k_mem)
end Mine
end
section
open PySem PySem.W PyProof.Rows
set_option maxRecDepth 100000
set_option maxHeartbeats 8000000
set_option linter.unusedSimpArgs false
set_option linter.unusedVariables false
namespace Mine
local macro_rules | `(tactic| walk_at "none 0") => `(tactic| fail)
local macro_rules | `(tactic| walk_at "none 1") => `(tactic| fail)
local macro_rules | `(tactic| walk_at "none 2") => `(tactic| fail)
local macro_rules | `(tactic| walk_at "none 3") => `(tactic| fail)
local macro_rules | `(tactic| walk_at "none 4") => `(tactic| fail)
local macro_rules | `(tactic| walk_at "none 5") => `(tactic| fail)
local macro_rules | `(tactic| walk_at "wpAt") => `(tactic| (refine hold ?_))
theorem missing_frozen {w : World} {news objs : List (Addr × Obj)} {b db lam : Addr} {es : Array DictEntry} {ep n : Nat} {hsh : Int} {tk t : Tok} {x : PySem.Str} {lo : Obj} {fd : FuncData} (hb : (b, bookO db es ep) ∈ news) (hdb : (db, dictOf [⟨hsh, .str (PySem.Str.ofString "_frozen") tk, .ref lam⟩] n) ∈ news)
   (ho : ∀ p ∈ objs, p ∈ news) (hl : LamOk w lam b objs) (hlo : (lam, lo) ∈ news) (hfd : lo.data = .func fd) :
   CtrN 100 w 126 [.ref b, .str x t] news fun nw v => (∃ D, An3 (v = .ref D) (nw = (D, listOf #[] 0) :: news) (∀ p ∈ news, p.1 ≠ D)) := by
  unfold CtrN
  (k_fill; w_top off)
  intro dp un gd cn cs' cA ccd cl outer A₀ base h₀ L m p loose mean mg mb s Q E B F X N T hk9 hdp hun hret
  have hlim : recursionLimit = 1000 := rfl
  have hcl := cLine_is
  k_dflt (refine' ks_code_super ?k1 ?k2 ?k3 ?k4 ?k5 ?kA ?kF ?kK ?k6 ?k7 ?k8 ?k9 ?kB ?_ ?c1 ?c2 ?c3 ?c4; (case kA => exact rfl); (case kF => exact rfl); (case kK => assumption); (case k1 => k_asm); (case k2 => k_asm); (case k3 => k_asm); (case k4 => k_asm); (case k5 => k_asm); (case k6 => k_is); (case k7 => k_is); (case k8 => ktr_room); (case k9 => exact BindsTo.of_eq rfl); (case kB => exact locs rfl); (case c1 => decide); (case c2 => exact rfl); (case c3 => exact rfl); (case c4 => exact rfl); intro g' L' h' FG' F' N' B' X' T' l1; (try dsimp only))
  refine ks_wpAt_execs_cons (ks_wpAt_Return_some ?_)
  refine at_callcall (at_callname ?_)
  k_steps
  refine Hold.mk ?_
  refine at_callWith_b (at_spliced_star (at_any ?_))
  k_steps
  refine Hold.mk ?_
  refine at_spliced_star (at_any ?_)
  k_steps
  refine Hold.mk ?_
  refine at_spliced_star (at_attr ?_)
  k_dflt (refine ks_node (by k_asm) (by k_asm) (by k_asm) (by k_asm) (by k_is) (by rfl) (by rfl) (inst_book (by k_asm) hb hdb) (by k_is) (by rfl) (by first | rfl | decide +kernel) (by k_is) (by k_is) (by k_is) (by k_is) (by decide) (by rfl) (by rfl) (by rfl) (by rfl) (by decide +kernel) (by first | boot_by_name | rfl | kernel_rfl) ?_; intro so' h' F' N' l1; (try k_lt l1))
  rename Fr _ _ _ _ => F2
  rename News _ _ _ _ => N2
  refine super_missing X' F2 N2 (List.mem_cons_self ..) (List.mem_cons_of_mem _ hb) (List.mem_cons_of_mem _ hdb) (by rfl) ?_ ?_ ?_
  · show dp + 1 ≤ 980
    omega
  · simp only [units_under_make, units_in1, units_deeper, Around.mark_units, units_caller]
    (try dsimp only [ktrTop])
    omega
  intro q h2 tk2 F3 N3 off
  refine at_spliced_nil ?_
  have hb3 := N3.get (List.mem_cons_of_mem _ (List.mem_cons_of_mem _ hb))
  have hdb3 := N3.get (List.mem_cons_of_mem _ (List.mem_cons_of_mem _ hdb))
  refine of_AX (getattr_frozen (X'.keeps F3.keep) hb3 hdb3 ⟨?_⟩) (by rfl) ?_ ?_
  rotate_left
  · show dp + 1 ≤ 980
    omega
  · simp only [units_under_make, units_in1, units_deeper, Around.mark_units, units_caller]
    (try dsimp only [ktrTop])
    omega
  rintro v h3 tk3 rfl keep3
  replace F3 := F3.keeps keep3
  replace N3 := N3.grown keep3
  clear hb3 hdb3 F2 N2 F' N'
  refine callWith_fn (o := lo) (fd := fd) ?_
  k_steps
  rename Fr _ _ _ _ => F4
  rename News _ _ _ _ => N4
  have sub4 : ∀ p ∈ news, p ∈ (q, bmO b) :: (so', ks_superObj 136 b 136) :: news := fun p hp => List.mem_cons_of_mem _ (List.mem_cons_of_mem _ hp)
  refine ⟨⟨N4.get (sub4 _ hlo), hfd⟩, wpAny_call ?_⟩
  k_dflt (refine' CtrN.code (hl _ db es ep _ _ (fun p hp => sub4 p (ho p hp)) (sub4 _ hb) (sub4 _ hdb)) ?B F4 ?X N4 ?T ?K ?d ?u ?_; (case B => k_asm); (case X => k_asm); (case T => k_asm); (case K => exact rfl); (case d => ktr_room); (case u => ktr_units))
  intro v nw h5 tk5 F5 N5 hv
  obtain ⟨D, rfl, rfl, hD⟩ := hv
  k_steps
  rename Fr h₀ _ _ _ => kF
  rename News h₀ _ _ _ => kN
  refine hret _ _ _ _ kF (fun p hp => kN p ?_) ⟨D, rfl, rfl, fun p hp => hD p (sub4 p hp)⟩
  rcases List.mem_cons.mp hp with h | hp
  · rw [h]; exact List.mem_cons_self ..
  · exact List.mem_cons_of_mem _ (sub4 p hp)
end Mine
end
section
open PySem PySem.W PySem.Calls PyProof.Rows
set_option maxRecDepth 100000
set_option maxHeartbeats 8000000
namespace Mine
theorem inst_pair {h₀ h : Heap} {L r dd : Addr} {a c : Value} {od : Obj} {news : List (Addr × Obj)} (N : News h₀ L h news) (h1 : (r, pairO dd a c) ∈ news) (h2 : (dd, od) ∈ news) : InstAt h r (pairO dd a c) 231 (some od) := ⟨(N _ h1).1, rfl, rfl, (N _ h2).1⟩
theorem slot_tga' : Slot "tuple" "__getattribute__" "tuple.__getattribute__" := .of (owner := "tuple") (n := "__getattribute__") (by rw [typeLookup_type, builtinLookup_eq_fast]; kernel_rfl) (by decide +kernel) (by decide +kernel) (by decide +kernel)
    (by first | exact .inl (by decide +kernel) | exact .inr (by decide +kernel)) (by rw [isSubtype_type]; kernel_rfl)
theorem entry_tga' : entryFor table "tuple.__getattribute__" = some Builtin.«object.__getattribute__» := entryFor_alias (id' := "object.__getattribute__") (by kernel_rfl) (by first | rfl | decide +kernel) (by decide +kernel) (by kernel_rfl)
theorem kind_tga : builtinKind "tuple.__getattribute__" = some .slot := by decide +kernel
theorem pair_get {w : World} {A : Around} {E : Value → Shared → Prop} {s : Shared} {r dd tg g : Addr} {name : PySem.Str} {v0 v1 : Value} {od : Obj} {ex : Bool} {Q : Value → Shared → Prop}
    (X : (Mine.K w.params).In s.heap) (I : InstAt s.heap r (pairO dd v0 v1) 231 (some od))
    (hf : findObj (Mine.K w.params) 231 (some od) name = some (.bind (.ref g) (.ref tg)))
    (h : wpAny (model PySem.Challenge.rw_in0004_01.row.prog w) A.in1 (call (.ref g) [.ref tg, .ref r, .ref 231]) (fun v s' => handedIn v = true ∧ Q v s') (fun _ _ => False) { s with toks := s.toks + 1 }) :
    wpAny (model PySem.Challenge.rw_in0004_01.row.prog w) A (getAttr (.ref r) name ex) Q E s := by
  revert X; (k_fill; w_top off); intro X
  have hga : findIn (Mine.K w.params) (.ref 231) "__getattribute__" = some (some (.builtin "tuple.__getattribute__")) := by k_is
  have hk : findIn (Mine.K w.params) (.ref 231) "__getattr__" = some none := by k_is
  have hm : mroIn (Mine.K w.params) 231 (.type "tuple") = some true := by k_is
  unfold getAttr getAttrBy
  refine wpAny_bind (wpAny_mkText (wpAny_holding (wpAny_bind ((I.type).here (s := { s with toks := s.toks + 1 }) (wpAny_bind ((looks_findIn X hga).here (s := { s with toks := s.toks + 1 }) ?_))))))
  show wpAny _ _ (getAttrByItsOwn (.ref r) (.str _ s.toks) (.ref 231) (.builtin "tuple.__getattribute__") _ _) _ _ _
  unfold getAttrByItsOwn hookBefore callGetattribute boundAndCalled
  rw [if_pos (by rfl)]
  refine wpAny_bind ((looks_findIn X hk).here (s := { s with toks := s.toks + 1 }) ?_)
  have hoth : (ex && onTheHeap (.builtin "tuple.__getattribute__")) = false := by cases ex <;> rfl
  refine wpAny_bind (wpAny_attempt (wpAny_holding ?_))
  rw [if_neg (by rw [hoth]; exact Bool.false_ne_true)]
  show wpAny _ _ (bindSpecial (.builtin "tuple.__getattribute__") (.ref r) >>= _) _ _ _
  refine wpAny_bind (wpAny_of_eq (slot_tga'.bind _) ?_)
  refine wpAny_mono (Q := fun v s' => handedIn v = true ∧ Q v s') (E := fun _ _ => False) ?_ (fun v s' hv => wpAny_of_eq (handedOut_of hv.1) hv.2) fun _ _ z => z.elim
  refine wpAny_call ?_
  have I' : InstAt ({ s with toks := s.toks + 1 } : Shared).heap r (pairO dd v0 v1) 231 (some od) := I
  have sub : Looks (model PySem.Challenge.rw_in0004_01.row.prog w) s.heap (isInstance (.ref r) (.type "tuple")) true := I.type.andThen (looks_mroIn X hm)
  refine codeAny_call_builtin slot_tga'.plain entry_tga' (@check_slot (model PySem.Challenge.rw_in0004_01.row.prog w) _ _ { s with toks := s.toks + 1 } "tuple.__getattribute__" "tuple" "__getattribute__" (.ref r) [.str name s.toks] [] _ kind_tga (by decide +kernel) sub (by unfold argsOk; kernel_rfl) ?_)
  unfold Builtin.«object.__getattribute__»
  refine wpAny_bind (wpAny_pure (wpAny_bind (wpAny_pure (wpAny_bind (I'.type.here (wpAny_bind (Looks.here (s := { s with toks := s.toks + 1 }) (looks_find X I hf) ?_)))))))
  show wpAny _ _ (holding [.ref tg] (call (.ref g) [.ref tg, .ref r, .ref 231]) >>= ret) _ _ _
  exact wpAny_bind (wpAny_holding (wpAny_mono h (fun v s' z => wpAny_pure z) fun _ _ z => z.elim))
end Mine
end
section
open PySem PySem.W PySem.W.X PyProof.Rows
set_option linter.unusedVariables false
set_option maxRecDepth 100000
set_option maxHeartbeats 8000000
namespace Mine
local macro_rules | `(tactic| x_close) => `(tactic| (refine Ret.end (by assumption) (Mem.start _) ?_; exact rfl))
theorem type_pair {w : World} {s : Shared} {E : Value → Shared → Prop} {Q : Value → Shared → Prop} (X : (Mine.K w.params).In s.heap) {r dd : Addr} {a c : PySem.Str} {ta tc : Tok} (hb : s.heap.get? r = some (Obj.mk (.ref 231) (some dd) (.seq #[.str a ta, .str c tc]) #[]))
   (R : Ret s Q fun v _ => v = .ref 231) :
   wpAny (model PySem.Challenge.rw_in0004_01.row.prog w) AX (call (.type "type") [.ref r]) Q E s := by
  x_run
theorem issub_pair {w : World} {s : Shared} {E : Value → Shared → Prop} {Q : Value → Shared → Prop} (X : (Mine.K w.params).In s.heap) 
   (R : Ret s Q fun v _ => v = .bool true) :
   wpAny (model PySem.Challenge.rw_in0004_01.row.prog w) AX (call (.builtin "issubclass") [.ref 231, .type "tuple"]) Q E s := by
  x_run
theorem kind_tgi : builtinKind "tuple.__getitem__" = some .slot := by decide +kernel
theorem item_pair {w : World} {A : Around} {s : Shared} {E : Value → Shared → Prop} {Q : Value → Shared → Prop} (X : (Mine.K w.params).In s.heap) {r dd : Addr} {v0 v1 y : Value} {u : Tok} {i : Int} {od : Obj} (I : InstAt s.heap r (pairO dd v0 v1) 231 (some od))
   (hlo : -2 ^ 63 ≤ i) (hhi : i < 2 ^ 63) {k : Nat} (hk : seqIndex? i 2 = some k) (hy : #[v0, v1][k]? = some y) (h : Q y s) :
   wpAny (model PySem.Challenge.rw_in0004_01.row.prog w) A (call (.builtin "tuple.__getitem__") [.ref r, .int i u]) Q E s := by
  revert X; (k_fill; w_top off); intro X
  have hm : mroIn (Mine.K w.params) 231 (.type "tuple") = some true := by k_is
  have sub : Looks (model PySem.Challenge.rw_in0004_01.row.prog w) s.heap (isInstance (.ref r) (.type "tuple")) true := I.type.andThen (looks_mroIn X hm)
  refine wpAny_call (codeAny_call_builtin F.slot_tuple_getitem.plain F.entry_tuple_getitem (@check_slot (model PySem.Challenge.rw_in0004_01.row.prog w) _ _ s "tuple.__getitem__" "tuple" "__getitem__" (.ref r) [.int i u] [] _ kind_tgi (by decide +kernel) sub (F.args_tuple_getitem_2 _ _) ?_))
  have hl := I.at_
  obtain ⟨hp, g, d, tk, os⟩ := s
  have f1 := AutoSeq1.idx_int
  have hf : ¬ (decide (i < -2 ^ 63) || decide (i ≥ 2 ^ 63)) = true := by simp; omega
  unfold Builtin.«tuple.__getitem__»
  wp_walk using wpAny_loadPart' hl
  rw [if_neg hf]
  show wpAny _ _ (match (seqIndex? i 2).bind fun x => #[v0, v1][x]? with | some x => ret x | none => _) _ _ _
  rw [hk, Option.bind_some, hy]
  exact wpAny_pure h
end Mine
end
section
open PySem PySem.W PySem.Calls PyProof.Rows
set_option maxRecDepth 100000
set_option maxHeartbeats 8000000
set_option linter.unusedSimpArgs false
set_option linter.unusedVariables false
namespace Mine
local macro_rules | `(tactic| walk_at "none 0") => `(tactic| fail)
local macro_rules | `(tactic| walk_at "none 1") => `(tactic| fail)
local macro_rules | `(tactic| walk_at "none 2") => `(tactic| fail)
local macro_rules | `(tactic| walk_at "none 3") => `(tactic| fail)
local macro_rules | `(tactic| walk_at "call type:type") => `(tactic| (k_here; refine hold ?_))
local macro_rules | `(tactic| walk_at "call builtin:issubclass") => `(tactic| (k_here; refine hold ?_))
local macro_rules | `(tactic| walk_at "call builtin:tuple.__getitem__") => `(tactic| (k_here; refine hold ?_))
local macro_rules | `(tactic| walk_at "getMethod") => `(tactic| (k_here; k_dflt (refine' method_type ?k1 ?k2 ?k3 ?k4 ?k5 ?k6 ?_; (case k1 => k_asm); (case k2 => k_asm); (case k3 => exact kitMeta_of (by decide +kernel)); (case k4 => decide +kernel); (case k5 => k_is); (case k6 => k_handed); k_whole)))
theorem get_name {w : World} {news : List (Addr × Obj)} {r dd tg : Addr} {a c : PySem.Str} {ta tc : Tok} (hr : (r, pairO dd (.str a ta) (.str c tc)) ∈ news) (hdd : (dd, noDict) ∈ news) (htg : tg = 200) :
   CtrC 40 w 89 [.ref tg, .ref r, .ref 231] news fun nw v => v = .str a ta := by
  subst htg
  unfold CtrC
  (k_fill; w_top off)
  intro dp un gd cn cs' cA ccd cl outer A₀ base h₀ L m p loose mean mg mb s Q E B F X N T hk9 hdp hun hret
  k_dflt (refine' code_def ?k1 ?k2 ?k3 ?k4 ?k5 ?kA ?kF ?kK ?k6 ?k7 ?k8 ?k9 ?kB ?_ ?c2 ?c3 ?c4 ?c5; (case kA => exact rfl); (case kF => exact rfl); (case kK => assumption); (case k1 => k_asm); (case k2 => k_asm); (case k3 => k_asm); (case k4 => k_asm); (case k5 => k_asm); (case k6 => k_is); (case k7 => k_is); (case k8 => ktr_room); (case k9 => first | exact BindsTo.of_eq rfl | exact binds_K (by k_in) rfl (by k_is) rfl rfl rfl); (case c5 => decide); (case kB => exact locs rfl); (case c2 => exact rfl); (case c3 => exact rfl); (case c4 => exact rfl); k_whole; intro g' L' h' FG' F' N' B' X' T'; (try dsimp only); (try k_fold))
  have hlim : recursionLimit = 1000 := rfl
  have hcl := cLine_is
  k_steps
  refine Hold.mk ?_
  rename Fr _ _ _ _ => F2
  rename News _ _ _ _ => N2
  refine of_AX (type_pair (X'.keeps F2.keep) (N2.get hr) ⟨?_⟩) (by rfl) ?_ ?_
  rotate_left
  · show dp + 1 ≤ 980
    omega
  · simp only [units_under_make, units_in1, units_deeper, Around.mark_units, units_caller]
    (try dsimp only [ktrTop])
    omega
  rintro v h2 tk2 rfl keep2
  replace F2 := F2.keeps keep2
  replace N2 := N2.grown keep2
  k_steps
  refine Hold.mk ?_
  rename Fr _ _ _ _ => F3
  rename News _ _ _ _ => N3
  refine of_AX (issub_pair (X'.keeps F3.keep) ⟨?_⟩) (by rfl) ?_ ?_
  rotate_left
  · show dp + 1 ≤ 980
    omega
  · simp only [units_under_make, units_in1, units_deeper, Around.mark_units, units_caller]
    (try dsimp only [ktrTop])
    omega
  rintro v h3 tk3 rfl keep3
  replace F3 := F3.keeps keep3
  replace N3 := N3.grown keep3
  k_steps
  refine Hold.mk ?_
  rename Fr _ _ _ _ => F4
  rename News _ _ _ _ => N4
  refine item_pair (X'.keeps F4.keep) (inst_pair N4 hr hdd) (by decide) (by decide) (k := 0) (by decide) (by rfl) ?_
  k_steps
  rename Fr h₀ _ _ _ => kF
  rename News h₀ _ _ _ => kN
  exact hret _ [] _ _ kF kN (fun _ _ _ h => nomatch h) rfl
theorem get_value {w : World} {news : List (Addr × Obj)} {r dd tg : Addr} {a c : PySem.Str} {ta tc : Tok} (hr : (r, pairO dd (.str a ta) (.str c tc)) ∈ news) (hdd : (dd, noDict) ∈ news) (htg : tg = 203) :
   CtrC 40 w 89 [.ref tg, .ref r, .ref 231] news fun nw v => v = .str c tc := by
  subst htg
  unfold CtrC
  (k_fill; w_top off)
  intro dp un gd cn cs' cA ccd cl outer A₀ base h₀ L m p loose mean mg mb s Q E B F X N T hk9 hdp hun hret
  k_dflt (refine' code_def ?k1 ?k2 ?k3 ?k4 ?k5 ?kA ?kF ?kK ?k6 ?k7 ?k8 ?k9 ?kB ?_ ?c2 ?c3 ?c4 ?c5; (case kA => exact rfl); (case kF => exact rfl); (case kK => assumption); (case k1 => k_asm); (case k2 => k_asm); (case k3 => k_asm); (case k4 => k_asm); (case k5 => k_asm); (case k6 => k_is); (case k7 => k_is); (case k8 => ktr_room); (case k9 => first | exact BindsTo.of_eq rfl | exact binds_K (by k_in) rfl (by k_is) rfl rfl rfl); (case c5 => decide); (case kB => exact locs rfl); (case c2 => exact rfl); (case c3 => exact rfl); (case c4 => exact rfl); k_whole; intro g' L' h' FG' F' N' B' X' T'; (try dsimp only); (try k_fold))
  have hlim : recursionLimit = 1000 := rfl
  have hcl := cLine_is
  k_steps
  refine Hold.mk ?_
  rename Fr _ _ _ _ => F2
  rename News _ _ _ _ => N2
  refine of_AX (type_pair (X'.keeps F2.keep) (N2.get hr) ⟨?_⟩) (by rfl) ?_ ?_
  rotate_left
  · show dp + 1 ≤ 980
    omega
  · simp only [units_under_make, units_in1, units_deeper, Around.mark_units, units_caller]
    (try dsimp only [ktrTop])
    omega
  rintro v h2 tk2 rfl keep2
  replace F2 := F2.keeps keep2
  replace N2 := N2.grown keep2
  k_steps
  refine Hold.mk ?_
  rename Fr _ _ _ _ => F3
  rename News _ _ _ _ => N3
  refine of_AX (issub_pair (X'.keeps F3.keep) ⟨?_⟩) (by rfl) ?_ ?_
  rotate_left
  · show dp + 1 ≤ 980
    omega
  · simp only [units_under_make, units_in1, units_deeper, Around.mark_units, units_caller]
    (try dsimp only [ktrTop])
    omega
  rintro v h3 tk3 rfl keep3
  replace F3 := F3.keeps keep3
  replace N3 := N3.grown keep3
  k_steps
  refine Hold.mk ?_
  rename Fr _ _ _ _ => F4
  rename News _ _ _ _ => N4
  refine item_pair (X'.keeps F4.keep) (inst_pair N4 hr hdd) (by decide) (by decide) (k := 1) (by decide) (by rfl) ?_
  k_steps
  rename Fr h₀ _ _ _ => kF
  rename News h₀ _ _ _ => kN
  exact hret _ [] _ _ kF kN (fun _ _ _ h => nomatch h) rfl
theorem find_name (w : World) (od : Obj) : findObj (Mine.K w.params) 231 (some od) (PySem.Str.ofString "name") = some (.bind (.ref 89) (.ref 200)) :=
  findObj_data (by kernel_rfl) (by kernel_rfl) (by kernel_rfl) (by kernel_rfl)
theorem find_value (w : World) (od : Obj) : findObj (Mine.K w.params) 231 (some od) (PySem.Str.ofString "value") = some (.bind (.ref 89) (.ref 203)) :=
  findObj_data (by kernel_rfl) (by kernel_rfl) (by kernel_rfl) (by kernel_rfl)
end Mine
end
section
open PySem PySem.W PySem.Calls PyProof.Rows
set_option maxRecDepth 100000
set_option maxHeartbeats 8000000
set_option linter.unusedSimpArgs false
set_option linter.unusedVariables false
namespace Mine
theorem freeze_method {w : World} {A : Around} {E : Value → Shared → Prop} {s : Shared} {h₀ : Heap} {L b db : Addr} {m : PySem.Str → Option Value} {news : List (Addr × Obj)} {es : Array DictEntry} {ep : Nat} {pl : Sem Bool} {Q : Value × List Value → Shared → Prop}
    (F : Fr h₀ L s.heap m) (X₀ : (Mine.K w.params).In h₀) (N : News h₀ L s.heap news) (hb : (b, bookO db es ep) ∈ news) (hdb : (db, dictOf [] 0) ∈ news)
    (h : Q (.ref 133, [.ref b]) s) :
    wpAny (model PySem.Challenge.rw_in0004_01.row.prog w) A (getMethod (.ref b) (PySem.Str.ofString "freeze") pl) Q E s := by
  revert X₀; (k_fill; w_top off); intro X₀
  have X := X₀.keeps F.keep
  have I := inst_book N hb hdb
  have hga : findIn (Mine.K w.params) (.ref 136) "__getattribute__" = some (some (.builtin "collections.defaultdict.__getattribute__")) := by k_is
  have hk : findIn (Mine.K w.params) (.ref 136) "__getattr__" = some none := by k_is
  have hf : findIn (Mine.K w.params) (.ref 136) (PySem.Str.ofString "freeze") = some (some (.ref 133)) := by k_is
  have ht : typeIn (Mine.K w.params) (.ref 133) = some (.type "function") := by k_is
  unfold getMethod specialOf
  refine wpAny_bind (wpAny_bind (I.type.here ((looks_findIn X hga).here ?_)))
  dsimp only
  rw [if_neg (by decide +kernel)]
  refine wpAny_bind (wpAny_bind (I.type.here ((looks_findIn X hk).here ?_)))
  refine wpAny_bind (wpAny_bind (I.type.here ((looks_findIn X hf).here (wpAny_bind ((looks_typeIn X ht).here ?_)))))
  rw [if_neg (by decide +kernel)]
  refine wpAny_bind (wpAny_loadPart I.at_ ?_)
  refine wpAny_bind (wpAny_bind (wpAny_loadPart I.dict ?_))
  rw [nsLook_of (r := none) (by rfl)]
  refine wpAny_pure ?_
  exact wpAny_bind (wpAny_rule (wpAny_pure h))
section
open PySem.W.X
local macro_rules | `(tactic| x_close) => `(tactic| (refine Ret.end (by assumption) (by assumption) ?_; exact ⟨_, _, rfl, (Mem.at (by assumption) 0 _ _ rfl), (Mem.nw (by assumption) _ (List.Mem.head _)).2, (Mem.at (by assumption) 1 _ _ rfl), (Mem.nw (by assumption) _ (List.Mem.tail _ (List.Mem.head _))).2, Mem.ne (by assumption) 0 1 _ _ _ _ rfl rfl rfl⟩))
theorem book_new {w : World} {s : Shared} {E : Value → Shared → Prop} {Q : Value → Shared → Prop} (X : (Mine.K w.params).In s.heap)
   (R : Ret s Q fun v h' => (Ex2 fun b db => An6 (v = .ref b) (h'.get? b = some (bookO db #[] 0)) (s.heap.get? b = none) (h'.get? db = some (dictOf [] 0)) (s.heap.get? db = none) (b ≠ db))) :
   wpAny (model PySem.Challenge.rw_in0004_01.row.prog w) AX (call (.ref 136) [.ref 241]) Q E s := by
  x_run
end
theorem book_new_K {w : World} {A : Around} {s : Shared} {E : Value → Shared → Prop} {Q : Value → Shared → Prop} {h₀ : Heap} {L : Addr} {m : PySem.Str → Option Value} {news : List (Addr × Obj)} (X : (Mine.K w.params).In h₀) (F : Fr h₀ L s.heap m) (N : News h₀ L s.heap news)
   (hh : A.handled = none) (hd : A.depth ≤ 980) (hu : A.units ≤ 9700)
   (R : ∀ b db h' tk', Fr h₀ L h' m → News h₀ L h' ((b, bookO db #[] 0) :: (db, dictOf [] 0) :: news) → (∀ p ∈ news, p.1 ≠ b ∧ p.1 ≠ db) → b ≠ db → Q (.ref b) { s with heap := h', toks := tk' }) :
   wpAny (model PySem.Challenge.rw_in0004_01.row.prog w) A (call (.ref 136) [.ref 241]) Q E s := by
  refine of_AX (book_new (X.keeps F.keep) ⟨?_⟩) hh hd hu
  rintro v h' tk' ⟨b, db, rfl, hb, hb0, hdb, hdb0, hne⟩ keep
  obtain ⟨F1, N1, o1⟩ := fresh_news F N hdb hdb0 keep
  obtain ⟨F2, N2, o2⟩ := fresh_news F N hb hb0 keep
  refine R b db h' tk' F1 (fun p hp => ?_) (fun p hp => ⟨o2 p hp, o1 p hp⟩) hne
  rcases List.mem_cons.mp hp with h | hp
  · rw [h]; exact N2 _ (List.mem_cons_self ..)
  · exact N1 p hp
end Mine
end
section
open PySem PySem.W PySem.Calls PySem.Spec PyProof.Rows PyProof.V
set_option maxRecDepth 100000
set_option maxHeartbeats 4000000
set_option linter.unusedSimpArgs false
namespace Mine
/-- the book as data: a name and what stands under it, in the order of the names' first coming -/
noncomputable def addV (bd : List (PySem.Str × List PySem.Str)) (n v : PySem.Str) : List (PySem.Str × List PySem.Str) :=
  match bd with
  | [] => [(n, [v])]
  | (m, vs) :: r => if m = n then (m, vs ++ [v]) :: r else (m, vs) :: addV r n v
inductive EntIn (tl : List (Addr × Obj)) (k : Nat) : List DictEntry → List (PySem.Str × List PySem.Str) → Prop
  | nil : EntIn tl k [] []
  | cons {h : Int} {x : PySem.Str} {t : Tok} {l : Addr} {us : List Value} {c : Nat} {vs : List PySem.Str} {es : List DictEntry} {bd : List (PySem.Str × List PySem.Str)} : (l, listOf us.toArray c) ∈ tl → DatAll tl us (vs.map Dat.str) → vs.length ≤ k → (∀ e ∈ es, e.val ≠ .ref l) → EntIn tl k es bd → EntIn tl k (⟨h, .str x t, .ref l⟩ :: es) ((x, vs) :: bd)
theorem EntIn.mono {tl tl' : List (Addr × Obj)} {k k' : Nat} {es : List DictEntry} {bd : List (PySem.Str × List PySem.Str)} (hs : ∀ p ∈ tl, p ∈ tl') (hk : k ≤ k') (h : EntIn tl k es bd) : EntIn tl' k' es bd := by
  induction h with
  | nil => exact .nil
  | cons h1 h2 h3 h4 _ ih => exact .cons (hs _ h1) (h2.mono hs) (Nat.le_trans h3 hk) h4 ih
theorem EntIn.exact {tl : List (Addr × Obj)} {k : Nat} {es : List DictEntry} {bd : List (PySem.Str × List PySem.Str)} (h : EntIn tl k es bd) : (es.toArray.all fun e => isExactStrKey e.key) = true := by
  rw [List.all_toArray]
  induction h with
  | nil => rfl
  | cons _ _ _ _ _ ih => rw [List.all_cons, ih]; rfl
theorem EntIn.length {tl : List (Addr × Obj)} {k : Nat} {es : List DictEntry} {bd : List (PySem.Str × List PySem.Str)} (h : EntIn tl k es bd) : es.length = bd.length := by
  induction h with
  | nil => rfl
  | cons _ _ _ _ _ ih => rw [List.length_cons, List.length_cons, ih]
theorem strAt_cons {h : Int} {y : PySem.Str} {t : Tok} {v : Value} {es : List DictEntry} {x : PySem.Str} : strAt (⟨h, .str y t, v⟩ :: es).toArray x = if y = x then some v else strAt es.toArray x := by
  unfold strAt
  simp only [List.find?_cons]
  have e : (Value.str y t).isStr x = decide (y = x) := by
    show (y == x) = _
    by_cases h : y = x
    · simp [h]
    · simp [h]
  rw [e]
  by_cases h : y = x
  · simp [h]
  · simp [h]
theorem EntIn.val_in {tl : List (Addr × Obj)} {k : Nat} {es : List DictEntry} {bd : List (PySem.Str × List PySem.Str)} (h : EntIn tl k es bd) {x : PySem.Str} {v : Value} (e : strAt es.toArray x = some v) : ∃ en ∈ es, en.val = v := by
  induction h with
  | nil => simp [strAt] at e
  | cons _ _ _ _ _ ih =>
    rw [strAt_cons] at e
    split at e
    · exact ⟨_, List.mem_cons_self .., Option.some.inj e⟩
    · obtain ⟨en, h1, h2⟩ := ih e
      exact ⟨en, List.mem_cons_of_mem _ h1, h2⟩
/-- a name that stands in the book -/
theorem EntIn.hit {tl : List (Addr × Obj)} {k : Nat} {es : List DictEntry} {bd : List (PySem.Str × List PySem.Str)} (h : EntIn tl k es bd) {x : PySem.Str} {v : Value} (e : strAt es.toArray x = some v) :
    ∃ l us c vs, v = .ref l ∧ (l, listOf (List.toArray us) c) ∈ tl ∧ DatAll tl us (vs.map Dat.str) ∧ vs.length ≤ k ∧ bd.lookup x = some vs ∧
      ∀ y t, EntIn ((l, listOf (us ++ [Value.str y t]).toArray (c + 1)) :: tl.filter fun p => decide (p.1 ≠ l)) (k + 1) es (addV bd x y) := by
  induction h with
  | nil => simp [strAt] at e
  | @cons h z tz l us c vs es bd h1 h2 h3 h4 h5 ih =>
    rw [strAt_cons] at e
    by_cases hz : z = x
    · subst hz
      rw [if_pos rfl] at e
      cases e
      refine ⟨l, us, c, vs, rfl, h1, h2, h3, by simp, fun y t => ?_⟩
      unfold addV
      rw [if_pos rfl]
      have dm : ∀ {n n' : List (Addr × Obj)} {us : List Value} {vs : List PySem.Str}, DatAll n us (vs.map Dat.str) → DatAll n' us (vs.map Dat.str) := by
        intro n n' us vs h
        induction vs generalizing us with
        | nil => cases h; exact .nil
        | cons w vs ih =>
          cases h with
          | cons h r => cases h; exact .cons (.str _ _) (ih r)
      refine .cons (List.mem_cons_self ..) ?_ ?_ h4 ?_
      · rw [List.map_append]
        exact (dm h2).append (.one (.str _ _))
      · rw [List.length_append, List.length_singleton]; omega
      · clear ih
        have hk : ∀ {es : List DictEntry} {bd : List (PySem.Str × List PySem.Str)}, (∀ e ∈ es, e.val ≠ .ref l) → EntIn tl k es bd → EntIn ((l, listOf (us ++ [Value.str y t]).toArray (c + 1)) :: tl.filter fun p => decide (p.1 ≠ l)) (k + 1) es bd := by
          intro es bd hv h
          induction h with
          | nil => exact .nil
          | @cons h z tz l' us' c' vs' es' bd' g1 g2 g3 g4 _ ih =>
            refine .cons (List.mem_cons_of_mem _ (List.mem_filter.mpr ⟨g1, ?_⟩)) (dm g2) (Nat.le_succ_of_le g3) g4 (ih fun e he => hv e (List.mem_cons_of_mem _ he))
            rw [decide_eq_true_eq]
            intro e
            exact hv _ (List.mem_cons_self ..) (by dsimp only at e ⊢; rw [e])
        exact hk h4 h5
    · rw [if_neg hz] at e
      obtain ⟨l', us', c', vs', rfl, m1, m2, m3, m4, m5⟩ := ih e
      refine ⟨l', us', c', vs', rfl, m1, m2, m3, ?_, fun y t => ?_⟩
      · have : (x == z) = false := by simp [Ne.symm hz]
        rw [List.lookup_cons, this]; exact m4
      · unfold addV
        rw [if_neg hz]
        have hll : l ≠ l' := by
          intro he
          obtain ⟨en, g1, g2⟩ := h5.val_in e
          exact h4 en g1 (by rw [g2, he])
        have dm : ∀ {n n' : List (Addr × Obj)} {us : List Value} {vs : List PySem.Str}, DatAll n us (vs.map Dat.str) → DatAll n' us (vs.map Dat.str) := by
          intro n n' us vs h
          induction vs generalizing us with
          | nil => cases h; exact .nil
          | cons w vs ih =>
            cases h with
            | cons h r => cases h; exact .cons (.str _ _) (ih r)
        exact .cons (List.mem_cons_of_mem _ (List.mem_filter.mpr ⟨h1, by rw [decide_eq_true_eq]; exact hll⟩)) (dm h2) (Nat.le_succ_of_le h3) h4 (m5 y t)
/-- a name that does not stand in it yet -/
theorem EntIn.miss {tl : List (Addr × Obj)} {k : Nat} {es : List DictEntry} {bd : List (PySem.Str × List PySem.Str)} (h : EntIn tl k es bd) {x : PySem.Str} (e : strAt es.toArray x = none) :
    bd.lookup x = none ∧ ∀ y, addV bd x y = bd ++ [(x, [y])] := by
  induction h with
  | nil => exact ⟨rfl, fun _ => rfl⟩
  | @cons h z tz l us c vs es bd h1 h2 h3 h4 h5 ih =>
    rw [strAt_cons] at e
    by_cases hz : z = x
    · rw [if_pos hz] at e; cases e
    · rw [if_neg hz] at e
      obtain ⟨g1, g2⟩ := ih e
      refine ⟨?_, fun y => ?_⟩
      · have : (x == z) = false := by simp [Ne.symm hz]
        rw [List.lookup_cons, this]; exact g1
      · show (if z = x then _ else _) = _
        rw [if_neg hz, g2]; rfl
theorem EntIn.push {tl : List (Addr × Obj)} {k : Nat} {es : List DictEntry} {bd : List (PySem.Str × List PySem.Str)} (h : EntIn tl k es bd) {D : Addr} {us : List Value} {c : Nat} {vs : List PySem.Str} {hs : Int} {x : PySem.Str} {t : Tok} (hD : (D, listOf us.toArray c) ∈ tl) (hu : DatAll tl us (vs.map Dat.str)) (hv : vs.length ≤ k) (hd : ∀ e ∈ es, e.val ≠ .ref D) :
    EntIn tl k (es ++ [⟨hs, .str x t, .ref D⟩]) (bd ++ [(x, vs)]) := by
  induction h with
  | nil => exact .cons hD hu hv (fun _ h => nomatch h) .nil
  | @cons h z tz l us' c' vs' es bd h1 h2 h3 h4 h5 ih =>
    refine .cons h1 h2 h3 ?_ (ih fun e he => hd e (List.mem_cons_of_mem _ he))
    intro e he
    rcases List.mem_append.mp he with he | he
    · exact h4 e he
    · rw [List.mem_singleton.mp he]
      intro e2
      exact hd _ (List.mem_cons_self ..) (by dsimp only at e2 ⊢; rw [e2])
theorem EntIn.lists_in {tl : List (Addr × Obj)} {k : Nat} {es : List DictEntry} {bd : List (PySem.Str × List PySem.Str)} (h : EntIn tl k es bd) : ∀ e ∈ es, ∃ l us c, e.val = .ref l ∧ (l, listOf us c) ∈ tl := by
  induction h with
  | nil => exact fun _ h => nomatch h
  | cons h1 _ _ _ _ ih =>
    intro e he
    rcases List.mem_cons.mp he with he | he
    · rw [he]; exact ⟨_, _, _, rfl, h1⟩
    · exact ih e he
theorem strs_mono {n n' : List (Addr × Obj)} {us : List Value} {vs : List PySem.Str} (h : DatAll n us (vs.map Dat.str)) : DatAll n' us (vs.map Dat.str) := by
  induction vs generalizing us with
  | nil => cases h; exact .nil
  | cons w vs ih =>
    cases h with
    | cons h r => cases h; exact .cons (.str _ _) (ih r)
theorem EntIn.mono_list {tl tl' : List (Addr × Obj)} {k k' : Nat} {es : List DictEntry} {bd : List (PySem.Str × List PySem.Str)} (hs : ∀ l us c, (l, listOf us c) ∈ tl → (l, listOf us c) ∈ tl') (hk : k ≤ k') (h : EntIn tl k es bd) : EntIn tl' k' es bd := by
  induction h with
  | nil => exact .nil
  | cons h1 h2 h3 h4 _ ih => exact .cons (hs _ _ _ h1) (strs_mono h2) (Nat.le_trans h3 hk) h4 ih
end Mine
end
section
open PySem PySem.W PyProof.Rows
set_option maxRecDepth 100000
set_option maxHeartbeats 4000000
namespace Mine
noncomputable def chk (k : Nat) (n v : PySem.Str) : Bool :=
  decide (n.length ≤ 10) && decide (v.length ≤ 10) && decide (Txt.splitMax (lineOf k n v) (PySem.Str.ofString "=") 1 = [gapOf k ++ n ++ gapOf k, gapOf k ++ v ++ gapOf k]) && decide (Txt.strip (gapOf k ++ n ++ gapOf k) = n) && decide (Txt.strip (gapOf k ++ v ++ gapOf k) = v)
theorem readOk_of {k : Nat} {n v : PySem.Str} (h : chk k n v = true) : ReadOk k n v := by
  unfold chk at h
  simp only [Bool.and_eq_true, decide_eq_true_eq] at h
  obtain ⟨⟨⟨⟨h1, h2⟩, h3⟩, h4⟩, h5⟩ := h
  exact ⟨h1, h2, _, _, h3, h4, h5⟩
theorem right_chk : ∀ i : Fin 10, ∀ j : Fin 6, chk i.1 (calledOf j.1) (chrS (65 + i.1) ++ PySem.Str.ofString "=") = true := by decide +kernel
theorem left_chk : ∀ i : Fin 10, ∀ j : Fin 7, chk i.1 (chrS (97 + i.1)) (wordOf j.1) = true := by decide +kernel
theorem right_read {i : Nat} (hi : i < 10) (x : Int) : ReadOk i (calledOf (ci x)) (chrS (65 + i) ++ PySem.Str.ofString "=") := readOk_of (right_chk ⟨i, hi⟩ ⟨ci x, ci_lt x⟩)
theorem left_read {i : Nat} (hi : i < 10) (x : Int) : ReadOk i (chrS (97 + i)) (wordOf (wi x)) := readOk_of (left_chk ⟨i, hi⟩ ⟨wi x, wi_lt x⟩)
end Mine
end
section
open PySem PySem.W PySem.Calls PyProof.Rows
set_option maxRecDepth 100000
set_option maxHeartbeats 8000000
set_option linter.unusedSimpArgs false
set_option linter.unusedVariables false
namespace Mine
theorem sub_book {w : World} {A : Around} {E : Value → Shared → Prop} {s : Shared} {b db : Addr} {es : Array DictEntry} {ep : Nat} {od : Obj} {x : PySem.Str} {t : Tok} {value slice : PySem.Expr} {Q : Value → Shared → Prop}
    (X : (Mine.K w.params).In s.heap) (I : InstAt s.heap b (bookO db es ep) 136 (some od)) (hall : (es.all fun e => isExactStrKey e.key) = true) (hb : (b == sysModules) = false)
    (hit : ∀ v, strAt es x = some v → Q v { s with toks := s.toks + 1 })
    (miss : strAt es x = none → wpAny (model PySem.Challenge.rw_in0004_01.row.prog w) A.in1 (call (.ref 126) [.ref b, .str x t]) Q E { s with toks := s.toks + 1 })
    (hs : subscripted slice false (.ref b) (.str x t) = operate [.ref b, .str x t] (getItem (.ref b) (.str x t)) := by with_unfolding_all rfl) :
    wpAny (model PySem.Challenge.rw_in0004_01.row.prog w) A (subscriptTail value slice (.ref b) (.str x t)) Q E s := by
  revert X; (k_fill; w_top off); intro X
  have hgi : findIn (Mine.K w.params) (.ref 136) "__getitem__" = some (some (.builtin "dict.__getitem__")) := by k_is
  have hmi : findIn (Mine.K w.params) (.ref 136) "__missing__" = some (some (.ref 126)) := by k_is
  have hmd : mroIn (Mine.K w.params) 136 (.type "dict") = some true := by k_is
  have hns : noSeq (Mine.K w.params) 136 = true := by k_is
  have hfn : isFn (Mine.K w.params) (.ref 126) = true := by k_is
  unfold subscriptTail getitemInPython
  refine wpAny_bind (wpAny_bind (wpAny_bind (I.type.here ((looks_findIn X hgi).here ?_))))
  refine wpAny_pure (wpAny_bind ?_)
  rw [hs]
  refine wpAny_operating (wpAny_mono (getitem_sub (Q := Q) X I rfl hall hns hgi hmd hb hmi hfn hit miss) (fun r s' z => wpAny_bind (wpAny_letTemporaryGo (wpAny_pure z))) fun _ _ z => z)
local macro_rules | `(tactic| walk_at "call ref") => `(tactic| (k_here; (with_reducible show wpAny _ _ (call (Value.ref 136) _ _) _ _ _); refine hold ?_))
local macro_rules | `(tactic| walk_at "call ref") => `(tactic| (k_here; (with_reducible show wpAny _ _ (call (Value.ref 248) _ _) _ _ _); refine hold ?_))
local macro_rules | `(tactic| walk_at "call type:enumerate") => `(tactic| (k_here; refine hold ?_))
local macro_rules | `(tactic| walk_at "exec For Tuple Call cons nil") => `(tactic| (k_here; (rename Fr _ _ _ _ => lF'); (with_unfolding_all refine' For_turns lF' ?_; k_whole)))
local macro_rules | `(tactic| walk_at "eval Name") => `(tactic| (k_here; k_dflt (refine ld (by assumption) (by with_unfolding_all assumption) ?_)))
local macro_rules | `(tactic| walk_at "getAttr ref") => `(tactic| (k_here; refine hold ?_))
local macro_rules | `(tactic| walk_at "subscriptTail Name Attribute ref str") => `(tactic| (k_here; refine hold ?_))
local macro_rules | `(tactic| walk_at "call builtin:list.append") => `(tactic| (k_here; refine hold ?_))
local macro_rules | `(tactic| walk_at "getMethod ref") => `(tactic| (k_here; (with_reducible show wpAny _ _ (getMethod _ (PySem.Str.ofString "freeze") _) _ _ _); refine hold ?_))
local macro_rules | `(tactic| walk_at "call ref") => `(tactic| (k_here; (with_reducible show wpAny _ _ (call (Value.ref 133) _ _) _ _ _); refine hold ?_))
theorem news_ne {h₀ h : Heap} {L a a' : Addr} {o o' : Obj} {news : List (Addr × Obj)} (N : News h₀ L h news) (h1 : (a, o) ∈ news) (h2 : (a', o') ∈ news) (hne : o ≠ o') : a ≠ a' := by
  rintro rfl
  have e := N.get h1
  rw [N.get h2] at e
  exact hne (Option.some.inj e).symm
theorem append_led {prog : Program} {w : World} {A : Around} {E : Value → Shared → Prop} {s : Shared} {h₀ : Heap} {L l : Addr} {m : PySem.Str → Option Value} {news : List (Addr × Obj)} {its : List Value} {c : Nat} {x : Value} {Q : Value → Shared → Prop} (F : Fr h₀ L s.heap m) (N : News h₀ L s.heap news) (hm : (l, listOf its.toArray c) ∈ news)
    (h : ∀ h', Fr h₀ L h' m → News h₀ L h' ((l, listOf (its ++ [x]).toArray (c + 1)) :: news.filter fun p => decide (p.1 ≠ l)) → Q .none { s with heap := h' }) (hsz : its.length ≤ 1000) : wpAny (model prog w) A (call (.builtin "list.append") [.ref l, x]) Q E s := by
  have N1 : News h₀ L s.heap ((l, listOf its.toArray c) :: news.filter fun p => decide (p.1 ≠ l)) := fun p hp => by
    rcases List.mem_cons.mp hp with e | hp
    · rw [e]; exact N _ hm
    · exact N p (List.mem_filter.mp hp).1
  refine append_K F N1 (Upd.head fun p hp => of_decide_eq_true (List.mem_filter.mp hp).2) ?_ (by rw [List.size_toArray, sizeLine_eq]; omega)
  intro h' F' N'
  rw [List.push_toArray] at N'
  exact h h' F' N'
noncomputable def addRow (bd : List (PySem.Str × List PySem.Str)) : Dat → List (PySem.Str × List PySem.Str)
  | .tuple [.str n, .str v] => addV bd n v
  | _ => bd
noncomputable def bookD (rows : List Dat) : List (PySem.Str × List PySem.Str) := rows.foldl addRow []
/-- a frozen book, its objects among some of the ledger -/
structure BookOk (w : World) (tl : List (Addr × Obj)) (b : Addr) (bd : List (PySem.Str × List PySem.Str)) : Prop where
  at_ : (Ex10 fun db es ep lam n hsh tk lo fd objs => An8 ((b, bookO db (List.toArray es) ep) ∈ tl) ((db, dictOf [⟨hsh, .str (PySem.Str.ofString "_frozen") tk, .ref lam⟩] n) ∈ tl) (EntIn tl 10 es bd) ((∀ p ∈ objs, p ∈ tl)) (LamOk w lam b objs) ((lam, lo) ∈ tl) (lo.data = .func fd) ((b == sysModules) = false))
theorem BookOk.mono {w : World} {tl tl' : List (Addr × Obj)} {b : Addr} {bd : List (PySem.Str × List PySem.Str)} (hs : ∀ p ∈ tl, p ∈ tl') (h : BookOk w tl b bd) : BookOk w tl' b bd := by
  refine gp fun kG32 => ?_
  obtain ⟨db, es, ep, lam, n, hsh, tk, lo, fd, objs, h1, h2, h3, h4, h5, h6, h7, h8⟩ := h.at_
  refine kG32.go ?_
  exact ⟨db, es, ep, lam, n, hsh, tk, lo, fd, objs, hs _ h1, hs _ h2, h3.mono hs (Nat.le_refl _), fun p hp => hs p (h4 p hp), h5, hs _ h6, h7, h8⟩
/-- as CtrN, where the modules' own dict stands -/
noncomputable def CtrS (room : Nat) (w : World) (f : Addr) (args : List Value) (news : List (Addr × Obj)) (Post : List (Addr × Obj) → Value → Prop) : Prop :=
  ∀ (dp un : Nat) (gd : Option (List Code)) (cn : PySem.Str) (cs : Scope) (a : Addr) (ccd : Value) (cl : List (PySem.Str × Addr)) (outer : List Env) (A₀ : Around) (base h₀ : Heap) (L : Addr) (m : PySem.Str → Option Value) (p : Program) (loose : List PySem.Str) (mean : ExcName → Option Value) (mg mb : PySem.Str → Option Value) (s : Shared) (Q E : Value → Shared → Prop),
    Below A₀ base outer h₀ → Fr h₀ L s.heap m → (Mine.K w.params).In h₀ → News h₀ L s.heap news → Top p loose mean mg mb h₀ → (∃ o, h₀.get? sysModules = some o) → cs.kind = .function → dp + room < recursionLimit → un + 10 * room < cLine →
    (∀ v nw h' tk', Fr h₀ L h' m → News h₀ L h' nw → Post nw v → Q v { s with heap := h', toks := tk' }) →
    codeAny (model PySem.Challenge.rw_in0004_01.row.prog w) (ktrTop dp un gd cn cs L a ccd cl outer) (.call (.ref f) ⟨args, []⟩) (fun r s' => match r with | .ok (.ret v) => Q v s' | .ok _ => False | .error e => E e s') s
theorem CtrS.use {room : Nat} {w : World} {f : Addr} {args : List Value} {news : List (Addr × Obj)} {Post : List (Addr × Obj) → Value → Prop} (C : CtrS room w f args news Post)
    {dp un : Nat} {gd : Option (List Code)} {cn : PySem.Str} {cs : Scope} {a : Addr} {ccd : Value} {cl : List (PySem.Str × Addr)} {outer : List Env} {A₀ : Around} {base h₀ : Heap} {L : Addr} {m : PySem.Str → Option Value} {p : Program} {loose : List PySem.Str} {mean : ExcName → Option Value} {mg mb : PySem.Str → Option Value} {s : Shared} {Q E : Value → Shared → Prop}
    (B : Below A₀ base outer h₀) (F : Fr h₀ L s.heap m) (X : (Mine.K w.params).In h₀) (N : News h₀ L s.heap news) (T : Top p loose mean mg mb h₀) (hs : ∃ o, h₀.get? sysModules = some o) (hk : cs.kind = .function) (hd : dp + room < recursionLimit) (hu : un + 10 * room < cLine)
    (ret : ∀ v nw h' tk', Fr h₀ L h' m → News h₀ L h' nw → Post nw v → Q v { s with heap := h', toks := tk' }) :
    wpAny (model PySem.Challenge.rw_in0004_01.row.prog w) (ktrTop dp un gd cn cs L a ccd cl outer) (call (.ref f) args) Q E s := wpAny_call (C _ _ _ _ _ _ _ _ _ _ _ _ _ _ _ _ _ _ _ _ _ _ B F X N T hs hk hd hu ret)
theorem book_ok {w : World} {news : List (Addr × Obj)} {lr : Addr} {us : List Value} {nr : Nat} {xs : List Int} (hl : (lr, listOf us.toArray nr) ∈ news) (hd : DatAll news us (rowsFrom rightRow 0 xs)) (hx : xs.length ≤ 10) (h128 : (128, tabObj #[]) ∈ news) :
   CtrS 200 w 269 [.ref lr] news fun nw v => (Ex3 fun tl b ps => An4 (v = .ref b) (nw = tl ++ (128, tabObj ps) :: (news.filter fun p => decide (p.1 ≠ 128))) (BookOk w tl b (bookD (rowsFrom rightRow 0 xs))) (∀ q ∈ news, ∀ p ∈ tl, q.1 ≠ p.1)) := by
  unfold CtrS
  (k_fill; w_top off)
  intro dp un gd cn cs' cA ccd cl outer A₀ base h₀ L m p loose mean mg mb s Q E B F X N T hsys hk9 hdp hun hret
  have hlim : recursionLimit = 1000 := rfl
  have hcl := cLine_is
  k_dflt ktr_enter
  k_steps
  refine Hold.mk ?_
  rename Fr _ _ _ _ => F1
  rename News _ _ _ _ => N1
  rename Frag.In _ _ => X1
  rename Fr h₀ _ _ _ => FG
  refine book_new_K X1 F1 N1 (by rfl) ?_ ?_ ?_
  · show dp + 1 ≤ 980
    omega
  · simp only [units_under_make, units_in1, units_deeper, Around.mark_units, units_caller]
    (try dsimp only [ktrTop])
    omega
  intro b db h2 tk2 F2 N2 off2 hbdb
  clear F1 N1
  k_steps
  refine Hold.mk ?_
  rename Fr _ _ _ _ => F3
  rename News _ _ _ _ => N3
  have hbsys : (b == sysModules) = false := by
    obtain ⟨o, ho⟩ := hsys
    have h1 := N3 (b, bookO db #[] 0) (List.mem_cons_self ..)
    rw [beq_eq_false_iff_ne]
    intro e
    have h2 := FG.keep _ _ ho
    rw [← e, h1.2.2] at h2
    cases h2
  refine loop_enum (l := lr) (c := nr) (vs := us) (fun i r m n => (Ex5 fun tl es ep bd ys => An10 (n = tl ++ news) ((b, bookO db (List.toArray es) ep) ∈ tl) ((db, dictOf [] 0) ∈ tl) (EntIn tl i es bd) ((∀ q ∈ news, ∀ p ∈ tl, q.1 ≠ p.1)) (DatAll news r (rowsFrom rightRow i ys)) ((rowsFrom rightRow i ys).foldl addRow bd = bookD (rowsFrom rightRow 0 xs)) (es.length ≤ i) (i + ys.length ≤ 10) (m (PySem.Str.ofString "book") = some (.ref b)))) (by rfl) F3 N3 ?_ ?_ ?_ ?_
  · intro i r m n hR33
    refine gp fun kG37 => ?_
    obtain ⟨tl, es, ep, bd, ys, rfl, _⟩ := hR33
    refine kG37.go ?_
    exact List.mem_append_right _ hl
  · refine ⟨[_, _], [], 0, [], xs, rfl, List.mem_cons_self .., List.mem_cons_of_mem _ (List.mem_cons_self ..), .nil, fun q hq p hp => ?_, hd, rfl, Nat.le_refl _, by omega, by rfl⟩
    rcases List.mem_cons.mp hp with h | hp
    · rw [h]; exact (off2 q hq).1
    · rw [List.mem_singleton.mp hp]; exact (off2 q hq).2
  · clear F3 N3
    intro i v r m₁ n₁ h₁ tk₁ its T t hR34 hvi hR35 off hT F4 N4
    refine gp fun kG38 => ?_
    obtain ⟨tl, es, ep, bd, ys, rfl, hb, hdb, hE, hoff, hr, hfold, hes, hiy, hmb⟩ := hR34
    obtain ⟨pe, pi, rfl⟩ := hR35
    cases ys with
    | nil => cases hr
    | cons y ys =>
    cases hr with
    | cons hv hrest =>
    cases hv with
    | tuple hvm hvs =>
    rename_i aR vsR nR
    cases hvs with
    | cons hv0 hvs =>
    cases hvs with
    | cons hv1 hvs =>
    cases hvs
    cases hv0
    cases hv1
    refine kG38.go ?_
    rename_i tn tv
    simp only [List.cons_append, List.nil_append] at N4
    k_steps
    refine Hold.mk ?_
    rename Fr _ _ _ _ => F5
    rename News _ _ _ _ => N5
    have hi10 : i < 10 := by simp only [List.length_cons] at hiy; omega
    k_dflt (refine' CtrC.use (read_ok (n := calledOf (ci y)) (v := chrS (65 + i) ++ PySem.Str.ofString "=") (k := i) (List.mem_cons_of_mem _ (List.mem_cons_of_mem _ (List.mem_append_right _ hvm))) (by omega) (right_read hi10 y)) ?B F5 ?X N5 ?T ?K ?d ?u ?_; (case B => k_asm); (case X => k_asm); (case T => k_asm); (case K => exact rfl); (case d => ktr_room); (case u => ktr_units))
    intro v' t1 h6 tk6 F6 N6 hoff6 hv'
    refine gp fun kG39 => ?_
    obtain ⟨r1, dd, ta, tb, rfl, hr1, hdd1⟩ := hv'
    refine kG39.go ?_
    clear F5 N5
    k_steps
    refine Hold.mk ?_
    rename Fr _ _ _ _ => F7
    rename News _ _ _ _ => N7
    refine pair_get (X1.keeps F7.keep) (inst_pair N7 hr1 hdd1) (find_name _ _) ?_
    k_dflt (refine' CtrC.use (get_name hr1 hdd1 rfl) ?B F7 ?X N7 ?T ?K ?d ?u ?_; (case B => k_asm); (case X => k_asm); (case T => k_asm); (case K => exact rfl); (case d => ktr_room); (case u => ktr_units))
    intro v' t2 h8 tk8 F8 N8o _ hv'
    subst hv'
    refine ⟨rfl, ?_⟩
    have N8 : News _ _ h8 (t1 ++ pe :: pi :: (tl ++ news)) := fun p hp => N8o p (List.mem_append_right _ hp)
    clear N8o F7 N7
    k_steps
    refine Hold.mk ?_
    have MM : ∀ p ∈ tl, p ∈ t1 ++ pe :: pi :: (tl ++ news) := fun p hp => List.mem_append_right _ (List.mem_cons_of_mem _ (List.mem_cons_of_mem _ (List.mem_append_left _ hp)))
    have MN : ∀ p ∈ news, p ∈ t1 ++ pe :: pi :: (tl ++ news) := fun p hp => List.mem_append_right _ (List.mem_cons_of_mem _ (List.mem_cons_of_mem _ (List.mem_append_right _ hp)))
    have hpe : pe ∈ t1 ++ pe :: pi :: (tl ++ news) := List.mem_append_right _ (List.mem_cons_self ..)
    have hpi : pi ∈ t1 ++ pe :: pi :: (tl ++ news) := List.mem_append_right _ (List.mem_cons_of_mem _ (List.mem_cons_self ..))
    have hfold' : List.foldl addRow (addV bd (calledOf (ci y)) (chrS (65 + i) ++ PySem.Str.ofString "=")) (rowsFrom rightRow (i + 1) ys) = bookD (rowsFrom rightRow 0 xs) := hfold
    have hiy' : i + 1 + ys.length ≤ 10 := by simp only [List.length_cons] at hiy; omega
    refine sub_book (X1.keeps F8.keep) (inst_book N8 (MM _ hb) (MM _ hdb)) hE.exact hbsys ?_ ?_
    · intro v hv
      refine gp fun kG40 => ?_
      obtain ⟨l, ul, c, vl, rfl, m1, m2, m3, m4, m5⟩ := hE.hit hv
      refine kG40.go ?_
      refine getMethod_list_append (N8.get (MM _ m1)) rfl rfl ?_
      k_steps
      refine Hold.mk ?_
      rename Fr _ _ _ _ => F9
      rename News _ _ _ _ => N9
      refine pair_get (X1.keeps F9.keep) (inst_pair N9 hr1 hdd1) (find_value _ _) ?_
      k_dflt (refine' CtrC.use (get_value hr1 hdd1 rfl) ?B F9 ?X N9 ?T ?K ?d ?u ?_; (case B => k_asm); (case X => k_asm); (case T => k_asm); (case K => exact rfl); (case d => ktr_room); (case u => ktr_units))
      intro v' t3 h10 tk10 F10 N10o _ hv'
      subst hv'
      refine ⟨rfl, ?_⟩
      have N10 : News _ _ h10 (t1 ++ pe :: pi :: (tl ++ news)) := fun p hp => N10o p (List.mem_append_right _ hp)
      clear N10o F9 N9
      k_steps
      refine Hold.mk ?_
      rename Fr _ _ _ _ => F11
      rename News _ _ _ _ => N11
      have hul : ul.length ≤ 1000 := by rw [m2.length, List.length_map]; omega
      refine append_led F11 N11 (MM _ m1) ?_ hul
      intro h12 F12 N12
      have hlb : b ≠ l := news_ne N11 (MM _ hb) (MM _ m1) (by intro e; exact absurd (congrArg Obj.cls e) (by simp))
      have hldb : db ≠ l := news_ne N11 (MM _ hdb) (MM _ m1) (by intro e; exact absurd (congrArg Obj.cls e) (by simp))
      have hln : ∀ q ∈ news, q.1 ≠ l := fun q hq => hoff q hq _ m1
      have hpel : pe.1 ≠ l := fun e => off _ (List.mem_append_left _ m1) pe (List.mem_cons_self ..) e.symm
      have hpil : pi.1 ≠ l := fun e => off _ (List.mem_append_left _ m1) pi (List.mem_cons_of_mem _ (List.mem_cons_self ..)) e.symm
      have hf : ∀ {p : Addr × Obj} {n : List (Addr × Obj)}, p ∈ n → p.1 ≠ l → p ∈ n.filter fun p => decide (p.1 ≠ l) := fun hp hne => List.mem_filter.mpr ⟨hp, decide_eq_true hne⟩
      k_steps
      rename Fr _ _ _ _ => F13
      rename News _ _ _ _ => N13
      refine TEnd.next (its := [pe, pi]) (n' := ((l, listOf (ul ++ [Value.str (chrS (65 + i) ++ PySem.Str.ofString "=") tb]).toArray (c + 1)) :: (t1 ++ tl).filter fun p => decide (p.1 ≠ l)) ++ news) F13 (fun p hp => N13 p ?_) ?_ ⟨_, es, ep, _, ys, rfl, ?_, ?_, (m5 _ tb).mono ?_ (Nat.le_refl _), ?_, hrest, hfold', ?_, hiy', ?_⟩
      · rcases List.mem_append.mp hp with hp | hp
        · rcases List.mem_cons.mp hp with h | hp
          · rw [h]; exact List.mem_cons_of_mem _ (hf hpe hpel)
          · rw [List.mem_singleton.mp hp]; exact List.mem_cons_of_mem _ (hf hpi hpil)
        rcases List.mem_append.mp hp with hp | hp
        · rcases List.mem_cons.mp hp with h | hp
          · rw [h]; exact List.mem_cons_self ..
          · obtain ⟨h1, h2⟩ := List.mem_filter.mp hp
            rcases List.mem_append.mp h1 with h1 | h1
            · exact List.mem_cons_of_mem _ (hf (List.mem_append_left _ h1) (of_decide_eq_true h2))
            · exact List.mem_cons_of_mem _ (hf (MM _ h1) (of_decide_eq_true h2))
        · exact List.mem_cons_of_mem _ (hf (MN _ hp) (hln _ hp))
      · intro p hp q hq
        rcases List.mem_append.mp hp with hp | hp
        · rcases List.mem_cons.mp hp with h | hp
          · rw [h]; exact off (l, _) (List.mem_append_left _ m1) q hq
          · rcases List.mem_append.mp (List.mem_filter.mp hp).1 with h1 | h1
            · refine (hoff6 q ?_ p h1).symm
              rcases List.mem_cons.mp hq with h | hq
              · rw [h]; exact List.mem_cons_self ..
              · rw [List.mem_singleton.mp hq]; exact List.mem_cons_of_mem _ (List.mem_cons_self ..)
            · exact off p (List.mem_append_left _ h1) q hq
        · exact off p (List.mem_append_right _ hp) q hq
      · exact List.mem_cons_of_mem _ (hf (List.mem_append_right _ hb) hlb)
      · exact List.mem_cons_of_mem _ (hf (List.mem_append_right _ hdb) hldb)
      · intro p hp
        rcases List.mem_cons.mp hp with h | hp
        · rw [h]; exact List.mem_cons_self ..
        · obtain ⟨h1, h2⟩ := List.mem_filter.mp hp
          exact List.mem_cons_of_mem _ (hf (List.mem_append_right _ h1) (of_decide_eq_true h2))
      · intro q hq p hp
        rcases List.mem_cons.mp hp with h | hp
        · rw [h]; exact hln q hq
        · rcases List.mem_append.mp (List.mem_filter.mp hp).1 with h1 | h1
          · exact hoff6 q (List.mem_cons_of_mem _ (List.mem_cons_of_mem _ (List.mem_append_right _ hq))) p h1
          · exact hoff q hq p h1
      · omega
      · with_unfolding_all exact hmb
    · intro hv
      have hes10 : (List.toArray es).size ≤ 1000 := by rw [List.size_toArray]; omega
      have N14 : News _ _ _ ((b, bookO db (List.toArray es) ep) :: (t1 ++ pe :: pi :: (tl ++ news)).filter fun p => decide (p.1 ≠ b)) := fun p hp => by
        rcases List.mem_cons.mp hp with h | hp
        · rw [h]; exact N8 _ (MM _ hb)
        · exact N8 p (List.mem_filter.mp hp).1
      have hfb : ∀ {p : Addr × Obj} {n : List (Addr × Obj)}, p ∈ n → p.1 ≠ b → p ∈ n.filter fun p => decide (p.1 ≠ b) := fun hp hne => List.mem_filter.mpr ⟨hp, decide_eq_true hne⟩
      have hbdb' : db ≠ b := news_ne N8 (MM _ hdb) (MM _ hb) (by intro e; exact absurd (congrArg Obj.cls e) (by simp))
      refine wpAny_call ?_
      k_dflt (refine' CtrN.code (missing_new (x := calledOf (ci y)) (t := ta) hE.exact hv hes10 hbsys (fun p hp => of_decide_eq_true (List.mem_filter.mp hp).2) (hfb (MM _ hdb) hbdb')) ?B F8 ?X N14 ?T ?K ?d ?u ?_; (case B => k_asm); (case X => k_asm); (case T => k_asm); (case K => exact rfl); (case d => ktr_room); (case u => ktr_units))
      intro v' nw h15 tk15 F15 N15 hv'
      refine gp fun kG41 => ?_
      obtain ⟨D, rfl, rfl, hDb, hDr⟩ := hv'
      refine kG41.go ?_
      have SB : ∀ p ∈ (t1 ++ pe :: pi :: (tl ++ news)).filter fun p => decide (p.1 ≠ b), p ∈ (D, listOf #[] 0) :: (b, bookO db ((List.toArray es).push ⟨hashStr w (calledOf (ci y)), .str (calledOf (ci y)) ta, .ref D⟩) (ep + 1)) :: (t1 ++ pe :: pi :: (tl ++ news)).filter fun p => decide (p.1 ≠ b) := fun p hp => List.mem_cons_of_mem _ (List.mem_cons_of_mem _ hp)
      have hrb : r1 ≠ b := news_ne N8 hr1 (MM _ hb) (by intro e; exact absurd (congrArg Obj.cls e) (by simp))
      have hddb : dd ≠ b := news_ne N8 hdd1 (MM _ hb) (by intro e; exact absurd (congrArg Obj.cls e) (by simp))
      have hr1' := SB _ (hfb hr1 hrb)
      have hdd1' := SB _ (hfb hdd1 hddb)
      refine getMethod_list_append (N15.get (List.mem_cons_self ..)) rfl rfl ?_
      k_steps
      refine Hold.mk ?_
      rename Fr _ _ _ _ => F9
      rename News _ _ _ _ => N9
      refine pair_get (X1.keeps F9.keep) (inst_pair N9 hr1' hdd1') (find_value _ _) ?_
      k_dflt (refine' CtrC.use (get_value hr1' hdd1' rfl) ?B F9 ?X N9 ?T ?K ?d ?u ?_; (case B => k_asm); (case X => k_asm); (case T => k_asm); (case K => exact rfl); (case d => ktr_room); (case u => ktr_units))
      intro v' t3 h10 tk10 F10 N10o _ hv'
      subst hv'
      refine ⟨rfl, ?_⟩
      have N10 : News _ _ h10 _ := fun p hp => N10o p (List.mem_append_right t3 hp)
      clear N10o F9 N9
      k_steps
      refine Hold.mk ?_
      rename Fr _ _ _ _ => F11
      rename News _ _ _ _ => N11
      refine append_led (its := []) F11 N11 (List.mem_cons_self ..) ?_ (by simp)
      intro h12 F12 N12
      have hln : ∀ {l : Addr} {us : Array Value} {c : Nat}, (l, listOf us c) ∈ tl → l ≠ b := fun hm => news_ne N8 (MM _ hm) (MM _ hb) (by intro e; exact absurd (congrArg Obj.cls e) (by simp))
      have hnb : ∀ q ∈ news, q.1 ≠ b := fun q hq => hoff q hq _ hb
      have hpeb : pe.1 ≠ b := fun e => off _ (List.mem_append_left _ hb) pe (List.mem_cons_self ..) e.symm
      have hpib : pi.1 ≠ b := fun e => off _ (List.mem_append_left _ hb) pi (List.mem_cons_of_mem _ (List.mem_cons_self ..)) e.symm
      have hfD : ∀ {p : Addr × Obj} {n : List (Addr × Obj)}, p ∈ n → p.1 ≠ D → p ∈ n.filter fun p => decide (p.1 ≠ D) := fun hp hne => List.mem_filter.mpr ⟨hp, decide_eq_true hne⟩
      have up : ∀ p ∈ t1 ++ pe :: pi :: (tl ++ news), p.1 ≠ b → p ∈ (D, listOf ([] ++ [Value.str (chrS (65 + i) ++ PySem.Str.ofString "=") tb]).toArray (0 + 1)) :: ((D, listOf #[] 0) :: (b, bookO db ((List.toArray es).push ⟨hashStr w (calledOf (ci y)), .str (calledOf (ci y)) ta, .ref D⟩) (ep + 1)) :: (t1 ++ pe :: pi :: (tl ++ news)).filter fun p => decide (p.1 ≠ b)).filter fun p => decide (p.1 ≠ D) := fun p hp hne => List.mem_cons_of_mem _ (hfD (SB _ (hfb hp hne)) (hDr _ (hfb hp hne)))
      have eP : (List.toArray es).push ⟨hashStr w (calledOf (ci y)), .str (calledOf (ci y)) ta, .ref D⟩ = (es ++ [(⟨hashStr w (calledOf (ci y)), .str (calledOf (ci y)) ta, .ref D⟩ : DictEntry)]).toArray := List.push_toArray ..
      have hE2 : EntIn ((D, listOf [Value.str (chrS (65 + i) ++ PySem.Str.ofString "=") tb].toArray 1) :: (b, bookO db (es ++ [(⟨hashStr w (calledOf (ci y)), .str (calledOf (ci y)) ta, .ref D⟩ : DictEntry)]).toArray (ep + 1)) :: (t1 ++ tl).filter fun p => decide (p.1 ≠ b)) (i + 1) (es ++ [(⟨hashStr w (calledOf (ci y)), .str (calledOf (ci y)) ta, .ref D⟩ : DictEntry)]) (addV bd (calledOf (ci y)) (chrS (65 + i) ++ PySem.Str.ofString "=")) := by
        rw [(hE.miss hv).2]
        refine EntIn.push (vs := [chrS (65 + i) ++ PySem.Str.ofString "="]) (hE.mono_list (fun l us c hm => List.mem_cons_of_mem _ (List.mem_cons_of_mem _ (hfb (List.mem_append_right _ hm) (hln hm)))) (Nat.le_succ i)) (List.mem_cons_self ..) (.one (.str _ _)) (by simp) (fun e he => ?_)
        obtain ⟨l, us', c', e1, e2⟩ := hE.lists_in e he
        rw [e1]
        intro e3
        cases e3
        exact hDr _ (hfb (MM _ e2) (hln e2)) rfl
      k_steps
      rename Fr _ _ _ _ => F13
      rename News _ _ _ _ => N13
      refine TEnd.next (its := [pe, pi]) (n' := ((D, listOf [Value.str (chrS (65 + i) ++ PySem.Str.ofString "=") tb].toArray 1) :: (b, bookO db (es ++ [(⟨hashStr w (calledOf (ci y)), .str (calledOf (ci y)) ta, .ref D⟩ : DictEntry)]).toArray (ep + 1)) :: (t1 ++ tl).filter fun p => decide (p.1 ≠ b)) ++ news) F13 (fun p hp => N13 p ?_) ?_ ⟨_, _, _, _, ys, rfl, List.mem_cons_of_mem _ (List.mem_cons_self ..), ?_, hE2, ?_, hrest, hfold', ?_, hiy', ?_⟩
      · rcases List.mem_append.mp hp with hp | hp
        · rcases List.mem_cons.mp hp with h | hp
          · rw [h]; exact up _ hpe hpeb
          · rw [List.mem_singleton.mp hp]; exact up _ hpi hpib
        rcases List.mem_append.mp hp with hp | hp
        · rcases List.mem_cons.mp hp with h | hp
          · rw [h]; exact List.mem_cons_self ..
          rcases List.mem_cons.mp hp with h | hp
          · rw [h, ← eP]; exact List.mem_cons_of_mem _ (hfD (List.mem_cons_of_mem _ (List.mem_cons_self ..)) hDb.symm)
          · obtain ⟨h1, h2⟩ := List.mem_filter.mp hp
            rcases List.mem_append.mp h1 with h1 | h1
            · exact up _ (List.mem_append_left _ h1) (of_decide_eq_true h2)
            · exact up _ (MM _ h1) (of_decide_eq_true h2)
        · exact up _ (MN _ hp) (hnb _ hp)
      · intro p hp q hq
        have hqm : q ∈ t1 ++ pe :: pi :: (tl ++ news) := by
          rcases List.mem_cons.mp hq with h | hq
          · rw [h]; exact hpe
          · rw [List.mem_singleton.mp hq]; exact hpi
        have hqb : q.1 ≠ b := by
          rcases List.mem_cons.mp hq with h | hq
          · rw [h]; exact hpeb
          · rw [List.mem_singleton.mp hq]; exact hpib
        rcases List.mem_append.mp hp with hp | hp
        · rcases List.mem_cons.mp hp with h | hp
          · rw [h]; exact (hDr _ (hfb hqm hqb)).symm
          rcases List.mem_cons.mp hp with h | hp
          · rw [h]; exact hqb.symm
          · rcases List.mem_append.mp (List.mem_filter.mp hp).1 with h1 | h1
            · refine (hoff6 q ?_ p h1).symm
              rcases List.mem_cons.mp hq with h | hq
              · rw [h]; exact List.mem_cons_self ..
              · rw [List.mem_singleton.mp hq]; exact List.mem_cons_of_mem _ (List.mem_cons_self ..)
            · exact off p (List.mem_append_left _ h1) q hq
        · exact off p (List.mem_append_right _ hp) q hq
      · exact List.mem_cons_of_mem _ (List.mem_cons_of_mem _ (hfb (List.mem_append_right _ hdb) hbdb'))
      · intro q hq p hp
        rcases List.mem_cons.mp hp with h | hp
        · rw [h]; exact hDr _ (hfb (MN _ hq) (hnb _ hq))
        rcases List.mem_cons.mp hp with h | hp
        · rw [h]; exact hnb q hq
        · rcases List.mem_append.mp (List.mem_filter.mp hp).1 with h1 | h1
          · exact hoff6 q (List.mem_cons_of_mem _ (List.mem_cons_of_mem _ (List.mem_append_right _ hq))) p h1
          · exact hoff q hq p h1
      · rw [List.length_append, List.length_singleton]; omega
      · with_unfolding_all exact hmb
  · intro m₁ n₁ h₁ tk₁ hR36 F4 N4
    refine gp fun kG42 => ?_
    obtain ⟨tl, es, ep, bd, ys, rfl, hb, hdb, hE, hoff, hr, hfold, hes, hiy, hmb⟩ := hR36
    refine kG42.go ?_
    k_steps
    refine Hold.mk ?_
    refine freeze_method F4 X1 N4 (List.mem_append_left _ hb) (List.mem_append_left _ hdb) ?_
    k_steps
    refine Hold.mk ?_
    rename Fr _ _ _ _ => F5
    rename News _ _ _ _ => N5
    have hb128 : b ≠ 128 := fun e => hoff _ h128 _ hb e.symm
    have hdb128 : db ≠ 128 := fun e => hoff _ h128 _ hdb e.symm
    have hbdb2 : b ≠ db := news_ne N5 (List.mem_append_left _ hb) (List.mem_append_left _ hdb) (by intro e; exact absurd (congrArg Obj.cls e) (by simp))
    have N6 : News _ _ _ ((b, bookO db (List.toArray es) ep) :: (db, dictOf [] 0) :: (128, tabObj #[]) :: (tl ++ news).filter fun p => decide (p.1 ≠ b ∧ p.1 ≠ db ∧ p.1 ≠ 128)) := fun p hp => by
      rcases List.mem_cons.mp hp with h | hp
      · rw [h]; exact N5 _ (List.mem_append_left _ hb)
      rcases List.mem_cons.mp hp with h | hp
      · rw [h]; exact N5 _ (List.mem_append_left _ hdb)
      rcases List.mem_cons.mp hp with h | hp
      · rw [h]; exact N5 _ (List.mem_append_right _ h128)
      · exact N5 p (List.mem_filter.mp hp).1
    have hflt : ∀ p ∈ (tl ++ news).filter fun p => decide (p.1 ≠ b ∧ p.1 ≠ db ∧ p.1 ≠ 128), p.1 ≠ b ∧ p.1 ≠ db ∧ p.1 ≠ 128 := fun p hp => of_decide_eq_true (List.mem_filter.mp hp).2
    refine wpAny_call ?_
    k_dflt (refine' CtrN.code (freeze_ok (fun p hp => (hflt p hp).2.2) (fun p hp => (hflt p hp).1) hb128 hdb128 hbdb2 (fun p hp => (hflt p hp).2.1)) ?B F5 ?X N6 ?T ?K ?d ?u ?_; (case B => k_asm); (case X => k_asm); (case T => k_asm); (case K => exact rfl); (case d => ktr_room); (case u => ktr_units))
    intro v' nw h7 tk7 F7 N7 hv'
    refine gp fun kG43 => ?_
    obtain ⟨lam, c', cc, hsh, tkf, lo, oc, oC, ps, rfl, hlam, ⟨fd, hfd⟩, hoC, hlt, hlt2, hlt3⟩ := hv'
    refine kG43.go ?_
    k_steps
    rename Fr h₀ _ _ _ => kF
    rename News h₀ _ _ _ => kN
    have hys : ys = [] := by
      cases ys with
      | nil => rfl
      | cons y ys => cases hr
    subst hys
    have hmt : ∀ {p : Addr × Obj}, p ∈ tl → p.1 ≠ b → p.1 ≠ db → p ∈ (tl ++ news).filter fun p => decide (p.1 ≠ b ∧ p.1 ≠ db ∧ p.1 ≠ 128) := fun {p} hp h1 h2 => List.mem_filter.mpr ⟨List.mem_append_left _ hp, decide_eq_true ⟨h1, h2, fun e => hoff _ h128 p hp e.symm⟩⟩
    have hmn : ∀ {p : Addr × Obj}, p ∈ news → p.1 ≠ 128 → p ∈ (tl ++ news).filter fun p => decide (p.1 ≠ b ∧ p.1 ≠ db ∧ p.1 ≠ 128) := fun {p} hp h1 => List.mem_filter.mpr ⟨List.mem_append_right _ hp, decide_eq_true ⟨hoff p hp _ hb, hoff p hp _ hdb, h1⟩⟩
    have hll : ∀ l us c, (l, listOf us c) ∈ tl → l ≠ b ∧ l ≠ db := fun l us c hm => ⟨news_ne N5 (List.mem_append_left _ hm) (List.mem_append_left _ hb) (by intro e; exact absurd (congrArg Obj.cls e) (by simp)), news_ne N5 (List.mem_append_left _ hm) (List.mem_append_left _ hdb) (by intro e; exact absurd (congrArg Obj.cls e) (by simp))⟩
    have hcc : ∀ q ∈ news, q.1 < cc := fun q hq => by
      by_cases e : q.1 = 128
      · rw [e]; exact hlt (128, tabObj ps) (List.mem_cons_of_mem _ (List.mem_cons_of_mem _ (List.mem_cons_self ..)))
      · exact hlt q (List.mem_cons_of_mem _ (List.mem_cons_of_mem _ (List.mem_cons_of_mem _ (hmn hq e))))
    refine hret _ _ _ _ kF (fun p hp => kN p ?_) ⟨(lam, lo) :: (c', oc) :: (cc, oC) :: (b, bookO db (List.toArray es) ep) :: (db, dictOf [⟨hsh, .str (PySem.Str.ofString "_frozen") tkf, .ref lam⟩] 1) :: tl.filter fun p => decide (p.1 ≠ b ∧ p.1 ≠ db), b, ps, rfl, rfl, ⟨db, es, ep, lam, 1, hsh, tkf, lo, fd, [(lam, lo), (c', oc), (cc, oC)], ?_, ?_, ?_, ?_, hlam, List.mem_cons_self .., hfd, hbsys⟩, ?_⟩
    · simp only [List.cons_append, List.mem_cons, List.mem_append] at hp ⊢
      rcases hp with h | h | h | h | h | h | h | h
      · exact .inl h
      · exact .inr (.inl h)
      · exact .inr (.inr (.inl h))
      · exact .inr (.inr (.inr (.inl h)))
      · exact .inr (.inr (.inr (.inr (.inl h))))
      · obtain ⟨h1, h2⟩ := List.mem_filter.mp h
        exact .inr (.inr (.inr (.inr (.inr (.inr (hmt h1 (of_decide_eq_true h2).1 (of_decide_eq_true h2).2))))))
      · exact .inr (.inr (.inr (.inr (.inr (.inl h)))))
      · obtain ⟨h1, h2⟩ := List.mem_filter.mp h
        exact .inr (.inr (.inr (.inr (.inr (.inr (hmn h1 (of_decide_eq_true h2)))))))
    · simp
    · simp
    · have := hE.mono_list (tl' := (lam, lo) :: (c', oc) :: (cc, oC) :: (b, bookO db (List.toArray es) ep) :: (db, dictOf [⟨hsh, .str (PySem.Str.ofString "_frozen") tkf, .ref lam⟩] 1) :: tl.filter fun p => decide (p.1 ≠ b ∧ p.1 ≠ db)) (k' := 10) (fun l us' c hm => List.mem_cons_of_mem _ (List.mem_cons_of_mem _ (List.mem_cons_of_mem _ (List.mem_cons_of_mem _ (List.mem_cons_of_mem _ (List.mem_filter.mpr ⟨hm, decide_eq_true (hll l us' c hm)⟩)))))) (by simp only [List.length_nil] at hiy; omega)
      rw [← hfold]
      exact this
    · intro p hp
      simp only [List.mem_cons, List.not_mem_nil, or_false] at hp
      rcases hp with h | h | h <;> simp [h]
    · intro q hq p hp
      have hq1 := hcc q hq
      rcases List.mem_cons.mp hp with h | hp
      · rw [h]; exact Nat.ne_of_lt (Nat.lt_trans hq1 (Nat.lt_trans hlt2 hlt3))
      rcases List.mem_cons.mp hp with h | hp
      · rw [h]; exact Nat.ne_of_lt (Nat.lt_trans hq1 hlt2)
      rcases List.mem_cons.mp hp with h | hp
      · rw [h]; exact Nat.ne_of_lt hq1
      rcases List.mem_cons.mp hp with h | hp
      · rw [h]; exact hoff q hq _ hb
      rcases List.mem_cons.mp hp with h | hp
      · rw [h]; exact hoff q hq (db, dictOf [] 0) hdb
      · exact hoff q hq p (List.mem_filter.mp hp).1
end Mine
end
section
open PySem PySem.W PySem.Calls PySem.Spec PyProof.Rows PyProof.V
set_option maxRecDepth 100000
set_option maxHeartbeats 4000000
namespace Mine
theorem cells_sub {L : Addr} {o1 o2 o3 o4 o5 o6 o7 o8 tab : Obj} {rest rest' : List (Addr × Obj)} (h : ∀ p ∈ rest, p ∈ rest') : ∀ p ∈ cellsL L o1 o2 o3 o4 o5 o6 o7 o8 tab rest, p ∈ cellsL L o1 o2 o3 o4 o5 o6 o7 o8 tab rest' := by
  intro p hp
  simp only [cellsL, List.mem_cons] at hp ⊢
  rcases hp with h3 | h3 | h3 | h3 | h3 | h3 | h3 | h3 | h3 | h3
  case inr.inr.inr.inr.inr.inr.inr.inr.inr => simp [h p h3]
  all_goals simp [h3]
theorem rowsFrom_at (f : Nat → Int → Dat) : ∀ (k : Nat) (xs : List Int) (i : Nat) (x : Int), xs[i]? = some x → (rowsFrom f k xs)[i]? = some (f (k + i) x)
  | _, [], _, _, h => by simp at h
  | k, y :: ys, 0, x, h => by
    have e : y = x := by simpa using h
    rw [e]; rfl
  | k, y :: ys, i + 1, x, h => by
    have q := rowsFrom_at f (k + 1) ys i x (by simpa using h)
    rw [show k + (i + 1) = k + 1 + i by omega]
    exact q
theorem rowsFrom_get {f : Nat → Int → Dat} {xs : List Int} {i : Nat} {x : Int} (h : xs[i]? = some x) : (rowsFrom f 0 xs)[i]? = some (f i x) := by
  have q := rowsFrom_at f 0 xs i x h
  rwa [Nat.zero_add] at q
/-- new objects behind a slice, put into the ledger's tail -/
theorem led_grow {hb h : Heap} {L : Addr} {o1 o2 o3 o4 o5 o6 o7 o8 tab : Obj} {xs R : List (Addr × Obj)} (N : News hb L h (xs ++ cellsL L o1 o2 o3 o4 o5 o6 o7 o8 tab R)) (hlt : ∀ p ∈ cellsL L o1 o2 o3 o4 o5 o6 o7 o8 tab R, ∀ q ∈ xs, p.1 < q.1) (hR : ∀ p ∈ R, OffC L p.1) :
    News hb L h (cellsL L o1 o2 o3 o4 o5 o6 o7 o8 tab (xs ++ R)) ∧ ∀ p ∈ xs ++ R, OffC L p.1 := by
  refine ⟨news_in (xs := xs) N, fun p hp => ?_⟩
  rcases List.mem_append.mp hp with hp | hp
  · have h1 : @LT.lt Nat _ (L + 1 + 1 + 1 + 1 + 1 + 1 + 1 + 1) p.1 := hlt (L + 1 + 1 + 1 + 1 + 1 + 1 + 1 + 1, o8) (by simp [cellsL]) p hp
    have h2 : @LT.lt Nat _ 128 p.1 := hlt (128, tab) (by simp [cellsL]) p hp
    dsimp only [OffC]; omega
  · exact hR p hp
end Mine
end
section
open PySem PySem.W PySem.Calls PySem.Spec PyProof.Rows PyProof.V
set_option maxRecDepth 100000
set_option maxHeartbeats 4000000
namespace Mine
noncomputable def dirL {α : Type} (z : Int) (l : List α) : List α := if z = 1 then l else l.reverse
section
variable {prog : Program} {w : World} {A : Around} {E : Value → Shared → Prop} {s : Shared} {h₀ : Heap} {L : Addr} {m : PySem.Str → Option Value} {news : List (Addr × Obj)}
theorem cut_dir {value slice : PySem.Expr} {t : Addr} {items : List Value} {z : Int} {i : Tok} {n : Nat} {Q : Value → Shared → Prop} (hz : z = 1 ∨ z = -1) (F : Fr h₀ L s.heap m) (N : News h₀ L s.heap news) (ht : (t, ({ cls := .type "tuple", data := .seq items.toArray n } : Obj)) ∈ news)
    (h1 : tSame items.length none none (some 1) = true) (h2 : tSame items.length none none (some (-1)) = false) (h3 : tPick items none none (some 1) = items) (h4 : tPick items none none (some (-1)) = items.reverse) (h5 : items.length ≤ 1000)
    (h : ∀ T h' xs c, PlainAll xs → Fr h₀ L h' m → News h₀ L h' (xs ++ news) → (∀ p ∈ news, ∀ q ∈ xs, p.1 < q.1) → (T, ({ cls := .type "tuple", data := .seq (dirL z items).toArray c } : Obj)) ∈ xs ++ news → Q (.ref T) { s with heap := h' })
    (hs : subscripted slice false (.ref t) (.ref s.heap.objs.size) = operate [.ref t, .ref s.heap.objs.size] (getItem (.ref t) (.ref s.heap.objs.size))) (hg : ∀ r, letTemporaryGo value (.ref t) r = pure ()) :
    wpAny (model prog w) A (subscriptTail value slice (.ref t) (.ref s.heap.objs.size)) Q E { s with heap := s.heap.push { cls := .type "slice", data := .fields #[.none, .none, .int z i] } } := by
  have hT : IsTup s.heap t items.toArray := News.isTup N ht
  rcases hz with rfl | rfl
  · refine slice_tup_same F N hT .none .none (.int _ _) (by simp) h1 (by rw [h3, sizeLine_eq]; omega) (fun h' F' N' => ?_) hs hg
    exact h t h' [] n trivial F' N' (fun _ _ _ q => nomatch q) (by unfold dirL; rw [if_pos rfl]; exact ht)
  · refine slice_tup_new F N hT .none .none (.int _ _) (by simp) h2 h4 (by rw [List.length_reverse, sizeLine_eq]; omega) (fun T h' F' N' l => ?_) hs hg
    refine h T h' [_] 0 ⟨plain_tup, trivial⟩ F' N' (fun p hp q hq => by rw [List.mem_singleton.mp hq]; exact l p hp) ?_
    unfold dirL
    rw [if_neg (by decide)]
    exact List.mem_cons_self ..
end
end Mine
end
section
open PySem PySem.W PySem.Calls PySem.Spec PyProof.Rows PyProof.V
set_option maxRecDepth 100000
set_option maxHeartbeats 4000000
namespace Mine
section
variable {prog : Program} {w : World} {A : Around} {E : Value → Shared → Prop} {R : Result → Shared → Prop} {s : Shared} {env : Env} {h₀ : Heap}
/-- a further clause of a comprehension, over a list of the ledger -/
theorem in_list {elt target iter : PySem.Expr} {ifs : List PySem.Expr} {gens : List Comprehension} {scope : Scope} {pos : Pos} {d : Nat} {acc : Value} {l : Addr} {c : Nat} {vs : List Value} {m₀ : PySem.Str → Option Value} {news : List (Addr × Obj)}
    (hg : gens[d]? = some ⟨target, iter, ifs, 0⟩) (hz : ∀ g, gens[d+1]? = some g → g.is_async = 0) (C : List Value → (PySem.Str → Option Value) → List (Addr × Obj) → Prop) (hh : A.handled = none)
    (F : Fr h₀ env.locals s.heap m₀) (N : News h₀ env.locals s.heap news) (hax : ∀ r m n, C r m n → (l, listOf vs.toArray c) ∈ n) (hC : C vs m₀ news)
    (turn : ∀ v r m₁ n₁ h₁ tk₁ its (E : Value → Shared → Prop), C (v :: r) m₁ n₁ → (∃ p, its = [p]) → (∀ p ∈ n₁, ∀ q ∈ its, p.1 ≠ q.1) → Fr h₀ env.locals h₁ m₁ → News h₀ env.locals h₁ (its ++ n₁) →
      wpAny (model prog w) A (assign target env v) (fun _ s₃ => CompBody prog w A E ifs (CInner prog w A E elt gens scope pos d acc env) env (fun _ => CEnd h₀ env.locals its { s with heap := h₁, toks := tk₁ } (C r)) s₃) E { s with heap := h₁, toks := tk₁ })
    (done : ∀ m₁ n₁ h tk, C [] m₁ n₁ → Fr h₀ env.locals h m₁ → News h₀ env.locals h n₁ → R (.ok .next) { s with heap := h, toks := tk }) :
    wpAny (model prog w) A (pyIter (.ref l)) (fun it s₁ => codeAny (model prog w) A (.compStart (.ListComp elt gens scope pos) d it acc env) R s₁) E s := by
  have hm := hax _ _ _ hC
  have hol := N _ hm
  have hls : s.heap.IsList l vs.toArray := ⟨_, hol.1, rfl, c, rfl⟩
  have hLs : env.locals < s.heap.objs.size := F.ns.lt
  refine wpAny_pyIter_list hls ?_
  have up : ∀ b o, s.heap.get? b = some o → (s.heap.push { cls := .type "list_iterator", data := .fields #[.ref l, .int 0 0] }).get? b = some o := fun b o e => Heap.get?_push_of_some _ e
  have hI₀ : h₀.get? s.heap.objs.size = none := ktu_new F (Nat.le_refl _)
  have hnl : ∀ p ∈ news, p.1 < s.heap.objs.size := fun p hp => Heap.lt_size (N p hp).1
  refine comp_loop (h₀ := h₀) hg hz ?_
  refine comp_list (I := s.heap.objs.size) (ax := l) (c := c) (vs := vs) C bears_inner hh (F.keeps up) (N.grown up) hax hC ⟨_, Heap.get?_push_size _ rfl, rfl, rfl⟩ hI₀ (Nat.ne_of_lt hLs) (fun p hp => Nat.ne_of_lt (hnl p hp)) ?_ ?_
  · intro v r m₁ n₁ h₂ tk₁ its E' a1 a2 a3 a4 a5
    exact turn v r m₁ n₁ h₂ tk₁ its E' a1 a2 a3 a4 a5
  · intro m₁ n₁ h tk hc F' N'
    exact done m₁ n₁ h tk hc F' N'
end
end Mine
end
section
open PySem PySem.W PySem.Calls PySem.Spec PyProof.Rows PyProof.V
set_option maxRecDepth 100000
set_option maxHeartbeats 4000000
namespace Mine
noncomputable def keyS : Dat → PySem.Str
  | .tuple (.str a :: _) => a
  | _ => PySem.Str.ofString ""
noncomputable def keyN : Dat → Int
  | .tuple (_ :: .int a :: _) => a
  | _ => 0
noncomputable def pickS (ds : List Dat) (x : PySem.Str) : List Dat := ds.filter fun d => decide (keyS d = x)
noncomputable def pickN (ds : List Dat) (x : Int) : List Dat := ds.filter fun d => decide (keyN d = x)
noncomputable def Row3 (d : Dat) : Prop := ∃ a n c, d = .tuple [.str a, .int n, .str c]
theorem row3_left {xs : List Int} : ∀ {k : Nat}, ∀ d ∈ rowsFrom leftRow k xs, Row3 d := by
  induction xs with
  | nil => intro k d hd; cases hd
  | cons x xs ih =>
    intro k d hd
    rcases List.mem_cons.mp hd with h | h
    · exact ⟨_, _, _, h⟩
    · exact ih d h
theorem flat_len {α β : Type} (f : α → List β) (n : Nat) (h : ∀ a, (f a).length ≤ n) : ∀ xs : List α, (xs.flatMap f).length ≤ xs.length * n
  | [] => by simp
  | x :: xs => by
    rw [List.flatMap_cons, List.length_append, List.length_cons, Nat.succ_mul]
    have := flat_len f n h xs
    have := h x
    omega
theorem pickS_len {ds : List Dat} {x : PySem.Str} : (pickS ds x).length ≤ ds.length := List.length_filter_le ..
theorem pickN_len {ds : List Dat} {x : Int} : (pickN ds x).length ≤ ds.length := List.length_filter_le ..
theorem row3_pickS {ds : List Dat} (h : ∀ d ∈ ds, Row3 d) (x : PySem.Str) : ∀ d ∈ pickS ds x, Row3 d := fun d hd => h d (List.mem_filter.mp hd).1
theorem row3_pickN {ds : List Dat} (h : ∀ d ∈ ds, Row3 d) (x : Int) : ∀ d ∈ pickN ds x, Row3 d := fun d hd => h d (List.mem_filter.mp hd).1
theorem row3_flat {α : Type} {f : α → List Dat} (h : ∀ a, ∀ d ∈ f a, Row3 d) {xs : List α} : ∀ d ∈ xs.flatMap f, Row3 d := fun d hd => by
  obtain ⟨a, _, ha⟩ := List.mem_flatMap.mp hd
  exact h a d ha
noncomputable def theWords : List PySem.Str := ["", "B", "a", "a b", "a=b", "ab", "b"].map PySem.Str.ofString
noncomputable def theNums : List Int := [-3, 0, 7, 10, 100]
end Mine
end
section
open PySem PySem.W PySem.Calls PySem.Spec PyProof.Rows PyProof.V
set_option maxRecDepth 100000
set_option maxHeartbeats 4000000
namespace Mine
theorem words_dir {n : List (Addr × Obj)} {z : Int} (t0 t1 t2 t3 t4 t5 t6 : Tok) : DatAll n (dirL z [Value.str (PySem.Str.ofString "") t0, .str (PySem.Str.ofString "B") t1, .str (PySem.Str.ofString "a") t2, .str (PySem.Str.ofString "a b") t3, .str (PySem.Str.ofString "a=b") t4, .str (PySem.Str.ofString "ab") t5, .str (PySem.Str.ofString "b") t6]) ((dirL z theWords).map Dat.str) := by
  unfold dirL
  split
  · exact .cons (.str _ _) (.cons (.str _ _) (.cons (.str _ _) (.cons (.str _ _) (.cons (.str _ _) (.cons (.str _ _) (.cons (.str _ _) .nil))))))
  · exact .cons (.str _ _) (.cons (.str _ _) (.cons (.str _ _) (.cons (.str _ _) (.cons (.str _ _) (.cons (.str _ _) (.cons (.str _ _) .nil))))))
theorem nums_dir {n : List (Addr × Obj)} {z : Int} (t0 t1 t2 t3 t4 : Tok) : DatAll n (dirL z [Value.int (-3) t0, .int 0 t1, .int 7 t2, .int 10 t3, .int 100 t4]) ((dirL z theNums).map Dat.int) := by
  unfold dirL
  split
  · exact .cons (.int _ _) (.cons (.int _ _) (.cons (.int _ _) (.cons (.int _ _) (.cons (.int _ _) .nil))))
  · exact .cons (.int _ _) (.cons (.int _ _) (.cons (.int _ _) (.cons (.int _ _) (.cons (.int _ _) .nil))))
theorem dirL_length {α : Type} (z : Int) (l : List α) : (dirL z l).length = l.length := by
  unfold dirL; split <;> simp
theorem worded_len {z : Int} {ds : List Dat} (h : ds.length ≤ 10) : ((dirL z theWords).flatMap (pickS ds)).length ≤ 70 := by
  have := flat_len (pickS ds) ds.length (fun _ => pickS_len) (dirL z theWords)
  rw [dirL_length, show theWords.length = 7 from rfl] at this
  omega
theorem turned_len {z : Int} {ds : List Dat} (h : ds.length ≤ 70) : ((dirL z theNums).flatMap (pickN ds)).length ≤ 350 := by
  have := flat_len (pickN ds) ds.length (fun _ => pickN_len) (dirL z theNums)
  rw [dirL_length, show theNums.length = 5 from rfl] at this
  omega
theorem pickS_hit {ra x : PySem.Str} {l rs : List Dat} (h : (ra == x) = true) : pickS (.tuple (.str ra :: l) :: rs) x = .tuple (.str ra :: l) :: pickS rs x := by
  unfold pickS
  rw [List.filter_cons_of_pos]
  have e : ra = x := by simpa using h
  simp [keyS, e]
theorem pickS_miss {ra x : PySem.Str} {l rs : List Dat} (h : (ra == x) = false) : pickS (.tuple (.str ra :: l) :: rs) x = pickS rs x := by
  unfold pickS
  rw [List.filter_cons_of_neg]
  have e : ra ≠ x := by simpa using h
  simp [keyS, e]
theorem pickN_hit {d : Dat} {ra x : Int} {l rs : List Dat} (h : ra = x) : pickN (.tuple (d :: .int ra :: l) :: rs) x = .tuple (d :: .int ra :: l) :: pickN rs x := by
  unfold pickN
  rw [List.filter_cons_of_pos]
  simp [keyN, h]
theorem pickN_miss {d : Dat} {ra x : Int} {l rs : List Dat} (h : ra ≠ x) : pickN (.tuple (d :: .int ra :: l) :: rs) x = pickN rs x := by
  unfold pickN
  rw [List.filter_cons_of_neg]
  simp [keyN, h]
end Mine
end
section
open PySem PySem.W PySem.Calls PySem.Spec PyProof.Rows PyProof.V
set_option maxRecDepth 100000
namespace Mine
theorem word_strOk : ∀ i : Fin 7, PyData.strOk (wordOf i.1) = true := by decide +kernel
theorem called_strOk : ∀ i : Fin 6, PyData.strOk (calledOf i.1) = true := by decide +kernel
theorem lower_strOk : ∀ i : Fin 10, PyData.strOk (chrS (97 + i.1)) = true := by decide +kernel
theorem upper_strOk : ∀ i : Fin 10, PyData.strOk (chrS (65 + i.1) ++ PySem.Str.ofString "=") = true := by decide +kernel
theorem rowsFrom_mem' {f : Nat → Int → Dat} : ∀ {k : Nat} {xs : List Int} {d : Dat}, d ∈ rowsFrom f k xs → ∃ j x, j < k + xs.length ∧ d = f j x
  | k, [], d, h => by cases h
  | k, x :: xs, d, h => by
    rcases List.mem_cons.mp h with h | h
    · exact ⟨k, x, by simp, h⟩
    · obtain ⟨j, y, hj, e⟩ := rowsFrom_mem' h
      exact ⟨j, y, by simp only [List.length_cons]; omega, e⟩
theorem left_kqd {xs : List Int} (hx : xs.length ≤ 10) : ∀ d ∈ rowsFrom leftRow 0 xs, kqdOk 8 d = true := fun d hd => by
  obtain ⟨j, x, hj, rfl⟩ := rowsFrom_mem' hd
  have h1 := word_strOk ⟨wi x, wi_lt x⟩
  have h2 := lower_strOk ⟨j, by omega⟩
  simp only [leftRow, kqdOk, List.all_cons, List.all_nil, Bool.and_true] at *
  simp [h1, h2]
theorem flat_mem {α : Type} {f : α → List Dat} {rows : List Dat} (h : ∀ a, ∀ d ∈ f a, d ∈ rows) {xs : List α} : ∀ d ∈ xs.flatMap f, d ∈ rows := fun d hd => by
  obtain ⟨a, _, ha⟩ := List.mem_flatMap.mp hd
  exact h a d ha
theorem pickS_mem {ds : List Dat} {x : PySem.Str} : ∀ d ∈ pickS ds x, d ∈ ds := fun d hd => (List.mem_filter.mp hd).1
theorem pickN_mem {ds : List Dat} {x : Int} : ∀ d ∈ pickN ds x, d ∈ ds := fun d hd => (List.mem_filter.mp hd).1
end Mine
end
section
open PySem PySem.W PySem.Calls PySem.Spec PyProof.Rows PyProof.V
set_option maxRecDepth 100000
set_option maxHeartbeats 4000000
namespace Mine
/-- a row, and one of the right values behind it -/
noncomputable def extD : Dat → PySem.Str → Dat
  | .tuple l, o => .tuple (l ++ [.str o])
  | d, _ => d
noncomputable def under (bd : List (PySem.Str × List PySem.Str)) (x : PySem.Str) : List PySem.Str := (bd.lookup x).getD []
noncomputable def foundIn (bd : List (PySem.Str × List PySem.Str)) (x : PySem.Str) (ds : List Dat) : List Dat := ds.flatMap fun d => (under bd x).map (extD d)
noncomputable def foundFor (bd : List (PySem.Str × List PySem.Str)) (rk : List Dat) (x : PySem.Str) : List Dat := foundIn bd x (pickS rk x)
theorem foundIn_cons {bd : List (PySem.Str × List PySem.Str)} {x : PySem.Str} {d : Dat} {ds : List Dat} : foundIn bd x (d :: ds) = (under bd x).map (extD d) ++ foundIn bd x ds := List.flatMap_cons ..
theorem foundIn_len {bd : List (PySem.Str × List PySem.Str)} {x : PySem.Str} {ds : List Dat} (h : (under bd x).length ≤ 10) : (foundIn bd x ds).length ≤ ds.length * 10 :=
  flat_len _ 10 (fun _ => by rw [List.length_map]; exact h) ds
theorem found_len {bd : List (PySem.Str × List PySem.Str)} (h : ∀ x, (under bd x).length ≤ 10) {rk : List Dat} (hr : rk.length ≤ 350) {z : Int} : ((dirL z theWords).flatMap (foundFor bd rk)).length ≤ 24500 := by
  have := flat_len (foundFor bd rk) 3500 (fun x => Nat.le_trans (foundIn_len (h x)) (by have := pickS_len (ds := rk) (x := x); omega)) (dirL z theWords)
  rw [dirL_length, show theWords.length = 7 from rfl] at this
  omega
theorem entIn_under {tl : List (Addr × Obj)} {k : Nat} {es : List DictEntry} {bd : List (PySem.Str × List PySem.Str)} (h : EntIn tl k es bd) (x : PySem.Str) : (under bd x).length ≤ k := by
  unfold under
  induction h with
  | nil => exact Nat.zero_le _
  | @cons hh z t l us c vs es bd h1 h2 h3 h4 h5 ih =>
    rw [List.lookup_cons]
    split
    · exact h3
    · exact ih
end Mine
end
section
open PySem PySem.W PySem.Calls PySem.Spec PyProof.Rows PyProof.V
set_option maxRecDepth 100000
set_option linter.unusedSectionVars false
namespace Mine
theorem rev_ind {α : Type} {P : List α → Prop} (nil : P []) (snoc : ∀ l a, P l → P (l ++ [a])) (l : List α) : P l := by
  have h : ∀ r : List α, P r.reverse := by
    intro r
    induction r with
    | nil => exact nil
    | cons a r ih => rw [List.reverse_cons]; exact snoc _ _ ih
  have := h l.reverse
  rwa [List.reverse_reverse] at this
/-- the place, where all behind are greater and the last ahead is not -/
theorem posD_at {cs : List (Nat × Int)} {row : Dat} {A : List Dat} (hA : ∀ d ∈ A, ¬ cmpDD cs d row > 0) : ∀ (B C : List Dat), (∀ d ∈ B, cmpDD cs d row > 0) → posD cs (A ++ B ++ C) row (A.length + B.length) = A.length := by
  intro B
  refine rev_ind (P := fun B => ∀ C : List Dat, (∀ d ∈ B, cmpDD cs d row > 0) → posD cs (A ++ B ++ C) row (A.length + B.length) = A.length) ?_ ?_ B
  · intro C _
    simp only [List.append_nil, List.length_nil, Nat.add_zero]
    revert hA
    refine rev_ind (P := fun A => (∀ d ∈ A, ¬ cmpDD cs d row > 0) → posD cs (A ++ C) row A.length = A.length) ?_ ?_ A
    · intro _; rfl
    · intro A a _ hA
      rw [List.length_append, List.length_singleton, posD]
      have e : (A ++ [a] ++ C)[A.length]? = some a := by simp
      rw [e]
      dsimp only
      rw [if_neg (hA a (by simp))]
  · intro B b ih C hB
    rw [List.length_append, List.length_singleton, ← Nat.add_assoc, posD]
    have e : (A ++ (B ++ [b]) ++ C)[A.length + B.length]? = some b := by
      rw [← List.append_assoc, ← List.length_append, List.append_assoc (A ++ B)]
      simp
    rw [e]
    dsimp only
    rw [if_pos (hB b (by simp))]
    have := ih ([b] ++ C) fun d hd => hB d (by simp [hd])
    simpa using this
theorem insD_at {cs : List (Nat × Int)} {row : Dat} {A B : List Dat} (hA : ∀ d ∈ A, ¬ cmpDD cs d row > 0) (hB : ∀ d ∈ B, cmpDD cs d row > 0) : insD cs (A ++ B) row = A ++ row :: B := by
  unfold insD
  have := posD_at hA B [] hB
  rw [List.append_nil] at this
  rw [List.length_append, this]
  simp
/-- the rows key by key -/
noncomputable def byKey {κ : Type} [DecidableEq κ] (key : Dat → κ) (ks : List κ) (l : List Dat) : List Dat := ks.flatMap fun k => l.filter fun d => decide (key d = k)
section
variable {κ : Type} [DecidableEq κ] {key : Dat → κ} {cs : List (Nat × Int)} {c : κ → κ → Int}
theorem byKey_mem {ks : List κ} {l : List Dat} {d : Dat} (h : d ∈ byKey key ks l) : d ∈ l ∧ key d ∈ ks := by
  obtain ⟨k, hk, hd⟩ := List.mem_flatMap.mp h
  obtain ⟨h1, h2⟩ := List.mem_filter.mp hd
  exact ⟨h1, by rw [of_decide_eq_true h2]; exact hk⟩
theorem byKey_snoc_out {ks : List κ} {l : List Dat} {d : Dat} (h : key d ∉ ks) : byKey key ks (l ++ [d]) = byKey key ks l := by
  induction ks with
  | nil => rfl
  | cons k ks ih =>
    unfold byKey at ih ⊢
    rw [List.flatMap_cons, List.flatMap_cons, ih (fun q => h (List.mem_cons_of_mem _ q)), List.filter_append]
    have : ¬ key d = k := fun e => h (by rw [e]; exact List.mem_cons_self ..)
    simp [this]
theorem byKey_append {ks ks' : List κ} {l : List Dat} : byKey key (ks ++ ks') l = byKey key ks l ++ byKey key ks' l := List.flatMap_append ..
theorem byKey_snoc {ks ks' : List κ} {l : List Dat} {d : Dat} (h : key d ∉ ks) (h' : key d ∉ ks') : byKey key (ks ++ key d :: ks') (l ++ [d]) = byKey key (ks ++ [key d]) l ++ d :: byKey key ks' l := by
  rw [show ks ++ key d :: ks' = ks ++ ([key d] ++ ks') from rfl, byKey_append, byKey_append, byKey_append, byKey_snoc_out h, byKey_snoc_out h']
  have : byKey key [key d] (l ++ [d]) = byKey key [key d] l ++ [d] := by
    simp [byKey, List.filter_append]
  rw [this]
  simp
/-- the order of the keys is the judge's -/
structure KeysOk (c : κ → κ → Int) (ks : List κ) : Prop where
  pair : ks.Pairwise fun k k' => c k k' < 0 ∧ c k' k > 0
  refl : ∀ k ∈ ks, c k k = 0
theorem KeysOk.ne {c : κ → κ → Int} {a b : List κ} {k : κ} (h : KeysOk c (a ++ k :: b)) : k ∉ a ∧ k ∉ b := by
  have hr := h.refl k (by simp)
  have hp := List.pairwise_append.mp h.pair
  refine ⟨fun q => ?_, fun q => ?_⟩
  · have := hp.2.2 k q k (List.mem_cons_self ..)
    omega
  · have := (List.pairwise_cons.mp hp.2.1).1 k q
    omega
theorem ins_byKey {ks : List κ} {l : List Dat} {d : Dat} (K : KeysOk c ks) (hd : key d ∈ ks) (hc : ∀ e ∈ l, cmpDD cs e d = c (key e) (key d)) : insD cs (byKey key ks l) d = byKey key ks (l ++ [d]) := by
  obtain ⟨a, b, e⟩ := List.append_of_mem hd
  have hne := (e ▸ K).ne
  have hp := List.pairwise_append.mp (e ▸ K.pair)
  rw [e, byKey_snoc hne.1 hne.2, show a ++ key d :: b = (a ++ [key d]) ++ b by simp, byKey_append (ks := a ++ [key d]), insD_at]
  · intro x hx
    obtain ⟨h1, h2⟩ := byKey_mem hx
    rw [hc x h1]
    rcases List.mem_append.mp h2 with h2 | h2
    · have := hp.2.2 _ h2 (key d) (List.mem_cons_self ..)
      omega
    · rw [List.mem_singleton.mp h2, K.refl _ hd]
      omega
  · intro x hx
    obtain ⟨h1, h2⟩ := byKey_mem hx
    rw [hc x h1]
    exact ((List.pairwise_cons.mp hp.2.1).1 _ h2).2
theorem sort_byKey {ks : List κ} (K : KeysOk c ks) : ∀ (l acc : List Dat), (∀ d ∈ acc ++ l, key d ∈ ks) → (∀ d ∈ acc ++ l, ∀ e ∈ acc ++ l, cmpDD cs e d = c (key e) (key d)) → l.foldl (insD cs) (byKey key ks acc) = byKey key ks (acc ++ l)
  | [], acc, _, _ => by simp
  | d :: l, acc, h, hc => by
    rw [List.foldl_cons, ins_byKey K (h d (by simp)) (fun e he => hc d (by simp) e (by simp [he])), sort_byKey K l (acc ++ [d]) (by simpa using h) (by simpa using hc)]
    simp
theorem sortD_byKey {ks : List κ} {l : List Dat} (K : KeysOk c ks) (h : ∀ d ∈ l, key d ∈ ks) (hc : ∀ d ∈ l, ∀ e ∈ l, cmpDD cs e d = c (key e) (key d)) : sortD cs l = byKey key ks l := by
  have := sort_byKey (key := key) (cs := cs) K l [] h hc
  have e : byKey key ks [] = [] := by unfold byKey; simp
  rw [e] at this
  exact this
/-- two sorted lists side by side -/
theorem side_keys {L R : κ → List Dat} : ∀ (ks : List κ) (P out : List Dat), KeysOk c ks → (∀ k ∈ ks, ∀ d ∈ L k, key d = k) → (∀ k ∈ ks, ∀ d ∈ R k, key d = k) →
    (∀ d ∈ ks.flatMap L, ∀ e ∈ P ++ ks.flatMap R, cmpDD cs e d = c (key e) (key d)) → (∀ e ∈ P, ∀ k ∈ ks, c (key e) k < 0) →
    ((ks.flatMap L).foldl (sideStep cs) (P ++ ks.flatMap R, out)).2 = out ++ ks.flatMap fun k => (L k).flatMap fun d => (R k).map (glue d)
  | [], P, out, _, _, _, _, _ => by simp
  | k :: ks, P, out, K, hL, hR, hc, hP => by
    have hp := List.pairwise_cons.mp K.pair
    have hkk := K.refl k (List.mem_cons_self ..)
    have K' : KeysOk c ks := ⟨hp.2, fun j hj => K.refl j (List.mem_cons_of_mem _ hj)⟩
    have one : ∀ d ∈ L k, ∀ (P' o : List Dat), (∀ e ∈ P', e ∈ P) → sideStep cs (P' ++ (R k ++ ks.flatMap R), o) d = ([] ++ (R k ++ ks.flatMap R), o ++ (R k).map (glue d)) := by
      intro d hd P' o hP'
      have hdk := hL k (List.mem_cons_self ..) d hd
      have hdm : d ∈ (k :: ks).flatMap L := List.mem_flatMap.mpr ⟨k, List.mem_cons_self .., hd⟩
      have cP : ∀ e ∈ P', cmpDD cs e d < 0 := fun e he => by
        rw [hc d hdm e (List.mem_append_left _ (hP' e he)), hdk]
        exact hP e (hP' e he) k (List.mem_cons_self ..)
      have cR : ∀ e ∈ R k, cmpDD cs e d = 0 := fun e he => by
        rw [hc d hdm e (List.mem_append_right _ (List.mem_flatMap.mpr ⟨k, List.mem_cons_self .., he⟩)), hdk, hR k (List.mem_cons_self ..) e he]
        exact hkk
      have cS : ∀ e ∈ ks.flatMap R, cmpDD cs e d > 0 := fun e he => by
        obtain ⟨j, hj, hej⟩ := List.mem_flatMap.mp he
        rw [hc d hdm e (List.mem_append_right _ (List.mem_flatMap.mpr ⟨j, List.mem_cons_of_mem _ hj, hej⟩)), hdk, hR j (List.mem_cons_of_mem _ hj) e hej]
        exact (hp.1 j hj).2
      have hdrop : restD cs (P' ++ (R k ++ ks.flatMap R)) d = R k ++ ks.flatMap R := by
        unfold restD
        rw [List.dropWhile_append_of_pos (fun e he => decide_eq_true (cP e he))]
        cases hx : R k ++ ks.flatMap R with
        | nil => rfl
        | cons x xs =>
          rw [List.dropWhile_cons, if_neg]
          rw [decide_eq_true_eq]
          have : x ∈ R k ++ ks.flatMap R := by rw [hx]; exact List.mem_cons_self ..
          rcases List.mem_append.mp this with h | h
          · rw [cR x h]; omega
          · have := cS x h; omega
      have htake : hitsD cs (R k ++ ks.flatMap R) d = (R k).map (glue d) := by
        unfold hitsD
        rw [List.takeWhile_append_of_pos (fun e he => decide_eq_true (cR e he))]
        have : List.takeWhile (fun x => decide (cmpDD cs x d = 0)) (ks.flatMap R) = [] := by
          cases hx : ks.flatMap R with
          | nil => rfl
          | cons x xs =>
            rw [List.takeWhile_cons, if_neg]
            rw [decide_eq_true_eq]
            have := cS x (by rw [hx]; exact List.mem_cons_self ..)
            omega
        rw [this, List.append_nil]
      unfold sideStep
      dsimp only
      rw [hdrop, htake]
      rfl
    have many : ∀ (ls : List Dat), (∀ d ∈ ls, d ∈ L k) → ∀ (P' o : List Dat), (∀ e ∈ P', e ∈ P) → ∃ P'', (∀ e ∈ P'', e ∈ P) ∧ ls.foldl (sideStep cs) (P' ++ (R k ++ ks.flatMap R), o) = (P'' ++ (R k ++ ks.flatMap R), o ++ ls.flatMap fun d => (R k).map (glue d)) := by
      intro ls
      induction ls with
      | nil => intro _ P' o hP'; exact ⟨P', hP', by simp⟩
      | cons d ls ih =>
        intro hls P' o hP'
        rw [List.foldl_cons, one d (hls d (List.mem_cons_self ..)) P' o hP']
        obtain ⟨P'', h1, h2⟩ := ih (fun e he => hls e (List.mem_cons_of_mem _ he)) [] (o ++ (R k).map (glue d)) (fun _ h => nomatch h)
        exact ⟨P'', h1, by rw [h2]; simp⟩
    rw [List.flatMap_cons, List.flatMap_cons, List.foldl_append]
    obtain ⟨P'', h1, h2⟩ := many (L k) (fun _ h => h) P out (fun _ h => h)
    rw [h2, ← List.append_assoc, side_keys ks (P'' ++ R k) _ K' (fun j hj => hL j (List.mem_cons_of_mem _ hj)) (fun j hj => hR j (List.mem_cons_of_mem _ hj)) ?_ ?_]
    · simp
    · intro d hd e he
      refine hc d ?_ e ?_
      · rw [List.flatMap_cons]; exact List.mem_append_right _ hd
      · rw [List.flatMap_cons]
        simp only [List.mem_append] at he ⊢
        rcases he with (he | he) | he
        · exact .inl (h1 e he)
        · exact .inr (.inl he)
        · exact .inr (.inr he)
    · intro e he j hj
      rcases List.mem_append.mp he with he | he
      · exact hP e (h1 e he) j (List.mem_cons_of_mem _ hj)
      · rw [hR k (List.mem_cons_self ..) e he]
        exact (hp.1 j hj).1
end
end Mine
end
section
open PySem PySem.W PySem.Calls PySem.Spec PyProof.Rows PyProof.V
set_option maxRecDepth 100000
set_option maxHeartbeats 4000000
namespace Mine
theorem addV_length (bd : List (PySem.Str × List PySem.Str)) (n v : PySem.Str) : (addV bd n v).length ≤ bd.length + 1 := by
  induction bd with
  | nil => simp [addV]
  | cons p r ih =>
    obtain ⟨m, vs⟩ := p
    unfold addV
    split
    · simp
    · simp only [List.length_cons]; omega
theorem addRow_length (bd : List (PySem.Str × List PySem.Str)) (d : Dat) : (addRow bd d).length ≤ bd.length + 1 := by
  unfold addRow
  split
  · exact addV_length ..
  · omega
theorem fold_length : ∀ (rows : List Dat) (bd : List (PySem.Str × List PySem.Str)), (rows.foldl addRow bd).length ≤ bd.length + rows.length
  | [], bd => by simp
  | d :: rows, bd => by
    have q := fold_length rows (addRow bd d)
    have q2 := addRow_length bd d
    simp only [List.foldl_cons, List.length_cons]
    omega
theorem bookD_length (rows : List Dat) : (bookD rows).length ≤ rows.length := by
  have := fold_length rows []
  simpa [bookD] using this
theorem EntIn.keys {tl n : List (Addr × Obj)} {k : Nat} {es : List DictEntry} {bd : List (PySem.Str × List PySem.Str)} (h : EntIn tl k es bd) : ∀ {vs : List Value}, vs.length = es.length → (∀ (j : Nat) (v : Value), vs[j]? = some v → ∃ e : DictEntry, es[j]? = some e ∧ v = e.key) → DatAll n vs (bd.map fun p => Dat.str p.1) := by
  induction h with
  | nil =>
    intro vs hl _
    cases vs with
    | nil => exact .nil
    | cons v vs => simp at hl
  | @cons hh z t l us c ws es bd h1 h2 h3 h4 h5 ih =>
    intro vs hl hv
    cases vs with
    | nil => simp at hl
    | cons v vs =>
      obtain ⟨e, he, rfl⟩ := hv 0 v rfl
      simp only [List.getElem?_cons_zero, Option.some.injEq] at he
      subst he
      exact .cons (.str _ _) (ih (by simpa using hl) fun j u hu => by simpa using hv (j + 1) u (by simpa using hu))
end Mine
end
section
open PySem PySem.W PySem.Calls PySem.Spec PyProof.Rows PyProof.V
set_option maxRecDepth 100000
namespace Mine
open Classical in
/-- what comes first, of each -/
noncomputable def firsts : List Dat → List Dat → List Dat
  | _, [] => []
  | seen, d :: r => if d ∈ seen then firsts (seen ++ [d]) r else d :: firsts (seen ++ [d]) r
theorem firsts_hit {seen r : List Dat} {d : Dat} (h : d ∈ seen) : firsts seen (d :: r) = firsts (seen ++ [d]) r := by
  rw [firsts, if_pos h]
theorem firsts_miss {seen r : List Dat} {d : Dat} (h : ¬ d ∈ seen) : firsts seen (d :: r) = d :: firsts (seen ++ [d]) r := by
  rw [firsts, if_neg h]
theorem firsts_mem {d : Dat} : ∀ {rs seen : List Dat}, d ∈ firsts seen rs → d ∈ rs
  | [], _, h => by rw [firsts] at h; exact h
  | e :: r, seen, h => by
    rw [firsts] at h
    split at h
    · exact List.mem_cons_of_mem _ (firsts_mem h)
    · rcases List.mem_cons.mp h with h | h
      · rw [h]; exact List.mem_cons_self ..
      · exact List.mem_cons_of_mem _ (firsts_mem h)
theorem names_kqd {xs : List Int} : ∀ d ∈ (rowsFrom rightRow 0 xs).map (fun d => Dat.str (keyS d)), kqdOk 8 d = true := fun d hd => by
  obtain ⟨e, he, rfl⟩ := List.mem_map.mp hd
  obtain ⟨j, x, _, rfl⟩ := rowsFrom_mem' he
  exact called_strOk ⟨ci x, ci_lt x⟩
theorem datAll_take {n : List (Addr × Obj)} : ∀ (i : Nat) {vs : List Value} {ds : List Dat}, DatAll n vs ds → DatAll n (vs.take i) (ds.take i)
  | 0, _, _, _ => .nil
  | i + 1, _, _, h => by
    cases h with
    | nil => exact .nil
    | cons h1 h2 => exact .cons h1 (datAll_take i h2)
theorem firsts_len : ∀ (rs seen : List Dat), (firsts seen rs).length ≤ rs.length
  | [], seen => by simp [firsts]
  | d :: r, seen => by
    have q := firsts_len r (seen ++ [d])
    rw [firsts]
    split
    · simp only [List.length_cons]; omega
    · simp only [List.length_cons]; omega
end Mine
end
section
open PySem PySem.W PySem.Calls PySem.Spec PyProof.Rows PyProof.V
set_option maxRecDepth 100000
namespace Mine
noncomputable def keyP (d : Dat) : PySem.Str × Int := (keyS d, keyN d)
noncomputable def cK (cs : List (Nat × Int)) (a b : PySem.Str × Int) : Int := cmpD cs [.str a.1, .int a.2] [.str b.1, .int b.2]
noncomputable def cS (z : Int) (a b : PySem.Str) : Int := cmpD [(0, z)] [.str a] [.str b]
noncomputable def keysNW (fi se : Int) : List (PySem.Str × Int) := (dirL se theNums).flatMap fun n => (dirL fi theWords).map fun w => (w, n)
noncomputable def keysWN (fi se : Int) : List (PySem.Str × Int) := (dirL fi theWords).flatMap fun w => (dirL se theNums).map fun n => (w, n)
theorem ok_NW {fi se : Int} (hfi : fi = 1 ∨ fi = -1) (hse : se = 1 ∨ se = -1) : KeysOk (cK [(1, se), (0, fi)]) (keysNW fi se) := by
  rcases hfi with rfl | rfl <;> rcases hse with rfl | rfl <;> exact ⟨by decide +kernel, by decide +kernel⟩
theorem ok_WN {fi se : Int} (hfi : fi = 1 ∨ fi = -1) (hse : se = 1 ∨ se = -1) : KeysOk (cK [(0, fi), (1, se)]) (keysWN fi se) := by
  rcases hfi with rfl | rfl <;> rcases hse with rfl | rfl <;> exact ⟨by decide +kernel, by decide +kernel⟩
theorem ok_W {fi : Int} (hfi : fi = 1 ∨ fi = -1) : KeysOk (cS fi) (dirL fi theWords) := by
  rcases hfi with rfl | rfl <;> exact ⟨by decide +kernel, by decide +kernel⟩
theorem mem_dirL {α : Type} {z : Int} {l : List α} {a : α} : a ∈ dirL z l ↔ a ∈ l := by
  unfold dirL
  split
  · rfl
  · exact List.mem_reverse
theorem word_mem {fi : Int} (x : Int) : wordOf (wi x) ∈ dirL fi theWords := mem_dirL.mpr ((show ∀ i : Fin 7, wordOf i.1 ∈ theWords by decide +kernel) ⟨wi x, wi_lt x⟩)
theorem called_mem {fi : Int} (x : Int) : calledOf (ci x) ∈ dirL fi theWords := mem_dirL.mpr ((show ∀ i : Fin 6, calledOf i.1 ∈ theWords by decide +kernel) ⟨ci x, ci_lt x⟩)
theorem num_mem {se : Int} (x : Int) : numOf (ni x) ∈ dirL se theNums := mem_dirL.mpr ((show ∀ i : Fin 5, numOf i.1 ∈ theNums by decide +kernel) ⟨ni x, ni_lt x⟩)
theorem flat_congr {α β : Type} {f g : α → List β} : ∀ {l : List α}, (∀ a ∈ l, f a = g a) → l.flatMap f = l.flatMap g
  | [], _ => rfl
  | a :: l, h => by rw [List.flatMap_cons, List.flatMap_cons, h a (List.mem_cons_self ..), flat_congr fun b hb => h b (List.mem_cons_of_mem _ hb)]
theorem byKey_NW {fi se : Int} {l : List Dat} : byKey keyP (keysNW fi se) l = (dirL se theNums).flatMap (pickN ((dirL fi theWords).flatMap (pickS l))) := by
  unfold byKey keysNW
  rw [List.flatMap_assoc]
  refine flat_congr fun n _ => ?_
  unfold pickN
  rw [List.flatMap_map, List.filter_flatMap]
  refine flat_congr fun w _ => ?_
  unfold pickS
  rw [List.filter_filter]
  refine List.filter_congr fun d _ => ?_
  simp [keyP, Prod.ext_iff, and_comm]
theorem byKey_WN {fi se : Int} {l : List Dat} : byKey keyP (keysWN fi se) l = (dirL fi theWords).flatMap (pickS ((dirL se theNums).flatMap (pickN l))) := by
  unfold byKey keysWN
  rw [List.flatMap_assoc]
  refine flat_congr fun n _ => ?_
  unfold pickS
  rw [List.flatMap_map, List.filter_flatMap]
  refine flat_congr fun w _ => ?_
  unfold pickN
  rw [List.filter_filter]
  refine List.filter_congr fun d _ => ?_
  simp [keyP, Prod.ext_iff, Bool.and_comm]
theorem lawA {fi se : Int} (hfi : fi = 1 ∨ fi = -1) (hse : se = 1 ∨ se = -1) (xs : List Int) : sortD [(1, se), (0, fi)] (rowsFrom leftRow 0 xs) = (dirL se theNums).flatMap (pickN ((dirL fi theWords).flatMap (pickS (rowsFrom leftRow 0 xs)))) := by
  rw [← byKey_NW]
  refine sortD_byKey (ok_NW hfi hse) (fun d hd => ?_) fun d hd e he => ?_
  · obtain ⟨j, x, rfl⟩ := rowsFrom_mem hd
    exact List.mem_flatMap.mpr ⟨numOf (ni x), num_mem x, List.mem_map.mpr ⟨wordOf (wi x), word_mem x, rfl⟩⟩
  · obtain ⟨j, x, rfl⟩ := rowsFrom_mem hd
    obtain ⟨k, y, rfl⟩ := rowsFrom_mem he
    rfl
theorem left_WN {fi se : Int} (hfi : fi = 1 ∨ fi = -1) (hse : se = 1 ∨ se = -1) (xs : List Int) : sortD [(0, fi), (1, se)] (rowsFrom leftRow 0 xs) = (dirL fi theWords).flatMap (pickS ((dirL se theNums).flatMap (pickN (rowsFrom leftRow 0 xs)))) := by
  rw [← byKey_WN]
  refine sortD_byKey (ok_WN hfi hse) (fun d hd => ?_) fun d hd e he => ?_
  · obtain ⟨j, x, rfl⟩ := rowsFrom_mem hd
    exact List.mem_flatMap.mpr ⟨wordOf (wi x), word_mem x, List.mem_map.mpr ⟨numOf (ni x), num_mem x, rfl⟩⟩
  · obtain ⟨j, x, rfl⟩ := rowsFrom_mem hd
    obtain ⟨k, y, rfl⟩ := rowsFrom_mem he
    rfl
theorem right_W {fi : Int} (hfi : fi = 1 ∨ fi = -1) (ys : List Int) : sortD [(0, fi)] (rowsFrom rightRow 0 ys) = (dirL fi theWords).flatMap (pickS (rowsFrom rightRow 0 ys)) := by
  refine sortD_byKey (key := keyS) (c := cS fi) (ok_W hfi) (fun d hd => ?_) fun d hd e he => ?_
  · obtain ⟨j, x, rfl⟩ := rowsFrom_mem hd
    exact called_mem x
  · obtain ⟨j, x, rfl⟩ := rowsFrom_mem hd
    obtain ⟨k, y, rfl⟩ := rowsFrom_mem he
    rfl
noncomputable def valS : Dat → PySem.Str
  | .tuple [_, .str v] => v
  | _ => PySem.Str.ofString ""
theorem under_addV (bd : List (PySem.Str × List PySem.Str)) (n v x : PySem.Str) : under (addV bd n v) x = if n = x then under bd x ++ [v] else under bd x := by
  unfold under
  induction bd with
  | nil =>
    unfold addV
    rw [List.lookup_cons]
    by_cases h : n = x
    · simp [h]
    · have : (x == n) = false := by simpa using fun e => h (Eq.symm e)
      simp [h, this]
  | cons p r ih =>
    obtain ⟨m, vs⟩ := p
    unfold addV
    by_cases hm : m = n
    · subst hm
      rw [if_pos rfl, List.lookup_cons, List.lookup_cons]
      by_cases h : m = x
      · simp [h]
      · have : (x == m) = false := by simpa using fun e => h (Eq.symm e)
        simp [h, this]
    · rw [if_neg hm, List.lookup_cons, List.lookup_cons]
      by_cases h : x = m
      · simp [h]
        intro e; exact absurd e.symm hm
      · have : (x == m) = false := by simpa using h
        rw [this]
        exact ih
theorem under_fold (x : PySem.Str) : ∀ {k : Nat} (ys : List Int) (bd : List (PySem.Str × List PySem.Str)), under ((rowsFrom rightRow k ys).foldl addRow bd) x = under bd x ++ (pickS (rowsFrom rightRow k ys) x).map valS
  | _, [], bd => by simp [rowsFrom, pickS]
  | k, y :: ys, bd => by
    show under ((rowsFrom rightRow (k + 1) ys).foldl addRow (addV bd (calledOf (ci y)) (chrS (65 + k) ++ PySem.Str.ofString "="))) x = under bd x ++ (pickS (rightRow k y :: rowsFrom rightRow (k + 1) ys) x).map valS
    rw [under_fold x ys, under_addV]
    unfold pickS
    rw [List.filter_cons]
    have hk : keyS (rightRow k y) = calledOf (ci y) := rfl
    by_cases h : calledOf (ci y) = x
    · rw [if_pos h, if_pos (by rw [hk]; exact decide_eq_true h), List.map_cons, List.append_assoc]
      rfl
    · rw [if_neg h, if_neg (by rw [hk, decide_eq_true_eq]; exact h)]
theorem under_book (x : PySem.Str) (ys : List Int) : under (bookD (rowsFrom rightRow 0 ys)) x = (pickS (rowsFrom rightRow 0 ys) x).map valS := by
  unfold bookD
  rw [under_fold]
  rfl
theorem ranked_left {se : Int} {xs : List Int} {k : PySem.Str} {d : Dat} (h : d ∈ pickS ((dirL se theNums).flatMap (pickN (rowsFrom leftRow 0 xs))) k) : d ∈ rowsFrom leftRow 0 xs := flat_mem (fun _ => pickN_mem) d (pickS_mem d h)
theorem pickS_key {ds : List Dat} {k : PySem.Str} {d : Dat} (h : d ∈ pickS ds k) : keyS d = k := of_decide_eq_true (List.mem_filter.mp h).2
theorem lawB {fi se : Int} (hfi : fi = 1 ∨ fi = -1) (hse : se = 1 ∨ se = -1) (xs ys : List Int) : sideD [(0, fi)] (sortD [(0, fi), (1, se)] (rowsFrom leftRow 0 xs)) (sortD [(0, fi)] (rowsFrom rightRow 0 ys)) = (dirL fi theWords).flatMap (foundFor (bookD (rowsFrom rightRow 0 ys)) ((dirL se theNums).flatMap (pickN (rowsFrom leftRow 0 xs)))) := by
  rw [left_WN hfi hse, right_W hfi]
  unfold sideD
  have := side_keys (key := keyS) (cs := [(0, fi)]) (c := cS fi) (L := pickS ((dirL se theNums).flatMap (pickN (rowsFrom leftRow 0 xs)))) (R := pickS (rowsFrom rightRow 0 ys)) (dirL fi theWords) [] [] (ok_W hfi) (fun k _ d hd => pickS_key hd) (fun k _ d hd => pickS_key hd) ?_ (fun _ h => nomatch h)
  · rw [List.nil_append, List.nil_append] at this
    rw [this]
    refine flat_congr fun k _ => ?_
    unfold foundFor foundIn
    refine flat_congr fun d hd => ?_
    obtain ⟨j, x, rfl⟩ := rowsFrom_mem (ranked_left hd)
    rw [under_book, List.map_map]
    refine List.map_congr_left fun e he => ?_
    obtain ⟨i, y, rfl⟩ := rowsFrom_mem (pickS_mem e he)
    rfl
  · intro d hd e he
    rw [List.nil_append] at he
    obtain ⟨k, _, hd⟩ := List.mem_flatMap.mp hd
    obtain ⟨k', _, he⟩ := List.mem_flatMap.mp he
    obtain ⟨j, x, rfl⟩ := rowsFrom_mem (ranked_left hd)
    obtain ⟨i, y, rfl⟩ := rowsFrom_mem (pickS_mem e he)
    rfl
theorem found_kqd {fi se : Int} {xs ys : List Int} (hx : xs.length ≤ 10) (hy : ys.length ≤ 10) : ∀ d ∈ (dirL fi theWords).flatMap (foundFor (bookD (rowsFrom rightRow 0 ys)) ((dirL se theNums).flatMap (pickN (rowsFrom leftRow 0 xs)))), kqdOk 8 d = true := fun d hd => by
  obtain ⟨k, _, hd⟩ := List.mem_flatMap.mp hd
  unfold foundFor foundIn at hd
  obtain ⟨e, he, hd⟩ := List.mem_flatMap.mp hd
  rw [under_book, List.map_map] at hd
  obtain ⟨r, hr, rfl⟩ := List.mem_map.mp hd
  obtain ⟨j, x, hj, rfl⟩ := rowsFrom_mem' (ranked_left he)
  obtain ⟨i, y, hi, rfl⟩ := rowsFrom_mem' (pickS_mem r hr)
  have h1 := word_strOk ⟨wi x, wi_lt x⟩
  have h2 := lower_strOk ⟨j, by omega⟩
  have h3 := upper_strOk ⟨i, by omega⟩
  show kqdOk 8 (.tuple [.str (wordOf (wi x)), .int (numOf (ni x)), .str (chrS (97 + j)), .str (chrS (65 + i) ++ PySem.Str.ofString "=")]) = true
  simp only [kqdOk, List.all_cons, List.all_nil, Bool.and_true] at *
  simp [h1, h2, h3]
theorem addV_keys (bd : List (PySem.Str × List PySem.Str)) (n v : PySem.Str) : (addV bd n v).map (fun p => Dat.str p.1) = if n ∈ bd.map (·.1) then bd.map (fun p => Dat.str p.1) else bd.map (fun p => Dat.str p.1) ++ [.str n] := by
  induction bd with
  | nil => simp [addV]
  | cons p r ih =>
    obtain ⟨m, vs⟩ := p
    unfold addV
    by_cases hm : m = n
    · subst hm
      simp
    · rw [if_neg hm, List.map_cons, ih]
      have hm' : ¬ n = m := fun e => hm e.symm
      by_cases h : n ∈ r.map (·.1)
      · rw [if_pos h, if_pos (by simp only [List.map_cons]; exact List.mem_cons_of_mem _ h)]
        rfl
      · rw [if_neg h, if_neg (by simp only [List.map_cons, List.mem_cons]; intro q; rcases q with q | q; exact hm' q; exact h q)]
        rfl
theorem keys_fold : ∀ {k : Nat} (ys : List Int) (bd : List (PySem.Str × List PySem.Str)) (seen : List Dat), (∀ n : PySem.Str, Dat.str n ∈ seen ↔ n ∈ bd.map (·.1)) → ((rowsFrom rightRow k ys).foldl addRow bd).map (fun p => Dat.str p.1) = bd.map (fun p => Dat.str p.1) ++ firsts seen ((rowsFrom rightRow k ys).map fun d => Dat.str (keyS d))
  | _, [], bd, seen, _ => by simp [rowsFrom, firsts]
  | k, y :: ys, bd, seen, hs => by
    show ((rowsFrom rightRow (k + 1) ys).foldl addRow (addV bd (calledOf (ci y)) (chrS (65 + k) ++ PySem.Str.ofString "="))).map (fun p => Dat.str p.1) = bd.map (fun p => Dat.str p.1) ++ firsts seen (Dat.str (calledOf (ci y)) :: (rowsFrom rightRow (k + 1) ys).map fun d => Dat.str (keyS d))
    have ha := addV_keys bd (calledOf (ci y)) (chrS (65 + k) ++ PySem.Str.ofString "=")
    rw [keys_fold ys _ (seen ++ [Dat.str (calledOf (ci y))]) ?_, ha]
    · by_cases h : calledOf (ci y) ∈ bd.map (·.1)
      · rw [if_pos h, firsts_hit ((hs _).mpr h)]
      · rw [if_neg h, firsts_miss (fun q => h ((hs _).mp q)), List.append_assoc]
        rfl
    · intro n
      have hm : ∀ (l : List (PySem.Str × List PySem.Str)), n ∈ l.map (·.1) ↔ Dat.str n ∈ l.map (fun p => Dat.str p.1) := fun l => by simp
      rw [hm, ha, List.mem_append, hs n, List.mem_singleton]
      by_cases h : calledOf (ci y) ∈ bd.map (·.1)
      · rw [if_pos h, ← hm]
        constructor
        · rintro (q | q)
          · exact q
          · rw [Dat.str.inj q]; exact h
        · exact .inl
      · rw [if_neg h, List.mem_append, List.mem_singleton, ← hm]
theorem lawC (ys : List Int) : (bookD (rowsFrom rightRow 0 ys)).map (fun p => Dat.str p.1) = firsts [] ((rowsFrom rightRow 0 ys).map fun d => Dat.str (keyS d)) := by
  have := keys_fold (k := 0) ys [] [] (fun n => by simp)
  simpa [bookD] using this
end Mine
end
section
open PySem PySem.W PySem.Calls PySem.Spec PyProof.Rows PyProof.V
set_option maxRecDepth 100000
set_option maxHeartbeats 4000000
namespace Mine
section
variable {prog : Program} {w : World} {A : Around} {E : Value → Shared → Prop} {s : Shared} {env : Env} {h₀ : Heap} {L : Addr}
/-- as CompOut; the function's own namespace may be another object by then -/
noncomputable def CompOut2 (h₀ : Heap) (L C D : Addr) (m : PySem.Str → Option Value) (md : PySem.Str → Option Value) (s₂ : Shared) (Q : Value → Shared → Prop) (r : Result) (s' : Shared) : Prop :=
  r = .ok .next ∧ ∃ h tk mC n' oL, LCg.NsObj oL m ∧ s' = { s₂ with heap := h, toks := tk } ∧ Fr h₀ C h mC ∧ News h₀ C h ((L, oL) :: n') ∧ (∀ p ∈ n', p.1 ≠ L) ∧
    ∀ h' tk', Fr h₀ L h' md → News h₀ L h' n' → Q (.ref D) { s₂ with heap := h', toks := tk' }
noncomputable def CompGo2 (prog : Program) (w : World) (A : Around) (h₀ : Heap) (L : Addr) (e : PySem.Expr) (scope : Scope) (cl : List (PySem.Str × Addr)) (env : Env) (md : (PySem.Str → Option Value) → Addr → PySem.Str → Option Value) (Q : Value → Shared → Prop) (it : Value) (s₂ : Shared) : Prop :=
  ∃ m news, Fr h₀ L s₂.heap m ∧ News h₀ L s₂.heap news ∧ ∀ C D oL h₁, Laid2 h₀ L C D oL m news s₂.heap h₁ →
    codeAny (model prog w) A (.compStart e 0 it (.ref D) (compEnvC scope cl C env)) (CompOut2 h₀ L C D m (md m D) { s₂ with heap := h₁ } Q) { s₂ with heap := h₁ }
theorem assign_comp2 {elt target iter : PySem.Expr} {ifs : List PySem.Expr} {rest : List Comprehension} {scope : Scope} {cl : List (PySem.Str × Addr)} {pos spos py : Pos} {y : PySem.Str} {Q : Flow → Shared → Prop} (hL : h₀.objs.size ≤ L) (hLe : env.locals = L)
    (hsw : swapsWith (.ListComp elt (⟨target, iter, ifs, 0⟩ :: rest) scope pos) (some (.Name y py)) spos.line env = pure true)
    (hclos : closureFor scope env = pure cl) (hcell : ∀ y ∈ scope.names, y.2 ≠ .cell) (hkind : scope.kind = .function)
    (hnames : ∀ y ∈ scope.names, y.2 = .local → scope.names.lookup y.1 = some .local)
    (hy : env.kindOf y = some .local) (hp : (env.scope.kind == .class || (env.scope.kind == .module && env.locals != env.globals)) = false)
    (h : wpAny (model prog w) A (eval iter env) (fun xv s₁ => wpAny (model prog w) A (pyIter xv) (CompGo2 prog w A h₀ L (.ListComp elt (⟨target, iter, ifs, 0⟩ :: rest) scope pos) scope cl env
      (fun m D z => if z = y then some (.ref D) else m z) fun _ s' => Q .next s') E s₁) E s)
    (hs : ∀ x, foldedSetIterable iter env x = pure x := by intro _; rfl) :
    wpAny (model prog w) A (exec (.Assign [.Name y py] (.ListComp elt (⟨target, iter, ifs, 0⟩ :: rest) scope pos) spos) env) Q E s := by
  subst hLe
  rw [exec_Assign_Name_used _ _ _ _ hsw]
  refine wpAny_bind (wpAny_standAt (wpAny_bind ?_))
  show wpAny _ A (do let _ ← comprehension (.ListComp elt (⟨target, iter, ifs, 0⟩ :: rest) scope pos) scope env _ (newList []) false (eval iter env) (some (assign (.Name y py) env))) _ _ s
  refine wpAny_bind (wpAny_mono (wpAny_comprehension_free (use := some (assign (.Name y py) env)) (Q := fun _ s' => Q .next s') rfl hs hclos hkind hnames
    (wpAny_mono h (fun xv s₁ h₁ => wpAny_mono h₁ (fun it s₂ h₂ => ?_) fun _ _ e => e) fun _ _ e => e)) (fun _ s' hq => wpAny_pure (wpAny_pure hq)) fun _ _ e => e)
  obtain ⟨m, news, F, N, h⟩ := h₂
  refine comp_lay hcell hkind F N fun C D oL h₁ Y => codeAny_mono (h C D oL h₁ Y) fun r s' z => ?_
  obtain ⟨rfl, h2, tk, mC, n', oL2, hNs2, rfl, F2, N2, offL, q⟩ := z
  have hoL := (N2 _ (List.mem_cons_self ..)).1
  have hC₀ : h₀.get? C = none := Heap.get?_none_of_le F2.above
  have hns2 := hNs2.ns hoL
  show wpAny _ A (assign (.Name y py) env (.ref D)) _ _ _
  refine wpAny_assign_Name (wpAny_storeName_local hy hns2 (fun h₃ hn₃ hs₃ => ?_) hp)
  have hL₀ : h₀.get? env.locals = none := Heap.get?_none_of_le hL
  refine ⟨mC, F2.ns.sameBut hs₃ Y.CL, fun h4 hs4 => ?_⟩
  have hCL := Y.CL
  refine q h4 _ ⟨?_, ?_, hL⟩ ?_
  · exact hn₃.sameBut hs4 hCL.symm
  · intro b o e
    exact hs4.extBut b o (fun x => by rw [x, hC₀] at e; cases e) (hs₃.extBut b o (fun x => by rw [x, hL₀] at e; cases e) (F2.keep b o e))
  · intro p hp
    have hN := N2 p (List.mem_cons_of_mem _ hp)
    exact ⟨hs4.extBut _ _ hN.2.1 (hs₃.extBut _ _ (offL p hp) hN.1), offL p hp, hN.2.2⟩
theorem go_tuple2 {elt iter target : PySem.Expr} {pos : Pos} {ifs : List PySem.Expr} {rest : List Comprehension} {scope : Scope} {cl : List (PySem.Str × Addr)} {md : (PySem.Str → Option Value) → Addr → PySem.Str → Option Value} {Q : Value → Shared → Prop}
    {l : Addr} {c : Nat} {vs : List Value} {m : PySem.Str → Option Value} {news : List (Addr × Obj)} (hh : A.handled = none) (F : Fr h₀ L s.heap m) (N : News h₀ L s.heap news) (hl : (l, { cls := .type "tuple", data := .seq vs.toArray c }) ∈ news) (hz : ∀ g, rest[0]? = some g → g.is_async = 0)
    (C : Addr → Addr → Obj → List Value → (PySem.Str → Option Value) → List (Addr × Obj) → Prop)
    (hax : ∀ Cn D oL r m n, C Cn D oL r m n → (l, { cls := .type "tuple", data := .seq vs.toArray c }) ∈ n)
    (init : ∀ Cn D oL, LCg.NsObj oL m → D ≠ Cn → Cn ≠ L → D ≠ L → (∀ p ∈ news, p.1 ≠ L ∧ p.1 ≠ D ∧ p.1 ≠ Cn) → C Cn D oL vs (fun _ => none) ((L, oL) :: (D, listOf #[] 0) :: news))
    (turn : ∀ Cn D oL v r m₁ n₁ h₁ tk₁ its (E : Value → Shared → Prop), C Cn D oL (v :: r) m₁ n₁ → (∃ p, its = [p]) → (∀ p ∈ n₁, ∀ q ∈ its, p.1 ≠ q.1) → Fr h₀ Cn h₁ m₁ → News h₀ Cn h₁ (its ++ n₁) →
      wpAny (model prog w) A (assign target (compEnvC scope cl Cn env) v) (fun _ s₃ => CompBody prog w A E ifs (CInner prog w A E elt (⟨target, iter, ifs, 0⟩ :: rest) scope pos 0 (.ref D) (compEnvC scope cl Cn env)) (compEnvC scope cl Cn env)
        (fun _ => CEnd h₀ Cn its { s with heap := h₁, toks := tk₁ } (C Cn D oL r)) s₃) E { s with heap := h₁, toks := tk₁ })
    (done : ∀ Cn D oL m₁ n₁, C Cn D oL [] m₁ n₁ → ∃ n' oL2, LCg.NsObj oL2 m ∧ n₁ = (L, oL2) :: n' ∧ (∀ p ∈ n', p.1 ≠ L) ∧ ∀ h' tk', Fr h₀ L h' (md m D) → News h₀ L h' n' → Q (.ref D) { s with heap := h', toks := tk' }) :
    wpAny (model prog w) A (pyIter (.ref l)) (CompGo2 prog w A h₀ L (.ListComp elt (⟨target, iter, ifs, 0⟩ :: rest) scope pos) scope cl env md Q) E s := by
  have hol := N _ hl
  have hls : s.heap.IsTuple l vs.toArray := ⟨_, hol.1, rfl, c, rfl⟩
  have hLs : L < s.heap.objs.size := F.ns.lt
  refine wpAny_pyIter_tuple hls ?_
  have up : ∀ b o, s.heap.get? b = some o → (s.heap.push { cls := .type "tuple_iterator", data := .fields #[.ref l, .int 0 0] }).get? b = some o := fun b o e => Heap.get?_push_of_some _ e
  have hI₀ : h₀.get? s.heap.objs.size = none := ktu_new F (Nat.le_refl _)
  have hs1 : s.heap.objs.size < (s.heap.push { cls := .type "tuple_iterator", data := .fields #[.ref l, .int 0 0] }).objs.size := by rw [Heap.size_push]; exact Nat.lt_succ_self _
  refine ⟨m, news, F.keeps up, N.grown up, fun Cn D oL h₁ Y => ?_⟩
  have hnl : ∀ p ∈ news, p.1 < s.heap.objs.size := fun p hp => Heap.lt_size (N p hp).1
  refine comp_loop (h₀ := h₀) (d := 0) rfl (by simpa using hz) ?_
  refine comp_tuple (I := s.heap.objs.size) (ax := l) (c := c) (vs := vs) (C Cn D oL) bears_inner hh Y.F Y.N (hax Cn D oL) ?_ ?_ hI₀ ?_ ?_ ?_ ?_
  · exact init Cn D oL Y.ns Y.DC Y.CL Y.DL fun p hp => ⟨Y.offL p hp, Y.offD p hp, (Y.far _ (Nat.lt_trans (hnl p hp) hs1)).1⟩
  · exact ⟨_, Y.keep _ _ (Heap.get?_push_size _ rfl), rfl, rfl⟩
  · exact (Y.far _ hs1).1.symm
  · intro p hp
    rcases List.mem_cons.mp hp with rfl | hp
    · exact Nat.ne_of_lt hLs
    rcases List.mem_cons.mp hp with rfl | hp
    · exact (Y.far _ hs1).2.symm
    · exact Nat.ne_of_lt (hnl p hp)
  · intro v r m₁ n₁ h₂ tk₁ its E' a1 a2 a3 a4 a5
    exact turn Cn D oL v r m₁ n₁ h₂ tk₁ its E' a1 a2 a3 a4 a5
  · intro m₁ n₁ h tk hc F' N'
    obtain ⟨n', oL2, hNs2, rfl, offL, q⟩ := done Cn D oL m₁ n₁ hc
    exact ⟨rfl, h, tk, m₁, n', oL2, hNs2, rfl, F', N', offL, fun h' tk' F'' N'' => q h' tk' F'' N''⟩
/-- from the comprehension's frame to the function's -/
theorem frame_in {Cn : Addr} {h : Heap} {mC m : PySem.Str → Option Value} {oL : Obj} {news news' : List (Addr × Obj)} (F : Fr h₀ Cn h mC) (N : News h₀ Cn h news) (hL : (L, oL) ∈ news) (hns : LCg.NsObj oL m) (ha : h₀.objs.size ≤ L) (hs : ∀ p ∈ news', p ∈ news ∧ p.1 ≠ L) :
    ∃ oC, LCg.NsObj oC mC ∧ Fr h₀ L h m ∧ News h₀ L h ((Cn, oC) :: news') := by
  obtain ⟨oC, hoC, hNs⟩ := LCg.ns_obj F.ns
  have hL' := N _ hL
  refine ⟨oC, hNs, ⟨hns.ns hL'.1, F.keep, ha⟩, fun p hp => ?_⟩
  rcases List.mem_cons.mp hp with h | hp
  · rw [h]; exact ⟨hoC, fun e => hL'.2.1 e.symm, Heap.get?_none_of_le F.above⟩
  · exact ⟨(N p (hs p hp).1).1, (hs p hp).2, (N p (hs p hp).1).2.2⟩
/-- and back -/
theorem frame_out {Cn : Addr} {h : Heap} {mC m : PySem.Str → Option Value} {oC : Obj} {news news' : List (Addr × Obj)} (F : Fr h₀ L h m) (N : News h₀ L h news) (hC : (Cn, oC) ∈ news) (hns : LCg.NsObj oC mC) (ha : h₀.objs.size ≤ Cn) (hs : ∀ p ∈ news', p ∈ news ∧ p.1 ≠ Cn) :
    ∃ oL, LCg.NsObj oL m ∧ Fr h₀ Cn h mC ∧ News h₀ Cn h ((L, oL) :: news') := frame_in F N hC hns ha hs
end
end Mine
end
section
open PySem PySem.W PySem.Calls PySem.Spec PyProof.Rows PyProof.V
set_option maxRecDepth 100000
set_option maxHeartbeats 4000000
namespace Mine
section
variable {prog : Program} {w : World} {A : Around} {E : Value → Shared → Prop} {s : Shared} {it b : Addr} {ob : Obj} {es : Array DictEntry} {i ep : Nat}
/-- the next key of any object that bears a dict's rows -/
theorem rows_next {Q : Option Value → Shared → Prop} (hit : s.heap.IsKeyIter it b i es.size ep) (hb : s.heap.get? b = some ob) (hd : ob.data = .dict es ep) (hlt : i < es.size)
    (hQ : ∀ h', h'.IsKeyIter it b (i + 1) es.size ep → Heap.SameBut it s.heap h' → Q (some es[i].key) { s with heap := h' }) :
    wpAny (model prog w) A (pyNext (.ref it)) Q E s := by
  obtain ⟨o, ho, hc, hdi⟩ := id hit
  unfold pyNext
  refine wpAny_bind (wpAny_attempt (wpAny_callSpecial?_slot (name := PySem.Str.ofString "__next__") hit.typeIs F.slot_dict_keyiterator_next
    (wpAny_call_entry F.slot_dict_keyiterator_next hit.typeIs F.entry_dict_keyiterator_next ?_ (F.args_dict_keyiterator_next_1 _))))
  refine wpAny_bind (wpAny_pure (wpAny_bind (wpAny_bind ?_)))
  first | refine wpAny_bind (wpAny_typeNameOfWhole_keyiter hit.typeIs (wpAny_pure ?_)) | refine wpAny_bind (wpAny_typeNameOf_keyiter hit.typeIs (wpAny_pure ?_))
  refine wpAny_bind (wpAny_fieldsOf ho hdi ?_)
  simp only [show Builtin.Dict_items.ownsTuple "dict_keyiterator" = false by decide, Bool.false_eq_true, if_false]
  show wpAny _ _ (if (Value.ref b == Value.none) = true then _ else _) _ _ s
  rw [if_neg (show ¬ ((Value.ref b == Value.none) = true) from Bool.false_ne_true)]
  refine wpAny_bind (wpAny_pure (wpAny_bind (wpAny_dictEntries hb hd ?_)))
  rw [if_neg (by simp)]
  refine wpAny_bind (wpAny_pure (wpAny_bind (wpAny_dictEpoch hb hd ?_)))
  rw [if_neg (by simp)]
  refine wpAny_pure ?_
  simp only [show ¬ ((i : Int) < 0) from by omega, if_false, Int.toNat_natCast, Array.getElem?_eq_getElem hlt]
  refine wpAny_bind ?_
  first | refine wpAny_bind (wpAny_typeNameOfWhole_keyiter hit.typeIs (wpAny_pure ?_)) | refine wpAny_bind (wpAny_typeNameOf_keyiter hit.typeIs (wpAny_pure ?_))
  refine wpAny_bind (wpAny_isOneOf_keyiter hit.typeIs ?_)
  show wpAny _ _ (setField (.ref it) 1 (rawInt ((i : Int) + 1)) >>= _) _ _ s
  refine wpAny_bind (wpAny_setField ho hdi (by simp) ?_)
  have hit' : (s.heap.update it (Obj.mapFields (·.setIfInBounds 1 (rawInt ((i : Int) + 1))))).IsKeyIter it b (i + 1) es.size ep :=
    ⟨_, Heap.get?_update_self _ ho (Obj.isFreed_of_fields (Obj.data_mapFields hdi _)), (Obj.cls_mapFields ..).trans hc, by rw [Obj.data_mapFields hdi]; simp [rawInt]⟩
  refine wpAny_bind (wpAny_holding ?_)
  refine wpAny_bind (wpAny_isOneOf_keyiter (s := { s with heap := s.heap.update it (Obj.mapFields (·.setIfInBounds 1 (rawInt ((i : Int) + 1)))) }) hit'.typeIs ?_)
  show wpAny _ _ (pure es[i].key) _ _ _
  exact wpAny_pure (wpAny_pure ⟨_, rfl, wpAny_pure (hQ _ hit' (Heap.SameBut.update ..))⟩)
theorem rows_end {Q : Option Value → Shared → Prop} (hh : A.handled = none) (hit : s.heap.IsKeyIter it b i es.size ep) (hb : s.heap.get? b = some ob) (hd : ob.data = .dict es ep) (hge : es.size ≤ i)
    (hQ : ∀ h', Heap.ExtBut it s.heap h' → Q none { s with heap := h' }) : wpAny (model prog w) A (pyNext (.ref it)) Q E s := by
  obtain ⟨o, ho, hc, hdi⟩ := id hit
  unfold pyNext
  refine wpAny_bind (wpAny_attempt (wpAny_callSpecial?_slot (name := PySem.Str.ofString "__next__") hit.typeIs F.slot_dict_keyiterator_next
    (wpAny_call_entry F.slot_dict_keyiterator_next hit.typeIs F.entry_dict_keyiterator_next ?_ (F.args_dict_keyiterator_next_1 _))))
  refine wpAny_bind (wpAny_pure (wpAny_bind (wpAny_bind ?_)))
  first | refine wpAny_bind (wpAny_typeNameOfWhole_keyiter hit.typeIs (wpAny_pure ?_)) | refine wpAny_bind (wpAny_typeNameOf_keyiter hit.typeIs (wpAny_pure ?_))
  refine wpAny_bind (wpAny_fieldsOf ho hdi ?_)
  simp only [show Builtin.Dict_items.ownsTuple "dict_keyiterator" = false by decide, Bool.false_eq_true, if_false]
  show wpAny _ _ (if (Value.ref b == Value.none) = true then _ else _) _ _ s
  rw [if_neg (show ¬ ((Value.ref b == Value.none) = true) from Bool.false_ne_true)]
  refine wpAny_bind (wpAny_pure (wpAny_bind (wpAny_dictEntries hb hd ?_)))
  rw [if_neg (by simp)]
  refine wpAny_bind (wpAny_pure (wpAny_bind (wpAny_dictEpoch hb hd ?_)))
  rw [if_neg (by simp)]
  refine wpAny_pure ?_
  simp only [show ¬ ((i : Int) < 0) from by omega, if_false, Int.toNat_natCast, Array.getElem?_eq_none hge]
  refine wpAny_bind ?_
  first | refine wpAny_bind (wpAny_typeNameOfWhole_keyiter hit.typeIs (wpAny_pure ?_)) | refine wpAny_bind (wpAny_typeNameOf_keyiter hit.typeIs (wpAny_pure ?_))
  show wpAny _ _ (setField (.ref it) 0 .none >>= _) _ _ s
  refine wpAny_bind (wpAny_setField ho hdi (by simp) ?_)
  show wpAny _ _ (newExc (.type "StopIteration") [] >>= _) _ _ _
  refine wpAny_bind ?_
  simp only [newExc, newTuple]
  refine wpAny_bind (wpAny_newObj_type ?_ (by size_fits))
  refine wpAny_bind (m := firstArgMember _ _) (wpAny_of_eq (a := Value.none) (by first | rfl | (simp only [firstArgMember]; rfl)) ?_)
  refine wpAny_newObj_type ?_ (by size_fits)
  simp only [raiseNew]
  refine wpAny_bind (wpAny_handled ?_)
  rw [show A.in1.handled = none from hh]
  refine wpAny_bind (wpAny_pure (wpAny_throw ?_))
  refine wpAny_bind (wpAny_isInstance (T := "StopIteration") (b := true) ⟨_, Heap.get?_push_size _ rfl, rfl⟩ isSubtype_stop ?_)
  exact wpAny_pure (hQ _ (((Heap.SameBut.update ..).extBut.push _).push _))
theorem rows_walk (hh : A.handled = none) (I : Addr) (hne : b ≠ I) (hd : ob.data = .dict es ep) :
    Walks prog w A I [I, b] [I] es.size (fun i v => ∃ e, es[i]? = some e ∧ v = e.key) (fun i h => h.IsKeyIter I b i es.size ep ∧ h.get? b = some ob) where
  sub := fun b hb => by simp at hb; simp [hb]
  frame := fun _ _ _ st hk => ⟨st.1.at fun o e => hk I (by simp) o e, hk b (by simp) _ st.2⟩
  item := fun i s Q E hi st hQ => rows_next st.1 st.2 hd hi fun h' hit' hs' => hQ _ h' s.toks ⟨es[i], by simp [hi], rfl⟩ ⟨hit', hs'.extBut _ _ hne st.2⟩ fun b o hb e => hs'.extBut b o (fun h => hb (by simp [h])) e
  done := fun s Q E st hQ => rows_end hh st.1 st.2 hd (Nat.le_refl _) fun h' he' => hQ h' s.toks fun b o hb e => he' b o (fun h => hb (by simp [h])) e
  self := fun _ _ _ _ st hQ => wpAny_pyIter_keyiter st.1 hQ
end
end Mine
end
section
open PySem PySem.W PySem.Calls PySem.Spec PyProof.Rows PyProof.V
set_option maxRecDepth 100000
set_option maxHeartbeats 4000000
namespace Mine
section
variable {w : World} {A : Around} {E : Value → Shared → Prop} {s : Shared} {b db : Addr} {es : Array DictEntry} {ep : Nat} {od : Obj}
/-- an iterator over the book -/
theorem iter_book {Q : Value → Shared → Prop} (X : (Mine.K w.params).In s.heap) (I : InstAt s.heap b (bookO db es ep) 136 (some od)) (hb : (b == sysModules) = false)
    (hQ : Q (.ref s.heap.objs.size) { s with heap := s.heap.push { cls := .type "dict_keyiterator", data := .fields #[.ref b, .int 0 0, .int es.size 0, .int ep 0] } }) :
    wpAny (model PySem.Challenge.rw_in0004_01.row.prog w) A (pyIter (.ref b)) Q E s := by
  revert X; (k_fill; w_top off); intro X
  have hfi : findIn (Mine.K w.params) (.ref 136) "__iter__" = some (some (.builtin "dict.__iter__")) := by k_is
  have hmd : mroIn (Mine.K w.params) 136 (.type "dict") = some true := by k_is
  have hmo : mroIn (Mine.K w.params) 136 (.type "collections.OrderedDict") = some false := by k_is
  have sub : Looks (model PySem.Challenge.rw_in0004_01.row.prog w) s.heap (isInstance (.ref b) (.type "dict")) true := I.type.andThen (looks_mroIn X hmd)
  have nos : Looks (model PySem.Challenge.rw_in0004_01.row.prog w) s.heap (isInstance (.ref b) (.type "collections.OrderedDict")) false := I.type.andThen (looks_mroIn X hmo)
  unfold pyIter
  refine wpAny_bind (wpAny_bind (I.type.here ((looks_findIn X hfi).here ?_)))
  show wpAny _ _ (callSpecialIfBoundUnlessNone? (.ref b) "__iter__" _ >>= _) _ _ _
  refine wpAny_bind ?_
  simp only [callSpecialIfBoundUnlessNone?, bindSpecialIfBound?]
  refine wpAny_holding (wpAny_bind (wpAny_bind (wpAny_bind (I.type.here ((looks_findIn X hfi).here ?_)))))
  simp only [F.slot_dict_iter.bind]
  have call1 : wpAny (model PySem.Challenge.rw_in0004_01.row.prog w) A (call (.builtin "dict.__iter__") [.ref b]) (fun v s' => v = .ref s.heap.objs.size ∧ s' = { s with heap := s.heap.push { cls := .type "dict_keyiterator", data := .fields #[.ref b, .int 0 0, .int es.size 0, .int ep 0] } }) E s := by
    refine wpAny_call (codeAny_call_builtin F.slot_dict_iter.plain F.entry_dict_iter (@check_slot (model PySem.Challenge.rw_in0004_01.row.prog w) _ _ s "dict.__iter__" "dict" "__iter__" (.ref b) [] [] _ (by decide +kernel) (by decide +kernel) sub (by unfold argsOk; kernel_rfl) ?_))
    unfold Builtin.«dict.__iter__»
    refine wpAny_bind ?_
    unfold Builtin.Dict.dictSlotNone Builtin.Dict.notOrdered
    refine wpAny_bind ?_
    rw [if_pos (by decide)]
    refine wpAny_bind (I.type.here ?_)
    rw [if_pos (by rfl)]
    refine wpAny_bind (nos.here ?_)
    rw [if_neg (by decide)]
    refine wpAny_pure ?_
    show wpAny _ _ (pure (Value.ref b)) _ _ s
    refine wpAny_pure ?_
    show wpAny _ _ (Builtin.Dict.showsAll b >>= _) _ _ s
    unfold Builtin.Dict.showsAll
    rw [if_neg (by rw [hb]; exact Bool.false_ne_true)]
    refine wpAny_bind (wpAny_pure ?_)
    refine wpAny_bind (wpAny_dictEntries I.at_ rfl ?_)
    refine wpAny_bind (wpAny_dictEpoch I.at_ rfl ?_)
    refine wpAny_bind (wpAny_newObj_type (wpAny_pure ?_))
    exact ⟨rfl, rfl⟩
  refine wpAny_bind (wpAny_askSetting (wpAny_ite ?_))
  split
  · refine wpAny_bind (wpAny_pure (wpAny_pure ?_))
    show wpAny _ A (if (Value.builtin "dict.__iter__" == Value.none) = true then _ else (call (.builtin "dict.__iter__") [.ref b] >>= fun v => pure (some v))) _ _ s
    rw [if_neg (by rw [builtin_beq_none]; exact Bool.false_ne_true)]
    refine wpAny_bind (wpAny_mono call1 (fun it s' h => ?_) fun _ _ e => e)
    obtain ⟨rfl, rfl⟩ := h
    exact wpAny_pure (wpAny_bind (wpAny_specialOf (T := "dict_keyiterator") ⟨_, Heap.get?_push_size _ rfl, rfl⟩ F.slot_dict_keyiterator_next.lookup (wpAny_pure hQ)))
  · refine wpAny_tryCatch (wpAny_bind (wpAny_pure (wpAny_pure ?_)))
    show wpAny _ A (if (Value.builtin "dict.__iter__" == Value.none) = true then _ else (call (.builtin "dict.__iter__") [.ref b] >>= fun v => pure (some v))) _ _ s
    rw [if_neg (by rw [builtin_beq_none]; exact Bool.false_ne_true)]
    refine wpAny_bind (wpAny_mono call1 (fun it s' h => ?_) fun _ _ e => e)
    obtain ⟨rfl, rfl⟩ := h
    exact wpAny_pure (wpAny_bind (wpAny_specialOf (T := "dict_keyiterator") ⟨_, Heap.get?_push_size _ rfl, rfl⟩ F.slot_dict_keyiterator_next.lookup (wpAny_pure hQ)))
/-- how long the book is: asked by len, and told -/
theorem hint_book {Q : Bool → Shared → Prop} (X : (Mine.K w.params).In s.heap) (I : InstAt s.heap b (bookO db es ep) 136 (some od)) (hb : (b == sysModules) = false) (hz : es.size ≤ 1000)
    (hQ : ∀ r tk, Q r { s with toks := tk }) :
    wpAny (model PySem.Challenge.rw_in0004_01.row.prog w) A (Builtin.List.listLengthHint (.ref b)) Q E s := by
  revert X; (k_fill; w_top off); intro X
  have hfl : findIn (Mine.K w.params) (.ref 136) "__len__" = some (some (.builtin "dict.__len__")) := by k_is
  have hmd : mroIn (Mine.K w.params) 136 (.type "dict") = some true := by k_is
  have sub : Looks (model PySem.Challenge.rw_in0004_01.row.prog w) s.heap (isInstance (.ref b) (.type "dict")) true := I.type.andThen (looks_mroIn X hmd)
  unfold Builtin.List.listLengthHint
  refine wpAny_bind (wpAny_bind (I.type.here ((looks_findIn X hfl).here ?_)))
  generalize hid : ("dict.__len__" : String) = id0
  wp_delta
  rw [show splitId id0 = some ("dict", "__len__") from by subst hid; decide +kernel]
  subst hid
  refine wpAny_bind (sub.here ?_)
  refine wpAny_ite_split (fun hab => absurd hab (by decide)) (fun _ => ?_)
  refine wpAny_ite_split (fun _ => ?_) (fun hab => absurd (by decide +kernel) hab)
  refine wpAny_bind (I.type.here ?_)
  have callLen : wpAny (model PySem.Challenge.rw_in0004_01.row.prog w) A (call (.builtin "len") [.ref b]) (fun v s' => (∃ (n : Int) (t : Tok), v = .int n t) ∧ ∃ tk, s' = { s with toks := tk }) E s := by
    refine Calls.call_function_entry kind_len plain_len entry_len (args_len1 _) ?_
    unfold Builtin.«len»
    refine wpAny_bind (m := oneArg "len" _) (wpAny_pure ?_)
    refine wpAny_bind (m := callSpecial? (.ref b) (PySem.Str.ofString "__len__")) ?_
    unfold callSpecial?
    refine wpAny_bind (wpAny_bind (I.type.here ((looks_findIn X hfl).here ?_)))
    refine wpAny_holding (wpAny_bind ?_)
    rw [F.slot_dict_len.bind]
    refine wpAny_pure (wpAny_bind (wpAny_call ?_))
    refine codeAny_call_builtin F.slot_dict_len.plain F.entry_dict_len (@check_slot (model PySem.Challenge.rw_in0004_01.row.prog w) _ _ s "dict.__len__" "dict" "__len__" (.ref b) [] [] _ (by decide +kernel) (by decide +kernel) sub (by unfold argsOk; kernel_rfl) ?_)
    unfold Builtin.«dict.__len__»
    refine wpAny_bind ?_
    unfold Builtin.Dict.dictSlotNone Builtin.Dict.notOrdered
    refine wpAny_bind ?_
    rw [if_neg (by decide)]
    refine wpAny_pure ?_
    show wpAny _ _ (pure (Value.ref b)) _ _ s
    refine wpAny_pure ?_
    show wpAny _ _ (dictSize b >>= _) _ _ s
    unfold dictSize
    refine wpAny_bind (wpAny_bind (wpAny_dictEntries I.at_ rfl (wpAny_pure ?_)))
    show wpAny _ _ (Builtin.Dict.pendingCount b >>= _) _ _ s
    refine wpAny_bind (wpAny_pendingCount_other hb ?_)
    unfold retInt
    refine wpAny_bind (wpAny_mkInt (wpAny_pure ?_))
    refine wpAny_pure ?_
    show wpAny _ _ _ _ _ { s with toks := s.toks + 1 }
    refine wpAny_bind (wpAny_holding (wpAny_pure ?_))
    refine wpAny_bind (wpAny_letGo ?_)
    show wpAny _ _ (if ((es.size : Int) + ((0 : Nat) : Int)) < 0 then _ else _) _ _ _
    rw [if_neg (by omega)]
    show wpAny _ _ (if ((es.size : Int) + ((0 : Nat) : Int)) ≥ 2 ^ 63 then _ else _) _ _ _
    rw [if_neg (by omega)]
    exact wpAny_bind (wpAny_mkInt (wpAny_pure ⟨_, rfl, ⟨_, _, rfl⟩, _, rfl⟩))
  refine wpAny_bind (wpAny_mono callLen (fun v s' h => ?_) fun _ _ e => e)
  obtain ⟨⟨n, t, rfl⟩, tk, rfl⟩ := h
  exact wpAny_bind (wpAny_pure (wpAny_pure (hQ _ tk)))
end
end Mine
end
section
open PySem PySem.W PySem.Calls PySem.Spec PyProof.Rows PyProof.V
set_option maxRecDepth 100000
set_option maxHeartbeats 4000000
namespace Mine
section
variable {w : World} {A : Around} {E : Value → Shared → Prop} {s : Shared} {b db : Addr} {es : Array DictEntry} {ep : Nat} {od ob : Obj}
theorem extend_book {R : Result → Shared → Prop} (X : (Mine.K w.params).In s.heap) (I : InstAt s.heap b (bookO db es ep) 136 (some od)) (hb : (b == sysModules) = false) (hz : es.size ≤ 1000) (hh : A.handled = none) (S : Addr) (hSb : S ≠ b) (res : Value) (c₀ : Nat) (hS : s.heap.get? S = some { cls := .type "list", data := .seq #[] c₀ })
    (hR : ∀ h' tk acc' c', (∀ b o, b ≠ S → s.heap.get? b = some o → h'.get? b = some o) → h'.get? S = some { cls := .type "list", dict := none, data := .seq acc' c', slots := #[] } → ItemsOf (fun i v => ∃ e, es[i]? = some e ∧ v = e.key) acc' es.size → R (.ok (.ret res)) { s with heap := h', toks := tk }) :
    wpAny (model PySem.Challenge.rw_in0004_01.row.prog w) A.in1 (Builtin.List.listExtendWith (.ref S) (.ref b) res)
      (fun fin s' => match fin with | .done f => R (.ok f) s' | .again c' => c'.quiet = true ∧ codeAny (model PySem.Challenge.rw_in0004_01.row.prog w) A c' R s') (fun e s' => R (.error e) s') s := by
  have hbl : b < s.heap.objs.size := Heap.lt_size I.at_
  have hSI : S ≠ s.heap.objs.size := Nat.ne_of_lt (Heap.lt_size hS)
  have hSf : S ∉ [s.heap.objs.size, b] := by simp only [List.mem_cons, List.not_mem_nil, or_false, not_or]; exact ⟨hSI, hSb⟩
  have W : Walks PySem.Challenge.rw_in0004_01.row.prog w A.in1 s.heap.objs.size [s.heap.objs.size, b] [s.heap.objs.size] es.size (fun i v => ∃ e, es[i]? = some e ∧ v = e.key) (fun i h => h.IsKeyIter s.heap.objs.size b i es.size ep ∧ h.get? b = some (bookO db es ep)) := rows_walk (show A.in1.handled = none from hh) s.heap.objs.size (Nat.ne_of_lt hbl) rfl
  have hn : es.size ≤ sizeLine := by rw [sizeLine_eq]; omega
  generalize hSt : (fun (i : Nat) (h : Heap) => h.IsKeyIter s.heap.objs.size b i es.size ep ∧ h.get? b = some (bookO db es ep)) = St at W
  have hSt0 : ∀ h : Heap, (h.IsKeyIter s.heap.objs.size b 0 es.size ep ∧ h.get? b = some (bookO db es ep)) → St 0 h := fun h x => hSt ▸ x
  clear hSt
  have key : ∀ (h : Heap) (c₁ tk : Nat), St 0 h → (∀ b o, b ≠ S → s.heap.get? b = some o → h.get? b = some o) →
      h.get? S = some { cls := .type "list", data := .seq #[] c₁ } → codeAny (model PySem.Challenge.rw_in0004_01.row.prog w) A (.builtin "list.extend.loop" ⟨[.ref S, .ref s.heap.objs.size, res], []⟩) R { s with heap := h, toks := tk } := by
    intro h c₁ tk hst hk hS₁
    have WS := W.toS
    refine codeAny_extend_loopS WS hn S hSf res es.size 0 _ #[] c₁ rfl (Nat.zero_le _) hst hS₁ (ItemsOf.nil _) fun s' acc' c' hm hS' hacc => ?_
    rw [Moved.eq_with hm]
    refine hR s'.heap s'.toks acc' c' (fun b o hb e => hm.heap b o (fun hmem => ?_) (hk b o hb e)) hS' hacc
    rcases List.mem_cons.mp hmem with e' | hmem
    · exact hb e'
    · exact absurd (Heap.lt_size e) (by rw [List.mem_singleton.mp hmem]; exact Nat.lt_irrefl _)
  unfold Builtin.List.listExtendWith
  refine wpAny_bind (I.type.here ?_)
  have h1 : Builtin.List.listSameRef (.ref S) (.ref b) = false := by simp [Builtin.List.listSameRef, hSb]
  simp only [h1, show (Value.ref 136 == Value.type "list") = false from rfl, show (Value.ref 136 == Value.type "tuple") = false from rfl, Bool.or_false, Bool.false_eq_true, if_false]
  refine wpAny_bind (iter_book X I hb ?_)
  have up : ∀ a o, s.heap.get? a = some o → (s.heap.push { cls := .type "dict_keyiterator", data := .fields #[.ref b, .int 0 0, .int es.size 0, .int ep 0] }).get? a = some o := fun a o e => Heap.get?_push_of_some _ e
  have hS₁ := up _ _ hS
  have X1 := X.keeps up
  have I1 : InstAt (s.heap.push { cls := .type "dict_keyiterator", data := .fields #[.ref b, .int 0 0, .int es.size 0, .int ep 0] }) b (bookO db es ep) 136 (some od) := ⟨up _ _ I.at_, I.cls, I.no, up _ _ I.dict⟩
  have hit : (s.heap.push { cls := .type "dict_keyiterator", data := .fields #[.ref b, .int 0 0, .int es.size 0, .int ep 0] }).IsKeyIter s.heap.objs.size b 0 es.size ep := ⟨_, Heap.get?_push_size _ rfl, rfl, rfl⟩
  refine wpAny_bind (wpAny_holding (hint_book (s := { s with heap := s.heap.push { cls := .type "dict_keyiterator", data := .fields #[.ref b, .int 0 0, .int es.size 0, .int ep 0] } }) X1 I1 hb hz fun r tk => ?_))
  refine wpAny_ite_split (fun _ => ?_) (fun _ => wpAny_pure ⟨plainId_quiet PySem.F.plain_extend_loop _, key _ c₀ _ (hSt0 _ ⟨hit, I1.at_⟩) (fun b o _ e => Heap.get?_push_of_some _ e) hS₁⟩)
  refine wpAny_bind (wpAny_rule ?_)
  refine wpAny_bind ?_
  show wpAny _ _ (updateSeq S (·.push .none) >>= fun _ => updateSeq S (·.pop)) _ _ _
  refine wpAny_bind (wpAny_updateSeq hS₁ rfl ?_)
  have hS₂ := Heap.get?_update_self (Obj.mapSeq (·.push Value.none)) hS₁ rfl
  refine wpAny_updateSeq (hz := by seq_fits) hS₂ rfl ?_
  have hS₃ := Heap.get?_update_self (Obj.mapSeq (·.pop)) hS₂ rfl
  refine wpAny_pure ⟨plainId_quiet PySem.F.plain_extend_loop _, key _ _ _ ?_ (fun b o hb e => ?_) hS₃⟩
  · refine W.frame 0 _ _ (hSt0 _ ⟨hit, I1.at_⟩) fun b hb o e => ?_
    have hbS : b ≠ S := fun h => hSf (h ▸ hb)
    exact (Heap.get?_update_other _ _ (Ne.symm hbS)).trans ((Heap.get?_update_other _ _ (Ne.symm hbS)).trans e)
  · exact (Heap.get?_update_other _ _ (Ne.symm hb)).trans ((Heap.get?_update_other _ _ (Ne.symm hb)).trans (Heap.get?_push_of_some _ e))
theorem list_book {h₀ : Heap} {L : Addr} {m : PySem.Str → Option Value} {news : List (Addr × Obj)} {Q : Value → Shared → Prop} (X : (Mine.K w.params).In s.heap) (F : Fr h₀ L s.heap m) (N : News h₀ L s.heap news) (hbm : (b, bookO db es ep) ∈ news) (hdm : (db, ob) ∈ news) (hb : (b == sysModules) = false) (hz : es.size ≤ 1000) (hh : A.handled = none)
    (h : ∀ D c h' tk (vs : List Value), Fr h₀ L h' m → News h₀ L h' ((D, listOf vs.toArray c) :: news) → (∀ q ∈ news, q.1 < D) → vs.length = es.size → (∀ (j : Nat) (v : Value), vs[j]? = some v → ∃ e : DictEntry, es[j]? = some e ∧ v = e.key) → Q (.ref D) { s with heap := h', toks := tk }) :
    wpAny (model PySem.Challenge.rw_in0004_01.row.prog w) A (call (.type "list") [.ref b]) Q E s := by
  have I := inst_book N hbm hdm
  have hQ : ∀ h' tk acc' c', (∀ b o, s.heap.get? b = some o → h'.get? b = some o) → h'.get? s.heap.objs.size = some { cls := .type "list", dict := none, data := .seq acc' c', slots := #[] } → ItemsOf (fun i v => ∃ e, es[i]? = some e ∧ v = e.key) acc' es.size → Q (.ref s.heap.objs.size) { s with heap := h', toks := tk } :=
    fun h' tk acc' c' hk hD hacc => h _ c' h' tk acc'.toList (F.keeps hk) (news_pushed F N hk (by first | (rw [Array.toArray_toList]; exact hD) | simpa using hD) rfl) (fun q hq => Heap.lt_size (N q hq).1)
    (by rw [Array.length_toList]; exact hacc.1) fun j v e => hacc.2 j v (by rw [← Array.getElem?_toList]; exact e)
  refine callType_codes (Q₁ := fun obj s₁ => obj = .ref s.heap.objs.size ∧ s₁ = { s with heap := s.heap.push { cls := .type "list", data := .seq #[] } }) PySem.F.called_list (PySem.F.typeCall_list_1 _) PySem.F.entry_list_init
    (code_list_new _ ⟨rfl, rfl⟩) fun obj s₁ h₁ => ?_
  obtain ⟨rfl, rfl⟩ := h₁
  have hS : (s.heap.push { cls := .type "list", data := .seq #[] }).get? s.heap.objs.size = some { cls := .type "list", data := .seq #[] } := Heap.get?_push_size _ rfl
  have hlt : b < s.heap.objs.size := Heap.lt_size I.at_
  have up : ∀ a o, s.heap.get? a = some o → (s.heap.push { cls := .type "list", data := .seq #[] }).get? a = some o := fun a o e => Heap.get?_push_of_some _ e
  refine ⟨⟨_, hS, rfl⟩, PySem.F.args_list_init_2 _ _, ?_⟩
  show wpAny _ _ (do let old ← Builtin.List.listItems (.ref s.heap.objs.size); Builtin.List.listUpdate (.ref s.heap.objs.size) (fun _ => #[]); letGo old.toList.reverse; Builtin.List.listExtendWith (.ref s.heap.objs.size) (.ref b) .none) _ _ _
  refine wpAny_bind ?_
  unfold Builtin.List.listItems
  refine wpAny_bind (wpAny_seqItems hS rfl (wpAny_pure ?_))
  show wpAny _ _ (updateSeq s.heap.objs.size (fun _ => #[]) >>= fun _ => letGo (#[] : Array Value).toList.reverse >>= fun _ => Builtin.List.listExtendWith (.ref s.heap.objs.size) (.ref b) .none) _ _ _
  refine wpAny_bind (wpAny_updateSeq hS rfl ?_)
  have hS₂ := Heap.get?_update_self (Obj.mapSeq (fun _ => (#[] : Array Value))) hS rfl
  have oth : ∀ a o, s.heap.get? a = some o → ((s.heap.push { cls := .type "list", data := .seq #[] }).update s.heap.objs.size (Obj.mapSeq (fun _ => (#[] : Array Value)))).get? a = some o :=
    fun a o e => (Heap.get?_update_other _ _ (Ne.symm (Nat.ne_of_lt (Heap.lt_size e)))).trans (up a o e)
  refine wpAny_bind (wpAny_letGo ?_)
  have I2 : InstAt ((s.heap.push { cls := .type "list", data := .seq #[] }).update s.heap.objs.size (Obj.mapSeq (fun _ => (#[] : Array Value)))) b (bookO db es ep) 136 (some ob) := ⟨oth _ _ I.at_, I.cls, I.no, oth _ _ I.dict⟩
  refine extend_book (A := A.in1) (X.keeps oth) I2 hb hz hh s.heap.objs.size (Nat.ne_of_gt hlt) .none _ hS₂ (fun h' tk acc' c' hk hS' hacc => ?_)
  exact ⟨rfl, hQ h' tk acc' c' (fun a o e => hk a o (Nat.ne_of_lt (Heap.lt_size e)) (oth a o e)) hS' hacc⟩
end
end Mine
end
section
open PySem PySem.W PySem.Calls PySem.Spec PyProof.Rows PyProof.V
set_option maxRecDepth 100000
set_option maxHeartbeats 4000000
namespace Mine
theorem take_map {α : Type} (l : List α) : ∀ i, i ≤ l.length → (List.range i).filterMap (fun k => l[k]?) = l.take i
  | 0, _ => by simp
  | i + 1, h => by
    rw [List.range_succ, List.filterMap_append, take_map l i (by omega)]
    have e : l[i]? = some l[i] := List.getElem?_eq_getElem (by omega)
    simp only [List.filterMap_cons, List.filterMap_nil, e]
    rw [List.take_add_one, e]; rfl
theorem pick_take (vs : List Value) (i : Nat) (hi : i ≤ vs.length) : slicePick vs.toArray none (some (i : Int)) none = (vs.take i).toArray := by
  unfold slicePick
  have e : sliceBounds none (some (i : Int)) none vs.toArray.size = (0, (i : Int), 1) := by
    unfold sliceBounds
    simp only [Option.getD_none, List.size_toArray]
    refine Prod.ext rfl (Prod.ext ?_ rfl)
    simp
    omega
  rw [e]
  have e2 : sliceRange 0 (i : Int) 1 = List.range i := by
    unfold sliceRange
    simp
    split
    · simp
    · have : i = 0 := by omega
      simp [this]
  rw [e2]
  congr 1
  rw [← take_map vs i hi]
  simp
end Mine
end
section
open PySem PySem.W PyProof.Rows
set_option maxRecDepth 100000
set_option maxHeartbeats 8000000
set_option pp.maxSteps 400
namespace Mine
inductive Stage : Nat → Prop
  | mk (n : Nat) : Stage n
theorem holdAt {P : Prop} {n : Nat} (_ : Stage n) (h : Hold P) : P := hold h

/-- how the law ends -/
noncomputable def LawEnd (hb : Heap) (L : Addr) (s₁ : Shared) (f : Flow) (s' : Shared) : Prop := ∃ h' tk' m' n' ps, f = .ret (.bool true) ∧ s' = { heap := h', gens := s₁.gens, drawn := s₁.drawn, toks := tk', os := s₁.os } ∧ Fr hb L h' m' ∧ News hb L h' n' ∧ (128, tabObj ps) ∈ n'
theorem ldm {M : Model} {A : Around} {E : Value → Shared → Prop} {s : Shared} {h₀ : Heap} {env : Env} {m : PySem.Str → Option Value} {x : PySem.Str} {pos : Pos} {v : Value} {Q : Value → Shared → Prop}
    (F : Fr h₀ env.locals s.heap m) (hx : m x = some v) (h : Q v s) (hk : env.scope.kind = .function) (hl : env.kindOf x = some .local) (hd : (x == (PySem.Str.ofString "__debug__")) = false) :
    wpAny M A (eval (.Name x pos) env) Q E s := wpAny_Name (wpAny_loadName_local hk hl F.ns hx h) hd
end Mine
end
section
open PySem PySem.W PyProof.Rows
open Mine
set_option pp.maxSteps 400
local macro_rules | `(tactic| walk_at "call type:enumerate") => `(tactic| (k_here; refine holdAt (show Stage 5 by assumption) ?_))
local macro_rules | `(tactic| walk_at "compareOp NotIn") => `(tactic| (k_here; refine hold ?_))
local macro_rules | `(tactic| walk_at "compareOp NotEq ref ref") => `(tactic| (k_here; refine hold ?_))
local macro_rules | `(tactic| walk_at "compareOp Eq ref ref") => `(tactic| (k_here; refine holdAt (show Stage 7 by assumption) ?_))
local macro_rules | `(tactic| walk_at "call type:list") => `(tactic| (k_here; refine holdAt (show Stage 7 by assumption) ?_))
local macro_rules | `(tactic| walk_at "exec Assign cons ListComp") => `(tactic| (k_here; refine hold ?_))
local macro_rules | `(tactic| walk_at "eval ListComp") => `(tactic| (k_here; refine hold ?_))
local macro_rules | `(tactic| walk_at "subscriptTail Name Slice ref ref") => `(tactic| (k_here; refine hold ?_))
local macro_rules | `(tactic| walk_at "subscriptTail Name BinOp ref int") => `(tactic| (k_here; refine hold ?_))
local macro_rules | `(tactic| walk_at "subscriptTail Name Constant ref int") => `(tactic| (k_here; refine hold ?_))
local macro_rules | `(tactic| walk_at "pyIter") => `(tactic| (k_here; refine holdAt (show Stage 4 by assumption) ?_))
local macro_rules | `(tactic| walk_at "eval Name") => `(tactic| (k_here; k_dflt (refine' ldm ?k1 ?k2 ?_ ?k3 ?k4 ?k5; (case k1 => k_asm); (case k2 => ((try dsimp only); (repeat rw [if_neg (by decide)]); with_reducible assumption)); (case k3 => rfl); (case k4 => rfl); (case k5 => decide); k_whole)))
local macro_rules | `(tactic| walk_at "storeName") => `(tactic| (k_here; (with_reducible show wpAny _ _ (storeName (compEnvC _ _ _ _) _ _) _ _ _); k_dflt (refine' store_cm ?k1 ?k2 ?k3 ?k4 ?_; (case k1 => k_asm); (case k2 => k_asm); (case k3 => rfl); (case k4 => rfl); k_whole); intro h' F' N'))
local macro_rules | `(tactic| walk_at "eval Name") => `(tactic| (k_here; (with_reducible show wpAny _ _ (eval (Expr.Name _ _) (compEnvC _ _ _ _)) _ _ _); k_dflt (first
  | (refine' ldl_cm ?k1 ?k2 ?_ ?k3 ?k4 ?k5; (case k1 => k_asm); (case k2 => ((try dsimp only); (repeat rw [if_neg (by decide)]); first | exact rfl | with_reducible assumption)); (case k3 => rfl); (case k4 => rfl); (case k5 => decide); k_whole)
  | (refine' ldc_cm ?k1 ?k2 ?k6 ?k7 ?_ ?k3 ?k4 ?k5; (case k1 => k_asm); (case k2 => exact rfl); (case k6 => k_mem); (case k7 => assumption); (case k3 => rfl); (case k4 => rfl); (case k5 => decide); k_whole))))
local macro_rules | `(tactic| walk_at "CompBody") => `(tactic| (k_here; refine hold ?_))
local macro_rules | `(tactic| walk_at "call builtin:list.append") => `(tactic| (k_here; refine hold ?_))
local macro_rules | `(tactic| walk_at "call ref") => `(tactic| (k_here; (with_reducible show wpAny _ _ (call (Value.ref 63) _ _) _ _ _); refine hold ?_))
local macro_rules | `(tactic| walk_at "call ref") => `(tactic| (k_here; (with_reducible show wpAny _ _ (call (Value.ref 255) _ _) _ _ _); refine hold ?_))
local macro_rules | `(tactic| walk_at "call ref") => `(tactic| (k_here; (with_reducible show wpAny _ _ (call (Value.ref 262) _ _) _ _ _); refine hold ?_))
local macro_rules | `(tactic| walk_at "call ref") => `(tactic| (k_here; (with_reducible show wpAny _ _ (call (Value.ref 269) _ _) _ _ _); refine hold ?_))
local macro_rules | `(tactic| walk_at "call ref") => `(tactic| (k_here; (with_reducible show wpAny _ _ (call (Value.ref 248) _ _) _ _ _); refine hold ?_))
local macro_rules | `(tactic| walk_at "exec Assign cons Call") => `(tactic| (k_here; (with_reducible show wpAny _ _ (exec (Stmt.Assign _ (Expr.Call (Expr.Name (PySem.Str.ofString "_law_side_by_side") _) _ _ _) _) _) _ _ _); refine holdAt (show Stage 2 by assumption) ?_))
local macro_rules | `(tactic| walk_at "exec Assign cons Call") => `(tactic| (k_here; refine holdAt (show Stage 1 by assumption) ?_))
local macro_rules | `(tactic| walk_at "getAttr ref") => `(tactic| (k_here; refine holdAt (show Stage 8 by assumption) ?_))
local macro_rules | `(tactic| walk_at "exec For Tuple Call cons nil") => `(tactic| (k_here; (rename Fr _ _ _ _ => lF'); (with_unfolding_all refine' For_turns lF' ?_; k_whole)))
local macro_rules | `(tactic| walk_at "TEnd") => `(tactic| ((with_reducible show TEnd _ _ _ _ _ _ (Flow.ret _) _); dsimp only [TEnd]))
local macro_rules | `(tactic| walk_at "subscriptTail Name Name ref str") => `(tactic| (k_here; refine holdAt (show Stage 6 by assumption) ?_))
local macro_rules | `(tactic| walk_at "binaryOp Add ref ref") => `(tactic| (k_here; refine holdAt (show Stage 6 by assumption) ?_))
set_option maxRecDepth 100000 in
set_option maxHeartbeats 400000000 in
theorem Mine.law_all : PySem.Challenge.rw_in0004_01.Holds := by
  w_on
  refine Mine.open_law ?_
  refine holds_open (q := Mine.vw) (loose := Mine.loose) (Xt := fun s => xlAt Mine.vw [] s && recOk (RowW.records (OpenRow.toRowW PySem.Challenge.rw_in0004_01.row)) s) (XP := XL Mine.vw []) (Yf := Hook.obs (kmHook Mine.K Mine.kAs Mine.kE (128 :: []))) (Ya := Hook.val (kmHook Mine.K Mine.kAs Mine.kE (128 :: []))) (YP := Hook.says (kmHook Mine.K Mine.kAs Mine.kE (128 :: []))) (N := 4924) Mine.hl (Hook.of (kmHook Mine.K Mine.kAs Mine.kE (128 :: []))) (Hook.keeps (kmHook Mine.K Mine.kAs Mine.kE (128 :: []))) (fun s e => xl_of s (Bool.and_eq_true_iff.mp e).1) XL.keeps (by rfl) (by rfl) (by rfl) (fun s e => recFacts_of (Bool.and_eq_true_iff.mp e).2) (by rfl) (by decide +kernel) (by decide +kernel) ⟨rfl, rfl, rfl, rfl, rfl, by decide +kernel⟩ ?hw_1 ?hc_1
  case hw_1 => w_witness2
  k_fill
  intro w s₀ s₁ mg mb G Y fa o pm cd doc dV kV ho hd hcd hD hmg hg args vals as hpre hlay hrd hwl hlo
  have KX := km_in_of Y
  km_tabs Y
  have X := (Ground.X G).1
  have V := (Ground.X G).2
  refine Ground.open G ?_
  intro T B D TE TW
  try (refine guard_noD D (by decide +kernel) ?_; clear D)
  km_lay T hmg ho hd cd
  clear hmg
  wrow_args hpre hlay hrd hwl hlo
  all_goals (
    first | refine callC_kw (enter_call ?_) | refine enter_call ?_
    w_top on
    kn_posts
    w_call any ho hd hcd hD T F
    clear hd
    kn_ghosts F T
    k_drop
    skip)
  all_goals try k_fold
  rename Fr _ _ _ _ => F0
  rename News _ _ _ _ => N0
  rename_i ws vsS _ sc vs asx hL ra w1 r0 hI hr hc1 hc2 h₁ tk₁ c1 c2 c3 c4 c5 c6 c7 c8 e1 e2 e3 e4 e5 e6 e7 e8 X0 X T K l0
  rename_i nsS _ _ _ _ _
  obtain ⟨m0, hms, F1⟩ : ∃ m0 : PySem.Str → Option Value, m0 (PySem.Str.ofString "script") = some (.ref sc) ∧ Fr (ghostOf s₁.heap [(132, 128)]) s₁.heap.objs.size h₁ m0 := ⟨_, rfl, F0⟩
  clear F0
  replace e1 : c1.data = Data.cell none := e1
  replace e2 : c2.data = Data.cell none := e2
  replace e3 : c3.data = Data.cell none := e3
  replace e4 : c4.data = Data.cell none := e4
  replace e5 : c5.data = Data.cell none := e5
  replace e6 : c6.data = Data.cell none := e6
  replace e7 : c7.data = Data.cell none := e7
  replace e8 : c8.data = Data.cell none := e8
  clear X0 hD hcd TE TW B V ho hr r0 ra hc2 ws
  refine wpAny_mono (Q := LawEnd (ghostOf s₁.heap [(132, 128)]) s₁.heap.objs.size s₁) (E := fun _ _ => False) ?_ ?_ (fun _ _ h => h.elim)
  case refine_2 =>
    intro f s' hR44
    refine gp fun kG102 => ?_
    obtain ⟨h', tk', m', n', ps, rfl, rfl, F', N', hm⟩ := hR44
    refine kG102.go ?_
    dsimp only
    clear F1 N0
    k_steps
    done
  rename Flt.MathXP _ _ _ => XM
  rename Top vw _ _ _ _ _ => TM
  have hsys : ∃ o, (ghostOf s₁.heap [(132, 128)]).get? sysModules = some o := by
    obtain ⟨mm, ⟨o, _, _, ho, _⟩, _⟩ := (G.T.seer (by decide +kernel)).mods
    exact ⟨o, ghost_ne ho (by decide)⟩
  clear G Y hT8 hT9 w1 XM TM hL
  generalize ghostOf s₁.heap [(132, 128)] = hb at *
  generalize s₁.heap.objs.size = L at *
  replace codeHd : CodeHd hb 132 128 := codeHd
  clear asx vsS
  rename List Addr => wAs
  clear wAs
  have hlen63 : nsS.length ≤ 63 := by omega
  clear hg hc1 pm doc o
  w_top off
  rename_i hs hlay0 hL hr
  k_steps
  refine Hold.mk ?_
  rename Fr _ _ _ _ => F2
  rename News _ _ _ _ => N2
  rename_i Dw _ lW _ oW dW
  refine cut7_4 F2 N2 (News.isTup N2 (List.mem_cons_self ..)) ?_ ?hs_2 ?hg_2
  case hs_2 => with_unfolding_all rfl
  case hg_2 => intro _; with_unfolding_all rfl
  intro T1 h' F' N' l1
  k_lt l1
  clear F2 N2
  k_steps
  refine Hold.mk ?_
  rename Fr _ _ _ _ => F2
  rename News _ _ _ _ => N2
  refine cut7_5 F2 N2 (News.isTup N2 (List.mem_cons_of_mem _ (List.mem_cons_self ..))) ?_ ?hs_3 ?hg_3
  case hs_3 => with_unfolding_all rfl
  case hg_3 => intro _; with_unfolding_all rfl
  intro T2 h' F' N' l2
  k_lt l2
  clear F2 N2
  k_steps
  refine Hold.mk ?_
  rename Fr _ _ _ _ => F2
  rename News _ _ _ _ => N2
  rename_i Dc _ lC _ oC dC Dn _ lN _ oN dN
  rename_i h'
  refine gp fun kG103 => ?_
  obtain ⟨rest, N3, hlt, hDw, hDc, hDn⟩ : (∃ rest, An5 (News hb L _ (cellsL L oW oC oN c5 c4 c3 c2 c1 (tabObj #[]) rest)) ((∀ p ∈ rest, OffC L p.1)) (WordsAt rest Dw) (CalledAt rest Dc) (NumsAt rest Dn)) := by
    refine ⟨[_, _, _, _, _], news_swap5 N2, ?_, ⟨_, _, _, _, _, _, _, by k_mem⟩, ⟨_, _, _, _, _, _, by k_mem⟩, ⟨_, _, _, _, _, by k_mem⟩⟩
    intro p hp
    simp only [List.mem_cons, List.not_mem_nil, or_false] at hp
    rcases hp with h | h | h | h | h <;> (rw [h]; dsimp only [OffC]; omega)
  refine kG103.go ?_
  clear N2 lW l1 l2 lC lN
  skip
  refine assign_comp (h₀ := hb) (L := L) F2.above (by rfl) (by with_unfolding_all rfl) (by with_unfolding_all rfl) (by decide) (by rfl) (by decide) (by rfl) (by rfl) ?_
  k_steps
  refine Hold.mk ?_
  have hsz8 := Heap.lt_size (N3 _ (List.mem_cons_self ..)).1
  have hz63 : vs.toArray.size ≤ sizeLine := by rw [List.size_toArray, hI.length, sizeLine_eq]; omega
  refine' slice_list3 (items := vs.toArray) F2 N3 (Fr.lst F2 lifted) .none (.int _ _) (.int _ _) (by decide) ?hh_4 ?hs_4 ?hg_4 hz63
  case hs_4 => with_unfolding_all rfl
  case hg_4 => intro _; with_unfolding_all rfl
  intro h' F' N'
  dsimp only at N'
  clear F2 N3
  obtain ⟨xsL, hxsL, hlenL⟩ := pick_ints hI (lo := none) (.inl rfl)
  generalize hpk : slicePick vs.toArray none (some 12) (some 2) = pk at *
  obtain ⟨pk⟩ := pk
  clear hpk
  k_steps
  rename IntsAre _ (xsL ++ _) => hIL
  rename Fr _ _ _ _ => F2
  rename News _ _ _ _ => N2
  rename_i lL hA lA Dl wsL hB lB
  dsimp only at hsz8
  refine gp fun kG104 => ?_
  obtain ⟨rest1, N3, hlt1, hsub1, hDl⟩ : (∃ rest1, An4 (News hb L hB (cellsL L oW oC oN c5 c4 c3 c2 c1 (tabObj #[]) rest1)) ((∀ p ∈ rest1, OffC L p.1)) ((∀ p ∈ rest, p ∈ rest1)) ((Dl, listOf wsL.toArray 0) ∈ rest1)) := by
    refine ⟨[_, _, _] ++ rest, news_in (xs := [_, _, _]) N2, ?_, fun p hp => List.mem_append_right _ hp, List.mem_cons_self ..⟩
    intro p hp
    rcases List.mem_append.mp hp with hp | hp
    · simp only [List.mem_cons, List.not_mem_nil, or_false] at hp
      rcases hp with h | h | h
      · rw [h]; dsimp only [OffC]; omega
      · rw [h]; dsimp only [OffC]; omega
      · rw [h]
        have h8 : ∀ z : Nat, L + 1 + 1 + 1 + 1 + 1 + 1 + 1 + 1 < z → OffC L (z + 1) := fun z hz => by dsimp only [OffC]; omega
        exact h8 _ hsz8
    · exact hlt p hp
  refine kG104.go ?_
  replace hDw := hDw.mono hsub1
  replace hDc := hDc.mono hsub1
  replace hDn := hDn.mono hsub1
  clear N2 lA lB hsub1 hlt hsz8 rest hz63
  skip
  refine go_enum (vs := wsL) (c := 0) (by rfl) F2 N3 (mem_cells hDl) (by intro g e; cases e) (fun Cn D oL i r m n => (Ex4 fun us k rest' es => An7 (n = (L, oL) :: (D, listOf (List.toArray us) k) :: cellsL L oW oC oN c5 c4 c3 c2 c1 (tabObj #[]) rest') ((∀ p ∈ rest1, p ∈ rest')) ((∀ p ∈ rest', OffC L p.1 ∧ p.1 ≠ D ∧ p.1 ≠ L)) ((OffC L D ∧ D ≠ L)) (DatAll rest' us es) (es = rowsFrom leftRow 0 ((xsL ++ [16, 4, 12, 9]).take i)) (i ≤ 10))) ?_ ?_ ?_ ?_
  · intro Cn D oL i r m n hR45
    refine gp fun kG105 => ?_
    obtain ⟨us, k, rest', es, rfl, hsub, _⟩ := hR45
    refine kG105.go ?_
    exact List.mem_cons_of_mem _ (List.mem_cons_of_mem _ (mem_cells (hsub _ hDl)))
  · intro Cn D oL hns hDC hCL hDL hoff
    refine ⟨[], 0, rest1, [], rfl, fun _ h => h, fun p hp => ⟨hlt1 p hp, (hoff p (mem_cells hp)).2.1, (hoff p (mem_cells hp)).1⟩, ⟨offC_of hDL fun p hp => (hoff p hp).2.1, hDL⟩, .nil, by simp [rowsFrom], Nat.zero_le _⟩
  · intro Cn D oL i v r m₁ n₁ h₁ tk₁ its T t E' hR46 hvi hR47 off hT F3 N3
    refine gp fun kG106 => ?_
    obtain ⟨us, k, rest', es, rfl, hsub, hrest, ⟨hD1, hD2⟩, hus, hes, hi10⟩ := hR46
    obtain ⟨pe, pi, rfl⟩ := hR47
    simp only [List.cons_append, List.nil_append] at N3
    obtain ⟨t0, t1, t2, t3, t4, t5, t6, hDw'⟩ := hDw.mono hsub
    obtain ⟨u0, u1, u2, u3, u4, hDn'⟩ := hDn.mono hsub
    obtain ⟨x, tx, rfl, hx⟩ := ints_get hIL hvi
    refine kG106.go ?_
    k_steps
    refine Hold.mk ?_
    refine CompBody.all (inner_emit (by rfl) ?_)
    k_steps
    refine Hold.mk ?_
    have q1 := wi_lt x
    have q2 := word_at (k := wi x) q1 t0 t1 t2 t3 t4 t5 t6
    obtain ⟨tw, hw⟩ := q2
    clear q1
    refine item_small (News.isTup (by k_asm) (by repeat (first | exact hDw' | refine List.mem_cons_of_mem _ ?_))) (fmod_lt x (n := 7) (by decide)).1 (Int.lt_trans (fmod_lt x (n := 7) (by decide)).2.1 (by decide)) hw ?_
    k_steps
    refine Hold.mk ?_
    have q1 := ni_lt x
    have q2 := num_at (k := ni x) q1 u0 u1 u2 u3 u4
    obtain ⟨tn, hn⟩ := q2
    clear q1
    refine item_small (News.isTup (by k_asm) (by repeat (first | exact hDn' | refine List.mem_cons_of_mem _ ?_))) (fmod_lt (Int.fdiv x 7) (n := 5) (by decide)).1 (Int.lt_trans (fmod_lt (Int.fdiv x 7) (n := 5) (by decide)).2.1 (by decide)) hn ?_
    k_steps
    refine Hold.mk ?_
    rename Fr _ _ _ _ => F4
    rename News _ _ _ _ => N4
    rename_i Dt hT2 lt
    have hcell : ∀ p ∈ cellsL L oW oC oN c5 c4 c3 c2 c1 (tabObj #[]) rest', p.1 ≠ D := cells_off hD1 fun p hp => (hrest p hp).2.1
    have hpe : pe.1 ≠ D := fun e => off _ (List.mem_cons_of_mem _ (List.mem_cons_self ..)) pe (List.mem_cons_self ..) e.symm
    have hpi : pi.1 ≠ D := fun e => off _ (List.mem_cons_of_mem _ (List.mem_cons_self ..)) pi (List.mem_cons_of_mem _ (List.mem_cons_self ..)) e.symm
    have hi : i < (xsL ++ [16, 4, 12, 9]).length := (List.getElem?_eq_some_iff.mp hx).1
    simp only [List.length_append, List.length_cons, List.length_nil] at hi
    have hul : us.length = i := by
      rw [hus.length, hes, rowsFrom_length, List.length_take]
      simp only [List.length_append, List.length_cons, List.length_nil]
      omega
    refine append_K (D := D) (its := us.toArray) (n := k) F4 N4 (Upd.tail (Nat.ne_of_gt lt.2.2.2.1) (Upd.tail hpe (Upd.tail hpi (Upd.tail hD2.symm (Upd.head hcell))))) ?_ (by rw [List.size_toArray, hul, sizeLine_eq]; omega)
    intro h5 F5 N5
    have hDt : @Ne Nat Dt L := Nat.ne_of_gt lt.2.2.1
    have hDtC : OffC L Dt := by
      have h1 : @LT.lt Nat _ (L + 1 + 1 + 1 + 1 + 1 + 1 + 1 + 1) Dt := lt.2.2.2.2.1
      dsimp only [OffC]; omega
    rw [show ((97 : Int) + (i : Int)) = ((97 : Nat) : Int) + (i : Int) from rfl, chr_at, List.push_toArray] at N5
    refine CEnd.mk' (its := [pe, pi]) (n' := (L, oL) :: (D, listOf (us ++ [Value.ref Dt]).toArray (k + 1)) :: cellsL L oW oC oN c5 c4 c3 c2 c1 (tabObj #[]) ([(Dt, tupO [.str (wordOf (wi x)) tw, .int (numOf (ni x)) tn, .str (chrS (97 + i)) (tk₁ + 1 + 1 + 1 + 1 + 1 + 1 + 1 + 1 + 1 + 1)])] ++ rest')) F5 ?_ ?_ ⟨_, _, _, es ++ [leftRow i x], rfl, fun p hp => List.mem_cons_of_mem _ (hsub p hp), ?_, ⟨hD1, hD2⟩, ?_, ?_, ?_⟩
    · exact news_turn (xs := [_]) (its := [pe, pi]) N5
    · refine off_turn off rfl ?_
      intro p hp q hq
      rw [List.mem_singleton.mp hp]
      rcases List.mem_cons.mp hq with h | hq
      · rw [h]; exact Nat.ne_of_gt lt.1
      · rw [List.mem_singleton.mp hq]; exact Nat.ne_of_gt lt.2.1
    · intro p hp
      rcases List.mem_cons.mp hp with h | hp
      · rw [h]; exact ⟨hDtC, Nat.ne_of_gt lt.2.2.2.1, hDt⟩
      · exact hrest p hp
    · exact (hus.mono fun p hp => List.mem_cons_of_mem _ hp).append (.one (.tuple (n := 0) (List.mem_cons_self ..) (.cons (.str _ _) (.cons (.int _ _) (.cons (.str _ _) .nil)))))
    · rw [hes, rowsFrom_take hx]
    · omega
  · intro Cn LL oL m₁ n₁ hR48
    refine gp fun kG107 => ?_
    obtain ⟨usL, kL, rest', esL, rfl, hsub, hrest, ⟨hD1, hD2⟩, husL, hesL, hi10⟩ := hR48
    refine kG107.go ?_
    refine ⟨_, rfl, ?_, ?_⟩
    · intro p hp
      rcases List.mem_cons.mp hp with h | hp
      · rw [h]; exact hD2
      · exact cells_off (D := L) (by dsimp only [OffC]; omega) (fun p hp => (hrest p hp).2.2) p hp
    · intro h6 tk6 F6o N6
      show wpAny _ _ _ _ _ { heap := h6, gens := s₁.gens, drawn := s₁.drawn, toks := tk6, os := s₁.os }
      rw [hIL.length, List.take_length] at hesL
      refine gp fun kG108 => ?_
      obtain ⟨m1, hm1s, hm1l, F6⟩ : (∃ (m1 : PySem.Str → Option Value), An3 (m1 (PySem.Str.ofString "script") = some (.ref sc)) (m1 (PySem.Str.ofString "left") = some (.ref LL)) (Fr hb L h6 m1)) := ⟨_, by rw [if_neg (by decide)]; exact hms, if_pos rfl, F6o⟩
      obtain ⟨rest2, N7, hlt2, hsub2, hLL⟩ : (∃ rest2, An4 (News hb L h6 (cellsL L oW oC oN c5 c4 c3 c2 c1 (tabObj #[]) rest2)) ((∀ p ∈ rest2, OffC L p.1)) ((∀ p ∈ rest', p ∈ rest2)) ((LL, listOf usL.toArray kL) ∈ rest2)) := by
        refine ⟨[_] ++ rest', news_in (xs := [_]) N6, ?_, fun p hp => List.mem_append_right _ hp, List.mem_cons_self ..⟩
        intro p hp
        rcases List.mem_cons.mp hp with h | hp
        · rw [h]; exact hD1
        · exact (hrest p hp).1
      refine kG108.go ?_
      replace hDw := (hDw.mono hsub).mono hsub2
      replace hDc := (hDc.mono hsub).mono hsub2
      replace hDn := (hDn.mono hsub).mono hsub2
      replace husL := husL.mono hsub2
      generalize hxa : xsL ++ [16, 4, 12, 9] = xaL at *
      have hxlL : xaL.length ≤ 10 := by rw [← hxa, List.length_append]; simp only [List.length_cons, List.length_nil]; omega
      clear F6o N6 hrest hsub hsub2 hD1 hD2 hi10 hDl hlt1 N3 F2 hIL hxsL hxa hlenL hms
      skip
      k_steps
      refine Hold.mk ?_
      refine assign_comp (h₀ := hb) (L := L) F6.above (by rfl) (by with_unfolding_all rfl) (by with_unfolding_all rfl) (by decide) (by rfl) (by decide) (by rfl) (by rfl) ?_
      k_steps
      refine Hold.mk ?_
      have hsz8 := Heap.lt_size (N7 _ (List.mem_cons_self ..)).1
      have hz63 : vs.toArray.size ≤ sizeLine := by rw [List.size_toArray, hI.length, sizeLine_eq]; omega
      refine' slice_list3 (items := vs.toArray) F6 N7 (Fr.lst F6 lifted) (.int _ _) (.int _ _) (.int _ _) (by decide) ?hh_5 ?hs_5 ?hg_5 hz63
      case hs_5 => with_unfolding_all rfl
      case hg_5 => intro _; with_unfolding_all rfl
      intro h' F' N'
      dsimp only at N'
      clear F6 N7
      obtain ⟨xsR, hxsR, hlenR⟩ := pick_ints hI (lo := some 1) (.inr rfl)
      generalize hpk : slicePick vs.toArray (some 1) (some 12) (some 2) = pk at *
      obtain ⟨pk⟩ := pk
      clear hpk
      k_steps
      rename IntsAre _ (xsR ++ _) => hIR
      rename Fr _ _ _ _ => F2
      rename News _ _ _ _ => N2
      rename_i lL hA lA Dr wsR hB lB
      dsimp only at hsz8
      refine gp fun kG109 => ?_
      obtain ⟨rest3, N3, hlt3, hsub1, hDr⟩ : (∃ rest3, An4 (News hb L hB (cellsL L oW oC oN c5 c4 c3 c2 c1 (tabObj #[]) rest3)) ((∀ p ∈ rest3, OffC L p.1)) ((∀ p ∈ rest2, p ∈ rest3)) ((Dr, listOf wsR.toArray 0) ∈ rest3)) := by
        refine ⟨[_, _, _] ++ rest2, news_in (xs := [_, _, _]) N2, ?_, fun p hp => List.mem_append_right _ hp, List.mem_cons_self ..⟩
        intro p hp
        rcases List.mem_append.mp hp with hp | hp
        · simp only [List.mem_cons, List.not_mem_nil, or_false] at hp
          rcases hp with h | h | h
          · rw [h]; dsimp only [OffC]; omega
          · rw [h]; dsimp only [OffC]; omega
          · rw [h]
            have h8 : ∀ z : Nat, L + 1 + 1 + 1 + 1 + 1 + 1 + 1 + 1 < z → OffC L (z + 1) := fun z hz => by dsimp only [OffC]; omega
            exact h8 _ hsz8
        · exact hlt2 p hp
      refine kG109.go ?_
      replace hDw := hDw.mono hsub1
      replace hDc := hDc.mono hsub1
      replace hDn := hDn.mono hsub1
      replace hLL := hsub1 _ hLL
      replace husL := husL.mono hsub1
      clear N2 lA lB hsub1 hlt2 hsz8 rest2 hz63
      refine go_enum (vs := wsR) (c := 0) (by rfl) F2 N3 (mem_cells hDr) (by intro g e; cases e) (fun Cn D oL i r m n => (Ex4 fun us k rest' es => An7 (n = (L, oL) :: (D, listOf (List.toArray us) k) :: cellsL L oW oC oN c5 c4 c3 c2 c1 (tabObj #[]) rest') ((∀ p ∈ rest3, p ∈ rest')) ((∀ p ∈ rest', OffC L p.1 ∧ p.1 ≠ D ∧ p.1 ≠ L)) ((OffC L D ∧ D ≠ L)) (DatAll rest' us es) (es = rowsFrom rightRow 0 ((xsR ++ [4, 2, 5, 2]).take i)) (i ≤ 10))) ?_ ?_ ?_ ?_
      · intro Cn D oL i r m n hR49
        refine gp fun kG110 => ?_
        obtain ⟨us, k, rest', es, rfl, hsub, _⟩ := hR49
        refine kG110.go ?_
        exact List.mem_cons_of_mem _ (List.mem_cons_of_mem _ (mem_cells (hsub _ hDr)))
      · intro Cn D oL hns hDC hCL hDL hoff
        refine ⟨[], 0, rest3, [], rfl, fun _ h => h, fun p hp => ⟨hlt3 p hp, (hoff p (mem_cells hp)).2.1, (hoff p (mem_cells hp)).1⟩, ⟨offC_of hDL fun p hp => (hoff p hp).2.1, hDL⟩, .nil, by simp [rowsFrom], Nat.zero_le _⟩
      · intro Cn D oL i v r m₁ n₁ h₁ tk₁ its T t E' hR50 hvi hR51 off hT F3 N3
        refine gp fun kG111 => ?_
        obtain ⟨us, k, rest', es, rfl, hsub, hrest, ⟨hD1, hD2⟩, hus, hes, hi10⟩ := hR50
        obtain ⟨pe, pi, rfl⟩ := hR51
        simp only [List.cons_append, List.nil_append] at N3
        obtain ⟨t0, t1, t2, t3, t4, t5, hDc'⟩ := hDc.mono hsub
        obtain ⟨x, tx, rfl, hx⟩ := ints_get hIR hvi
        refine kG111.go ?_
        k_steps
        refine Hold.mk ?_
        refine CompBody.all (inner_emit (by rfl) ?_)
        k_steps
        refine Hold.mk ?_
        have q1 := ci_lt x
        have q2 := called_at (k := ci x) q1 t0 t1 t2 t3 t4 t5
        obtain ⟨tw, hw⟩ := q2
        clear q1
        refine item_small (News.isTup (by k_asm) (by repeat (first | exact hDc' | refine List.mem_cons_of_mem _ ?_))) (fmod_lt x (n := 6) (by decide)).1 (Int.lt_trans (fmod_lt x (n := 6) (by decide)).2.1 (by decide)) hw ?_
        k_steps
        refine Hold.mk ?_
        rename Fr _ _ _ _ => F4
        rename News _ _ _ _ => N4
        rename_i tE _ _ Dt hT2 lt
        have hcell : ∀ p ∈ cellsL L oW oC oN c5 c4 c3 c2 c1 (tabObj #[]) rest', p.1 ≠ D := cells_off hD1 fun p hp => (hrest p hp).2.1
        have hpe : pe.1 ≠ D := fun e => off _ (List.mem_cons_of_mem _ (List.mem_cons_self ..)) pe (List.mem_cons_self ..) e.symm
        have hpi : pi.1 ≠ D := fun e => off _ (List.mem_cons_of_mem _ (List.mem_cons_self ..)) pi (List.mem_cons_of_mem _ (List.mem_cons_self ..)) e.symm
        have hi : i < (xsR ++ [4, 2, 5, 2]).length := (List.getElem?_eq_some_iff.mp hx).1
        simp only [List.length_append, List.length_cons, List.length_nil] at hi
        have hul : us.length = i := by
          rw [hus.length, hes, rowsFrom_length, List.length_take]
          simp only [List.length_append, List.length_cons, List.length_nil]
          omega
        refine append_K (D := D) (its := us.toArray) (n := k) F4 N4 (Upd.tail (Nat.ne_of_gt lt.2.2.2.1) (Upd.tail hpe (Upd.tail hpi (Upd.tail hD2.symm (Upd.head hcell))))) ?_ (by rw [List.size_toArray, hul, sizeLine_eq]; omega)
        intro h5 F5 N5
        have hDt : @Ne Nat Dt L := Nat.ne_of_gt lt.2.2.1
        have hDtC : OffC L Dt := by
          have h1 : @LT.lt Nat _ (L + 1 + 1 + 1 + 1 + 1 + 1 + 1 + 1) Dt := lt.2.2.2.2.1
          dsimp only [OffC]; omega
        rw [show ((65 : Int) + (i : Int)) = ((65 : Nat) : Int) + (i : Int) from rfl, chr_at, List.push_toArray] at N5
        refine CEnd.mk' (its := [pe, pi]) (n' := (L, oL) :: (D, listOf (us ++ [Value.ref Dt]).toArray (k + 1)) :: cellsL L oW oC oN c5 c4 c3 c2 c1 (tabObj #[]) ([(Dt, tupO [.str (calledOf (ci x)) tw, .str (chrS (65 + i) ++ PySem.Str.ofString "=") tE])] ++ rest')) F5 ?_ ?_ ⟨_, _, _, es ++ [rightRow i x], rfl, fun p hp => List.mem_cons_of_mem _ (hsub p hp), ?_, ⟨hD1, hD2⟩, ?_, ?_, ?_⟩
        · exact news_turn (xs := [_]) (its := [pe, pi]) N5
        · refine off_turn off rfl ?_
          intro p hp q hq
          rw [List.mem_singleton.mp hp]
          rcases List.mem_cons.mp hq with h | hq
          · rw [h]; exact Nat.ne_of_gt lt.1
          · rw [List.mem_singleton.mp hq]; exact Nat.ne_of_gt lt.2.1
        · intro p hp
          rcases List.mem_cons.mp hp with h | hp
          · rw [h]; exact ⟨hDtC, Nat.ne_of_gt lt.2.2.2.1, hDt⟩
          · exact hrest p hp
        · exact (hus.mono fun p hp => List.mem_cons_of_mem _ hp).append (.one (.tuple (n := 0) (List.mem_cons_self ..) (.cons (.str _ _) (.cons (.str _ _) .nil))))
        · rw [hes, rowsFrom_take hx]
        · omega
      · intro Cn LR oL m₁ n₁ hR52
        refine gp fun kG112 => ?_
        obtain ⟨usR, kR, rest', esR, rfl, hsub, hrest, ⟨hD1, hD2⟩, husR, hesR, hi10⟩ := hR52
        refine kG112.go ?_
        refine ⟨_, rfl, ?_, ?_⟩
        · intro p hp
          rcases List.mem_cons.mp hp with h | hp
          · rw [h]; exact hD2
          · exact cells_off (D := L) (by dsimp only [OffC]; omega) (fun p hp => (hrest p hp).2.2) p hp
        · intro h8 tk8 F8o N8
          show wpAny _ _ _ _ _ { heap := h8, gens := s₁.gens, drawn := s₁.drawn, toks := tk8, os := s₁.os }
          rw [hIR.length, List.take_length] at hesR
          refine gp fun kG113 => ?_
          obtain ⟨m2, hm2s, hm2l, hm2r, F8⟩ : (∃ (m2 : PySem.Str → Option Value), An4 (m2 (PySem.Str.ofString "script") = some (.ref sc)) (m2 (PySem.Str.ofString "left") = some (.ref LL)) (m2 (PySem.Str.ofString "right") = some (.ref LR)) (Fr hb L h8 m2)) := ⟨_, by rw [if_neg (by decide)]; exact hm1s, by rw [if_neg (by decide)]; exact hm1l, if_pos rfl, F8o⟩
          obtain ⟨rest4, N9, hlt4, hsub4, hLR⟩ : (∃ rest4, An4 (News hb L h8 (cellsL L oW oC oN c5 c4 c3 c2 c1 (tabObj #[]) rest4)) ((∀ p ∈ rest4, OffC L p.1)) ((∀ p ∈ rest', p ∈ rest4)) ((LR, listOf usR.toArray kR) ∈ rest4)) := by
            refine ⟨[_] ++ rest', news_in (xs := [_]) N8, ?_, fun p hp => List.mem_append_right _ hp, List.mem_cons_self ..⟩
            intro p hp
            rcases List.mem_cons.mp hp with h | hp
            · rw [h]; exact hD1
            · exact (hrest p hp).1
          refine kG113.go ?_
          replace hLL := hsub4 _ (hsub _ hLL)
          replace husL := (husL.mono hsub).mono hsub4
          replace hDw := (hDw.mono hsub).mono hsub4
          replace hDc := (hDc.mono hsub).mono hsub4
          replace hDn := (hDn.mono hsub).mono hsub4
          replace husR := husR.mono hsub4
          generalize hxa : xsR ++ [4, 2, 5, 2] = xaR at *
          have hxlR : xaR.length ≤ 10 := by rw [← hxa, List.length_append]; simp only [List.length_cons, List.length_nil]; omega
          clear F8o N8 hrest hsub hsub4 hD1 hD2 hi10 hDr hlt3 N3 F2 hIR hxsR hxa hlenR hm1s hm1l
          skip
          have stg1 : Stage 1 := .mk _
          k_steps
          refine Hold.mk ?_
          have hz63 : vs.toArray.size ≤ sizeLine := by rw [List.size_toArray, hI.length, sizeLine_eq]; omega
          refine' slice_list3 (items := vs.toArray) F8 N9 (Fr.lst F8 lifted) .none (.int _ _) .none (by decide) ?hh_6 ?hs_6 ?hg_6 hz63
          case hs_6 => with_unfolding_all rfl
          case hg_6 => intro _; with_unfolding_all rfl
          intro h' F' N'
          dsimp only at N'
          have hsz8 := Heap.lt_size (N9 _ (List.mem_cons_self ..)).1
          clear F8 N9
          obtain ⟨xsT, hxsT⟩ := ints_of (l := (slicePick vs.toArray none (some 12) none).toList) fun v hv => ints_mem hI v (by simpa using pick_mem v hv)
          generalize hpk : slicePick vs.toArray none (some 12) none = pk at *
          obtain ⟨pk⟩ := pk
          k_steps
          refine Hold.mk ?_
          rename Fr _ _ _ _ => F10o
          rename News _ _ _ _ => N10o
          rename_i hA hB h10
          refine gp fun kG114 => ?_
          obtain ⟨m3, fi, se, tf, ts, hm3l, hm3r, hm3f, hm3s, hfi, hse, F10⟩ : (Ex5 fun (m3 : PySem.Str → Option Value) (fi : Int) (se : Int) (tf : Tok) (ts : Tok) => An7 (m3 (PySem.Str.ofString "left") = some (.ref LL)) (m3 (PySem.Str.ofString "right") = some (.ref LR)) (m3 (PySem.Str.ofString "first") = some (.int fi tf)) (m3 (PySem.Str.ofString "second") = some (.int se ts)) ((fi = 1 ∨ fi = -1)) ((se = 1 ∨ se = -1)) (Fr hb L h10 m3)) :=
            ⟨_, _, _, _, _, (by repeat rw [if_neg (by decide)]
                                exact hm2l), (by repeat rw [if_neg (by decide)]
                                                 exact hm2r), (by rw [if_neg (by decide)]
                                                                  exact if_pos rfl), if_pos rfl, sign_of _, sign_of _, F10o⟩
          obtain ⟨rest5, N10, hlt5, hsub5⟩ : (∃ rest5, An3 (News hb L h10 (cellsL L oW oC oN c5 c4 c3 c2 c1 (tabObj #[]) rest5)) ((∀ p ∈ rest5, OffC L p.1)) ((∀ p ∈ rest4, p ∈ rest5))) := by
            refine ⟨[_] ++ rest4, news_in (xs := [_]) N10o, ?_, fun p hp => List.mem_append_right _ hp⟩
            intro p hp
            rcases List.mem_cons.mp hp with h | hp
            · rw [h]
              have h8 : ∀ z : Nat, L + 1 + 1 + 1 + 1 + 1 + 1 + 1 + 1 < z → OffC L (z + 1) := fun z hz => by dsimp only [OffC]; omega
              exact h8 _ hsz8
            · exact hlt4 p hp
          refine kG114.go ?_
          replace hLL := hsub5 _ hLL
          replace hLR := hsub5 _ hLR
          replace husL := husL.mono hsub5
          replace husR := husR.mono hsub5
          replace hDw := hDw.mono hsub5
          replace hDn := hDn.mono hsub5
          clear hDc F10o N10o hsub5 hlt4 hsz8 hz63 hm2s hm2l hm2r hxsT hpk hI hlen63 lifted
          refine any_toks ?_
          intro tk10
          show wpAny _ _ _ _ _ { heap := h10, gens := s₁.gens, drawn := s₁.drawn, toks := tk10, os := s₁.os }
          clear rest4 pk
          clear stg1
          rename_i h' tk' t'
          have stg2 : Stage 2 := .mk _
          have K9 : CellsOk oW oC oN c5 c4 c3 c2 c1 (tabObj #[]) := ⟨⟨_, dW⟩, ⟨_, dC⟩, ⟨_, dN⟩, ⟨_, e5⟩, ⟨_, e4⟩, ⟨_, e3⟩, ⟨_, e2⟩, ⟨_, e1⟩, ⟨_, rfl⟩⟩
          k_steps
          refine Hold.mk ?_
          rename Fr _ _ _ _ => F11
          rename News _ _ _ _ => N11
          k_dflt (refine' Ctr.use (judge_ok (ts := [Value.ref _]) (nl := 0) (cs := [(0, fi)]) (List.mem_cons_self ..) (.cons (List.mem_cons_of_mem _ (List.mem_cons_self ..)) .nil)) ?B_7 F11 ?X_7 N11 ?T_7 ?K_7 ?d_7 ?u_7 ?_; (case B_7 => k_asm); (case X_7 => k_asm); (case T_7 => k_asm); (case K_7 => exact rfl); (case d_7 => ktr_room); (case u_7 => ktr_units))
          intro v' tl h' tk' F12 N12 hoff hv
          refine gp fun kG115 => ?_
          obtain ⟨jn, rfl, hjn⟩ := hv
          obtain ⟨N13_1, hlt6_1⟩ := after_call (xs := [_, _]) K9 N12 (fun q hq p hp => Nat.ne_of_lt (hoff q hq p hp)) hlt5 ⟨⟨nofun, nofun⟩, ⟨nofun, nofun⟩, trivial⟩
          have hjn_1 := hjn.mono_seq fun p hp hpl => mem_call (xs := [_, _]) K9 hpl hp
          obtain ⟨rest6, hsub6, N13, hlt6, hjn⟩ : (∃ rest6, An4 ((∀ p ∈ rest5, p ∈ rest6)) (News hb L h' (cellsL L oW oC oN c5 c4 c3 c2 c1 (tabObj #[]) rest6)) ((∀ p ∈ rest6, OffC L p.1)) (JudgeIn rest6 jn [(0, fi)])) := ⟨_, fun p hp => List.mem_append_right _ hp, N13_1, hlt6_1, hjn_1⟩
          refine kG115.go ?_
          replace hLL := hsub6 _ hLL
          replace hLR := hsub6 _ hLR
          replace husL := husL.mono hsub6
          replace husR := husR.mono hsub6
          replace hDw := hDw.mono hsub6
          replace hDn := hDn.mono hsub6
          clear N12 hoff F11 N11 hlt5 hsub6 hlt6_1 N13_1 hjn_1
          k_steps
          refine Hold.mk ?_
          rename Fr _ _ _ _ => F14
          rename News _ _ _ _ => N14
          k_dflt (refine' Ctr.use (judge_ok (ts := [Value.ref _, Value.ref _]) (nl := 0) (cs := [(0, fi), (1, se)]) (List.mem_cons_self ..) (.cons (List.mem_cons_of_mem _ (List.mem_cons_of_mem _ (List.mem_cons_self ..))) (.cons (List.mem_cons_of_mem _ (List.mem_cons_self ..)) .nil))) ?B_8 F14 ?X_8 N14 ?T_8 ?K_8 ?d_8 ?u_8 ?_; (case B_8 => k_asm); (case X_8 => k_asm); (case T_8 => k_asm); (case K_8 => exact rfl); (case d_8 => ktr_room); (case u_8 => ktr_units))
          intro v' tl2 h' tk' F15 N15 hoff hv
          refine gp fun kG116 => ?_
          obtain ⟨jw, rfl, hjw⟩ := hv
          obtain ⟨N16_1, hlt7_1⟩ := after_call (xs := [_, _, _]) K9 N15 (fun q hq p hp => Nat.ne_of_lt (hoff q hq p hp)) hlt6 ⟨⟨nofun, nofun⟩, ⟨nofun, nofun⟩, ⟨nofun, nofun⟩, trivial⟩
          have hjw_1 := hjw.mono_seq fun p hp hpl => mem_call (xs := [_, _, _]) K9 hpl hp
          obtain ⟨rest7, hsub7, N16, hlt7, hjw⟩ : (∃ rest7, An4 ((∀ p ∈ rest6, p ∈ rest7)) (News hb L h' (cellsL L oW oC oN c5 c4 c3 c2 c1 (tabObj #[]) rest7)) ((∀ p ∈ rest7, OffC L p.1)) (JudgeIn rest7 jw [(0, fi), (1, se)])) := ⟨_, fun p hp => List.mem_append_right _ hp, N16_1, hlt7_1, hjw_1⟩
          refine kG116.go ?_
          replace hLL := hsub7 _ hLL
          replace hLR := hsub7 _ hLR
          replace husL := husL.mono hsub7
          replace husR := husR.mono hsub7
          replace hDw := hDw.mono hsub7
          replace hDn := hDn.mono hsub7
          replace hjn := hjn.mono hsub7
          clear N15 hoff F14 N14 hlt6 hsub7 hlt7_1 N16_1 hjw_1
          k_steps
          refine Hold.mk ?_
          rename Fr _ _ _ _ => F17o
          rename News _ _ _ _ => N17
          rename_i h17
          refine gp fun kG117 => ?_
          obtain ⟨m4, hm4l, hm4r, hm4f, hm4s, hm4n, hm4w, F17⟩ : (∃ (m4 : PySem.Str → Option Value), An7 (m4 (PySem.Str.ofString "left") = some (.ref LL)) (m4 (PySem.Str.ofString "right") = some (.ref LR)) (m4 (PySem.Str.ofString "first") = some (.int fi tf)) (m4 (PySem.Str.ofString "second") = some (.int se ts)) (m4 (PySem.Str.ofString "near") = some (.ref jn)) (m4 (PySem.Str.ofString "whole") = some (.ref jw)) (Fr hb L h17 m4)) :=
            ⟨_, (by repeat rw [if_neg (by decide)]
                    exact hm3l), (by repeat rw [if_neg (by decide)]
                                     exact hm3r), (by repeat rw [if_neg (by decide)]
                                                      exact hm3f), (by repeat rw [if_neg (by decide)]
                                                                       exact hm3s), (by rw [if_neg (by decide)]
                                                                                        exact if_pos rfl), if_pos rfl, F17o⟩
          refine kG117.go ?_
          clear F17o hm3l hm3r hm3f hm3s
          clear stg2
          rename_i D' _ _ l' _ l1 _
          have hokL : RowsOk [(0, fi), (1, se)] esL := hesL ▸ left_ok (by simp) xaL
          have hokR : RowsOk [(0, fi)] esR := hesR ▸ right_ok (by simp) xaR
          have hleL : esL.length ≤ 1000 := by rw [hesL, rowsFrom_length]; omega
          have hleR : esR.length ≤ 1000 := by rw [hesR, rowsFrom_length]; omega
          k_steps
          refine Hold.mk ?_
          rename Fr _ _ _ _ => F18
          rename News _ _ _ _ => N18
          k_dflt (refine' Ctr.use (sorted_ok (hjw.mono fun p hp => mem_cells hp) (mem_cells hLL) (husL.mono fun p hp => mem_cells hp) hokL hleL) ?B_9 F18 ?X_9 N18 ?T_9 ?K_9 ?d_9 ?u_9 ?_; (case B_9 => k_asm); (case X_9 => k_asm); (case T_9 => k_asm); (case K_9 => exact rfl); (case d_9 => ktr_room); (case u_9 => ktr_units))
          intro v' tl h' tk' F19 N19 hoff hv
          refine gp fun kG118 => ?_
          obtain ⟨D1, u1, c1', rfl, hD1, hu1⟩ := hv
          obtain ⟨N20_1, hlt8_1⟩ := after_call (xs := []) K9 N19 (fun q hq p hp => Nat.ne_of_lt (hoff q hq p hp)) hlt7 trivial
          have hD1_1 := mem_call (xs := []) K9 plain_list hD1
          have hu1_1 := DatAll.mono_seq (fun p hp hpl => mem_call (xs := []) K9 hpl hp) hu1
          obtain ⟨rest8, hsub8, N20, hlt8, hD1, hu1⟩ : (∃ rest8, An5 ((∀ p ∈ rest7, p ∈ rest8)) (News hb L h' (cellsL L oW oC oN c5 c4 c3 c2 c1 (tabObj #[]) rest8)) ((∀ p ∈ rest8, OffC L p.1)) ((D1, listOf (List.toArray u1) c1') ∈ rest8) (DatAll rest8 u1 (sortD [(0, fi), (1, se)] esL))) := ⟨_, fun p hp => List.mem_append_right _ hp, N20_1, hlt8_1, hD1_1, hu1_1⟩
          refine kG118.go ?_
          replace hLL := hsub8 _ hLL
          replace hLR := hsub8 _ hLR
          replace husL := husL.mono hsub8
          replace husR := husR.mono hsub8
          replace hDw := hDw.mono hsub8
          replace hDn := hDn.mono hsub8
          replace hjn := hjn.mono hsub8
          clear N19 hoff F18 N18 hlt7 hsub8 hlt8_1 N20_1 hD1_1 hu1_1 hjw
          k_steps
          refine Hold.mk ?_
          rename Fr _ _ _ _ => F21
          rename News _ _ _ _ => N21
          k_dflt (refine' Ctr.use (sorted_ok (hjn.mono fun p hp => mem_cells hp) (mem_cells hLR) (husR.mono fun p hp => mem_cells hp) hokR hleR) ?B_10 F21 ?X_10 N21 ?T_10 ?K_10 ?d_10 ?u_10 ?_; (case B_10 => k_asm); (case X_10 => k_asm); (case T_10 => k_asm); (case K_10 => exact rfl); (case d_10 => ktr_room); (case u_10 => ktr_units))
          intro v' tl h' tk' F22 N22 hoff hv
          refine gp fun kG119 => ?_
          obtain ⟨D2, u2, c2', rfl, hD2, hu2⟩ := hv
          obtain ⟨N23_1, hlt9_1⟩ := after_call (xs := []) K9 N22 (fun q hq p hp => Nat.ne_of_lt (hoff q hq p hp)) hlt8 trivial
          have hD2_1 := mem_call (xs := []) K9 plain_list hD2
          have hu2_1 := DatAll.mono_seq (fun p hp hpl => mem_call (xs := []) K9 hpl hp) hu2
          obtain ⟨rest9, hsub9, N23, hlt9, hD2, hu2⟩ : (∃ rest9, An5 ((∀ p ∈ rest8, p ∈ rest9)) (News hb L h' (cellsL L oW oC oN c5 c4 c3 c2 c1 (tabObj #[]) rest9)) ((∀ p ∈ rest9, OffC L p.1)) ((D2, listOf (List.toArray u2) c2') ∈ rest9) (DatAll rest9 u2 (sortD [(0, fi)] esR))) := ⟨_, fun p hp => List.mem_append_right _ hp, N23_1, hlt9_1, hD2_1, hu2_1⟩
          refine kG119.go ?_
          replace hLL := hsub9 _ hLL
          replace hLR := hsub9 _ hLR
          replace husL := husL.mono hsub9
          replace husR := husR.mono hsub9
          replace hDw := hDw.mono hsub9
          replace hDn := hDn.mono hsub9
          replace hjn := hjn.mono hsub9
          replace hD1 := hsub9 _ hD1
          replace hu1 := hu1.mono hsub9
          clear N22 hoff F21 N21 hlt8 hsub9 hlt9_1 N23_1 hD2_1 hu2_1
          k_steps
          refine Hold.mk ?_
          rename Fr _ _ _ _ => F24
          rename News _ _ _ _ => N24
          have hsl : ∀ d ∈ sortD [(0, fi), (1, se)] esL, ∃ j x, d = leftRow j x := hesL ▸ left_sorted
          have hsr : ∀ d ∈ sortD [(0, fi)] esR, ∃ j x, d = rightRow j x := hesR ▸ right_sorted
          k_dflt (refine' Ctr.use (side_ok (hjn.mono fun p hp => mem_cells hp) (mem_cells hD1) (hu1.mono fun p hp => mem_cells hp) (mem_cells hD2) (hu2.mono fun p hp => mem_cells hp) (tup_of_left hsl) (tup_of_right hsr) (side_rows (by simp) hsl hsr) (by rw [sortD_length]; exact hleL) (by rw [sortD_length]; exact hleR)) ?B_11 F24 ?X_11 N24 ?T_11 ?K_11 ?d_11 ?u_11 ?_; (case B_11 => k_asm); (case X_11 => k_asm); (case T_11 => k_asm); (case K_11 => exact rfl); (case d_11 => ktr_room); (case u_11 => ktr_units))
          intro v' tl h' tk' F25 N25 hoff hv
          refine gp fun kG120 => ?_
          obtain ⟨D3, u3, c3', rfl, hD3, hu3⟩ := hv
          obtain ⟨N26_1, hlt10_1⟩ := after_call (xs := []) K9 N25 (fun q hq p hp => Nat.ne_of_lt (hoff q hq p hp)) hlt9 trivial
          have hD3_1 := mem_call (xs := []) K9 plain_list hD3
          have hu3_1 := DatAll.mono_seq (fun p hp hpl => mem_call (xs := []) K9 hpl hp) hu3
          obtain ⟨rest10, hsub10, N26, hlt10, hD3, hu3⟩ : (∃ rest10, An5 ((∀ p ∈ rest9, p ∈ rest10)) (News hb L h' (cellsL L oW oC oN c5 c4 c3 c2 c1 (tabObj #[]) rest10)) ((∀ p ∈ rest10, OffC L p.1)) ((D3, listOf (List.toArray u3) c3') ∈ rest10) (DatAll rest10 u3 (sideD [(0, fi)] (sortD [(0, fi), (1, se)] esL) (sortD [(0, fi)] esR)))) := ⟨_, fun p hp => List.mem_append_right _ hp, N26_1, hlt10_1, hD3_1, hu3_1⟩
          refine kG120.go ?_
          replace hLL := hsub10 _ hLL
          replace hLR := hsub10 _ hLR
          replace husL := husL.mono hsub10
          replace husR := husR.mono hsub10
          replace hDw := hDw.mono hsub10
          replace hDn := hDn.mono hsub10
          clear N25 hoff F24 N24 hlt9 hsub10 hlt10_1 N26_1 hD3_1 hu3_1 hu1 hu2 hD1 hD2 hjn hsl hsr hokL hokR
          k_steps
          refine Hold.mk ?_
          rename Fr _ _ _ _ => F27o
          rename News _ _ _ _ => N27
          rename_i h27
          refine gp fun kG121 => ?_
          obtain ⟨m5, hm5l, hm5r, hm5f, hm5s, hm5j, F27⟩ : (∃ (m5 : PySem.Str → Option Value), An6 (m5 (PySem.Str.ofString "left") = some (.ref LL)) (m5 (PySem.Str.ofString "right") = some (.ref LR)) (m5 (PySem.Str.ofString "first") = some (.int fi tf)) (m5 (PySem.Str.ofString "second") = some (.int se ts)) (m5 (PySem.Str.ofString "joined") = some (.ref D3)) (Fr hb L h27 m5)) :=
            ⟨_, (by repeat rw [if_neg (by decide)]
                    exact hm4l), (by repeat rw [if_neg (by decide)]
                                     exact hm4r), (by repeat rw [if_neg (by decide)]
                                                      exact hm4f), (by repeat rw [if_neg (by decide)]
                                                                       exact hm4s), if_pos rfl, F27o⟩
          refine kG121.go ?_
          clear F27o hm4l hm4r hm4f hm4s hm4n hm4w
          skip
          have hd9 : DatAll rest10 usR (rowsFrom rightRow 0 xaR) := hesR ▸ husR
          k_dflt (refine' CtrS.use (book_ok (mem_cells hLR) (hd9.mono fun p hp => mem_cells hp) hxlR (by simp [cellsL])) ?B_12 F27 ?X_12 N27 ?T_12 hsys ?K_12 ?d_12 ?u_12 ?_; (case B_12 => k_asm); (case X_12 => k_asm); (case T_12 => k_asm); (case K_12 => exact rfl); (case d_12 => ktr_room); (case u_12 => ktr_units))
          intro v' nw h' tk' F28 N28 hv
          refine gp fun kG122 => ?_
          obtain ⟨tl, bk, ps, rfl, rfl, hbk, hoff⟩ := hv
          obtain ⟨N29_1, hlt11_1⟩ := after_book l0 N28 hoff hlt10
          obtain ⟨rest11, hsub11, N29, hlt11, hbk⟩ : (∃ rest11, An4 ((∀ p ∈ rest10, p ∈ rest11)) (News hb L h' (cellsL L oW oC oN c5 c4 c3 c2 c1 (tabObj ps) rest11)) ((∀ p ∈ rest11, OffC L p.1)) (BookOk w rest11 bk (bookD (rowsFrom rightRow 0 xaR)))) := ⟨_, fun p hp => List.mem_append_right _ hp, N29_1, hlt11_1, hbk.mono fun p hp => List.mem_append_left _ hp⟩
          refine kG122.go ?_
          replace hLL := hsub11 _ hLL
          replace hLR := hsub11 _ hLR
          replace husL := husL.mono hsub11
          replace husR := husR.mono hsub11
          replace hDw := hDw.mono hsub11
          replace hDn := hDn.mono hsub11
          replace hD3 := hsub11 _ hD3
          replace hu3 := hu3.mono hsub11
          clear N28 hoff F27 N27 hlt10 hsub11 hlt11_1 N29_1 hd9
          refine' storeX_C F28 N29 ?c_13 (updF4 l0 hlt11) e5 ?_ ?a_13 ?b_13
          case c_13 => rfl
          case a_13 => rfl
          case b_13 => rfl
          intro h29 oB F29 N30 dB
          try dsimp only at N30
          k_steps
          rename Fr _ _ _ _ => F31
          rename News _ _ _ _ => N31
          rename_i DR hR lR
          have hne11 : ∀ p ∈ rest11, p.1 ≠ DR := fun p hp => Nat.ne_of_lt (allLt_get lR.2.2.2.2.2.2.2.2.2 hp)
          have hDRo : OffC L DR := by
            have h1 : @LT.lt Nat _ (L + 1 + 1 + 1 + 1 + 1 + 1 + 1 + 1) DR := lR.1
            dsimp only [OffC]; omega
          obtain ⟨N32, hlt12⟩ : News hb L hR (cellsL L oW oC oN oB c4 c3 c2 c1 (tabObj ps) ((DR, listOf #[] 0) :: rest11)) ∧ (∀ p ∈ (DR, listOf #[] 0) :: rest11, OffC L p.1) := by
            refine ⟨news_in (xs := [_]) N31, fun p hp => ?_⟩
            rcases List.mem_cons.mp hp with h | hp
            · rw [h]; exact hDRo
            · exact hlt11 p hp
          refine' storeX_C F31 N32 ?c_14 (updF5 l0 hlt12) e4 ?_ ?a_14 ?b_14
          case c_14 => rfl
          case a_14 => rfl
          case b_14 => rfl
          intro h33 oR F33 N33 dR
          try dsimp only at N33
          clear F31 N31 N32 lR hlt12
          refine any_toks ?_
          intro tk33
          show wpAny _ _ _ _ _ { heap := h33, gens := s₁.gens, drawn := s₁.drawn, toks := tk33, os := s₁.os }
          skip
          have stg5 : Stage 5 := .mk _
          have stg8 : Stage 8 := .mk _
          k_steps
          refine Hold.mk ?_
          rename Fr _ _ _ _ => F34
          rename News _ _ _ _ => N34
          have hdL : DatAll rest11 usL (rowsFrom leftRow 0 xaL) := hesL ▸ husL
          have hD3o := hD3
          have hLRo := hLR
          refine loop_enum (l := LL) (c := kL) (vs := usL) (fun i r m n => (Ex4 fun us c rest' ys => An11 (n = cellsL L oW oC oN oB oR c3 c2 c1 (tabObj ps) ((DR, listOf (List.toArray us) c) :: rest')) ((∀ p ∈ rest11, p ∈ rest')) ((∀ p ∈ rest', OffC L p.1 ∧ p.1 ≠ DR)) (DatAll rest' us ((rowsFrom leftRow 0 xaL).take i)) (DatAll rest11 r (rowsFrom leftRow i ys)) (xaL = xaL.take i ++ ys) (i ≤ xaL.length) (m (PySem.Str.ofString "first") = some (.int fi tf)) (m (PySem.Str.ofString "second") = some (.int se ts)) (m (PySem.Str.ofString "joined") = some (.ref D3)) (m (PySem.Str.ofString "right") = some (.ref LR)))) (by rfl) F34 N34 ?_ ?_ ?_ ?_
          · intro i r m n hR53
            refine gp fun kG123 => ?_
            obtain ⟨us, c, rest', ys, rfl, hsub, -⟩ := hR53
            refine kG123.go ?_
            exact mem_cells (List.mem_cons_of_mem _ (hsub _ hLL))
          · exact ⟨[], 0, rest11, xaL, rfl, fun _ h => h, fun p hp => ⟨hlt11 p hp, hne11 p hp⟩, .nil, hdL, rfl, Nat.zero_le _, hm5f, hm5s, hm5j, hm5r⟩
          · intro i v r m₁ n₁ h₁ tk₁ its T t hR54 hvi hR55 off hT F35 N35
            refine gp fun kG124 => ?_
            obtain ⟨us, c, rest', ys, rfl, hsub, hoffR, hus, hr, hxs, hil, hm1, hm2, hm3, hm4⟩ := hR54
            obtain ⟨pe, pi, rfl⟩ := hR55
            cases ys with
            | nil => cases hr
            | cons y ys =>
            cases hr with
            | cons hv hrest =>
            cases hv with
            | tuple hvm hvs =>
            rename_i aR vsR nR
            cases hvs with
            | cons hv0 hvs =>
            cases hvs with
            | cons hv1 hvs =>
            cases hvs with
            | cons hv2 hvs =>
            cases hvs
            cases hv0
            cases hv1
            cases hv2
            refine kG124.go ?_
            rename_i tw tn tc
            simp only [List.cons_append, List.nil_append] at N35
            have hvm' := hsub _ hvm
            k_steps
            refine Hold.mk ?_
            refine item_small (i := 2) (News.isTup (by k_asm) (by repeat (first | exact mem_cells (List.mem_cons_of_mem _ hvm') | refine List.mem_cons_of_mem _ ?_))) (by decide) (by decide) rfl ?_
            k_steps
            refine Hold.mk ?_
            refine item_small (i := 0) (News.isTup (by k_asm) (by repeat (first | exact mem_cells (List.mem_cons_of_mem _ hvm') | refine List.mem_cons_of_mem _ ?_))) (by decide) (by decide) rfl ?_
            k_steps
            refine Hold.mk ?_
            rename Fr _ _ _ _ => F36
            rename News _ _ _ _ => N36
            rename_i Tn hTn lTn
            have hi10 : i < 10 := by
              have q := congrArg List.length hxs
              rw [List.length_append, List.length_take, List.length_cons] at q
              omega
            k_dflt (refine' CtrC.use (read_ok (nR := 0) (k := i) (n := chrS (97 + i)) (v := wordOf (wi y)) (List.mem_cons_self ..) (by omega) (left_read hi10 y)) ?B_15 F36 ?X_15 N36 ?T_15 ?K_15 ?d_15 ?u_15 ?_; (case B_15 => k_asm); (case X_15 => k_asm); (case T_15 => k_asm); (case K_15 => exact rfl); (case d_15 => ktr_room); (case u_15 => ktr_units))
            intro v' tl h' tk' F37 N37 hoff37 hv
            refine gp fun kG125 => ?_
            obtain ⟨pr, dd, tpa, tpb, rfl, hpr, hdd⟩ := hv
            refine kG125.go ?_
            k_steps
            refine Hold.mk ?_
            rename Fr _ _ _ _ => F38
            rename News _ _ _ _ => N38o
            have N38 : News hb L _ ((pr, pairO dd (.str (chrS (97 + i)) tpa) (.str (wordOf (wi y)) tpb)) :: (dd, noDict) :: pe :: pi :: cellsL L oW oC oN oB oR c3 c2 c1 (tabObj ps) ((DR, listOf (List.toArray us) c) :: rest')) := fun p hp => N38o p (by
              rcases List.mem_cons.mp hp with h | hp
              · rw [h]; exact hpr
              rcases List.mem_cons.mp hp with h | hp
              · rw [h]; exact hdd
              · exact List.mem_append_right _ (List.mem_cons_of_mem _ hp))
            clear N38o hpr hdd hoff37
            refine pair_get (X.keeps F38.keep) (inst_pair N38 (List.mem_cons_self ..) (List.mem_cons_of_mem _ (List.mem_cons_self ..))) (find_value _ _) ?_
            k_dflt (refine' CtrC.use (get_value (List.mem_cons_self ..) (List.mem_cons_of_mem _ (List.mem_cons_self ..)) rfl) ?B_16 F38 ?X_16 N38 ?T_16 ?K_16 ?d_16 ?u_16 ?_; (case B_16 => k_asm); (case X_16 => k_asm); (case T_16 => k_asm); (case K_16 => exact rfl); (case d_16 => ktr_room); (case u_16 => ktr_units))
            intro v' t2 h39 tk39 F39 N39o _ hv'
            subst hv'
            refine ⟨rfl, ?_⟩
            obtain N39 := fun p hp => N39o p (List.mem_append_right _ hp)
            replace N39 : News _ _ h39 ((pr, pairO dd (.str (chrS (97 + i)) tpa) (.str (wordOf (wi y)) tpb)) :: (dd, noDict) :: pe :: pi :: cellsL L oW oC oN oB oR c3 c2 c1 (tabObj ps) ((DR, listOf (List.toArray us) c) :: rest')) := N39
            clear N39o F38 N38
            k_steps
            refine Hold.mk ?_
            refine item_small (i := 1) (News.isTup (by k_asm) (by repeat (first | exact mem_cells (List.mem_cons_of_mem _ hvm') | refine List.mem_cons_of_mem _ ?_))) (by decide) (by decide) rfl ?_
            k_steps
            refine Hold.mk ?_
            rename Fr _ _ _ _ => F40
            rename News _ _ _ _ => N40
            refine pair_get (X.keeps F40.keep) (inst_pair N40 (List.mem_cons_self ..) (List.mem_cons_of_mem _ (List.mem_cons_self ..))) (find_name _ _) ?_
            k_dflt (refine' CtrC.use (get_name (List.mem_cons_self ..) (List.mem_cons_of_mem _ (List.mem_cons_self ..)) rfl) ?B_17 F40 ?X_17 N40 ?T_17 ?K_17 ?d_17 ?u_17 ?_; (case B_17 => k_asm); (case X_17 => k_asm); (case T_17 => k_asm); (case K_17 => exact rfl); (case d_17 => ktr_room); (case u_17 => ktr_units))
            intro v' t3 h41 tk41 F41 N41o _ hv'
            subst hv'
            refine ⟨rfl, ?_⟩
            obtain N41 := fun p hp => N41o p (List.mem_append_right _ hp)
            replace N41 : News _ _ h41 ((pr, pairO dd (.str (chrS (97 + i)) tpa) (.str (wordOf (wi y)) tpb)) :: (dd, noDict) :: pe :: pi :: cellsL L oW oC oN oB oR c3 c2 c1 (tabObj ps) ((DR, listOf (List.toArray us) c) :: rest')) := N41
            clear N41o F40 N40
            k_steps
            refine Hold.mk ?_
            rename Fr _ _ _ _ => F42
            rename News _ _ _ _ => N42
            rename_i Dt hDt lt
            have hDt : OffC L Dt := by
              have h1 : @LT.lt Nat _ (L + 1 + 1 + 1 + 1 + 1 + 1 + 1 + 1) Dt := lt.2.2.2.2.1
              dsimp only [OffC]; omega
            have hDtR : @Ne Nat Dt DR := Nat.ne_of_gt lt.2.2.2.2.2.2.2.2.2.2.2.2.2.1
            have hpe : pe.1 ≠ DR := fun e => off _ (mem_cells (List.mem_cons_self ..)) pe (List.mem_cons_self ..) e.symm
            have hpi : pi.1 ≠ DR := fun e => off _ (mem_cells (List.mem_cons_self ..)) pi (List.mem_cons_of_mem _ (List.mem_cons_self ..)) e.symm
            have hul : us.length ≤ 1000 := by
              rw [hus.length, List.length_take]; omega
            have N42' : News hb L _ ((DR, listOf us.toArray c) :: (Dt, tupO [.str (wordOf (wi y)) tpb, .int (numOf (ni y)) tn, .str (chrS (97 + i)) tpa]) :: pe :: pi :: cellsL L oW oC oN oB oR c3 c2 c1 (tabObj ps) rest') := fun p hp => N42 p (by
              rcases List.mem_cons.mp hp with h | hp
              · rw [h]; exact List.mem_cons_of_mem _ (List.mem_cons_of_mem _ (List.mem_cons_of_mem _ (List.mem_cons_of_mem _ (List.mem_cons_of_mem _ (mem_cells (List.mem_cons_self ..))))))
              rcases List.mem_cons.mp hp with h | hp
              · rw [h]; exact List.mem_cons_self ..
              rcases List.mem_cons.mp hp with h | hp
              · rw [h]; exact List.mem_cons_of_mem _ (List.mem_cons_of_mem _ (List.mem_cons_of_mem _ (List.mem_cons_self ..)))
              rcases List.mem_cons.mp hp with h | hp
              · rw [h]; exact List.mem_cons_of_mem _ (List.mem_cons_of_mem _ (List.mem_cons_of_mem _ (List.mem_cons_of_mem _ (List.mem_cons_self ..))))
              · exact List.mem_cons_of_mem _ (List.mem_cons_of_mem _ (List.mem_cons_of_mem _ (List.mem_cons_of_mem _ (List.mem_cons_of_mem _ (cells_sub (fun q hq => List.mem_cons_of_mem _ hq) p hp))))))
            have hcell : ∀ p ∈ cellsL L oW oC oN oB oR c3 c2 c1 (tabObj ps) rest', p.1 ≠ DR := cells_off hDRo fun p hp => (hoffR p hp).2
            refine append_K (D := DR) (its := us.toArray) (n := c) F42 N42' (Upd.head (fun p hp => ?_)) ?_ (by rw [List.size_toArray, sizeLine_eq]; omega)
            · rcases List.mem_cons.mp hp with h | hp
              · rw [h]; exact hDtR
              rcases List.mem_cons.mp hp with h | hp
              · rw [h]; exact hpe
              rcases List.mem_cons.mp hp with h | hp
              · rw [h]; exact hpi
              · exact hcell p hp
            intro h43 F43 N43
            rw [List.push_toArray] at N43
            k_steps
            rename Fr _ _ _ _ => F44
            rename News _ _ _ _ => N44
            refine TEnd.next (n' := cellsL L oW oC oN oB oR c3 c2 c1 (tabObj ps) ((DR, listOf (us ++ [Value.ref Dt]).toArray (c + 1)) :: (Dt, tupO [.str (wordOf (wi y)) tpb, .int (numOf (ni y)) tn, .str (chrS (97 + i)) tpa]) :: rest')) F44 ?_ ?_ ⟨_, _, _, ys, rfl, fun p hp => List.mem_cons_of_mem _ (hsub p hp), ?_, ?_, hrest, ?_, ?_, ?_, ?_, ?_, ?_⟩
            · intro p hp
              refine N44 p ?_
              rcases List.mem_append.mp hp with hp | hp
              · rcases List.mem_cons.mp hp with h | hp
                · rw [h]; exact List.mem_cons_of_mem _ (List.mem_cons_of_mem _ (List.mem_cons_self ..))
                · rw [List.mem_singleton.mp hp]; exact List.mem_cons_of_mem _ (List.mem_cons_of_mem _ (List.mem_cons_of_mem _ (List.mem_cons_self ..)))
              rcases cells_cons hp with h | hp
              · rw [h]; exact List.mem_cons_self ..
              rcases cells_cons hp with h | hp
              · rw [h]; exact List.mem_cons_of_mem _ (List.mem_cons_self ..)
              · exact List.mem_cons_of_mem _ (List.mem_cons_of_mem _ (List.mem_cons_of_mem _ (List.mem_cons_of_mem _ hp)))
            · intro p hp q hq
              rcases cells_cons hp with h | hp
              · rw [h]; exact off _ (mem_cells (List.mem_cons_self ..)) q hq
              rcases cells_cons hp with h | hp
              · rw [h]
                rcases List.mem_cons.mp hq with h | hq
                · rw [h]; exact Nat.ne_of_gt lt.2.2.1
                · rw [List.mem_singleton.mp hq]; exact Nat.ne_of_gt lt.2.2.2.1
              · exact off p (cells_sub (fun q hq => List.mem_cons_of_mem _ hq) p hp) q hq
            · intro p hp
              rcases List.mem_cons.mp hp with h | hp
              · rw [h]; exact ⟨hDt, hDtR⟩
              · exact hoffR p hp
            · have e1 : (rowsFrom leftRow 0 xaL).take (i + 1) = (rowsFrom leftRow 0 xaL).take i ++ [leftRow i y] := by
                have hx : xaL[i]? = some y := by
                  rw [hxs, List.getElem?_append_right (by rw [List.length_take]; omega), List.length_take, Nat.min_eq_left hil, Nat.sub_self]; rfl
                exact take_snoc (rowsFrom_get hx)
              rw [e1]
              exact (hus.mono fun p hp => List.mem_cons_of_mem _ hp).append (.one (.tuple (n := 0) (List.mem_cons_self ..) (.cons (.str _ _) (.cons (.int _ _) (.cons (.str _ _) .nil)))))
            · have hx : xaL[i]? = some y := by
                rw [hxs, List.getElem?_append_right (by rw [List.length_take]; omega), List.length_take, Nat.min_eq_left hil, Nat.sub_self]; rfl
              rw [take_snoc hx, List.append_assoc]; exact hxs
            · have q := congrArg List.length hxs
              rw [List.length_append, List.length_take, List.length_cons] at q
              omega
            all_goals ((repeat rw [if_neg (by decide)]); assumption)
          · intro m₁ n₁ h tk hR56 F43 N43
            refine gp fun kG126 => ?_
            obtain ⟨usD, cD, rest', ys, rfl, hsub, hoffR, hus, hr, hxs, hil, hm1, hm2, hm3, hm4⟩ := hR56
            cases ys with
            | cons y ys => cases hr
            | nil =>
            refine kG126.go ?_
            rw [List.take_of_length_le (Nat.le_of_eq hdL.length.symm)] at hus
            replace hLR := hsub _ hLR
            replace husR := husR.mono hsub
            replace hDw := hDw.mono hsub
            replace hDn := hDn.mono hsub
            replace hD3 := hsub _ hD3
            replace hu3 := hu3.mono hsub
            replace hbk := hbk.mono hsub
            have hD3R : D3 ≠ DR := hne11 _ hD3o
            have hLRR : LR ≠ DR := hne11 _ hLRo
            have hltR := fun p hp => (hoffR p hp).1
            have hneR := fun p hp => (hoffR p hp).2
            clear hr hxs hil hoffR hsub hdL hLL husL hm5l hm5r hm5f hm5s hm5j hne11 hlt11 hLRo hD3o
            k_steps
            refine Hold.mk ?_
            rename Fr _ _ _ _ => F45
            rename News _ _ _ _ => N45
            clear stg5
            clear stg8
            skip
            have stg4 : Stage 4 := .mk _
            obtain ⟨rest12, hrest12⟩ : ∃ r, r = (DR, listOf usD.toArray cD) :: rest' := ⟨_, rfl⟩
            have hs12 : ∀ p ∈ rest', p ∈ rest12 := fun p hp => hrest12 ▸ List.mem_cons_of_mem _ hp
            have hDR : (DR, listOf usD.toArray cD) ∈ rest12 := hrest12 ▸ List.mem_cons_self ..
            have hlt12 : ∀ p ∈ rest12, OffC L p.1 := fun p hp => by
              rw [hrest12] at hp
              rcases List.mem_cons.mp hp with h | hp
              · rw [h]; exact hDRo
              · exact hltR p hp
            rw [← hrest12] at N45
            replace hus := hus.mono hs12
            replace hLR := hs12 _ hLR
            replace husR := husR.mono hs12
            replace hDw := hDw.mono hs12
            replace hDn := hDn.mono hs12
            replace hD3 := hs12 _ hD3
            replace hu3 := hu3.mono hs12
            replace hbk := hbk.mono hs12
            clear hrest12 hs12 hltR hneR hDRo hD3R hLRR
            refine wpAny_Assign_Name ?_ (by rfl)
            refine eval_comp (h₀ := hb) (L := L) F45.above (by with_unfolding_all rfl) (by decide) (by rfl) (by decide) ?_
            k_steps
            refine Hold.mk ?_
            refine gp fun kG127 => ?_
            obtain ⟨t0, t1, t2, t3, t4, t5, t6, hDw'⟩ := hDw
            refine kG127.go ?_
            rename Fr _ _ _ _ => F46
            rename News _ _ _ _ => N46
            refine cut_dir (items := [Value.str (PySem.Str.ofString "") t0, .str (PySem.Str.ofString "B") t1, .str (PySem.Str.ofString "a") t2, .str (PySem.Str.ofString "a b") t3, .str (PySem.Str.ofString "a=b") t4, .str (PySem.Str.ofString "ab") t5, .str (PySem.Str.ofString "b") t6]) hfi F46 N46 (mem_cells hDw') same7_s same7_r (pick7_s ..) (pick7_r ..) (by simp) ?_ (by with_unfolding_all rfl) (by intro _; with_unfolding_all rfl)
            intro TW h47 xs47 cW hpl F47 N47 hlt47 hTW
            k_steps
            refine Hold.mk ?_
            obtain ⟨N48, hlt13⟩ := led_grow N47 hlt47 hlt12
            obtain ⟨rest13, hrest13⟩ : ∃ r, r = xs47 ++ rest12 := ⟨_, rfl⟩
            have hs13 : ∀ p ∈ rest12, p ∈ rest13 := fun p hp => hrest13 ▸ List.mem_append_right _ hp
            rw [← hrest13] at N48 hlt13
            have K13 : CellsOk oW oC oN oB oR c3 c2 c1 (tabObj ps) := ⟨⟨_, dW⟩, ⟨_, dC⟩, ⟨_, dN⟩, ⟨_, dB⟩, ⟨_, dR⟩, ⟨_, e3⟩, ⟨_, e2⟩, ⟨_, e1⟩, ⟨_, rfl⟩⟩
            replace hTW : _ ∈ rest13 := hrest13 ▸ mem_call (tl := []) K13 plain_tup hTW
            clear hrest13 N47 hlt47 hpl F46 N46
            have hrl : (rowsFrom leftRow 0 xaL).length ≤ 10 := by rw [rowsFrom_length]; exact hxlL
            have htl := worded_len (z := fi) hrl
            have hr3 : ∀ d ∈ rowsFrom leftRow 0 xaL, Row3 d := row3_left
            replace hus := hus.mono hs13
            replace hDR := hs13 _ hDR
            generalize htot : (dirL fi theWords).flatMap (pickS (rowsFrom leftRow 0 xaL)) = total at *
            generalize hrows : rowsFrom leftRow 0 xaL = rows at *
            refine go_tuple (c := cW) (by rfl) F47 N48 (mem_cells hTW) (by intro g e; cases e; rfl) (fun Cn D oL r m n => (Ex4 fun us k ds xs => An7 (n = (L, oL) :: (D, listOf (List.toArray us) k) :: cellsL L oW oC oN oB oR c3 c2 c1 (tabObj ps) rest13) (D ≠ L) (OffC L D) ((∀ p ∈ rest13, p.1 ≠ D ∧ p.1 ≠ L)) (DatAll rest13 us ds) (DatAll rest13 r (List.map Dat.str xs)) (ds ++ xs.flatMap (pickS rows) = total))) ?_ ?_ ?_ ?_
            · intro Cn D oL r m n hR57
              refine gp fun kG128 => ?_
              obtain ⟨us, k, ds, xs, rfl, -⟩ := hR57
              refine kG128.go ?_
              exact List.mem_cons_of_mem _ (List.mem_cons_of_mem _ (mem_cells hTW))
            · intro Cn D oL hns hDC hCL hDL hoff
              exact ⟨[], 0, [], dirL fi theWords, rfl, hDL, offC_of hDL fun p hp => (hoff p hp).2.1, fun p hp => ⟨(hoff p (mem_cells hp)).2.1, (hoff p (mem_cells hp)).1⟩, .nil, words_dir .., htot⟩
            · intro Cn D oL v r m₁ n₁ h₁ tk₁ its E' hR58 hR59 off F2 N2
              refine gp fun kG129 => ?_
              obtain ⟨us, k, ds, xs, rfl, hDL, hDo, hRo, husW, hr, htt⟩ := hR58
              obtain ⟨pe, rfl⟩ := hR59
              cases xs with
              | nil => cases hr
              | cons x xs =>
              cases hr with
              | cons hv hr =>
              cases hv
              refine kG129.go ?_
              rename_i tx
              simp only [List.cons_append, List.nil_append] at N2
              k_steps
              refine Hold.mk ?_
              refine CompBody.all (inner_next (by rfl) ?_)
              k_steps
              refine Hold.mk ?_
              rename Fr _ _ _ _ => F3
              rename News _ _ _ _ => N3
              refine in_list (l := DR) (c := cD) (vs := usD) (by rfl) (by intro g e; cases e) (fun r2 m n => (Ex4 fun us k ds rs => An6 (n = pe :: (L, oL) :: (D, listOf (List.toArray us) k) :: cellsL L oW oC oN oB oR c3 c2 c1 (tabObj ps) rest13) (m (PySem.Str.ofString "word") = some (.str x tx)) (DatAll rest13 us ds) (DatAll rest13 r2 rs) ((∀ d ∈ rs, Row3 d)) (ds ++ pickS rs x ++ xs.flatMap (pickS rows) = total))) (by rfl) F3 N3 ?_ ?_ ?_ ?_
              · intro r m n hR60
                refine gp fun kG130 => ?_
                obtain ⟨us, k, ds, xs, rfl, -⟩ := hR60
                refine kG130.go ?_
                exact List.mem_cons_of_mem _ (List.mem_cons_of_mem _ (List.mem_cons_of_mem _ (mem_cells hDR)))
              · exact ⟨us, k, ds, rows, rfl, rfl, husW, hus, hr3, by rw [List.append_assoc]; exact htt⟩
              · intro v2 r2 m₂ n₂ h₂ tk₂ its2 E'' hR61 hR62 off2 F4 N4
                refine gp fun kG131 => ?_
                obtain ⟨us, k, ds, rs, rfl, hmw, husW, hr2, hrs, htt⟩ := hR61
                obtain ⟨pf, rfl⟩ := hR62
                cases rs with
                | nil => cases hr2
                | cons d rs =>
                obtain ⟨ra, rn, rc, rfl⟩ := hrs d (List.mem_cons_self ..)
                cases hr2 with
                | cons hv hr2 =>
                cases hv with
                | tuple hvm hvs =>
                rename_i aR vsR nR
                cases hvs with
                | cons hv0 hvs =>
                cases hv0
                refine kG131.go ?_
                rename_i ta
                simp only [List.cons_append, List.nil_append] at N4
                k_steps
                refine Hold.mk ?_
                refine CompBody.one ?_
                k_steps
                refine Hold.mk ?_
                refine item_small (i := 0) (News.isTup (by k_asm) (by repeat (first | exact mem_cells hvm | refine List.mem_cons_of_mem _ ?_))) (by decide) (by decide) rfl ?_
                k_steps
                · rename (ra == x) = true => hcmp
                  refine inner_emit (by rfl) ?_
                  k_steps
                  refine Hold.mk ?_
                  rename Fr _ _ _ _ => F5
                  rename News _ _ _ _ => N5
                  have hcell : ∀ p ∈ cellsL L oW oC oN oB oR c3 c2 c1 (tabObj ps) rest13, p.1 ≠ D := cells_off hDo fun p hp => (hRo p hp).1
                  have hpe : pe.1 ≠ D := fun e => off _ (List.mem_cons_of_mem _ (List.mem_cons_self ..)) pe (List.mem_cons_self ..) e.symm
                  have hpf : pf.1 ≠ D := fun e => off2 _ (List.mem_cons_of_mem _ (List.mem_cons_of_mem _ (List.mem_cons_self ..))) pf (List.mem_cons_self ..) e.symm
                  have hul : us.length ≤ 1000 := by
                    have q := congrArg List.length htt
                    rw [List.length_append, List.length_append, ← husW.length] at q
                    omega
                  refine append_K (D := D) (its := us.toArray) (n := k) F5 N5 (Upd.tail hpf (Upd.tail hpe (Upd.tail hDL.symm (Upd.head hcell)))) ?_ (by rw [List.size_toArray, sizeLine_eq]; omega)
                  intro h6 F6 N6
                  rw [List.push_toArray] at N6
                  rw [pickS_hit hcmp] at htt
                  refine CEnd.mk' (its := [pf]) F6 N6 ?_ ⟨us ++ [Value.ref aR], k + 1, ds ++ [.tuple [.str ra, .int rn, .str rc]], rs, rfl, by dsimp only; rw [if_neg (by decide)]; exact hmw, husW.append (.one (.tuple hvm (.cons (.str _ _) hvs))), hr2, fun d hd => hrs d (List.mem_cons_of_mem _ hd), by rw [List.append_assoc, List.append_assoc]; rw [List.append_assoc] at htt; exact htt⟩
                  intro p hp q hq
                  rcases List.mem_cons.mp hp with h | hp
                  · rw [h]; exact off2 _ (List.mem_cons_self ..) q hq
                  rcases List.mem_cons.mp hp with h | hp
                  · rw [h]; exact off2 _ (List.mem_cons_of_mem _ (List.mem_cons_self ..)) q hq
                  rcases List.mem_cons.mp hp with h | hp
                  · rw [h]; exact off2 _ (List.mem_cons_of_mem _ (List.mem_cons_of_mem _ (List.mem_cons_self ..))) q hq
                  · exact off2 _ (List.mem_cons_of_mem _ (List.mem_cons_of_mem _ (List.mem_cons_of_mem _ hp))) q hq
                · rename (ra == x) = false => hcmp
                  rename Fr _ _ _ _ => F5
                  rename News _ _ _ _ => N5
                  rw [pickS_miss hcmp] at htt
                  exact CEnd.mk' (its := [pf]) F5 N5 off2 ⟨us, k, ds, rs, rfl, by dsimp only; rw [if_neg (by decide)]; exact hmw, husW, hr2, fun d hd => hrs d (List.mem_cons_of_mem _ hd), htt⟩
              · intro m₂ n₂ h₂ tk₂ hR63 F4 N4
                refine gp fun kG132 => ?_
                obtain ⟨us, k, ds, rs, rfl, hmw, husW, hr2, hrs, htt⟩ := hR63
                cases rs with
                | cons d rs => cases hr2
                | nil =>
                refine kG132.go ?_
                refine CEnd.mk' (its := [pe]) F4 N4 ?_ ⟨us, k, ds, xs, rfl, hDL, hDo, hRo, husW, hr, by rw [show pickS [] x = [] from rfl, List.append_nil] at htt; exact htt⟩
                intro p hp q hq
                rcases List.mem_cons.mp hp with h | hp
                · rw [h]; exact off _ (List.mem_cons_self ..) q hq
                rcases List.mem_cons.mp hp with h | hp
                · rw [h]; exact off (D, listOf (List.toArray _) _) (List.mem_cons_of_mem _ (List.mem_cons_self ..)) q hq
                · exact off _ (List.mem_cons_of_mem _ (List.mem_cons_of_mem _ hp)) q hq
            · intro Cn DW oL m₂ n₂ hR64
              refine gp fun kG133 => ?_
              obtain ⟨usW, kW, dsW, xs, rfl, hDL, hDo, hRo, husW, hr, htt⟩ := hR64
              cases xs with
              | cons d rs => cases hr
              | nil =>
              refine kG133.go ?_
              rw [show List.flatMap (pickS rows) [] = [] from rfl, List.append_nil] at htt
              refine ⟨_, rfl, ?_, ?_⟩
              · intro p hp
                rcases List.mem_cons.mp hp with h | hp
                · rw [h]; exact hDL
                · exact cells_off (D := L) (by dsimp only [OffC]; omega) (fun p hp => (hRo p hp).2) p hp
              · intro h5 tk5 F5 N5
                subst htt
                refine gp fun kG134 => ?_
                obtain ⟨rest14, N6, hlt14, hs14, hDW⟩ : (∃ rest14, An4 (News hb L h5 (cellsL L oW oC oN oB oR c3 c2 c1 (tabObj ps) rest14)) ((∀ p ∈ rest14, OffC L p.1)) ((∀ p ∈ rest13, p ∈ rest14)) ((DW, listOf usW.toArray kW) ∈ rest14)) := by
                  refine ⟨[_] ++ rest13, news_in (xs := [_]) N5, ?_, fun p hp => List.mem_append_right _ hp, List.mem_cons_self ..⟩
                  intro p hp
                  rcases List.mem_cons.mp hp with h | hp
                  · rw [h]; exact hDo
                  · exact hlt13 p hp
                refine kG134.go ?_
                replace husW := husW.mono hs14
                replace hus := hus.mono hs14
                replace hDR := hs14 _ hDR
                have hs1 := fun p hp => hs14 p (hs13 p hp)
                replace hLR := hs1 _ hLR
                replace husR := husR.mono hs1
                have hDw : WordsAt rest14 Dw := ⟨t0, t1, t2, t3, t4, t5, t6, hs1 _ hDw'⟩
                replace hDn := hDn.mono hs1
                replace hD3 := hs1 _ hD3
                replace hu3 := hu3.mono hs1
                replace hbk := hbk.mono hs1
                clear N5 hs1 hs13 hs14 hlt13 hlt12 hDw' hDo hRo hDL N48 hTW hr K13
                refine' storeX_C F5 N6 ?xc_18 (updF6 l0 hlt14) e3 ?_ ?xa_18 ?xb_18
                case xc_18 => rfl
                case xa_18 => rfl
                case xb_18 => rfl
                intro h7 oD F7 N7 dD
                try dsimp only at N7
                clear F5 N6
                k_steps
                refine Hold.mk ?_
                skip
                rename Fr _ _ _ _ => F45
                refine assign_comp (h₀ := hb) (L := L) F45.above (by rfl) (by with_unfolding_all rfl) (by with_unfolding_all rfl) (by decide) (by rfl) (by decide) (by rfl) (by rfl) ?_
                k_steps
                refine Hold.mk ?_
                refine gp fun kG135 => ?_
                obtain ⟨t0, t1, t2, t3, t4, hDn'⟩ := hDn
                refine kG135.go ?_
                rename Fr _ _ _ _ => F46
                rename News _ _ _ _ => N46
                refine cut_dir (items := [Value.int (-3) t0, .int 0 t1, .int 7 t2, .int 10 t3, .int 100 t4]) hse F46 N46 (mem_cells hDn') same5_s same5_r (pick5_s ..) (pick5_r ..) (by simp) ?_ (by with_unfolding_all rfl) (by intro _; with_unfolding_all rfl)
                intro TW h47 xs47 cW hpl F47 N47 hlt47 hTW
                k_steps
                refine Hold.mk ?_
                obtain ⟨N48, hlt15⟩ := led_grow N47 hlt47 hlt14
                obtain ⟨rest15, hrest15⟩ : ∃ r, r = xs47 ++ rest14 := ⟨_, rfl⟩
                have hs15 : ∀ p ∈ rest14, p ∈ rest15 := fun p hp => hrest15 ▸ List.mem_append_right _ hp
                rw [← hrest15] at N48 hlt15
                have K15 : CellsOk oW oC oN oB oR oD c2 c1 (tabObj ps) := ⟨⟨_, dW⟩, ⟨_, dC⟩, ⟨_, dN⟩, ⟨_, dB⟩, ⟨_, dR⟩, ⟨_, dD⟩, ⟨_, e2⟩, ⟨_, e1⟩, ⟨_, rfl⟩⟩
                replace hTW : _ ∈ rest15 := hrest15 ▸ mem_call (tl := []) K15 plain_tup hTW
                clear hrest15 N47 hlt47 hpl F46 N46
                have hr3W : ∀ d ∈ dsW, Row3 d := htot ▸ row3_flat (fun x => row3_pickS hr3 x)
                have htlT := turned_len (z := se) htl
                replace husW := husW.mono hs15
                replace hDW := hs15 _ hDW
                generalize htotT : (dirL se theNums).flatMap (pickN dsW) = total at *
                refine go_tuple (c := cW) (by rfl) F47 N48 (mem_cells hTW) (by intro g e; cases e; rfl) (fun Cn D oL r m n => (Ex4 fun us k ds xs => An7 (n = (L, oL) :: (D, listOf (List.toArray us) k) :: cellsL L oW oC oN oB oR oD c2 c1 (tabObj ps) rest15) (D ≠ L) (OffC L D) ((∀ p ∈ rest15, p.1 ≠ D ∧ p.1 ≠ L)) (DatAll rest15 us ds) (DatAll rest15 r (List.map Dat.int xs)) (ds ++ xs.flatMap (pickN dsW) = total))) ?_ ?_ ?_ ?_
                · intro Cn D oL r m n hR65
                  refine gp fun kG136 => ?_
                  obtain ⟨us, k, ds, xs, rfl, -⟩ := hR65
                  refine kG136.go ?_
                  exact List.mem_cons_of_mem _ (List.mem_cons_of_mem _ (mem_cells hTW))
                · intro Cn D oL hns hDC hCL hDL hoff
                  exact ⟨[], 0, [], dirL se theNums, rfl, hDL, offC_of hDL fun p hp => (hoff p hp).2.1, fun p hp => ⟨(hoff p (mem_cells hp)).2.1, (hoff p (mem_cells hp)).1⟩, .nil, nums_dir .., htotT⟩
                · intro Cn D oL v r m₁ n₁ h₁ tk₁ its E' hR66 hR67 off F2 N2
                  refine gp fun kG137 => ?_
                  obtain ⟨us, k, ds, xs, rfl, hDL, hDo, hRo, husQ, hr, htt⟩ := hR66
                  obtain ⟨pe, rfl⟩ := hR67
                  cases xs with
                  | nil => cases hr
                  | cons x xs =>
                  cases hr with
                  | cons hv hr =>
                  cases hv
                  refine kG137.go ?_
                  rename_i tx
                  simp only [List.cons_append, List.nil_append] at N2
                  k_steps
                  refine Hold.mk ?_
                  refine CompBody.all (inner_next (by rfl) ?_)
                  k_steps
                  refine Hold.mk ?_
                  rename Fr _ _ _ _ => F3
                  rename News _ _ _ _ => N3
                  refine in_list (l := DW) (c := kW) (vs := usW) (by rfl) (by intro g e; cases e) (fun r2 m n => (Ex4 fun us k ds rs => An6 (n = pe :: (L, oL) :: (D, listOf (List.toArray us) k) :: cellsL L oW oC oN oB oR oD c2 c1 (tabObj ps) rest15) (m (PySem.Str.ofString "number") = some (.int x tx)) (DatAll rest15 us ds) (DatAll rest15 r2 rs) ((∀ d ∈ rs, Row3 d)) (ds ++ pickN rs x ++ xs.flatMap (pickN dsW) = total))) (by rfl) F3 N3 ?_ ?_ ?_ ?_
                  · intro r m n hR68
                    refine gp fun kG138 => ?_
                    obtain ⟨us, k, ds, xs, rfl, -⟩ := hR68
                    refine kG138.go ?_
                    exact List.mem_cons_of_mem _ (List.mem_cons_of_mem _ (List.mem_cons_of_mem _ (mem_cells hDW)))
                  · exact ⟨us, k, ds, dsW, rfl, rfl, husQ, husW, hr3W, by rw [List.append_assoc]; exact htt⟩
                  · intro v2 r2 m₂ n₂ h₂ tk₂ its2 E'' hR69 hR70 off2 F4 N4
                    refine gp fun kG139 => ?_
                    obtain ⟨us, k, ds, rs, rfl, hmw, husQ, hr2, hrs, htt⟩ := hR69
                    obtain ⟨pf, rfl⟩ := hR70
                    cases rs with
                    | nil => cases hr2
                    | cons d rs =>
                    obtain ⟨ra, rn, rc, rfl⟩ := hrs d (List.mem_cons_self ..)
                    cases hr2 with
                    | cons hv hr2 =>
                    cases hv with
                    | tuple hvm hvs =>
                    rename_i aR vsR nR
                    cases hvs with
                    | cons hv0 hvs =>
                    cases hv0
                    rename_i ta
                    cases hvs with
                    | cons hv1 hvs =>
                    cases hv1
                    refine kG139.go ?_
                    rename_i tb
                    simp only [List.cons_append, List.nil_append] at N4
                    k_steps
                    refine Hold.mk ?_
                    refine CompBody.one ?_
                    k_steps
                    refine Hold.mk ?_
                    refine item_small (i := 1) (News.isTup (by k_asm) (by repeat (first | exact mem_cells hvm | refine List.mem_cons_of_mem _ ?_))) (by decide) (by decide) rfl ?_
                    k_steps
                    · rename rn = x => hcmp
                      refine inner_emit (by rfl) ?_
                      k_steps
                      refine Hold.mk ?_
                      rename Fr _ _ _ _ => F5
                      rename News _ _ _ _ => N5
                      have hcell : ∀ p ∈ cellsL L oW oC oN oB oR oD c2 c1 (tabObj ps) rest15, p.1 ≠ D := cells_off hDo fun p hp => (hRo p hp).1
                      have hpe : pe.1 ≠ D := fun e => off _ (List.mem_cons_of_mem _ (List.mem_cons_self ..)) pe (List.mem_cons_self ..) e.symm
                      have hpf : pf.1 ≠ D := fun e => off2 _ (List.mem_cons_of_mem _ (List.mem_cons_of_mem _ (List.mem_cons_self ..))) pf (List.mem_cons_self ..) e.symm
                      have hul : us.length ≤ 1000 := by
                        have q := congrArg List.length htt
                        rw [List.length_append, List.length_append, ← husQ.length] at q
                        omega
                      refine append_K (D := D) (its := us.toArray) (n := k) F5 N5 (Upd.tail hpf (Upd.tail hpe (Upd.tail hDL.symm (Upd.head hcell)))) ?_ (by rw [List.size_toArray, sizeLine_eq]; omega)
                      intro h6 F6 N6
                      rw [List.push_toArray] at N6
                      rw [pickN_hit hcmp] at htt
                      refine CEnd.mk' (its := [pf]) F6 N6 ?_ ⟨us ++ [Value.ref aR], k + 1, ds ++ [.tuple [.str ra, .int rn, .str rc]], rs, rfl, by dsimp only; rw [if_neg (by decide)]; exact hmw, husQ.append (.one (.tuple hvm (.cons (.str _ _) (.cons (.int _ _) hvs)))), hr2, fun d hd => hrs d (List.mem_cons_of_mem _ hd), by rw [List.append_assoc, List.append_assoc]; rw [List.append_assoc] at htt; exact htt⟩
                      intro p hp q hq
                      rcases List.mem_cons.mp hp with h | hp
                      · rw [h]; exact off2 _ (List.mem_cons_self ..) q hq
                      rcases List.mem_cons.mp hp with h | hp
                      · rw [h]; exact off2 _ (List.mem_cons_of_mem _ (List.mem_cons_self ..)) q hq
                      rcases List.mem_cons.mp hp with h | hp
                      · rw [h]; exact off2 _ (List.mem_cons_of_mem _ (List.mem_cons_of_mem _ (List.mem_cons_self ..))) q hq
                      · exact off2 _ (List.mem_cons_of_mem _ (List.mem_cons_of_mem _ (List.mem_cons_of_mem _ hp))) q hq
                    · rename rn ≠ x => hcmp
                      rename Fr _ _ _ _ => F5
                      rename News _ _ _ _ => N5
                      rw [pickN_miss hcmp] at htt
                      exact CEnd.mk' (its := [pf]) F5 N5 off2 ⟨us, k, ds, rs, rfl, by dsimp only; rw [if_neg (by decide)]; exact hmw, husQ, hr2, fun d hd => hrs d (List.mem_cons_of_mem _ hd), htt⟩
                  · intro m₂ n₂ h₂ tk₂ hR71 F4 N4
                    refine gp fun kG140 => ?_
                    obtain ⟨us, k, ds, rs, rfl, hmw, husQ, hr2, hrs, htt⟩ := hR71
                    cases rs with
                    | cons d rs => cases hr2
                    | nil =>
                    refine kG140.go ?_
                    refine CEnd.mk' (its := [pe]) F4 N4 ?_ ⟨us, k, ds, xs, rfl, hDL, hDo, hRo, husQ, hr, by rw [show pickN [] x = [] from rfl, List.append_nil] at htt; exact htt⟩
                    intro p hp q hq
                    rcases List.mem_cons.mp hp with h | hp
                    · rw [h]; exact off _ (List.mem_cons_self ..) q hq
                    rcases List.mem_cons.mp hp with h | hp
                    · rw [h]; exact off (D, listOf (List.toArray _) _) (List.mem_cons_of_mem _ (List.mem_cons_self ..)) q hq
                    · exact off _ (List.mem_cons_of_mem _ (List.mem_cons_of_mem _ hp)) q hq
                · intro Cn DT oL m₂ n₂ hR72
                  refine gp fun kG141 => ?_
                  obtain ⟨usT, kT, dsT, xs, rfl, hDL, hDo, hRo, husT, hr, htt⟩ := hR72
                  cases xs with
                  | cons d rs => cases hr
                  | nil =>
                  refine kG141.go ?_
                  rw [show List.flatMap (pickN dsW) [] = [] from rfl, List.append_nil] at htt
                  refine ⟨_, rfl, ?_, ?_⟩
                  · intro p hp
                    rcases List.mem_cons.mp hp with h | hp
                    · rw [h]; exact hDL
                    · exact cells_off (D := L) (by dsimp only [OffC]; omega) (fun p hp => (hRo p hp).2) p hp
                  · intro h5 tk5 F5 N5
                    subst htt
                    refine gp fun kG142 => ?_
                    obtain ⟨rest16, N6, hlt16, hs16, hDT⟩ : (∃ rest16, An4 (News hb L h5 (cellsL L oW oC oN oB oR oD c2 c1 (tabObj ps) rest16)) ((∀ p ∈ rest16, OffC L p.1)) ((∀ p ∈ rest15, p ∈ rest16)) ((DT, listOf usT.toArray kT) ∈ rest16)) := by
                      refine ⟨[_] ++ rest15, news_in (xs := [_]) N5, ?_, fun p hp => List.mem_append_right _ hp, List.mem_cons_self ..⟩
                      intro p hp
                      rcases List.mem_cons.mp hp with h | hp
                      · rw [h]; exact hDo
                      · exact hlt15 p hp
                    replace husT := husT.mono hs16
                    replace husW := husW.mono hs16
                    replace hDW := hs16 _ hDW
                    have hs1 := fun p hp => hs16 p (hs15 p hp)
                    replace hLR := hs1 _ hLR
                    replace husR := husR.mono hs1
                    have hDn : NumsAt rest16 Dn := ⟨t0, t1, t2, t3, t4, hs1 _ hDn'⟩
                    replace hDw := hDw.mono hs1
                    replace hus := hus.mono hs1
                    replace hDR := hs1 _ hDR
                    replace hD3 := hs1 _ hD3
                    replace hu3 := hu3.mono hs1
                    replace hbk := hbk.mono hs1
                    clear N5 hs1 hs15 hs16 hlt15 hlt14 hDn' hDo hRo hDL N48 hTW hr K15
                    obtain ⟨m6, hq1, hq2, hq3, hq4, hq5, F6⟩ : (∃ (m6 : PySem.Str → Option Value), An6 (m6 (PySem.Str.ofString "first") = some (.int fi tf)) (m6 (PySem.Str.ofString "second") = some (.int se ts)) (m6 (PySem.Str.ofString "joined") = some (.ref D3)) (m6 (PySem.Str.ofString "right") = some (.ref LR)) (m6 (PySem.Str.ofString "turned") = some (.ref DT)) (Fr hb L h5 m6)) := ⟨_, by (try dsimp only); rw [if_neg (by decide)]; exact hm1, by (try dsimp only); rw [if_neg (by decide)]; exact hm2, by (try dsimp only); rw [if_neg (by decide)]; exact hm3, by (try dsimp only); rw [if_neg (by decide)]; exact hm4, if_pos rfl, F5⟩
                    refine kG142.go ?_
                    clear F5 hm1 hm2 hm3 hm4
                    skip
                    have K17 : CellsOk oW oC oN oB oR oD c2 c1 (tabObj ps) := ⟨⟨_, dW⟩, ⟨_, dC⟩, ⟨_, dN⟩, ⟨_, dB⟩, ⟨_, dR⟩, ⟨_, dD⟩, ⟨_, e2⟩, ⟨_, e1⟩, ⟨_, rfl⟩⟩
                    k_steps
                    refine Hold.mk ?_
                    rename Fr _ _ _ _ => F14
                    rename News _ _ _ _ => N14
                    k_dflt (refine' Ctr.use (judge_ok (ts := [Value.ref _, Value.ref _]) (nl := 0) (cs := [(1, se), (0, fi)]) (List.mem_cons_self ..) (.cons (List.mem_cons_of_mem _ (List.mem_cons_of_mem _ (List.mem_cons_self ..))) (.cons (List.mem_cons_of_mem _ (List.mem_cons_self ..)) .nil))) ?B_19 F14 ?X_19 N14 ?T_19 ?K_19 ?d_19 ?u_19 ?_; (case B_19 => k_asm); (case X_19 => k_asm); (case T_19 => k_asm); (case K_19 => exact rfl); (case d_19 => ktr_room); (case u_19 => ktr_units))
                    intro v' tl2 h' tk' F15 N15 hoff hv
                    refine gp fun kG143 => ?_
                    obtain ⟨jr, rfl, hjr⟩ := hv
                    obtain ⟨N16_1, hlt17_1⟩ := after_call (xs := [_, _, _]) K17 N15 (fun q hq p hp => Nat.ne_of_lt (hoff q hq p hp)) hlt16 ⟨⟨nofun, nofun⟩, ⟨nofun, nofun⟩, ⟨nofun, nofun⟩, trivial⟩
                    have hjr_1 := hjr.mono_seq fun p hp hpl => mem_call (xs := [_, _, _]) K17 hpl hp
                    obtain ⟨rest17, hsub17, N16, hlt17, hjr⟩ : (∃ rest17, An4 ((∀ p ∈ rest16, p ∈ rest17)) (News hb L h' (cellsL L oW oC oN oB oR oD c2 c1 (tabObj ps) rest17)) ((∀ p ∈ rest17, OffC L p.1)) (JudgeIn rest17 jr [(1, se), (0, fi)])) := ⟨_, fun p hp => List.mem_append_right _ hp, N16_1, hlt17_1, hjr_1⟩
                    refine kG143.go ?_
                    have husD := hus.mono hsub17
                    have hDR' := hsub17 _ hDR
                    clear N15 hoff F14 N14 hlt17_1 N16_1 hjr_1
                    k_steps
                    refine Hold.mk ?_
                    rename Fr _ _ _ _ => F18
                    rename News _ _ _ _ => N18
                    have hokR : RowsOk [(1, se), (0, fi)] rows := hrows ▸ left_ok (by simp) xaL
                    k_dflt (refine' Ctr.use (sorted_ok (hjr.mono fun p hp => mem_cells hp) (mem_cells hDR') (husD.mono fun p hp => mem_cells hp) hokR (by omega)) ?B_20 F18 ?X_20 N18 ?T_20 ?K_20 ?d_20 ?u_20 ?_; (case B_20 => k_asm); (case X_20 => k_asm); (case T_20 => k_asm); (case K_20 => exact rfl); (case d_20 => ktr_room); (case u_20 => ktr_units))
                    intro v' tl h' tk' F19 N19 hoff hv
                    refine gp fun kG144 => ?_
                    obtain ⟨D4, u4, c4', rfl, hD4, hu4⟩ := hv
                    refine kG144.go ?_
                    clear hoff
                    k_steps
                    refine Hold.mk ?_
                    rename Fr _ _ _ _ => F20
                    rename News _ _ _ _ => N20
                    have hkr : ∀ d ∈ rows, kqdOk 8 d = true := hrows ▸ left_kqd hxlL
                    have hEq : sortD [(1, se), (0, fi)] rows = dsT := by rw [← htotT, ← htot, ← hrows]; exact lawA hfi hse xaL
                    rw [hEq] at hu4
                    have hmW : ∀ d ∈ dsW, d ∈ rows := by rw [← htot]; exact flat_mem fun _ => pickS_mem
                    have hmT : ∀ d ∈ dsT, d ∈ rows := by rw [← htotT]; exact flat_mem fun _ d hd => hmW d (pickN_mem d hd)
                    have hkT : ∀ d ∈ dsT, kqdOk 8 d = true := fun d hd => hkr d (hmT d hd)
                    refine kqd_ne N20 hD4 rfl rfl hu4 (fun _ h => h) (List.mem_append_right _ (mem_cells (hsub17 _ hDT))) rfl rfl husT (fun p hp => List.mem_append_right _ (mem_cells (hsub17 _ hp))) hkT hkT (by ke_room) ?_
                    rw [show ∀ (i : Decidable (dsT = dsT)), (!(@decide (dsT = dsT) i)) = false from fun i => by simp]
                    k_steps
                    refine Hold.mk ?_
                    rename Fr _ _ _ _ => F21
                    rename News _ _ _ _ => N21o
                    rename_i h21
                    have N21 : News hb L _ (cellsL L oW oC oN oB oR oD c2 c1 (tabObj ps) rest16) := fun p hp => N21o p (List.mem_append_right _ (cells_sub hsub17 p hp))
                    clear N21o hjr husD hDR' hlt17 hsub17 hD4 hu4 hEq hkT hmT hmW hokR husT hDT htotT htlT hq5 hr3W husW hDW htot htl K17
                    rename_i D' _ _ l' _ l1 _ _
                    refine wpAny_Assign_Name ?_ (by rfl)
                    refine eval_comp (h₀ := hb) (L := L) F21.above (by with_unfolding_all rfl) (by decide) (by rfl) (by decide) ?_
                    k_steps
                    refine Hold.mk ?_
                    refine gp fun kG145 => ?_
                    obtain ⟨t0, t1, t2, t3, t4, hDn'⟩ := hDn
                    refine kG145.go ?_
                    rename Fr _ _ _ _ => F46
                    rename News _ _ _ _ => N46
                    refine cut_dir (items := [Value.int (-3) t0, .int 0 t1, .int 7 t2, .int 10 t3, .int 100 t4]) hse F46 N46 (mem_cells hDn') same5_s same5_r (pick5_s ..) (pick5_r ..) (by simp) ?_ (by with_unfolding_all rfl) (by intro _; with_unfolding_all rfl)
                    intro TW h47 xs47 cW hpl F47 N47 hlt47 hTW
                    k_steps
                    refine Hold.mk ?_
                    obtain ⟨N48, hlt19⟩ := led_grow N47 hlt47 hlt16
                    obtain ⟨rest19, hrest19⟩ : ∃ r, r = xs47 ++ rest16 := ⟨_, rfl⟩
                    have hs19 : ∀ p ∈ rest16, p ∈ rest19 := fun p hp => hrest19 ▸ List.mem_append_right _ hp
                    rw [← hrest19] at N48 hlt19
                    have K19 : CellsOk oW oC oN oB oR oD c2 c1 (tabObj ps) := ⟨⟨_, dW⟩, ⟨_, dC⟩, ⟨_, dN⟩, ⟨_, dB⟩, ⟨_, dR⟩, ⟨_, dD⟩, ⟨_, e2⟩, ⟨_, e1⟩, ⟨_, rfl⟩⟩
                    replace hTW : _ ∈ rest19 := hrest19 ▸ mem_call (tl := []) K19 plain_tup hTW
                    clear hrest19 N47 hlt47 hpl F46 N46
                    have htlT := turned_len (z := se) (ds := rows) (by omega)
                    replace hus := hus.mono hs19
                    replace hDR := hs19 _ hDR
                    generalize htotK : (dirL se theNums).flatMap (pickN rows) = total at *
                    refine go_tuple (c := cW) (by rfl) F47 N48 (mem_cells hTW) (by intro g e; cases e; rfl) (fun Cn D oL r m n => (Ex4 fun us k ds xs => An7 (n = (L, oL) :: (D, listOf (List.toArray us) k) :: cellsL L oW oC oN oB oR oD c2 c1 (tabObj ps) rest19) (D ≠ L) (OffC L D) ((∀ p ∈ rest19, p.1 ≠ D ∧ p.1 ≠ L)) (DatAll rest19 us ds) (DatAll rest19 r (List.map Dat.int xs)) (ds ++ xs.flatMap (pickN rows) = total))) ?_ ?_ ?_ ?_
                    · intro Cn D oL r m n hR73
                      refine gp fun kG146 => ?_
                      obtain ⟨us, k, ds, xs, rfl, -⟩ := hR73
                      refine kG146.go ?_
                      exact List.mem_cons_of_mem _ (List.mem_cons_of_mem _ (mem_cells hTW))
                    · intro Cn D oL hns hDC hCL hDL hoff
                      exact ⟨[], 0, [], dirL se theNums, rfl, hDL, offC_of hDL fun p hp => (hoff p hp).2.1, fun p hp => ⟨(hoff p (mem_cells hp)).2.1, (hoff p (mem_cells hp)).1⟩, .nil, nums_dir .., htotK⟩
                    · intro Cn D oL v r m₁ n₁ h₁ tk₁ its E' hR74 hR75 off F2 N2
                      refine gp fun kG147 => ?_
                      obtain ⟨us, k, ds, xs, rfl, hDL, hDo, hRo, husQ, hr, htt⟩ := hR74
                      obtain ⟨pe, rfl⟩ := hR75
                      cases xs with
                      | nil => cases hr
                      | cons x xs =>
                      cases hr with
                      | cons hv hr =>
                      cases hv
                      refine kG147.go ?_
                      rename_i tx
                      simp only [List.cons_append, List.nil_append] at N2
                      k_steps
                      refine Hold.mk ?_
                      refine CompBody.all (inner_next (by rfl) ?_)
                      k_steps
                      refine Hold.mk ?_
                      rename Fr _ _ _ _ => F3
                      rename News _ _ _ _ => N3
                      refine in_list (l := DR) (c := cD) (vs := usD) (by rfl) (by intro g e; cases e) (fun r2 m n => (Ex4 fun us k ds rs => An6 (n = pe :: (L, oL) :: (D, listOf (List.toArray us) k) :: cellsL L oW oC oN oB oR oD c2 c1 (tabObj ps) rest19) (m (PySem.Str.ofString "number") = some (.int x tx)) (DatAll rest19 us ds) (DatAll rest19 r2 rs) ((∀ d ∈ rs, Row3 d)) (ds ++ pickN rs x ++ xs.flatMap (pickN rows) = total))) (by rfl) F3 N3 ?_ ?_ ?_ ?_
                      · intro r m n hR76
                        refine gp fun kG148 => ?_
                        obtain ⟨us, k, ds, xs, rfl, -⟩ := hR76
                        refine kG148.go ?_
                        exact List.mem_cons_of_mem _ (List.mem_cons_of_mem _ (List.mem_cons_of_mem _ (mem_cells hDR)))
                      · exact ⟨us, k, ds, rows, rfl, rfl, husQ, hus, hr3, by rw [List.append_assoc]; exact htt⟩
                      · intro v2 r2 m₂ n₂ h₂ tk₂ its2 E'' hR77 hR78 off2 F4 N4
                        refine gp fun kG149 => ?_
                        obtain ⟨us, k, ds, rs, rfl, hmw, husQ, hr2, hrs, htt⟩ := hR77
                        obtain ⟨pf, rfl⟩ := hR78
                        cases rs with
                        | nil => cases hr2
                        | cons d rs =>
                        obtain ⟨ra, rn, rc, rfl⟩ := hrs d (List.mem_cons_self ..)
                        cases hr2 with
                        | cons hv hr2 =>
                        cases hv with
                        | tuple hvm hvs =>
                        rename_i aR vsR nR
                        cases hvs with
                        | cons hv0 hvs =>
                        cases hv0
                        rename_i ta
                        cases hvs with
                        | cons hv1 hvs =>
                        cases hv1
                        refine kG149.go ?_
                        rename_i tb
                        simp only [List.cons_append, List.nil_append] at N4
                        k_steps
                        refine Hold.mk ?_
                        refine CompBody.one ?_
                        k_steps
                        refine Hold.mk ?_
                        refine item_small (i := 1) (News.isTup (by k_asm) (by repeat (first | exact mem_cells hvm | refine List.mem_cons_of_mem _ ?_))) (by decide) (by decide) rfl ?_
                        k_steps
                        · rename rn = x => hcmp
                          refine inner_emit (by rfl) ?_
                          k_steps
                          refine Hold.mk ?_
                          rename Fr _ _ _ _ => F5
                          rename News _ _ _ _ => N5
                          have hcell : ∀ p ∈ cellsL L oW oC oN oB oR oD c2 c1 (tabObj ps) rest19, p.1 ≠ D := cells_off hDo fun p hp => (hRo p hp).1
                          have hpe : pe.1 ≠ D := fun e => off _ (List.mem_cons_of_mem _ (List.mem_cons_self ..)) pe (List.mem_cons_self ..) e.symm
                          have hpf : pf.1 ≠ D := fun e => off2 _ (List.mem_cons_of_mem _ (List.mem_cons_of_mem _ (List.mem_cons_self ..))) pf (List.mem_cons_self ..) e.symm
                          have hul : us.length ≤ 1000 := by
                            have q := congrArg List.length htt
                            rw [List.length_append, List.length_append, ← husQ.length] at q
                            omega
                          refine append_K (D := D) (its := us.toArray) (n := k) F5 N5 (Upd.tail hpf (Upd.tail hpe (Upd.tail hDL.symm (Upd.head hcell)))) ?_ (by rw [List.size_toArray, sizeLine_eq]; omega)
                          intro h6 F6 N6
                          rw [List.push_toArray] at N6
                          rw [pickN_hit hcmp] at htt
                          refine CEnd.mk' (its := [pf]) F6 N6 ?_ ⟨us ++ [Value.ref aR], k + 1, ds ++ [.tuple [.str ra, .int rn, .str rc]], rs, rfl, by dsimp only; rw [if_neg (by decide)]; exact hmw, husQ.append (.one (.tuple hvm (.cons (.str _ _) (.cons (.int _ _) hvs)))), hr2, fun d hd => hrs d (List.mem_cons_of_mem _ hd), by rw [List.append_assoc, List.append_assoc]; rw [List.append_assoc] at htt; exact htt⟩
                          intro p hp q hq
                          rcases List.mem_cons.mp hp with h | hp
                          · rw [h]; exact off2 _ (List.mem_cons_self ..) q hq
                          rcases List.mem_cons.mp hp with h | hp
                          · rw [h]; exact off2 _ (List.mem_cons_of_mem _ (List.mem_cons_self ..)) q hq
                          rcases List.mem_cons.mp hp with h | hp
                          · rw [h]; exact off2 _ (List.mem_cons_of_mem _ (List.mem_cons_of_mem _ (List.mem_cons_self ..))) q hq
                          · exact off2 _ (List.mem_cons_of_mem _ (List.mem_cons_of_mem _ (List.mem_cons_of_mem _ hp))) q hq
                        · rename rn ≠ x => hcmp
                          rename Fr _ _ _ _ => F5
                          rename News _ _ _ _ => N5
                          rw [pickN_miss hcmp] at htt
                          exact CEnd.mk' (its := [pf]) F5 N5 off2 ⟨us, k, ds, rs, rfl, by dsimp only; rw [if_neg (by decide)]; exact hmw, husQ, hr2, fun d hd => hrs d (List.mem_cons_of_mem _ hd), htt⟩
                      · intro m₂ n₂ h₂ tk₂ hR79 F4 N4
                        refine gp fun kG150 => ?_
                        obtain ⟨us, k, ds, rs, rfl, hmw, husQ, hr2, hrs, htt⟩ := hR79
                        cases rs with
                        | cons d rs => cases hr2
                        | nil =>
                        refine kG150.go ?_
                        refine CEnd.mk' (its := [pe]) F4 N4 ?_ ⟨us, k, ds, xs, rfl, hDL, hDo, hRo, husQ, hr, by rw [show pickN [] x = [] from rfl, List.append_nil] at htt; exact htt⟩
                        intro p hp q hq
                        rcases List.mem_cons.mp hp with h | hp
                        · rw [h]; exact off _ (List.mem_cons_self ..) q hq
                        rcases List.mem_cons.mp hp with h | hp
                        · rw [h]; exact off (D, listOf (List.toArray _) _) (List.mem_cons_of_mem _ (List.mem_cons_self ..)) q hq
                        · exact off _ (List.mem_cons_of_mem _ (List.mem_cons_of_mem _ hp)) q hq
                    · intro Cn DK oL m₂ n₂ hR80
                      refine gp fun kG151 => ?_
                      obtain ⟨usK, kK, dsK, xs, rfl, hDL, hDo, hRo, husK, hr, htt⟩ := hR80
                      cases xs with
                      | cons d rs => cases hr
                      | nil =>
                      refine kG151.go ?_
                      rw [show List.flatMap (pickN rows) [] = [] from rfl, List.append_nil] at htt
                      refine ⟨_, rfl, ?_, ?_⟩
                      · intro p hp
                        rcases List.mem_cons.mp hp with h | hp
                        · rw [h]; exact hDL
                        · exact cells_off (D := L) (by dsimp only [OffC]; omega) (fun p hp => (hRo p hp).2) p hp
                      · intro h5 tk5 F5 N5
                        subst htt
                        refine gp fun kG152 => ?_
                        obtain ⟨rest20, N6, hlt20, hs20, hDK⟩ : (∃ rest20, An4 (News hb L h5 (cellsL L oW oC oN oB oR oD c2 c1 (tabObj ps) rest20)) ((∀ p ∈ rest20, OffC L p.1)) ((∀ p ∈ rest19, p ∈ rest20)) ((DK, listOf usK.toArray kK) ∈ rest20)) := by
                          refine ⟨[_] ++ rest19, news_in (xs := [_]) N5, ?_, fun p hp => List.mem_append_right _ hp, List.mem_cons_self ..⟩
                          intro p hp
                          rcases List.mem_cons.mp hp with h | hp
                          · rw [h]; exact hDo
                          · exact hlt19 p hp
                        refine kG152.go ?_
                        replace husK := husK.mono hs20
                        replace hus := hus.mono hs20
                        replace hDR := hs20 _ hDR
                        have hs1 := fun p hp => hs20 p (hs19 p hp)
                        replace hLR := hs1 _ hLR
                        replace husR := husR.mono hs1
                        have hDn : NumsAt rest20 Dn := ⟨t0, t1, t2, t3, t4, hs1 _ hDn'⟩
                        replace hDw := hDw.mono hs1
                        replace hD3 := hs1 _ hD3
                        replace hu3 := hu3.mono hs1
                        replace hbk := hbk.mono hs1
                        clear N5 hs1 hs19 hs20 hlt19 hlt16 hDn' hDo hRo hDL N48 hTW hr K19
                        refine' storeX_C F5 N6 ?xc_21 (updF7 l0 hlt20) e2 ?_ ?xa_21 ?xb_21
                        case xc_21 => rfl
                        case xa_21 => rfl
                        case xb_21 => rfl
                        intro h7 oK F7 N7 dK
                        try dsimp only at N7
                        clear F5 N6
                        k_steps
                        refine Hold.mk ?_
                        skip
                        have stg6 : Stage 6 := .mk _
                        rename Fr _ _ _ _ => F45
                        refine gp fun kG153 => ?_
                        obtain ⟨m6, hq1, hq3, hq4, F45'⟩ : (∃ (m7 : PySem.Str → Option Value), An4 (m7 (PySem.Str.ofString "first") = some (.int fi tf)) (m7 (PySem.Str.ofString "joined") = some (.ref D3)) (m7 (PySem.Str.ofString "right") = some (.ref LR)) (Fr hb L _ m7)) := ⟨_, hq1, hq3, hq4, F45⟩
                        refine kG153.go ?_
                        clear F45
                        refine assign_comp2 (h₀ := hb) (L := L) F45'.above (by rfl) (by with_unfolding_all rfl) (by with_unfolding_all rfl) (by decide) (by rfl) (by decide) (by rfl) (by rfl) ?_
                        k_steps
                        refine Hold.mk ?_
                        refine gp fun kG154 => ?_
                        obtain ⟨t0, t1, t2, t3, t4, t5, t6, hDw'⟩ := hDw
                        refine kG154.go ?_
                        rename Fr _ _ _ _ => F46
                        rename News _ _ _ _ => N46
                        refine cut_dir (items := [Value.str (PySem.Str.ofString "") t0, .str (PySem.Str.ofString "B") t1, .str (PySem.Str.ofString "a") t2, .str (PySem.Str.ofString "a b") t3, .str (PySem.Str.ofString "a=b") t4, .str (PySem.Str.ofString "ab") t5, .str (PySem.Str.ofString "b") t6]) hfi F46 N46 (mem_cells hDw') same7_s same7_r (pick7_s ..) (pick7_r ..) (by simp) ?_ (by with_unfolding_all rfl) (by intro _; with_unfolding_all rfl)
                        intro TW h47 xs47 cW hpl F47 N47 hlt47 hTW
                        k_steps
                        refine Hold.mk ?_
                        refine gp fun kG155 => ?_
                        obtain ⟨N48, hlt21⟩ := led_grow N47 hlt47 hlt20
                        obtain ⟨rest21, hrest21⟩ : ∃ r, r = xs47 ++ rest20 := ⟨_, rfl⟩
                        have hs21 : ∀ p ∈ rest20, p ∈ rest21 := fun p hp => hrest21 ▸ List.mem_append_right _ hp
                        rw [← hrest21] at N48 hlt21
                        have K21 : CellsOk oW oC oN oB oR oD oK c1 (tabObj ps) := ⟨⟨_, dW⟩, ⟨_, dC⟩, ⟨_, dN⟩, ⟨_, dB⟩, ⟨_, dR⟩, ⟨_, dD⟩, ⟨_, dK⟩, ⟨_, e1⟩, ⟨_, rfl⟩⟩
                        replace hTW : _ ∈ rest21 := hrest21 ▸ mem_call (tl := []) K21 plain_tup hTW
                        have hLa : hb.objs.size ≤ L := F47.above
                        clear hrest21 N47 hlt47 hpl F46 N46
                        replace husK := husK.mono hs21
                        replace hDK := hs21 _ hDK
                        have hbk' := hbk.mono hs21
                        have hbk0 := hbk'
                        obtain ⟨db, es, ep, lam, nn, hsh, tkk, lo, fd, objs, hbm, hdbm, hE, hobj, hlam, hlo, hfd, hbsys⟩ := hbk0.at_
                        refine kG155.go ?_
                        have hul : ∀ x, (under (bookD (rowsFrom rightRow 0 xaR)) x).length ≤ 10 := entIn_under hE
                        generalize hbd : bookD (rowsFrom rightRow 0 xaR) = bd at *
                        have hr3K : ∀ d ∈ dsK, Row3 d := htotK ▸ row3_flat (fun x => row3_pickN hr3 x)
                        have htlF := found_len (z := fi) hul htlT
                        generalize htotF : (dirL fi theWords).flatMap (foundFor bd dsK) = total at *
                        refine go_tuple2 (c := cW) (by rfl) F47 N48 (mem_cells hTW) (by intro g e; cases e; rfl) (fun Cn D oL r m n => (Ex6 fun oL' us k ds xs rest' => An9 (n = (L, oL') :: (D, listOf (List.toArray us) k) :: cellsL L oW oC oN oB oR oD oK c1 (tabObj ps) rest') (LCg.NsObj oL' m6) ((D ≠ L ∧ Cn ≠ L)) (OffC L D) ((∀ p ∈ rest', OffC L p.1 ∧ p.1 ≠ D ∧ p.1 ≠ L)) ((∀ p ∈ rest21, p ∈ rest')) (DatAll rest' us ds) (DatAll rest' r (List.map Dat.str xs)) (ds ++ xs.flatMap (foundFor bd dsK) = total))) ?_ ?_ ?_ ?_
                        · intro Cn D oL r m n hR81
                          refine gp fun kG156 => ?_
                          obtain ⟨oL', us, k, ds, xs, rest', rfl, -, -, -, -, hs, -⟩ := hR81
                          refine kG156.go ?_
                          exact List.mem_cons_of_mem _ (List.mem_cons_of_mem _ (mem_cells (hs _ hTW)))
                        · intro Cn D oL hns hDC hCL hDL hoff
                          exact ⟨oL, [], 0, [], dirL fi theWords, rest21, rfl, hns, ⟨hDL, hCL⟩, offC_of hDL fun p hp => (hoff p hp).2.1, fun p hp => ⟨hlt21 p hp, (hoff p (mem_cells hp)).2.1, (hoff p (mem_cells hp)).1⟩, fun _ h => h, .nil, words_dir .., htotF⟩
                        · intro Cn D oL v r m₁ n₁ h₁ tk₁ its E' hR82 hR83 off F2 N2
                          refine gp fun kG157 => ?_
                          obtain ⟨oL', us, k, ds, xs, rest', rfl, hns, ⟨hDL, hCL⟩, hDo, hRo, hs22, husQ, hr, htt⟩ := hR82
                          obtain ⟨pe, rfl⟩ := hR83
                          cases xs with
                          | nil => cases hr
                          | cons x xs =>
                          cases hr with
                          | cons hv hr =>
                          cases hv
                          refine kG157.go ?_
                          rename_i tx
                          simp only [List.cons_append, List.nil_append] at N2
                          k_steps
                          refine Hold.mk ?_
                          refine CompBody.all (inner_next (by rfl) ?_)
                          k_steps
                          refine Hold.mk ?_
                          rename Fr _ _ _ _ => F3
                          rename News _ _ _ _ => N3
                          refine in_list (l := DK) (c := kK) (vs := usK) (by rfl) (by intro g e; cases e; rfl) (fun r2 m n => (Ex6 fun oL' us k ds rs rest2 => An9 (n = pe :: (L, oL') :: (D, listOf (List.toArray us) k) :: cellsL L oW oC oN oB oR oD oK c1 (tabObj ps) rest2) (LCg.NsObj oL' m6) ((∀ p ∈ rest2, OffC L p.1 ∧ p.1 ≠ D ∧ p.1 ≠ L ∧ p.1 ≠ pe.1)) ((∀ p ∈ rest', p ∈ rest2)) (m (PySem.Str.ofString "word") = some (.str x tx)) (DatAll rest2 us ds) (DatAll rest2 r2 rs) ((∀ d ∈ rs, Row3 d)) (ds ++ foundIn bd x (pickS rs x) ++ xs.flatMap (foundFor bd dsK) = total))) (by rfl) F3 N3 ?_ ?_ ?_ ?_
                          · intro r m n hR84
                            refine gp fun kG158 => ?_
                            obtain ⟨oL', us, k, ds, xs, rest2, rfl, -, -, hs, -⟩ := hR84
                            refine kG158.go ?_
                            exact List.mem_cons_of_mem _ (List.mem_cons_of_mem _ (List.mem_cons_of_mem _ (mem_cells (hs _ (hs22 _ hDK)))))
                          · exact ⟨oL', us, k, ds, dsK, rest', rfl, hns, fun p hp => ⟨(hRo p hp).1, (hRo p hp).2.1, (hRo p hp).2.2, off p (List.mem_cons_of_mem _ (List.mem_cons_of_mem _ (mem_cells hp))) pe (List.mem_cons_self ..)⟩, fun _ h => h, rfl, husQ, husK.mono hs22, hr3K, by rw [List.append_assoc]; exact htt⟩
                          · clear husQ htt hns N3 F3
                            intro v2 r2 m₂ n₂ h₂ tk₂ its2 E'' hR85 hR86 off2 F4 N4
                            refine gp fun kG159 => ?_
                            obtain ⟨oL', us, k, ds, rs, rest2, rfl, hns, hRo2, hs23, hmw, husQ, hr2, hrs, htt⟩ := hR85
                            obtain ⟨pf, rfl⟩ := hR86
                            cases rs with
                            | nil => cases hr2
                            | cons d rs =>
                            obtain ⟨ra, rn, rc, rfl⟩ := hrs d (List.mem_cons_self ..)
                            cases hr2 with
                            | cons hv hr2 =>
                            cases hv with
                            | tuple hvm hvs =>
                            rename_i aR vsR nR
                            cases hvs with
                            | cons hv0 hvs =>
                            cases hv0
                            rename_i ta
                            cases hvs with
                            | cons hv1 hvs =>
                            cases hv1
                            rename_i tb
                            cases hvs with
                            | cons hv2 hvs =>
                            cases hv2
                            rename_i tc'
                            cases hvs
                            refine kG159.go ?_
                            simp only [List.cons_append, List.nil_append] at N4
                            k_steps
                            refine Hold.mk ?_
                            refine CompBody.one ?_
                            k_steps
                            refine Hold.mk ?_
                            refine item_small (i := 0) (News.isTup (by k_asm) (by repeat (first | exact mem_cells hvm | refine List.mem_cons_of_mem _ ?_))) (by decide) (by decide) rfl ?_
                            k_steps
                            · rename (ra == x) = true => hcmp
                              refine inner_next (by rfl) ?_
                              k_steps
                              refine Hold.mk ?_
                              rename Fr _ _ _ _ => F5o
                              rename News _ _ _ _ => N5
                              refine gp fun kG160 => ?_
                              obtain ⟨m8, hm8w, hm8r, F5⟩ : (∃ (m8 : PySem.Str → Option Value), An3 (m8 (PySem.Str.ofString "word") = some (.str x tx)) (m8 (PySem.Str.ofString "row") = some (.ref aR)) (Fr hb Cn _ m8)) := ⟨_, by (try dsimp only); rw [if_neg (by decide)]; exact hmw, if_pos rfl, F5o⟩
                              refine kG160.go ?_
                              clear F5o
                              have hs4 : ∀ p ∈ rest21, p ∈ rest2 := fun p hp => hs23 p (hs22 p hp)
                              have MM : ∀ p ∈ rest21, p ∈ pf :: pe :: (L, oL') :: (D, listOf (List.toArray us) k) :: cellsL L oW oC oN oB oR oD oK c1 (tabObj ps) rest2 := fun p hp => List.mem_cons_of_mem _ (List.mem_cons_of_mem _ (List.mem_cons_of_mem _ (List.mem_cons_of_mem _ (mem_cells (hs4 p hp)))))
                              have hpfR : ∀ p ∈ rest2, p.1 ≠ pf.1 := fun p hp => off2 p (List.mem_cons_of_mem _ (List.mem_cons_of_mem _ (List.mem_cons_of_mem _ (mem_cells hp)))) pf (List.mem_cons_self ..)
                              have hpeL : pe.1 ≠ L := fun e => off _ (List.mem_cons_self ..) pe (List.mem_cons_self ..) e.symm
                              have hpfL : pf.1 ≠ L := fun e => off2 _ (List.mem_cons_of_mem _ (List.mem_cons_self ..)) pf (List.mem_cons_self ..) e.symm
                              have hcellL : ∀ p ∈ cellsL L oW oC oN oB oR oD oK c1 (tabObj ps) rest2, p.1 ≠ L := cells_off (D := L) (by dsimp only [OffC]; omega) fun p hp => (hRo2 p hp).2.2.1
                              refine wpAny_mono (Q := fun v s' => (Ex7 fun lB usB cB rest3 oL3 h' tk' => An9 (v = Value.ref lB) (s' = { heap := h', gens := s₁.gens, drawn := s₁.drawn, toks := tk', os := s₁.os }) (Fr hb Cn h' m8) (News hb Cn h' (pf :: pe :: (L, oL3) :: (D, listOf (List.toArray us) k) :: cellsL L oW oC oN oB oR oD oK c1 (tabObj ps) rest3)) (LCg.NsObj oL3 m6) ((∀ p ∈ rest3, OffC L p.1 ∧ p.1 ≠ D ∧ p.1 ≠ L ∧ p.1 ≠ pe.1 ∧ p.1 ≠ pf.1)) ((∀ p ∈ rest2, p ∈ rest3)) ((lB, listOf (List.toArray usB) cB) ∈ rest3) (DatAll rest3 usB ((under bd x).map Dat.str)))) ?_ ?_ (fun _ _ e => e)
                              · refine sub_book (X.keeps F5.keep) (inst_book N5 (MM _ hbm) (MM _ hdbm)) hE.exact hbsys ?_ ?_
                                · intro v hv
                                  refine gp fun kG161 => ?_
                                  obtain ⟨l, ul, c, vl, rfl, q1, q2, q3, q4, q5⟩ := hE.hit hv
                                  refine kG161.go ?_
                                  refine ⟨l, ul, c, rest2, oL', _, _, rfl, rfl, F5, N5, hns, fun p hp => ⟨(hRo2 p hp).1, (hRo2 p hp).2.1, (hRo2 p hp).2.2.1, (hRo2 p hp).2.2.2, hpfR p hp⟩, fun _ h => h, hs4 _ q1, ?_⟩
                                  rw [show under bd x = vl from by unfold under; rw [q4]; rfl]
                                  exact q2.mono hs4
                                · intro hv
                                  refine gp fun kG162 => ?_
                                  obtain ⟨oC1, hnC, FL, NL⟩ := frame_in (news' := pf :: pe :: (D, listOf (List.toArray us) k) :: cellsL L oW oC oN oB oR oD oK c1 (tabObj ps) rest2) F5 N5 (List.mem_cons_of_mem _ (List.mem_cons_of_mem _ (List.mem_cons_self ..))) hns hLa (fun p hp => by
                                    rcases List.mem_cons.mp hp with h | hp
                                    · rw [h]; exact ⟨List.mem_cons_self .., hpfL⟩
                                    rcases List.mem_cons.mp hp with h | hp
                                    · rw [h]; exact ⟨List.mem_cons_of_mem _ (List.mem_cons_self ..), hpeL⟩
                                    rcases List.mem_cons.mp hp with h | hp
                                    · rw [h]; exact ⟨List.mem_cons_of_mem _ (List.mem_cons_of_mem _ (List.mem_cons_of_mem _ (List.mem_cons_self ..))), hDL⟩
                                    · exact ⟨List.mem_cons_of_mem _ (List.mem_cons_of_mem _ (List.mem_cons_of_mem _ (List.mem_cons_of_mem _ hp))), hcellL p hp⟩)
                                  refine kG162.go ?_
                                  have ML : ∀ p ∈ rest21, p ∈ (Cn, oC1) :: pf :: pe :: (D, listOf (List.toArray us) k) :: cellsL L oW oC oN oB oR oD oK c1 (tabObj ps) rest2 := fun p hp => List.mem_cons_of_mem _ (List.mem_cons_of_mem _ (List.mem_cons_of_mem _ (List.mem_cons_of_mem _ (mem_cells (hs4 p hp)))))
                                  refine wpAny_call ?_
                                  k_dflt (refine' CtrN.code (missing_frozen (x := x) (t := tx) (ML _ hbm) (ML _ hdbm) (fun p hp => ML p (hobj p hp)) hlam (ML _ hlo) hfd) ?B_22 FL ?X_22 NL ?T_22 ?K_22 ?d_22 ?u_22 ?_; (case B_22 => k_asm); (case X_22 => k_asm); (case T_22 => k_asm); (case K_22 => exact rfl); (case d_22 => ktr_room); (case u_22 => ktr_units))
                                  intro v' nw h9 tk9 F9 N9 hv'
                                  refine gp fun kG163 => ?_
                                  obtain ⟨Dm, rfl, rfl, hne⟩ := hv'
                                  obtain ⟨oL3, hns3, F10, N10⟩ := frame_out (news' := pf :: pe :: (D, listOf (List.toArray us) k) :: cellsL L oW oC oN oB oR oD oK c1 (tabObj ps) ((Dm, listOf #[] 0) :: rest2)) F9 N9 (List.mem_cons_of_mem _ (List.mem_cons_self ..)) hnC F5.above (fun p hp => by
                                    rcases List.mem_cons.mp hp with h | hp
                                    · rw [h]; exact ⟨List.mem_cons_of_mem _ (List.mem_cons_of_mem _ (List.mem_cons_self ..)), (N5 _ (List.mem_cons_self ..)).2.1⟩
                                    rcases List.mem_cons.mp hp with h | hp
                                    · rw [h]; exact ⟨List.mem_cons_of_mem _ (List.mem_cons_of_mem _ (List.mem_cons_of_mem _ (List.mem_cons_self ..))), (N5 _ (List.mem_cons_of_mem _ (List.mem_cons_self ..))).2.1⟩
                                    rcases List.mem_cons.mp hp with h | hp
                                    · rw [h]; exact ⟨List.mem_cons_of_mem _ (List.mem_cons_of_mem _ (List.mem_cons_of_mem _ (List.mem_cons_of_mem _ (List.mem_cons_self ..)))), (N5 _ (List.mem_cons_of_mem _ (List.mem_cons_of_mem _ (List.mem_cons_of_mem _ (List.mem_cons_self ..))))).2.1⟩
                                    rcases cells_cons hp with h | hp
                                    · rw [h]; exact ⟨List.mem_cons_self .., fun e => hne _ (List.mem_cons_self ..) e.symm⟩
                                    · exact ⟨List.mem_cons_of_mem _ (List.mem_cons_of_mem _ (List.mem_cons_of_mem _ (List.mem_cons_of_mem _ (List.mem_cons_of_mem _ hp)))), (N5 _ (List.mem_cons_of_mem _ (List.mem_cons_of_mem _ (List.mem_cons_of_mem _ (List.mem_cons_of_mem _ hp))))).2.1⟩)
                                  refine kG163.go ?_
                                  refine ⟨Dm, [], 0, (Dm, listOf #[] 0) :: rest2, oL3, h9, tk9, rfl, rfl, F10, ?_, hns3, ?_, fun p hp => List.mem_cons_of_mem _ hp, List.mem_cons_self .., ?_⟩
                                  · intro p hp
                                    refine N10 p ?_
                                    rcases List.mem_cons.mp hp with h | hp
                                    · rw [h]; exact List.mem_cons_of_mem _ (List.mem_cons_self ..)
                                    rcases List.mem_cons.mp hp with h | hp
                                    · rw [h]; exact List.mem_cons_of_mem _ (List.mem_cons_of_mem _ (List.mem_cons_self ..))
                                    rcases List.mem_cons.mp hp with h | hp
                                    · rw [h]; exact List.mem_cons_self ..
                                    · exact List.mem_cons_of_mem _ (List.mem_cons_of_mem _ (List.mem_cons_of_mem _ hp))
                                  · intro p hp
                                    rcases List.mem_cons.mp hp with h | hp
                                    · rw [h]
                                      have hDmL : @Ne Nat Dm L := (N9 _ (List.mem_cons_self ..)).2.1
                                      exact ⟨offC_of hDmL fun p hp => hne p (List.mem_cons_of_mem _ (List.mem_cons_of_mem _ (List.mem_cons_of_mem _ (List.mem_cons_of_mem _ hp)))), fun e => hne (D, listOf (List.toArray us) k) (List.mem_cons_of_mem _ (List.mem_cons_of_mem _ (List.mem_cons_of_mem _ (List.mem_cons_self ..)))) e.symm, hDmL, fun e => hne pe (List.mem_cons_of_mem _ (List.mem_cons_of_mem _ (List.mem_cons_self ..))) e.symm, fun e => hne pf (List.mem_cons_of_mem _ (List.mem_cons_self ..)) e.symm⟩
                                    · exact ⟨(hRo2 p hp).1, (hRo2 p hp).2.1, (hRo2 p hp).2.2.1, (hRo2 p hp).2.2.2, hpfR p hp⟩
                                  · rw [show under bd x = [] from by unfold under; rw [(hE.miss hv).1]; rfl]
                                    exact .nil
                              · intro v s' hR87
                                refine gp fun kG164 => ?_
                                obtain ⟨lB, usB, cB, rest3, oL3, h9, tk9, rfl, rfl, F6, N6, hns3, hRo3, hs34, hlB, huB⟩ := hR87
                                refine kG164.go ?_
                                refine in_list (l := lB) (c := cB) (vs := usB) (by rfl) (by intro g e; cases e) (fun r3 m n => (Ex6 fun oL' us k ds os rest4 => An9 (n = pf :: pe :: (L, oL') :: (D, listOf (List.toArray us) k) :: cellsL L oW oC oN oB oR oD oK c1 (tabObj ps) rest4) (LCg.NsObj oL' m6) ((∀ p ∈ rest4, OffC L p.1 ∧ p.1 ≠ D ∧ p.1 ≠ L ∧ p.1 ≠ pe.1 ∧ p.1 ≠ pf.1)) ((∀ p ∈ rest3, p ∈ rest4)) (m (PySem.Str.ofString "word") = some (.str x tx)) (m (PySem.Str.ofString "row") = some (.ref aR)) (DatAll rest4 us ds) (DatAll rest4 r3 (List.map Dat.str os)) (ds ++ os.map (extD (.tuple [.str ra, .int rn, .str rc])) ++ foundIn bd x (pickS rs x) ++ xs.flatMap (foundFor bd dsK) = total))) (by rfl) F6 N6 ?_ ?_ ?_ ?_
                                · intro r m n hR88
                                  refine gp fun kG165 => ?_
                                  obtain ⟨oL', us, k, ds, xs, rest4, rfl, -, -, hs, -⟩ := hR88
                                  refine kG165.go ?_
                                  exact List.mem_cons_of_mem _ (List.mem_cons_of_mem _ (List.mem_cons_of_mem _ (List.mem_cons_of_mem _ (mem_cells (hs _ hlB)))))
                                · refine ⟨oL3, us, k, ds, under bd x, rest3, rfl, hns3, hRo3, fun _ h => h, hm8w, hm8r, husQ.mono hs34, huB, ?_⟩
                                  rw [pickS_hit hcmp, foundIn_cons, ← List.append_assoc] at htt
                                  exact htt
                                · intro v3 r3 m₃ n₃ h₃ tk₃ its3 E3 hR89 hR90 off3 F7 N7
                                  refine gp fun kG166 => ?_
                                  obtain ⟨oL4, us4, k4, ds4, os, rest4, rfl, hns4, hRo4, hs45, hm4w, hm4r, hus4, hr4, htt4⟩ := hR89
                                  obtain ⟨pg, rfl⟩ := hR90
                                  cases os with
                                  | nil => cases hr4
                                  | cons o os =>
                                  cases hr4 with
                                  | cons hv hr4 =>
                                  cases hv
                                  refine kG166.go ?_
                                  rename_i to
                                  simp only [List.cons_append, List.nil_append] at N7
                                  k_steps
                                  refine Hold.mk ?_
                                  refine CompBody.all (inner_emit (by rfl) ?_)
                                  k_steps
                                  refine Hold.mk ?_
                                  rename Fr _ _ _ _ => F8
                                  rename News _ _ _ _ => N8
                                  rename_i Tt hTt lT
                                  have hvm4 := hs45 _ (hs34 _ hvm)
                                  refine kde_addT (its := #[Value.str ra ta, .int rn tb, .str rc tc']) (its2 := #[Value.str o to]) (zs := [Value.str ra ta, .int rn tb, .str rc tc', .str o to]) F8 N8 (News.isTup N8 (by repeat (first | exact mem_cells hvm4 | refine List.mem_cons_of_mem _ ?_))) (News.isTup N8 (List.mem_cons_self ..)) (by simp) (by simp) (by simp) (by simp) ?_
                                  intro Dn2 h10 F9 N9 l9
                                  k_steps
                                  refine Hold.mk ?_
                                  rename Fr _ _ _ _ => F11
                                  rename News _ _ _ _ => N11
                                  have hDnD : @Ne Nat Dn2 D := Nat.ne_of_gt (l9 (D, listOf (List.toArray us4) k4) (List.mem_cons_of_mem _ (List.mem_cons_of_mem _ (List.mem_cons_of_mem _ (List.mem_cons_of_mem _ (List.mem_cons_of_mem _ (List.mem_cons_self ..)))))))
                                  have hDnL : @Ne Nat Dn2 L := Nat.ne_of_gt (l9 (L, oL4) (List.mem_cons_of_mem _ (List.mem_cons_of_mem _ (List.mem_cons_of_mem _ (List.mem_cons_of_mem _ (List.mem_cons_self ..))))))
                                  have hDnpe : @Ne Nat Dn2 pe.1 := Nat.ne_of_gt (l9 pe (List.mem_cons_of_mem _ (List.mem_cons_of_mem _ (List.mem_cons_of_mem _ (List.mem_cons_self ..)))))
                                  have hDnpf : @Ne Nat Dn2 pf.1 := Nat.ne_of_gt (l9 pf (List.mem_cons_of_mem _ (List.mem_cons_of_mem _ (List.mem_cons_self ..))))
                                  have hDnpg : @Ne Nat Dn2 pg.1 := Nat.ne_of_gt (l9 pg (List.mem_cons_of_mem _ (List.mem_cons_self ..)))
                                  have hDnO : OffC L Dn2 := offC_of hDnL fun p hp => Nat.ne_of_lt (l9 p (List.mem_cons_of_mem _ (List.mem_cons_of_mem _ (List.mem_cons_of_mem _ (List.mem_cons_of_mem _ (List.mem_cons_of_mem _ (List.mem_cons_of_mem _ hp)))))))
                                  have hpgD : pg.1 ≠ D := fun e => off3 (D, listOf (List.toArray us4) k4) (List.mem_cons_of_mem _ (List.mem_cons_of_mem _ (List.mem_cons_of_mem _ (List.mem_cons_self ..)))) pg (List.mem_cons_self ..) e.symm
                                  have hpeD : pe.1 ≠ D := fun e => off _ (List.mem_cons_of_mem _ (List.mem_cons_self ..)) pe (List.mem_cons_self ..) e.symm
                                  have hpfD : pf.1 ≠ D := fun e => off2 (D, listOf (List.toArray us) k) (List.mem_cons_of_mem _ (List.mem_cons_of_mem _ (List.mem_cons_self ..))) pf (List.mem_cons_self ..) e.symm
                                  have hcellD : ∀ p ∈ cellsL L oW oC oN oB oR oD oK c1 (tabObj ps) rest4, p.1 ≠ D := cells_off hDo fun p hp => (hRo4 p hp).2.1
                                  have hul4 : us4.length ≤ 24500 := by
                                    have q := congrArg List.length htt4
                                    simp only [List.length_append] at q
                                    rw [← hus4.length] at q
                                    omega
                                  have N12 : News hb Cn _ ((D, listOf us4.toArray k4) :: (Dn2, tupO [Value.str ra ta, .int rn tb, .str rc tc', .str o to]) :: pg :: pf :: pe :: (L, oL4) :: cellsL L oW oC oN oB oR oD oK c1 (tabObj ps) rest4) := fun p hp => N11 p (by
                                    rcases List.mem_cons.mp hp with h | hp
                                    · rw [h]; exact List.mem_cons_of_mem _ (List.mem_cons_of_mem _ (List.mem_cons_of_mem _ (List.mem_cons_of_mem _ (List.mem_cons_of_mem _ (List.mem_cons_of_mem _ (List.mem_cons_self ..))))))
                                    rcases List.mem_cons.mp hp with h | hp
                                    · rw [h]; exact List.mem_cons_self ..
                                    rcases List.mem_cons.mp hp with h | hp
                                    · rw [h]; exact List.mem_cons_of_mem _ (List.mem_cons_of_mem _ (List.mem_cons_self ..))
                                    rcases List.mem_cons.mp hp with h | hp
                                    · rw [h]; exact List.mem_cons_of_mem _ (List.mem_cons_of_mem _ (List.mem_cons_of_mem _ (List.mem_cons_self ..)))
                                    rcases List.mem_cons.mp hp with h | hp
                                    · rw [h]; exact List.mem_cons_of_mem _ (List.mem_cons_of_mem _ (List.mem_cons_of_mem _ (List.mem_cons_of_mem _ (List.mem_cons_self ..))))
                                    rcases List.mem_cons.mp hp with h | hp
                                    · rw [h]; exact List.mem_cons_of_mem _ (List.mem_cons_of_mem _ (List.mem_cons_of_mem _ (List.mem_cons_of_mem _ (List.mem_cons_of_mem _ (List.mem_cons_self ..)))))
                                    · exact List.mem_cons_of_mem _ (List.mem_cons_of_mem _ (List.mem_cons_of_mem _ (List.mem_cons_of_mem _ (List.mem_cons_of_mem _ (List.mem_cons_of_mem _ (List.mem_cons_of_mem _ hp)))))))
                                  refine append_K (D := D) (its := us4.toArray) (n := k4) F11 N12 (Upd.head (fun p hp => ?_)) ?_ (by rw [List.size_toArray, sizeLine_eq]; omega)
                                  · rcases List.mem_cons.mp hp with h | hp
                                    · rw [h]; exact hDnD
                                    rcases List.mem_cons.mp hp with h | hp
                                    · rw [h]; exact hpgD
                                    rcases List.mem_cons.mp hp with h | hp
                                    · rw [h]; exact hpfD
                                    rcases List.mem_cons.mp hp with h | hp
                                    · rw [h]; exact hpeD
                                    rcases List.mem_cons.mp hp with h | hp
                                    · rw [h]; exact hDL.symm
                                    · exact hcellD p hp
                                  intro h12 F12 N13
                                  rw [List.push_toArray] at N13
                                  refine CEnd.mk' (its := [pg]) (n' := pf :: pe :: (L, oL4) :: (D, listOf (us4 ++ [Value.ref Dn2]).toArray (k4 + 1)) :: cellsL L oW oC oN oB oR oD oK c1 (tabObj ps) ((Dn2, tupO [Value.str ra ta, .int rn tb, .str rc tc', .str o to]) :: rest4)) F12 ?_ ?_ ⟨oL4, us4 ++ [Value.ref Dn2], k4 + 1, ds4 ++ [.tuple [.str ra, .int rn, .str rc, .str o]], os, (Dn2, tupO [Value.str ra ta, .int rn tb, .str rc tc', .str o to]) :: rest4, rfl, hns4, ?_, fun p hp => List.mem_cons_of_mem _ (hs45 p hp), by dsimp only; rw [if_neg (by decide)]; exact hm4w, by dsimp only; rw [if_neg (by decide)]; exact hm4r, (hus4.mono fun p hp => List.mem_cons_of_mem _ hp).append (.one (.tuple (n := 0) (List.mem_cons_self ..) (.cons (.str _ _) (.cons (.int _ _) (.cons (.str _ _) (.cons (.str _ _) .nil)))))), hr4.mono fun p hp => List.mem_cons_of_mem _ hp, ?_⟩
                                  · intro p hp
                                    refine N13 p ?_
                                    rcases List.mem_cons.mp hp with h | hp
                                    · rw [h]; exact List.mem_cons_of_mem _ (List.mem_cons_of_mem _ (List.mem_cons_self ..))
                                    rcases List.mem_cons.mp hp with h | hp
                                    · rw [h]; exact List.mem_cons_of_mem _ (List.mem_cons_of_mem _ (List.mem_cons_of_mem _ (List.mem_cons_self ..)))
                                    rcases List.mem_cons.mp hp with h | hp
                                    · rw [h]; exact List.mem_cons_of_mem _ (List.mem_cons_of_mem _ (List.mem_cons_of_mem _ (List.mem_cons_of_mem _ (List.mem_cons_self ..))))
                                    rcases List.mem_cons.mp hp with h | hp
                                    · rw [h]; exact List.mem_cons_of_mem _ (List.mem_cons_of_mem _ (List.mem_cons_of_mem _ (List.mem_cons_of_mem _ (List.mem_cons_of_mem _ (List.mem_cons_self ..)))))
                                    rcases List.mem_cons.mp hp with h | hp
                                    · rw [h]; exact List.mem_cons_self ..
                                    rcases cells_cons hp with h | hp
                                    · rw [h]; exact List.mem_cons_of_mem _ (List.mem_cons_self ..)
                                    · exact List.mem_cons_of_mem _ (List.mem_cons_of_mem _ (List.mem_cons_of_mem _ (List.mem_cons_of_mem _ (List.mem_cons_of_mem _ (List.mem_cons_of_mem _ hp)))))
                                  · intro p hp q hq
                                    rcases List.mem_cons.mp hp with h | hp
                                    · rw [h]; exact off3 _ (List.mem_cons_self ..) q hq
                                    rcases List.mem_cons.mp hp with h | hp
                                    · rw [h]; exact off3 _ (List.mem_cons_of_mem _ (List.mem_cons_self ..)) q hq
                                    rcases List.mem_cons.mp hp with h | hp
                                    · rw [h]; exact off3 _ (List.mem_cons_of_mem _ (List.mem_cons_of_mem _ (List.mem_cons_self ..))) q hq
                                    rcases List.mem_cons.mp hp with h | hp
                                    · rw [h]; exact off3 (D, listOf (List.toArray us4) k4) (List.mem_cons_of_mem _ (List.mem_cons_of_mem _ (List.mem_cons_of_mem _ (List.mem_cons_self ..)))) q hq
                                    rcases cells_cons hp with h | hp
                                    · rw [h, List.mem_singleton.mp hq]; exact hDnpg
                                    · exact off3 _ (List.mem_cons_of_mem _ (List.mem_cons_of_mem _ (List.mem_cons_of_mem _ (List.mem_cons_of_mem _ hp)))) q hq
                                  · intro p hp
                                    rcases List.mem_cons.mp hp with h | hp
                                    · rw [h]; exact ⟨hDnO, hDnD, hDnL, hDnpe, hDnpf⟩
                                    · exact hRo4 p hp
                                  · rw [← htt4]
                                    simp [extD]
                                · intro m₃ n₃ h₃ tk₃ hR91 F7 N7
                                  refine gp fun kG167 => ?_
                                  obtain ⟨oL4, us4, k4, ds4, os, rest4, rfl, hns4, hRo4, hs45, hm4w, hm4r, hus4, hr4, htt4⟩ := hR91
                                  cases os with
                                  | cons o os => cases hr4
                                  | nil =>
                                  refine kG167.go ?_
                                  have hpfO : OffC L pf.1 := offC_of hpfL fun p hp => off2 p (List.mem_cons_of_mem _ (List.mem_cons_of_mem _ (List.mem_cons_of_mem _ hp))) pf (List.mem_cons_self ..)
                                  refine CEnd.mk' (its := [pf]) F7 N7 ?_ ⟨oL4, us4, k4, ds4, rs, rest4, rfl, hns4, fun p hp => ⟨(hRo4 p hp).1, (hRo4 p hp).2.1, (hRo4 p hp).2.2.1, (hRo4 p hp).2.2.2.1⟩, fun p hp => hs45 p (hs34 p (hs23 p hp)), hm4w, hus4, hr2.mono fun p hp => hs45 p (hs34 p hp), fun d hd => hrs d (List.mem_cons_of_mem _ hd), by rw [List.map_nil, List.append_nil] at htt4; exact htt4⟩
                                  intro p hp q hq
                                  rw [List.mem_singleton.mp hq]
                                  rcases List.mem_cons.mp hp with h | hp
                                  · rw [h]; exact off2 _ (List.mem_cons_self ..) pf (List.mem_cons_self ..)
                                  rcases List.mem_cons.mp hp with h | hp
                                  · rw [h]; exact hpfL.symm
                                  rcases List.mem_cons.mp hp with h | hp
                                  · rw [h]; exact off2 (D, listOf (List.toArray us) k) (List.mem_cons_of_mem _ (List.mem_cons_of_mem _ (List.mem_cons_self ..))) pf (List.mem_cons_self ..)
                                  · exact cells_off (D := pf.1) hpfO (fun p hp => (hRo4 p hp).2.2.2.2) p hp
                            · rename (ra == x) = false => hcmp
                              rename Fr _ _ _ _ => F5
                              rename News _ _ _ _ => N5
                              rw [pickS_miss hcmp] at htt
                              exact CEnd.mk' (its := [pf]) F5 N5 off2 ⟨oL', us, k, ds, rs, rest2, rfl, hns, hRo2, hs23, by dsimp only; rw [if_neg (by decide)]; exact hmw, husQ, hr2, fun d hd => hrs d (List.mem_cons_of_mem _ hd), htt⟩
                          · intro m₂ n₂ h₂ tk₂ hR92 F7 N7
                            refine gp fun kG168 => ?_
                            obtain ⟨oL4, us4, k4, ds4, rs, rest4, rfl, hns4, hRo4, hs45, hm4w, hus4, hr4, hrs4, htt4⟩ := hR92
                            cases rs with
                            | cons o os => cases hr4
                            | nil =>
                            refine kG168.go ?_
                            have hpeL : pe.1 ≠ L := fun e => off _ (List.mem_cons_self ..) pe (List.mem_cons_self ..) e.symm
                            have hpeO : OffC L pe.1 := offC_of hpeL fun p hp => off p (List.mem_cons_of_mem _ (List.mem_cons_of_mem _ hp)) pe (List.mem_cons_self ..)
                            refine CEnd.mk' (its := [pe]) F7 N7 ?_ ⟨oL4, us4, k4, ds4, xs, rest4, rfl, hns4, ⟨hDL, hCL⟩, hDo, fun p hp => ⟨(hRo4 p hp).1, (hRo4 p hp).2.1, (hRo4 p hp).2.2.1⟩, fun p hp => hs45 p (hs22 p hp), hus4, hr.mono hs45, by rw [show foundIn bd x (pickS [] x) = [] from rfl, List.append_nil] at htt4; exact htt4⟩
                            intro p hp q hq
                            rw [List.mem_singleton.mp hq]
                            rcases List.mem_cons.mp hp with h | hp
                            · rw [h]; exact hpeL.symm
                            rcases List.mem_cons.mp hp with h | hp
                            · rw [h]; exact off (D, listOf (List.toArray _) _) (List.mem_cons_of_mem _ (List.mem_cons_self ..)) pe (List.mem_cons_self ..)
                            · exact cells_off (D := pe.1) hpeO (fun p hp => (hRo4 p hp).2.2.2) p hp
                        · intro Cn DF oL m₂ n₂ hR93
                          refine gp fun kG169 => ?_
                          obtain ⟨oL4, usF, kF, dsF, xs, rest22, rfl, hns4, ⟨hDL, hCL⟩, hDo, hRo4, hs45, husF, hr4, htt4⟩ := hR93
                          cases xs with
                          | cons d rs => cases hr4
                          | nil =>
                          refine kG169.go ?_
                          rw [show List.flatMap (foundFor bd dsK) [] = [] from rfl, List.append_nil] at htt4
                          refine ⟨_, oL4, hns4, rfl, ?_, ?_⟩
                          · intro p hp
                            rcases List.mem_cons.mp hp with h | hp
                            · rw [h]; exact hDL
                            · exact cells_off (D := L) (by dsimp only [OffC]; omega) (fun p hp => (hRo4 p hp).2.2) p hp
                          · intro h5 tk5 F5 N5
                            subst htt4
                            refine gp fun kG170 => ?_
                            obtain ⟨rest23, N6, hlt23, hs23, hDF⟩ : (∃ rest23, An4 (News hb L h5 (cellsL L oW oC oN oB oR oD oK c1 (tabObj ps) rest23)) ((∀ p ∈ rest23, OffC L p.1)) ((∀ p ∈ rest22, p ∈ rest23)) ((DF, listOf usF.toArray kF) ∈ rest23)) := by
                              refine ⟨[_] ++ rest22, news_in (xs := [_]) N5, ?_, fun p hp => List.mem_append_right _ hp, List.mem_cons_self ..⟩
                              intro p hp
                              rcases List.mem_cons.mp hp with h | hp
                              · rw [h]; exact hDo
                              · exact (hRo4 p hp).1
                            have hs1 := fun p hp => hs23 p (hs45 p (hs21 p hp))
                            replace husF := husF.mono hs23
                            replace hLR := hs1 _ hLR
                            replace husR := husR.mono hs1
                            replace hD3 := hs1 _ hD3
                            replace hu3 := hu3.mono hs1
                            replace hbk := hbk.mono hs1
                            obtain ⟨m8, hz3, hz4, hz5, F6⟩ : (∃ (m8 : PySem.Str → Option Value), An4 (m8 (PySem.Str.ofString "joined") = some (.ref D3)) (m8 (PySem.Str.ofString "right") = some (.ref LR)) (m8 (PySem.Str.ofString "found") = some (.ref DF)) (Fr hb L h5 m8)) := ⟨_, by (try dsimp only); rw [if_neg (by decide)]; exact hq3, by (try dsimp only); rw [if_neg (by decide)]; exact hq4, if_pos rfl, F5⟩
                            refine kG170.go ?_
                            refine any_toks ?_
                            intro tk6
                            show wpAny _ _ _ _ _ { heap := h5, gens := s₁.gens, drawn := s₁.drawn, toks := tk6, os := s₁.os }
                            clear N5 F5 hq1 hq3 hq4 F47 N48 hTW hDw' hDK husK hbk' hbm hdbm hE hobj hlam hlo hfd hul hr3K htlF hDo hRo4 hDL hCL hr4 hs1 hs45 hs23 hs21 hlt20 hlt21 K21 hDR hus hDn hns4 hr3 hrl htlT
                            clear stg6
                            skip
                            have stg7 : Stage 7 := .mk _
                            k_steps
                            refine Hold.mk ?_
                            rename Fr _ _ _ _ => F45
                            refine wpAny_Assign_Name ?_ (by rfl)
                            refine eval_comp (h₀ := hb) (L := L) F45.above (by with_unfolding_all rfl) (by decide) (by rfl) (by decide) ?_
                            k_steps
                            refine Hold.mk ?_
                            rename Fr _ _ _ _ => F46
                            rename News _ _ _ _ => N46
                            refine go_list (l := LR) (c := kR) (vs := usR) (by rfl) F46 N46 (mem_cells hLR) (by intro g e; cases e) (fun Cn D oL r m n => (Ex4 fun us k ds rs => An8 (n = (L, oL) :: (D, listOf (List.toArray us) k) :: cellsL L oW oC oN oB oR oD oK c1 (tabObj ps) rest23) (D ≠ L) (OffC L D) ((∀ p ∈ rest23, p.1 ≠ D ∧ p.1 ≠ L)) (DatAll rest23 us ds) (DatAll rest23 r rs) ((∀ d ∈ rs, ∃ j x, d = rightRow j x)) (ds ++ rs.map (fun d => Dat.str (keyS d)) = esR.map (fun d => Dat.str (keyS d))))) ?_ ?_ ?_ ?_
                            · intro Cn D oL r m n hR94
                              refine gp fun kG171 => ?_
                              obtain ⟨us, k, ds, xs, rfl, -⟩ := hR94
                              refine kG171.go ?_
                              exact List.mem_cons_of_mem _ (List.mem_cons_of_mem _ (mem_cells hLR))
                            · intro Cn D oL hns hDC hCL hDL hoff
                              exact ⟨[], 0, [], esR, rfl, hDL, offC_of hDL fun p hp => (hoff p hp).2.1, fun p hp => ⟨(hoff p (mem_cells hp)).2.1, (hoff p (mem_cells hp)).1⟩, .nil, husR, fun d hd => by rw [hesR] at hd; exact rowsFrom_mem hd, rfl⟩
                            · intro Cn D oL v r m₁ n₁ h₁ tk₁ its E' hR95 hR96 off F2 N2
                              refine gp fun kG172 => ?_
                              obtain ⟨us, k, ds, rs, rfl, hDL, hDo, hRo, husQ, hr, hrs, htt⟩ := hR95
                              obtain ⟨pe, rfl⟩ := hR96
                              cases rs with
                              | nil => cases hr
                              | cons d rs =>
                              obtain ⟨j, x, rfl⟩ := hrs d (List.mem_cons_self ..)
                              cases hr with
                              | cons hv hr =>
                              cases hv with
                              | tuple hvm hvs =>
                              rename_i aR vsR nR
                              cases hvs with
                              | cons hv0 hvs =>
                              cases hv0
                              refine kG172.go ?_
                              rename_i ta
                              simp only [List.cons_append, List.nil_append] at N2
                              k_steps
                              refine Hold.mk ?_
                              refine CompBody.all (inner_emit (by rfl) ?_)
                              k_steps
                              refine Hold.mk ?_
                              refine item_small (i := 0) (News.isTup (by k_asm) (by repeat (first | exact mem_cells hvm | refine List.mem_cons_of_mem _ ?_))) (by decide) (by decide) rfl ?_
                              k_steps
                              refine Hold.mk ?_
                              rename Fr _ _ _ _ => F5
                              rename News _ _ _ _ => N5
                              have hcell : ∀ p ∈ cellsL L oW oC oN oB oR oD oK c1 (tabObj ps) rest23, p.1 ≠ D := cells_off hDo fun p hp => (hRo p hp).1
                              have hpe : pe.1 ≠ D := fun e => off _ (List.mem_cons_of_mem _ (List.mem_cons_self ..)) pe (List.mem_cons_self ..) e.symm
                              have hul : us.length ≤ 1000 := by
                                have q := congrArg List.length htt
                                rw [List.length_append, List.length_map, List.length_map, ← husQ.length] at q
                                omega
                              refine append_K (D := D) (its := us.toArray) (n := k) F5 N5 (Upd.tail hpe (Upd.tail hDL.symm (Upd.head hcell))) ?_ (by rw [List.size_toArray, sizeLine_eq]; omega)
                              intro h6 F6 N6
                              rw [List.push_toArray] at N6
                              refine CEnd.mk' (its := [pe]) F6 N6 ?_ ⟨us ++ [_], k + 1, ds ++ [.str (calledOf (ci x))], rs, rfl, hDL, hDo, hRo, husQ.append (.one (.str _ _)), hr, fun d hd => hrs d (List.mem_cons_of_mem _ hd), by rw [List.append_assoc]; exact htt⟩
                              intro p hp q hq
                              rcases List.mem_cons.mp hp with h | hp
                              · rw [h]; exact off _ (List.mem_cons_self ..) q hq
                              rcases List.mem_cons.mp hp with h | hp
                              · rw [h]; exact off (D, listOf (List.toArray _) _) (List.mem_cons_of_mem _ (List.mem_cons_self ..)) q hq
                              · exact off _ (List.mem_cons_of_mem _ (List.mem_cons_of_mem _ hp)) q hq
                            · intro Cn DN oL m₂ n₂ hR97
                              refine gp fun kG173 => ?_
                              obtain ⟨usN, kN, dsN, xs, rfl, hDL, hDo, hRo, husN, hr, hrs, htt⟩ := hR97
                              cases xs with
                              | cons d rs => cases hr
                              | nil =>
                              refine kG173.go ?_
                              rw [List.map_nil, List.append_nil] at htt
                              refine ⟨_, rfl, ?_, ?_⟩
                              · intro p hp
                                rcases List.mem_cons.mp hp with h | hp
                                · rw [h]; exact hDL
                                · exact cells_off (D := L) (by dsimp only [OffC]; omega) (fun p hp => (hRo p hp).2) p hp
                              · intro h5 tk5 F5 N5
                                subst htt
                                refine gp fun kG174 => ?_
                                obtain ⟨rest24, N6, hlt24, hs24, hDN⟩ : (∃ rest24, An4 (News hb L h5 (cellsL L oW oC oN oB oR oD oK c1 (tabObj ps) rest24)) ((∀ p ∈ rest24, OffC L p.1)) ((∀ p ∈ rest23, p ∈ rest24)) ((DN, listOf usN.toArray kN) ∈ rest24)) := by
                                  refine ⟨[_] ++ rest23, news_in (xs := [_]) N5, ?_, fun p hp => List.mem_append_right _ hp, List.mem_cons_self ..⟩
                                  intro p hp
                                  rcases List.mem_cons.mp hp with h | hp
                                  · rw [h]; exact hDo
                                  · exact hlt23 p hp
                                refine kG174.go ?_
                                replace husN := husN.mono hs24
                                replace hDF := hs24 _ hDF
                                replace husF := husF.mono fun p hp => hs24 p hp
                                replace hD3 := hs24 _ hD3
                                replace hu3 := hu3.mono hs24
                                replace hbk := hbk.mono hs24
                                clear N5 hs24 hlt23 hDo hRo hDL hr hrs hLR husR
                                refine' storeX_C F5 N6 ?xc_23 (updF8 l0 hlt24) e1 ?_ ?xa_23 ?xb_23
                                case xc_23 => rfl
                                case xa_23 => rfl
                                case xb_23 => rfl
                                intro h7 oQ F7 N7 dQ
                                try dsimp only at N7
                                clear F5 N6
                                k_steps
                                refine Hold.mk ?_
                                skip
                                rename Fr _ _ _ _ => F48
                                rename News _ _ _ _ => N48
                                have hkF : ∀ d ∈ dsF, kqdOk 8 d = true := by rw [← htotF, ← htotK, ← hrows, ← hbd]; exact found_kqd hxlL hxlR
                                have hEq : sideD [(0, fi)] (sortD [(0, fi), (1, se)] esL) (sortD [(0, fi)] esR) = dsF := by rw [hesL, hesR, ← htotF, ← htotK, ← hrows, ← hbd]; exact lawB hfi hse xaL xaR
                                rw [hEq] at hu3
                                refine kqd_eq N48 (mem_cells hD3) rfl rfl hu3 (fun p hp => mem_cells hp) (mem_cells hDF) rfl rfl husF (fun p hp => mem_cells hp) hkF hkF (by ke_room) ?_
                                rw [show ∀ (i : Decidable (dsF = dsF)), (@decide (dsF = dsF) i) = true from fun i => by simp]
                                k_steps
                                refine Hold.mk ?_
                                rename Fr _ _ _ _ => F50
                                rename News _ _ _ _ => N50
                                clear hkF hEq hD3 hu3 hDF husF htotF htotK hz3 hz4 hz5
                                skip
                                have hbk0 := hbk
                                refine gp fun kG175 => ?_
                                obtain ⟨db, es, ep, lam, nn, hsh, tkk, lo, fd, objs, hbm, hdbm, hE, hobj, hlam, hlo, hfd, hbsys⟩ := hbk0.at_
                                refine kG175.go ?_
                                have hesz : es.length ≤ 10 := by
                                  have q := bookD_length (rowsFrom rightRow 0 xaR)
                                  rw [hbd, rowsFrom_length] at q
                                  rw [hE.length]; omega
                                refine list_book (X.keeps F50.keep) F50 N50 (mem_cells hbm) (mem_cells hdbm) hbsys (by rw [List.size_toArray]; omega) rfl ?_
                                intro DB cB h60 tk60 usB F60 N60 l60 hlB hkB
                                have hkeys : DatAll rest24 usB (bd.map fun p => Dat.str p.1) := hE.keys (by simpa using hlB) (fun j v e => by simpa using hkB j v e)
                                clear F50 N50 hlB hkB
                                k_steps
                                refine Hold.mk ?_
                                rename Fr _ _ _ _ => F61
                                rename News _ _ _ _ => N61
                                obtain ⟨N62, hlt25⟩ := led_grow (xs := [_]) N61 (fun p hp q hq => by rw [List.mem_singleton.mp hq]; exact l60 p hp) hlt24
                                obtain ⟨rest25, hrest25⟩ : ∃ r, r = [(DB, listOf (List.toArray usB) cB)] ++ rest24 := ⟨_, rfl⟩
                                rw [← hrest25] at N62 hlt25
                                have hDB : (DB, listOf (List.toArray usB) cB) ∈ rest25 := hrest25 ▸ List.mem_cons_self ..
                                have hs25 : ∀ p ∈ rest24, p ∈ rest25 := fun p hp => hrest25 ▸ List.mem_append_right _ hp
                                replace hkeys := hkeys.mono hs25
                                replace husN := husN.mono hs25
                                replace hDN := hs25 _ hDN
                                clear N61 hrest25 hs25 l60 hlt24 hbm hdbm hE hobj hlam hlo hfd hbk hbk0
                                skip
                                have stg5 : Stage 5 := .mk _
                                refine eval_comp (h₀ := hb) (L := L) F61.above (by with_unfolding_all rfl) (by decide) (by rfl) (by decide) ?_
                                k_steps
                                refine Hold.mk ?_
                                rename Fr _ _ _ _ => F62
                                have hknm : ∀ d ∈ List.map (fun d => Dat.str (keyS d)) esR, kqdOk 8 d = true := by rw [hesR]; exact names_kqd
                                have hlN : usN.length ≤ 1000 := by rw [husN.length, List.length_map]; omega
                                have hstr : ∀ d ∈ List.map (fun d => Dat.str (keyS d)) esR, ∃ x, d = .str x := fun d hd => by
                                  obtain ⟨e, _, rfl⟩ := List.mem_map.mp hd
                                  exact ⟨_, rfl⟩
                                generalize hnm : List.map (fun d => Dat.str (keyS d)) esR = nmD at *
                                refine go_enum (vs := usN) (c := kN) (by rfl) F62 N62 (mem_cells hDN) (by intro g e; cases e) (fun Cn D oL i r m n => (Ex5 fun us k rest' ds rs => An8 (n = (L, oL) :: (D, listOf (List.toArray us) k) :: cellsL L oW oC oN oB oR oD oK oQ (tabObj ps) rest') ((∀ p ∈ rest25, p ∈ rest')) ((∀ p ∈ rest', OffC L p.1 ∧ p.1 ≠ D ∧ p.1 ≠ L)) ((OffC L D ∧ D ≠ L)) (DatAll rest' us ds) (DatAll rest' r rs) (nmD = nmD.take i ++ rs) (ds ++ firsts (nmD.take i) rs = firsts [] nmD))) ?_ ?_ ?_ ?_
                                · intro Cn D oL i r m n hR98
                                  refine gp fun kG176 => ?_
                                  obtain ⟨us, k, rest', ds, rs, rfl, hsub, _⟩ := hR98
                                  refine kG176.go ?_
                                  exact List.mem_cons_of_mem _ (List.mem_cons_of_mem _ (mem_cells (hsub _ hDN)))
                                · intro Cn D oL hns hDC hCL hDL hoff
                                  exact ⟨[], 0, rest25, [], nmD, rfl, fun _ h => h, fun p hp => ⟨hlt25 p hp, (hoff p (mem_cells hp)).2.1, (hoff p (mem_cells hp)).1⟩, ⟨offC_of hDL fun p hp => (hoff p hp).2.1, hDL⟩, .nil, husN, rfl, rfl⟩
                                · intro Cn D oL i v r m₁ n₁ h₁ tk₁ its T t E' hR99 hvi hR100 off hT F3 N3
                                  refine gp fun kG177 => ?_
                                  obtain ⟨us, k, rest', ds, rs, rfl, hsub, hrest, ⟨hD1, hD2⟩, hus, hr, hrs, htt⟩ := hR99
                                  obtain ⟨pe, pi, rfl⟩ := hR100
                                  refine kG177.go ?_
                                  simp only [List.cons_append, List.nil_append] at N3
                                  k_steps
                                  refine Hold.mk ?_
                                  refine CompBody.one ?_
                                  k_steps
                                  refine Hold.mk ?_
                                  rename Fr _ _ _ _ => F4
                                  rename News _ _ _ _ => N4
                                  have hi : i < usN.length := (List.getElem?_eq_some_iff.mp hvi).1
                                  refine' slice_list3 (items := usN.toArray) F4 N4 (News.isList N4 (by repeat (first | exact mem_cells (hsub _ hDN) | refine List.mem_cons_of_mem _ ?_))) .none (.int _ _) .none (by decide) ?hh_24 ?hs_24 ?hg_24 (by rw [List.size_toArray, sizeLine_eq]; omega)
                                  case hs_24 => with_unfolding_all rfl
                                  case hg_24 => intro _; with_unfolding_all rfl
                                  intro h5 F5 N5
                                  rw [pick_take usN i (Nat.le_of_lt hi)] at N5
                                  k_steps
                                  refine Hold.mk ?_
                                  rename Fr _ _ _ _ => F6
                                  rename News _ _ _ _ => N6
                                  refine gp fun kG178 => ?_
                                  cases rs with
                                  | nil => cases hr
                                  | cons d rs =>
                                  cases hr with
                                  | cons hv hr =>
                                  have hdm : d ∈ nmD := by rw [hrs]; exact List.mem_append_right _ (List.mem_cons_self ..)
                                  obtain ⟨x, rfl⟩ := hstr d hdm
                                  cases hv
                                  refine kG178.go ?_
                                  rename_i tx
                                  refine kqd_notIn N6 (List.mem_cons_self ..) rfl rfl (ds := nmD.take i) (n₁ := rest') (n₂ := rest') (datAll_take i (husN.mono hsub)) (fun p hp => List.mem_cons_of_mem _ (List.mem_cons_of_mem _ (List.mem_cons_of_mem _ (List.mem_cons_of_mem _ (List.mem_cons_of_mem _ (mem_cells hp)))))) (.str _ _) (fun p hp => List.mem_cons_of_mem _ (List.mem_cons_of_mem _ (List.mem_cons_of_mem _ (List.mem_cons_of_mem _ (List.mem_cons_of_mem _ (mem_cells hp)))))) (fun d hd => hknm d (List.mem_of_mem_take hd)) (hknm _ hdm) (by ke_room) ?_
                                  have hil : i < nmD.length := by rw [← husN.length]; exact hi
                                  have hx : nmD[i]? = some (.str x) := by
                                    rw [hrs, List.getElem?_append_right (by rw [List.length_take]; omega), List.length_take, Nat.min_eq_left (by omega), Nat.sub_self]; rfl
                                  have hrs1 : nmD = nmD.take (i + 1) ++ rs := by rw [take_snoc hx, List.append_assoc]; exact hrs
                                  k_steps
                                  · rename (@decide _ _ = true) => hcmp
                                    rename Fr _ _ _ _ => F7
                                    rename News _ _ _ _ => N7
                                    rw [firsts_hit (by simpa using hcmp), ← take_snoc hx] at htt
                                    exact CEnd.mk' (its := [pe, pi]) F7 (fun p hp => N7 p (List.mem_cons_of_mem _ hp)) off ⟨us, k, rest', ds, rs, rfl, hsub, hrest, ⟨hD1, hD2⟩, hus, hr, hrs1, htt⟩
                                  · rename (@decide _ _ = false) => hcmp
                                    refine inner_emit (by rfl) ?_
                                    k_steps
                                    refine Hold.mk ?_
                                    rename Fr _ _ _ _ => F7
                                    rename News _ _ _ _ => N7o
                                    have N7 : News hb Cn _ (pe :: pi :: (L, oL) :: (D, listOf (List.toArray us) k) :: cellsL L oW oC oN oB oR oD oK oQ (tabObj ps) rest') := fun p hp => N7o p (List.mem_cons_of_mem _ hp)
                                    have hcell : ∀ p ∈ cellsL L oW oC oN oB oR oD oK oQ (tabObj ps) rest', p.1 ≠ D := cells_off hD1 fun p hp => (hrest p hp).2.1
                                    have hpe : pe.1 ≠ D := fun e => off _ (List.mem_cons_of_mem _ (List.mem_cons_self ..)) pe (List.mem_cons_self ..) e.symm
                                    have hpi : pi.1 ≠ D := fun e => off _ (List.mem_cons_of_mem _ (List.mem_cons_self ..)) pi (List.mem_cons_of_mem _ (List.mem_cons_self ..)) e.symm
                                    rw [firsts_miss (by simpa using hcmp), ← take_snoc hx] at htt
                                    have hul : us.length ≤ 1000 := by
                                      have q := congrArg List.length htt
                                      have q2 := firsts_len nmD []
                                      rw [List.length_append, ← hus.length] at q
                                      rw [husN.length] at hlN
                                      omega
                                    refine append_K (D := D) (its := us.toArray) (n := k) F7 N7 (Upd.tail hpe (Upd.tail hpi (Upd.tail hD2.symm (Upd.head hcell)))) ?_ (by rw [List.size_toArray, sizeLine_eq]; omega)
                                    intro h8 F8 N8
                                    rw [List.push_toArray] at N8
                                    refine CEnd.mk' (its := [pe, pi]) F8 N8 ?_ ⟨us ++ [_], k + 1, rest', ds ++ [.str x], rs, rfl, hsub, hrest, ⟨hD1, hD2⟩, hus.append (.one (.str _ _)), hr, hrs1, by rw [List.append_assoc]; exact htt⟩
                                    intro p hp q hq
                                    rcases List.mem_cons.mp hp with h | hp
                                    · rw [h]; exact off _ (List.mem_cons_self ..) q hq
                                    rcases List.mem_cons.mp hp with h | hp
                                    · rw [h]; exact off (D, listOf (List.toArray us) k) (List.mem_cons_of_mem _ (List.mem_cons_self ..)) q hq
                                    · exact off _ (List.mem_cons_of_mem _ (List.mem_cons_of_mem _ hp)) q hq
                                · intro Cn DU oL m₁ n₁ hR101
                                  refine gp fun kG179 => ?_
                                  obtain ⟨usU, kU, rest', dsU, rs, rfl, hsub, hrest, ⟨hD1, hD2⟩, husU, hr, hrs, htt⟩ := hR101
                                  cases rs with
                                  | cons d rs => cases hr
                                  | nil =>
                                  refine kG179.go ?_
                                  rw [firsts, List.append_nil] at htt
                                  refine ⟨_, rfl, ?_, ?_⟩
                                  · intro p hp
                                    rcases List.mem_cons.mp hp with h | hp
                                    · rw [h]; exact hD2
                                    · exact cells_off (D := L) (by dsimp only [OffC]; omega) (fun p hp => (hrest p hp).2.2) p hp
                                  · intro h9 tk9 F9 N9
                                    k_steps
                                    refine Hold.mk ?_
                                    rename Fr _ _ _ _ => F10
                                    rename News _ _ _ _ => N10
                                    have hC : (bd.map fun p => Dat.str p.1) = dsU := by
                                      rw [htt, ← hnm, ← hbd, hesR]
                                      exact lawC xaR
                                    rw [hC] at hkeys
                                    have hkU : ∀ d ∈ dsU, kqdOk 8 d = true := by
                                      intro d hd
                                      rw [htt] at hd
                                      exact hknm d (firsts_mem hd)
                                    refine kqd_eq N10 (List.mem_cons_of_mem _ (mem_cells (hsub _ hDB))) rfl rfl (hkeys.mono hsub) (fun p hp => List.mem_cons_of_mem _ (mem_cells hp)) (List.mem_cons_self ..) rfl rfl husU (fun p hp => List.mem_cons_of_mem _ (mem_cells hp)) hkU hkU (by ke_room) ?_
                                    rw [show ∀ (i : Decidable (dsU = dsU)), (@decide (dsU = dsU) i) = true from fun i => by simp]
                                    k_steps
                                    exact ⟨h9, tk9, m8, _, ps, rfl, rfl, F10, N10, List.mem_cons_of_mem _ (by simp [cellsL])⟩
end
theorem PySem.Challenge.cw_in0004_01_holds : PySem.Challenge.rw_in0004_01.Holds :=
  Mine.law_all
