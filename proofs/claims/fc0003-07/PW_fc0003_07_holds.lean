import PyProof.Rows.All
import Wide.All
import OpenK.AllK
import Wide.FinOn
import Open.Tops
import Lean
import PySem.Challenge.RW_fc0003_07
set_option Elab.async false
section
set_option maxRecDepth 100000
set_option linter.unusedVariables false
open PySem PySem.W PyProof.Rows
namespace Hd
def turn : Stmt → Stmt
  | .Assign ts (.Set es k p) q => .Assign ts (.Tuple (es ++ es) k p) q
  | s => s
def prog : Program := { PySem.Challenge.pw_fc0003_07 with main := { PySem.Challenge.pw_fc0003_07.main with body := PySem.Challenge.pw_fc0003_07.main.body.map turn } }
set_option maxHeartbeats 8000000 in
open_shared sh for prog leaving 0
end Hd
end
section
set_option maxRecDepth 100000
set_option linter.unusedVariables false
open PySem PySem.W PyProof.Rows
namespace Hd
abbrev at_ (t : BT) (D : Obj) : BT := t.set 295 (fun _ => D)
abbrev stT (t : BT) (n toks : Nat) (os : OsState) : SharedT := { tree := t, n := n, life := {}, gens := #[], drawn := {}, toks := toks, os := os }
noncomputable def run0 (w : World) (p : Program) (b : List Stmt) (os : OsState) := segRunT treeTable p w 11 (some (.ref 6)) 1 235 (stT (Hd.sh.tree_4 w.params) 15 187 os)
  (piecesOf Hd.sh.sts_4 Hd.sh.env_1 (.body b Hd.sh.env_1) ⟨0, 0, 0, 0⟩ [topFrame ⟨0, 0, 0, 0⟩])
theorem run0_rfl : @run0 = run0 := rfl
name_quick q0 for run0 by run0_rfl
noncomputable def run1 (w : World) (p : Program) (b : List Stmt) (os : OsState) := segRunT treeTable p w 11 (some (.ref 6)) 1 229 (stT (Hd.sh.tree_27 w.params) 35 216 os)
  (piecesOf Hd.sh.sts_29 Hd.sh.env_1 (.body b Hd.sh.env_1) ⟨5, 0, 6, 8⟩ [topFrame ⟨0, 0, 0, 0⟩])
theorem run1_rfl : @run1 = run1 := rfl
name_quick q1 for run1 by run1_rfl
noncomputable def run2 (w : World) (p : Program) (b : List Stmt) (os : OsState) := segRunT treeTable p w 11 (some (.ref 6)) 1 383 (stT (Hd.sh.tree_51 w.params) 55 245 os)
  (piecesOf Hd.sh.sts_53 Hd.sh.env_1 (.body b Hd.sh.env_1) ⟨7, 0, 10, 32⟩ [topFrame ⟨0, 0, 0, 0⟩])
theorem run2_rfl : @run2 = run2 := rfl
name_quick q2 for run2 by run2_rfl
noncomputable def run3 (w : World) (p : Program) (b : List Stmt) (os : OsState) := segRunT treeTable p w 11 (some (.ref 6)) 1 551 (stT (Hd.sh.tree_81 w.params) 81 283 os)
  (piecesOf Hd.sh.sts_83 Hd.sh.env_1 (.body b Hd.sh.env_1) ⟨13, 0, 14, 8⟩ [topFrame ⟨0, 0, 0, 0⟩])
theorem run3_rfl : @run3 = run3 := rfl
name_quick q3 for run3 by run3_rfl
noncomputable def run4 (w : World) (p : Program) (b : List Stmt) (os : OsState) := segRunT treeTable p w 11 (some (.ref 6)) 1 297 (stT (Hd.sh.tree_176 w.params) 173 399 os)
  (piecesOf Hd.sh.sts_178 Hd.sh.env_1 (.body b Hd.sh.env_1) ⟨15, 0, 77, 26⟩ [topFrame ⟨0, 0, 0, 0⟩])
theorem run4_rfl : @run4 = run4 := rfl
name_quick q4 for run4 by run4_rfl
noncomputable def run5 (w : World) (p : Program) (b : List Stmt) (os : OsState) := segRunT treeTable p w 11 (some (.ref 6)) 1 368 (stT (Hd.sh.tree_214 w.params) 208 454 os)
  (piecesOf Hd.sh.sts_216 Hd.sh.env_1 (.body b Hd.sh.env_1) ⟨78, 0, 105, 47⟩ [topFrame ⟨0, 0, 0, 0⟩])
theorem run5_rfl : @run5 = run5 := rfl
name_quick q5 for run5 by run5_rfl
noncomputable def run6 (w : World) (p : Program) (b : List Stmt) (os : OsState) := segRunT treeTable p w 11 (some (.ref 6)) 1 238 (stT (Hd.sh.tree_266 w.params) 257 526 os)
  (piecesOf Hd.sh.sts_268 Hd.sh.env_1 (.body b Hd.sh.env_1) ⟨138, 0, 145, 30⟩ [topFrame ⟨0, 0, 0, 0⟩])
theorem run6_rfl : @run6 = run6 := rfl
name_quick q6 for run6 by run6_rfl
noncomputable def run7 (D : Obj) (w : World) (p : Program) (b : List Stmt) (os : OsState) := segRunT treeTable p w 11 (some (.ref 6)) 1 235 (stT (at_ (Hd.sh.tree_311 w.params) D) 296 609 os)
  (piecesOf Hd.sh.sts_313 Hd.sh.env_1 (.body b Hd.sh.env_1) ⟨175, 0, 175, 23⟩ [topFrame ⟨0, 0, 0, 0⟩])
theorem run7_rfl : @run7 = run7 := rfl
name_quick q7 for run7 by run7_rfl
noncomputable def run8 (D : Obj) (w : World) (p : Program) (b : List Stmt) (os : OsState) := segRunT treeTable p w 11 (some (.ref 6)) 1 242 (stT (at_ (Hd.sh.tree_327 w.params) D) 310 652 os)
  (piecesOf Hd.sh.sts_331 Hd.sh.env_1 (.body b Hd.sh.env_1) ⟨176, 0, 176, 6⟩ [topFrame ⟨0, 0, 0, 0⟩])
theorem run8_rfl : @run8 = run8 := rfl
name_quick q8 for run8 by run8_rfl
noncomputable def run9 (D : Obj) (w : World) (p : Program) (b : List Stmt) (os : OsState) := segRunT treeTable p w 11 (some (.ref 6)) 1 225 (stT (at_ (Hd.sh.tree_354 w.params) D) 332 690 os)
  (piecesOf Hd.sh.sts_356 Hd.sh.env_1 (.body b Hd.sh.env_1) ⟨177, 0, 183, 34⟩ [topFrame ⟨0, 0, 0, 0⟩])
theorem run9_rfl : @run9 = run9 := rfl
name_quick q9 for run9 by run9_rfl
noncomputable def run10 (D : Obj) (w : World) (p : Program) (b : List Stmt) (os : OsState) := segRunT treeTable p w 11 (some (.ref 6)) 1 231 (stT (at_ (Hd.sh.tree_378 w.params) D) 353 721 os)
  (piecesOf Hd.sh.sts_380 Hd.sh.env_1 (.body b Hd.sh.env_1) ⟨184, 0, 188, 32⟩ [topFrame ⟨0, 0, 0, 0⟩])
theorem run10_rfl : @run10 = run10 := rfl
name_quick q10 for run10 by run10_rfl
noncomputable def run11 (D : Obj) (w : World) (p : Program) (b : List Stmt) (os : OsState) := segRunT treeTable p w 11 (some (.ref 6)) 1 257 (stT (at_ (Hd.sh.tree_402 w.params) D) 374 758 os)
  (piecesOf Hd.sh.sts_404 Hd.sh.env_1 (.body b Hd.sh.env_1) ⟨189, 0, 202, 33⟩ [topFrame ⟨0, 0, 0, 0⟩])
theorem run11_rfl : @run11 = run11 := rfl
name_quick q11 for run11 by run11_rfl
noncomputable def run12 (D : Obj) (w : World) (p : Program) (b : List Stmt) (os : OsState) := segRunT treeTable p w 11 (some (.ref 6)) 1 1660 (stT (at_ (Hd.sh.tree_433 w.params) D) 402 799 os)
  (piecesOf Hd.sh.sts_435 Hd.sh.env_1 (.body b Hd.sh.env_1) ⟨213, 0, 214, 29⟩ [topFrame ⟨0, 0, 0, 0⟩])
theorem run12_rfl : @run12 = run12 := rfl
name_quick q12 for run12 by run12_rfl
noncomputable def run13 (D : Obj) (w : World) (p : Program) (b : List Stmt) (os : OsState) := segRunT treeTable p w 11 (some (.ref 6)) 1 163 (stT (at_ (Hd.sh.tree_711 w.params) D) 677 1258 os)
  (piecesOf Hd.sh.sts_940 Hd.sh.env_1 (.body b Hd.sh.env_1) ⟨215, 0, 931, 45⟩ [topFrame ⟨0, 0, 0, 0⟩])
theorem run13_rfl : @run13 = run13 := rfl
name_quick q13 for run13 by run13_rfl
set_option maxHeartbeats 0
theorem pc0 (w : World) : ∀ (p : Program) (b : List Stmt) (os : OsState), run0 w p b os = some (.next, stT (Hd.sh.tree_27 w.params) 35 216 os, .body b Hd.sh.env_1, ⟨5, 0, 6, 8⟩) := by
  rw [show @run0 = _ from PySem.W.Fast.q0_eq]
  intro p b os; kernel_rfl
theorem piece0 (w : World) (p : Program) (b : List Stmt) (os : OsState) : segRun treeTable p w 11 (some (.ref 6)) 1 235 (stT (Hd.sh.tree_4 w.params) 15 187 os).abs
  (piecesOf Hd.sh.sts_4 Hd.sh.env_1 (.body b Hd.sh.env_1) ⟨0, 0, 0, 0⟩ [topFrame ⟨0, 0, 0, 0⟩]) = some (.next, (stT (Hd.sh.tree_27 w.params) 35 216 os).abs, .body b Hd.sh.env_1, ⟨5, 0, 6, 8⟩) := segRun_of (pc0 w p b os)
theorem pc1 (w : World) : ∀ (p : Program) (b : List Stmt) (os : OsState), run1 w p b os = some (.next, stT (Hd.sh.tree_51 w.params) 55 245 os, .body b Hd.sh.env_1, ⟨7, 0, 10, 32⟩) := by
  rw [show @run1 = _ from PySem.W.Fast.q1_eq]
  intro p b os; kernel_rfl
theorem piece1 (w : World) (p : Program) (b : List Stmt) (os : OsState) : segRun treeTable p w 11 (some (.ref 6)) 1 229 (stT (Hd.sh.tree_27 w.params) 35 216 os).abs
  (piecesOf Hd.sh.sts_29 Hd.sh.env_1 (.body b Hd.sh.env_1) ⟨5, 0, 6, 8⟩ [topFrame ⟨0, 0, 0, 0⟩]) = some (.next, (stT (Hd.sh.tree_51 w.params) 55 245 os).abs, .body b Hd.sh.env_1, ⟨7, 0, 10, 32⟩) := segRun_of (pc1 w p b os)
theorem pc2 (w : World) : ∀ (p : Program) (b : List Stmt) (os : OsState), run2 w p b os = some (.next, stT (Hd.sh.tree_81 w.params) 81 283 os, .body b Hd.sh.env_1, ⟨13, 0, 14, 8⟩) := by
  rw [show @run2 = _ from PySem.W.Fast.q2_eq]
  intro p b os; kernel_rfl
theorem piece2 (w : World) (p : Program) (b : List Stmt) (os : OsState) : segRun treeTable p w 11 (some (.ref 6)) 1 383 (stT (Hd.sh.tree_51 w.params) 55 245 os).abs
  (piecesOf Hd.sh.sts_53 Hd.sh.env_1 (.body b Hd.sh.env_1) ⟨7, 0, 10, 32⟩ [topFrame ⟨0, 0, 0, 0⟩]) = some (.next, (stT (Hd.sh.tree_81 w.params) 81 283 os).abs, .body b Hd.sh.env_1, ⟨13, 0, 14, 8⟩) := segRun_of (pc2 w p b os)
theorem pc3 (w : World) : ∀ (p : Program) (b : List Stmt) (os : OsState), run3 w p b os = some (.next, stT (Hd.sh.tree_176 w.params) 173 399 os, .body b Hd.sh.env_1, ⟨15, 0, 77, 26⟩) := by
  rw [show @run3 = _ from PySem.W.Fast.q3_eq]
  intro p b os; kernel_rfl
theorem piece3 (w : World) (p : Program) (b : List Stmt) (os : OsState) : segRun treeTable p w 11 (some (.ref 6)) 1 551 (stT (Hd.sh.tree_81 w.params) 81 283 os).abs
  (piecesOf Hd.sh.sts_83 Hd.sh.env_1 (.body b Hd.sh.env_1) ⟨13, 0, 14, 8⟩ [topFrame ⟨0, 0, 0, 0⟩]) = some (.next, (stT (Hd.sh.tree_176 w.params) 173 399 os).abs, .body b Hd.sh.env_1, ⟨15, 0, 77, 26⟩) := segRun_of (pc3 w p b os)
theorem pc4 (w : World) : ∀ (p : Program) (b : List Stmt) (os : OsState), run4 w p b os = some (.next, stT (Hd.sh.tree_214 w.params) 208 454 os, .body b Hd.sh.env_1, ⟨78, 0, 105, 47⟩) := by
  rw [show @run4 = _ from PySem.W.Fast.q4_eq]
  intro p b os; kernel_rfl
theorem piece4 (w : World) (p : Program) (b : List Stmt) (os : OsState) : segRun treeTable p w 11 (some (.ref 6)) 1 297 (stT (Hd.sh.tree_176 w.params) 173 399 os).abs
  (piecesOf Hd.sh.sts_178 Hd.sh.env_1 (.body b Hd.sh.env_1) ⟨15, 0, 77, 26⟩ [topFrame ⟨0, 0, 0, 0⟩]) = some (.next, (stT (Hd.sh.tree_214 w.params) 208 454 os).abs, .body b Hd.sh.env_1, ⟨78, 0, 105, 47⟩) := segRun_of (pc4 w p b os)
theorem pc5 (w : World) : ∀ (p : Program) (b : List Stmt) (os : OsState), run5 w p b os = some (.next, stT (Hd.sh.tree_266 w.params) 257 526 os, .body b Hd.sh.env_1, ⟨138, 0, 145, 30⟩) := by
  rw [show @run5 = _ from PySem.W.Fast.q5_eq]
  intro p b os; kernel_rfl
theorem piece5 (w : World) (p : Program) (b : List Stmt) (os : OsState) : segRun treeTable p w 11 (some (.ref 6)) 1 368 (stT (Hd.sh.tree_214 w.params) 208 454 os).abs
  (piecesOf Hd.sh.sts_216 Hd.sh.env_1 (.body b Hd.sh.env_1) ⟨78, 0, 105, 47⟩ [topFrame ⟨0, 0, 0, 0⟩]) = some (.next, (stT (Hd.sh.tree_266 w.params) 257 526 os).abs, .body b Hd.sh.env_1, ⟨138, 0, 145, 30⟩) := segRun_of (pc5 w p b os)
theorem pc6 (w : World) : ∀ (p : Program) (b : List Stmt) (os : OsState), run6 w p b os = some (.next, stT (Hd.sh.tree_291 w.params) 279 563 os, .body b Hd.sh.env_1, ⟨163, 0, 164, 8⟩) := by
  rw [show @run6 = _ from PySem.W.Fast.q6_eq]
  intro p b os; kernel_rfl
theorem piece6 (w : World) (p : Program) (b : List Stmt) (os : OsState) : segRun treeTable p w 11 (some (.ref 6)) 1 238 (stT (Hd.sh.tree_266 w.params) 257 526 os).abs
  (piecesOf Hd.sh.sts_268 Hd.sh.env_1 (.body b Hd.sh.env_1) ⟨138, 0, 145, 30⟩ [topFrame ⟨0, 0, 0, 0⟩]) = some (.next, (stT (Hd.sh.tree_291 w.params) 279 563 os).abs, .body b Hd.sh.env_1, ⟨163, 0, 164, 8⟩) := segRun_of (pc6 w p b os)
theorem pc7 (w : World) : ∀ (D : Obj) (p : Program) (b : List Stmt) (os : OsState), run7 D w p b os = some (.next, stT (at_ (Hd.sh.tree_327 w.params) D) 310 652 os, .body b Hd.sh.env_1, ⟨176, 0, 176, 6⟩) := by
  rw [show @run7 = _ from PySem.W.Fast.q7_eq]
  refine byRow2 "special-get-raises" (P := fun w => ∀ (D : Obj) (p : Program) (b : List Stmt) (os : OsState), PySem.W.Fast.q7 D w p b os = some (.next, stT (at_ (Hd.sh.tree_327 w.params) D) 310 652 os, .body b Hd.sh.env_1, ⟨176, 0, 176, 6⟩)) (fun w D p b os => ?_) (fun w D p b os => ?_) w <;> kernel_rfl
theorem piece7 (D : Obj) (w : World) (p : Program) (b : List Stmt) (os : OsState) : segRun treeTable p w 11 (some (.ref 6)) 1 235 (stT (at_ (Hd.sh.tree_311 w.params) D) 296 609 os).abs
  (piecesOf Hd.sh.sts_313 Hd.sh.env_1 (.body b Hd.sh.env_1) ⟨175, 0, 175, 23⟩ [topFrame ⟨0, 0, 0, 0⟩]) = some (.next, (stT (at_ (Hd.sh.tree_327 w.params) D) 310 652 os).abs, .body b Hd.sh.env_1, ⟨176, 0, 176, 6⟩) := segRun_of (pc7 w D p b os)
theorem pc8 (w : World) : ∀ (D : Obj) (p : Program) (b : List Stmt) (os : OsState), run8 D w p b os = some (.next, stT (at_ (Hd.sh.tree_354 w.params) D) 332 690 os, .body b Hd.sh.env_1, ⟨177, 0, 183, 34⟩) := by
  rw [show @run8 = _ from PySem.W.Fast.q8_eq]
  intro D p b os; kernel_rfl
theorem piece8 (D : Obj) (w : World) (p : Program) (b : List Stmt) (os : OsState) : segRun treeTable p w 11 (some (.ref 6)) 1 242 (stT (at_ (Hd.sh.tree_327 w.params) D) 310 652 os).abs
  (piecesOf Hd.sh.sts_331 Hd.sh.env_1 (.body b Hd.sh.env_1) ⟨176, 0, 176, 6⟩ [topFrame ⟨0, 0, 0, 0⟩]) = some (.next, (stT (at_ (Hd.sh.tree_354 w.params) D) 332 690 os).abs, .body b Hd.sh.env_1, ⟨177, 0, 183, 34⟩) := segRun_of (pc8 w D p b os)
theorem pc9 (w : World) : ∀ (D : Obj) (p : Program) (b : List Stmt) (os : OsState), run9 D w p b os = some (.next, stT (at_ (Hd.sh.tree_378 w.params) D) 353 721 os, .body b Hd.sh.env_1, ⟨184, 0, 188, 32⟩) := by
  rw [show @run9 = _ from PySem.W.Fast.q9_eq]
  intro D p b os; kernel_rfl
theorem piece9 (D : Obj) (w : World) (p : Program) (b : List Stmt) (os : OsState) : segRun treeTable p w 11 (some (.ref 6)) 1 225 (stT (at_ (Hd.sh.tree_354 w.params) D) 332 690 os).abs
  (piecesOf Hd.sh.sts_356 Hd.sh.env_1 (.body b Hd.sh.env_1) ⟨177, 0, 183, 34⟩ [topFrame ⟨0, 0, 0, 0⟩]) = some (.next, (stT (at_ (Hd.sh.tree_378 w.params) D) 353 721 os).abs, .body b Hd.sh.env_1, ⟨184, 0, 188, 32⟩) := segRun_of (pc9 w D p b os)
theorem pc10 (w : World) : ∀ (D : Obj) (p : Program) (b : List Stmt) (os : OsState), run10 D w p b os = some (.next, stT (at_ (Hd.sh.tree_402 w.params) D) 374 758 os, .body b Hd.sh.env_1, ⟨189, 0, 202, 33⟩) := by
  rw [show @run10 = _ from PySem.W.Fast.q10_eq]
  intro D p b os; kernel_rfl
theorem piece10 (D : Obj) (w : World) (p : Program) (b : List Stmt) (os : OsState) : segRun treeTable p w 11 (some (.ref 6)) 1 231 (stT (at_ (Hd.sh.tree_378 w.params) D) 353 721 os).abs
  (piecesOf Hd.sh.sts_380 Hd.sh.env_1 (.body b Hd.sh.env_1) ⟨184, 0, 188, 32⟩ [topFrame ⟨0, 0, 0, 0⟩]) = some (.next, (stT (at_ (Hd.sh.tree_402 w.params) D) 374 758 os).abs, .body b Hd.sh.env_1, ⟨189, 0, 202, 33⟩) := segRun_of (pc10 w D p b os)
theorem pc11 (w : World) : ∀ (D : Obj) (p : Program) (b : List Stmt) (os : OsState), run11 D w p b os = some (.next, stT (at_ (Hd.sh.tree_433 w.params) D) 402 799 os, .body b Hd.sh.env_1, ⟨213, 0, 214, 29⟩) := by
  rw [show @run11 = _ from PySem.W.Fast.q11_eq]
  intro D p b os; kernel_rfl
theorem piece11 (D : Obj) (w : World) (p : Program) (b : List Stmt) (os : OsState) : segRun treeTable p w 11 (some (.ref 6)) 1 257 (stT (at_ (Hd.sh.tree_402 w.params) D) 374 758 os).abs
  (piecesOf Hd.sh.sts_404 Hd.sh.env_1 (.body b Hd.sh.env_1) ⟨189, 0, 202, 33⟩ [topFrame ⟨0, 0, 0, 0⟩]) = some (.next, (stT (at_ (Hd.sh.tree_433 w.params) D) 402 799 os).abs, .body b Hd.sh.env_1, ⟨213, 0, 214, 29⟩) := segRun_of (pc11 w D p b os)
theorem pc12 (w : World) : ∀ (D : Obj) (p : Program) (b : List Stmt) (os : OsState), run12 D w p b os = some (.next, stT (at_ (Hd.sh.tree_711 w.params) D) 677 1258 os, .body b Hd.sh.env_1, ⟨215, 0, 931, 45⟩) := by
  rw [show @run12 = _ from PySem.W.Fast.q12_eq]
  intro D p b os; kernel_rfl
theorem piece12 (D : Obj) (w : World) (p : Program) (b : List Stmt) (os : OsState) : segRun treeTable p w 11 (some (.ref 6)) 1 1660 (stT (at_ (Hd.sh.tree_433 w.params) D) 402 799 os).abs
  (piecesOf Hd.sh.sts_435 Hd.sh.env_1 (.body b Hd.sh.env_1) ⟨213, 0, 214, 29⟩ [topFrame ⟨0, 0, 0, 0⟩]) = some (.next, (stT (at_ (Hd.sh.tree_711 w.params) D) 677 1258 os).abs, .body b Hd.sh.env_1, ⟨215, 0, 931, 45⟩) := segRun_of (pc12 w D p b os)
theorem pc13 (w : World) : ∀ (D : Obj) (p : Program) (b : List Stmt) (os : OsState), run13 D w p b os = some (.next, stT (at_ (Hd.sh.tree_970 w.params) D) 706 1305 os, .body b Hd.sh.env_1, ⟨980, 0, 1014, 90⟩) := by
  rw [show @run13 = _ from PySem.W.Fast.q13_eq]
  intro D p b os; kernel_rfl
theorem piece13 (D : Obj) (w : World) (p : Program) (b : List Stmt) (os : OsState) : segRun treeTable p w 11 (some (.ref 6)) 1 163 (stT (at_ (Hd.sh.tree_711 w.params) D) 677 1258 os).abs
  (piecesOf Hd.sh.sts_940 Hd.sh.env_1 (.body b Hd.sh.env_1) ⟨215, 0, 931, 45⟩ [topFrame ⟨0, 0, 0, 0⟩]) = some (.next, (stT (at_ (Hd.sh.tree_970 w.params) D) 706 1305 os).abs, .body b Hd.sh.env_1, ⟨980, 0, 1014, 90⟩) := segRun_of (pc13 w D p b os)
end Hd
end
section
set_option maxRecDepth 100000
set_option linter.unusedVariables false
namespace Hd
open PySem PySem.W
section
variable {tb : String → Option Builtin} {p : Program} {w : World} {n₀ : Nat} {ann : Option Value}
def Ends (tb : String → Option Builtin) (p : Program) (w : World) (n₀ : Nat) (ann : Option Value) (F : Shared → Prop) (N : Nat) (s : Shared) (t : Thread) : Prop := ∃ r, topRun tb p w n₀ ann N s t = some r ∧ F r
theorem Ends.le {F : Shared → Prop} {N M : Nat} {s : Shared} {t : Thread} (h : Ends tb p w n₀ ann F N s t) (hl : N ≤ M) : Ends tb p w n₀ ann F M s t := by
  obtain ⟨r, h1, h2⟩ := h
  refine ⟨r, ?_, h2⟩
  rw [show M = N + (M - N) by omega]
  exact topRun_mono _ _ _ _ _ h1
theorem Ends.one {F : Shared → Prop} {N : Nat} {s s' : Shared} {t t' : Thread} (ht : through ⟨t.cur, t.code, t.pos, []⟩ = false) (hk : stepOk n₀ ann t = true) (hs : step (denote tb) p w s t = .go s' t') (h : Ends tb p w n₀ ann F N s' t') : Ends tb p w n₀ ann F (N + 1) s t := by
  obtain ⟨r, h1, h2⟩ := h
  refine ⟨r, ?_, h2⟩
  have ht : through t = false := by
    obtain ⟨cur, code, pos, stack⟩ := t
    cases stack with
    | nil => exact ht
    | cons => rfl
  unfold topRun
  rw [ht, hk, hs]
  exact h1
def DW (tb : String → Option Builtin) (p : Program) (w : World) (n₀ : Nat) (ann : Option Value) {α : Type} (c : Nat) (m : Sem α) (s : Shared) (a : α) (s' : Shared) : Prop :=
  ∀ (F : Shared → Prop) (K : α → Sem Fin) (H : Value → Sem Fin) (gd : Bool → Bool) (lv : List Value → List Value) (code : Code) (pos : Pos) (stack : List Frame) (N : Nat),
    (∀ pos', Ends tb p w n₀ ann F N s' ⟨K a, code, pos', stack⟩) → Ends tb p w n₀ ann F (N + c) s ⟨m.wrap K H gd lv, code, pos, stack⟩
variable {α β : Type} {c c1 c2 : Nat} {s s1 s2 : Shared}
theorem DW.le {m : Sem α} {a : α} (h : DW tb p w n₀ ann c1 m s a s1) (hl : c1 ≤ c) : DW tb p w n₀ ann c m s a s1 := fun F K H gd lv code pos stack N k =>
  (h F K H gd lv code pos stack N k).le (by omega)
theorem DW.pure {a : α} : DW tb p w n₀ ann 0 (Pure.pure a) s a s := fun F K H gd lv code pos stack N k => k pos
theorem DW.bind {m : Sem α} {f : α → Sem β} {a : α} {b : β} (h : DW tb p w n₀ ann c1 m s a s1) (h' : DW tb p w n₀ ann c2 (f a) s1 b s2) : DW tb p w n₀ ann (c1 + c2) (m >>= f) s b s2 := fun F K H gd lv code pos stack N k => by
  rw [Sem.bind_eq_wrap', Sem.wrap_wrap, show N + (c1 + c2) = N + c2 + c1 by omega]
  exact h F _ _ _ _ code pos stack (N + c2) fun pos' => h' F K H gd lv code pos' stack N k
theorem DW.keep {vs : List Value} {m : Sem α} {a : α} (h : DW tb p w n₀ ann c m s a s1) : DW tb p w n₀ ann c (m.keep vs) s a s1 := fun F K H gd lv code pos stack N k => by
  rw [Sem.keep_eq_wrap, Sem.wrap_wrap]
  exact h F _ _ _ _ code pos stack N k
theorem DW.holding {vs : List Value} {m : Sem α} {a : α} (h : DW tb p w n₀ ann c m s a s1) : DW tb p w n₀ ann c (PySem.holding vs m) s a s1 := by
  unfold PySem.holding
  split
  · exact h
  · exact h.keep
theorem DW.rule {t : String} : DW tb p w n₀ ann 1 (PySem.rule t) s () s := fun F K H gd lv code pos stack N k => .one rfl rfl rfl (k pos)
theorem DW.stand {q : Pos} : DW tb p w n₀ ann 1 (standAt q) s () s := fun F K H gd lv code pos stack N k => .one rfl rfl rfl (k q)
theorem DW.ask : DW tb p w n₀ ann 1 PySem.ask s ⟨p, w.params⟩ s := fun F K H gd lv code pos stack N k => .one rfl rfl rfl (k pos)
theorem DW.fresh : DW tb p w n₀ ann 1 PySem.fresh s s.toks { s with toks := s.toks + 1 } := fun F K H gd lv code pos stack N k => .one rfl rfl rfl (k pos)
theorem DW.alloc {o : Obj} : DW tb p w n₀ ann 1 (PySem.alloc o) s s.heap.objs.size { s with heap := s.heap.push o } := fun F K H gd lv code pos stack N k => .one rfl rfl rfl (k pos)
theorem DW.load {a : Addr} {o : Obj} (ho : s.heap.get? a = some o) : DW tb p w n₀ ann 1 (PySem.load a) s o s := fun F K H gd lv code pos stack N k =>
  .one rfl rfl (by
    obtain ⟨heap, gens, drawn, toks, os⟩ := s
    show (match heap.get? a with | some o => _ | none => _) = _
    rw [show heap.get? a = some o from ho]
    rfl) (k pos)
theorem DW.update {a : Addr} {o : Obj} {f : Obj → Obj} (ho : s.heap.get? a = some o) (ha : n₀ ≤ a) : DW tb p w n₀ ann 1 (PySem.update a f) s () { s with heap := s.heap.update a f } := fun F K H gd lv code pos stack N k =>
  .one rfl (by
    show (true && (Nat.ble n₀ a || a == mainNs || a == cStatics || ann == some (.ref a))) = true
    rw [show Nat.ble n₀ a = true from Nat.ble_eq.mpr ha]
    rfl) (by
    obtain ⟨heap, gens, drawn, toks, os⟩ := s
    show (if (heap.get? a).isSome then _ else _) = _
    rw [show heap.get? a = some o from ho]
    rfl) (k pos)
end
end Hd
end
section
set_option maxRecDepth 100000
set_option linter.unusedVariables false
namespace Hd
open PySem PySem.W
noncomputable def hR (c : Nat) (w : World) (p : Program) (n₀ : Nat) (ann : Option Value) (N : Nat) (x : Str) (t : Tok) (K : Int → Sem PySem.Fin) (H : Value → Sem PySem.Fin) (gd : Bool → Bool) (lv : List Value → List Value) (code : Code) (pos : Pos) (stack : List Frame)
  (heap : Heap) (gens : Array GenState) (drawn : Drawn) (toks : Nat) (os : OsState) := topRun treeTable p w n₀ ann (Nat.add N c) ⟨heap, gens, drawn, toks, os⟩ ⟨(pyHash (.str x t)).wrap K H gd lv, code, pos, stack⟩
theorem hR_rfl : @hR = hR := rfl
name_quick qh for hR by hR_rfl
def hsh (w : World) (x : Str) : Int := if x.cps.isEmpty = true then 0 else reduceHash (w.params.strHash x.cps)
noncomputable def hZ (w : World) (p : Program) (n₀ : Nat) (ann : Option Value) (N : Nat) (s : Shared) (t : Thread) := topRun treeTable p w n₀ ann N s t
theorem hZ_rfl : @hZ = hZ := rfl
name_quick qz for hZ by hZ_rfl
section
variable {w : World} {p : Program} {n₀ : Nat} {ann : Option Value} {N : Nat} {x : Str} {t : Tok} {K : Int → Sem PySem.Fin} {H : Value → Sem PySem.Fin} {gd : Bool → Bool} {lv : List Value → List Value} {code : Code} {pos : Pos} {stack : List Frame}
  {heap : Heap} {gens : Array GenState} {drawn : Drawn} {toks : Nat} {os : OsState}
theorem h7 (b : Bool) (w : World) (st : List Frame) (hst : st = [] ∨ ∃ f r, st = f :: r) : PySem.W.Fast.qh 7 (w.withFollow "special-get-raises" b) p n₀ ann N x t K H gd lv code pos st heap gens drawn toks os = PySem.W.Fast.qz (w.withFollow "special-get-raises" b) p n₀ ann N ⟨heap, gens, drawn, toks + 1, os⟩ ⟨K (hsh (w.withFollow "special-get-raises" b) x), code, pos, st⟩ := by
  rcases hst with rfl | ⟨f, r, rfl⟩ <;> cases b <;> kernel_rfl
theorem hash_run : topRun treeTable p w n₀ ann (N + 7) ⟨heap, gens, drawn, toks, os⟩ ⟨(pyHash (.str x t)).wrap K H gd lv, code, pos, stack⟩ = topRun treeTable p w n₀ ann N ⟨heap, gens, drawn, toks + 1, os⟩ ⟨K (hsh w x), code, pos, stack⟩ := by
  have hst : stack = [] ∨ ∃ f r, stack = f :: r := by cases stack <;> simp
  have h := h7 (p := p) (n₀ := n₀) (ann := ann) (N := N) (x := x) (t := t) (K := K) (H := H) (gd := gd) (lv := lv) (code := code) (pos := pos) (heap := heap) (gens := gens) (drawn := drawn) (toks := toks) (os := os) (w.params.followText "special-get-raises") w stack hst
  rw [World.withFollow_self, ← show @hR = _ from PySem.W.Fast.qh_eq, ← show @hZ = _ from PySem.W.Fast.qz_eq] at h
  exact h
theorem DW.hash {s : Shared} : DW treeTable p w n₀ ann 7 (pyHash (.str x t)) s (hsh w x) { s with toks := s.toks + 1 } := fun F K H gd lv code pos stack N k => by
  obtain ⟨r, h1, h2⟩ := k pos
  refine ⟨r, ?_, h2⟩
  obtain ⟨heap, gens, drawn, toks, os⟩ := s
  rw [hash_run]
  exact h1
end
end Hd
end
section
set_option maxRecDepth 100000
set_option linter.unusedVariables false
namespace Hd
open PySem PySem.W
def sob (es : Array (Int × Value)) (ep : Nat) (t : SetTable) : Obj := { cls := .type "set", data := .set es ep t }
theorem upd_const {h : Heap} {a : Addr} {o : Obj} (ho : h.objs[a]? = some o) (f : Obj → Obj) : h.update a f = h.update a fun _ => f o := by
  have : h.objs.modify a f = h.objs.modify a fun _ => f o := by
    apply Array.ext_getElem?
    intro i
    rw [Array.getElem?_modify, Array.getElem?_modify]
    by_cases e : a = i
    · subst e; simp [ho]
    · simp [e]
  exact congrArg (Heap.mk · h.life) this
theorem upd_twice {h : Heap} {a : Addr} (f g : Obj → Obj) : (h.update a f).update a g = h.update a fun o => g (f o) := by
  have : (h.objs.modify a f).modify a g = h.objs.modify a fun o => g (f o) := by
    apply Array.ext_getElem?
    intro i
    rw [Array.getElem?_modify, Array.getElem?_modify, Array.getElem?_modify]
    by_cases e : a = i
    · subst e; simp [Function.comp_def]
    · simp [e]
  exact congrArg (Heap.mk · h.life) this
theorem upd_get {h : Heap} {a : Addr} {o o' : Obj} (ho : h.objs[a]? = some o) (hf : o'.isFreed = false) : (h.update a fun _ => o').get? a = some o' := by
  unfold Heap.get?
  have : (h.update a fun _ => o').objs[a]? = some o' := by
    show (h.objs.modify a _)[a]? = _
    rw [Array.getElem?_modify]; simp [ho]
  rw [this]
  obtain ⟨c, d, dt, sl⟩ := o'
  cases dt <;> first | rfl | cases hf
def Strs (es : Array (Int × Value)) (l : List Value) : Prop := List.Perm (es.toList.map (·.2)) l
def StrsNe (x : Str) (l : List Value) : Prop := ∀ v ∈ l, ∃ y u, v = .str y u ∧ y ≠ x
theorem Strs.all {es l} (h : Strs es l) {x} (hn : StrsNe x l) : ∀ e ∈ es.toList, ∃ y u, e.2 = .str y u ∧ y ≠ x := fun e he =>
  hn e.2 (h.mem_iff.mp (List.mem_map_of_mem he))
theorem Strs.size {es l} (h : Strs es l) : es.size = l.length := by
  have := h.length_eq
  simpa using this
section
variable {p : Program} {w : World} {n₀ : Nat} {ann : Option Value} {s : Shared} {a : Addr} {es : Array (Int × Value)} {ep : Nat} {t : SetTable} {x : Str} {tk : Tok}
theorem DW.state (ho : s.heap.get? a = some (sob es ep t)) (hf : t.fits es.size = true) : DW treeTable p w n₀ ann 1 (setState a) s (es, ep, t) s := by
  unfold setState
  refine DW.bind (c1 := 1) (c2 := 0) (DW.load ho) ?_
  have hc : (t.place.size != es.size || decide (t.fill > t.mask)) = false := by
    simp only [SetTable.fits, Bool.and_eq_true, beq_iff_eq, decide_eq_true_eq] at hf
    simp [hf.1, Nat.not_lt.mpr hf.2]
  dsimp only [sob]
  rw [hc]
  simp only [Bool.false_eq_true, ↓reduceIte]
  exact DW.pure
theorem DW.store {es' : Array (Int × Value)} {t' : SetTable} (ho : s.heap.get? a = some (sob es ep t)) (ha : n₀ ≤ a) (hz : es'.size ≤ 100) :
    DW treeTable p w n₀ ann 2 (storeSet a es' t') s () { s with heap := s.heap.update a fun _ => sob es' (ep + 1) t' } := by
  unfold storeSet
  refine DW.bind (c1 := 1) (c2 := 1) (DW.load ho) ?_
  dsimp only [sob]
  rw [if_neg (by rw [sizeLine_eq]; omega)]
  have e : s.heap.update a (Obj.putSet es' t') = s.heap.update a fun _ => sob es' (ep + 1) t' := by
    rw [upd_const (o := sob es ep t)]
    · rw [putSet_of es' t' (o := sob es ep t) rfl]; rfl
    · unfold Heap.get? at ho
      split at ho
      · cases ho
      · exact ho
  first
    | (have := DW.update (tb := treeTable) (p := p) (w := w) (n₀ := n₀) (ann := ann) (f := Obj.putSet es' t') ho ha
       rw [e] at this
       exact this)
    | (refine DW.bind (c1 := 0) (c2 := 1) DW.pure ?_
       have := DW.update (tb := treeTable) (p := p) (w := w) (n₀ := n₀) (ann := ann) (f := Obj.putSet es' t') ho ha
       rw [e] at this
       exact this)
theorem DW.scan {h : Int} (hs : ∀ e ∈ es.toList, ∃ y u, e.2 = .str y u ∧ y ≠ x) : DW treeTable p w n₀ ann 0 (setScan a (.str x tk) h true es) s .absent s := by
  unfold setScan
  dsimp only
  have h1 : es.all (fun e => isExactStrKey e.2) = true := by
    rw [← Array.all_toList, List.all_eq_true]
    intro e he
    obtain ⟨y, u, h1, _⟩ := hs e he
    rw [h1]; rfl
  rw [if_pos h1]
  have h2 : es.findIdx? (fun e => e.2.isStr x) = none := by
    have : es.toList.findIdx? (fun e => e.2.isStr x) = none := by
      rw [List.findIdx?_eq_none_iff]
      intro e he
      obtain ⟨y, u, h1, h2⟩ := hs e he
      rw [h1]
      simp [Value.isStr, h2]
    rw [← this]
    cases es; simp
  unfold setScanStrs
  rw [h2]
  exact DW.pure
theorem get_objs {h : Heap} {o : Obj} (ho : h.get? a = some o) : h.objs[a]? = some o := by
  unfold Heap.get? at ho
  split at ho
  · cases ho
  · exact ho
theorem DW.tail {g : Bool → Sem Unit} (hg : ∀ b s, DW treeTable p w n₀ ann 1 (g b) s () s) {l : List Value} {es1 : Array (Int × Value)} {t2 : SetTable} (ho : s.heap.get? a = some (sob es ep t)) (ha : n₀ ≤ a) (hl : Strs es1 l) (hz : l.length ≤ 100) (hf : t2.fits es1.size = true) {b : Bool} :
    ∃ es' ep' t', DW treeTable p w n₀ ann 5 (do
        storeSet a es1 t2
        if (!b && t2.tooFull) = true then do
            g (relayAll t2 es1 (SetTable.grown es1.size)).2.2
            storeSet a (relayAll t2 es1 (SetTable.grown es1.size)).1 (relayAll t2 es1 (SetTable.grown es1.size)).2.1
            Pure.pure (some true)
          else Pure.pure (some true)) s (some true) { s with heap := s.heap.update a fun _ => sob es' ep' t' } ∧ t'.fits es'.size = true ∧ Strs es' l := by
  have h1 := DW.store (p := p) (w := w) (ann := ann) (es' := es1) (t' := t2) ho ha (by rw [hl.size]; exact hz)
  have ho1 : ({ s with heap := s.heap.update a fun _ => sob es1 (ep + 1) t2 } : Shared).heap.get? a = some (sob es1 (ep + 1) t2) := upd_get (get_objs ho) rfl
  by_cases hc : (!b && t2.tooFull) = true
  · have hp := relayAll_perm t2 es1 (SetTable.grown es1.size)
    have hfr := relayAll_fits t2 es1 (SetTable.grown es1.size)
    generalize hRl : relayAll t2 es1 (SetTable.grown es1.size) = Rl at hp hfr ⊢
    obtain ⟨es2, t3, gave2⟩ := Rl
    dsimp only at hp hfr ⊢
    have hl2 : Strs es2 l := (hp.map _).trans hl
    have h2 := DW.store (p := p) (w := w) (ann := ann) (es' := es2) (t' := t3) ho1 ha (by rw [hl2.size]; exact hz)
    refine ⟨es2, ep + 1 + 1, t3, DW.bind (c1 := 2) (c2 := 3) h1 ?_, hfr, hl2⟩
    rw [if_pos hc]
    refine DW.bind (c1 := 1) (c2 := 2) (hg _ _) (DW.bind (c1 := 2) (c2 := 0) h2 ?_)
    dsimp only
    rw [upd_twice]
    exact DW.pure
  · refine ⟨es1, ep + 1, t2, (DW.bind (c1 := 2) (c2 := 0) h1 ?_).le (by omega), hf, hl⟩
    rw [if_neg hc]
    exact DW.pure
theorem DW.add {l : List Value} (ho : s.heap.get? a = some (sob es ep t)) (ha : n₀ ≤ a) (hf : t.fits es.size = true) (hl : Strs es l) (hne : StrsNe x l) (hz : l.length < 100) :
    ∃ es' ep' t', DW treeTable p w n₀ ann 20 (setAdd a (.str x tk)) s true { s with heap := s.heap.update a (fun _ => sob es' ep' t'), toks := s.toks + 1 } ∧ t'.fits es'.size = true ∧ Strs es' (l ++ [.str x tk]) := by
  have hall := hl.all hne
  have hby : byScan (.str x tk) es = true := by
    unfold byScan
    have h1 : es.all (fun e => e.2.scannable) = true := by
      rw [← Array.all_toList, List.all_eq_true]
      intro e he
      obtain ⟨y, u, h1, _⟩ := hall e he
      rw [h1]; rfl
    have h2 : es.size < scanBound := by rw [hl.size]; have : scanBound = 4096 := rfl; omega
    rw [h1, decide_eq_true h2]; rfl
  have hperm := layNew_perm t es (hsh w x) (.str x tk)
  have hfits := layNew_fits t es (hsh w x) (.str x tk)
  unfold setAdd
  suffices H : ∃ es' ep' t', DW treeTable p w n₀ ann 13 (setAddHashed a (.str x tk) (hsh w x)) { s with toks := s.toks + 1 } true { s with heap := s.heap.update a (fun _ => sob es' ep' t'), toks := s.toks + 1 } ∧ t'.fits es'.size = true ∧ Strs es' (l ++ [.str x tk]) by
    obtain ⟨es', ep', t', h1, h2, h3⟩ := H
    exact ⟨es', ep', t', DW.holding (DW.bind (c1 := 7) (c2 := 13) DW.hash h1), h2, h3⟩
  unfold setAddHashed setAddHashedIn
  have hst := DW.state (p := p) (w := w) (n₀ := n₀) (ann := ann) (s := { s with toks := s.toks + 1 }) ho hf
  have key : ∃ es' ep' t', DW treeTable p w n₀ ann 9 (setAddByScan a (.str x tk) (hsh w x) es t) { s with toks := s.toks + 1 } (some true) { s with heap := s.heap.update a (fun _ => sob es' ep' t'), toks := s.toks + 1 } ∧ t'.fits es'.size = true ∧ Strs es' (l ++ [.str x tk]) := by
    unfold setAddByScan
    generalize hL : layNew t es (hsh w x) (.str x tk) = L at hperm hfits ⊢
    obtain ⟨es1, t1, wasDummy, gave⟩ := L
    dsimp only at hperm hfits
    have hl1 : Strs es1 (l ++ [.str x tk]) := by
      unfold Strs
      refine (hperm.map _).trans ?_
      rw [Array.toList_push, List.map_append]
      exact hl.append_right _
    have hgw : ∀ (b : Bool) (s : Shared), DW treeTable p w n₀ ann 1 (match b with | true => PySem.rule "set.scan.the-table-gave-way" | false => Pure.pure ()) s () s := fun b s => by
      cases b
      · exact DW.pure.le (by omega)
      · exact DW.rule
    have fin : ∀ t2 : SetTable, t2.fits es1.size = true → ∃ es' ep' t', DW treeTable p w n₀ ann 5 (do
        storeSet a es1 t2
        if (!wasDummy && t2.tooFull) = true then do
            (fun b => match b with | true => PySem.rule "set.scan.the-table-gave-way" | false => Pure.pure () : Bool → Sem Unit) (relayAll t2 es1 (SetTable.grown es1.size)).2.2
            storeSet a (relayAll t2 es1 (SetTable.grown es1.size)).1 (relayAll t2 es1 (SetTable.grown es1.size)).2.1
            Pure.pure (some true)
          else Pure.pure (some true)) { s with toks := s.toks + 1 } (some true) { s with heap := s.heap.update a (fun _ => sob es' ep' t'), toks := s.toks + 1 } ∧ t'.fits es'.size = true ∧ Strs es' (l ++ [.str x tk]) := fun t2 h2 =>
      DW.tail (s := { s with toks := s.toks + 1 }) hgw ho ha hl1 (by simp; omega) h2
    by_cases hp : t1.plain = true
    · obtain ⟨es', ep', t', h1, h2, h3⟩ := fin { t1 with plain := false } (SetTable.fits_plain_off hfits)
      refine ⟨es', ep', t', ?_, h2, h3⟩
      refine (DW.bind (c1 := 1) (c2 := 6) DW.rule (DW.bind (c1 := 0) (c2 := 6) (DW.scan hall) ?_)).le (by omega)
      dsimp only
      refine DW.bind (c1 := 1) (c2 := 5) (hgw gave _) ?_
      rw [if_pos hp, hashByValue_scannable 8 rfl]
      refine DW.bind (c1 := 0) (c2 := 5) DW.pure ?_
      exact h1
    · obtain ⟨es', ep', t', h1, h2, h3⟩ := fin t1 hfits
      refine ⟨es', ep', t', ?_, h2, h3⟩
      refine (DW.bind (c1 := 1) (c2 := 6) DW.rule (DW.bind (c1 := 0) (c2 := 6) (DW.scan hall) ?_)).le (by omega)
      dsimp only
      refine DW.bind (c1 := 1) (c2 := 5) (hgw gave _) ?_
      rw [if_neg hp]
      refine DW.bind (c1 := 0) (c2 := 5) DW.pure ?_
      exact h1
  obtain ⟨es', ep', t', h1, h2, h3⟩ := key
  refine ⟨es', ep', t', ?_, h2, h3⟩
  refine (DW.holding (DW.bind (c1 := 1) (c2 := 9) hst ?_)).le (by omega)
  dsimp only
  rw [if_pos hby]
  refine DW.bind (c1 := 9) (c2 := 0) h1 ?_
  exact DW.pure
end
end Hd
end
section
set_option maxRecDepth 100000
set_option linter.unusedVariables false
namespace Hd
open PySem PySem.W
section
variable {p : Program} {w : World} {n₀ : Nat} {ann : Option Value} {s : Shared} {env : Env}
theorem eval_Set (elts : List PySem.Expr) (k : Nat) (pos : Pos) (env : Env) : eval (.Set elts k pos) env = (do
    standAt pos
    setDisplay (displayRoad k elts) (← inMainModule env) ((starEach elts env).map fun (star, t) => (star, do let v ← t; standAt pos; Pure.pure v))) := rfl
theorem setDisplay_eq (b : Bool) (m1 m2 m3 m4 : Sem Value) : setDisplay .unsure b [(false, m1), (false, m2), (false, m3), (false, m4)] = (do
  let .ref s ← PySem.newSet (.type "set") | unsupported "internal:set-display"
  holding [.ref s] do
    let first ← evalAll [m1, m2, m3, m4]
    holding first do
      for x in first do let _ ← setAdd s x
      PySem.rule "set.display.perhaps-of-constants"; setUnled s
    for (star, x) in ([] : List (Bool × Sem Value)) do
      let v ← x
      if star then holding [v] (setDisplayStar s v)
      else let _ ← holding [v] (setAdd s v)
  return .ref s) := rfl
theorem DW.text {x : Str} {q : Pos} {k : Nat} {c : Pos} : DW treeTable p w n₀ ann 2 (do let v ← eval (.Constant (.str x) k q) env; standAt c; Pure.pure v) s (.str x s.toks) { s with toks := s.toks + 1 } := by
  rw [eval_Constant]
  refine DW.bind (c1 := 1) (c2 := 1) (s1 := { s with toks := s.toks + 1 }) (a := .str x s.toks) ?_ (DW.bind (c1 := 1) (c2 := 0) DW.stand DW.pure)
  exact DW.bind (c1 := 1) (c2 := 0) DW.fresh DW.pure
theorem DW.main {cd : Addr} {oc : Obj} {vs : Array Value} (hc : env.code = .ref cd) (ho : s.heap.get? cd = some oc) (hd : oc.data = .fields vs) : ∃ b, DW treeTable p w n₀ ann 2 (inMainModule env) s b s := by
  unfold inMainModule
  rw [hc, if_neg (by intro h; cases h)]
  have h1 : DW treeTable p w n₀ ann 1 (fieldsOf (.ref cd)) s vs s := by
    unfold fieldsOf
    dsimp only
    refine DW.bind (c1 := 1) (c2 := 0) (DW.load ho) ?_
    rw [hd]
    exact DW.pure
  cases hv : vs.getD 18 .none with
  | str file t =>
    refine ⟨!p.modules.any fun (_, _, m) => m.file == file, DW.bind (c1 := 1) (c2 := 1) h1 ?_⟩
    rw [hv]
    dsimp only
    exact DW.bind (c1 := 1) (c2 := 0) DW.ask DW.pure
  | _ =>
    refine ⟨false, (DW.bind (c1 := 1) (c2 := 0) h1 ?_).le (by omega)⟩
    rw [hv]
    exact DW.pure
theorem DW.newSet : ∃ t : SetTable, DW treeTable p w n₀ ann 2 (PySem.newSet (.type "set")) s (.ref s.heap.objs.size) { s with heap := s.heap.push (sob #[] 0 t) } ∧ t.fits 0 = true := by
  unfold PySem.newSet setsByText
  have h : DW treeTable p w n₀ ann 1 (do let l ← PySem.ask; Pure.pure (l.params.followText "set-order")) s (w.params.followText "set-order") s := DW.bind (c1 := 1) (c2 := 0) DW.ask DW.pure
  refine ⟨SetTable.fresh 0 0 (!w.params.followText "set-order"), DW.bind (c1 := 1) (c2 := 1) h ?_, rfl⟩
  dsimp only
  simp only [newObj]
  exact DW.bind (c1 := 1) (c2 := 0) DW.alloc DW.pure
theorem DW.unled {a : Addr} {es : Array (Int × Value)} {ep : Nat} {t : SetTable} (ho : s.heap.get? a = some (sob es ep t)) (ha : n₀ ≤ a) (hf : t.fits es.size = true) (hz : es.size ≤ 100) :
    ∃ D : Obj, DW treeTable p w n₀ ann 3 (setUnled a) s () { s with heap := s.heap.update a fun _ => D } := by
  unfold setUnled
  exact ⟨_, DW.bind (c1 := 1) (c2 := 2) (DW.state ho hf) (DW.store ho ha hz)⟩
theorem set_eval {x1 x2 x3 x4 : Str} {k1 k2 k3 k4 : Nat} {q1 q2 q3 q4 q : Pos} {cd : Addr} {oc : Obj} {vs : Array Value} (hc : env.code = .ref cd) (ho : s.heap.get? cd = some oc) (hd : oc.data = .fields vs) (hn : n₀ ≤ s.heap.objs.size)
    (h12 : x1 ≠ x2) (h13 : x1 ≠ x3) (h14 : x1 ≠ x4) (h23 : x2 ≠ x3) (h24 : x2 ≠ x4) (h34 : x3 ≠ x4) :
    ∃ o D, DW treeTable p w n₀ ann 120 (eval (.Set [.Constant (.str x1) k1 q1, .Constant (.str x2) k2 q2, .Constant (.str x3) k3 q3, .Constant (.str x4) k4 q4] 0 q) env) s (.ref s.heap.objs.size)
      { s with heap := (s.heap.push o).update s.heap.objs.size (fun _ => D), toks := s.toks + 8 } := by
  obtain ⟨b, hb⟩ := DW.main (p := p) (w := w) (n₀ := n₀) (ann := ann) hc ho hd
  obtain ⟨t0, hns, hf0⟩ := DW.newSet (p := p) (w := w) (n₀ := n₀) (ann := ann) (s := s)
  generalize ha : s.heap.objs.size = a at hns hn
  have g0 : (s.heap.push (sob #[] 0 t0)).get? a = some (sob #[] 0 t0) := by rw [← ha]; exact Heap.get?_push_size _ rfl
  -- the adds
  have add : ∀ (es : Array (Int × Value)) (ep : Nat) (t : SetTable) (l : List Value) (x : Str) (tk : Tok) (s' : Shared), s'.heap = (s.heap.push (sob #[] 0 t0)).update a (fun _ => sob es ep t) → t.fits es.size = true → Strs es l → StrsNe x l → l.length < 10 →
      ∃ es' ep' t', DW treeTable p w n₀ ann 20 (setAdd a (.str x tk)) s' true { s' with heap := (s.heap.push (sob #[] 0 t0)).update a (fun _ => sob es' ep' t'), toks := s'.toks + 1 } ∧ t'.fits es'.size = true ∧ Strs es' (l ++ [.str x tk]) := by
    intro es ep t l x tk s' hs hf hl hne hz
    have hg : s'.heap.get? a = some (sob es ep t) := by rw [hs]; exact upd_get (get_objs g0) rfl
    obtain ⟨es', ep', t', h1, h2, h3⟩ := DW.add (p := p) (w := w) (ann := ann) (tk := tk) hg hn hf hl hne (by omega)
    refine ⟨es', ep', t', ?_, h2, h3⟩
    rw [hs, upd_twice] at h1
    exact h1
  have h0 : (s.heap.push (sob #[] 0 t0)) = (s.heap.push (sob #[] 0 t0)).update a (fun _ => sob #[] 0 t0) := by
    have := upd_const (get_objs g0) id
    have e : (s.heap.push (sob #[] 0 t0)).update a id = s.heap.push (sob #[] 0 t0) := by
      have : (s.heap.push (sob #[] 0 t0)).objs.modify a id = (s.heap.push (sob #[] 0 t0)).objs := by
        apply Array.ext_getElem?
        intro i
        rw [Array.getElem?_modify]
        split <;> simp
      exact congrArg (Heap.mk · s.heap.life) this
    rw [e] at this
    exact this
  obtain ⟨e1, p1, t1, A1, f1, l1⟩ := add #[] 0 t0 [] x1 s.toks { s with heap := s.heap.push (sob #[] 0 t0), toks := s.toks + 1 + 1 + 1 + 1 } h0 hf0 (List.Perm.refl _) (fun v hv => nomatch hv) (by decide)
  obtain ⟨e2, p2, t2, A2, f2, l2⟩ := add e1 p1 t1 _ x2 (s.toks + 1) { s with heap := (s.heap.push (sob #[] 0 t0)).update a (fun _ => sob e1 p1 t1), toks := s.toks + 1 + 1 + 1 + 1 + 1 } rfl f1 l1 (by intro v hv; simp at hv; subst hv; exact ⟨_, _, rfl, h12⟩) (by simp)
  obtain ⟨e3, p3, t3, A3, f3, l3⟩ := add e2 p2 t2 _ x3 (s.toks + 1 + 1) { s with heap := (s.heap.push (sob #[] 0 t0)).update a (fun _ => sob e2 p2 t2), toks := s.toks + 1 + 1 + 1 + 1 + 1 + 1 } rfl f2 l2 (by intro v hv; simp at hv; rcases hv with rfl | rfl; exact ⟨_, _, rfl, h13⟩; exact ⟨_, _, rfl, h23⟩) (by simp)
  obtain ⟨e4, p4, t4, A4, f4, l4⟩ := add e3 p3 t3 _ x4 (s.toks + 1 + 1 + 1) { s with heap := (s.heap.push (sob #[] 0 t0)).update a (fun _ => sob e3 p3 t3), toks := s.toks + 1 + 1 + 1 + 1 + 1 + 1 + 1 } rfl f3 l3 (by intro v hv; simp at hv; rcases hv with rfl | rfl | rfl; exact ⟨_, _, rfl, h14⟩; exact ⟨_, _, rfl, h24⟩; exact ⟨_, _, rfl, h34⟩) (by simp)
  have hg4 : ({ s with heap := (s.heap.push (sob #[] 0 t0)).update a (fun _ => sob e4 p4 t4), toks := s.toks + 8 } : Shared).heap.get? a = some (sob e4 p4 t4) := upd_get (get_objs g0) rfl
  obtain ⟨D, hD⟩ := DW.unled (p := p) (w := w) (ann := ann) hg4 hn f4 (by rw [l4.size]; simp)
  rw [upd_twice] at hD
  refine ⟨sob #[] 0 t0, D, ?_⟩
  have hroad : displayRoad 0 [.Constant (.str x1) k1 q1, .Constant (.str x2) k2 q2, .Constant (.str x3) k3 q3, .Constant (.str x4) k4 q4] = .unsure := rfl
  rw [eval_Set, hroad]
  refine (DW.bind (c1 := 1) (c2 := 98) DW.stand (DW.bind (c1 := 2) (c2 := 96) hb ?_)).le (by omega)
  simp only [starEach, List.map_cons, List.map_nil]
  rw [setDisplay_eq]
  refine DW.bind (c1 := 2) (c2 := 94) hns ?_
  dsimp only
  refine DW.bind (c1 := 94) (c2 := 0) (a := ()) ?_ DW.pure
  refine DW.holding ?_
  have hev : DW treeTable p w n₀ ann 8 (evalAll [(do let v ← eval (.Constant (.str x1) k1 q1) env; standAt q; Pure.pure v), (do let v ← eval (.Constant (.str x2) k2 q2) env; standAt q; Pure.pure v), (do let v ← eval (.Constant (.str x3) k3 q3) env; standAt q; Pure.pure v), (do let v ← eval (.Constant (.str x4) k4 q4) env; standAt q; Pure.pure v)])
      { s with heap := s.heap.push (sob #[] 0 t0) } [.str x1 s.toks, .str x2 (s.toks + 1), .str x3 (s.toks + 1 + 1), .str x4 (s.toks + 1 + 1 + 1)] { s with heap := s.heap.push (sob #[] 0 t0), toks := s.toks + 1 + 1 + 1 + 1 } := by
    unfold evalAll
    refine DW.bind (c1 := 2) (c2 := 6) DW.text (DW.bind (c1 := 6) (c2 := 0) (DW.holding ?_) DW.pure)
    unfold evalAll
    refine DW.bind (c1 := 2) (c2 := 4) DW.text (DW.bind (c1 := 4) (c2 := 0) (DW.holding ?_) DW.pure)
    unfold evalAll
    refine DW.bind (c1 := 2) (c2 := 2) DW.text (DW.bind (c1 := 2) (c2 := 0) (DW.holding ?_) DW.pure)
    unfold evalAll
    refine DW.bind (c1 := 2) (c2 := 0) DW.text (DW.bind (c1 := 0) (c2 := 0) (DW.holding ?_) DW.pure)
    unfold evalAll
    exact DW.pure
  refine DW.bind (c1 := 8) (c2 := 86) hev ?_
  refine DW.bind (c1 := 86) (c2 := 0) (a := ()) (s1 := { s with heap := (s.heap.push (sob #[] 0 t0)).update a (fun _ => D), toks := s.toks + 8 }) (DW.holding ?_) ?_
  rotate_left
  · rw [List.forIn_nil]
    first | exact DW.pure | exact DW.bind (c1 := 0) (c2 := 0) DW.pure DW.pure
  have hadds : DW treeTable p w n₀ ann 80 (forIn [Value.str x1 s.toks, .str x2 (s.toks + 1), .str x3 (s.toks + 1 + 1), .str x4 (s.toks + 1 + 1 + 1)] PUnit.unit (fun x _ => do let _ ← setAdd a x; Pure.pure (ForInStep.yield PUnit.unit)))
      { s with heap := s.heap.push (sob #[] 0 t0), toks := s.toks + 1 + 1 + 1 + 1 } PUnit.unit { s with heap := (s.heap.push (sob #[] 0 t0)).update a (fun _ => sob e4 p4 t4), toks := s.toks + 8 } := by
    rw [List.forIn_cons]
    refine DW.bind (c1 := 20) (c2 := 60) (DW.bind (c1 := 20) (c2 := 0) A1 DW.pure) ?_
    dsimp only
    rw [List.forIn_cons]
    refine DW.bind (c1 := 20) (c2 := 40) (DW.bind (c1 := 20) (c2 := 0) A2 DW.pure) ?_
    dsimp only
    rw [List.forIn_cons]
    refine DW.bind (c1 := 20) (c2 := 20) (DW.bind (c1 := 20) (c2 := 0) A3 DW.pure) ?_
    dsimp only
    rw [List.forIn_cons]
    refine DW.bind (c1 := 20) (c2 := 0) (DW.bind (c1 := 20) (c2 := 0) A4 DW.pure) ?_
    dsimp only
    rw [List.forIn_nil]
    exact DW.pure
  refine (DW.bind (c1 := 80) (c2 := 4) hadds ?_).le (by omega)
  exact DW.bind (c1 := 1) (c2 := 3) DW.rule hD
end
end Hd
end
section
set_option maxRecDepth 100000
set_option linter.unusedVariables false
open PySem PySem.W PyProof.Rows
namespace Hd
abbrev pw : Program := PySem.Challenge.pw_fc0003_07
def setSt : Stmt := ((behindTheImports pw).drop 25).headD (.Pass ⟨0, 0, 0, 0⟩)
def tName : Stmt → Str
  | .Assign [.Name x _] _ _ => x
  | _ => ⟨#[]⟩
def tPos : Stmt → Pos
  | .Assign [.Name _ p] _ _ => p
  | _ => ⟨0, 0, 0, 0⟩
noncomputable def runA (w : World) (p : Program) (b : List Stmt) (os : OsState) := segRunT treeTable p w 11 (some (.ref 6)) 1 335 (stT (Hd.sh.tree_291 w.params) 279 563 os)
  (piecesOf (Hd.sh.sts_293.take 7) Hd.sh.env_1 (.body b Hd.sh.env_1) ⟨163, 0, 164, 8⟩ [topFrame ⟨0, 0, 0, 0⟩])
theorem runA_rfl : @runA = runA := rfl
name_quick qA for runA by runA_rfl
noncomputable def tA (w : World) (p : Program) (b : List Stmt) (os : OsState) : BT := match PySem.W.Fast.qA w p b os with
  | some (_, s, _) => s.tree
  | none => .nil
theorem pA (w : World) (p : Program) (b : List Stmt) (os : OsState) : runA w p b os = some (.next, stT (tA w p b os) 295 600 os, .body b Hd.sh.env_1, ⟨174, 0, 174, 7⟩) := by
  rw [show @runA = _ from PySem.W.Fast.qA_eq]
  kernel_rfl
theorem pieceA (w : World) (p : Program) (b : List Stmt) (os : OsState) : segRun treeTable p w 11 (some (.ref 6)) 1 335 (stT (Hd.sh.tree_291 w.params) 279 563 os).abs
  (piecesOf (Hd.sh.sts_293.take 7) Hd.sh.env_1 (.body b Hd.sh.env_1) ⟨163, 0, 164, 8⟩ [topFrame ⟨0, 0, 0, 0⟩]) = some (.next, (stT (tA w p b os) 295 600 os).abs, .body b Hd.sh.env_1, ⟨174, 0, 174, 7⟩) := segRun_of (pA w p b os)
theorem tA_ins (w : World) (p : Program) (b : List Stmt) (os : OsState) (o : Obj) : ((tA w p b os).ins 295 o).get 295 = some o := by kernel_rfl
noncomputable def oC (w : World) (p : Program) (b : List Stmt) (os : OsState) : Obj := ((tA w p b os).get 13).getD default
theorem tA_code (w : World) (p : Program) (b : List Stmt) (os : OsState) : (tA w p b os).get 13 = some (oC w p b os) := by kernel_rfl
theorem oC_alive (w : World) (p : Program) (b : List Stmt) (os : OsState) : alive (oC w p b os) = some (oC w p b os) := by kernel_rfl
theorem oC_fields (w : World) (p : Program) (b : List Stmt) (os : OsState) : (oC w p b os).data = .fields (match (oC w p b os).data with | .fields vs => vs | _ => #[]) := by kernel_rfl
noncomputable def runS (D o : Obj) (pos : Pos) (w : World) (p : Program) (b : List Stmt) (os : OsState) := segRunT treeTable p w 11 (some (.ref 6)) 1 30 (stT (at_ ((tA w p b os).ins 295 o) D) 296 608 os)
  ⟨(do standAt (tPos setSt); bindName Hd.sh.env_1 (tName setSt) (.ref 295); pure Flow.next : Sem Flow).wrap doneF deadEnd id id, .body b Hd.sh.env_1, pos, [topFrame ⟨0, 0, 0, 0⟩]⟩
theorem runS_rfl : @runS = runS := rfl
name_quick qS for runS by runS_rfl
theorem pS (D o : Obj) (pos : Pos) (w : World) (p : Program) (b : List Stmt) (os : OsState) : runS D o pos w p b os = some (.next, stT (at_ (Hd.sh.tree_311 w.params) D) 296 609 os, .body b Hd.sh.env_1, ⟨175, 0, 175, 23⟩) := by
  rw [show @runS = _ from PySem.W.Fast.qS_eq]
  kernel_rfl
end Hd
end
section
set_option maxRecDepth 100000
set_option linter.unusedVariables false
open PySem PySem.W PyProof.Rows
namespace Hd
theorem body_eq : behindTheImports pw = Hd.sh.sts_4 ++ (Hd.sh.sts_29 ++ (Hd.sh.sts_53 ++ (Hd.sh.sts_83 ++ (Hd.sh.sts_178 ++ (Hd.sh.sts_216 ++ (Hd.sh.sts_268 ++ (Hd.sh.sts_293.take 7 ++ ([setSt] ++ (Hd.sh.sts_313 ++ (Hd.sh.sts_331 ++ (Hd.sh.sts_356 ++ (Hd.sh.sts_380 ++ (Hd.sh.sts_404 ++ (Hd.sh.sts_435 ++ (Hd.sh.sts_940 ++ []))))))))))))))) := by kernel_rfl
abbrev bE : List Stmt := behindTheImports pw
section
variable {w : World} {os : OsState}
abbrev E1 (w : World) (F : Shared → Prop) (N : Nat) (s : Shared) (t : Thread) : Prop := Ends treeTable pw w 11 (some (.ref 6)) F N s t
abbrev q0 : Pos := ⟨0, 0, 0, 0⟩
theorem Ends.piece {F : Shared → Prop} {n N : Nat} {s s' : Shared} {l rest : List Stmt} {env : Env} {c : Code} {pos p' : Pos} (h : segRun treeTable pw w 11 (some (.ref 6)) 1 n s (piecesOf l env c pos [topFrame q0]) = some (.next, s', c, p'))
    (k : E1 w F N s' (restOf rest env c p' [topFrame q0])) : E1 w F (n + N) s (restOf (l ++ rest) env c pos [topFrame q0]) := by
  obtain ⟨r, h1, h2⟩ := k
  exact ⟨r, piece_app h h1, h2⟩
theorem Ends.bind {α : Type} {F : Shared → Prop} {c N : Nat} {s s1 : Shared} {m : Sem α} {β : Type} {f : α → Sem β} {a : α} {K : β → Sem PySem.Fin} {H : Value → Sem PySem.Fin} {gd : Bool → Bool} {lv : List Value → List Value} {code : Code} {pos : Pos} {stack : List Frame}
    (h : DW treeTable pw w 11 (some (.ref 6)) c m s a s1) (k : ∀ pos', E1 w F N s1 ⟨(f a).wrap K H gd lv, code, pos', stack⟩) : E1 w F (N + c) s ⟨(m >>= f).wrap K H gd lv, code, pos, stack⟩ := by
  rw [Sem.bind_eq_wrap', Sem.wrap_wrap]
  exact h F _ _ _ _ code pos stack N k
def sOk : Stmt → Bool
  | .Assign [.Name _ _] (.Set [.Constant (.str x1) _ _, .Constant (.str x2) _ _, .Constant (.str x3) _ _, .Constant (.str x4) _ _] 0 _) _ => x1 != x2 && x1 != x3 && x1 != x4 && x2 != x3 && x2 != x4 && x3 != x4
  | _ => false
theorem set_shape {st : Stmt} (h : sOk st = true) : ∃ x1 x2 x3 x4 k1 k2 k3 k4 q1 q2 q3 q4 q p3, st = .Assign [.Name (tName st) (tPos st)] (.Set [.Constant (.str x1) k1 q1, .Constant (.str x2) k2 q2, .Constant (.str x3) k3 q3, .Constant (.str x4) k4 q4] 0 q) p3 ∧
    (x1 ≠ x2 ∧ x1 ≠ x3 ∧ x1 ≠ x4 ∧ x2 ≠ x3 ∧ x2 ≠ x4 ∧ x3 ≠ x4) := by
  unfold sOk at h
  split at h
  · simp only [Bool.and_eq_true, bne_iff_ne, ne_eq] at h
    exact ⟨_, _, _, _, _, _, _, _, _, _, _, _, _, _, rfl, h.1.1.1.1.1, h.1.1.1.1.2, h.1.1.1.2, h.1.1.2, h.1.2, h.2⟩
  · cases h
theorem set_ok : sOk setSt = true := by kernel_rfl
abbrev tailC (st : Stmt) (env : Env) : Sem Flow := do standAt (tPos st); bindName env (tName st) (.ref 295); pure Flow.next
theorem packA (w : World) (os : OsState) : ∃ (T : BT) (oc : Obj) (vs : Array Value), segRun treeTable pw w 11 (some (.ref 6)) 1 335 (stT (Hd.sh.tree_291 w.params) 279 563 os).abs
    (piecesOf (Hd.sh.sts_293.take 7) Hd.sh.env_1 (.body bE Hd.sh.env_1) ⟨163, 0, 164, 8⟩ [topFrame q0]) = some (.next, (stT T 295 600 os).abs, .body bE Hd.sh.env_1, ⟨174, 0, 174, 7⟩) ∧
    (∀ o, (T.ins 295 o).get 295 = some o) ∧ T.get 13 = some oc ∧ alive oc = some oc ∧ oc.data = .fields vs ∧
    ∀ D o pos, segRun treeTable pw w 11 (some (.ref 6)) 1 30 (stT (at_ (T.ins 295 o) D) 296 608 os).abs ⟨(tailC setSt Hd.sh.env_1).wrap doneF deadEnd id id, .body bE Hd.sh.env_1, pos, [topFrame q0]⟩ =
      some (.next, (stT (at_ (Hd.sh.tree_311 w.params) D) 296 609 os).abs, .body bE Hd.sh.env_1, ⟨175, 0, 175, 23⟩) :=
  ⟨tA w pw bE os, oC w pw bE os, _, pieceA w pw bE os, tA_ins w pw bE os, tA_code w pw bE os, oC_alive w pw bE os, oC_fields w pw bE os, fun D o pos => segRun_of (pS D o pos w pw bE os)⟩
theorem swaps {x : Str} {p' : Pos} {es : List PySem.Expr} {q : Pos} {n : Nat} {env : Env} : swapsWith (.Set es 0 q) (some (.Name x p')) n env = pure false := rfl
section
variable {st : Stmt} {env : Env} {b : List Stmt} {T : BT} {oc : Obj} {vs : Array Value} {S' : Obj → Shared} {p1 p2 : Pos} {F : Shared → Prop} {N : Nat} {rest : List Stmt}
theorem Ends.set (hst : sOk st = true) (hins : ∀ o, (T.ins 295 o).get 295 = some o) (hc : T.get 13 = some oc) (ha : alive oc = some oc) (hf : oc.data = .fields vs) (hec : env.code = .ref 13)
    (hS : ∀ D o pos, segRun treeTable pw w 11 (some (.ref 6)) 1 30 (stT (at_ (T.ins 295 o) D) 296 608 os).abs ⟨(tailC st env).wrap doneF deadEnd id id, .body b env, pos, [topFrame q0]⟩ = some (.next, S' D, .body b env, p2))
    (k : ∀ D, E1 w F N (S' D) (restOf rest env (.body b env) p2 [topFrame q0])) :
    E1 w F (30 + N + 121) (stT T 295 600 os).abs (restOf ([st] ++ rest) env (.body b env) p1 [topFrame q0]) := by
  obtain ⟨x1, x2, x3, x4, k1, k2, k3, k4, q1, q2, q3, q4, q, p3, hs, h12, h13, h14, h23, h24, h34⟩ := set_shape hst
  have hsize : (absHeap T 295 {}).objs.size = 295 := absHeap_size _ _ _
  have hcode : (absHeap T 295 {}).get? 13 = some oc := (abs_get (by decide) hc).trans ha
  have hx : exec st env = (standAt p3 >>= fun _ => eval (.Set [.Constant (.str x1) k1 q1, .Constant (.str x2) k2 q2, .Constant (.str x3) k3 q3, .Constant (.str x4) k4 q4] 0 q) env >>= fun v => (do standAt (tPos st); bindName env (tName st) v; pure Flow.next)) := by
    have h := exec_Assign_Name (env := env) (tName st) (tPos st) (.Set [.Constant (.str x1) k1 q1, .Constant (.str x2) k2 q2, .Constant (.str x3) k3 q3, .Constant (.str x4) k4 q4] 0 q) p3 swaps
    rw [← hs] at h
    exact h
  obtain ⟨o, D, hD⟩ := set_eval (p := pw) (w := w) (n₀ := 11) (ann := some (.ref 6)) (env := env) (s := ⟨absHeap T 295 {}, #[], {}, 600, os⟩) (k1 := k1) (k2 := k2) (k3 := k3) (k4 := k4) (q1 := q1) (q2 := q2) (q3 := q3) (q4 := q4) (q := q) hec hcode hf (by show 11 ≤ (absHeap T 295 {}).objs.size; rw [hsize]; decide) h12 h13 h14 h23 h24 h34
  have hheap : ((absHeap T 295 {}).push o).update 295 (fun _ => D) = absHeap ((T.ins 295 o).set 295 fun _ => D) 296 {} := by
    rw [absHeap_set (hins o), absHeap_ins (by rw [hins]; rfl)]
  have hD' : DW treeTable pw w 11 (some (.ref 6)) 120 (eval (.Set [.Constant (.str x1) k1 q1, .Constant (.str x2) k2 q2, .Constant (.str x3) k3 q3, .Constant (.str x4) k4 q4] 0 q) env) ⟨absHeap T 295 {}, #[], {}, 600, os⟩ (.ref 295) ⟨absHeap ((T.ins 295 o).set 295 fun _ => D) 296 {}, #[], {}, 608, os⟩ := by
    rw [← hheap]
    simp only [hsize] at hD
    exact hD
  show E1 w F (30 + N + 121) ⟨absHeap T 295 {}, #[], {}, 600, os⟩ _
  unfold restOf
  rw [List.singleton_append, execs_cons_wrap, hx]
  refine Ends.bind (c := 1) (N := 30 + N + 120) DW.stand fun _ => ?_
  refine Ends.bind (c := 120) hD' fun pos' => ?_
  obtain ⟨r, h1, h2⟩ := k D
  obtain ⟨a, ha, hN⟩ := seg_top (res := id) (K' := fun f => match f with | .next => (execs rest env).wrap doneF (leaveH env) id id | f => doneF f) (H' := leaveH env) (B := [topFrame q0]) rfl 30 _ ⟨(tailC st env).wrap doneF deadEnd id id, .body b env, pos', [topFrame q0]⟩
    ⟨(tailC st env).wrap (fun f => match f with | .next => (execs rest env).wrap doneF (leaveH env) id id | f => doneF f) (leaveH env) id id, .body b env, pos', [topFrame q0]⟩ _ _ _ _ ⟨rfl, rfl, .inl ⟨rfl, rfl, _, rfl, rfl⟩⟩ (hS D o pos')
  obtain rfl : a = .next := ha
  exact ⟨r, hN N r h1, h2⟩
end
theorem chain8 {F : Shared → Prop} {S0 S1 S2 S3 S4 S5 S6 S7 S8 : Shared} {l0 l1 l2 l3 l4 l5 l6 l7 rest : List Stmt} {p0 p1 p2 p3 p4 p5 p6 p7 p8 : Pos} {n0 n1 n2 n3 n4 n5 n6 n7 N : Nat} {env : Env} {c : Code} (h0 : segRun treeTable pw w 11 (some (.ref 6)) 1 n0 S0 (piecesOf l0 env c p0 [topFrame q0]) = some (.next, S1, c, p1)) (h1 : segRun treeTable pw w 11 (some (.ref 6)) 1 n1 S1 (piecesOf l1 env c p1 [topFrame q0]) = some (.next, S2, c, p2)) (h2 : segRun treeTable pw w 11 (some (.ref 6)) 1 n2 S2 (piecesOf l2 env c p2 [topFrame q0]) = some (.next, S3, c, p3)) (h3 : segRun treeTable pw w 11 (some (.ref 6)) 1 n3 S3 (piecesOf l3 env c p3 [topFrame q0]) = some (.next, S4, c, p4)) (h4 : segRun treeTable pw w 11 (some (.ref 6)) 1 n4 S4 (piecesOf l4 env c p4 [topFrame q0]) = some (.next, S5, c, p5)) (h5 : segRun treeTable pw w 11 (some (.ref 6)) 1 n5 S5 (piecesOf l5 env c p5 [topFrame q0]) = some (.next, S6, c, p6)) (h6 : segRun treeTable pw w 11 (some (.ref 6)) 1 n6 S6 (piecesOf l6 env c p6 [topFrame q0]) = some (.next, S7, c, p7)) (h7 : segRun treeTable pw w 11 (some (.ref 6)) 1 n7 S7 (piecesOf l7 env c p7 [topFrame q0]) = some (.next, S8, c, p8)) (k : E1 w F N S8 (restOf rest env c p8 [topFrame q0])) : E1 w F (n0 + (n1 + (n2 + (n3 + (n4 + (n5 + (n6 + (n7 + N)))))))) S0 (restOf (l0 ++ (l1 ++ (l2 ++ (l3 ++ (l4 ++ (l5 ++ (l6 ++ (l7 ++ rest)))))))) env c p0 [topFrame q0]) :=
  Ends.piece h0 <| Ends.piece h1 <| Ends.piece h2 <| Ends.piece h3 <| Ends.piece h4 <| Ends.piece h5 <| Ends.piece h6 <| Ends.piece h7 <| k
theorem chain7 {F : Shared → Prop} {S0 S1 S2 S3 S4 S5 S6 S7 : Shared} {l0 l1 l2 l3 l4 l5 l6 rest : List Stmt} {p0 p1 p2 p3 p4 p5 p6 p7 : Pos} {n0 n1 n2 n3 n4 n5 n6 N : Nat} {env : Env} {c : Code} (h0 : segRun treeTable pw w 11 (some (.ref 6)) 1 n0 S0 (piecesOf l0 env c p0 [topFrame q0]) = some (.next, S1, c, p1)) (h1 : segRun treeTable pw w 11 (some (.ref 6)) 1 n1 S1 (piecesOf l1 env c p1 [topFrame q0]) = some (.next, S2, c, p2)) (h2 : segRun treeTable pw w 11 (some (.ref 6)) 1 n2 S2 (piecesOf l2 env c p2 [topFrame q0]) = some (.next, S3, c, p3)) (h3 : segRun treeTable pw w 11 (some (.ref 6)) 1 n3 S3 (piecesOf l3 env c p3 [topFrame q0]) = some (.next, S4, c, p4)) (h4 : segRun treeTable pw w 11 (some (.ref 6)) 1 n4 S4 (piecesOf l4 env c p4 [topFrame q0]) = some (.next, S5, c, p5)) (h5 : segRun treeTable pw w 11 (some (.ref 6)) 1 n5 S5 (piecesOf l5 env c p5 [topFrame q0]) = some (.next, S6, c, p6)) (h6 : segRun treeTable pw w 11 (some (.ref 6)) 1 n6 S6 (piecesOf l6 env c p6 [topFrame q0]) = some (.next, S7, c, p7)) (k : E1 w F N S7 (restOf rest env c p7 [topFrame q0])) : E1 w F (n0 + (n1 + (n2 + (n3 + (n4 + (n5 + (n6 + N))))))) S0 (restOf (l0 ++ (l1 ++ (l2 ++ (l3 ++ (l4 ++ (l5 ++ (l6 ++ rest))))))) env c p0 [topFrame q0]) :=
  Ends.piece h0 <| Ends.piece h1 <| Ends.piece h2 <| Ends.piece h3 <| Ends.piece h4 <| Ends.piece h5 <| Ends.piece h6 <| k
theorem top_of {b l : List Stmt} {F : Shared → Prop} {N : Nat} {s : Shared} {env : Env} {c : Code} {p : Pos} (e : b = l) (h : E1 w F N s (restOf l env c p [topFrame q0])) : E1 w F N s (restOf b env c p [topFrame q0]) := e ▸ h
theorem top_run (w : World) (os : OsState) : E1 w (fun r => ∃ D, r = (stT (at_ (Hd.sh.tree_970 w.params) D) 706 1305 os).abs) (8000) (stT (Hd.sh.tree_4 w.params) 15 187 os).abs (restOf bE Hd.sh.env_1 (.body bE Hd.sh.env_1) q0 [topFrame q0]) := by
  refine top_of body_eq ?_
  obtain ⟨T, oc, vs, a1, a2, a3, a4, a5, a6⟩ := packA w os
  have k := fun D => chain7 (F := fun r => ∃ D, r = (stT (at_ (Hd.sh.tree_970 w.params) D) 706 1305 os).abs) (N := 2) (rest := []) (piece7 D w pw bE os) (piece8 D w pw bE os) (piece9 D w pw bE os) (piece10 D w pw bE os) (piece11 D w pw bE os) (piece12 D w pw bE os) (piece13 D w pw bE os) ⟨_, rfl, D, rfl⟩
  have k2 := Ends.set (p1 := ⟨174, 0, 174, 7⟩) set_ok a2 a3 a4 a5 rfl a6 k
  have k3 := chain8 (piece0 w pw bE os) (piece1 w pw bE os) (piece2 w pw bE os) (piece3 w pw bE os) (piece4 w pw bE os) (piece5 w pw bE os) (piece6 w pw bE os) a1 k2
  exact k3.le (by decide)
end
end Hd
end
section
set_option maxRecDepth 100000
set_option linter.unusedVariables false
open PySem PySem.W PyProof.Rows
namespace Hd
theorem boot_ (w : World) : (fencedOpening treeTable pw w 20000).map (fun s => (s.heap, s.gens, s.drawn, s.toks)) = some (boot_heap w.params, Array.mk [], boot_drawn, boot_toks) :=
  boot_open (p := pw) (by rfl) (by decide) (fun s => by rfl) w
noncomputable def size (w : World) := ((boot_heap w.params).isNs mainGlobals && (#[] : Array GenState).size == 0, (boot_heap w.params).objs.size, (boot_heap w.params).nsMap mainGlobals "__annotations__")
theorem size_rfl : @size = size := rfl
name_quick qsize for size by size_rfl
theorem size_eq (w : World) : size w = (true, 11, some (.ref 6)) := by
  rw [show @size = _ from PySem.W.Fast.qsize_eq]
  kernel_rfl
noncomputable def pre (w : World) (os : OsState) := topGo treeTable pw w 11 (some (.ref 6)) 12 ⟨boot_heap w.params, #[], boot_drawn, boot_toks, os⟩ (topStub pw)
theorem pre_rfl : @pre = pre := rfl
name_quick qpre for pre by pre_rfl
noncomputable def preT (w : World) (os : OsState) : Option (Shared × Thread) := some ((stT (Hd.sh.tree_4 w.params) 15 187 os).abs, ⟨denote treeTable (.body bE Hd.sh.env_1), .body bE Hd.sh.env_1, q0, [topFrame q0]⟩)
theorem preT_rfl : @preT = preT := rfl
name_quick qpreT for preT by preT_rfl
theorem pre_eq (w : World) (os : OsState) : pre w os = preT w os := by
  rw [show @pre = _ from PySem.W.Fast.qpre_eq, show @preT = _ from PySem.W.Fast.qpreT_eq]
  kernel_rfl
theorem block_eq (w : World) (s : Shared) : segRun treeTable pw w 11 (some (.ref 6)) 1 1 s (blockOf bE Hd.sh.env_1 (.body bE Hd.sh.env_1) q0 [topFrame q0]) = some (.next, s, .body bE Hd.sh.env_1, q0) := by kernel_rfl
theorem pre_chain {w : World} {F : Shared → Prop} {S0 Sa : Shared} {k N : Nat} {b : List Stmt} {env : Env} {stub : Thread} (h : topGo treeTable pw w 11 (some (.ref 6)) k S0 stub = some (Sa, ⟨denote treeTable (.body b env), .body b env, q0, [topFrame q0]⟩))
    (hb : segRun treeTable pw w 11 (some (.ref 6)) 1 1 Sa (blockOf b env (.body b env) q0 [topFrame q0]) = some (.next, Sa, .body b env, q0)) (h1 : E1 w F N Sa (restOf b env (.body b env) q0 [topFrame q0])) : E1 w F (k + (1 + N)) S0 stub := by
  obtain ⟨r, h1, h2⟩ := h1
  exact ⟨r, go_top h (piece_block hb h1), h2⟩
theorem whole (w : World) (os : OsState) : E1 w (fun r => ∃ D, r = (stT (at_ (Hd.sh.tree_970 w.params) D) 706 1305 os).abs) 20000 ⟨boot_heap w.params, #[], boot_drawn, boot_toks, os⟩ (topStub pw) := by
  have h := pre_chain (pre_eq w os) (block_eq w _) (top_run w os)
  exact h.le (by decide)
end Hd
end
section
set_option maxRecDepth 100000
set_option linter.unusedVariables false
open PySem PySem.W PyProof.Rows
namespace Hd
def lawName : Str := PySem.Str.ofString "law"
def vw : Program := view pw [39]
def loose : List Str := pw.boundNames.filter fun n => !(n == lawName)
noncomputable abbrev stF (D : Obj) (w : World) (os : OsState) : Shared := (stT (at_ (Hd.sh.tree_970 w.params) D) 706 1305 os).abs
noncomputable def look1 (D : Obj) (w : World) (os : OsState) : Bool := staticsOk (importedModules pw.main.body) (boot_heap w.params) (stF D w os).heap && namesBound pw (stF D w os).heap && gensDone (stF D w os) && laidKept (boot_heap w.params) (stF D w os).heap
theorem look1_rfl : @look1 = look1 := rfl
name_quick ql1 for look1 by look1_rfl
theorem look1_eq (D : Obj) (w : World) (os : OsState) : look1 D w os = true := by
  rw [show @look1 = _ from PySem.W.Fast.ql1_eq]
  kernel_rfl
noncomputable def look2 (D : Obj) (w : World) (os : OsState) := openSeen vw loose (importedModules pw.main.body) (fun _ => true) true (stF D w os)
theorem look2_rfl : @look2 = look2 := rfl
name_quick ql2 for look2 by look2_rfl
noncomputable def good2 (w : World) := openGood vw loose
theorem good2_rfl : @good2 = good2 := rfl
name_quick qg2 for good2 by good2_rfl
theorem look2_eq (D : Obj) (w : World) (os : OsState) : look2 D w os = good2 w := by
  rw [show @look2 = _ from PySem.W.Fast.ql2_eq, show @good2 = _ from PySem.W.Fast.qg2_eq]
  kernel_rfl
end Hd
end
section
set_option maxRecDepth 100000
set_option linter.unusedVariables false
open PySem PySem.W PyProof.Rows
namespace Hd
abbrev row : OpenRow := PySem.Challenge.rw_fc0003_07.row
theorem openEnds_of {p : Program} {w : World} {N m : Nat} {an : Option Value} {s₀ s₁ : Shared} (e : fencedOpening treeTable p w N = some s₀) (z1 : (s₀.heap.isNs mainGlobals && s₀.gens.size == 0) = true) (z2 : s₀.heap.objs.size = m) (z3 : s₀.heap.nsMap mainGlobals "__annotations__" = an)
    (hr : topRun treeTable p w m an N s₀ (topStub p) = some s₁) (l : (staticsOk (importedModules p.main.body) s₀.heap s₁.heap && namesBound p s₁.heap && gensDone s₁ && laidKept s₀.heap s₁.heap) = true) : openEnds treeTable p w N = some s₁ := by
  subst z2 z3
  unfold openEnds topFrom
  rw [e]
  show (match s₀.heap.isNs mainGlobals && s₀.gens.size == 0 with | true => _ | false => _) = _
  rw [z1]
  dsimp only
  rw [hr]
  show (match _ with | true => some s₁ | false => none) = _
  rw [l]
theorem boot_some (w : World) : ∃ os, fencedOpening treeTable pw w 20000 = some ⟨boot_heap w.params, #[], boot_drawn, boot_toks, os⟩ := by
  obtain ⟨⟨h, gs, d, k, os⟩, e, e'⟩ := Option.map_eq_some_iff.mp (boot_ w)
  obtain ⟨rfl, e'⟩ := Prod.mk.inj e'
  obtain ⟨rfl, e'⟩ := Prod.mk.inj e'
  obtain ⟨rfl, rfl⟩ := Prod.mk.inj e'
  exact ⟨os, e⟩
theorem look1_open {D : Obj} {w : World} {os : OsState} (h : look1 D w os = true) : (staticsOk (importedModules pw.main.body) (boot_heap w.params) (stF D w os).heap && namesBound pw (stF D w os).heap && gensDone (stF D w os) && laidKept (boot_heap w.params) (stF D w os).heap) = true := h
theorem size_open {w : World} (z : size w = (true, 11, some (.ref 6))) : ((boot_heap w.params).isNs mainGlobals && (#[] : Array GenState).size == 0) = true ∧ (boot_heap w.params).objs.size = 11 ∧ (boot_heap w.params).nsMap mainGlobals "__annotations__" = some (.ref 6) := by
  unfold size at z
  obtain ⟨z1, z⟩ := Prod.mk.inj z
  obtain ⟨z2, z3⟩ := Prod.mk.inj z
  exact ⟨z1, z2, z3⟩
theorem ends (w : World) : ∃ D os, openEnds treeTable pw w 20000 = some (stF D w os) := by
  obtain ⟨os, e⟩ := boot_some w
  obtain ⟨z1, z2, z3⟩ := size_open (size_eq w)
  obtain ⟨r, hr, D, rfl⟩ := whole w os
  exact ⟨D, os, openEnds_of e z1 z2 z3 hr (look1_open (look1_eq D w os))⟩
noncomputable def Ya (w : World) : Heap := ((openEnds treeTable pw w 20000).map (·.heap)).getD default
theorem Ya_of {p : Program} {w : World} {N : Nat} {s : Shared} (e : openEnds treeTable p w N = some s) : ((openEnds treeTable p w N).map (·.heap)).getD default = s.heap := by rw [e]; rfl
theorem Ya_eq (w : World) : ∃ D os, openEnds treeTable pw w 20000 = some (stF D w os) ∧ Ya w = (stF D w os).heap := by
  obtain ⟨D, os, e⟩ := ends w
  exact ⟨D, os, e, Ya_of e⟩
theorem left_of {p q : Program} {loose : List Str} {Ya : World → Heap} {N : Nat} (h : ∀ w, ∃ s, openEnds treeTable p w N = some s ∧ openSeen q loose (importedModules p.main.body) (fun _ => true) true s = openGood q loose ∧ Ya w = s.heap) : LeftO p q loose (fun _ => true) (fun s => s.heap) Ya N := fun w => by
  obtain ⟨s, e, l, hy⟩ := h w
  rw [e, hy]
  exact congrArg some (Prod.ext l rfl)
theorem look2_open {D : Obj} {w : World} {os : OsState} (h : look2 D w os = good2 w) : openSeen vw loose (importedModules pw.main.body) (fun _ => true) true (stF D w os) = openGood vw loose := h
theorem left : LeftO pw vw loose (fun _ => true) (fun s => s.heap) Ya 20000 := left_of fun w =>
  let ⟨D, os, e, hy⟩ := Ya_eq w
  ⟨stF D w os, e, look2_open (look2_eq D w os), hy⟩
def YP (w : World) (h : Heap) : Prop := ∃ D, ∀ b o, (absHeap (at_ (Hd.sh.tree_970 w.params) D) 706 {}).get? b = some o → h.get? b = some o
theorem stF_heap (D : Obj) (w : World) (os : OsState) : (stF D w os).heap = absHeap (at_ (Hd.sh.tree_970 w.params) D) 706 {} := rfl
theorem hY_of {h h' : Heap} {T : Heap} (e : h = h') (e2 : h' = T) : ∀ b o, T.get? b = some o → h.get? b = some o := fun b o hb => by rw [e, e2]; exact hb
theorem hY (w : World) (s : Shared) (h : s.heap = Ya w) : YP w s.heap := by
  obtain ⟨D, os, e, hy⟩ := Ya_eq w
  exact ⟨D, hY_of (h.trans hy) (stF_heap D w os)⟩
theorem hYk (w : World) (h h' : Heap) (x : YP w h) (k : ∀ b o, h.get? b = some o → h'.get? b = some o) : YP w h' := x.imp fun D hD b o hb => k b o (hD b o hb)
noncomputable def dLaw : DefRec := match defOf vw lawName with
  | some (d, _) => d
  | none => (recsOf vw).headD ⟨lawName, ⟨[], [], none, [], [], none, []⟩, [], pw.main.scope, ⟨0, 0, 0, 0⟩⟩
theorem hdef : defOf vw lawName = some (dLaw, []) := by kernel_rfl
theorem hp : pw.theDef lawName = some (dLaw.params, dLaw.body, dLaw.scope) := by kernel_rfl
theorem hk : kwWritten? dLaw.params.kwonlyargs dLaw.params.kw_defaults = some [] := by kernel_rfl
theorem chains : (chainsOk vw && opensWell pw && (frees row.toRowW && row.within.isEmpty)) = true := by decide +kernel
abbrev Walk : Prop := WalkO vw loose (fun _ _ => True) YP row.toRowW dLaw [] fun f vs => PySem.call f vs
set_option maxHeartbeats 8000000 in
theorem reduce (call : Walk) : PySem.Challenge.rw_fc0003_07.Holds := by
  o_law
  exact holds_open (r := row) (q := vw) (loose := loose) (Xt := fun _ => true) (XP := fun _ _ => True) (Yf := fun s => s.heap) (Ya := Ya) (YP := YP) (N := 20000) left hY hYk (fun _ _ => trivial) (fun _ _ _ _ _ => trivial)
    hdef hp hk (fun s _ => recFacts_of rfl) rfl (by first | assumption | decide +kernel) chains ⟨rfl, rfl, rfl, rfl, rfl, by decide +kernel⟩ ⟨[.list []], by decide +kernel, by decide +kernel⟩ call
end Hd
end
section
set_option maxRecDepth 100000
set_option linter.unusedVariables false
namespace Sm
open PySem
inductive Bi where
  | len | max | min | chr | ord | sum | isinstance | all | any | zip | enumerate | sorted | bool_
  | sEncode | sFind | sFormat | sJoin | sUpper | sLower | sStrip | sLstrip | sRstrip | sSplit | sPartition | sRpartition | sIsalnum | sIsdigit | sStartswith
  | bFind | bStrip | bRstrip | bPartition | bUpper | bLower | bJoin | bDecode | bSplit | bStartswith | bEndswith
  | iToBytes | iFromBytes
  | lAppend | lExtend | lSort
  | dGet | dItems | dValues | dKeys | dPop
  deriving DecidableEq, Inhabited
def Bi.id : Bi → String
  | .len => "len" | .max => "max" | .min => "min" | .chr => "chr" | .ord => "ord" | .sum => "sum" | .isinstance => "isinstance" | .all => "all" | .any => "any"
  | .zip => "zip" | .enumerate => "enumerate" | .sorted => "sorted" | .bool_ => "bool"
  | .sEncode => "str.encode" | .sFind => "str.find" | .sFormat => "str.format" | .sJoin => "str.join" | .sUpper => "str.upper" | .sLower => "str.lower" | .sStrip => "str.strip"
  | .sLstrip => "str.lstrip" | .sRstrip => "str.rstrip" | .sSplit => "str.split" | .sPartition => "str.partition" | .sRpartition => "str.rpartition" | .sIsalnum => "str.isalnum"
  | .sIsdigit => "str.isdigit" | .sStartswith => "str.startswith"
  | .bFind => "bytes.find" | .bStrip => "bytes.strip" | .bRstrip => "bytes.rstrip" | .bPartition => "bytes.partition" | .bUpper => "bytes.upper" | .bLower => "bytes.lower"
  | .bJoin => "bytes.join" | .bDecode => "bytes.decode" | .bSplit => "bytes.split" | .bStartswith => "bytes.startswith" | .bEndswith => "bytes.endswith"
  | .iToBytes => "int.to_bytes" | .iFromBytes => "int.from_bytes"
  | .lAppend => "list.append" | .lExtend => "list.extend" | .lSort => "list.sort"
  | .dGet => "dict.get" | .dItems => "dict.items" | .dValues => "dict.values" | .dKeys => "dict.keys" | .dPop => "dict.pop"
inductive Ty where
  | range | bytes | list | dict | tuple | str | int | bool | none | obj | excep (n : String)
  deriving DecidableEq, Inhabited
def Ty.name : Ty → String
  | .range => "range" | .bytes => "bytes" | .list => "list" | .dict => "dict" | .tuple => "tuple" | .str => "str" | .int => "int" | .bool => "bool" | .none => "NoneType" | .obj => "object" | .excep n => n
inductive AV where
  | none | bool (b : Bool) | int (i : Int) | str (s : Str) | bytes (b : Array UInt8)
  | tup (xs : List AV) | fls (xs : List AV) | rng (lo hi st : Int)
  | ref (i : Nat) | glob (a : Addr) | type (n : Ty) | builtin (id : Bi)
  deriving Inhabited
inductive AObj where
  | inst (C : Addr) (fs : List (Nat × AV))
  | list (xs : List AV)
  | dict (kvs : List (Str × AV))
  | exc (cls : Value) (args : List AV) (fs : List (Nat × AV)) (tb : Bool)
  deriving Inhabited
inductive Imm where
  | tup (vs : List Value) | lst (vs : List Value) | rng (lo hi st : Int)
structure Kw where
  rho : Nat → Option Addr
  imm : Addr → Option Imm
structure Kw.le (κ κ' : Kw) : Prop where
  rho : ∀ i a, κ.rho i = some a → κ'.rho i = some a
  imm : ∀ a vs, κ.imm a = some vs → κ'.imm a = some vs
theorem Kw.le.refl (κ : Kw) : κ.le κ := ⟨fun _ _ h => h, fun _ _ h => h⟩
theorem Kw.le.trans {a b c : Kw} (x : a.le b) (y : b.le c) : a.le c := ⟨fun i v h => y.rho i v (x.rho i v h), fun i v h => y.imm i v (x.imm i v h)⟩
mutual
inductive VRel (κ : Kw) : AV → Value → Prop
  | none : VRel κ .none .none
  | bool (b) : VRel κ (.bool b) (.bool b)
  | int (i t) : VRel κ (.int i) (.int i t)
  | str (x t) : VRel κ (.str x) (.str x t)
  | bytes (x t) : VRel κ (.bytes x) (.bytes x t)
  | tup {a xs vs} (hi : κ.imm a = some (.tup vs)) (hx : VRels κ xs vs) : VRel κ (.tup xs) (.ref a)
  | fls {a xs vs} (hi : κ.imm a = some (.lst vs)) (hx : VRels κ xs vs) : VRel κ (.fls xs) (.ref a)
  | rng {a x y z} (hi : κ.imm a = some (.rng x y z)) : VRel κ (.rng x y z) (.ref a)
  | ref {i a} (hi : κ.rho i = some a) : VRel κ (.ref i) (.ref a)
  | glob (a) : VRel κ (.glob a) (.ref a)
  | type (n) : VRel κ (.type n) (.type n.name)
  | builtin (id) : VRel κ (.builtin id) (.builtin id.id)
inductive VRels (κ : Kw) : List AV → List Value → Prop
  | nil : VRels κ [] []
  | cons {x v xs vs} (h : VRel κ x v) (hs : VRels κ xs vs) : VRels κ (x :: xs) (v :: vs)
end
mutual
theorem VRel.mono {κ κ' : Kw} (L : κ.le κ') : ∀ {x v}, VRel κ x v → VRel κ' x v
  | _, _, .none => .none
  | _, _, .bool b => .bool b
  | _, _, .int i t => .int i t
  | _, _, .str x t => .str x t
  | _, _, .bytes x t => .bytes x t
  | _, _, .tup hi hx => .tup (L.imm _ _ hi) (VRels.mono L hx)
  | _, _, .fls hi hx => .fls (L.imm _ _ hi) (VRels.mono L hx)
  | _, _, .rng hi => .rng (L.imm _ _ hi)
  | _, _, .ref hi => .ref (L.rho _ _ hi)
  | _, _, .glob a => .glob a
  | _, _, .type n => .type n
  | _, _, .builtin i => .builtin i
theorem VRels.mono {κ κ' : Kw} (L : κ.le κ') : ∀ {xs vs}, VRels κ xs vs → VRels κ' xs vs
  | _, _, .nil => .nil
  | _, _, .cons h hs => .cons (VRel.mono L h) (VRels.mono L hs)
end
theorem VRels.length {κ : Kw} : ∀ {xs vs}, VRels κ xs vs → xs.length = vs.length
  | _, _, .nil => rfl
  | _, _, .cons _ hs => by rw [List.length_cons, List.length_cons, VRels.length hs]
theorem VRels.append {κ : Kw} : ∀ {xs vs ys ws}, VRels κ xs vs → VRels κ ys ws → VRels κ (xs ++ ys) (vs ++ ws)
  | _, _, _, _, .nil, y => y
  | _, _, _, _, .cons h hs, y => .cons h (VRels.append hs y)
theorem VRels.get {κ : Kw} : ∀ {xs vs}, VRels κ xs vs → ∀ {i : Nat} {x}, xs[i]? = some x → ∃ v, vs[i]? = some v ∧ VRel κ x v
  | _, _, .cons h hs, 0, x, e => by simp at e; subst e; exact ⟨_, rfl, h⟩
  | _, _, .cons h hs, i + 1, x, e => by simpa using VRels.get hs (i := i) (by simpa using e)
def digs : Nat → Nat → List Nat
  | 0, _ => []
  | f + 1, n => if n = 0 then [] else n % 256 :: digs f (n / 256)
def dec (n : Nat) : Str := ⟨(digs n n).toArray⟩
def encL (l : List Nat) : Nat := l.foldr (fun c n => c + 256 * n) 0
def enc (x : Str) : Nat := encL x.cps.toList
theorem encL_digs : ∀ f n, n ≤ f → encL (digs f n) = n
  | 0, n, h => by simp only [digs, encL, List.foldr_nil]; omega
  | f + 1, n, h => by
    unfold digs
    split
    · rename_i e; subst e; rfl
    · have := encL_digs f (n / 256) (by omega)
      show n % 256 + 256 * encL (digs f (n / 256)) = n
      rw [this]; omega
theorem dec_inj {i j : Nat} (h : dec i = dec j) : i = j := by
  have e : digs i i = digs j j := by
    have := congrArg (fun x : Str => x.cps.toList) h
    simpa [dec] using this
  rw [← encL_digs i i (Nat.le_refl _), ← encL_digs j j (Nat.le_refl _), e]
def plainL : List Nat → Bool
  | [] => true
  | [c] => c != 0 && Nat.blt c 256
  | c :: r => Nat.blt c 256 && plainL r
theorem digs_encL : ∀ l : List Nat, plainL l = true → ∀ f, encL l ≤ f → digs f (encL l) = l
  | [], _, f, _ => by cases f <;> simp [digs, encL]
  | c :: r, h, f, hf => by
    have hc : c < 256 ∧ plainL r = true ∧ 0 < c + 256 * encL r := by
      cases r with
      | nil =>
        simp only [plainL, Bool.and_eq_true, bne_iff_ne, ne_eq] at h
        exact ⟨by simpa [Nat.blt_eq] using h.2, rfl, by omega⟩
      | cons d r' =>
        simp only [plainL, Bool.and_eq_true] at h
        refine ⟨by simpa [Nat.blt_eq] using h.1, h.2, ?_⟩
        have pos : ∀ l : List Nat, l ≠ [] → plainL l = true → 0 < encL l := by
          intro l
          induction l with
          | nil => intro q; exact absurd rfl q
          | cons a t ih =>
            intro _ hp
            cases t with
            | nil =>
              simp only [plainL, Bool.and_eq_true, bne_iff_ne, ne_eq] at hp
              show 0 < a + 256 * 0
              omega
            | cons b t' =>
              simp only [plainL, Bool.and_eq_true] at hp
              have := ih (by simp) hp.2
              show 0 < a + 256 * encL (b :: t')
              omega
        have := pos (d :: r') (by simp) h.2
        omega
    obtain ⟨h1, h2, h3⟩ := hc
    have e : encL (c :: r) = c + 256 * encL r := rfl
    rw [e] at hf ⊢
    cases f with
    | zero => omega
    | succ f =>
      unfold digs
      rw [if_neg (by omega), show (c + 256 * encL r) % 256 = c by omega, show (c + 256 * encL r) / 256 = encL r by omega, digs_encL r h2 f (by omega)]
def plainS (x : Str) : Bool := plainL x.cps.toList
theorem dec_enc {x : Str} (h : plainS x = true) : dec (enc x) = x := by
  unfold dec enc
  rw [digs_encL _ h _ (Nat.le_refl _)]
def nameId (x : Str) : Option Nat := if plainS x then some (enc x) else none
theorem nameId_dec {x : Str} {i : Nat} (h : nameId x = some i) : dec i = x := by
  unfold nameId at h
  split at h
  · rename_i q; obtain rfl := Option.some.inj h; exact dec_enc q
  · cases h
def MRel (κ : Kw) (fs : List (Nat × AV)) (m : Str → Option Value) : Prop :=
  (∀ x, match fs.lookup x with
    | some av => ∃ v, m (dec x) = some v ∧ VRel κ av v
    | none => m (dec x) = none) ∧ ∀ y, m y ≠ none → ∃ i, y = dec i
theorem MRel.empty (κ : Kw) : MRel κ [] fun _ => none := ⟨fun _ => rfl, fun _ h => absurd rfl h⟩
theorem MRel.mono {κ κ' : Kw} (L : κ.le κ') {fs m} (h : MRel κ fs m) : MRel κ' fs m := ⟨fun x => by
  have := h.1 x
  split <;> rename_i q <;> rw [q] at this
  · obtain ⟨v, h1, h2⟩ := this; exact ⟨v, h1, h2.mono L⟩
  · exact this, h.2⟩
theorem MRel.get {κ : Kw} {fs m x av} (h : MRel κ fs m) (e : fs.lookup x = some av) : ∃ v, m (dec x) = some v ∧ VRel κ av v := by
  have := h.1 x; rw [e] at this; exact this
theorem MRel.none {κ : Kw} {fs m x} (h : MRel κ fs m) (e : fs.lookup x = .none) : m (dec x) = .none := by
  have := h.1 x; rw [e] at this; exact this
theorem mem_of_look {fs : List (Nat × AV)} {x : Nat} {av : AV} (h : fs.lookup x = some av) : x ∈ fs.map (·.1) := by
  induction fs with
  | nil => cases h
  | cons y r ih =>
    obtain ⟨a, b⟩ := y
    rw [List.lookup_cons] at h
    cases e : x == a with
    | true => rw [eq_of_beq e]; exact .head _
    | false => rw [e] at h; exact .tail _ (ih h)
theorem MRel.within {κ : Kw} {fs m} (h : MRel κ fs m) : Within m (fs.map fun y => dec y.1) := fun y hy => by
  obtain ⟨i, rfl⟩ := h.2 y hy
  cases e : fs.lookup i with
  | none => exact absurd (h.none e) hy
  | some av =>
    have := mem_of_look e
    rw [List.mem_map] at this ⊢
    obtain ⟨z, hz, rfl⟩ := this
    exact ⟨z, hz, rfl⟩
def putA (x : Nat) (v : AV) : List (Nat × AV) → List (Nat × AV)
  | [] => [(x, v)]
  | (y, w) :: r => match Nat.beq y x with
    | true => (y, v) :: r
    | false => (y, w) :: putA x v r
theorem lookup_putA (x : Nat) (v : AV) (y : Nat) : ∀ fs, (putA x v fs).lookup y = if y = x then some v else fs.lookup y
  | [] => by
    simp only [putA, List.lookup_cons, List.lookup_nil]
    by_cases h : y = x
    · subst h; simp
    · simp [h, beq_eq_false_iff_ne.mpr h]
  | (z, w) :: r => by
    unfold putA
    cases hz : Nat.beq z x with
    | true =>
      have hz := Nat.eq_of_beq_eq_true hz
      subst hz
      simp only [List.lookup_cons]
      by_cases h : y = z
      · subst h; simp
      · simp [h, beq_eq_false_iff_ne.mpr h]
    | false =>
      have hz := Nat.ne_of_beq_eq_false hz
      simp only [List.lookup_cons, lookup_putA x v y r]
      by_cases h : y = z
      · subst h; simp [hz]
      · simp [beq_eq_false_iff_ne.mpr h]
theorem MRel.put {κ : Kw} {fs m x av v} (h : MRel κ fs m) (hv : VRel κ av v) : MRel κ (putA x av fs) (fun y => if y = dec x then some v else m y) := ⟨fun y => by
  rw [lookup_putA]
  by_cases e : y = x
  · simp only [e, if_true]; exact ⟨v, rfl, hv⟩
  · simp only [e, if_false, show dec y ≠ dec x from fun q => e (dec_inj q)]; exact h.1 y, fun y hy => by
  by_cases e : y = dec x
  · exact ⟨x, e⟩
  · simp only [e, if_false] at hy; exact h.2 y hy⟩
theorem putA_length (x : Nat) (v : AV) : ∀ fs : List (Nat × AV), (putA x v fs).length ≤ fs.length + 1
  | [] => by simp [putA]
  | (y, w) :: r => by
    unfold putA
    split
    · simp
    · have := putA_length x v r; simp; omega
inductive Tag where
  | obj (i : Nat) | sub (i : Nat) | frm
  deriving DecidableEq
abbrev Own := Addr → Option Tag
inductive DRel (κ : Kw) : List (Str × AV) → List (Str × Value) → Prop
  | nil : DRel κ [] []
  | cons {k x v r r'} (h : VRel κ x v) (tl : DRel κ r r') : DRel κ ((k, x) :: r) ((k, v) :: r')
theorem DRel.mono {κ κ' : Kw} (L : κ.le κ') : ∀ {x v}, DRel κ x v → DRel κ' x v
  | _, _, .nil => .nil
  | _, _, .cons h tl => .cons (h.mono L) (DRel.mono L tl)
theorem DRel.length {κ : Kw} : ∀ {x v}, DRel κ x v → x.length = v.length
  | _, _, .nil => rfl
  | _, _, .cons _ tl => by rw [List.length_cons, List.length_cons, DRel.length tl]
structure Base where
  prog : Program
  w : World
  h : Heap
  os : OsState
def IsImm (B : Base) (h : Heap) (a : Addr) : Imm → Prop
  | .tup vs => ∃ o n, h.get? a = some o ∧ o.cls = .type "tuple" ∧ o.dict = none ∧ o.data = .seq vs.toArray n
  | .lst vs => B.h.IsList a vs.toArray ∧ h.IsList a vs.toArray
  | .rng x y z => ∃ t u v, IsRange h a x y z t u v
def ORep (B : Base) (κ : Kw) (own : Own) (h : Heap) (i : Nat) (a : Addr) : AObj → Prop
  | .inst C fs => ∃ ob dx m, h.get? a = some ob ∧ ob.cls = .ref C ∧ (∀ c, ob.data ≠ .cls c) ∧ ob.dict = some dx ∧ dx ≠ a ∧ own dx = some (.sub i) ∧ h.Ns1 dx m ∧ h.ExactDictFk dx ∧ MRel κ fs m ∧ fs.length ≤ 1000
  | .list xs => ∃ vs, h.PlainList a vs.toArray ∧ VRels κ xs vs
  | .dict kvs => ∃ vs, h.DictOf (strKind B.prog B.w) a vs ∧ DRel κ kvs vs ∧ a ≠ sysModules ∧ kvs.length ≤ 1000
  | .exc cls args fs tb => ∃ ob vs m, h.get? a = some ob ∧ ob.cls = cls ∧ ob.data = .fields vs ∧ 5 ≤ vs.size ∧ MRel κ fs m ∧
      ((ob.dict = none ∧ ∀ n, m n = none) ∨ ∃ dx, ob.dict = some dx ∧ dx ≠ a ∧ own dx = some (.sub i) ∧ h.Ns1 dx m) ∧ fs.length ≤ 1000 ∧
      (∃ ta ws, vs[0]? = some (.ref ta) ∧ κ.imm ta = some (.tup ws) ∧ VRels κ args ws) ∧
      ((tb = false ∧ vs[1]? = some .none) ∨ ∃ T oT ts fl, vs[1]? = some (.ref T) ∧ own T = some (.sub i) ∧ T ≠ a ∧ h.get? T = some oT ∧ oT.data = .fields ts ∧ ts[3]? = some fl ∧ ∀ dx, ob.dict = some dx → dx ≠ T)
structure Rep (B : Base) (κ : Kw) (own : Own) (σ : List AObj) (s : Shared) : Prop where
  stays : ∀ b o, B.h.get? b = some o → s.heap.get? b = some o
  apart : ∀ b t, own b = some t → B.h.get? b = none
  live : ∀ b t, own b = some t → ∃ o, s.heap.get? b = some o
  dom : ∀ i a, κ.rho i = some a → own a = some (.obj i)
  objs : ∀ i o, σ[i]? = some o → ∃ a, κ.rho i = some a ∧ ORep B κ own s.heap i a o
  bound : ∀ i a, κ.rho i = some a → i < σ.length
  imm : ∀ a vs, κ.imm a = some vs → own a = none ∧ IsImm B s.heap a vs
  gens : s.gens = #[]
  os : s.os = B.os
structure Keep (own : Own) (s s' : Shared) : Prop where
  rest : ∀ b o, own b = none → o.cls ≠ .type "frame" → s.heap.get? b = some o → s'.heap.get? b = some o
  frames : ∀ b o, own b = none → o.cls = .type "frame" → s.heap.get? b = some o → ∃ sl, s'.heap.get? b = some { o with slots := sl }
structure Grow (κ : Kw) (own : Own) (s : Shared) (κ' : Kw) (own' : Own) (s' : Shared) : Prop where
  le : κ.le κ'
  keep : Keep own s s'
  newOwn : ∀ a t, own' a = some t → own a ≠ none ∨ s.heap.get? a = none
  newImm : ∀ a vs, κ'.imm a = some vs → κ.imm a = some vs ∨ (own a = none ∧ s.heap.get? a = none)
  own : ∀ a t, own a = some t → own' a = some t
theorem Keep.refl (own : Own) (s : Shared) : Keep own s s := ⟨fun _ _ _ _ h => h, fun _ o _ _ h => ⟨o.slots, h⟩⟩
theorem Grow.refl (κ own s) : Grow κ own s κ own s := ⟨.refl _, .refl _ _, fun a t h => .inl (by rw [h]; simp), fun a vs h => .inl h, fun _ _ h => h⟩
theorem Grow.unowned {κ own s κ' own' s'} (g : Grow κ own s κ' own' s') {b : Addr} {o : Obj} (hb : s.heap.get? b = some o) (h : own b = none) : own' b = none := by
  cases q : own' b with
  | none => rfl
  | some t => rcases g.newOwn b t q with x | x
              · exact absurd h x
              · rw [x] at hb; cases hb
theorem Keep.dead {own s s'} (x : Keep own s s') {a : Addr} (ho : own a = none) (h : s'.heap.get? a = none) : s.heap.get? a = none := by
  cases q : s.heap.get? a with
  | none => rfl
  | some o =>
    by_cases c : o.cls = .type "frame"
    · obtain ⟨sl, e⟩ := x.frames a o ho c q; rw [h] at e; cases e
    · rw [x.rest a o ho c q] at h; cases h
theorem Grow.trans {κ own s κ₁ own₁ s₁ κ₂ own₂ s₂} (x : Grow κ own s κ₁ own₁ s₁) (y : Grow κ₁ own₁ s₁ κ₂ own₂ s₂) : Grow κ own s κ₂ own₂ s₂ where
  le := x.le.trans y.le
  keep := ⟨fun b o h1 h2 h3 => y.keep.rest b o (x.unowned h3 h1) h2 (x.keep.rest b o h1 h2 h3), fun b o h1 h2 h3 => by
    obtain ⟨sl, e⟩ := x.keep.frames b o h1 h2 h3
    obtain ⟨sl', e'⟩ := y.keep.frames b { o with slots := sl } (x.unowned h3 h1) h2 e
    exact ⟨sl', e'⟩⟩
  newOwn := fun a t h => by
    cases q : own a with
    | some t => exact .inl (by simp)
    | none =>
      rcases y.newOwn a t h with z | z
      · cases e : own₁ a with
        | none => exact absurd e z
        | some t' => rcases x.newOwn a t' e with u | u
                     · exact absurd q u
                     · exact .inr u
      · exact .inr (x.keep.dead q z)
  newImm := fun a vs h => by
    rcases y.newImm a vs h with z | ⟨z, z'⟩
    · exact x.newImm a vs z
    · cases q : own a with
      | none => exact .inr ⟨rfl, x.keep.dead q z'⟩
      | some t => rw [x.own a t q] at z; cases z
  own := fun a t h => y.own a t (x.own a t h)
end Sm
end
section
set_option maxRecDepth 100000
set_option linter.unusedVariables false
namespace Sm
open PySem
structure St where
  σ : List AObj
  loc : List (Nat × AV)
  deriving Inhabited
def VarRel (κ : Kw) (x : Option AV) (v : Option Value) : Prop := match x with
  | some av => ∃ w, v = some w ∧ VRel κ av w
  | none => v = none
theorem VarRel.mono {κ κ' : Kw} (L : κ.le κ') {x v} (h : VarRel κ x v) : VarRel κ' x v := by
  cases x with
  | none => exact h
  | some av => obtain ⟨w, h1, h2⟩ := h; exact ⟨w, h1, h2.mono L⟩
def LVar (κ : Kw) (x : Option AV) (v : Option Value) : Prop := match x with
  | some av => ∃ w, v = some w ∧ VRel κ av w
  | none => True
theorem LVar.mono {κ κ' : Kw} (L : κ.le κ') {x v} (h : LVar κ x v) : LVar κ' x v := by
  cases x with
  | none => exact h
  | some av => obtain ⟨w, h1, h2⟩ := h; exact ⟨w, h1, h2.mono L⟩
abbrev IsCell (h : Heap) (c : Addr) (v : Option Value) : Prop := h.IsCell c v
structure LocRep (B : Base) (κ : Kw) (own : Own) (env : Env) (loc : List (Nat × AV)) (h : Heap) : Prop where
  owned : own env.locals = some .frm
  fresh : B.h.get? env.locals = none
  isFrame : ∃ o, h.get? env.locals = some o ∧ (env.frame = some env.locals → o.cls = .type "frame")
  vars : ∃ m, h.Ns env.locals m ∧ ∀ x, env.kindOf (dec x) = some .local → LVar κ (loc.lookup x) (m (dec x))
  cells : ∀ x, env.kindOf (dec x) = some .cell → ∃ c v, env.cells.lookup (dec x) = some c ∧ c ≠ env.locals ∧ (own c = some .frm ∨ (env.frame ≠ some env.locals ∧ own c = none)) ∧ IsCell h c v ∧ LVar κ (loc.lookup x) v
  apart : ∀ x y c, env.kindOf (dec x) = some .cell → env.kindOf (dec y) = some .cell → env.cells.lookup (dec x) = some c → env.cells.lookup (dec y) = some c → x = y
  frees : ∀ x, env.kindOf (dec x) = some .free → ∃ c v, env.cells.lookup (dec x) = some c ∧ own c = none ∧ IsCell h c v ∧ LVar κ (loc.lookup x) v
structure RepX (B : Base) (κ : Kw) (own : Own) (env : Env) (st : St) (s : Shared) : Prop where
  rep : Rep B κ own st.σ s
  loc : LocRep B κ own env st.loc s.heap
structure StepX (B : Base) (env : Env) (κ : Kw) (own : Own) (s : Shared) (κ' : Kw) (own' : Own) (st' : St) (s' : Shared) : Prop where
  rep : RepX B κ' own' env st' s'
  grow : Grow κ own s κ' own' s'
theorem StepX.trans {B env κ own s κ₁ own₁ st₁ s₁ κ₂ own₂ st₂ s₂} (x : StepX B env κ own s κ₁ own₁ st₁ s₁) (y : StepX B env κ₁ own₁ s₁ κ₂ own₂ st₂ s₂) :
    StepX B env κ own s κ₂ own₂ st₂ s₂ := ⟨y.rep, x.grow.trans y.grow⟩
theorem StepX.refl {B env κ own st s} (x : RepX B κ own env st s) : StepX B env κ own s κ own st s := ⟨x, .refl ..⟩
def FlightAt (h : Heap) (a : Addr) (fl : Value) : Prop :=
  ∃ ob vs T oT ts, h.get? a = some ob ∧ ob.data = .fields vs ∧ vs[1]? = some (.ref T) ∧ h.get? T = some oT ∧ oT.data = .fields ts ∧ ts[3]? = some fl
def Flying (env : Env) (h : Heap) (a : Addr) : Prop :=
  (∃ ob vs, h.get? a = some ob ∧ ob.data = .fields vs ∧ vs[1]? = some .none) ∨ FlightAt h a .none ∨ ∃ L, env.frame = some L ∧ FlightAt h a (rawInt L)
def IsExc (σ : List AObj) (i : Nat) : Prop := ∃ c args fs tb, σ[i]? = some (.exc c args fs tb)
abbrev Xp := Nat → St → Prop
def Sat (B : Base) (env : Env) (A : Around) {α β : Type} (t : Sem α) (rel : Kw → β → α → Prop) (Q : β → St → Prop) (X : Xp) (κ : Kw) (own : Own) (s : Shared) : Prop :=
  wpAny (model B.prog B.w) A t (fun a s' => ∃ b st' κ' own', Q b st' ∧ StepX B env κ own s κ' own' st' s' ∧ rel κ' b a)
    (fun e s' => ∃ i st' κ' own' a, X i st' ∧ StepX B env κ own s κ' own' st' s' ∧ e = .ref a ∧ κ'.rho i = some a ∧ Flying env s'.heap a ∧ IsExc st'.σ i) s
section
variable {B : Base} {env : Env} {A : Around} {α β γ δ : Type} {κ : Kw} {own : Own} {s : Shared} {X : Xp}
theorem Sat.bind {t : Sem α} {k : α → Sem γ} {Q : β → St → Prop} {Q' : δ → St → Prop} {rel : Kw → β → α → Prop} {rel' : Kw → δ → γ → Prop}
    (h : Sat B env A t rel Q X κ own s)
    (hk : ∀ κ₁ own₁ s₁ b a st₁, Q b st₁ → StepX B env κ own s κ₁ own₁ st₁ s₁ → rel κ₁ b a → Sat B env A (k a) rel' Q' X κ₁ own₁ s₁) :
    Sat B env A (t >>= k) rel' Q' X κ own s := by
  refine wpAny_bind (wpAny_mono h (fun a s₁ ⟨b, st, κ₁, own₁, q, x, r⟩ => ?_) fun _ _ q => q)
  exact wpAny_mono (hk κ₁ own₁ s₁ b a st q x r) (fun c s₂ ⟨d, st', κ₂, own₂, q', y, r'⟩ => ⟨d, st', κ₂, own₂, q', x.trans y, r'⟩)
    fun e s₂ ⟨i, st', κ₂, own₂, a', q', y, r'⟩ => ⟨i, st', κ₂, own₂, a', q', x.trans y, r'⟩
theorem Sat.pure {b : β} {a : α} {st : St} {rel : Kw → β → α → Prop} {Q : β → St → Prop} (q : Q b st) (x : RepX B κ own env st s) (r : rel κ b a) : Sat B env A (pure a : Sem α) rel Q X κ own s :=
  wpAny_pure ⟨b, st, κ, own, q, .refl x, r⟩
theorem Sat.mono {t : Sem α} {Q Q' : β → St → Prop} {X' : Xp} {rel rel' : Kw → β → α → Prop} (h : Sat B env A t rel Q X κ own s) (hr : ∀ κ b a, rel κ b a → rel' κ b a) (hq : ∀ b st, Q b st → Q' b st) (hx : ∀ i st, X i st → X' i st) :
    Sat B env A t rel' Q' X' κ own s :=
  wpAny_mono h (fun a s' ⟨b, st, κ', own', q, x, r⟩ => ⟨b, st, κ', own', hq _ _ q, x, hr _ _ _ r⟩) fun e s' ⟨i, st, κ', own', a, q, r⟩ => ⟨i, st, κ', own', a, hx _ _ q, r⟩
theorem Sat.rel {t : Sem α} {Q : β → St → Prop} {rel rel' : Kw → β → α → Prop} (h : Sat B env A t rel Q X κ own s) (hr : ∀ κ b a, rel κ b a → rel' κ b a) : Sat B env A t rel' Q X κ own s :=
  h.mono hr (fun _ _ q => q) fun _ _ q => q
theorem Sat.after {κ₁ own₁ s₁ st₁} {t : Sem α} {Q : β → St → Prop} {rel : Kw → β → α → Prop} (x : StepX B env κ own s κ₁ own₁ st₁ s₁) (h : Sat B env A t rel Q X κ₁ own₁ s₁) :
    wpAny (model B.prog B.w) A t (fun a s' => ∃ b st' κ' own', Q b st' ∧ StepX B env κ own s κ' own' st' s' ∧ rel κ' b a)
      (fun e s' => ∃ i st' κ' own' a, X i st' ∧ StepX B env κ own s κ' own' st' s' ∧ e = .ref a ∧ κ'.rho i = some a ∧ Flying env s'.heap a ∧ IsExc st'.σ i) s₁ :=
  wpAny_mono h (fun c s₂ ⟨d, st', κ₂, own₂, q', y, r'⟩ => ⟨d, st', κ₂, own₂, q', x.trans y, r'⟩)
    fun e s₂ ⟨i, st', κ₂, own₂, a', q', y, r'⟩ => ⟨i, st', κ₂, own₂, a', q', x.trans y, r'⟩
theorem Sat.pass {t : Sem α} {a : α} {k : α → Sem γ} {rel : Kw → β → γ → Prop} {Q : β → St → Prop}
    (ht : ∀ {Q : α → Shared → Prop} {E : Value → Shared → Prop}, Q a s → wpAny (model B.prog B.w) A t Q E s)
    (h : Sat B env A (k a) rel Q X κ own s) : Sat B env A (t >>= k) rel Q X κ own s := wpAny_bind (ht h)
theorem Sat.stand {pos : Pos} {k : Unit → Sem γ} {rel : Kw → β → γ → Prop} {Q : β → St → Prop} (h : Sat B env A (k ()) rel Q X κ own s) : Sat B env A (standAt pos >>= k) rel Q X κ own s :=
  Sat.pass (fun hq => wpAny_standAt hq) h
theorem Sat.holding {vs : List Value} {t : Sem α} {rel : Kw → β → α → Prop} {Q : β → St → Prop} (h : Sat B env A t rel Q X κ own s) : Sat B env A (holding vs t) rel Q X κ own s := wpAny_holding h
theorem Sat.map {t : Sem α} {k : α → γ} {f : β → δ} {rel : Kw → β → α → Prop} {rel' : Kw → δ → γ → Prop} {Q : δ → St → Prop}
    (h : Sat B env A t rel (fun b st => Q (f b) st) X κ own s) (hr : ∀ κ b a, rel κ b a → rel' κ (f b) (k a)) :
    Sat B env A (t >>= fun a => Pure.pure (k a)) rel' Q X κ own s :=
  Sat.bind h fun κ₁ own₁ s₁ b a st₁ q x r => Sat.pure q x.rep (hr _ _ _ r)
end
theorem Rep.toks {B κ own σ s} (x : Rep B κ own σ s) (n : Nat) : Rep B κ own σ { s with toks := n } := ⟨x.stays, x.apart, x.live, x.dom, x.objs, x.bound, x.imm, x.gens, x.os⟩
theorem Grow.toks {κ own s} (n : Nat) : Grow κ own s κ own { s with toks := n } := ⟨.refl _, ⟨fun _ _ _ _ h => h, fun _ o _ _ h => ⟨o.slots, h⟩⟩, fun a t h => .inl (by rw [h]; simp), fun a vs h => .inl h, fun _ _ h => h⟩
theorem StepX.toks {B env κ own st s} (x : RepX B κ own env st s) (n : Nat) : StepX B env κ own s κ own st { s with toks := n } := ⟨⟨x.rep.toks n, x.loc⟩, .toks n⟩
end Sm
end
section
set_option maxRecDepth 100000
set_option linter.unusedVariables false
namespace Sm
open PySem PySem.Calls
def Outer (B : Base) (own : Own) (l : List Env) (h : Heap) : Prop :=
  ∀ e ∈ l, e.scope.kind ≠ .module ∧ ∃ L o es ep, e.frame = some L ∧ own L = none ∧ B.h.get? L = none ∧ h.get? L = some o ∧ o.cls = .type "frame" ∧ o.data = .dict es ep
theorem Outer.step {B own l κ s κ' own' s'} (x : Outer B own l s.heap) (g : Grow κ own s κ' own' s') : Outer B own' l s'.heap := fun e he => by
  obtain ⟨k, L, o, es, ep, h1, h2, h3, h4, h5, h6⟩ := x e he
  obtain ⟨sl, q⟩ := g.keep.frames L o h2 h5 h4
  exact ⟨k, L, _, es, ep, h1, g.unowned h4 h2, h3, q, h5, h6⟩
structure ACall (B : Base) (A : Around) (own : Own) (h : Heap) (d : Nat) (hd : Bool) : Prop where
  frames : ∃ l, A.frames = some l ∧ Outer B own l h
  depth : A.depth + d ≤ recursionLimit
  units : A.units + 20 * d ≤ cLine
  handled : hd = false → A.handled = none
theorem ACall.step {B A own d hd κ s κ' own' s'} (x : ACall B A own s.heap d hd) (g : Grow κ own s κ' own' s') : ACall B A own' s'.heap d hd :=
  ⟨let ⟨l, h1, h2⟩ := x.frames; ⟨l, h1, h2.step g⟩, x.depth, x.units, x.handled⟩
theorem ACall.le {B A own h d d' hd} (x : ACall B A own h d hd) (hd' : d' ≤ d) : ACall B A own h d' hd :=
  ⟨x.frames, by have := x.depth; omega, by have := x.units; omega, x.handled⟩
structure AOk (B : Base) (env : Env) (A : Around) (own : Own) (h : Heap) (d : Nat) (hd : Bool) : Prop where
  frames : ∃ l, Outer B own l h ∧ ((env.frame = some env.locals ∧ A.frames = some (env :: l)) ∨ (env.frame ≠ some env.locals ∧ A.frames = some l ∧ ∃ e ∈ l, e.frame = env.frame))
  kind : env.scope.kind ≠ .module
  depth : A.depth + d ≤ recursionLimit
  units : A.units + 20 * d ≤ cLine
  handled : hd = false → A.handled = none
theorem AOk.step {B env A own d hd κ s κ' own' s'} (x : AOk B env A own s.heap d hd) (g : Grow κ own s κ' own' s') : AOk B env A own' s'.heap d hd :=
  ⟨let ⟨l, h1, h2⟩ := x.frames; ⟨l, h1.step g, h2⟩, x.kind, x.depth, x.units, x.handled⟩
abbrev Flown (h : Heap) (a : Addr) : Prop := FlightAt h a .none
theorem Flown.flying {h a} (x : Flown h a) (env : Env) : Flying env h a := .inr (.inl x)
abbrev Sp := List AV → List (Nat × AV) → List AObj → (AV → List AObj → Prop) → (Nat → List AObj → Prop) → Prop
def Res (B : Base) (κ : Kw) (own : Own) (s : Shared) (Q : AV → List AObj → Prop) (X : Nat → List AObj → Prop) : Result → Shared → Prop := fun r s' =>
  (∃ av σ' v κ' own', Q av σ' ∧ r = .ok (.ret v) ∧ Rep B κ' own' σ' s' ∧ Grow κ own s κ' own' s' ∧ VRel κ' av v) ∨
  (∃ i σ' a κ' own', X i σ' ∧ r = .error (.ref a) ∧ Rep B κ' own' σ' s' ∧ Grow κ own s κ' own' s' ∧ κ'.rho i = some a ∧ Flown s'.heap a ∧ IsExc σ' i)
inductive KRel (κ : Kw) : List (Nat × AV) → List (Str × Value) → Prop
  | nil : KRel κ [] []
  | cons {k x v r r'} (h : VRel κ x v) (t : KRel κ r r') : KRel κ ((k, x) :: r) ((dec k, v) :: r')
theorem KRel.mono {κ κ' : Kw} (L : κ.le κ') : ∀ {x v}, KRel κ x v → KRel κ' x v
  | _, _, .nil => .nil
  | _, _, .cons h t => .cons (h.mono L) (KRel.mono L t)
def CallJ (B : Base) (κ₀ : Kw) (d : Nat) (hd : Bool) (f : Addr) (S : Sp) : Prop :=
  ∀ args kws σ Q X, S args kws σ Q X → ∀ A κ own s vs kvs, ACall B A own s.heap d hd → κ₀.le κ → Rep B κ own σ s → (∀ a, own a ≠ some .frm) → VRels κ args vs → KRel κ kws kvs →
    codeAny (model B.prog B.w) A (.call (.ref f) ⟨vs, kvs⟩) (Res B κ own s Q X) s
def noFrm (own : Own) : Own := fun a => match own a with | some .frm => none | t => t
theorem noFrm_obj {own : Own} {a i} (h : own a = some (.obj i)) : noFrm own a = some (.obj i) := by unfold noFrm; rw [h]
theorem noFrm_sub {own : Own} {a i} (h : own a = some (.sub i)) : noFrm own a = some (.sub i) := by unfold noFrm; rw [h]
theorem noFrm_none {own : Own} {a} (h : own a = none) : noFrm own a = none := by unfold noFrm; rw [h]
theorem noFrm_frm {own : Own} {a} (h : own a = some .frm) : noFrm own a = none := by unfold noFrm; rw [h]
theorem noFrm_ne {own : Own} {a} : noFrm own a ≠ some .frm := by
  unfold noFrm; split <;> simp_all
theorem noFrm_some {own : Own} {a t} (h : noFrm own a = some t) : own a = some t := by
  unfold noFrm at h; split at h <;> simp_all
theorem ORep.own {B κ own own' h i a o} (x : ORep B κ own h i a o) (k : ∀ b, own b = some (.sub i) → own' b = some (.sub i)) : ORep B κ own' h i a o := by
  cases o with
  | inst C fs => obtain ⟨ob, dx, m, h1, h2, h3, h4, h5, h6, r⟩ := x; exact ⟨ob, dx, m, h1, h2, h3, h4, h5, k _ h6, r⟩
  | list xs => exact x
  | dict kvs => exact x
  | exc cls args fs tb =>
    obtain ⟨ob, vs, m, h1, h2, h3, h4, h5, h6, h7, h8, h9⟩ := x
    refine ⟨ob, vs, m, h1, h2, h3, h4, h5, h6.imp id fun ⟨dx, a1, a2, a3, a4⟩ => ⟨dx, a1, a2, k _ a3, a4⟩, h7, h8, h9.imp id fun ⟨T, oT, ts, fl, b1, b2, r⟩ => ⟨T, oT, ts, fl, b1, k _ b2, r⟩⟩
theorem Rep.noFrm {B κ own σ s} (x : Rep B κ own σ s) : Rep B κ (noFrm own) σ s where
  stays := x.stays
  apart := fun b t h => x.apart b t (noFrm_some h)
  live := fun b t h => x.live b t (noFrm_some h)
  dom := fun i a h => noFrm_obj (x.dom i a h)
  objs := fun i o h => let ⟨a, h1, h2⟩ := x.objs i o h; ⟨a, h1, h2.own fun b hb => noFrm_sub hb⟩
  bound := x.bound
  imm := fun a vs h => ⟨noFrm_none (x.imm a vs h).1, (x.imm a vs h).2⟩
  gens := x.gens
  os := x.os
def addFrm (own own' : Own) : Own := fun a => if own a = some .frm then some .frm else own' a
section
variable {B : Base} {κ κ' : Kw} {own own' : Own} {σ σ' : List AObj} {s s' : Shared}
theorem addFrm_of (x : Rep B κ own σ s) (g : Grow κ (Sm.noFrm own) s κ' own' s') {a t} (h : own' a = some t) : addFrm own own' a = some t := by
  unfold addFrm
  split
  · rename_i q
    obtain ⟨o, ho⟩ := x.live a _ q
    have := g.unowned ho (noFrm_frm q)
    rw [this] at h; cases h
  · exact h
theorem Rep.back (x : Rep B κ own σ s) (y : Rep B κ' own' σ' s') (g : Grow κ (Sm.noFrm own) s κ' own' s') : Rep B κ' (addFrm own own') σ' s' where
  stays := y.stays
  apart := fun b t h => by
    unfold addFrm at h
    split at h
    · rename_i q; exact x.apart b _ q
    · exact y.apart b t h
  live := fun b t h => by
    unfold addFrm at h
    split at h
    · rename_i q
      obtain ⟨o, ho⟩ := x.live b _ q
      by_cases c : o.cls = .type "frame"
      · obtain ⟨sl, e⟩ := g.keep.frames b o (noFrm_frm q) c ho; exact ⟨_, e⟩
      · exact ⟨o, g.keep.rest b o (noFrm_frm q) c ho⟩
    · exact y.live b t h
  dom := fun i a h => addFrm_of x g (y.dom i a h)
  objs := fun i o h => let ⟨a, h1, h2⟩ := y.objs i o h; ⟨a, h1, h2.own fun b hb => addFrm_of x g hb⟩
  bound := y.bound
  imm := fun a vs h => by
    refine ⟨?_, (y.imm a vs h).2⟩
    unfold addFrm
    split
    · rename_i q
      obtain ⟨o, ho⟩ := x.live a _ q
      rcases g.newImm a vs h with z | ⟨_, z⟩
      · have := (x.imm a vs z).1; rw [q] at this; cases this
      · rw [ho] at z; cases z
    · exact (y.imm a vs h).1
  gens := y.gens
  os := y.os
theorem Grow.back (x : Rep B κ own σ s) (g : Grow κ (Sm.noFrm own) s κ' own' s') : Grow κ own s κ' (addFrm own own') s' where
  le := g.le
  keep := ⟨fun b o h => g.keep.rest b o (noFrm_none h), fun b o h => g.keep.frames b o (noFrm_none h)⟩
  newOwn := fun a t h => by
    unfold addFrm at h
    split at h
    · rename_i q; left; rw [q]; simp
    · rcases g.newOwn a t h with z | z
      · left; intro q; exact z (noFrm_none q)
      · exact .inr z
  newImm := fun a vs h => by
    rcases g.newImm a vs h with z | ⟨z, z'⟩
    · exact .inl z
    · cases q : own a with
      | none => exact .inr ⟨rfl, z'⟩
      | some t => obtain ⟨o, ho⟩ := x.live a t q; rw [z'] at ho; cases ho
  own := fun a t h => by
    unfold addFrm
    split
    · rename_i q; rw [h] at q; exact q.symm
    · rename_i q
      refine g.own a t ?_
      unfold Sm.noFrm
      cases t with
      | frm => exact absurd h q
      | obj i => rw [h]
      | sub i => rw [h]
theorem kept_obj {b : Addr} {o : Obj} (g : Grow κ own s κ' own' s') (hb : own b = none) (h : s.heap.get? b = some o) : ∃ sl, s'.heap.get? b = some { o with slots := sl } := by
  by_cases c : o.cls = .type "frame"
  · exact g.keep.frames b o hb c h
  · exact ⟨o.slots, g.keep.rest b o hb c h⟩
theorem kept_cell {c : Addr} {v : Option Value} (g : Grow κ own s κ' own' s') (hb : own c = none) (h : IsCell s.heap c v) : IsCell s'.heap c v := by
  obtain ⟨o, h1, h2⟩ := h
  obtain ⟨sl, e⟩ := kept_obj g hb h1
  exact ⟨_, e, h2⟩
theorem LocRep.back {env loc} (x : Rep B κ own σ s) (l : LocRep B κ own env loc s.heap) (g : Grow κ (Sm.noFrm own) s κ' own' s') : LocRep B κ' (addFrm own own') env loc s'.heap := by
  obtain ⟨o, ho, hc⟩ := l.isFrame
  obtain ⟨sl, e⟩ := kept_obj g (noFrm_frm l.owned) ho
  obtain ⟨m, hm, hr⟩ := l.vars
  refine ⟨by unfold addFrm; rw [if_pos l.owned], l.fresh, ⟨_, e, hc⟩, ⟨m, ?_, fun x hx => (hr x hx).mono g.le⟩, fun x hx => ?_, l.apart, fun x hx => ?_⟩
  · obtain ⟨o', es, ep, h1, h2, h3⟩ := hm
    rw [ho] at h1
    obtain rfl := Option.some.inj h1
    exact ⟨_, es, ep, e, h2, h3⟩
  · obtain ⟨c, v, h1, h2, h3, h4, h5⟩ := l.cells x hx
    rcases h3 with h3 | ⟨h3, h3'⟩
    · exact ⟨c, v, h1, h2, .inl (by unfold addFrm; rw [if_pos h3]), kept_cell g (noFrm_frm h3) h4, h5.mono g.le⟩
    · refine ⟨c, v, h1, h2, .inr ⟨h3, ?_⟩, kept_cell g (noFrm_none h3') h4, h5.mono g.le⟩
      unfold addFrm
      rw [if_neg (by rw [h3']; simp)]
      obtain ⟨o, ho, _⟩ := h4
      exact g.unowned ho (noFrm_none h3')
  · obtain ⟨c, v, h1, h2, h3, h4⟩ := l.frees x hx
    refine ⟨c, v, h1, ?_, kept_cell g (noFrm_none h2) h3, h4.mono g.le⟩
    unfold addFrm
    rw [if_neg (by rw [h2]; simp)]
    obtain ⟨o, ho, _⟩ := h3
    exact g.unowned ho (noFrm_none h2)
theorem StepX.back {env : Env} {st : St} {σ'} (x : RepX B κ own env st s) (y : Rep B κ' own' σ' s') (g : Grow κ (Sm.noFrm own) s κ' own' s') :
    StepX B env κ own s κ' (addFrm own own') { st with σ := σ' } s' := ⟨⟨x.rep.back y g, x.loc.back x.rep g⟩, .back x.rep g⟩
theorem AOk.frames' {env : Env} {A : Around} {st : St} {d : Nat} {hd : Bool} (a : AOk B env A own s.heap d hd) (x : RepX B κ own env st s) : ∃ l, A.frames = some l ∧ Outer B (Sm.noFrm own) l s.heap ∧ ∃ e ∈ l, e.frame = env.frame := by
  obtain ⟨l, h2, h1⟩ := a.frames
  have tail : Outer B (Sm.noFrm own) l s.heap := fun e he => by
    obtain ⟨k, L, o, es, ep, h1, h2, r⟩ := h2 e he
    exact ⟨k, L, o, es, ep, h1, noFrm_none h2, r⟩
  rcases h1 with ⟨hf, h1⟩ | ⟨hf, h1, e, he, hfe⟩
  · refine ⟨env :: l, h1, fun e he => ?_, env, .head _, rfl⟩
    rcases List.mem_cons.mp he with rfl | he
    · obtain ⟨o, ho, hc⟩ := x.loc.isFrame
      obtain ⟨m, ⟨o', es, ep, e1, e2, _⟩, _⟩ := x.loc.vars
      rw [ho] at e1
      obtain rfl := Option.some.inj e1
      have hc := hc hf
      exact ⟨a.kind, _, o, es, ep, hf, noFrm_frm x.loc.owned, x.loc.fresh, ho, hc, e2⟩
    · exact tail e he
  · exact ⟨l, h1, tail, e, he, hfe⟩
theorem AOk.call {env : Env} {A : Around} {st : St} {d : Nat} {hd : Bool} (a : AOk B env A own s.heap d hd) (x : RepX B κ own env st s) : ACall B A (Sm.noFrm own) s.heap d hd := by
  obtain ⟨l, h1, h2, _⟩ := a.frames' x
  exact ⟨⟨l, h1, h2⟩, a.depth, a.units, a.handled⟩
theorem Sat.call {env : Env} {A : Around} {st : St} {d : Nat} {hd : Bool} {κ₀ : Kw} {f : Addr} {S : Sp} {args : List AV} {kws : List (Nat × AV)} {vs : List Value} {kvs : List (Str × Value)} {Q : AV → St → Prop} {X : Xp}
    (hc : CallJ B κ₀ d hd f S) (hS : S args kws st.σ (fun v σ => Q v { st with σ := σ }) (fun i σ => X i { st with σ := σ })) (a : AOk B env A own s.heap d hd) (x : RepX B κ own env st s) (hb : κ₀.le κ) (hv : VRels κ args vs) (hk : KRel κ kws kvs) :
    Sat B env A (call (.ref f) vs kvs) (fun κ a v => VRel κ a v) Q X κ own s := by
  have hc := hc args kws st.σ _ _ hS A κ (Sm.noFrm own) s vs kvs (a.call x) hb x.rep.noFrm (fun _ => noFrm_ne) hv hk
  refine wpAny_call (codeAny_mono hc fun r s' hr => ?_)
  rcases hr with ⟨av, σ', v, κ', own', q, rfl, h1, h2, h3⟩ | ⟨i, σ', a', κ', own', q, rfl, h1, h2, h3, h4, h5⟩
  · exact ⟨av, _, κ', _, q, .back x h1 h2, h3⟩
  · exact ⟨i, _, κ', _, a', q, .back x h1 h2, rfl, h3, Flown.flying h4 env, h5⟩
end
end Sm
end
section
set_option maxRecDepth 100000
set_option linter.unusedVariables false
namespace Sm
open PySem PySem.Calls PySem.W
abbrev VR : Kw → AV → Value → Prop := fun κ a v => VRel κ a v
section
variable {B : Base} {env : Env} {A : Around} {κ : Kw} {own : Own} {st : St} {s : Shared} {X : Xp}
abbrev Val (B : Base) (env : Env) (A : Around) (κ : Kw) (own : Own) (s : Shared) (t : Sem Value) (Q : AV → Prop) : Prop :=
  wpAny (model B.prog B.w) A t (fun v s' => ∃ av n, Q av ∧ VRel κ av v ∧ s' = { s with toks := n }) (fun _ _ => False) s
theorem Val.sat {t : Sem Value} {Q : AV → St → Prop} (h : Val B env A κ own s t (fun v => Q v st)) (p : RepX B κ own env st s) : Sat B env A t VR Q X κ own s :=
  wpAny_mono h (fun v s' ⟨av, n, q, r, e⟩ => ⟨av, st, κ, own, q, e ▸ .toks p n, r⟩) fun _ _ q => q.elim
end
def small (i : Int) : Prop := i.natAbs < 1073741824
theorem mulOk {x : Str} {n : Int} (h1 : n ≤ 1000) (h2 : -1000 ≤ n) (h3 : x.length ≤ 1000) : MulOk x n := by
  refine ⟨by rw [decide_eq_false (show ¬ n < -(2 ^ 63 : Int) by omega), decide_eq_false (show ¬ n ≥ 2 ^ 63 by omega)]; rfl, fun h4 _ => ?_, fun h4 _ => ?_⟩
  · have e : (x.length : Int) * n ≤ 1000 * 1000 := Int.mul_le_mul (by omega) h1 (by omega) (by omega)
    have := Int.le_ediv_of_mul_le (show 0 < n by omega) (show (x.length : Int) * n ≤ 2 ^ 63 - 1 by omega)
    omega
  · have e : x.length * n.toNat ≤ 1000 * 1000 := Nat.mul_le_mul h3 (by omega)
    unfold Builtin.Str.tooLong
    exact decide_eq_false (by rw [sizeLine_eq]; omega)
def binW (op : Operator) (a b : AV) (Q : AV → Prop) : Prop :=
  match op, a, b with
  | .Add, .int i, .int j => Q (.int (i + j))
  | .Sub, .int i, .int j => Q (.int (i - j))
  | .Mult, .int i, .int j => (small i ∨ small j) ∧ Q (.int (i * j))
  | .FloorDiv, .int i, .int j => (j ≠ 0 ∧ small j) ∧ Q (.int (i.fdiv j))
  | .Mod, .int i, .int j => j ≠ 0 ∧ Q (.int (i.fmod j))
  | .LShift, .int i, .int j => (0 ≤ j ∧ j ≤ 1000 ∧ small i) ∧ Q (.int (i * 2 ^ j.toNat))
  | .RShift, .int i, .int j => 0 ≤ j ∧ Q (.int (i.fdiv (2 ^ j.toNat)))
  | .Add, .str x, .str y => x.length + y.length ≤ 16777216 ∧ Q (.str (x ++ y))
  | .Add, .bytes x, .bytes y => x.size + y.size ≤ 16777216 ∧ Q (.bytes (x ++ y))
  | .Mult, .str x, .int n => (n ≤ 1000 ∧ -1000 ≤ n ∧ x.length ≤ 1000) ∧ Q (.str (Txt.mul x n))
  | _, _, _ => False
theorem intBits_small {i : Int} (h : small i) : Builtin.Int.intBits i ≤ 64 := by
  unfold small at h
  exact intBits_le_64 (by omega) (by omega)
section
variable {B : Base} {env : Env} {A : Around} {κ : Kw} {own : Own} {s : Shared} {Q : AV → Prop}
theorem sound_bin {op : Operator} {a b : AV} {va vb : Value} (ha : VRel κ a va) (hb : VRel κ b vb) (h : binW op a b Q) :
    Val B env A κ own s (operate [va, vb] (binaryOp op va vb)) Q := by
  cases op <;> cases ha <;> cases hb <;> try exact h.elim
  case Add.int.int i t j u => exact wpAny_operateT (wpAny_add_int ⟨_, _, h, .int _ _, rfl⟩)
  case Add.str.str x t y u => exact wpAny_operateT (SB.add (fun t' k => ⟨_, _, h.2, .str _ _, rfl⟩) (by rw [sizeLine_eq]; exact h.1))
  case Add.bytes.bytes x t y u => exact wpAny_operateT (KBy.add_bytes h.1 (fun t' k => ⟨_, _, h.2, .bytes _ _, rfl⟩))
  case Mult.str.int x t j u => exact wpAny_operateT (SB.mul (mulOk h.1.1 h.1.2.1 h.1.2.2) (fun t' k => ⟨_, _, h.2, .str _ _, rfl⟩))
  case Sub.int.int i t j u => exact wpAny_operateT (P.sub_int ⟨_, _, h, .int _ _, rfl⟩)
  case Mult.int.int i t j u =>
    refine wpAny_operateT (P.mul_int ⟨_, _, h.2, .int _ _, rfl⟩ ?_)
    rcases h.1 with h | h
    · exact IntMulOk.of_left (intBits_small h)
    · exact IntMulOk.of_right (intBits_small h)
  case Mod.int.int i t j u => exact wpAny_operateT (PyProof.Rows.mod_int' h.1 ⟨_, _, h.2, .int _ _, rfl⟩)
  case FloorDiv.int.int i t j u => exact wpAny_operateT (PyProof.Rows.floordiv_int h.1.1 ⟨_, _, h.2, .int _ _, rfl⟩ (Or.inl (PyProof.noPylong_small h.1.2)))
  case LShift.int.int i t j u =>
    have h3 := h.1.2.2
    unfold small at h3
    exact wpAny_operateT (PyProof.Rows.lshift_int_small h.1.1 (by have := h.1.2.1; omega) (by omega) ⟨_, _, h.2, .int _ _, rfl⟩)
  case RShift.int.int i t j u => exact wpAny_operateT (PyProof.Rows.rshift_int h.1 ⟨_, _, h.2, .int _ _, rfl⟩)
end
def cmpW (op : CmpOp) (a b : AV) (Q : Bool → Prop) : Prop :=
  match op, a, b with
  | .Eq, .int i, .int j => Q (decide (i = j))
  | .NotEq, .int i, .int j => Q (!decide (i = j))
  | .Lt, .int i, .int j => Q (decide (i < j))
  | .LtE, .int i, .int j => Q (decide (i ≤ j))
  | .Gt, .int i, .int j => Q (decide (i > j))
  | .GtE, .int i, .int j => Q (decide (i ≥ j))
  | .Eq, .str x, .str y => Q (decide (x = y))
  | .NotEq, .str x, .str y => Q (!decide (x = y))
  | .In, .str y, .str x => Q (Txt.contains x y)
  | .NotIn, .str y, .str x => Q (!Txt.contains x y)
  | .Eq, .bytes x, .bytes y => Q (decide (x = y))
  | .NotEq, .bytes x, .bytes y => Q (!decide (x = y))
  | _, _, _ => False
section
variable {B : Base} {env : Env} {A : Around} {κ : Kw} {own : Own} {s : Shared} {Q : Bool → Prop}
theorem str_beq (x y : Str) : (x.cps.toList == y.cps.toList) = decide (x = y) := by
  obtain ⟨⟨a⟩⟩ := x
  obtain ⟨⟨b⟩⟩ := y
  by_cases h : a = b
  · subst h; simp
  · simp [h]
theorem bytes_beq (x y : Array UInt8) : (x.toList == y.toList) = decide (x = y) := by
  obtain ⟨a⟩ := x
  obtain ⟨b⟩ := y
  by_cases h : a = b
  · subst h; simp
  · simp [h]
abbrev BoolQ (Q : Bool → Prop) : AV → Prop := fun v => ∃ b, v = .bool b ∧ Q b
theorem sound_cmp {op : CmpOp} {a b : AV} {va vb : Value} (ha : VRel κ a va) (hb : VRel κ b vb) (h : cmpW op a b Q) :
    Val B env A κ own s (operate [va, vb] (compareOp op va vb)) (BoolQ Q) := by
  cases op <;> cases ha <;> cases hb <;> try exact h.elim
  case Eq.int.int i t j u => exact wpAny_operateT (wpAny_eq_int ⟨_, _, ⟨_, rfl, h⟩, .bool _, rfl⟩)
  case Eq.str.str => exact wpAny_operateT (P.eq_str (by rw [str_beq]; exact ⟨_, _, ⟨_, rfl, h⟩, .bool _, rfl⟩))
  case Eq.bytes.bytes => exact wpAny_operateT (eq_bytes (by rw [bytes_beq]; exact ⟨_, _, ⟨_, rfl, h⟩, .bool _, rfl⟩))
  case NotEq.int.int i t j u => exact wpAny_operateT (P.ne_int ⟨_, _, ⟨_, rfl, h⟩, .bool _, rfl⟩)
  case NotEq.str.str => exact wpAny_operateT (P.ne_str (by simp only [bne, str_beq]; exact ⟨_, _, ⟨_, rfl, h⟩, .bool _, rfl⟩))
  case NotEq.bytes.bytes => exact wpAny_operateT (ne_bytes (by simp only [bne, bytes_beq]; exact ⟨_, _, ⟨_, rfl, h⟩, .bool _, rfl⟩))
  case Lt.int.int => exact wpAny_operateT (wpAny_lt_int ⟨_, _, ⟨_, rfl, h⟩, .bool _, rfl⟩)
  case LtE.int.int => exact wpAny_operateT (P.le_int ⟨_, _, ⟨_, rfl, h⟩, .bool _, rfl⟩)
  case Gt.int.int => exact wpAny_operateT (P.gt_int ⟨_, _, ⟨_, rfl, h⟩, .bool _, rfl⟩)
  case GtE.int.int => exact wpAny_operateT (P.ge_int ⟨_, _, ⟨_, rfl, h⟩, .bool _, rfl⟩)
  case In.str.str => exact wpAny_operateT (SB.contains ⟨_, _, ⟨_, rfl, h⟩, .bool _, rfl⟩)
  case NotIn.str.str => exact wpAny_operateT (SB.notContains ⟨_, _, ⟨_, rfl, h⟩, .bool _, rfl⟩)
end
end Sm
end
section
set_option maxRecDepth 100000
set_option linter.unusedVariables false
namespace Sm
open PySem
mutual
inductive E
  | const (v : AV) | loc (x : Nat) | glob (x : Nat) | attr (o : E) (a : Nat)
  | bin (op : Operator) (l r : E) | un (op : UnaryOp) (x : E) | boo (op : BoolOp) (es : Es)
  | cmp (op : CmpOp) (l r : E) | ife (c : C) (t o : E)
  | item (v i : E) | slice (v : E) (lo hi : Es)
  | tup (es : Es) | list (es : Es) | dict (ks vs : Es)
  | callm (o : E) (name : Nat) (args : Es) (kws : Ks) | call (f : E) (args : Es) (kws : Ks)
  | lcomp (elt : E) (x : Nat) (it : E)
inductive C
  | not (c : C) | boo (op : BoolOp) (cs : Cs) | ife (c t o : C) | cmp (op : CmpOp) (l r : E) | e (x : E)
inductive Es
  | nil | cons (e : E) (r : Es)
inductive Cs
  | nil | cons (c : C) (r : Cs)
inductive Ks
  | nil | cons (k : Nat) (e : E) (r : Ks)
end
def Es.len : Es → Nat
  | .nil => 0
  | .cons _ r => r.len + 1
def Ks.len : Ks → Nat
  | .nil => 0
  | .cons _ _ r => r.len + 1
def Ks.isNil : Ks → Bool
  | .nil => true
  | _ => false
def constA : Const → Option AV
  | .none => some .none
  | .bool b => some (.bool b)
  | .int i => some (.int i)
  | .str s => some (.str s)
  | .bytes b => some (.bytes b.toArray)
  | _ => none
def isCallName : Expr → Bool
  | .Call (.Name _ _) [] [] _ => true
  | _ => false
def isStarred : Expr → Bool
  | .Starred .. => true
  | _ => false
def isCompare : Expr → Bool
  | .Compare .. => true
  | _ => false
def nameE (sc : Scope) (x : Str) : Option E :=
  if x == ("__debug__" : Str) || x == ("__classdict__" : Str) then none else match nameId x with
  | none => none
  | some i => match sc.names.lookup x with
    | some .local | some .cell | some .free => some (.loc i)
    | some .globalImplicit => some (.glob i)
    | _ => none
def relab (sc' sc : Scope) : Scope := { sc' with names := sc'.names.map fun (n, k) => if (k == .free && sc.kind == .function && sc.names.lookup n == some .cell) then (n, .cell) else (n, k) }
def nDot0 : Nat := 12334
theorem dec_dot0 : dec nDot0 = (".0" : Str) := by decide +kernel
def isSetDisplay : Expr → Bool
  | .Set .. => true
  | _ => false
def lcOk (sc sc' : Scope) (x : Str) (it : Expr) : Bool :=
  sc'.kind == .function && !isSetDisplay it && sc'.names.lookup x == some .local && sc'.names.all fun (n, k) => match k with
    | .local => n == x || (n == (".0" : Str) && sc'.names.lookup n == some .local)
    | .free => (sc.names.lookup n == some .cell || sc.names.lookup n == some .free) && plainS n && sc'.names.lookup n == some .free
    | .globalImplicit => true
    | _ => false
mutual
def cE : Nat → Scope → Expr → Option E
  | 0, _, _ => none
  | n + 1, sc, e => match e with
    | .Constant k _ _ => (constA k).map .const
    | .Name x _ => nameE sc x
    | .Attribute o a _ => if isCallName o then none else match cE n sc o, nameId a with
      | some o', some i => some (.attr o' i)
      | _, _ => none
    | .BinOp l op r _ => match cE n sc l, cE n sc r with
      | some a, some b => some (.bin op a b)
      | _, _ => none
    | .UnaryOp op x _ => (cE n sc x).map (.un op)
    | .BoolOp op vs _ => if vs.isEmpty then none else (cEs n sc vs).map (.boo op)
    | .Compare l [op] [r] _ => if behindInMarks op r then none else match cE n sc l, cE n sc r with
      | some a, some b => some (.cmp op a b)
      | _, _ => none
    | .IfExp t b o _ => match cC n sc t, cE n sc b, cE n sc o with
      | some t', some b', some o' => some (.ife t' b' o')
      | _, _, _ => none
    | .Subscript v i _ => match cE n sc v with
      | none => none
      | some v' => match i with
        | .Slice lo hi none _ => match cO n sc lo, cO n sc hi with
          | some a, some b => some (.slice v' a b)
          | _, _ => none
        | .Slice _ _ (some _) _ => none
        | i => (cE n sc i).map (.item v')
    | .Tuple es _ _ => (cEs n sc es).map .tup
    | .List es _ => (cEs n sc es).map .list
    | .Dict ks vs _ => match cEk n sc ks, cEs n sc vs with
      | some a, some b => if ks.length = vs.length then some (.dict a b) else none
      | _, _ => none
    | .Call f args kws pos => match f with
      | .Attribute o name apos =>
        if isCallName o || apos.endLine != pos.line || decide (args.length + kws.length ≥ 29) then none else match cE n sc o, nameId name, cEs n sc args, cKs n sc kws with
        | some o', some i, some as, some ks => some (.callm o' i as ks)
        | _, _, _, _ => none
      | f => match cE n sc f, cEs n sc args, cKs n sc kws with
        | some f', some as, some ks => some (.call f' as ks)
        | _, _, _ => none
    | .ListComp elt gens sc' _ => match gens with
      | [⟨.Name x _, it, [], 0⟩] => if !lcOk sc sc' x it then none else match cE n (relab sc' sc) elt, nameId x, cE n sc it with
        | some a, some i, some b => some (.lcomp a i b)
        | _, _, _ => none
      | _ => none
    | _ => none
def cO : Nat → Scope → Option Expr → Option Es
  | 0, _, _ => none
  | n + 1, sc, e => match e with
    | none => some .nil
    | some e => (cE n sc e).map fun x => .cons x .nil
def cEs : Nat → Scope → List Expr → Option Es
  | 0, _, _ => none
  | n + 1, sc, es => match es with
    | [] => some .nil
    | e :: r => if isStarred e then none else match cE n sc e, cEs n sc r with
      | some a, some b => some (.cons a b)
      | _, _ => none
def cEk : Nat → Scope → List (Option Expr) → Option Es
  | 0, _, _ => none
  | n + 1, sc, es => match es with
    | [] => some .nil
    | some e :: r => match cE n sc e, cEk n sc r with
      | some a, some b => some (.cons a b)
      | _, _ => none
    | none :: _ => none
def cKs : Nat → Scope → List Keyword → Option Ks
  | 0, _, _ => none
  | n + 1, sc, ks => match ks with
    | [] => some .nil
    | ⟨some k, e, _⟩ :: r => match nameId k, cE n sc e, cKs n sc r with
      | some i, some a, some b => some (.cons i a b)
      | _, _, _ => none
    | _ => none
def cC : Nat → Scope → Expr → Option C
  | 0, _, _ => none
  | n + 1, sc, e => match e with
    | .UnaryOp .Not x _ => (cC n sc x).map .not
    | .BoolOp op vs _ => (cCs n sc vs).map (.boo op)
    | .IfExp t b o _ => match cC n sc t, cC n sc b, cC n sc o with
      | some t', some b', some o' => some (.ife t' b' o')
      | _, _, _ => none
    | .Compare l [op] [r] _ => if behindInMarks op r then none else match cE n sc l, cE n sc r with
      | some a, some b => some (.cmp op a b)
      | _, _ => none
    | e => if isCompare e then none else (cE n sc e).map .e
def cCs : Nat → Scope → List Expr → Option Cs
  | 0, _, _ => none
  | n + 1, sc, es => match es with
    | [] => some .nil
    | e :: r => match cC n sc e, cCs n sc r with
      | some a, some b => some (.cons a b)
      | _, _ => none
end
structure Cls where
  attrs : List (Nat × Option AV)
  exc : Option (List String) := none
structure Genv where
  glb : List (Nat × AV)
  blt : List (Nat × AV)
  cls : List (Addr × Cls)
  fns : List Addr
  free : List Nat
  objs : List Addr
def nGetattribute : Nat := enc "__getattribute__"
def nGetattr : Nat := enc "__getattr__"
def nSetattr : Nat := enc "__setattr__"
def nInit : Nat := enc "__init__"
def Genv.look (G : Genv) (x : Nat) : Option AV := match G.glb.lookup x with
  | some v => some v
  | none => G.blt.lookup x
def truW (σ : List AObj) (v : AV) (Q : Bool → Prop) : Prop :=
  match v with
  | .none => Q false
  | .bool b => Q b
  | .int i => Q (decide (i ≠ 0))
  | .str s => s.length ≤ 16777216 ∧ Q (decide (s.length ≠ 0))
  | .bytes b => b.size ≤ 16777216 ∧ Q (decide (b.size ≠ 0))
  | .fls xs => xs.length ≤ 16777216 ∧ Q (decide (xs.length ≠ 0))
  | .ref i => match σ[i]? with
    | some (.list xs) => xs.length ≤ 16777216 ∧ Q (decide (xs.length ≠ 0))
    | some (.dict xs) => Q (decide (xs.length ≠ 0))
    | _ => False
  | _ => False
def instAttr (c : Cls) (fs : List (Nat × AV)) (a : Nat) : Option AV :=
  match c.exc with
  | some _ => none
  | none => match c.attrs.lookup a with
  | some none => fs.lookup a
  | some (some (.int i)) => match fs.lookup a with | none => some (.int i) | _ => none
  | some (some (.str x)) => match fs.lookup a with | none => some (.str x) | _ => none
  | _ => none
def getA (G : Genv) (v : AV) (a : Nat) (st : St) (Q : AV → St → Prop) : Prop :=
  match v with
  | .ref i => match st.σ[i]? with
    | some (.inst C fs) => match G.cls.lookup C with
      | none => False
      | some c => match instAttr c fs a with
        | some v => G.free.contains a = true ∧ Q v st
        | none => False
    | _ => False
  | _ => False
def isA (G : Genv) (a b : AV) : Option Bool :=
  match a, b with
  | .none, .none => some true
  | .bool _, .none | .int _, .none | .str _, .none | .bytes _, .none | .tup _, .none | .ref _, .none | .glob _, .none => some false
  | .glob x, .glob y => match G.objs.contains x && G.objs.contains y with | true => some (Nat.beq x y) | false => none
  | .ref _, .glob y => match G.objs.contains y with | true => some false | false => none
  | .none, .glob _ | .bool _, .glob _ | .int _, .glob _ | .str _, .glob _ | .bytes _, .glob _ => some false
  | .tup _, .glob y => match G.objs.contains y with | true => some false | false => none
  | _, _ => none
inductive Callee where
  | user (f : Addr)
  | blt (b : Bi)
def strMeths : List (Nat × Bi) := [(enc "encode", .sEncode), (enc "find", .sFind), (enc "format", .sFormat), (enc "join", .sJoin), (enc "upper", .sUpper), (enc "lower", .sLower), (enc "strip", .sStrip), (enc "lstrip", .sLstrip), (enc "rstrip", .sRstrip),
  (enc "split", .sSplit), (enc "partition", .sPartition), (enc "rpartition", .sRpartition), (enc "isalnum", .sIsalnum), (enc "isdigit", .sIsdigit), (enc "startswith", .sStartswith)]
def bytesMeths : List (Nat × Bi) := [(enc "find", .bFind), (enc "strip", .bStrip), (enc "rstrip", .bRstrip), (enc "partition", .bPartition), (enc "upper", .bUpper), (enc "lower", .bLower), (enc "join", .bJoin), (enc "decode", .bDecode),
  (enc "split", .bSplit), (enc "startswith", .bStartswith), (enc "endswith", .bEndswith)]
def listMeths : List (Nat × Bi) := [(enc "append", .lAppend), (enc "extend", .lExtend), (enc "sort", .lSort)]
def dictMeths : List (Nat × Bi) := [(enc "get", .dGet), (enc "items", .dItems), (enc "values", .dValues), (enc "keys", .dKeys), (enc "pop", .dPop)]
def methodOf (G : Genv) (σ : List AObj) (v : AV) (name : Nat) : Option Callee :=
  match v with
  | .str _ => (strMeths.lookup name).map .blt
  | .bytes _ => (bytesMeths.lookup name).map .blt
  | .int _ => match Nat.beq name (enc "to_bytes") with | true => some (.blt .iToBytes) | false => none
  | .type .int => match Nat.beq name (enc "from_bytes") with | true => some (.blt .iFromBytes) | false => none
  | .ref i => match σ[i]? with
    | some (.inst C fs) => match G.cls.lookup C with
      | none => none
      | some c => match c.exc, G.free.contains name, fs.lookup name, c.attrs.lookup name with
        | none, true, none, some (some (.glob f)) => match G.fns.contains f with | true => some (.user f) | false => none
        | _, _, _, _ => none
    | some (.list _) => (listMeths.lookup name).map .blt
    | some (.dict _) => (dictMeths.lookup name).map .blt
    | _ => none
  | _ => none
inductive Fl where
  | next | brk | cont | ret (v : AV)
  deriving Inhabited
abbrev VQ := AV → St → Prop
structure Blts where
  fn : Bi → List AV → St → VQ → Xp → Prop
  ty : Ty → List AV → St → VQ → Xp → Prop
  meth : Bi → AV → List AV → St → VQ → Xp → Prop
  item : AV → AV → St → VQ → Xp → Prop
  slice : AV → Option AV → Option AV → St → VQ → Xp → Prop
  un : UnaryOp → AV → St → VQ → Xp → Prop
  cmp : CmpOp → AV → AV → St → (Bool → St → Prop) → Xp → Prop
inductive Turn where
  | item (v : AV) | done | bad
def turnOf (σ : List AObj) (it : AV) (k : Nat) : Turn := match it with
  | .tup xs => match xs[k]? with | some v => .item v | none => .done
  | .bytes b => match b[k]? with | some v => .item (.int v.toNat) | none => .done
  | .rng lo hi st => match decide ((k : Int) < Builtin.Range.rangeSize lo hi st) with | true => .item (.int (lo + k * st)) | false => .done
  | .ref i => match σ[i]? with
    | some (.list xs) => match xs[k]? with | some v => .item v | none => .done
    | _ => .bad
  | _ => .bad
def iterOk (σ : List AObj) (it : AV) : Prop := match it with
  | .tup _ | .bytes _ => True
  | .rng lo hi st => Builtin.Range.small lo hi st = true
  | .ref i => ∃ xs, σ[i]? = some (.list xs)
  | _ => False
def kvOf : Es → Es → Option (List (Str × AV))
  | .nil, .nil => some []
  | .cons (.const (.str k)) ks, .cons (.const v) vs => (kvOf ks vs).map ((k, v) :: ·)
  | _, _ => none
def addObj (o : AObj) (st : St) (Q : VQ) : Prop := Q (.ref st.σ.length) { st with σ := st.σ ++ [o] }
def toSp (loc : List (Nat × AV)) (Q : VQ) : AV → List AObj → Prop := fun v σ => Q v ⟨σ, loc⟩
def toXp (loc : List (Nat × AV)) (X : Xp) : Nat → List AObj → Prop := fun i σ => X i ⟨σ, loc⟩
section
variable (G : Genv) (U : Blts) (O : Addr → Sp) (hd : Bool)
def callW (a : Addr) (vs : List AV) (ks : List (Nat × AV)) (st : St) (Q : VQ) (X : Xp) : Prop :=
  match G.fns.contains a with
    | true => O a vs ks st.σ (toSp st.loc Q) (toXp st.loc X)
    | false => match G.cls.lookup a with
      | none => False
      | some c => match c.exc with
        | none => (match c.attrs.lookup nInit with
          | some (some (.glob i)) => G.fns.contains i = true ∧
            O i (.ref st.σ.length :: vs) ks (st.σ ++ [.inst a []]) (fun v σ => v = .none ∧ Q (.ref st.σ.length) ⟨σ, st.loc⟩) (fun _ _ => False)
          | _ => False)
        | some _ => False
def cmpQ (op : CmpOp) (a b : AV) (st : St) (Q : Bool → St → Prop) (X : Xp) : Prop :=
  match op with
  | .Is => match isA G a b with | some r => Q r st | none => False
  | .IsNot => match isA G a b with | some r => Q (!r) st | none => False
  | op => U.cmp op a b st Q X
mutual
def ev : E → St → VQ → Xp → Prop
  | .const v, st, Q, _ => Q v st
  | .loc x, st, Q, _ => match st.loc.lookup x with | some v => Q v st | none => False
  | .glob x, st, Q, _ => match G.look x with | some v => Q v st | none => False
  | .attr o a, st, Q, X => ev o st (fun v st => getA G v a st Q) X
  | .bin op l r, st, Q, X => ev l st (fun a st => ev r st (fun b st => binW op a b fun v => Q v st) X) X
  | .un op x, st, Q, X => ev x st (fun a st => U.un op a st Q X) X
  | .boo op es, st, Q, X => evb op es st Q X
  | .cmp op l r, st, Q, X => ev l st (fun a st => ev r st (fun b st => cmpQ G U op a b st (fun r st => Q (.bool r) st) X) X) X
  | .ife c t o, st, Q, X => tst c st (fun b st => match b with | true => ev t st Q X | false => ev o st Q X) X
  | .item v i, st, Q, X => ev v st (fun a st => ev i st (fun b st => U.item a b st Q X) X) X
  | .slice v lo hi, st, Q, X => ev v st (fun a st => evo lo st (fun l st => evo hi st (fun h st => U.slice a l h st Q X) X) X) X
  | .tup es, st, Q, X => evs es st (fun vs st => vs.length ≤ 1000 ∧ Q (.tup vs) st) X
  | .list es, st, Q, X => evs es st (fun vs st => vs.length ≤ 1000 ∧ addObj (.list vs) st Q) X
  | .dict ks vs, st, Q, _ => match kvOf ks vs with
    | some l => (l.length ≤ 15 ∧ (l.map (·.1)).Nodup) ∧ addObj (.dict l) st Q
    | none => False
  | .callm o name args kws, st, Q, X => ev o st (fun ov st => match methodOf G st.σ ov name with
    | some (.user f) => evs args st (fun vs st => evk kws st (fun ks st => O f (ov :: vs) ks st.σ (toSp st.loc Q) (toXp st.loc X)) X) X
    | some (.blt b) => kws.isNil = true ∧ evs args st (fun vs st => U.meth b ov vs st Q X) X
    | none => False) X
  | .call f args kws, st, Q, X => ev f st (fun fv st => match fv with
    | .glob a => evs args st (fun vs st => evk kws st (fun ks st => callW G O a vs ks st Q X) X) X
    | .builtin b => kws.isNil = true ∧ evs args st (fun vs st => U.fn b vs st Q X) X
    | .type t => kws.isNil = true ∧ evs args st (fun vs st => U.ty t vs st Q X) X
    | _ => False) X
  | .lcomp elt x it, st, Q, X => ev it st (fun itv st => (hd = false ∧ st.loc.lookup nDot0 = .none ∧ iterOk st.σ itv) ∧ ∃ (N : Nat) (I : Nat → List AV → List AObj → Prop), N ≤ 100000 ∧ I 0 [] st.σ ∧ ∀ k acc σ, I k acc σ → k ≤ N ∧ acc.length = k ∧ match turnOf σ itv k with
    | .item v => ev elt ⟨σ, (x, v) :: st.loc⟩ (fun w st' => st'.loc = (x, v) :: st.loc ∧ I (k + 1) (acc ++ [w]) st'.σ) (fun _ _ => False)
    | .done => addObj (.list acc) ⟨σ, st.loc⟩ Q
    | .bad => False) X
def evo : Es → St → (Option AV → St → Prop) → Xp → Prop
  | .nil, st, Q, _ => Q none st
  | .cons e .nil, st, Q, X => ev e st (fun v st => Q (some v) st) X
  | .cons _ _, _, _, _ => False
def evb : BoolOp → Es → St → VQ → Xp → Prop
  | _, .nil, _, _, _ => False
  | op, .cons e .nil, st, Q, X => ev e st Q X
  | op, .cons e r, st, Q, X => ev e st (fun v st => truW st.σ v fun b => match op, b with
    | .And, false => Q v st
    | .Or, true => Q v st
    | _, _ => evb op r st Q X) X
def tst : C → St → (Bool → St → Prop) → Xp → Prop
  | .not c, st, Q, X => tst c st (fun b st => Q (!b) st) X
  | .boo op cs, st, Q, X => tsts op cs st Q X
  | .ife c t o, st, Q, X => tst c st (fun b st => match b with | true => tst t st Q X | false => tst o st Q X) X
  | .cmp op l r, st, Q, X => ev l st (fun a st => ev r st (fun b st => cmpQ G U op a b st Q X) X) X
  | .e x, st, Q, X => ev x st (fun v st => truW st.σ v fun b => Q b st) X
def tsts : BoolOp → Cs → St → (Bool → St → Prop) → Xp → Prop
  | op, .nil, st, Q, _ => Q (match op with | .And => true | .Or => false) st
  | op, .cons c r, st, Q, X => tst c st (fun b st => match op, b with
    | .And, false => Q false st
    | .Or, true => Q true st
    | _, _ => tsts op r st Q X) X
def evs : Es → St → (List AV → St → Prop) → Xp → Prop
  | .nil, st, Q, _ => Q [] st
  | .cons e r, st, Q, X => ev e st (fun v st => evs r st (fun vs st => Q (v :: vs) st) X) X
def evk : Ks → St → (List (Nat × AV) → St → Prop) → Xp → Prop
  | .nil, st, Q, _ => Q [] st
  | .cons k e r, st, Q, X => ev e st (fun v st => evk r st (fun vs st => Q ((k, v) :: vs) st) X) X
end
end
end Sm
end
section
set_option maxRecDepth 100000
set_option linter.unusedVariables false
namespace Sm
open PySem PySem.Calls PySem.W
structure ClsOk (B : Base) (κ₀ : Kw) (C : Addr) (c : Cls) : Prop where
  plain : c.exc = none → ∃ nm q N bs sn sub col dd k0 k1 k2 k3 k5 mN, B.h.get? C = some (excClassObj nm q C N bs [.type "object"] true sn sub false col dd k0 k1 k2 k3 k5 "object.__new__") ∧ B.h.Ns N mN ∧
    (∀ a o, c.attrs.lookup a = some o → VarRel κ₀ o (mN (dec a))) ∧ mN "__getattribute__" = none ∧ mN "__getattr__" = none ∧ mN "__setattr__" = none
  excp : ∀ up, c.exc = some up → ∃ nm q N bs bm hdct sn sub ab col dd k0 k1 k2 k3 k5 bB newId initId mN, B.h.get? C = some (excClassObj nm q C N bs bm hdct sn sub ab col dd k0 k1 k2 k3 k5 newId) ∧ ExcBaseFacts bB newId initId bm ∧ B.h.Ns N mN ∧
    (∀ a o, c.attrs.lookup a = some o → VarRel κ₀ o (mN (dec a))) ∧ (∀ T, bm.contains (.type T) = up.contains T) ∧ ∀ D, bm.contains (.ref D) = false
structure GOk (B : Base) (κ₀ : Kw) (G : Genv) : Prop where
  glob : ∃ mg mb, B.h.Ns mainGlobals mg ∧ B.h.Ns builtinsNs mb ∧ (∀ x av, G.glb.lookup x = some av → ∃ v, mg (dec x) = some v ∧ VRel κ₀ av v) ∧
    (∀ x av, G.glb.lookup x = none → G.blt.lookup x = some av → mg (dec x) = none ∧ ∃ v, mb (dec x) = some v ∧ VRel κ₀ av v)
  limit : B.h.NoLimit
  cls : ∀ C c, G.cls.lookup C = some c → ClsOk B κ₀ C c
  fns : ∀ f ∈ G.fns, ∃ o fd, B.h.get? f = some o ∧ o.cls = .type "function" ∧ o.data = .func fd
  free : ∀ a ∈ G.free, typeLookup (.type "object") (dec a) = pure none ∧ (["__module__", "__name__", "__qualname__", "__doc__", "__annotations__"] : List Str).contains (dec a) = false
  objs : ∀ a ∈ G.objs, ∃ o, B.h.get? a = some o ∧ o.cls ≠ .type "tuple"
  rho0 : ∀ i, κ₀.rho i = none
  sysm : ∃ o, B.h.get? sysModules = some o
structure Pre (B : Base) (κ₀ : Kw) (sc : Scope) (env : Env) (κ : Kw) (own : Own) (st : St) (s : Shared) : Prop where
  scope : env.scope = sc
  kind : sc.kind = .function
  globals : env.globals = mainGlobals
  builtins : env.builtins = builtinsNs
  rep : RepX B κ own env st s
  base : κ₀.le κ
theorem Pre.step {B κ₀ sc env κ own st s κ' own' st' s'} (p : Pre B κ₀ sc env κ own st s) (x : StepX B env κ own s κ' own' st' s') : Pre B κ₀ sc env κ' own' st' s' :=
  ⟨p.scope, p.kind, p.globals, p.builtins, x.rep, p.base.trans x.grow.le⟩
section
variable {B : Base} {κ₀ : Kw} {G : Genv} {sc : Scope} {env : Env} {A : Around} {κ : Kw} {own : Own} {st : St} {s : Shared} {X : Xp}
theorem Pre.ns (p : Pre B κ₀ sc env κ own st s) {a m} (h : B.h.Ns a m) : s.heap.Ns a m := h.keeps p.rep.rep.stays
theorem sound_const {k : Const} {av : AV} {n : Nat} {pos : Pos} {Q : VQ} (p : RepX B κ own env st s) (hk : constA k = some av) (hq : Q av st) : Sat B env A (eval (.Constant k n pos) env) VR Q X κ own s := by
  rw [eval_Constant]
  cases k with
  | none => obtain rfl := Option.some.inj hk; exact Sat.pure hq p .none
  | bool b => obtain rfl := Option.some.inj hk; exact Sat.pure hq p (.bool b)
  | int i => obtain rfl := Option.some.inj hk; exact wpAny_Constant_int (k := 0) (pos := default) (env := env) ⟨_, _, κ, own, hq, .toks p _, .int _ _⟩
  | str x => obtain rfl := Option.some.inj hk; exact Constant_str (k := 0) (pos := default) (env := env) ⟨_, _, κ, own, hq, .toks p _, .str _ _⟩
  | bytes b => obtain rfl := Option.some.inj hk; exact wpAny_bind (wpAny_fresh (wpAny_pure ⟨_, _, κ, own, hq, .toks p _, .bytes _ _⟩))
  | _ => cases hk
theorem sound_loc {x : Str} {i : Nat} {av : AV} {pos : Pos} {Q : VQ} (p : Pre B κ₀ sc env κ own st s) (hd : (x == ("__debug__" : Str)) = false) (hcd : (x == ("__classdict__" : Str)) = false) (hi : dec i = x)
    (hk : sc.names.lookup x = some .local ∨ sc.names.lookup x = some .cell ∨ sc.names.lookup x = some .free) (hl : st.loc.lookup i = some av) (hq : Q av st) :
    Sat B env A (eval (.Name x pos) env) VR Q X κ own s := by
  subst hi
  have hkn : env.kindOf (dec i) = sc.names.lookup (dec i) := by unfold Env.kindOf; rw [p.scope]
  have hsk : env.scope.kind = .function := by rw [p.scope]; exact p.kind
  rcases hk with hk | hk | hk <;> rw [hk] at hkn
  · obtain ⟨m, hm, hr⟩ := p.rep.loc.vars
    have := hr i hkn
    rw [hl] at this
    obtain ⟨v, hv, hvr⟩ := this
    exact wpAny_Name (wpAny_loadName_local hsk hkn hm hv ⟨_, _, κ, own, hq, .refl p.rep, hvr⟩) hd
  · obtain ⟨c, v, h1, h2, h3, h4, h5⟩ := p.rep.loc.cells i hkn
    rw [hl] at h5
    obtain ⟨w, rfl, hvr⟩ := h5
    exact wpAny_Name (wpAny_loadName_cell hsk hkn h1 h4 ⟨_, _, κ, own, hq, .refl p.rep, hvr⟩) hd
  · obtain ⟨c, v, h1, h2, h3, h4⟩ := p.rep.loc.frees i hkn
    rw [hl] at h4
    obtain ⟨w, rfl, hvr⟩ := h4
    exact wpAny_Name (wpAny_loadName_free hsk hkn h1 h3 ⟨_, _, κ, own, hq, .refl p.rep, hvr⟩ hcd) hd
theorem sound_glob (hG : GOk B κ₀ G) {x : Str} {i : Nat} {av : AV} {pos : Pos} {Q : VQ} (p : Pre B κ₀ sc env κ own st s) (hd : (x == ("__debug__" : Str)) = false) (hi : dec i = x)
    (hk : sc.names.lookup x = some .globalImplicit) (hl : G.look i = some av) (hq : Q av st) :
    Sat B env A (eval (.Name x pos) env) VR Q X κ own s := by
  subst hi
  have hkn : env.kindOf (dec i) = sc.names.lookup (dec i) := by unfold Env.kindOf; rw [p.scope]
  have hsk : env.scope.kind = .function := by rw [p.scope]; exact p.kind
  rw [hk] at hkn
  obtain ⟨mg, mb, hg, hb, g1, g2⟩ := hG.glob
  have hg' := p.ns hg
  have hb' := p.ns hb
  unfold Genv.look at hl
  cases e : G.glb.lookup i with
  | some v =>
    rw [e] at hl
    obtain rfl := Option.some.inj hl
    obtain ⟨v, hv, hvr⟩ := g1 i _ e
    exact Name_function_global hsk hkn (loadGlobal_global (by rw [p.globals]; exact hg') hv ⟨_, _, κ, own, hq, .refl p.rep, hvr.mono p.base⟩) hd
  | none =>
    rw [e] at hl
    obtain ⟨hn, v, hv, hvr⟩ := g2 i _ e hl
    exact Name_function_global hsk hkn (loadGlobal_builtin (by rw [p.globals]; exact hg') hn (by rw [p.builtins]; exact hb') hv ⟨_, _, κ, own, hq, .refl p.rep, hvr.mono p.base⟩) hd
theorem list_isList {xs : List AV} {i : Nat} {a : Addr} (x : ORep B κ own s.heap i a (.list xs)) : ∃ vs, s.heap.IsList a vs ∧ VRels κ xs vs.toList := by
  obtain ⟨vs, h1, h5⟩ := x
  exact ⟨vs.toArray, h1.isList, by simpa using h5⟩
theorem sound_truth {v : AV} {va : Value} {Q : Bool → St → Prop} (p : RepX B κ own env st s) (hv : VRel κ v va) (h : truW st.σ v fun b => Q b st) :
    Sat B env A (truthy va) (fun _ a b => a = b) Q X κ own s := by
  cases hv with
  | none => exact PyProof.Rows.truthy_none ⟨_, _, κ, own, h, .refl p, rfl⟩
  | bool b => exact wpAny_truthy_bool ⟨_, _, κ, own, h, .refl p, rfl⟩
  | int i t => exact P.truthy_int ⟨_, _, κ, own, h, .refl p, by by_cases e : i = 0 <;> simp [e]⟩
  | str x t => exact P.truthy_str (by have := h.1; omega) ⟨_, _, κ, own, h.2, .toks p _, by by_cases e : x.length = 0 <;> simp [e] <;> omega⟩
  | bytes b t => exact W.truthy_bytes (by have := h.1; omega) ⟨_, _, κ, own, h.2, .toks p _, by by_cases e : b.size = 0 <;> simp [e] <;> omega⟩
  | fls hi hx =>
    obtain ⟨_, hl⟩ := (p.rep.imm _ _ hi).2
    have hlen := hx.length
    refine wpAny_truthy_list hl (by have := h.1; rw [List.size_toArray]; omega) ⟨_, _, κ, own, h.2, .toks p _, ?_⟩
    cases hx with
    | nil => simp
    | cons h t => simp
  | ref hi =>
    rename_i i a
    obtain ⟨o, ho⟩ : ∃ o, st.σ[i]? = some o := by
      cases e : st.σ[i]? with
      | some o => exact ⟨o, rfl⟩
      | none => simp only [truW, e] at h
    simp only [truW, ho] at h
    obtain ⟨a', ha', hr⟩ := p.rep.objs i o ho
    rw [hi] at ha'
    obtain rfl := Option.some.inj ha'
    cases o with
    | list xs =>
      obtain ⟨vs, hl, hr⟩ := list_isList hr
      have hlen := hr.length
      have e0 : vs.toList.length = vs.size := Array.length_toList
      rw [e0] at hlen
      refine wpAny_truthy_list hl (by have := h.1; omega) ⟨_, _, κ, own, h.2, .toks p _, ?_⟩
      by_cases e : vs.size = 0
      · have : vs = #[] := Array.eq_empty_of_size_eq_zero e
        subst this; simp at hlen; simp [hlen]
      · have : vs.isEmpty = false := by simpa using e
        rw [this]; simp; intro q; rw [q] at hlen; exact e (by simpa using hlen.symm)
    | dict kvs =>
      obtain ⟨vs, h1, h2, h3, h4⟩ := hr
      have hlen := h2.length
      refine wpAny_truthy_dict (by simpa using h3) h1 (by omega) ⟨_, _, κ, own, h, .toks p _, ?_⟩
      cases vs <;> cases kvs <;> simp at hlen ⊢
    | inst | exc => exact h.elim
  | _ => exact h.elim
end
end Sm
end
section
set_option maxRecDepth 100000
namespace Sm.FX
open PySem PySem.W PySem.W.FB
theorem slot_bytes_find : Slot "bytes" "find" "bytes.find" :=
  .of (owner := "bytes") (n := "find") (by rw [typeLookup_type, builtinLookup_eq_fast]; kernel_rfl) (by decide +kernel) (by decide +kernel) (by decide +kernel)
    (by first | exact .inl (by decide +kernel) | exact .inr (by decide +kernel)) (by rw [isSubtype_type]; kernel_rfl)
theorem type_bytes_find : typeOf (.builtin "bytes.find") = pure (.type "method_descriptor") := by show builtinType _ = _; rw [builtinType_eq_fast]; kernel_rfl
theorem entry_bytes_find : entryFor table "bytes.find" = some Builtin.«bytes.find» := entryFor_of_tree (by kernel_rfl)
theorem args_bytes_find_2 (a b : Value) : argsOk "bytes.find" ⟨[a, b], []⟩ := by
  unfold argsOk; rw [signature?_of (id := "bytes.find") (n := ['d', 'n', 'i', 'f']) (o := ['s', 'e', 't', 'y', 'b']) (by kernel_rfl) owner_bytes]; kernel_rfl
theorem args_bytes_find_3 (a b c : Value) : argsOk "bytes.find" ⟨[a, b, c], []⟩ := by
  unfold argsOk; rw [signature?_of (id := "bytes.find") (n := ['d', 'n', 'i', 'f']) (o := ['s', 'e', 't', 'y', 'b']) (by kernel_rfl) owner_bytes]; kernel_rfl
theorem slot_bytes_strip : Slot "bytes" "strip" "bytes.strip" :=
  .of (owner := "bytes") (n := "strip") (by rw [typeLookup_type, builtinLookup_eq_fast]; kernel_rfl) (by decide +kernel) (by decide +kernel) (by decide +kernel)
    (by first | exact .inl (by decide +kernel) | exact .inr (by decide +kernel)) (by rw [isSubtype_type]; kernel_rfl)
theorem type_bytes_strip : typeOf (.builtin "bytes.strip") = pure (.type "method_descriptor") := by show builtinType _ = _; rw [builtinType_eq_fast]; kernel_rfl
theorem entry_bytes_strip : entryFor table "bytes.strip" = some Builtin.«bytes.strip» := entryFor_of_tree (by kernel_rfl)
theorem args_bytes_strip_1 (a : Value) : argsOk "bytes.strip" ⟨[a], []⟩ := by
  unfold argsOk; rw [signature?_of (id := "bytes.strip") (n := ['p', 'i', 'r', 't', 's']) (o := ['s', 'e', 't', 'y', 'b']) (by kernel_rfl) owner_bytes]; kernel_rfl
theorem args_bytes_strip_2 (a b : Value) : argsOk "bytes.strip" ⟨[a, b], []⟩ := by
  unfold argsOk; rw [signature?_of (id := "bytes.strip") (n := ['p', 'i', 'r', 't', 's']) (o := ['s', 'e', 't', 'y', 'b']) (by kernel_rfl) owner_bytes]; kernel_rfl
theorem slot_bytes_rstrip : Slot "bytes" "rstrip" "bytes.rstrip" :=
  .of (owner := "bytes") (n := "rstrip") (by rw [typeLookup_type, builtinLookup_eq_fast]; kernel_rfl) (by decide +kernel) (by decide +kernel) (by decide +kernel)
    (by first | exact .inl (by decide +kernel) | exact .inr (by decide +kernel)) (by rw [isSubtype_type]; kernel_rfl)
theorem type_bytes_rstrip : typeOf (.builtin "bytes.rstrip") = pure (.type "method_descriptor") := by show builtinType _ = _; rw [builtinType_eq_fast]; kernel_rfl
theorem entry_bytes_rstrip : entryFor table "bytes.rstrip" = some Builtin.«bytes.rstrip» := entryFor_of_tree (by kernel_rfl)
theorem args_bytes_rstrip_1 (a : Value) : argsOk "bytes.rstrip" ⟨[a], []⟩ := by
  unfold argsOk; rw [signature?_of (id := "bytes.rstrip") (n := ['p', 'i', 'r', 't', 's', 'r']) (o := ['s', 'e', 't', 'y', 'b']) (by kernel_rfl) owner_bytes]; kernel_rfl
theorem args_bytes_rstrip_2 (a b : Value) : argsOk "bytes.rstrip" ⟨[a, b], []⟩ := by
  unfold argsOk; rw [signature?_of (id := "bytes.rstrip") (n := ['p', 'i', 'r', 't', 's', 'r']) (o := ['s', 'e', 't', 'y', 'b']) (by kernel_rfl) owner_bytes]; kernel_rfl
theorem slot_bytes_lower : Slot "bytes" "lower" "bytes.lower" :=
  .of (owner := "bytes") (n := "lower") (by rw [typeLookup_type, builtinLookup_eq_fast]; kernel_rfl) (by decide +kernel) (by decide +kernel) (by decide +kernel)
    (by first | exact .inl (by decide +kernel) | exact .inr (by decide +kernel)) (by rw [isSubtype_type]; kernel_rfl)
theorem type_bytes_lower : typeOf (.builtin "bytes.lower") = pure (.type "method_descriptor") := by show builtinType _ = _; rw [builtinType_eq_fast]; kernel_rfl
theorem entry_bytes_lower : entryFor table "bytes.lower" = some Builtin.«bytes.lower» := entryFor_of_tree (by kernel_rfl)
theorem args_bytes_lower_1 (a : Value) : argsOk "bytes.lower" ⟨[a], []⟩ := by
  unfold argsOk; rw [signature?_of (id := "bytes.lower") (n := ['r', 'e', 'w', 'o', 'l']) (o := ['s', 'e', 't', 'y', 'b']) (by kernel_rfl) owner_bytes]; kernel_rfl
theorem slot_bytes_upper : Slot "bytes" "upper" "bytes.upper" :=
  .of (owner := "bytes") (n := "upper") (by rw [typeLookup_type, builtinLookup_eq_fast]; kernel_rfl) (by decide +kernel) (by decide +kernel) (by decide +kernel)
    (by first | exact .inl (by decide +kernel) | exact .inr (by decide +kernel)) (by rw [isSubtype_type]; kernel_rfl)
theorem type_bytes_upper : typeOf (.builtin "bytes.upper") = pure (.type "method_descriptor") := by show builtinType _ = _; rw [builtinType_eq_fast]; kernel_rfl
theorem entry_bytes_upper : entryFor table "bytes.upper" = some Builtin.«bytes.upper» := entryFor_of_tree (by kernel_rfl)
theorem args_bytes_upper_1 (a : Value) : argsOk "bytes.upper" ⟨[a], []⟩ := by
  unfold argsOk; rw [signature?_of (id := "bytes.upper") (n := ['r', 'e', 'p', 'p', 'u']) (o := ['s', 'e', 't', 'y', 'b']) (by kernel_rfl) owner_bytes]; kernel_rfl
theorem slot_bytes_partition : Slot "bytes" "partition" "bytes.partition" :=
  .of (owner := "bytes") (n := "partition") (by rw [typeLookup_type, builtinLookup_eq_fast]; kernel_rfl) (by decide +kernel) (by decide +kernel) (by decide +kernel)
    (by first | exact .inl (by decide +kernel) | exact .inr (by decide +kernel)) (by rw [isSubtype_type]; kernel_rfl)
theorem type_bytes_partition : typeOf (.builtin "bytes.partition") = pure (.type "method_descriptor") := by show builtinType _ = _; rw [builtinType_eq_fast]; kernel_rfl
theorem entry_bytes_partition : entryFor table "bytes.partition" = some Builtin.«bytes.partition» := entryFor_of_tree (by kernel_rfl)
theorem args_bytes_partition_2 (a b : Value) : argsOk "bytes.partition" ⟨[a, b], []⟩ := by
  unfold argsOk; rw [signature?_of (id := "bytes.partition") (n := ['n', 'o', 'i', 't', 'i', 't', 'r', 'a', 'p']) (o := ['s', 'e', 't', 'y', 'b']) (by kernel_rfl) owner_bytes]; kernel_rfl
theorem slot_bytes_join : Slot "bytes" "join" "bytes.join" :=
  .of (owner := "bytes") (n := "join") (by rw [typeLookup_type, builtinLookup_eq_fast]; kernel_rfl) (by decide +kernel) (by decide +kernel) (by decide +kernel)
    (by first | exact .inl (by decide +kernel) | exact .inr (by decide +kernel)) (by rw [isSubtype_type]; kernel_rfl)
theorem type_bytes_join : typeOf (.builtin "bytes.join") = pure (.type "method_descriptor") := by show builtinType _ = _; rw [builtinType_eq_fast]; kernel_rfl
theorem entry_bytes_join : entryFor table "bytes.join" = some Builtin.«bytes.join» := entryFor_of_tree (by kernel_rfl)
theorem args_bytes_join_2 (a b : Value) : argsOk "bytes.join" ⟨[a, b], []⟩ := by
  unfold argsOk; rw [signature?_of (id := "bytes.join") (n := ['n', 'i', 'o', 'j']) (o := ['s', 'e', 't', 'y', 'b']) (by kernel_rfl) owner_bytes]; kernel_rfl
theorem slot_bytes_split : Slot "bytes" "split" "bytes.split" :=
  .of (owner := "bytes") (n := "split") (by rw [typeLookup_type, builtinLookup_eq_fast]; kernel_rfl) (by decide +kernel) (by decide +kernel) (by decide +kernel)
    (by first | exact .inl (by decide +kernel) | exact .inr (by decide +kernel)) (by rw [isSubtype_type]; kernel_rfl)
theorem type_bytes_split : typeOf (.builtin "bytes.split") = pure (.type "method_descriptor") := by show builtinType _ = _; rw [builtinType_eq_fast]; kernel_rfl
theorem entry_bytes_split : entryFor table "bytes.split" = some Builtin.«bytes.split» := entryFor_of_tree (by kernel_rfl)
theorem args_bytes_split_2 (a b : Value) : argsOk "bytes.split" ⟨[a, b], []⟩ := by
  unfold argsOk; rw [signature?_of (id := "bytes.split") (n := ['t', 'i', 'l', 'p', 's']) (o := ['s', 'e', 't', 'y', 'b']) (by kernel_rfl) owner_bytes]; kernel_rfl
end Sm.FX
end
section
set_option maxRecDepth 100000
set_option linter.unusedVariables false
namespace Sm
open PySem PySem.Calls PySem.W Builtin
section
variable {b c : Array UInt8} {t u : Tok}
theorem lower_eq : «bytes.lower» ⟨[.bytes b t], []⟩ = (mkBytes (b.toList.map Bytes.toLower).toArray >>= fun v => ret v) := by rfl
theorem upper_eq : «bytes.upper» ⟨[.bytes b t], []⟩ = (mkBytes (b.toList.map Bytes.toUpper).toArray >>= fun v => ret v) := by rfl
def stripB (left right : Bool) (drop : UInt8 → Bool) (b : Array UInt8) : List UInt8 :=
  let kept := if left then b.toList.dropWhile drop else b.toList
  if right then (kept.reverse.dropWhile drop).reverse else kept
theorem strip1_eq : «bytes.strip» ⟨[.bytes b t], []⟩ = (if (stripB true true Bytes.isSpace b).length == b.size then (rule "bytes.strip.unchanged" >>= fun _ => Bytes.Kind.bytes.same (.bytes b t) >>= fun v => ret v) else (mkBytes (stripB true true Bytes.isSpace b).toArray >>= fun v => ret v)) := by
  kernel_rfl
end
end Sm
end
section
set_option maxRecDepth 100000
set_option linter.unusedVariables false
namespace Sm
open PySem PySem.Calls PySem.W Builtin
section
variable {b c : Array UInt8} {t u v : Tok} {i : Int}
theorem strip2_eq : «bytes.strip» ⟨[.bytes b t, .bytes c u], []⟩ = (Bytes.bytesLike "bytes.strip" (.bytes c u) >>= fun set => if (stripB true true set.contains b).length == b.size then (rule "bytes.strip.unchanged" >>= fun _ => Bytes.Kind.bytes.same (.bytes b t) >>= fun v => ret v) else (mkBytes (stripB true true set.contains b).toArray >>= fun v => ret v)) := by
  rfl
theorem rstrip2_eq : «bytes.rstrip» ⟨[.bytes b t, .bytes c u], []⟩ = (Bytes.bytesLike "bytes.rstrip" (.bytes c u) >>= fun set => if (stripB false true set.contains b).length == b.size then (rule "bytes.rstrip.unchanged" >>= fun _ => Bytes.Kind.bytes.same (.bytes b t) >>= fun v => ret v) else (mkBytes (stripB false true set.contains b).toArray >>= fun v => ret v)) := by
  rfl
def partB (b sep : Array UInt8) : Option Nat := Bytes.find? b sep 0 b.size
theorem meets_partition (hc : c.isEmpty = false) (hb : b.size ≤ 16777216) : Meets («bytes.partition» ⟨[.bytes b t, .bytes c u], []⟩) (fun _ R s => match partB b c with
    | some i => ∀ t1 t2 k, R (.ok (.ret (.ref s.heap.objs.size))) { s with heap := s.heap.push { cls := .type "tuple", data := .seq #[.bytes (b.extract 0 i) t1, .bytes c u, .bytes (b.extract (i + c.size) b.size) t2] }, toks := k }
    | none => ∀ t1 k, R (.ok (.ret (.ref s.heap.objs.size))) { s with heap := s.heap.push { cls := .type "tuple", data := .seq #[.bytes b t, .bytes #[] t1, .bytes #[] t1] }, toks := k }) := by
  refine .of_wp fun prog w A R s h => ?_
  unfold Builtin.«bytes.partition» Bytes.partitionM
  refine wpAny_bind (m := selfAndOne _ _) (wpAny_pure ?_)
  refine wpAny_bind (wpAny_of_eq KBy.buffer_eq ?_)
  simp only [hc, Bool.false_eq_true, if_false]
  refine wpAny_bind (m := Bytes.payload _) (wpAny_pure ?_)
  unfold partB at h
  cases e : Bytes.find? b c 0 b.size with
  | some i =>
    rw [e] at h
    refine wpAny_bind (wpAny_pure ?_)
    refine wpAny_bind (wpAny_mkBytes ?_ (by rw [sizeLine_eq, Array.size_extract]; omega))
    refine wpAny_bind (wpAny_mkBytes ?_ (by rw [sizeLine_eq, Array.size_extract]; omega))
    unfold newTuple
    refine wpAny_bind (wpAny_newObj_type ?_)
    exact wpAny_pure ⟨_, rfl, h _ _ _⟩
  | none =>
    rw [e] at h
    refine wpAny_bind (wpAny_rule ?_)
    refine wpAny_bind (wpAny_pure ?_)
    refine wpAny_bind (wpAny_mkBytes ?_ (by decide))
    refine wpAny_bind (wpAny_pure ?_)
    unfold newTuple
    refine wpAny_bind (wpAny_newObj_type ?_)
    exact wpAny_pure ⟨_, rfl, h _ _⟩
end
end Sm
end
section
set_option maxRecDepth 100000
set_option linter.unusedVariables false
namespace Sm
open PySem PySem.Calls PySem.W Builtin
section
variable {b c : Array UInt8} {t u v : Tok} {i : Int}
theorem bound_int : Bytes.bound? (some (.int i v)) = pure (some i) := by
  unfold Bytes.bound?
  have e : specialOf (.int i v) "__index__" = pure (some (.builtin "int.__index__")) := F.slot_int_index.lookup
  simp only [e]
  rfl
def findB (b c : Array UInt8) (start : Option Int) : Int :=
  match (if (Bytes.window b.size start none).2 - (Bytes.window b.size start none).1 < c.size then none else some ((Bytes.window b.size start none).1.toNat, (Bytes.window b.size start none).2.toNat)).bind fun (lo, hi) => Bytes.find? b c lo hi with
  | some i => i
  | none => -1
theorem meets_find2 : Meets («bytes.find» ⟨[.bytes b t, .bytes c u], []⟩) (fun _ R s => R (.ok (.ret (.int (findB b c none) s.toks))) { s with toks := s.toks + 1 }) := by
  refine .of_wp fun prog w A R s h => ?_
  unfold Builtin.«bytes.find» Bytes.searchM Bytes.searchArgs
  refine wpAny_bind (wpAny_bind (m := selfAndSome _ _ _ _ _) (wpAny_pure ?_))
  refine wpAny_bind (m := Bytes.bound? _) (wpAny_pure ?_)
  refine wpAny_bind (m := Bytes.bound? _) (wpAny_pure ?_)
  refine wpAny_bind (m := Bytes.buffer? _ _) (wpAny_of_eq KBy.buffer_eq ?_)
  refine wpAny_bind (wpAny_pure ?_)
  refine wpAny_bind (m := Bytes.payload _) (wpAny_pure ?_)
  unfold findB at h
  generalize Bytes.window b.size none none = w at h ⊢
  obtain ⟨lo, hi⟩ := w
  refine wpAny_pure ?_
  simp only [Bool.false_eq_true, if_false] at h ⊢
  split
  · rename_i k e
    rw [e] at h
    exact wpAny_bind (wpAny_mkInt (wpAny_pure ⟨_, rfl, h⟩))
  · rename_i e
    rw [e] at h
    refine wpAny_bind (wpAny_rule ?_)
    exact wpAny_bind (wpAny_mkInt (wpAny_pure ⟨_, rfl, h⟩))
theorem meets_find3 : Meets («bytes.find» ⟨[.bytes b t, .bytes c u, .int i v], []⟩) (fun _ R s => R (.ok (.ret (.int (findB b c (some i)) s.toks))) { s with toks := s.toks + 1 }) := by
  refine .of_wp fun prog w A R s h => ?_
  unfold Builtin.«bytes.find» Bytes.searchM Bytes.searchArgs
  refine wpAny_bind (wpAny_bind (m := selfAndSome _ _ _ _ _) (wpAny_pure ?_))
  refine wpAny_bind (m := Bytes.bound? _) (wpAny_of_eq bound_int ?_)
  refine wpAny_bind (m := Bytes.bound? _) (wpAny_pure ?_)
  refine wpAny_bind (m := Bytes.buffer? _ _) (wpAny_of_eq KBy.buffer_eq ?_)
  refine wpAny_bind (wpAny_pure ?_)
  refine wpAny_bind (m := Bytes.payload _) (wpAny_pure ?_)
  unfold findB at h
  generalize Bytes.window b.size (some i) none = w at h ⊢
  obtain ⟨lo, hi⟩ := w
  refine wpAny_pure ?_
  simp only [Bool.false_eq_true, if_false] at h ⊢
  split
  · rename_i k e
    rw [e] at h
    exact wpAny_bind (wpAny_mkInt (wpAny_pure ⟨_, rfl, h⟩))
  · rename_i e
    rw [e] at h
    refine wpAny_bind (wpAny_rule ?_)
    exact wpAny_bind (wpAny_mkInt (wpAny_pure ⟨_, rfl, h⟩))
end
end Sm
end
section
set_option maxRecDepth 100000
set_option linter.unusedVariables false
namespace Sm
open PySem PySem.Calls PySem.W Builtin
section
variable {b c : Array UInt8} {t u v : Tok} {i : Int}
theorem dropWhile_len {α : Type} (p : α → Bool) : ∀ l : List α, (l.dropWhile p).length ≤ l.length
  | [] => by simp
  | a :: l => by
    rw [List.dropWhile_cons]
    split
    · have := dropWhile_len p l; simp; omega
    · simp
theorem stripB_len (l r : Bool) (p : UInt8 → Bool) (b : Array UInt8) : (stripB l r p b).length ≤ b.size := by
  have h0 : b.toList.length = b.size := Array.length_toList
  have h1 := dropWhile_len p b.toList
  unfold stripB
  cases l <;> cases r <;> simp only [if_true, if_false, Bool.false_eq_true]
  · omega
  · have := dropWhile_len p b.toList.reverse; simp at this ⊢; omega
  · omega
  · have := dropWhile_len p (b.toList.dropWhile p).reverse; simp at this ⊢; omega
theorem dropWhile_same {α : Type} (p : α → Bool) : ∀ l : List α, (l.dropWhile p).length = l.length → l.dropWhile p = l
  | [], _ => rfl
  | a :: l, h => by
    rw [List.dropWhile_cons] at h ⊢
    split
    · rename_i q
      rw [if_pos q] at h
      have := dropWhile_len p l
      simp at h; omega
    · rfl
theorem stripB_same (l r : Bool) (p : UInt8 → Bool) (b : Array UInt8) (h : (stripB l r p b).length = b.size) : (stripB l r p b).toArray = b := by
  have h0 : b.toList.length = b.size := Array.length_toList
  have h1 := dropWhile_len p b.toList
  have key : stripB l r p b = b.toList := by
    unfold stripB at h ⊢
    cases l <;> cases r <;> simp only [if_true, if_false, Bool.false_eq_true] at h ⊢
    · have := dropWhile_same p b.toList.reverse (by simp at h ⊢; omega)
      rw [this]; simp
    · exact dropWhile_same p b.toList (by omega)
    · have h2 := dropWhile_len p (b.toList.dropWhile p).reverse
      simp at h h2
      have e1 := dropWhile_same p b.toList (by simp; omega)
      rw [e1] at h ⊢
      have := dropWhile_same p b.toList.reverse (by simp; omega)
      rw [this]; simp
  rw [key]
theorem wp_strip {M : Model} {A : Around} {E : Value → Shared → Prop} {s : Shared} {R : Result → Shared → Prop} {l r : Bool} {p : UInt8 → Bool} {what : String} (hb : b.size ≤ 16777216) (h : ∀ t' k, R (.ok (.ret (.bytes (stripB l r p b).toArray t'))) { s with toks := k }) :
    wpAny M A (if (stripB l r p b).length == b.size then (rule what >>= fun _ => Bytes.Kind.bytes.same (.bytes b t) >>= fun v => ret v) else (mkBytes (stripB l r p b).toArray >>= fun v => ret v)) (fun fin s' => ∃ v, fin = .done (.ret v) ∧ R (.ok (.ret v)) s') E s := by
  have hlen := stripB_len l r p b
  by_cases e : (stripB l r p b).length = b.size
  · rw [if_pos (beq_iff_eq.mpr e)]
    have := h t s.toks
    rw [stripB_same l r p b e] at this
    exact wpAny_bind (wpAny_rule (wpAny_bind (wpAny_pure (wpAny_pure ⟨_, rfl, this⟩))))
  · rw [if_neg (by simpa using e)]
    exact wpAny_bind (wpAny_mkBytes (wpAny_pure ⟨_, rfl, h _ _⟩) (by rw [sizeLine_eq]; simp; omega))
theorem meets_strip1 (hb : b.size ≤ 16777216) : Meets («bytes.strip» ⟨[.bytes b t], []⟩) (fun _ R s => ∀ t' k, R (.ok (.ret (.bytes (stripB true true Bytes.isSpace b).toArray t'))) { s with toks := k }) := by
  refine .of_wp fun prog w A R s h => ?_
  rw [strip1_eq]
  exact wp_strip hb h
theorem meets_strip2 (hb : b.size ≤ 16777216) : Meets («bytes.strip» ⟨[.bytes b t, .bytes c u], []⟩) (fun _ R s => ∀ t' k, R (.ok (.ret (.bytes (stripB true true c.contains b).toArray t'))) { s with toks := k }) := by
  refine .of_wp fun prog w A R s h => ?_
  rw [strip2_eq]
  exact wpAny_bind (wpAny_of_eq KBd.like_eq (wp_strip hb h))
theorem meets_rstrip2 (hb : b.size ≤ 16777216) : Meets («bytes.rstrip» ⟨[.bytes b t, .bytes c u], []⟩) (fun _ R s => ∀ t' k, R (.ok (.ret (.bytes (stripB false true c.contains b).toArray t'))) { s with toks := k }) := by
  refine .of_wp fun prog w A R s h => ?_
  rw [rstrip2_eq]
  exact wpAny_bind (wpAny_of_eq KBd.like_eq (wp_strip hb h))
theorem meets_lower (hb : b.size ≤ 16777216) : Meets («bytes.lower» ⟨[.bytes b t], []⟩) (fun _ R s => ∀ t' k, R (.ok (.ret (.bytes (b.toList.map Bytes.toLower).toArray t'))) { s with toks := k }) := by
  refine .of_wp fun prog w A R s h => ?_
  rw [lower_eq]
  exact wpAny_bind (wpAny_mkBytes (wpAny_pure ⟨_, rfl, h _ _⟩) (by rw [sizeLine_eq]; simp; omega))
theorem meets_upper (hb : b.size ≤ 16777216) : Meets («bytes.upper» ⟨[.bytes b t], []⟩) (fun _ R s => ∀ t' k, R (.ok (.ret (.bytes (b.toList.map Bytes.toUpper).toArray t'))) { s with toks := k }) := by
  refine .of_wp fun prog w A R s h => ?_
  rw [upper_eq]
  exact wpAny_bind (wpAny_mkBytes (wpAny_pure ⟨_, rfl, h _ _⟩) (by rw [sizeLine_eq]; simp; omega))
end
end Sm
end
section
set_option maxRecDepth 100000
set_option linter.unusedVariables false
namespace Sm
open PySem PySem.Calls PySem.W Builtin
section
variable {b c : Array UInt8} {t u v : Tok} {i : Int}
theorem take_eq {id : String} : Bytes.takeBufferQuiet? id (.bytes b t) 0 = pure (some (b, none)) := by
  unfold Bytes.takeBufferQuiet? Bytes.takeBuffer?
  rw [KBy.special_eq KBy.look_buffer, KBy.own_buffer]
  simp only [pure_bind, Bool.not_true, Bool.false_eq_true, if_false]
  rw [show ((0 : Int) == Bytes.fullReadOnly) = false by decide, KBy.buffer_eq]
  kernel_rfl
theorem letGo_many {M : Model} {A : Around} {E : Value → Shared → Prop} {s : Shared} : ∀ (l : List (Value × Option Value)) (keep : List Value) {Q : Unit → Shared → Prop}, (∀ x ∈ l, x.2 = none) → Q () s → wpAny M A (Bytes.joinLetGo l keep) Q E s
  | [], keep, Q, _, h => wpAny_pure h
  | (x, w) :: r, keep, Q, hn, h => by
    obtain rfl : w = none := hn _ (.head _)
    unfold Bytes.joinLetGo
    exact wpAny_bind (wpAny_letGo (letGo_many r keep (fun y hy => hn y (.tail _ hy)) h))
end
end Sm
end
section
set_option maxRecDepth 100000
set_option linter.unusedVariables false
namespace Sm
open PySem PySem.Calls PySem.W Builtin
inductive BytesAre : List Value → List (Array UInt8) → Prop
  | nil : BytesAre [] []
  | cons (b t) {r rs} (h : BytesAre r rs) : BytesAre (.bytes b t :: r) (b :: rs)
theorem join_step (sep : Array UInt8) : ∀ (l : List (Array UInt8)) (k : Nat) (out : Array UInt8), ((l.zipIdx k).foldl (fun out (p, i) => (if i > 0 then out ++ sep else out) ++ p) out).size ≤ out.size + (l.map (·.size)).sum + sep.size * l.length
  | [], k, out => by simp
  | p :: r, k, out => by
    rw [List.zipIdx_cons, List.foldl_cons]
    have hs : ((if k > 0 then out ++ sep else out) ++ p).size ≤ out.size + sep.size + p.size := by split <;> simp <;> omega
    dsimp only
    generalize ((if k > 0 then out ++ sep else out) ++ p) = q at hs ⊢
    refine Nat.le_trans (join_step sep r (k + 1) q) ?_
    simp only [List.map_cons, List.sum_cons, List.length_cons, Nat.mul_add, Nat.mul_one]
    omega
theorem joined_size (sep : Array UInt8) (l : List (Array UInt8)) : (Bytes.joined sep l).size ≤ (l.map (·.size)).sum + sep.size * l.length := by
  have := join_step sep l 0 #[]
  unfold Bytes.joined
  simpa using this
theorem fold_sizes (l : List (Array UInt8)) : ∀ n, l.foldl (fun x1 x2 => x1 + x2.size) n = n + (l.map (·.size)).sum := by
  induction l with
  | nil => intro n; simp
  | cons p r ih => intro n; rw [List.foldl_cons, ih]; simp; omega
theorem BytesAre.at {l : List Value} {bs : List (Array UInt8)} (h : BytesAre l bs) : l.length = bs.length ∧ ∀ i, i < l.length → ∃ b t, l.toArray.getD i Value.none = .bytes b t ∧ bs[i]? = some b := by
  induction h with
  | nil => exact ⟨rfl, fun i hi => absurd hi (by simp)⟩
  | cons b t h ih =>
    refine ⟨by simp [ih.1], fun i hi => ?_⟩
    cases i with
    | zero => exact ⟨b, t, by simp, by simp⟩
    | succ i =>
      obtain ⟨b', t', h1, h2⟩ := ih.2 i (by simpa using hi)
      exact ⟨b', t', by simpa using h1, by simpa using h2⟩
section
variable {sep : Array UInt8} {t : Tok} {a : Addr} {vs : Array Value} {bs : List (Array UInt8)}
theorem meets_join (hv : BytesAre vs.toList bs) (hsz : (bs.map (·.size)).sum + sep.size * bs.length ≤ 16777216) : Meets («bytes.join» ⟨[.bytes sep t, .ref a], []⟩) (fun _ R s => s.heap.IsList a vs ∧ ∀ t' k, R (.ok (.ret (.bytes (Bytes.joined sep bs) t'))) { s with toks := k }) := by
  refine .of_wp fun prog w A R s h => ?_
  obtain ⟨hl, h⟩ := h
  have hT : s.TypeIs (.ref a) "list" := hl.typeIs
  unfold Builtin.«bytes.join» Bytes.joinM
  refine wpAny_bind (m := selfAndOne _ _) (wpAny_pure ?_)
  dsimp only
  rw [if_pos (by decide)]
  unfold Bytes.joinItems
  refine wpAny_bind (wpAny_bind (wpAny_typeOf hT ?_))
  rw [if_pos (by decide)]
  refine wpAny_pure ?_
  obtain ⟨o, ho, hc, n, hd⟩ := hl
  refine wpAny_bind (wpAny_seqItems ho hd ?_)
  dsimp only
  rw [if_pos (by decide)]
  have at_ : ∀ i, i < vs.size → ∃ b t, vs.getD i Value.none = .bytes b t ∧ bs[i]? = some b := fun i hi => by
    have := hv.at.2 i (by simpa using hi)
    simpa using this
  have hlen : vs.size = bs.length := by simpa using hv.at.1
  obtain ⟨l⟩ := vs
  have turn : ∀ {M : Model} {A : Around} {E : Value → Shared → Prop}, True := trivial
  rcases l with _ | ⟨x, _ | ⟨y, r⟩⟩
  · cases hv
    refine wpAny_bind ?_
    rw [Std.Legacy.Range.forIn_eq_forIn_range']
    refine wpAny_forIn_list _ (fun l st s' => s' = s ∧ l = [] ∧ st = (#[], [])) _ ?_ ?_ _ _ ⟨rfl, by simp [Std.Legacy.Range.size], rfl⟩
    · rintro i rest st s' ⟨_, hk, _⟩; cases hk
    · rintro st s' ⟨rfl, _, rfl⟩
      refine wpAny_bind (m := Bytes.payload _) (wpAny_pure ?_)
      rw [if_neg (by rw [Bytes.tooLong, sizeLine_eq]; simp)]
      refine wpAny_bind (wpAny_mkBytes ?_ (by rw [sizeLine_eq]; simp [Bytes.joined]))
      refine wpAny_bind (wpAny_holding (wpAny_point (wpAny_bind (letGo_many _ _ (fun z hz => by cases hz) ?_))))
      exact wpAny_pure ⟨_, rfl, h _ _⟩
  · skip
    cases hv with
    | cons b t' h' =>
      cases h'
      refine wpAny_bind (wpAny_pure ?_)
      rw [if_pos (by decide)]
      have e : Bytes.joined sep [b] = b := by simp [Bytes.joined]
      have := h t' s.toks
      rw [e] at this
      exact wpAny_bind (wpAny_rule (wpAny_pure ⟨_, rfl, this⟩))
  · skip
    refine wpAny_bind ?_
    rw [Std.Legacy.Range.forIn_eq_forIn_range']
    refine wpAny_forIn_list _ (fun l st s' => s' = s ∧ ∃ i, l = List.range' i ((x :: y :: r).length - i) ∧ i ≤ (x :: y :: r).length ∧ st.1.toList = bs.take i ∧ ∀ x ∈ st.2, x.2 = none ∧ x.1.onHeap = false) _ ?_ ?_ _ _ ?_
    · rintro i rest st s' ⟨rfl, k, hk, hle, h1, h2⟩
      obtain ⟨m, hm⟩ : ∃ m, (x :: y :: r).length - k = m + 1 := by
        cases e : (x :: y :: r).length - k with
        | zero => rw [e] at hk; cases hk
        | succ m => exact ⟨m, rfl⟩
      rw [hm, List.range'_succ] at hk
      obtain ⟨rfl, rfl⟩ := List.cons.inj hk
      obtain ⟨b, tb, hb1, hb2⟩ := at_ i (by show i < (x :: y :: r).length; omega)
      have hany : (Bytes.Kind.bytes == Bytes.Kind.bytearray || st.snd.any fun x => x.fst.onHeap) = false := by
        rw [Bool.or_eq_false_iff]
        exact ⟨by decide, List.any_eq_false.mpr fun z hz => by rw [(h2 z hz).2]; simp⟩
      refine wpAny_bind (wpAny_seqItems ho hd ?_)
      dsimp only
      rw [if_neg (by rw [hany]; decide), hb1]
      refine wpAny_bind (wpAny_holding (wpAny_of_eq take_eq ?_))
      dsimp only
      refine wpAny_bind (wpAny_seqItems ho hd ?_)
      dsimp only
      rw [if_neg (by simp)]
      refine wpAny_pure ⟨rfl, i + 1, ?_, by omega, ?_, ?_⟩
      · congr 1; omega
      · simp only [Array.toList_push, h1]
        rw [List.take_add_one, hb2]; rfl
      · intro z hz
        rcases List.mem_append.mp hz with hz | hz
        · exact h2 z hz
        · simp at hz; subst hz; exact ⟨rfl, rfl⟩
    · rintro st s' ⟨rfl, k, hk, hle, h1, h2⟩
      have hk0 : k = (x :: y :: r).length := by
        have := congrArg List.length hk
        simp at this hle ⊢
        omega
      have hall : st.1.toList = bs := by
        rw [h1, hk0, List.take_of_length_le]
        have : (x :: y :: r).length = bs.length := hlen
        omega
      refine wpAny_bind (m := Bytes.payload _) (wpAny_pure ?_)
      have hsize : st.1.size = bs.length := by rw [← hall]; simp
      have hfold : Array.foldl (fun x1 x2 => x1 + x2.size) (sep.size * (st.1.size - 1)) st.1 = sep.size * (bs.length - 1) + (bs.map (·.size)).sum := by
        rw [← Array.foldl_toList, hall, fold_sizes, hsize]
      have hle2 : sep.size * (bs.length - 1) ≤ sep.size * bs.length := Nat.mul_le_mul_left _ (by omega)
      rw [if_neg (by rw [hfold, Bytes.tooLong, sizeLine_eq]; simp; omega), hall]
      have hj := joined_size sep bs
      refine wpAny_bind (wpAny_mkBytes ?_ (by rw [sizeLine_eq]; omega))
      refine wpAny_bind (wpAny_holding (wpAny_point (wpAny_bind (letGo_many _ _ (fun z hz => (h2 z hz).1) ?_))))
      exact wpAny_pure ⟨_, rfl, h _ _⟩
    · exact ⟨rfl, 0, by simp [Std.Legacy.Range.size], by omega, by simp, fun z hz => by cases hz⟩
end
end Sm
end
section
set_option maxRecDepth 100000
set_option linter.unusedVariables false
namespace Sm
open PySem PySem.Calls PySem.W PySem.W.KFB Builtin
def bigN (l : List UInt8) : Nat := l.foldl (fun (acc : Nat) (b : UInt8) => acc * 256 + b.toNat) 0
section
variable {M : Model} {A : Around} {E : Value → Shared → Prop} {s : Shared}
theorem grown_any {n k : Nat} {Q : Value → Shared → Prop} (hk : k ≤ 100000000) (hn : n < 2 ^ k) (h : Q (.int (n : Int) s.toks) { s with toks := s.toks + 1 }) : wpAny M A (mkIntGrown (n : Int)) Q E s := by
  unfold mkIntGrown
  have hl : ¬ ((n : Int).natAbs.log2 ≥ bitsLine) := by
    rw [Int.natAbs_natCast]
    have hb : bitsLine = 134217728 := by first | rfl | decide
    by_cases hz : n = 0
    · subst hz
      rw [hb]
      decide
    · have h1 := (Nat.log2_lt hz).mpr hn
      omega
  rw [if_neg hl]
  exact wpAny_mkInt h
theorem from_big {b : Array UInt8} {t u : Tok} {P : Fin → Shared → Prop} (hl : b.size ≤ 10000) (h : P (.done (.ret (.int (bigN b.toList) s.toks))) { s with toks := s.toks + 1 }) :
    wpAny M A (Builtin.«int.from_bytes» ⟨[.type "int", .bytes b t, .str (PySem.Str.ofString "big") u], []⟩) P E s := by
  have hn : bigN b.toList < 2 ^ (8 * b.size) := by
    have h1 := fold_lt b.toList 0
    rw [Nat.zero_add, Nat.one_mul, Array.length_toList] at h1
    rw [Nat.pow_mul]
    exact h1
  unfold Builtin.«int.from_bytes»
  refine wpAny_bind (wpAny_of_eq (a := true) type_int ?_)
  refine if_not rfl ?_
  refine wpAny_bind (wpAny_of_eq (a := true) F.conv_sub_int ?_)
  refine if_not rfl ?_
  refine wpAny_bind (wpAny_of_eq (a := [some (.bytes b t), some (.str (PySem.Str.ofString "big") u), none]) (by kernel_rfl) ?_)
  refine wpAny_bind (wpAny_of_eq (a := PySem.Str.ofString "big") (by kernel_rfl) ?_)
  refine wpAny_bind (wpAny_of_eq (a := false) rfl ?_)
  refine wpAny_bind (wpAny_of_eq (a := false) (by kernel_rfl) ?_)
  refine wpAny_bind (wpAny_of_eq (a := b) rfl ?_)
  show wpAny _ _ (mkIntGrown (b.toList.foldl (fun (acc : Int) (b : UInt8) => acc * 256 + (b.toNat : Int)) ((0 : Nat) : Int)) >>= fun v => _) _ _ _
  rw [foldI_eq]
  refine wpAny_bind (grown_any (k := 8 * b.size) (by omega) hn ?_)
  refine if_so (by decide +kernel) ?_
  exact wpAny_bind (wpAny_pure (wpAny_pure h))
end
section
variable {prog : Program} {w : World} {A : Around} {E : Value → Shared → Prop} {s : Shared}
theorem call_from_big {x : Addr} {b : Array UInt8} {t u : Tok} {Q : Value → Shared → Prop} (ho : s.heap.get? x = some KFB.bound) (hl : b.size ≤ 10000) (h : Q (.int (bigN b.toList) s.toks) { s with toks := s.toks + 1 }) :
    wpAny (model prog w) A (call (.ref x) [.bytes b t, .str (PySem.Str.ofString "big") u]) Q E s :=
  call_of ho (fun z => from_big hl z) h
end
end Sm
end
section
set_option maxRecDepth 100000
set_option linter.unusedVariables false
namespace Sm
open PySem PySem.Calls PySem.W PySem.W.KFB Builtin
def octs (k : Nat) (x : Int) : List UInt8 := (KTBy.low x k).reverse
section
variable {prog : Program} {w : World} {A : Around} {E : Value → Shared → Prop} {s : Shared} {x : Int} {k : Nat} {t u v : Tok}
theorem to_big_any {Q : Value → Shared → Prop} (hk : k ≤ 100000) (h0 : 0 ≤ x) (h1 : x < 256 ^ k) (h : ∀ t' k', Q (.bytes (octs k x).toArray t') { s with toks := k' }) :
    wpAny (model prog w) A (call (.builtin "int.to_bytes") [.int x t, .int (k : Int) u, .str (PySem.Str.ofString "big") v]) Q E s := by
  refine wpAny_call_entry KTBy.slot (typeIs_int s x t) KTBy.entry ?_ (KTBy.args _ _ _)
  have hb := KTBy.bits_le rfl h0 h1
  have small : (decide ((k : Int) < -(2 ^ 63 : Int)) || decide ((k : Int) ≥ 2 ^ 63)) = false := by
    rw [Bool.or_eq_false_iff]; exact ⟨decide_eq_false (by omega), decide_eq_false (by omega)⟩
  refine wpAny_bind (m := Builtin.Int.intOfSelf _) (wpAny_of_eq (a := x) rfl ?_)
  refine wpAny_bind (m := Builtin.Int.intBindNamed _ _ _ _ _ _) (wpAny_of_eq (a := [some (.int (k : Int) u), some (.str (PySem.Str.ofString "big") v), none]) (by kernel_rfl) ?_)
  refine wpAny_bind (m := Builtin.Int.intIndex _ _) (wpAny_of_eq (a := (k : Int)) rfl ?_)
  refine if_not small ?_
  refine wpAny_bind (wpAny_of_eq (a := PySem.Str.ofString "big") (by kernel_rfl) ?_)
  refine wpAny_bind (wpAny_of_eq (a := false) rfl ?_)
  refine wpAny_bind (wpAny_of_eq (a := false) (by kernel_rfl) ?_)
  refine wpAny_ite_false (decide_eq_false (by omega)) ?_
  refine wpAny_ite_false (decide_eq_false (by omega)) ?_
  refine wpAny_ite_false (decide_eq_false (by rw [sizeLine_eq]; omega)) ?_
  refine if_not (by show (decide (x < 0) && !false) = false; rw [decide_eq_false (by omega)]; rfl) ?_
  refine if_not (by show (_ && decide ((Builtin.Int.intBits x : Int) > 8 * (k : Int))) = false; rw [decide_eq_false (by omega), Bool.and_false]) ?_
  exact wpAny_bind (wpAny_mkBytes (wpAny_pure ⟨_, rfl, h _ _⟩) (by show (List.reverse (KTBy.low x (Int.toNat (k : Int)))).length ≤ sizeLine; rw [List.length_reverse, KTBy.low_length, Int.toNat_natCast, sizeLine_eq]; omega))
end
end Sm
end
section
set_option maxRecDepth 100000
set_option linter.unusedVariables false
namespace Sm
open PySem PySem.Calls PySem.W
theorem ORep.step {B κ κ' own own' h h' i a o} (x : ORep B κ own h i a o) (L : κ.le κ') (ko : ∀ b t, own b = some t → own' b = some t) (ha : own a = some (.obj i))
    (hk : ∀ b ob, (own b = some (.obj i) ∨ own b = some (.sub i)) → h.get? b = some ob → h'.get? b = some ob) : ORep B κ' own' h' i a o := by
  cases o with
  | inst C fs =>
    obtain ⟨ob, dx, m, h1, h2, h3, h4, h5, h6, h7, h8, h9, h10⟩ := x
    exact ⟨ob, dx, m, hk _ _ (.inl ha) h1, h2, h3, h4, h5, ko _ _ h6, let ⟨o, es, ep, e, r⟩ := h7; ⟨o, es, ep, hk _ _ (.inr h6) e, r⟩, h8.at fun o e => hk _ o (.inr h6) e, h9.mono L, h10⟩
  | list xs =>
    obtain ⟨vs, h1, h5⟩ := x
    exact ⟨vs, h1.at fun o => hk _ o (.inl ha), h5.mono L⟩
  | dict kvs =>
    obtain ⟨vs, h1, h2, h3⟩ := x
    exact ⟨vs, let ⟨o, es, ep, e, r⟩ := h1; ⟨o, es, ep, hk _ _ (.inl ha) e, r⟩, h2.mono L, h3⟩
  | exc cls args fs tb =>
    obtain ⟨ob, vs, m, h1, h2, h3, h4, h5, h6, h7, ⟨ta, ws, h8, h9, h10⟩, h11⟩ := x
    refine ⟨ob, vs, m, hk _ _ (.inl ha) h1, h2, h3, h4, h5.mono L, h6.imp id fun ⟨dx, a1, a2, a3, a4⟩ => ⟨dx, a1, a2, ko _ _ a3, let ⟨o, es, ep, e, r⟩ := a4; ⟨o, es, ep, hk _ _ (.inr a3) e, r⟩⟩, h7,
      ⟨ta, ws, h8, L.imm _ _ h9, h10.mono L⟩, h11.imp id fun ⟨T, oT, ts, fl, b1, b2, b3, b4, r⟩ => ⟨T, oT, ts, fl, b1, ko _ _ b2, b3, hk _ _ (.inr b2) b4, r⟩⟩
theorem IsImm.step {B : Base} {h h' : Heap} {a : Addr} {v : Imm} (x : IsImm B h a v) (hk : ∀ ob, h.get? a = some ob → h'.get? a = some ob) : IsImm B h' a v := by
  cases v with
  | tup vs => obtain ⟨o, n, h1, r⟩ := x; exact ⟨o, n, hk _ h1, r⟩
  | lst vs => obtain ⟨x1, o, h1, r⟩ := x; exact ⟨x1, o, hk _ h1, r⟩
  | rng i j k => obtain ⟨t, u, v, e⟩ := x; exact ⟨t, u, v, hk _ e⟩
theorem IsImm.live {B : Base} {h : Heap} {a : Addr} {v : Imm} (x : IsImm B h a v) : ∃ o, h.get? a = some o ∧ o.cls ≠ .type "frame" := by
  cases v with
  | tup vs => obtain ⟨o, n, h1, h2, r⟩ := x; exact ⟨o, h1, by rw [h2]; decide⟩
  | lst vs => obtain ⟨_, o, h1, h2, _⟩ := x; exact ⟨o, h1, by rw [h2]; decide⟩
  | rng i j k => obtain ⟨t, u, v, e⟩ := x; exact ⟨_, e, by show Value.type "range" ≠ _; decide⟩
section
variable {B : Base} {env : Env} {κ κ' : Kw} {own own' : Own} {st : St} {s s' : Shared}
theorem LocRep.step {loc : List (Nat × AV)} (x : LocRep B κ own env loc s.heap) (L : κ.le κ') (ko : ∀ b t, own b = some t → own' b = some t) (kn : ∀ b ob, own b = none → s.heap.get? b = some ob → own' b = none)
    (hk : ∀ b ob, own b = some .frm → s.heap.get? b = some ob → s'.heap.get? b = some ob) (hn : ∀ b ob, own b = none → s.heap.get? b = some ob → s'.heap.get? b = some ob) : LocRep B κ' own' env loc s'.heap := by
  obtain ⟨m, hm, hr⟩ := x.vars
  refine ⟨ko _ _ x.owned, x.fresh, let ⟨o, h1, h2⟩ := x.isFrame; ⟨o, hk _ _ x.owned h1, h2⟩, ⟨m, let ⟨o, es, ep, e, r⟩ := hm; ⟨o, es, ep, hk _ _ x.owned e, r⟩, fun i hi => (hr i hi).mono L⟩, fun i hi => ?_, x.apart, fun i hi => ?_⟩
  · obtain ⟨c, v, h1, h2, h3, ⟨o, h4, r⟩, h5⟩ := x.cells i hi
    rcases h3 with h3 | ⟨h3, h3'⟩
    · exact ⟨c, v, h1, h2, .inl (ko _ _ h3), ⟨o, hk _ _ h3 h4, r⟩, h5.mono L⟩
    · exact ⟨c, v, h1, h2, .inr ⟨h3, kn _ _ h3' h4⟩, ⟨o, hn _ _ h3' h4, r⟩, h5.mono L⟩
  · obtain ⟨c, v, h1, h2, ⟨o, h3, r⟩, h5⟩ := x.frees i hi
    exact ⟨c, v, h1, kn _ _ h2 h3, ⟨o, hn _ _ h2 h3, r⟩, h5.mono L⟩
theorem RepX.keeps (x : RepX B κ own env st s) (hk : ∀ b o, s.heap.get? b = some o → s'.heap.get? b = some o) (hg : s'.gens = s.gens) (ho : s'.os = s.os) : StepX B env κ own s κ own st s' where
  rep := ⟨⟨fun b o h => hk _ _ (x.rep.stays b o h), x.rep.apart, fun b t h => let ⟨o, e⟩ := x.rep.live b t h; ⟨o, hk _ _ e⟩, x.rep.dom, fun i o h => let ⟨a, h1, h2⟩ := x.rep.objs i o h; ⟨a, h1, h2.step (.refl _) (fun _ _ h => h) (x.rep.dom i a h1) fun b ob _ => hk b ob⟩,
    x.rep.bound, fun a vs h => ⟨(x.rep.imm a vs h).1, (x.rep.imm a vs h).2.step fun ob => hk a ob⟩, hg.trans x.rep.gens, ho.trans x.rep.os⟩, x.loc.step (.refl _) (fun _ _ h => h) (fun _ _ h _ => h) (fun b ob _ => hk b ob) fun b ob _ => hk b ob⟩
  grow := ⟨.refl _, ⟨fun b o _ _ => hk b o, fun b o _ _ h => ⟨o.slots, hk b o h⟩⟩, fun a t h => .inl (by rw [h]; simp), fun a vs h => .inl h, fun _ _ h => h⟩
def Kw.addImm (κ : Kw) (a : Addr) (v : Imm) : Kw := { κ with imm := fun b => if b = a then some v else κ.imm b }
theorem RepX.newImm {a : Addr} {v : Imm} (x : RepX B κ own env st s) (hk : ∀ b o, s.heap.get? b = some o → s'.heap.get? b = some o) (hg : s'.gens = s.gens) (ho : s'.os = s.os) (ha : s.heap.get? a = none) (hv : IsImm B s'.heap a v) :
    StepX B env κ own s (κ.addImm a v) own st s' ∧ (κ.addImm a v).imm a = some v := by
  have L : κ.le (κ.addImm a v) := ⟨fun _ _ h => h, fun b w h => by
    show (if b = a then some v else κ.imm b) = some w
    rw [if_neg]
    · exact h
    · rintro rfl
      obtain ⟨o, e, _⟩ := (x.rep.imm b w h).2.live
      rw [ha] at e; cases e⟩
  have no : own a = none := by
    cases q : own a with
    | none => rfl
    | some t => obtain ⟨o, e⟩ := x.rep.live a t q; rw [ha] at e; cases e
  refine ⟨⟨⟨⟨fun b o h => hk _ _ (x.rep.stays b o h), x.rep.apart, fun b t h => let ⟨o, e⟩ := x.rep.live b t h; ⟨o, hk _ _ e⟩, x.rep.dom, fun i o h => let ⟨a, h1, h2⟩ := x.rep.objs i o h; ⟨a, h1, h2.step L (fun _ _ h => h) (x.rep.dom i a h1) fun b ob _ => hk b ob⟩,
    x.rep.bound, fun b vs h => ?_, hg.trans x.rep.gens, ho.trans x.rep.os⟩, x.loc.step L (fun _ _ h => h) (fun _ _ h _ => h) (fun b ob _ => hk b ob) fun b ob _ => hk b ob⟩,
    ⟨L, ⟨fun b o _ _ => hk b o, fun b o _ _ h => ⟨o.slots, hk b o h⟩⟩, fun a t h => .inl (by rw [h]; simp), fun b vs h => ?_, fun _ _ h => h⟩⟩, if_pos rfl⟩
  · have h' : (if b = a then some v else κ.imm b) = some vs := h
    split at h'
    · rename_i e; subst e
      obtain rfl := Option.some.inj h'
      exact ⟨no, hv⟩
    · exact ⟨(x.rep.imm b vs h').1, (x.rep.imm b vs h').2.step fun ob => hk b ob⟩
  · have h' : (if b = a then some v else κ.imm b) = some vs := h
    split at h'
    · rename_i e; subst e; exact .inr ⟨no, ha⟩
    · exact .inl h'
def Kw.addObj (κ : Kw) (i : Nat) (a : Addr) : Kw := { κ with rho := fun j => if j = i then some a else κ.rho j }
theorem RepX.addLe (x : RepX B κ own env st s) (a : Addr) : κ.le (κ.addObj st.σ.length a) := ⟨fun j b h => by
    show (if j = _ then some a else κ.rho j) = some b
    rw [if_neg (Nat.ne_of_lt (x.rep.bound j b h))]; exact h, fun _ _ h => h⟩
theorem RepX.newObj {a : Addr} {o : AObj} (x : RepX B κ own env st s) (hk : ∀ b o, s.heap.get? b = some o → s'.heap.get? b = some o) (hg : s'.gens = s.gens) (ho : s'.os = s.os)
    (hi : own' a = some (.obj st.σ.length)) (ko : ∀ b t, own b = some t → own' b = some t) (kn : ∀ b t, own' b = some t → own b = some t ∨ (s.heap.get? b = none ∧ ∃ ob, s'.heap.get? b = some ob))
    (hO : ORep B (κ.addObj st.σ.length a) own' s'.heap st.σ.length a o) :
    StepX B env κ own s (κ.addObj st.σ.length a) own' { st with σ := st.σ ++ [o] } s' ∧ (κ.addObj st.σ.length a).rho st.σ.length = some a := by
  have L := x.addLe a
  refine ⟨⟨⟨⟨fun b o h => hk _ _ (x.rep.stays b o h), fun b t h => ?_, fun b t h => ?_, fun i b h => ?_, fun i o' h => ?_, fun i b h => ?_, fun b vs h => ?_, hg.trans x.rep.gens, ho.trans x.rep.os⟩,
    x.loc.step L ko (fun b ob h hb => ?_) (fun b ob _ => hk b ob) fun b ob _ => hk b ob⟩, ⟨L, ⟨fun b o _ _ => hk b o, fun b o _ _ h => ⟨o.slots, hk b o h⟩⟩, fun b t h => ?_, fun a vs h => .inl h, ko⟩⟩, if_pos rfl⟩
  · rcases kn b t h with z | ⟨z, _⟩
    · exact x.rep.apart b t z
    · cases q : B.h.get? b with
      | none => rfl
      | some o => rw [x.rep.stays b o q] at z; cases z
  · rcases kn b t h with z | ⟨_, z⟩
    · let ⟨o, e⟩ := x.rep.live b t z; exact ⟨o, hk _ _ e⟩
    · exact z
  · have h' : (if i = st.σ.length then some a else κ.rho i) = some b := h
    split at h'
    · rename_i e; subst e; obtain rfl := Option.some.inj h'; exact hi
    · exact ko _ _ (x.rep.dom i b h')
  · by_cases e : i < st.σ.length
    · rw [List.getElem?_append_left e] at h
      obtain ⟨b, h1, h2⟩ := x.rep.objs i o' h
      exact ⟨b, L.rho _ _ h1, h2.step L ko (x.rep.dom i b h1) fun b ob _ => hk b ob⟩
    · have : i = st.σ.length := by
        have := (List.getElem?_eq_some_iff.mp h).1
        simp only [List.length_append, List.length_cons, List.length_nil] at this
        omega
      subst this
      rw [List.getElem?_append_right (Nat.le_refl _), Nat.sub_self] at h
      obtain rfl := Option.some.inj h
      exact ⟨a, if_pos rfl, hO⟩
  · have h' : (if i = st.σ.length then some a else κ.rho i) = some b := h
    simp only [List.length_append, List.length_cons, List.length_nil]
    split at h'
    · omega
    · have := x.rep.bound i b h'; omega
  · refine ⟨?_, (x.rep.imm b vs h).2.step fun ob => hk b ob⟩
    cases q : own' b with
    | none => rfl
    | some t =>
      obtain ⟨o, e, _⟩ := (x.rep.imm b vs h).2.live
      rcases kn b t q with z | ⟨z, _⟩
      · rw [(x.rep.imm b vs h).1] at z; cases z
      · rw [z] at e; cases e
  · cases q : own' b with
    | none => rfl
    | some t => rcases kn b t q with z | ⟨z, _⟩
                · rw [h] at z; cases z
                · rw [hb] at z; cases z
  · rcases kn b t h with z | ⟨z, _⟩
    · exact .inl (by rw [z]; simp)
    · exact .inr z
theorem RepX.setObj {i : Nat} {a : Addr} {o : AObj} (x : RepX B κ own env st s) (hi : κ.rho i = some a) (hg : s'.gens = s.gens) (ho : s'.os = s.os)
    (hk : ∀ b ob, own b ≠ some (.obj i) → own b ≠ some (.sub i) → s.heap.get? b = some ob → s'.heap.get? b = some ob) (hl : ∀ b, own b = some (.obj i) ∨ own b = some (.sub i) → ∃ ob, s'.heap.get? b = some ob)
    (ko : ∀ b t, own b = some t → own' b = some t) (kn : ∀ b t, own' b = some t → own b = some t ∨ (s.heap.get? b = none ∧ ∃ ob, s'.heap.get? b = some ob))
    (hO : ORep B κ own' s'.heap i a o) : StepX B env κ own s κ own' { st with σ := st.σ.set i o } s' := by
  have keepO : ∀ b o, own b = none → s.heap.get? b = some o → s'.heap.get? b = some o := fun b o h => hk b o (by rw [h]; simp) (by rw [h]; simp)
  have none' : ∀ b ob, own b = none → s.heap.get? b = some ob → own' b = none := fun b ob h hb => by
    cases q : own' b with
    | none => rfl
    | some t => rcases kn b t q with z | ⟨z, _⟩
                · rw [h] at z; cases z
                · rw [hb] at z; cases z
  have unown : ∀ b o, B.h.get? b = some o → own b = none := fun b o h => by
    cases q : own b with
    | none => rfl
    | some t => rw [x.rep.apart b t q] at h; cases h
  refine ⟨⟨⟨fun b o h => keepO _ _ (unown b o h) (x.rep.stays b o h), fun b t h => ?_, fun b t h => ?_, fun i b h => ko _ _ (x.rep.dom i b h), fun j o' h => ?_, fun j b h => ?_, fun b vs h => ?_, hg.trans x.rep.gens, ho.trans x.rep.os⟩,
    x.loc.step (.refl _) ko none' (fun b ob h => hk b ob (by rw [h]; simp) (by rw [h]; simp)) fun b ob h => keepO b ob h⟩, ⟨.refl _, ⟨fun b o h _ => keepO b o h, fun b o h _ e => ⟨o.slots, keepO b o h e⟩⟩, fun b t h => ?_, fun a vs h => .inl h, ko⟩⟩
  · rcases kn b t h with z | ⟨z, _⟩
    · exact x.rep.apart b t z
    · cases q : B.h.get? b with
      | none => rfl
      | some o => rw [x.rep.stays b o q] at z; cases z
  · rcases kn b t h with z | ⟨_, z⟩
    · obtain ⟨o, e⟩ := x.rep.live b t z
      by_cases c1 : own b = some (.obj i)
      · exact hl b (.inl c1)
      · by_cases c2 : own b = some (.sub i)
        · exact hl b (.inr c2)
        · exact ⟨o, hk b o c1 c2 e⟩
    · exact z
  · by_cases e : j = i
    · subst e
      rw [List.getElem?_set] at h
      simp only [if_true] at h
      split at h
      · obtain rfl := Option.some.inj h
        exact ⟨a, hi, hO⟩
      · cases h
    · rw [List.getElem?_set_ne (Ne.symm e)] at h
      obtain ⟨b, h1, h2⟩ := x.rep.objs j o' h
      refine ⟨b, h1, h2.step (.refl _) ko (x.rep.dom j b h1) fun c ob hc => hk c ob ?_ ?_⟩
      · rcases hc with hc | hc <;> rw [hc] <;> simp [e]
      · rcases hc with hc | hc <;> rw [hc] <;> simp [e]
  · rw [List.length_set]; exact x.rep.bound j b h
  · have := x.rep.imm b vs h
    obtain ⟨o, e, _⟩ := this.2.live
    exact ⟨none' b o this.1 e, this.2.step fun ob => keepO b ob this.1⟩
  · rcases kn b t h with z | ⟨z, _⟩
    · exact .inl (by rw [z]; simp)
    · exact .inr z
end
end Sm
end
section
set_option maxRecDepth 100000
set_option linter.unusedVariables false
namespace Sm
open PySem PySem.Calls PySem.W
theorem not_handed {κ : Kw} {av : AV} {v : Value} (h : VRel κ av v) : handedOut v = pure v := by
  cases h <;> first | rfl | skip
  rename_i id
  cases id <;> (unfold handedOut; kernel_rfl)
def Bcal (b : Bi) (va : Value) (f : Value) (first : List Value) (h : Heap) : Prop :=
  (b ≠ .iFromBytes ∧ f = .builtin b.id ∧ first = [va]) ∨ (b = .iFromBytes ∧ ∃ x, f = .ref x ∧ first = [] ∧ h.get? x = some KFB.bound)
theorem Bcal.keeps {b va f first h h'} (x : Bcal b va f first h) (k : ∀ a, h.get? a = some KFB.bound → h'.get? a = some KFB.bound) : Bcal b va f first h' :=
  x.imp id fun ⟨e, a, h1, h2, h3⟩ => ⟨e, a, h1, h2, k a h3⟩
inductive ORelV (κ : Kw) : Option AV → Value → Prop
  | none : ORelV κ none .none
  | some {x v} (h : VRel κ x v) : ORelV κ (some x) v
structure UOk (B : Base) (G : Genv) (d : Nat) (hd : Bool) (U : Blts) : Prop where
  fn : ∀ {b vs st Q X env A κ own s vals}, U.fn b vs st Q X → RepX B κ own env st s → AOk B env A own s.heap d hd → VRels κ vs vals → Sat B env A (call (.builtin b.id) vals) VR Q X κ own s
  ty : ∀ {t vs st Q X env A κ own s vals}, U.ty t vs st Q X → RepX B κ own env st s → AOk B env A own s.heap d hd → VRels κ vs vals → Sat B env A (call (.type t.name) vals) VR Q X κ own s
  getm : ∀ {b ov va st name env A κ own s pl Q E}, methodOf G st.σ ov name = some (.blt b) → RepX B κ own env st s → VRel κ ov va →
    (∀ f first s', Bcal b va f first s'.heap → (∀ u, f = .ref u → s.heap.get? u = none) → (∀ c o, s.heap.get? c = some o → s'.heap.get? c = some o) → s'.gens = s.gens → s'.os = s.os → Q (f, first) s') → wpAny (model B.prog B.w) A (getMethod va (dec name) pl) Q E s
  meth : ∀ {b ov va f first vs st Q X env A κ own s vals}, U.meth b ov vs st Q X → RepX B κ own env st s → AOk B env A own s.heap d hd → VRel κ ov va → Bcal b va f first s.heap → VRels κ vs vals →
    Sat B env A (call f (first ++ vals)) VR Q X κ own s
  item : ∀ {a b va vb st Q X env A κ own s}, U.item a b st Q X → RepX B κ own env st s → AOk B env A own s.heap d hd → VRel κ a va → VRel κ b vb →
    (∀ {Q : Bool → Shared → Prop} {E}, Q false s → wpAny (model B.prog B.w) A (getitemInPython va) Q E s) ∧ Sat B env A (getItem va vb) VR Q X κ own s
  slice : ∀ {a lo hi va vl vh sl st Q X env A κ own s}, U.slice a lo hi st Q X → RepX B κ own env st s → AOk B env A own s.heap d hd → VRel κ a va → ORelV κ lo vl → ORelV κ hi vh →
    s.heap.get? sl = some { cls := .type "slice", data := .fields #[vl, vh, .none] } →
    (∀ {Q : Bool → Shared → Prop} {E}, Q false s → wpAny (model B.prog B.w) A (getitemInPython va) Q E s) ∧ Sat B env A (getItem va (.ref sl)) VR Q X κ own s
  un : ∀ {op a va st Q X env A κ own s}, U.un op a st Q X → RepX B κ own env st s → AOk B env A own s.heap d hd → VRel κ a va → Sat B env A (unaryOp op va) VR Q X κ own s
  cmp : ∀ {op a b va vb st Q X env A κ own s}, U.cmp op a b st Q X → RepX B κ own env st s → AOk B env A own s.heap d hd → VRel κ a va → VRel κ b vb →
    Sat B env A (compareOp op va vb) (fun _ b v => v = .bool b) Q X κ own s
def OOk (B : Base) (κ₀ : Kw) (d : Nat) (hd : Bool) (O : Addr → Sp) : Prop := ∀ f, CallJ B κ₀ d hd f (O f)
section
variable {B : Base} {κ₀ : Kw} {G : Genv} {sc : Scope} {env : Env} {A : Around} {κ : Kw} {own : Own} {st : St} {s : Shared} {X : Xp}
theorem ORep.unowned (x : Rep B κ own st.σ s) {b : Addr} {o : Obj} (h : B.h.get? b = some o) : own b = none := by
  cases q : own b with
  | none => rfl
  | some t => rw [x.apart b t q] at h; cases h
theorem inst_InstFk {C : Addr} {fs : List (Nat × AV)} {i : Nat} {a : Addr} (x : ORep B κ own s.heap i a (.inst C fs)) : ∃ m, s.heap.InstFk a C m ∧ MRel κ fs m := by
  obtain ⟨ob, dx, m, h1, h2, h3, h4, h5, h6, h7, h8, h9, h10⟩ := x
  exact ⟨m, ⟨ob, h1, h2, h3, .inr ⟨dx, h4, h5, h7, h8⟩⟩, h9⟩
theorem instOf {h : Heap} {x C : Addr} {m} (i : h.InstFk x C m) : h.Inst x C m := let ⟨o, a, b, c, d⟩ := i; ⟨o, a, b, c, d.imp id fun ⟨e, f, g, k, _⟩ => ⟨e, f, g, k⟩⟩
theorem sound_attr (hG : GOk B κ₀ G) {v : AV} {va : Value} {a : Nat} {ex : Bool} {Q : VQ} (p : Pre B κ₀ sc env κ own st s) (hv : VRel κ v va) (h : getA G v a st Q) :
    Sat B env A (getAttr va (dec a) ex) VR Q X κ own s := by
  cases hv with
  | ref hi =>
    rename_i i x
    cases e : st.σ[i]? with
    | none => simp only [getA, e] at h
    | some o =>
      obtain ⟨a', ha', hr⟩ := p.rep.rep.objs i o e
      rw [hi] at ha'
      obtain rfl := Option.some.inj ha'
      cases o with
      | inst C fs =>
        simp only [getA, e] at h
        cases hc : G.cls.lookup C with
        | none => simp only [hc] at h
        | some c =>
          simp only [hc] at h
          cases hat : instAttr c fs a with
          | none => simp only [hat] at h
          | some av =>
            simp only [hat] at h
            obtain ⟨hfree, hq⟩ := h
            obtain ⟨hB, hcp⟩ := hG.free a (by simpa using hfree)
            obtain ⟨m, I, hm⟩ := inst_InstFk hr
            cases hx : c.exc with
            | some _ => simp only [instAttr, hx] at hat; cases hat
            | none =>
              obtain ⟨nm, q, N, bs, sn, sub, col, dd, k0, k1, k2, k3, k5, mN, hC, hN, hat', g1, g2, g3⟩ := (hG.cls C c hc).plain hx
              have hC' := p.rep.rep.stays _ _ hC
              have hN' := p.ns hN
              have fin : ∀ (v : Value), VRel κ av v → ∃ b st' κ' own', Q b st' ∧ StepX B env κ own s κ' own' st' { s with toks := s.toks + 1 } ∧ VRel κ' b v := fun v hv => ⟨av, st, κ, own, hq, .toks p.rep _, hv⟩
              simp only [instAttr, hx] at hat
              cases ha : c.attrs.lookup a with
              | none => simp only [ha] at hat; cases hat
              | some o =>
                have hN2 := hat' a o ha
                simp only [ha] at hat
                obtain ⟨hh, g, dr, t, os⟩ := s
                cases o with
                | none =>
                  simp only at hat
                  obtain ⟨v, hmv, hr⟩ := hm.get hat
                  exact load_attr hC' hN' g1 hN2 hB (instOf I) hmv (not_handed hr) (fin v hr)
                | some o =>
                  obtain ⟨v, hNv, hr⟩ := hN2
                  cases o with
                  | int i' =>
                    simp only at hat
                    split at hat
                    · rename_i e2
                      obtain rfl := Option.some.inj hat
                      obtain ⟨t', rfl⟩ : ∃ t', v = .int i' t' := by cases hr; exact ⟨_, rfl⟩
                      exact load_const hC' hN' g1 hNv hB I (hm.none e2) noGet_int hcp rfl (fin _ (.int _ _))
                    · cases hat
                  | str i' =>
                    simp only at hat
                    split at hat
                    · rename_i e2
                      obtain rfl := Option.some.inj hat
                      obtain ⟨t', rfl⟩ : ∃ t', v = .str i' t' := by cases hr; exact ⟨_, rfl⟩
                      exact load_const hC' hN' g1 hNv hB I (hm.none e2) noGet_str hcp rfl (fin _ (.str _ _))
                    · cases hat
                  | _ => simp only at hat; cases hat
      | list | dict | exc => simp only [getA, e] at h
  | _ => exact h.elim
theorem sound_method (hG : GOk B κ₀ G) {v : AV} {va : Value} {a : Nat} {f : Addr} {pl : Sem Bool} {Q : Value × List Value → Shared → Prop} {E : Value → Shared → Prop} (p : Pre B κ₀ sc env κ own st s) (hv : VRel κ v va)
    (h : methodOf G st.σ v a = some (.user f)) (hq : f ∈ G.fns → Q (.ref f, [va]) s) : wpAny (model B.prog B.w) A (getMethod va (dec a) pl) Q E s := by
  cases hv with
  | ref hi =>
    rename_i i x
    cases e : st.σ[i]? with
    | none => simp only [methodOf, e] at h; cases h
    | some o =>
      obtain ⟨a', ha', hr⟩ := p.rep.rep.objs i o e
      rw [hi] at ha'
      obtain rfl := Option.some.inj ha'
      cases o with
      | inst C fs =>
        simp only [methodOf, e] at h
        cases hc : G.cls.lookup C with
        | none => simp only [hc] at h; cases h
        | some c =>
          simp only [hc] at h
          split at h
          · rename_i f' hx hfree hfs hat
            split at h
            · rename_i hf
              obtain rfl : f' = f := by simpa using h
              have hf : f' ∈ G.fns := by simpa using hf
              obtain ⟨hB, hcp⟩ := hG.free a (by simpa using hfree)
              obtain ⟨m, I, hm⟩ := inst_InstFk hr
              obtain ⟨nm, q, N, bs, sn, sub, col, dd, k0, k1, k2, k3, k5, mN, hC, hN, hat', g1, g2, g3⟩ := (hG.cls C c hc).plain hx
              obtain ⟨v, hNv, hr⟩ := hat' a _ hat
              obtain rfl : v = .ref f' := by cases hr; rfl
              obtain ⟨of, fd, hfo, hfc, hfd⟩ := hG.fns f' hf
              have hC' := p.rep.rep.stays _ _ hC
              have hN' := p.ns hN
              have hfo' := p.rep.rep.stays _ _ hfo
              have hq' := hq hf
              obtain ⟨hh, g, dr, t, os⟩ := s
              exact method_of hC' hN' g1 g2 hNv hfo' hfc hB (instOf I) (hm.none hfs) hq'
            · cases h
          · cases h
      | list => simp only [methodOf, e] at h; cases hl : listMeths.lookup a <;> rw [hl] at h <;> simp at h
      | dict => simp only [methodOf, e] at h; cases hl : dictMeths.lookup a <;> rw [hl] at h <;> simp at h
      | exc => simp only [methodOf, e] at h; cases h
  | str x t => simp only [methodOf] at h; cases hl : strMeths.lookup a <;> rw [hl] at h <;> simp at h
  | bytes x t => simp only [methodOf] at h; cases hl : bytesMeths.lookup a <;> rw [hl] at h <;> simp at h
  | int i t => simp only [methodOf] at h; split at h <;> simp at h
  | type n => cases n <;> simp only [methodOf] at h <;> first | (split at h <;> simp at h) | cases h
  | _ => cases h
end
end Sm
end
section
set_option maxRecDepth 100000
set_option linter.unusedVariables false
namespace Sm
open PySem PySem.Calls PySem.W Builtin
def cut {α : Type} (l : List α) (lo hi : Option Int) : List α := (l.drop (lo.elim 0 (clipAt l.length))).take (hi.elim l.length (clipAt l.length) - lo.elim 0 (clipAt l.length))
def partOf : Option AV → Option (Option Int)
  | none => some none
  | some (.int i) => some (some i)
  | _ => none
section
variable {B : Base} {κ : Kw} {own : Own} {env : Env} {A : Around} {st : St} {s : Shared} {X : Xp}
theorem isPart {x : Option AV} {v : Value} {o : Option Int} (h : ORelV κ x v) (e : partOf x = some o) : IsPart v o := by
  cases h with
  | none => obtain rfl := Option.some.inj e; exact .none
  | some h => cases h <;> first | (obtain rfl := Option.some.inj e; exact .int _ _) | cases e
theorem bytes_slice {b : Array UInt8} {t : Tok} {lo hi : Option AV} {l u : Option Int} {vl vh : Value} {sl : Addr} {Q : VQ} (p : RepX B κ own env st s) (hb : b.size ≤ 16777216) (hl : ORelV κ lo vl) (hh : ORelV κ hi vh) (el : partOf lo = some l) (eh : partOf hi = some u)
    (hs : s.heap.get? sl = some { cls := .type "slice", data := .fields #[vl, vh, .none] }) (hq : Q (.bytes (cut b.toList l u).toArray) st) :
    Sat B env A (getItem (.bytes b t) (.ref sl)) VR Q X κ own s := by
  refine getItem_meets (typeIs_bytes _ _ _) (by decide) FB.slot_bytes_getitem FB.entry_bytes_getitem (FB.args_bytes_getitem_2 _ _) (KBc.meets_slice2 b t sl (isPart hl el) (isPart hh eh)) ⟨⟨_, hs, rfl, rfl⟩, Nat.le_trans (KBc.size_picked_le b l u) (by rw [sizeLine_eq]; exact hb), fun t' k => ?_⟩
  rw [KBc.picked_eq]
  have e : b.toList.length = b.size := Array.length_toList
  unfold cut at hq
  rw [e] at hq
  exact ⟨_, _, _, _, hq, .toks p _, .bytes _ _⟩
end
end Sm
end
section
set_option maxRecDepth 100000
set_option linter.unusedVariables false
namespace Sm
open PySem PySem.Calls PySem.W Builtin
section
variable {B : Base} {κ : Kw} {own : Own} {env : Env} {A : Around} {st : St} {s : Shared} {X : Xp}
theorem str_slice {b : Str} {t : Tok} {lo hi : Option AV} {l u : Option Int} {vl vh : Value} {sl : Addr} {Q : VQ} (p : RepX B κ own env st s) (hb : b.length ≤ 16777216) (hl : ORelV κ lo vl) (hh : ORelV κ hi vh) (el : partOf lo = some l) (eh : partOf hi = some u)
    (hs : s.heap.get? sl = some { cls := .type "slice", data := .fields #[vl, vh, .none] }) (hq : Q (.str (Txt.slice b l u)) st) :
    Sat B env A (getItem (.str b t) (.ref sl)) VR Q X κ own s := by
  have fin : ∀ {t' : Tok} {k : Nat}, ∃ b' st' κ' own', Q b' st' ∧ StepX B env κ own s κ' own' st' { s with toks := k } ∧ VR κ' b' (.str (Txt.slice b l u) t') := ⟨_, _, _, _, hq, .toks p _, .str _ _⟩
  have hz : (Txt.slice b l u).length ≤ sizeLine := Nat.le_trans (Txt.slice_le b l u) (by rw [sizeLine_eq]; exact hb)
  have h1 := isPart hl el
  have h2 := isPart hh eh
  cases h1 <;> cases h2
  · exact wpAny_getItem_str_slice (l := none) (u := none) (st := none) ⟨_, hs, rfl, rfl⟩ rfl (post_val_or_str ⟨hz, fun t' k => fin⟩)
  · exact wpAny_getItem_str_slice (l := none) (u := some (_, _)) (st := none) ⟨_, hs, rfl, rfl⟩ rfl (post_val_or_str ⟨hz, fun t' k => fin⟩)
  · exact wpAny_getItem_str_slice (l := some (_, _)) (u := none) (st := none) ⟨_, hs, rfl, rfl⟩ rfl (post_val_or_str ⟨hz, fun t' k => fin⟩)
  · exact wpAny_getItem_str_slice (l := some (_, _)) (u := some (_, _)) (st := none) ⟨_, hs, rfl, rfl⟩ rfl (post_val_or_str ⟨hz, fun t' k => fin⟩)
end
end Sm
end
section
set_option maxRecDepth 100000
set_option linter.unusedVariables false
namespace Sm
open PySem PySem.Calls PySem.W
def SatX (B : Base) (env : Env) (X : Xp) (κ : Kw) (own : Own) (s : Shared) : Value → Shared → Prop := fun e s' => ∃ i st' κ' own' a, X i st' ∧ StepX B env κ own s κ' own' st' s' ∧ e = .ref a ∧ κ'.rho i = some a ∧ Flying env s'.heap a ∧ IsExc st'.σ i
def SatQ (B : Base) (env : Env) {α β : Type} (rel : Kw → β → α → Prop) (Q : β → St → Prop) (κ : Kw) (own : Own) (s : Shared) : α → Shared → Prop := fun a s' => ∃ b st' κ' own', Q b st' ∧ StepX B env κ own s κ' own' st' s' ∧ rel κ' b a
theorem Sat.iff {B env A} {α β : Type} {t : Sem α} {rel : Kw → β → α → Prop} {Q : β → St → Prop} {X κ own s} : Sat B env A t rel Q X κ own s ↔ wpAny (model B.prog B.w) A t (SatQ B env rel Q κ own s) (SatX B env X κ own s) s := Iff.rfl
section
variable {B : Base} {env : Env} {A : Around} {α β γ : Type} {κ κ₁ : Kw} {own own₁ : Own} {st st₁ : St} {s s₁ : Shared} {X : Xp}
theorem Sat.go {t : Sem α} {rel : Kw → β → α → Prop} {Q : β → St → Prop} {F : α → Shared → Prop} (x : StepX B env κ own s κ₁ own₁ st₁ s₁) (h : Sat B env A t rel Q X κ₁ own₁ s₁)
    (hk : ∀ κ₂ own₂ s₂ b a st₂, Q b st₂ → StepX B env κ₁ own₁ s₁ κ₂ own₂ st₂ s₂ → rel κ₂ b a → F a s₂) : wpAny (model B.prog B.w) A t F (SatX B env X κ own s) s₁ :=
  wpAny_mono h (fun a s₂ ⟨b, st₂, κ₂, own₂, q, y, r⟩ => hk κ₂ own₂ s₂ b a st₂ q y r) fun e s₂ ⟨i, st', κ₂, own₂, a', q', y, r'⟩ => ⟨i, st', κ₂, own₂, a', q', x.trans y, r'⟩
theorem Sat.fin {t : Sem α} {rel : Kw → β → α → Prop} {Q : β → St → Prop} (x : StepX B env κ own s κ₁ own₁ st₁ s₁) (h : Sat B env A t rel Q X κ₁ own₁ s₁) :
    wpAny (model B.prog B.w) A t (SatQ B env rel Q κ own s) (SatX B env X κ own s) s₁ := Sat.after x h
theorem Sat.boolV {t : Sem Value} {Q : VQ} (h : Sat B env A t (fun _ b v => v = .bool b) (fun r st => Q (.bool r) st) X κ own s) : Sat B env A t VR Q X κ own s :=
  wpAny_mono h (fun a s' ⟨b, st, κ', own', q, x, e⟩ => ⟨.bool b, st, κ', own', q, x, e ▸ .bool b⟩) fun _ _ q => q
theorem SatQ.here {rel : Kw → β → α → Prop} {Q : β → St → Prop} {b : β} {a : α} (x : StepX B env κ own s κ₁ own₁ st₁ s₁) (q : Q b st₁) (r : rel κ₁ b a) : SatQ B env rel Q κ own s a s₁ := ⟨b, st₁, κ₁, own₁, q, x, r⟩
end
section
variable (B : Base) (κ₀ : Kw) (G : Genv) (U : Blts) (O : Addr → Sp) (d : Nat) (hd : Bool) (sc : Scope)
def EvOk (e : Expr) (e' : E) : Prop := ∀ env A κ own st s Q X, AOk B env A own s.heap (d + 1) hd → Pre B κ₀ sc env κ own st s → ev G U O hd e' st Q X → Sat B env A (eval e env) VR Q X κ own s
def TsOk (e : Expr) (c : C) : Prop := ∀ env A κ own st s Q X, AOk B env A own s.heap (d + 1) hd → Pre B κ₀ sc env κ own st s → tst G U O hd c st Q X → Sat B env A (isTrue e env (eval e env)) (fun _ a b => a = b) Q X κ own s
def EsOk (es : List Expr) (es' : Es) : Prop := (∀ e ∈ es, isStarred e = false) ∧ es'.len = es.length ∧ ∀ env A κ own st s Q X, AOk B env A own s.heap (d + 1) hd → Pre B κ₀ sc env κ own st s → evs G U O hd es' st Q X →
  Sat B env A (spliced ((evalEach es env).map fun t => (false, t))) (fun κ a b => VRels κ a b) Q X κ own s
def BsOk (es : List Expr) (es' : Es) : Prop := ∀ env A κ own st s Q X op pos, AOk B env A own s.heap (d + 1) hd → Pre B κ₀ sc env κ own st s → evb G U O hd op es' st Q X →
  Sat B env A (boolOp pos op (evalEach es env)) VR Q X κ own s
def OsOk (e : Option Expr) (es' : Es) : Prop := ∀ env A κ own st s Q X, AOk B env A own s.heap (d + 1) hd → Pre B κ₀ sc env κ own st s → evo G U O hd es' st Q X →
  Sat B env A (valueOrNone (evalOpt e env)) ORelV Q X κ own s
def KsOk (ks : List Keyword) (ks' : Ks) : Prop := (∀ k ∈ ks, k.arg.isSome) ∧ ks'.len = ks.length ∧ ∀ env A κ own st s Q X pos, AOk B env A own s.heap (d + 1) hd → Pre B κ₀ sc env κ own st s → evk G U O hd ks' st Q X →
  Sat B env A (evalAll ((backToKw pos (keywordEach ks env)).map (·.2))) (fun κ a vs => KRel κ a ((ks.filterMap (·.arg)).zip vs)) Q X κ own s
def CsOk (es : List Expr) (cs : Cs) : Prop := ∀ env A κ own st s Q X op, AOk B env A own s.heap (d + 1) hd → Pre B κ₀ sc env κ own st s → tsts G U O hd op cs st Q X →
  Sat B env A (allTrue op es env) (fun _ a b => a = b) Q X κ own s
end
section
variable {B : Base} {κ₀ : Kw} {G : Genv} {U : Blts} {O : Addr → Sp} {d : Nat} {hd : Bool} {sc : Scope}
theorem AOk.le {B env A own h d d' hd} (x : AOk B env A own h d hd) (hd' : d' ≤ d) : AOk B env A own h d' hd :=
  ⟨x.frames, x.kind, by have := x.depth; omega, by have := x.units; omega, x.handled⟩
theorem starEach_plain {env : Env} : ∀ {es : List Expr}, (∀ e ∈ es, isStarred e = false) → starEach es env = (evalEach es env).map fun t => (false, t)
  | [], _ => rfl
  | e :: r, h => by
    have h1 := h e (.head _)
    have ih := starEach_plain (env := env) (es := r) fun x hx => h x (.tail _ hx)
    cases e <;> first | (simp only [starEach, evalEach, ih, List.map_cons]; done) | cases h1
theorem attributeBase_plain {o : Expr} {a : Str} {env : Env} {t : Sem Value} (h : isCallName o = false) : attributeBase o a env t = t := by
  unfold attributeBase
  split
  · cases h
  · rfl
theorem wp_truthy_bool {b : Bool} {A : Around} {s : Shared} {P : Program} {w : World} {Q : Bool → Shared → Prop} {E : Value → Shared → Prop} (h : Q b s) : wpAny (model P w) A (truthy (.bool b)) Q E s := wpAny_truthy_bool h
theorem backTo_plain {pos : Pos} (ts : List (Sem Value)) : backTo pos (ts.map fun t => (false, t)) = ts.map fun t => (false, t) := by
  unfold backTo
  rw [List.map_map]
  rfl
theorem ok_bin {l r : Expr} {l' r' : E} {op : Operator} {pos : Pos} (hl : EvOk B κ₀ G U O d hd sc l l') (hr : EvOk B κ₀ G U O d hd sc r r') : EvOk B κ₀ G U O d hd sc (.BinOp l op r pos) (.bin op l' r') := by
  intro env A κ own st s Q X ha p h
  rw [eval_BinOp]
  refine wpAny_bind (Sat.go (.refl p.rep) (hl env A κ own st s _ X ha p h) fun κ₁ own₁ s₁ a va st₁ q x ra => ?_)
  refine wpAny_bind (wpAny_holding (Sat.go x (hr env A κ₁ own₁ st₁ s₁ _ X (ha.step x.grow) (p.step x) q) fun κ₂ own₂ s₂ b vb st₂ q y rb => ?_))
  exact wpAny_bind (wpAny_standAt (Sat.fin (x.trans y) (Val.sat (sound_bin (ra.mono y.grow.le) rb q) y.rep)))
theorem ok_un (hU : UOk B G d hd U) {x : Expr} {x' : E} {op : UnaryOp} {pos : Pos} (hx : EvOk B κ₀ G U O d hd sc x x') : EvOk B κ₀ G U O d hd sc (.UnaryOp op x pos) (.un op x') := by
  intro env A κ own st s Q X ha p h
  rw [PyProof.Rows.eval_UnaryOp]
  refine wpAny_bind (Sat.go (.refl p.rep) (hx env A κ own st s _ X ha p h) fun κ₁ own₁ s₁ a va st₁ q x ra => ?_)
  exact wpAny_bind (wpAny_standAt (wpAny_holding (Sat.fin x (hU.un q x.rep ((ha.step x.grow).le (Nat.le_succ _)) ra))))
theorem ok_attr (hG : GOk B κ₀ G) {o : Expr} {o' : E} {a : Str} {i : Nat} {pos : Pos} (hn : isCallName o = false) (hi : dec i = a) (ho : EvOk B κ₀ G U O d hd sc o o') : EvOk B κ₀ G U O d hd sc (.Attribute o a pos) (.attr o' i) := by
  intro env A κ own st s Q X ha p h
  subst hi
  show wpAny _ _ (do
    let o' ← attributeBase o (dec i) env (eval o env)
    standAt pos.atName
    let r ← holding [o'] (getAttr o' (dec i) true)
    letTemporaryGo o o' r
    pure r) _ _ _
  rw [attributeBase_plain hn]
  refine wpAny_bind (Sat.go (.refl p.rep) (ho env A κ own st s _ X ha p h) fun κ₁ own₁ s₁ a va st₁ q x ra => ?_)
  refine wpAny_bind (wpAny_standAt (wpAny_bind (wpAny_holding (Sat.go x (sound_attr hG (p.step x) ra q) fun κ₂ own₂ s₂ b vb st₂ q y rb => ?_))))
  exact wpAny_bind (wpAny_letTemporaryGo (wpAny_pure (SatQ.here (x.trans y) q rb)))
theorem cmp_ok (hG : GOk B κ₀ G) (hU : UOk B G d hd U) {op : CmpOp} {a b : AV} {va vb : Value} {env : Env} {A : Around} {κ : Kw} {own : Own} {st : St} {s : Shared} {Q : Bool → St → Prop} {X : Xp}
    (ha : AOk B env A own s.heap d hd) (p : RepX B κ own env st s) (ra : VRel κ a va) (rb : VRel κ b vb) (h : cmpQ G U op a b st Q X) : Sat B env A (compareOp op va vb) (fun _ b v => v = .bool b) Q X κ own s := by
  by_cases hIs : op = .Is ∨ op = .IsNot
  · have key : ∃ r, isA G a b = some r ∧ Q (if op = .Is then r else !r) st := by
      rcases hIs with rfl | rfl <;> simp only [cmpQ] at h <;> (cases e : isA G a b with
        | none => rw [e] at h; exact h.elim
        | some r => rw [e] at h; exact ⟨r, rfl, h⟩)
    obtain ⟨r, e, hq⟩ := key
    have same : ∀ {Q : Bool → Shared → Prop} {E : Value → Shared → Prop}, Q r s → wpAny (model B.prog B.w) A (isSame va vb) Q E s := by
      have pl : ∀ {v u : Value}, isSame v u = pure (v == u) → (v == u) = r → ∀ {Q : Bool → Shared → Prop} {E : Value → Shared → Prop}, Q r s → wpAny (model B.prog B.w) A (isSame v u) Q E s := fun e1 e2 Q E q => by rw [e1, e2]; exact wpAny_pure q
      have nn : ∀ v, isSame v .none = pure (v == .none) := isSame_none
      have live : ∀ {i : Nat} {x : Addr}, κ.rho i = some x → ∃ o, s.heap.get? x = some o ∧ own x = some (.obj i) := fun hi => let ⟨o, e⟩ := p.rep.live _ _ (p.rep.dom _ _ hi); ⟨o, e, p.rep.dom _ _ hi⟩
      have liveG : ∀ {y : Addr}, G.objs.contains y = true → ∃ o, s.heap.get? y = some o ∧ own y = none ∧ o.cls ≠ .type "tuple" := fun hy => by
        obtain ⟨o, h1, h2⟩ := hG.objs _ (by simpa using hy)
        exact ⟨o, p.rep.stays _ _ h1, ORep.unowned p.rep h1, h2⟩
      cases rb with
      | none =>
        cases ra <;> simp only [isA] at e <;> first
          | (cases e; done)
          | (obtain rfl := Option.some.inj e; intro Q E q; rw [nn]; exact wpAny_pure q)
      | glob y =>
        cases ra with
        | glob x =>
          simp only [isA] at e
          split at e
          · rename_i hc
            obtain ⟨h1, h2⟩ := Bool.and_eq_true_iff.mp hc
            obtain ⟨ox, e1, _, e2⟩ := liveG h1
            obtain ⟨oy, e3, _, e4⟩ := liveG h2
            obtain rfl := Option.some.inj e
            intro Q E q
            by_cases hxy : x = y
            · subst hxy
              rw [Nat.beq_refl] at q
              exact wpAny_isSame_ref_self q
            · rw [show Nat.beq x y = false by cases h : Nat.beq x y with | false => rfl | true => exact absurd (Nat.eq_of_beq_eq_true h) hxy] at q
              exact SeqAt.wpAny_isSame_ref_other' hxy e1 e3 e4 q
          · cases e
        | ref hi =>
          simp only [isA] at e
          split at e
          · rename_i hc
            obtain ⟨oy, e3, e5, e4⟩ := liveG hc
            obtain ⟨ox, e1, e2⟩ := live hi
            obtain rfl := Option.some.inj e
            intro Q E q
            exact SeqAt.wpAny_isSame_ref_other' (fun h => by rw [h, e5] at e2; cases e2) e1 e3 e4 q
          · cases e
        | tup hi hx =>
          simp only [isA] at e
          split at e
          · rename_i hc
            obtain ⟨oy, e3, e5, e4⟩ := liveG hc
            obtain ⟨o, n, e1, e2, _⟩ := (p.rep.imm _ _ hi).2
            obtain rfl := Option.some.inj e
            intro Q E q
            exact SeqAt.wpAny_isSame_ref_other' (fun h => by rw [h, e3] at e1; obtain rfl := Option.some.inj e1; exact e4 e2) e1 e3 e4 q
          · cases e
        | none | bool | int | str | bytes => simp only [isA] at e; obtain rfl := Option.some.inj e; intro Q E q; refine pl ?_ ?_ q <;> first | rfl | exact beq_eq_false_iff_ne.mpr (by intro h; cases h)
        | _ => intro Q E q; exact absurd e (by simp [isA])
      | _ => intro Q E q; exact absurd e (by clear ra h; cases a <;> simp [isA])
    rcases hIs with rfl | rfl
    · exact wpAny_bind (same (wpAny_pure ⟨_, _, _, _, hq, .refl p, rfl⟩))
    · exact wpAny_bind (same (wpAny_pure ⟨_, _, _, _, hq, .refl p, rfl⟩))
  · have : U.cmp op a b st Q X := by
      cases op <;> first | exact h | exact absurd (.inl rfl) hIs | exact absurd (.inr rfl) hIs
    exact hU.cmp this p ha ra rb
theorem ok_cmp (hG : GOk B κ₀ G) (hU : UOk B G d hd U) {l r : Expr} {l' r' : E} {op : CmpOp} {pos : Pos} (hm : behindInMarks op r = false) (hl : EvOk B κ₀ G U O d hd sc l l') (hr : EvOk B κ₀ G U O d hd sc r r') :
    EvOk B κ₀ G U O d hd sc (.Compare l [op] [r] pos) (.cmp op l' r') := by
  intro env A κ own st s Q X ha p h
  rw [eval_Compare1, markedBehindIn_of_false hm]
  refine wpAny_bind (Sat.go (.refl p.rep) (hl env A κ own st s _ X ha p h) fun κ₁ own₁ s₁ a va st₁ q x ra => ?_)
  refine wpAny_bind (wpAny_holding (Sat.go x (hr env A κ₁ own₁ st₁ s₁ _ X (ha.step x.grow) (p.step x) q) fun κ₂ own₂ s₂ b vb st₂ q y rb => ?_))
  have z := x.trans y
  exact wpAny_bind (wpAny_standAt (wpAny_operateT (Sat.fin z (Sat.boolV (cmp_ok hG hU ((ha.step z.grow).le (Nat.le_succ _)) y.rep (ra.mono y.grow.le) rb q)))))
theorem ok_cmpT (hG : GOk B κ₀ G) (hU : UOk B G d hd U) {l r : Expr} {l' r' : E} {op : CmpOp} {pos : Pos} (hm : behindInMarks op r = false) (hl : EvOk B κ₀ G U O d hd sc l l') (hr : EvOk B κ₀ G U O d hd sc r r') :
    TsOk B κ₀ G U O d hd sc (.Compare l [op] [r] pos) (.cmp op l' r') := by
  intro env A κ own st s Q X ha p h
  rw [isTrue_Compare1, markedBehindIn_of_false hm]
  refine wpAny_bind (Sat.go (.refl p.rep) (hl env A κ own st s _ X ha p h) fun κ₁ own₁ s₁ a va st₁ q x ra => ?_)
  refine wpAny_bind (wpAny_holding (Sat.go x (hr env A κ₁ own₁ st₁ s₁ _ X (ha.step x.grow) (p.step x) q) fun κ₂ own₂ s₂ b vb st₂ q y rb => ?_))
  have z := x.trans y
  refine wpAny_bind (wpAny_standAt (wpAny_bind (wpAny_operateT (Sat.go z (cmp_ok hG hU ((ha.step z.grow).le (Nat.le_succ _)) y.rep (ra.mono y.grow.le) rb q) fun κ₃ own₃ s₃ b v st₃ q u e => ?_))))
  subst e
  exact wpAny_holding (wpAny_truthy_bool (SatQ.here (z.trans u) q rfl))
end
end Sm
end
section
set_option maxRecDepth 100000
set_option linter.unusedVariables false
namespace Sm
open PySem PySem.Calls PySem.W
def ownAdd (own : Own) (a : Addr) (t : Tag) : Own := fun b => if b = a then some t else own b
section
variable {B : Base} {env : Env} {κ : Kw} {own : Own} {st : St} {s : Shared}
theorem RepX.dead (x : RepX B κ own env st s) {a : Addr} (h : s.heap.get? a = none) : own a = none := by
  cases q : own a with
  | none => rfl
  | some t => obtain ⟨o, e⟩ := x.rep.live a t q; rw [h] at e; cases e
theorem size_dead (h : Heap) : h.get? h.objs.size = none := Heap.get?_none_of_le (Nat.le_refl _)
theorem RepX.pushTup {vs : List Value} (x : RepX B κ own env st s) : StepX B env κ own s (κ.addImm s.heap.objs.size (.tup vs)) own st { s with heap := s.heap.push { cls := .type "tuple", data := .seq vs.toArray } } ∧
    (κ.addImm s.heap.objs.size (.tup vs)).imm s.heap.objs.size = some (.tup vs) :=
  x.newImm (fun b o h => Heap.get?_push_of_some _ h) rfl rfl (size_dead _) ⟨_, 0, Heap.get?_push_size _ rfl, rfl, rfl, rfl⟩
theorem RepX.push1 {ob : Obj} {o : AObj} (x : RepX B κ own env st s) (hf : ob.isFreed = false)
    (hO : ORep B (κ.addObj st.σ.length s.heap.objs.size) (ownAdd own s.heap.objs.size (.obj st.σ.length)) (s.heap.push ob) st.σ.length s.heap.objs.size o) :
    StepX B env κ own s (κ.addObj st.σ.length s.heap.objs.size) (ownAdd own s.heap.objs.size (.obj st.σ.length)) { st with σ := st.σ ++ [o] } { s with heap := s.heap.push ob } ∧
      (κ.addObj st.σ.length s.heap.objs.size).rho st.σ.length = some s.heap.objs.size := by
  refine x.newObj (fun b o h => Heap.get?_push_of_some _ h) rfl rfl (if_pos rfl) (fun b t h => ?_) (fun b t h => ?_) hO
  · unfold ownAdd
    rw [if_neg]
    · exact h
    · rintro rfl
      rw [x.dead (size_dead _)] at h; cases h
  · unfold ownAdd at h
    split at h
    · rename_i e; subst e
      exact .inr ⟨size_dead _, _, Heap.get?_push_size _ hf⟩
    · exact .inl h
theorem RepX.pushList {xs : List AV} {vs : List Value} (x : RepX B κ own env st s) (hv : VRels κ xs vs) :
    StepX B env κ own s (κ.addObj st.σ.length s.heap.objs.size) (ownAdd own s.heap.objs.size (.obj st.σ.length)) { st with σ := st.σ ++ [.list xs] } { s with heap := s.heap.push { cls := .type "list", data := .seq vs.toArray } } ∧
      (κ.addObj st.σ.length s.heap.objs.size).rho st.σ.length = some s.heap.objs.size :=
  x.push1 rfl ⟨vs, ⟨0, Heap.get?_push_size _ rfl⟩, hv.mono (x.addLe _)⟩
end
section
variable {B : Base} {κ₀ : Kw} {G : Genv} {U : Blts} {O : Addr → Sp} {d : Nat} {hd : Bool} {sc : Scope}
theorem es_nil : EsOk B κ₀ G U O d hd sc [] .nil :=
  ⟨fun _ h => (nomatch h), rfl, fun env A κ own st s Q X ha p h => Calls.spliced_nil (SatQ.here (.refl p.rep) h .nil)⟩
theorem es_cons {e : Expr} {e' : E} {r : List Expr} {r' : Es} (hn : isStarred e = false) (he : EvOk B κ₀ G U O d hd sc e e') (hr : EsOk B κ₀ G U O d hd sc r r') : EsOk B κ₀ G U O d hd sc (e :: r) (.cons e' r') := by
  refine ⟨fun x hx => ?_, by show r'.len + 1 = _; rw [hr.2.1]; rfl, fun env A κ own st s Q X ha p h => ?_⟩
  · rcases List.mem_cons.mp hx with rfl | hx
    · exact hn
    · exact hr.1 x hx
  show Sat B env A (spliced ((false, eval e env) :: (evalEach r env).map fun t => (false, t))) _ Q X κ own s
  refine Calls.spliced_cons (Sat.go (.refl p.rep) (he env A κ own st s _ X ha p h) fun κ₁ own₁ s₁ a va st₁ q x ra => ?_)
  exact Sat.go x (hr.2.2 env A κ₁ own₁ st₁ s₁ _ X (ha.step x.grow) (p.step x) q) fun κ₂ own₂ s₂ b vb st₂ q y rb => SatQ.here (x.trans y) q (.cons (ra.mono y.grow.le) rb)
theorem bs_one {e : Expr} {e' : E} (he : EvOk B κ₀ G U O d hd sc e e') : BsOk B κ₀ G U O d hd sc [e] (.cons e' .nil) := fun env A κ own st s Q X op pos ha p h => he env A κ own st s Q X ha p h
theorem bs_cons {e f : Expr} {e' f' : E} {r : List Expr} {r' : Es} (he : EvOk B κ₀ G U O d hd sc e e') (hr : BsOk B κ₀ G U O d hd sc (f :: r) (.cons f' r')) : BsOk B κ₀ G U O d hd sc (e :: f :: r) (.cons e' (.cons f' r')) := by
  intro env A κ own st s Q X op pos ha p h
  show Sat B env A (do
    let v ← eval e env
    standAt pos
    let t ← holding [v] (truthy v)
    match op, t with
    | .And, false | .Or, true => pure v
    | _, _ => boolOp pos op (evalEach (f :: r) env)) VR Q X κ own s
  refine wpAny_bind (Sat.go (.refl p.rep) (he env A κ own st s _ X ha p h) fun κ₁ own₁ s₁ a va st₁ q x ra => ?_)
  refine wpAny_bind (wpAny_standAt (wpAny_bind (wpAny_holding (Sat.go x (sound_truth (X := X) (Q := fun b st => match (generalizing := false) op, b with | .And, false => Q a st | .Or, true => Q a st | _, _ => evb G U O hd op (.cons f' r') st Q X) x.rep ra q) fun κ₂ own₂ s₂ b c st₂ q y e => ?_))))
  subst e
  have z := x.trans y
  have next : evb G U O hd op (.cons f' r') st₂ Q X → wpAny (model B.prog B.w) A (boolOp pos op (evalEach (f :: r) env)) (SatQ B env VR Q κ own s) (SatX B env X κ own s) s₂ := fun q => Sat.fin z (hr env A κ₂ own₂ st₂ s₂ Q X op pos (ha.step z.grow) (p.step z) q)
  cases op <;> cases b
  · exact wpAny_pure (SatQ.here z q (ra.mono y.grow.le))
  · exact next q
  · exact next q
  · exact wpAny_pure (SatQ.here z q (ra.mono y.grow.le))
theorem ok_boo {es : List Expr} {es' : Es} {op : BoolOp} {pos : Pos} (h : BsOk B κ₀ G U O d hd sc es es') : EvOk B κ₀ G U O d hd sc (.BoolOp op es pos) (.boo op es') := fun env A κ own st s Q X ha p q => h env A κ own st s Q X op pos ha p q
theorem ok_ife {t b o : Expr} {t' : C} {b' o' : E} {pos : Pos} (ht : TsOk B κ₀ G U O d hd sc t t') (hb : EvOk B κ₀ G U O d hd sc b b') (ho : EvOk B κ₀ G U O d hd sc o o') : EvOk B κ₀ G U O d hd sc (.IfExp t b o pos) (.ife t' b' o') := by
  intro env A κ own st s Q X ha p h
  refine wpAny_IfExp (Sat.go (.refl p.rep) (ht env A κ own st s _ X ha p h) fun κ₁ own₁ s₁ a va st₁ q x e => ?_)
  subst e
  cases a
  · exact Sat.fin x (ho env A κ₁ own₁ st₁ s₁ Q X (ha.step x.grow) (p.step x) q)
  · exact Sat.fin x (hb env A κ₁ own₁ st₁ s₁ Q X (ha.step x.grow) (p.step x) q)
theorem t_ife {t b o : Expr} {t' : C} {b' o' : C} {pos : Pos} (ht : TsOk B κ₀ G U O d hd sc t t') (hb : TsOk B κ₀ G U O d hd sc b b') (ho : TsOk B κ₀ G U O d hd sc o o') : TsOk B κ₀ G U O d hd sc (.IfExp t b o pos) (.ife t' b' o') := by
  intro env A κ own st s Q X ha p h
  refine PyProof.Rows.isTrue_IfExp (Sat.go (.refl p.rep) (ht env A κ own st s _ X ha p h) fun κ₁ own₁ s₁ a va st₁ q x e => ?_)
  subst e
  cases a
  · exact Sat.fin x (ho env A κ₁ own₁ st₁ s₁ Q X (ha.step x.grow) (p.step x) q)
  · exact Sat.fin x (hb env A κ₁ own₁ st₁ s₁ Q X (ha.step x.grow) (p.step x) q)
theorem t_not {x : Expr} {c : C} {pos : Pos} (hx : TsOk B κ₀ G U O d hd sc x c) : TsOk B κ₀ G U O d hd sc (.UnaryOp .Not x pos) (.not c) := by
  intro env A κ own st s Q X ha p h
  refine wpAny_isTrue_Not (Sat.go (.refl p.rep) (hx env A κ own st s _ X ha p h) fun κ₁ own₁ s₁ a va st₁ q x e => ?_)
  subst e
  exact SatQ.here x q rfl
theorem t_e {e : Expr} {e' : E} (he : EvOk B κ₀ G U O d hd sc e e') (hw : ∀ env : Env, isTrue e env (eval e env) = (do let v ← eval e env; standAt e.pos; holding [v] (truthy v))) : TsOk B κ₀ G U O d hd sc e (.e e') := by
  intro env A κ own st s Q X ha p h
  refine wpAny_isTrue_value (Sat.go (.refl p.rep) (he env A κ own st s _ X ha p h) fun κ₁ own₁ s₁ a va st₁ q x ra => ?_) (hw env)
  exact Sat.fin x (sound_truth x.rep ra q)
theorem cs_nil : CsOk B κ₀ G U O d hd sc [] .nil := fun env A κ own st s Q X op ha p h => by
  cases op
  · exact wpAny_pure (SatQ.here (.refl p.rep) h rfl)
  · exact wpAny_pure (SatQ.here (.refl p.rep) h rfl)
theorem cs_cons {e : Expr} {c : C} {r : List Expr} {r' : Cs} (he : TsOk B κ₀ G U O d hd sc e c) (hr : CsOk B κ₀ G U O d hd sc r r') : CsOk B κ₀ G U O d hd sc (e :: r) (.cons c r') := by
  intro env A κ own st s Q X op ha p h
  show Sat B env A (do
    match op, ← isTrue e env (eval e env) with
    | .And, false => pure false
    | .Or, true => pure true
    | _, _ => allTrue op r env) _ Q X κ own s
  refine wpAny_bind (Sat.go (.refl p.rep) (he env A κ own st s _ X ha p h) fun κ₁ own₁ s₁ a va st₁ q x e => ?_)
  subst e
  have next : tsts G U O hd op r' st₁ Q X → wpAny (model B.prog B.w) A (allTrue op r env) (SatQ B env (fun _ a b => a = b) Q κ own s) (SatX B env X κ own s) s₁ := fun q => Sat.fin x (hr env A κ₁ own₁ st₁ s₁ Q X op (ha.step x.grow) (p.step x) q)
  cases op <;> cases a
  · exact wpAny_pure (SatQ.here x q rfl)
  · exact next q
  · exact next q
  · exact wpAny_pure (SatQ.here x q rfl)
theorem t_boo {es : List Expr} {cs : Cs} {op : BoolOp} {pos : Pos} (h : CsOk B κ₀ G U O d hd sc es cs) : TsOk B κ₀ G U O d hd sc (.BoolOp op es pos) (.boo op cs) := fun env A κ own st s Q X ha p q =>
  wpAny_isTrue_BoolOp (h env A κ own st s Q X op ha p q)
theorem ok_tup {es : List Expr} {es' : Es} {k : Nat} {pos : Pos} (h : EsOk B κ₀ G U O d hd sc es es') : EvOk B κ₀ G U O d hd sc (.Tuple es k pos) (.tup es') := by
  intro env A κ own st s Q X ha p q
  refine wpAny_Tuple ?_
  rw [starEach_plain h.1, backTo_plain]
  refine Sat.go (.refl p.rep) (h.2.2 env A κ own st s _ X ha p q) fun κ₁ own₁ s₁ xs vs st₁ q x ra => ?_
  obtain ⟨y, hi⟩ := x.rep.pushTup (vs := vs)
  refine ⟨?_, SatQ.here (x.trans y) q.2 (.tup hi (ra.mono y.grow.le))⟩
  rw [← ra.length, sizeLine_eq]; have := q.1; omega
theorem ok_list {es : List Expr} {es' : Es} {pos : Pos} (h : EsOk B κ₀ G U O d hd sc es es') : EvOk B κ₀ G U O d hd sc (.List es pos) (.list es') := by
  intro env A κ own st s Q X ha p q
  refine wpAny_List ?_
  rw [starEach_plain h.1, backTo_plain]
  refine Sat.go (.refl p.rep) (h.2.2 env A κ own st s _ X ha p q) fun κ₁ own₁ s₁ xs vs st₁ q x ra => ?_
  obtain ⟨y, hi⟩ := x.rep.pushList ra
  refine ⟨?_, SatQ.here (x.trans y) q.2 (.ref hi)⟩
  rw [← ra.length, sizeLine_eq]; have := q.1; omega
theorem os_none : OsOk B κ₀ G U O d hd sc none .nil := fun env A κ own st s Q X ha p q => wpAny_pure (SatQ.here (.refl p.rep) q .none)
theorem os_some {e : Expr} {e' : E} (he : EvOk B κ₀ G U O d hd sc e e') : OsOk B κ₀ G U O d hd sc (some e) (.cons e' .nil) := fun env A κ own st s Q X ha p q =>
  Sat.go (.refl p.rep) (he env A κ own st s _ X ha p q) fun κ₁ own₁ s₁ xs vs st₁ q x ra => SatQ.here x q (.some ra)
theorem isSliceE {i : Expr} (h : ∀ a b c p, i ≠ .Slice a b c p) (o v : Value) : subscripted i false o v = operate [o, v] (getItem o v) := by
  unfold subscripted
  split
  · rename_i a b c e
    exact absurd rfl (h _ _ _ _)
  · rename_i e; cases e
  · rfl
theorem ok_item (hU : UOk B G d hd U) {v i : Expr} {v' i' : E} {pos : Pos} (hn : ∀ a b c p, i ≠ .Slice a b c p) (hv : EvOk B κ₀ G U O d hd sc v v') (hi : EvOk B κ₀ G U O d hd sc i i') : EvOk B κ₀ G U O d hd sc (.Subscript v i pos) (.item v' i') := by
  intro env A κ own st s Q X ha p h
  rw [eval_Subscript]
  refine wpAny_bind (Sat.go (.refl p.rep) (hv env A κ own st s _ X ha p h) fun κ₁ own₁ s₁ a va st₁ q x ra => ?_)
  refine wpAny_bind (wpAny_holding (Sat.go x (hi env A κ₁ own₁ st₁ s₁ _ X (ha.step x.grow) (p.step x) q) fun κ₂ own₂ s₂ b vb st₂ q y rb => ?_))
  have z := x.trans y
  obtain ⟨hg, hs⟩ := hU.item q y.rep ((ha.step z.grow).le (Nat.le_succ _)) (ra.mono y.grow.le) rb
  refine wpAny_bind (wpAny_standAt (wpAny_bind (hg (wpAny_bind ?_))))
  rw [isSliceE hn]
  refine wpAny_operateT (Sat.go z hs fun κ₃ own₃ s₃ c vc st₃ q u rc => ?_)
  exact wpAny_bind (wpAny_letTemporaryGo (wpAny_pure (SatQ.here (z.trans u) q rc)))
theorem ok_slice (hU : UOk B G d hd U) {v : Expr} {lo hi : Option Expr} {v' : E} {lo' hi' : Es} {sp pos : Pos} (hv : EvOk B κ₀ G U O d hd sc v v') (hl : OsOk B κ₀ G U O d hd sc lo lo') (hh : OsOk B κ₀ G U O d hd sc hi hi') :
    EvOk B κ₀ G U O d hd sc (.Subscript v (.Slice lo hi none sp) pos) (.slice v' lo' hi') := by
  intro env A κ own st s Q X ha p h
  rw [eval_Subscript]
  refine wpAny_bind (Sat.go (.refl p.rep) (hv env A κ own st s _ X ha p h) fun κ₁ own₁ s₁ a va st₁ q x ra => ?_)
  refine wpAny_bind (wpAny_holding ?_)
  show wpAny _ _ (do
    let l ← valueOrNone (evalOpt lo env)
    let u ← holding [l] (valueOrNone (evalOpt hi env))
    let s ← holding [l, u] (valueOrNone (evalOpt none env))
    newFields "slice" [l, u, s]) _ _ _
  refine wpAny_bind (Sat.go x (hl env A κ₁ own₁ st₁ s₁ _ X (ha.step x.grow) (p.step x) q) fun κ₂ own₂ s₂ l vl st₂ q y rl => ?_)
  have z := x.trans y
  refine wpAny_bind (wpAny_holding (Sat.go z (hh env A κ₂ own₂ st₂ s₂ _ X (ha.step z.grow) (p.step z) q) fun κ₃ own₃ s₃ u vu st₃ q w ru => ?_))
  have z' := z.trans w
  refine wpAny_bind (wpAny_holding (wpAny_pure (a := Value.none) ?_))
  refine wpAny_newObj_type ?_
  have junk := z'.rep.keeps (s' := { s₃ with heap := s₃.heap.push { cls := .type "slice", dict := none, data := .fields #[vl, vu, .none] } }) (fun b o h => Heap.get?_push_of_some _ h) rfl rfl
  have z'' := z'.trans junk
  have rl' : ORelV κ₃ l vl := by cases rl with | none => exact .none | some h => exact .some (h.mono w.grow.le)
  obtain ⟨hg, hs⟩ := hU.slice q junk.rep ((ha.step z''.grow).le (Nat.le_succ _)) ((ra.mono y.grow.le).mono w.grow.le) rl' ru (Heap.get?_push_size _ rfl)
  refine wpAny_bind (wpAny_standAt (wpAny_bind (hg (wpAny_bind ?_))))
  refine wpAny_operateT (Sat.go z'' hs fun κ₄ own₄ s₄ c vc st₄ q u rc => ?_)
  exact wpAny_bind (wpAny_letTemporaryGo (wpAny_pure (SatQ.here (z''.trans u) q rc)))
end
end Sm
end
section
set_option maxRecDepth 100000
set_option maxHeartbeats 4000000
set_option linter.unusedVariables false
namespace Sm
open PySem PySem.Calls PySem.W
section
variable {prog : Program} {w : World} {A : Around} {E : Value → Shared → Prop} {h : Heap} {g : Array GenState} {d : Drawn} {t : Nat} {os : OsState}
variable {nm q : Str} {C N : Addr} {bs : List Value} {sn : List Str} {sub : List Value} {col : Option Bool} {dd : Option Addr} {k0 k1 k2 k3 k5 : Option Value}
theorem check_new {M : Model} {rest : List Value} {kw : List (Str × Value)} {Q : Unit → Shared → Prop}
    (hC : h.get? C = some (excClassObj nm q C N bs [.type "object"] true sn sub false col dd k0 k1 k2 k3 k5 "object.__new__")) (hq : Q () ⟨h, g, d, t, os⟩) :
    wpAny M A (checkBuiltinCall "object.__new__" ⟨.ref C :: rest, kw⟩) Q E ⟨h, g, d, t, os⟩ := by
  have F := PySem.F.objNew
  have hcont : (Value.ref C :: [Value.type "object"]).contains (.type "object") = true := by rw [List.contains_cons, show [Value.type "object"].contains (.type "object") = true from by decide, Bool.or_true]
  simp only [checkBuiltinCall, F.kind, F.split, F.row]
  repeat (first | refine wpAny_loadPart_at hC ?_ | (refine wpAny_isSubtype_exc hC ?_; rw [hcont]) | refine wpAny_staticBase_exc hC ?_ | refine wpAny_madeBy_exc hC ?_ | simp only [bne_self_eq_false, Bool.false_eq_true, if_false] | wp_step)
  exact hq
theorem code_new {R : Result → Shared → Prop} {mN : Str → Option Value} {rest : List Value} {kw : List (Str × Value)} {fI : Addr}
    (hC : h.get? C = some (excClassObj nm q C N bs [.type "object"] true sn sub false col dd k0 k1 k2 k3 k5 "object.__new__")) (hn : h.Ns N mN) (hi : mN "__init__" = some (.ref fI))
    (hq : R (.ok (.ret (.ref (h.objs.size + 1)))) ⟨(h.push { cls := .type "dict", data := .dict #[] }).push { cls := .ref C, dict := some h.objs.size, data := .plain }, g, d, t, os⟩) :
    codeAny (model prog w) A (.builtin "object.__new__" ⟨.ref C :: rest, kw⟩) R ⟨h, g, d, t, os⟩ := by
  have F := PySem.F.objNew
  have hmro : mroOf (.type "object") = pure [.type "object"] := by kernel_rfl
  have hlk : typeLookup (.type "object") "__init__" = pure (some (.builtin "object.__init__")) := by rw [typeLookup_type, builtinLookup_eq_fast]; kernel_rfl
  have hne : (some (Value.ref fI) != some (Value.builtin "object.__init__")) = true := rfl
  have hsame : (some "object.__new__" != some "object.__new__") = false := bne_self_eq_false _
  refine codeAny_builtin F.entry ?_
  unfold Builtin.«object.__new__»
  rcases rest with _ | ⟨r0, rr⟩ <;> rcases kw with _ | ⟨k0', kk⟩
  all_goals
    repeat (first | with_reducible refine wpAny_madeHere_exc F.canon hC ?_ | (with_reducible refine wpAny_madeBy_exc hC ?_; simp only [hsame]) | with_reducible refine wpAny_loadPart_at hC ?_ | (with_reducible refine wpAny_typeLookup_exc hC hn hmro hlk ?_; rw [hi]; simp only [hne]) | wp_step)
  all_goals
    show wpAny _ _ (alloc { cls := .type "dict", data := .dict #[] } >>= fun x => pure (some x)) _ _ _
    refine wpAny_bind (wpAny_alloc' (wpAny_pure ?_))
    unfold newObj
    repeat wp_step
    show R _ _
    rw [Heap.size_push]
    exact hq
theorem type_call_init {mN : Str → Option Value} {rest : List Value} {kw : List (Str × Value)} {fI : Addr} {oI : Obj} {Q : Fin → Shared → Prop}
    (hC : h.get? C = some (excClassObj nm q C N bs [.type "object"] true sn sub false col dd k0 k1 k2 k3 k5 "object.__new__")) (hn : h.Ns N mN) (hi : mN "__init__" = some (.ref fI))
    (hfI : h.get? fI = some oI) (hfc : oI.cls = .type "function")
    (hq : ∀ h' x dx, Heap.MadeObjFk h h' x dx C →
      wpAny (model prog w) A (call (.ref fI) (.ref x :: rest) kw) (fun r s' => r = .none ∧ Q (.done (.ret (.ref x))) s') E ⟨h', g, d, t, os⟩) :
    wpAny (model prog w) A (Builtin.«type.__call__» ⟨.ref C :: rest, kw⟩) Q E ⟨h, g, d, t, os⟩ := by
  have F := PySem.F.objNew
  have hmro : mroOf (.type "object") = pure [.type "object"] := by kernel_rfl
  have hlk : typeLookup (.type "object") "__init__" = pure (some (.builtin "object.__init__")) := by rw [typeLookup_type, builtinLookup_eq_fast]; kernel_rfl
  repeat (first | with_reducible refine wpAny_loadPart_at hC ?_ | with_reducible refine wpAny_madeBy_exc hC ?_ | wp_step)
  refine codeAny_call_builtin_code (Code.quiet_builtin _ F.quiet) (check_new hC ?_)
  refine code_new hC hn hi ?_
  show wpAny _ _ _ _ _ _
  have hC₁ := Heap.get?_push_of_some { cls := .ref C, dict := some h.objs.size, data := .plain } (Heap.get?_push_of_some { cls := .type "dict", data := .dict #[] } hC)
  have hfI₁ := Heap.get?_push_of_some { cls := .ref C, dict := some h.objs.size, data := .plain } (Heap.get?_push_of_some { cls := .type "dict", data := .dict #[] } hfI)
  have hn₁ : ((h.push { cls := .type "dict", data := .dict #[] }).push { cls := .ref C, dict := some h.objs.size, data := .plain }).Ns N mN :=
    let ⟨o, es, ep, e, r⟩ := hn; ⟨o, es, ep, Heap.get?_push_of_some _ (Heap.get?_push_of_some _ e), r⟩
  have hget : ((h.push { cls := .type "dict", data := .dict #[] }).push { cls := .ref C, dict := some h.objs.size, data := .plain }).get? (h.objs.size + 1) = some { cls := .ref C, dict := some h.objs.size, data := .plain } := by heap_get
  have hgd : ((h.push { cls := .type "dict", data := .dict #[] }).push { cls := .ref C, dict := some h.objs.size, data := .plain }).get? h.objs.size = some { cls := .type "dict", data := .dict #[] } :=
    Heap.get?_push_of_some _ (Heap.get?_push_at rfl rfl)
  have hcC : (Value.ref C :: [Value.type "object"]).contains (.ref C) = true := by simp
  unfold isInstance
  repeat (first | with_reducible refine wpAny_loadPart_at hget ?_ | (with_reducible refine wpAny_isSubtype_exc hC₁ ?_; rw [hcC]) | wp_step)
  show wpAny _ _ (typeLookup (.ref C) _) _ _ _
  refine wpAny_typeLookup_exc hC₁ hn₁ hmro hlk ?_
  rw [hi]
  refine wpAny_holding (wpAny_bind ?_)
  unfold bindSpecial
  refine wpAny_bind (wpAny_typeOf (T := "function") ⟨_, hfI₁, hfc⟩ ?_)
  rw [if_pos (by decide)]
  refine wpAny_pure (wpAny_bind (wpAny_mono (hq _ (h.objs.size + 1) h.objs.size ⟨fun b o hb => Heap.get?_push_of_some _ (Heap.get?_push_of_some _ hb), Heap.get?_none_of_le (Nat.le_succ _), Heap.get?_none_of_le (Nat.le_refl _),
    ⟨_, hget, rfl, fun c => by simp, .inr ⟨h.objs.size, rfl, Nat.ne_of_lt (Nat.lt_succ_self _), Heap.Ns1.of_empty ⟨_, #[], _, hgd, rfl, fun e he => absurd he (by simp), fun _ => rfl⟩, ⟨_, hgd, rfl, rfl⟩⟩⟩,
    fun o ho => by obtain rfl := Option.some.inj (hget.symm.trans ho); rfl, by simp only [Heap.size_push]; omega⟩) (fun r s' hr => ?_) fun _ _ x => x))
  obtain ⟨rfl, hQ⟩ := hr
  wp_walk
  exact hQ
theorem check_call {M : Model} {rest : List Value} {kw : List (Str × Value)} {Q : Unit → Shared → Prop}
    (hC : h.get? C = some (excClassObj nm q C N bs [.type "object"] true sn sub false col dd k0 k1 k2 k3 k5 "object.__new__"))
    (hq : Q () ⟨h, g, d, t, os⟩) : wpAny M A (checkBuiltinCall "type.__call__" ⟨.ref C :: rest, kw⟩) Q E ⟨h, g, d, t, os⟩ := by
  have f3 := tc_sub
  have hT : (⟨h, g, d, t, os⟩ : Shared).TypeIs (.ref C) "type" := ⟨_, hC, rfl⟩
  simp only [checkBuiltinCall, tc_kind, tc_split]
  repeat (any_goals (first | assumption | with_reducible refine wpAny_loadPart_at hC ?_ | with_reducible refine wpAny_onRaise ?_ | with_reducible refine wpAny_map ?_ | wp_step))
theorem call_init {mN : Str → Option Value} {rest : List Value} {kw : List (Str × Value)} {fI : Addr} {oI : Obj} {Q : Value → Shared → Prop}
    (hC : h.get? C = some (excClassObj nm q C N bs [.type "object"] true sn sub false col dd k0 k1 k2 k3 k5 "object.__new__")) (hn : h.Ns N mN) (hi : mN "__init__" = some (.ref fI))
    (hfI : h.get? fI = some oI) (hfc : oI.cls = .type "function")
    (hq : ∀ h' x dx, Heap.MadeObjFk h h' x dx C →
      wpAny (model prog w) (A.under (.builtin "type.__call__" ⟨.ref C :: rest, kw⟩)) (call (.ref fI) (.ref x :: rest) kw) (fun r s' => r = .none ∧ Q (.ref x) s') E ⟨h', g, d, t, os⟩) :
    wpAny (model prog w) A (call (.ref C) rest kw) Q E ⟨h, g, d, t, os⟩ := by
  have f1 := tc_lookup
  have f2 := tc_bind (.ref C)
  have hT : (⟨h, g, d, t, os⟩ : Shared).TypeIs (.ref C) "type" := ⟨_, hC, rfl⟩
  refine wpAny_call (codeAny_of_tree ?_)
  show wpAny _ _ (callAny (.ref C) _) _ _ _
  repeat (any_goals (first | assumption | with_reducible refine wpAny_loadPart_at hC ?_ | wp_step))
  refine ⟨rfl, ?_⟩
  refine codeAny_call_builtin_at (Code.quiet_builtin _ (by decide +kernel)) entry_typeCall (check_call hC (type_call_init hC hn hi hfI hfc fun h' x dx hm => ?_))
  exact hq h' x dx hm
end
end Sm
end
section
set_option maxRecDepth 100000
set_option linter.unusedVariables false
namespace Sm
open PySem PySem.Calls PySem.W
section
variable {B : Base} {κ₀ : Kw} {G : Genv} {U : Blts} {O : Addr → Sp} {d : Nat} {hd : Bool} {sc : Scope}
theorem ks_nil : KsOk B κ₀ G U O d hd sc [] .nil := ⟨fun _ h => (nomatch h), rfl, fun env A κ own st s Q X pos ha p h => wpAny_evalAll_nil (SatQ.here (.refl p.rep) h .nil)⟩
theorem ks_cons {k : Str} {i : Nat} {e : Expr} {kp : Pos} {e' : E} {r : List Keyword} {r' : Ks} (hi : dec i = k) (he : EvOk B κ₀ G U O d hd sc e e') (hr : KsOk B κ₀ G U O d hd sc r r') : KsOk B κ₀ G U O d hd sc (⟨some k, e, kp⟩ :: r) (.cons i e' r') := by
  subst hi
  refine ⟨fun x hx => ?_, by show r'.len + 1 = _; rw [hr.2.1]; rfl, fun env A κ own st s Q X pos ha p h => ?_⟩
  · rcases List.mem_cons.mp hx with rfl | hx
    · rfl
    · exact hr.1 x hx
  show Sat B env A (evalAll ((do let v ← eval e env; standAt pos; pure v) :: (backToKw pos (keywordEach r env)).map (·.2))) _ Q X κ own s
  refine wpAny_evalAll_cons (wpAny_bind (Sat.go (.refl p.rep) (he env A κ own st s _ X ha p h) fun κ₁ own₁ s₁ a va st₁ q x ra => wpAny_bind (wpAny_standAt (wpAny_pure ?_))))
  exact Sat.go x (hr.2.2 env A κ₁ own₁ st₁ s₁ _ X pos (ha.step x.grow) (p.step x) q) fun κ₂ own₂ s₂ b vb st₂ q y rb => SatQ.here (x.trans y) q (.cons (ra.mono y.grow.le) rb)
theorem kw_names {pos : Pos} {env : Env} : ∀ {ks : List Keyword}, (backToKw pos (keywordEach ks env)).filterMap (·.1) = ks.filterMap (·.arg)
  | [] => rfl
  | ⟨k, e, p⟩ :: r => by
    show ((k, _) :: backToKw pos (keywordEach r env)).filterMap (·.1) = _
    rw [List.filterMap_cons, List.filterMap_cons, kw_names]
theorem kw_all {pos : Pos} {env : Env} : ∀ {ks : List Keyword}, (∀ k ∈ ks, k.arg.isSome) → (backToKw pos (keywordEach ks env)).all (·.1.isSome) = true
  | [], _ => rfl
  | ⟨k, e, p⟩ :: r, h => by
    show ((k, _) :: backToKw pos (keywordEach r env)).all (·.1.isSome) = true
    rw [List.all_cons, kw_all fun x hx => h x (.tail _ hx), Bool.and_true]
    exact h _ (.head _)
theorem kw_len {pos : Pos} {env : Env} : ∀ {ks : List Keyword}, (backToKw pos (keywordEach ks env)).length = ks.length
  | [] => rfl
  | ⟨k, e, p⟩ :: r => by show (_ :: backToKw pos (keywordEach r env)).length = _; rw [List.length_cons, kw_len]; rfl
theorem plain_any {ts : List (Sem Value)} : (ts.map fun t => (false, t)).any (·.1) = false := by
  rw [List.any_map]; simp
theorem each_len {env : Env} : ∀ {es : List Expr}, (evalEach es env).length = es.length
  | [] => rfl
  | e :: r => by show (_ :: evalEach r env).length = _; rw [List.length_cons, each_len]; rfl
theorem args_go {env : Env} {A : Around} {κ κ₁ : Kw} {own own₁ : Own} {st₁ : St} {s s₁ : Shared} {X : Xp} {args : List Expr} {as : Es} {kws : List Keyword} {ks : Ks} {f : Value} {pos : Pos}
    {Q : List AV → List (Nat × AV) → St → Prop} {F : Args → Shared → Prop} (he : EsOk B κ₀ G U O d hd sc args as) (hk : KsOk B κ₀ G U O d hd sc kws ks) (x : StepX B env κ own s κ₁ own₁ st₁ s₁)
    (ha : AOk B env A own₁ s₁.heap (d + 1) hd) (p : Pre B κ₀ sc env κ₁ own₁ st₁ s₁) (h : evs G U O hd as st₁ (fun vs st => evk G U O hd ks st (fun kvs st => Q vs kvs st) X) X)
    (cont : ∀ κ₂ own₂ s₂ vs kvs vals kvals st₂, Q vs kvs st₂ → StepX B env κ₁ own₁ s₁ κ₂ own₂ st₂ s₂ → VRels κ₂ vs vals → KRel κ₂ kvs kvals → (kws = [] → kvals = []) → F ⟨vals, kvals⟩ s₂) :
    wpAny (model B.prog B.w) A (evalArgs f true ((evalEach args env).map fun t => (false, t)) (backToKw pos (keywordEach kws env))) F (SatX B env X κ own s) s₁ := by
  have tail : ∀ κ₂ own₂ s₂ vs vals st₂, evk G U O hd ks st₂ (fun kvs st => Q vs kvs st) X → StepX B env κ₁ own₁ s₁ κ₂ own₂ st₂ s₂ → VRels κ₂ vs vals →
      wpAny (model B.prog B.w) A (evalAll ((backToKw pos (keywordEach kws env)).map (·.2))) (fun kk s₃ => F ⟨vals, ((backToKw pos (keywordEach kws env)).filterMap (·.1)).zip kk⟩ s₃) (SatX B env X κ own s) s₂ := by
    intro κ₂ own₂ s₂ vs vals st₂ q y rv
    refine Sat.go (x.trans y) (hk.2.2 env A κ₂ own₂ st₂ s₂ _ X pos (ha.step y.grow) (p.step y) q) fun κ₃ own₃ s₃ kvs kk st₃ q z rk => ?_
    rw [kw_names]
    refine cont κ₃ own₃ s₃ vs kvs vals _ st₃ q (y.trans z) ?_ rk ?_
    · clear cont q rk
      exact VRels.mono z.grow.le rv
    · intro e; subst e; rfl
  cases args with
  | nil =>
    refine evalArgs_kw_nil (kw_all hk.1) ?_
    obtain ⟨_, hl, hs⟩ := he
    cases as with
    | cons => simp [Es.len] at hl
    | nil => exact tail κ₁ own₁ s₁ [] [] st₁ h (.refl x.rep) .nil
  | cons e r =>
    refine evalArgs_kw (kw_all hk.1) ?_
    exact Sat.go x (he.2.2 env A κ₁ own₁ st₁ s₁ _ X ha p h) fun κ₂ own₂ s₂ vs vals st₂ q y rv => tail κ₂ own₂ s₂ vs vals st₂ q y rv
theorem callWith_class {M : Model} {A : Around} {E : Value → Shared → Prop} {s : Shared} {pos : Pos} {nm q : Str} {C N : Addr} {bs : List Value} {sn : List Str} {sub : List Value} {col : Option Bool} {dd : Option Addr} {k0 k1 k2 k3 k5 : Option Value}
    {ts : List (Sem Value)} {kws : List (Option Str × Sem Value)} {Q : Value → Shared → Prop} (hkw : kws.all (·.1.isSome) = true)
    (h : wpAny M A (evalArgs (.ref C) true (ts.map fun t => (false, t)) kws) (fun x s₁ => (s₁.heap.get? C = some (excClassObj nm q C N bs [.type "object"] true sn sub false col dd k0 k1 k2 k3 k5 "object.__new__")) ∧ wpAny M A (call (.ref C) x.pos x.kw) Q E s₁) E s) :
    wpAny M A (callWith pos (.ref C) [] (ts.map fun t => (false, t)) kws) Q E s := by
  have hst : ((ts.map fun t => (false, t)).any (fun x => x.fst) || kws.any fun x => x.fst.isNone) = false := by
    rw [plain_any, Bool.false_or, List.any_eq_false]
    intro x hx
    have := List.all_eq_true.mp hkw x hx
    cases e : x.1 <;> simp_all
  unfold callWith
  refine wpAny_bind (wpAny_holding (wpAny_mono h (fun x s₁ h₁ => ?_) fun _ _ x => x))
  obtain ⟨hh, g, d, t, os⟩ := s₁
  obtain ⟨hC, hcall⟩ := h₁
  have f1 := tc_lookup
  have hT : (⟨hh, g, d, t, os⟩ : Shared).TypeIs (.ref C) "type" := ⟨_, hC, rfl⟩
  refine wpAny_bind (wpAny_standAt ?_)
  show wpAny _ _ (keeperOf (.ref C) >>= _) _ _ _
  unfold keeperOf specialOf
  repeat (any_goals (first | assumption | with_reducible refine wpAny_loadPart_at hC ?_ | with_reducible refine wpAny_load' hC ?_ | wp_step))
  rw [if_pos (by rfl), hst]
  show wpAny _ _ (call (.ref C) ([] ++ x.pos) x.kw >>= fun r => do holding [r] point; pure r) _ _ _
  exact wpAny_bind (wpAny_mono hcall (fun r s' hr => wpAny_bind (wpAny_holding (wpAny_point (wpAny_pure hr)))) fun _ _ x => x)
theorem AOk.make {env : Env} {A : Around} {κ : Kw} {own : Own} {st : St} {s : Shared} {C : Addr} {rest : List Value} {kw : List (Str × Value)} (a : AOk B env A own s.heap (d + 1) hd) :
    AOk B env (A.under (.builtin "type.__call__" ⟨.ref C :: rest, kw⟩)) own s.heap d hd := by
  obtain ⟨l, h1, h2⟩ := a.frames
  refine ⟨⟨l, h1, h2⟩, a.kind, ?_, ?_, a.handled⟩
  · show A.depth + 1 + d ≤ _
    have := a.depth; omega
  · show A.units + 1 + 20 * d ≤ _
    have := a.units; omega
theorem make_ok (hG : GOk B κ₀ G) (hO : OOk B κ₀ d hd O) {env : Env} {A : Around} {κ : Kw} {own : Own} {st : St} {s : Shared} {Q : VQ} {X : Xp} {C i : Addr} {c : Cls} {vs : List AV} {ks : List (Nat × AV)} {vals : List Value} {kvs : List (Str × Value)}
    (ha : AOk B env A own s.heap (d + 1) hd) (p : Pre B κ₀ sc env κ own st s) (hc : G.cls.lookup C = some c) (hx : c.exc = none) (hi : c.attrs.lookup nInit = some (some (.glob i))) (hf : i ∈ G.fns)
    (h : O i (.ref st.σ.length :: vs) ks (st.σ ++ [.inst C []]) (fun v σ => v = .none ∧ Q (.ref st.σ.length) ⟨σ, st.loc⟩) (fun _ _ => False)) (rv : VRels κ vs vals) (rk : KRel κ ks kvs) :
    Sat B env A (call (.ref C) vals kvs) VR Q X κ own s := by
  obtain ⟨nm, q, N, bs, sn, sub, col, dd, k0, k1, k2, k3, k5, mN, hC, hN, hat, g1, g2, g3⟩ := (hG.cls C c hc).plain hx
  obtain ⟨of, fd, hfo, hfc, hfd⟩ := hG.fns i hf
  have hin := hat nInit _ hi
  have hin : mN "__init__" = some (.ref i) := by
    have e : dec nInit = "__init__" := dec_enc (by decide)
    rw [e] at hin
    obtain ⟨v, e1, e2⟩ := hin
    cases e2
    exact e1
  have hC' := p.rep.rep.stays _ _ hC
  have hN' := p.ns hN
  have hfo' := p.rep.rep.stays _ _ hfo
  have p' := p
  obtain ⟨hh, g, dr, t, os⟩ := s
  refine call_init hC' hN' hin hfo' hfc fun h' x dx Mk => ?_
  have hxd : x ≠ dx := by
    obtain ⟨o, e1, e2, e3, e4⟩ := Mk.inst
    rcases e4 with ⟨e5, _⟩ | ⟨d', e5, e6, _⟩
    · have := Mk.dict o e1; rw [e5] at this; cases this
    · have := Mk.dict o e1; rw [e5] at this; obtain rfl := Option.some.inj this; exact e6.symm
  let own' : Own := ownAdd (ownAdd own x (.obj st.σ.length)) dx (.sub st.σ.length)
  have hown : own' x = some (.obj st.σ.length) := by show (if x = dx then _ else (if x = x then _ else _)) = _; rw [if_neg hxd, if_pos rfl]
  have hownd : own' dx = some (.sub st.σ.length) := if_pos rfl
  have step := p'.rep.newObj (s' := ⟨h', g, dr, t, os⟩) (o := .inst C []) (own' := own') Mk.keeps rfl rfl hown
    (fun b t hb => by
      have h1 : b ≠ dx := by rintro rfl; rw [p'.rep.dead Mk.newD] at hb; cases hb
      have h2 : b ≠ x := by rintro rfl; rw [p'.rep.dead Mk.newX] at hb; cases hb
      show (if b = dx then _ else (if b = x then _ else _)) = _
      rw [if_neg h1, if_neg h2]; exact hb)
    (fun b t hb => by
      have hb' : (if b = dx then some (Tag.sub st.σ.length) else (if b = x then some (Tag.obj st.σ.length) else own b)) = some t := hb
      split at hb'
      · rename_i e; subst e
        refine .inr ⟨Mk.newD, ?_⟩
        obtain ⟨o, e1, e2, e3, e4⟩ := Mk.inst
        rcases e4 with ⟨e5, _⟩ | ⟨d', e5, e6, e7, od, e8, _⟩
        · have := Mk.dict o e1; rw [e5] at this; cases this
        · have := Mk.dict o e1; rw [e5] at this; obtain rfl := Option.some.inj this; exact ⟨_, e8⟩
      · split at hb'
        · rename_i e; subst e
          obtain ⟨o, e1, _⟩ := Mk.inst
          exact .inr ⟨Mk.newX, _, e1⟩
        · exact .inl hb')
    (by
      obtain ⟨o, e1, e2, e3, e4⟩ := Mk.inst
      have e5 := Mk.dict o e1
      rcases e4 with ⟨e6, _⟩ | ⟨d', e6, e7, e8, e9⟩
      · rw [e6] at e5; cases e5
      · rw [e6] at e5; obtain rfl := Option.some.inj e5
        exact ⟨o, d', _, e1, e2, e3, e6, e7, hownd, e8, e9, MRel.empty _, by simp⟩)
  obtain ⟨y, hrho⟩ := step
  have L := y.grow.le
  have ha' := AOk.make (κ := κ) (st := st) (C := C) (rest := vals) (kw := kvs) (ha.step y.grow)
  have S := Sat.call (Q := fun v st' => v = .none ∧ Q (.ref st.σ.length) st') (X := fun _ _ => False) (hO i) h ha' y.rep (p.base.trans L) (.cons (.ref hrho) (rv.mono L)) (rk.mono L)
  refine wpAny_mono S (fun r s' ⟨av, st', κ', own₂, ⟨e1, q⟩, z, e2⟩ => ?_) fun e s' ⟨_, _, _, _, _, q, _⟩ => q.elim
  subst e1
  refine ⟨by cases e2; rfl, .ref st.σ.length, st', κ', own₂, q, y.trans z, .ref (z.grow.le.rho _ _ hrho)⟩
theorem eval_Call_plain {f : Expr} (h : ∀ o n p, f ≠ .Attribute o n p) (args : List Expr) (kws : List Keyword) (pos : Pos) (env : Env) : eval (.Call f args kws pos) env = (do
    callWith pos (← eval f env) [] (backTo pos (starEach args env)) (backToKw pos (keywordEach kws env))) := by
  cases f <;> first | rfl | exact absurd rfl (h _ _ _)
theorem eval_Call_attr (o : Expr) (n : Str) (ap : Pos) (args : List Expr) (kws : List Keyword) (pos : Pos) (env : Env) : eval (.Call (.Attribute o n ap) args kws pos) env = (do
    let ov ← attributeBase o n env (eval o env)
    standAt ap.atName
    methodCall o n ap pos env ov (args.length + kws.length) (backTo pos (starEach args env)) (backToKw pos (keywordEach kws env))) := rfl
theorem nil_of {kws : List Keyword} {ks : Ks} (h : ks.len = kws.length) (hn : ks.isNil = true) : kws = [] := by
  cases ks with
  | nil => exact List.length_eq_zero_iff.mp h.symm
  | cons => cases hn
theorem callWith_type_plain {M : Model} {A : Around} {E : Value → Shared → Prop} {s : Shared} {pos : Pos} {T : String} {ts : List (Sem Value)} {Q : Value → Shared → Prop}
    (h : wpAny M A (evalArgs (.type T) true (ts.map fun t => (false, t)) []) (fun a s₁ => wpAny M A (call (.type T) a.pos a.kw) Q E s₁) E s) :
    wpAny M A (callWith pos (.type T) [] (ts.map fun t => (false, t)) []) Q E s := by
  unfold callWith
  refine wpAny_bind (wpAny_holding (wpAny_mono h (fun a s₁ h₁ => wpAny_bind (wpAny_standAt ?_)) fun _ _ x => x))
  simp only [plain_any, List.any_nil, Bool.or_false]
  refine wpAny_bind (wpAny_pure ?_)
  exact wpAny_bind (wpAny_mono h₁ (fun r s₂ hr => wpAny_bind (wpAny_holding (wpAny_point (wpAny_pure hr)))) fun _ _ x => x)
theorem ok_call (hG : GOk B κ₀ G) (hU : UOk B G d hd U) (hO : OOk B κ₀ d hd O) {f : Expr} {f' : E} {args : List Expr} {as : Es} {kws : List Keyword} {ks : Ks} {pos : Pos} (hn : ∀ o n p, f ≠ .Attribute o n p)
    (hf : EvOk B κ₀ G U O d hd sc f f') (he : EsOk B κ₀ G U O d hd sc args as) (hk : KsOk B κ₀ G U O d hd sc kws ks) : EvOk B κ₀ G U O d hd sc (.Call f args kws pos) (.call f' as ks) := by
  intro env A κ own st s Q X ha p h
  rw [eval_Call_plain hn, starEach_plain he.1, backTo_plain]
  refine wpAny_bind (Sat.go (.refl p.rep) (hf env A κ own st s _ X ha p h) fun κ₁ own₁ s₁ a va st₁ q x ra => ?_)
  have ha₁ := ha.step x.grow
  have p₁ := p.step x
  cases ra with
  | glob a =>
    simp only at q
    cases hc : G.fns.contains a with
    | true =>
      obtain ⟨o, fd, ho, hoc, hdat⟩ := hG.fns a (by simpa using hc)
      refine callWith_function_kw (o := o) (fd := fd) (args_go he hk x ha₁ p₁ q fun κ₂ own₂ s₂ vs kvs vals kvals st₂ q y rv rk _ => ⟨⟨y.rep.rep.stays _ _ ho, hdat⟩, ?_⟩)
      unfold callW at q
      rw [hc] at q
      exact Sat.fin (x.trans y) (Sat.call (hO a) q ((ha₁.step y.grow).le (Nat.le_succ _)) y.rep (p₁.base.trans y.grow.le) rv rk)
    | false =>
      cases hcl : G.cls.lookup a with
      | none =>
        refine wpAny_mono (Q := fun _ _ => False) (E := SatX B env X κ own s) ?_ (fun _ _ z => z.elim) fun _ _ z => z
        unfold callWith
        refine wpAny_bind (wpAny_holding (args_go he hk x ha₁ p₁ q fun κ₂ own₂ s₂ vs kvs vals kvals st₂ q y rv rk _ => ?_))
        unfold callW at q
        rw [hc, hcl] at q
        exact q.elim
      | some c =>
        have dead : ∀ {F : Value → Shared → Prop}, (∀ vs ks st, ¬ callW G O a vs ks st Q X) → wpAny (model B.prog B.w) A (callWith pos (.ref a) [] ((evalEach args env).map fun t => (false, t)) (backToKw pos (keywordEach kws env))) F (SatX B env X κ own s) s₁ := by
          intro F hno
          refine wpAny_mono (Q := fun _ _ => False) (E := SatX B env X κ own s) ?_ (fun _ _ z => z.elim) fun _ _ z => z
          unfold callWith
          exact wpAny_bind (wpAny_holding (args_go he hk x ha₁ p₁ q fun κ₂ own₂ s₂ vs kvs vals kvals st₂ q y rv rk _ => (hno _ _ _ q).elim))
        cases hx : c.exc with
        | some _ => exact dead fun vs ks st q => by unfold callW at q; simp only [hc, hcl, hx] at q
        | none =>
          have key : ∀ i, c.attrs.lookup nInit = some (some (.glob i)) → wpAny (model B.prog B.w) A (callWith pos (.ref a) [] ((evalEach args env).map fun t => (false, t)) (backToKw pos (keywordEach kws env))) (SatQ B env VR Q κ own s) (SatX B env X κ own s) s₁ := by
            intro i hi
            obtain ⟨nm, q', N, bs, sn, sub, col, dd, k0, k1, k2, k3, k5, mN, hC, hN, hat, g1, g2, g3⟩ := (hG.cls a c hcl).plain hx
            refine callWith_class (kw_all hk.1) (args_go he hk x ha₁ p₁ q fun κ₂ own₂ s₂ vs kvs vals kvals st₂ q y rv rk _ => ⟨y.rep.rep.stays _ _ hC, ?_⟩)
            unfold callW at q
            simp only [hc, hcl, hx, hi] at q
            exact Sat.fin (x.trans y) (make_ok hG hO (ha₁.step y.grow) (p₁.step y) hcl hx hi (by simpa using q.1) q.2 rv rk)
          cases hi : c.attrs.lookup nInit with
          | none => exact dead fun vs ks st q => by unfold callW at q; simp only [hc, hcl, hx, hi] at q
          | some o =>
            cases o with
            | none => exact dead fun vs ks st q => by unfold callW at q; simp only [hc, hcl, hx, hi] at q
            | some v =>
              cases v with
              | glob i => exact key i hi
              | _ => exact dead fun vs ks st q => by unfold callW at q; simp only [hc, hcl, hx, hi] at q
  | builtin b =>
    simp only at q
    obtain ⟨hn, q⟩ := q
    obtain rfl := nil_of hk.2.1 hn
    refine Calls.callWith_builtin plain_any ?_
    cases ks with
    | cons => cases hn
    | nil =>
      refine args_go (kws := []) (ks := .nil) (pos := pos) (Q := fun vs _ st => U.fn b vs st Q X) he hk x ha₁ p₁ q fun κ₂ own₂ s₂ vs kvs vals kvals st₂ q y rv rk hnil => ?_
      rw [hnil rfl]
      exact Sat.fin (x.trans y) (hU.fn q y.rep ((ha₁.step y.grow).le (Nat.le_succ _)) rv)
  | type t =>
    simp only at q
    obtain ⟨hn, q⟩ := q
    obtain rfl := nil_of hk.2.1 hn
    refine callWith_type_plain ?_
    cases ks with
    | cons => cases hn
    | nil =>
      refine args_go (kws := []) (ks := .nil) (pos := pos) (Q := fun vs _ st => U.ty t vs st Q X) he hk x ha₁ p₁ q fun κ₂ own₂ s₂ vs kvs vals kvals st₂ q y rv rk hnil => ?_
      rw [hnil rfl]
      exact Sat.fin (x.trans y) (hU.ty q y.rep ((ha₁.step y.grow).le (Nat.le_succ _)) rv)
  | _ => exact q.elim
theorem few_form {n : Nat} {ts : List (Sem Value)} {kws : List (Option Str × Sem Value)} (hn : n < 29) (hk : kws.all (·.1.isSome) = true) : methodCallForm n (ts.map fun t => (false, t)) kws = true := by
  unfold methodCallForm
  rw [hk, Bool.and_true, Bool.and_eq_true]
  refine ⟨?_, ?_⟩
  · rw [List.all_map]; simp
  · simp only [decide_eq_true_eq]
    split <;> omega
theorem ok_callm (hG : GOk B κ₀ G) (hU : UOk B G d hd U) (hO : OOk B κ₀ d hd O) {o : Expr} {n : Str} {i : Nat} {ap : Pos} {o' : E} {args : List Expr} {as : Es} {kws : List Keyword} {ks : Ks} {pos : Pos} (hn : isCallName o = false) (hi : dec i = n)
    (hl : (apos : Nat) → ap.endLine = pos.line) (hlen : args.length + kws.length < 29)
    (ho : EvOk B κ₀ G U O d hd sc o o') (he : EsOk B κ₀ G U O d hd sc args as) (hk : KsOk B κ₀ G U O d hd sc kws ks) : EvOk B κ₀ G U O d hd sc (.Call (.Attribute o n ap) args kws pos) (.callm o' i as ks) := by
  intro env A κ own st s Q X ha p h
  subst hi
  rw [eval_Call_attr, starEach_plain he.1, backTo_plain, attributeBase_plain hn]
  refine wpAny_bind (Sat.go (.refl p.rep) (ho env A κ own st s _ X ha p h) fun κ₁ own₁ s₁ ov va st₁ q x ra => ?_)
  have ha₁ := ha.step x.grow
  have p₁ := p.step x
  refine wpAny_bind (wpAny_standAt ?_)
  unfold methodCall
  have hform := few_form (ts := evalEach args env) hlen (kw_all (pos := pos) (env := env) hk.1)
  rw [hform]
  have hpos : methodCallPos true o env ap pos = pure pos := by
    unfold methodCallPos
    rw [show (ap.endLine == pos.line) = true from by simpa using hl 0]
    rfl
  cases hm : methodOf G st₁.σ ov i with
  | none => simp only [hm] at q
  | some c =>
    cases c with
    | user f =>
      simp only [hm] at q
      refine wpAny_bind (wpAny_holding (sound_method hG p₁ ra hm fun hf => ?_))
      rw [hpos]
      refine wpAny_bind (wpAny_pure ?_)
      obtain ⟨of, fd, hfo, hfc, hdat⟩ := hG.fns f hf
      refine callWith_function_kw (o := of) (fd := fd) (args_go he hk x ha₁ p₁ q fun κ₂ own₂ s₂ vs kvs vals kvals st₂ q y rv rk _ => ⟨⟨y.rep.rep.stays _ _ hfo, hdat⟩, ?_⟩)
      exact Sat.fin (x.trans y) (Sat.call (hO f) q ((ha₁.step y.grow).le (Nat.le_succ _)) y.rep (p₁.base.trans y.grow.le) (.cons (ra.mono y.grow.le) rv) rk)
    | blt b =>
      simp only [hm] at q
      obtain ⟨hn, q⟩ := q
      obtain rfl := nil_of hk.2.1 hn
      cases ks with
      | cons => cases hn
      | nil =>
        refine wpAny_bind (wpAny_holding (hU.getm hm p₁.rep ra fun f first s₂ hb hdead hkeep hg hos => ?_))
        rw [hpos]
        refine wpAny_bind (wpAny_pure ?_)
        have junk := p₁.rep.keeps (s' := s₂) hkeep hg hos
        have x₂ := x.trans junk
        have go : ∀ {F : Args → Shared → Prop}, (∀ κ₂ own₂ s₃ vs vals st₂, U.meth b ov vs st₂ Q X → StepX B env κ₁ own₁ s₂ κ₂ own₂ st₂ s₃ → VRels κ₂ vs vals → F ⟨vals, []⟩ s₃) →
            wpAny (model B.prog B.w) A (evalArgs f true ((evalEach args env).map fun t => (false, t)) (backToKw pos (keywordEach [] env))) F (SatX B env X κ own s) s₂ := fun cont =>
          args_go (kws := []) (ks := .nil) (pos := pos) (Q := fun vs _ st => U.meth b ov vs st Q X) he hk x₂ (ha₁.step junk.grow) (p₁.step junk) q fun κ₂ own₂ s₃ vs kvs vals kvals st₂ q y rv rk hnil => by
            rw [hnil rfl]; exact cont κ₂ own₂ s₃ vs vals st₂ q y rv
        have fin : ∀ κ₂ own₂ s₃ vs vals st₂, U.meth b ov vs st₂ Q X → StepX B env κ₁ own₁ s₂ κ₂ own₂ st₂ s₃ → VRels κ₂ vs vals → Bcal b va f first s₃.heap → wpAny (model B.prog B.w) A (call f (first ++ vals) []) (SatQ B env VR Q κ own s) (SatX B env X κ own s) s₃ :=
          fun κ₂ own₂ s₃ vs vals st₂ q y rv hb => Sat.fin (x₂.trans y) (hU.meth q y.rep (((ha₁.step junk.grow).step y.grow).le (Nat.le_succ _)) (ra.mono y.grow.le) hb rv)
        rcases hb with ⟨hne, rfl, rfl⟩ | ⟨rfl, u, rfl, rfl, hu⟩
        · exact Calls.callWith_builtin plain_any (go fun κ₂ own₂ s₃ vs vals st₂ q y rv => fin κ₂ own₂ s₃ vs vals st₂ q y rv (.inl ⟨hne, rfl, rfl⟩))
        · refine KFB.callWith_fields plain_any (go fun κ₂ own₂ s₃ vs vals st₂ q y rv => ?_)
          have hu₃ : s₃.heap.get? u = some KFB.bound := by
            exact y.grow.keep.rest _ _ (p₁.rep.dead (hdead u rfl)) (by show Value.type "builtin_function_or_method" ≠ _; decide) hu
          exact ⟨hu₃, fin κ₂ own₂ s₃ vs vals st₂ q y rv (.inr ⟨rfl, u, rfl, rfl, hu₃⟩)⟩
end
end Sm
end
section
set_option maxRecDepth 100000
set_option linter.unusedVariables false
namespace Sm
open PySem PySem.Calls PySem.W
def ItAt (κ : Kw) (h : Heap) (I : Addr) (v : AV) (k : Nat) : Prop := match v with
  | .tup xs => ∃ t vs, κ.imm t = some (.tup vs) ∧ VRels κ xs vs ∧ PyProof.Rows.IsTupIter h I t k
  | .bytes b => ∃ t, KBw.IsBytesIter h I b t k
  | .rng lo hi st => IsRangeIter h I (lo + k * st) (Builtin.Range.rangeSize lo hi st - k) st
  | .ref i => ∃ l, κ.rho i = some l ∧ h.IsListIter I l k
  | _ => False
theorem ItAt.obj {κ h I v k} (x : ItAt κ h I v k) : ∃ o n, h.get? I = some o ∧ o.cls = .type n ∧ n ∈ ["tuple_iterator", "bytes_iterator", "range_iterator", "list_iterator"] ∧ ∃ vs, o.data = .fields vs := by
  cases v with
  | tup xs => obtain ⟨t, vs, _, _, o, h1, h2, h3⟩ := x; exact ⟨o, _, h1, h2, by simp, _, h3⟩
  | bytes b => obtain ⟨t, o, h1, h2, h3⟩ := x; exact ⟨o, _, h1, h2, by simp, _, h3⟩
  | rng lo hi st => exact ⟨_, _, x, rfl, by simp, _, rfl⟩
  | ref i => obtain ⟨l, _, o, h1, h2, h3⟩ := x; exact ⟨o, _, h1, h2, by simp, _, h3⟩
  | _ => exact x.elim
theorem ItAt.step {κ κ' h h' I v k} (x : ItAt κ h I v k) (L : κ.le κ') (hk : ∀ o, h.get? I = some o → h'.get? I = some o) : ItAt κ' h' I v k := by
  cases v with
  | tup xs => obtain ⟨t, vs, a, b, o, h1, h2⟩ := x; exact ⟨t, vs, L.imm _ _ a, b.mono L, o, hk _ h1, h2⟩
  | bytes b => obtain ⟨t, o, h1, h2⟩ := x; exact ⟨t, o, hk _ h1, h2⟩
  | rng lo hi st => exact hk _ x
  | ref i => obtain ⟨l, a, o, h1, h2⟩ := x; exact ⟨l, L.rho _ _ a, o, hk _ h1, h2⟩
  | _ => exact x.elim
section
variable {B : Base} {env : Env} {A : Around} {κ κ₁ : Kw} {own own₁ : Own} {st st₁ : St} {s s₁ : Shared} {X : Xp}
theorem StepX.touch {I : Addr} {s₂ : Shared} (x : StepX B env κ own s κ₁ own₁ st₁ s₁) (hI : s.heap.get? I = none) (hB : B.h.get? I = none) (hIo : own₁ I = none) {oI : Obj} {n : String} (ho : s₁.heap.get? I = some oI) (hc : oI.cls = .type n)
    (hn : n ∉ ["tuple", "range"]) (hd : ∀ v, oI.data ≠ .cell v) (hk : ∀ b o, b ≠ I → s₁.heap.get? b = some o → s₂.heap.get? b = some o) (hg : s₂.gens = s₁.gens) (hos : s₂.os = s₁.os) : StepX B env κ own s κ₁ own₁ st₁ s₂ := by
  have ne : ∀ b t, own₁ b = some t → b ≠ I := fun b t h e => by subst e; rw [hIo] at h; cases h
  have nB : ∀ b o, B.h.get? b = some o → b ≠ I := fun b o h e => by subst e; rw [hB] at h; cases h
  have nS : ∀ b o, s.heap.get? b = some o → b ≠ I := fun b o h e => by subst e; rw [hI] at h; cases h
  have nC : ∀ b o m, s₁.heap.get? b = some o → o.cls = .type m → m ∈ ["tuple", "range"] → b ≠ I := fun b o m h e hm q => by
    subst q; rw [ho] at h; obtain rfl := Option.some.inj h; rw [hc] at e; cases e; exact hn hm
  have nD : ∀ b v, IsCell s₁.heap b v → b ≠ I := fun b v ⟨o, h, e⟩ q => by subst q; rw [ho] at h; obtain rfl := Option.some.inj h; exact hd v e
  obtain ⟨⟨r, l⟩, g⟩ := x
  refine ⟨⟨⟨fun b o h => hk _ _ (nB b o h) (r.stays b o h), r.apart, fun b t h => let ⟨o, e⟩ := r.live b t h; ⟨o, hk _ _ (ne b t h) e⟩, r.dom,
    fun i o h => let ⟨a, h1, h2⟩ := r.objs i o h; ⟨a, h1, h2.step (.refl _) (fun _ _ h => h) (r.dom i a h1) fun b ob hb e => hk b ob (by rcases hb with hb | hb <;> exact ne _ _ hb) e⟩, r.bound,
    fun a v h => ⟨(r.imm a v h).1, (r.imm a v h).2.step fun ob e => hk a ob ?_ e⟩, hg.trans r.gens, hos.trans r.os⟩,
    ?_⟩, ⟨g.le, ⟨fun b o h1 h2 h3 => hk b o (nS b o h3) (g.keep.rest b o h1 h2 h3), fun b o h1 h2 h3 => let ⟨sl, e⟩ := g.keep.frames b o h1 h2 h3; ⟨sl, hk b _ (nS b o h3) e⟩⟩, g.newOwn, g.newImm, g.own⟩⟩
  · have := (r.imm a v h).2
    cases v with
    | tup vs => obtain ⟨o, n', e1, e2, _⟩ := this; exact nC a o _ e1 e2 (by decide)
    | lst vs => obtain ⟨⟨o', e1, _⟩, _⟩ := this; exact nB a _ e1
    | rng i j k => obtain ⟨t, u, w, e1⟩ := this; exact nC a _ _ e1 rfl (by decide)
  · obtain ⟨m, hm, hr⟩ := l.vars
    refine ⟨l.owned, l.fresh, let ⟨o, h1, h2⟩ := l.isFrame; ⟨o, hk _ _ (ne _ _ l.owned) h1, h2⟩, ⟨m, let ⟨o, es, ep, e, r⟩ := hm; ⟨o, es, ep, hk _ _ (ne _ _ l.owned) e, r⟩, hr⟩, fun i hi => ?_, l.apart, fun i hi => ?_⟩
    · obtain ⟨c, v, h1, h2, h3, h4, h7⟩ := l.cells i hi
      exact ⟨c, v, h1, h2, h3, let ⟨o, e, r⟩ := h4; ⟨o, hk _ _ (nD c v h4) e, r⟩, h7⟩
    · obtain ⟨c, v, h1, h2, h4, h7⟩ := l.frees i hi
      exact ⟨c, v, h1, h2, let ⟨o, e, r⟩ := h4; ⟨o, hk _ _ (nD c v h4) e, r⟩, h7⟩
theorem rng_step (lo st : Int) (k : Nat) : lo + (k : Int) * st + st = lo + ((k + 1 : Nat) : Int) * st := by
  have : ((k + 1 : Nat) : Int) * st = (k : Int) * st + st := by rw [Int.natCast_add, Int.add_mul]; simp
  omega
theorem iter_start {v : AV} {va : Value} {F : Value → Shared → Prop} {E : Value → Shared → Prop} (p : RepX B κ own env st s) (hv : VRel κ v va) (h : iterOk st.σ v)
    (hF : ∀ I s', s.heap.get? I = none → ItAt κ s'.heap I v 0 → (∀ b o, s.heap.get? b = some o → s'.heap.get? b = some o) → s'.gens = s.gens → s'.os = s.os → F (.ref I) s') :
    wpAny (model B.prog B.w) A (pyIter va) F E s := by
  have pushed : ∀ {o : Obj} (b : Addr) (ob : Obj), s.heap.get? b = some ob → (s.heap.push o).get? b = some ob := fun b ob e => Heap.get?_push_of_some _ e
  cases hv with
  | tup hi hx =>
    obtain ⟨o, n, h1, h2, h3, h4⟩ := (p.rep.imm _ _ hi).2
    exact PyProof.Rows.iter_tuple ⟨o, h1, h2, n, h4⟩ (hF _ _ (size_dead _) ⟨_, _, hi, hx, _, Heap.get?_push_size _ rfl, rfl, rfl⟩ pushed rfl rfl)
  | bytes b t => exact KBw.pyIter_bytes (hF _ _ (size_dead _) ⟨t, _, Heap.get?_push_size _ rfl, rfl, rfl⟩ pushed rfl rfl)
  | rng hi =>
    obtain ⟨t, u, w, e⟩ := (p.rep.imm _ _ hi).2
    refine wpAny_pyIter_range e h (hF _ _ (size_dead _) ?_ pushed rfl rfl)
    show Heap.get? _ _ = _
    rw [Heap.get?_push_size _ rfl]
    simp
  | ref hi =>
    obtain ⟨xs, hx⟩ := h
    obtain ⟨a, e1, hr⟩ := p.rep.objs _ _ hx
    rw [hi] at e1
    obtain rfl := Option.some.inj e1
    obtain ⟨vs, hl, _⟩ := list_isList hr
    exact wpAny_pyIter_list hl (hF _ _ (size_dead _) ⟨_, hi, _, Heap.get?_push_size _ rfl, rfl, rfl⟩ pushed rfl rfl)
  | _ => exact h.elim
theorem iter_next {I : Addr} {v : AV} {k : Nat} {F : Option Value → Shared → Prop} {E : Value → Shared → Prop} (hh : A.handled = none) (p : RepX B κ own env st s) (hit : ItAt κ s.heap I v k)
    (hsome : ∀ av x s', turnOf st.σ v k = .item av → VRel κ av x → ItAt κ s'.heap I v (k + 1) → (∀ b o, b ≠ I → s.heap.get? b = some o → s'.heap.get? b = some o) → s'.gens = s.gens → s'.os = s.os → F (some x) s')
    (hnone : ∀ s', turnOf st.σ v k = .done → (∀ b o, b ≠ I → s.heap.get? b = some o → s'.heap.get? b = some o) → s'.gens = s.gens → s'.os = s.os → F none s') (hok : turnOf st.σ v k ≠ .bad) :
    wpAny (model B.prog B.w) A (pyNext (.ref I)) F E s := by
  have same : ∀ {h h' : Heap}, Heap.SameBut I h h' → ∀ b o, b ≠ I → h.get? b = some o → h'.get? b = some o := fun hs b o hb e => (hs.2 b hb).trans e
  cases v with
  | tup xs =>
    obtain ⟨t, vs, hi, hx, hI⟩ := hit
    obtain ⟨o, n, h1, h2, h3, h4⟩ := (p.rep.imm _ _ hi).2
    have hT : PyProof.Rows.IsTup s.heap t vs.toArray := ⟨o, h1, h2, n, h4⟩
    cases e : xs[k]? with
    | some av =>
      obtain ⟨x, hv, hr⟩ := hx.get e
      refine PyProof.Rows.next_tuple_item hI hT (x := x) (by simpa using hv) fun h' hI' hs => ?_
      exact hsome av x _ (by simp only [turnOf, e]) hr ⟨t, vs, hi, hx, hI'⟩ (same hs) rfl rfl
    | none =>
      have : vs[k]? = none := by rw [List.getElem?_eq_none_iff] at e ⊢; rw [← hx.length]; exact e
      exact PyProof.Rows.next_tuple_end hh hI hT (by simpa using this) fun h' he => hnone _ (by simp only [turnOf, e]) (fun b o hb q => he b o hb q) rfl rfl
  | bytes b =>
    obtain ⟨t, hI⟩ := hit
    cases e : b[k]? with
    | some c => exact KBw.next_item hI e fun h' hI' hs => hsome (.int c.toNat) _ _ (by simp only [turnOf, e]) (.int _ _) ⟨t, hI'⟩ (same hs) rfl rfl
    | none => exact KBw.next_end hh hI e fun h' he => hnone _ (by simp only [turnOf, e]) (fun b o hb q => he b o hb q) rfl rfl
  | rng lo hi st' =>
    by_cases e : (k : Int) < Builtin.Range.rangeSize lo hi st'
    · refine wpAny_pyNext_range_item hit (by omega) fun h' hI' hs => ?_
      refine hsome (.int (lo + k * st')) _ _ (by simp only [turnOf, decide_eq_true e]) (.int _ _) ?_ (same hs) rfl rfl
      show IsRangeIter _ _ _ _ _
      rw [rng_step] at hI'
      rw [show Builtin.Range.rangeSize lo hi st' - ((k + 1 : Nat) : Int) = Builtin.Range.rangeSize lo hi st' - k - 1 by omega]
      exact hI'
    · exact wpAny_pyNext_range_end hh hit (by omega) fun h' he => hnone _ (by simp only [turnOf, decide_eq_false e]) (fun b o hb q => he b o hb q) rfl rfl
  | ref i =>
    obtain ⟨l, hi, hI⟩ := hit
    cases ho : st.σ[i]? with
    | none => exact absurd (by simp only [turnOf, ho]) hok
    | some o =>
      cases o with
      | list xs =>
        obtain ⟨a, e1, hr⟩ := p.rep.objs _ _ ho
        rw [hi] at e1
        obtain rfl := Option.some.inj e1
        obtain ⟨vs, hl, hx⟩ := list_isList hr
        cases e : xs[k]? with
        | some av =>
          obtain ⟨x, hv, hr⟩ := hx.get e
          exact wpAny_pyNext_list_item hI hl (x := x) (by simpa using hv) fun h' hI' hs => hsome av x _ (by simp only [turnOf, ho, e]) hr ⟨l, hi, hI'⟩ (same hs) rfl rfl
        | none =>
          have : vs.toList[k]? = none := by rw [List.getElem?_eq_none_iff] at e ⊢; rw [← hx.length]; exact e
          exact wpAny_pyNext_list_end hh hI hl (by simpa using this) fun h' he => hnone _ (by simp only [turnOf, ho, e]) (fun b o hb q => he b o hb q) rfl rfl
      | _ => exact absurd (by simp only [turnOf, ho]) hok
  | _ => exact hit.elim
theorem iter_let {I : Addr} {v : AV} {k : Nat} {target : Expr} {x : Value} {F : Unit → Shared → Prop} {E : Value → Shared → Prop} (hit : ItAt κ s.heap I v k) (h : F () s) :
    wpAny (model B.prog B.w) A (letOwnedTupleGo target (.ref I) x) F E s := by
  obtain ⟨o, n, h1, h2, h3, vs, h4⟩ := hit.obj
  have go : wpAny (model B.prog B.w) A (do
      let (.ref r, .ref a) := (Value.ref I, x) | return
      let o ← load r
      match o.cls, o.data with
      | .type n, .fields vs =>
        if ["enumerate", "zip", "dict_itemiterator", "dict_reverseitemiterator", "odict_iterator", "itertools.zip_longest", "itertools.pairwise"].contains n && vs[0]? == some (rawInt a) then
          rule "for.unpacks-the-owned-tuple"
          updateField r 0 .none
      | _, _ => pure ()) F E s := by
    cases x <;> first | exact wpAny_pure h | skip
    refine wpAny_bind (wpAny_load h1 ?_)
    rw [h2, h4]
    have : (["enumerate", "zip", "dict_itemiterator", "dict_reverseitemiterator", "odict_iterator", "itertools.zip_longest", "itertools.pairwise"] : List String).contains n = false := by
      simp only [List.mem_cons, List.not_mem_nil, or_false] at h3
      rcases h3 with rfl | rfl | rfl | rfl <;> decide
    simp only [this, Bool.false_and]
    exact wpAny_pure h
  unfold letOwnedTupleGo
  split
  · exact go
  · exact go
  · exact wpAny_pure h
end
end Sm
end
section
set_option maxRecDepth 100000
set_option linter.unusedVariables false
namespace Sm
open PySem PySem.Calls PySem.W
theorem wp_nsSetE (M : Model) (Γ : Ctx) (E : Value → Pos → Shared → Prop) (p : Pos) (s : Shared) {a : Addr} {m} (hn : s.heap.Ns a m) (name : Str) (v : Value) (Q : Unit → Pos → Shared → Prop)
    (hQ : ∀ h', h'.Ns a (fun x => if x = name then some v else m x) → Heap.SameBut a s.heap h' → (∀ od, s.heap.get? a = some od → ∃ od', h'.get? a = some od' ∧ od'.cls = od.cls) →
      Q () p { s with heap := h', toks := s.toks + 1 }) : Sem.wp M Γ (nsSet a name v) Q E p s := by
  obtain ⟨o, es, ep, ho, hd, hk, hm⟩ := hn
  simp only [nsSet, strHash, Sem.wp_bind', Sem.wp_cmd_ask, Sem.wp_pure', Sem.wp_cmd_mkText]
  rw [Sem.wp_loadPart_of M Γ E p { s with toks := s.toks + 1 } (o := o) _ ho]
  have hany : es.any (·.refKey) = false := by
    rw [Array.any_eq_false']; intro e he; obtain ⟨n, t, h⟩ := hk e he; simp [DictEntry.refKey, h]
  simp only [hd, aRefKeyMayBeTheName_eq, aRefKeyMayBeTheNameByArray, hany, Bool.and_false, Bool.false_eq_true, if_false, Sem.wp_cmd_updatePart]
  refine ⟨by rw [ho]; rfl, hQ _ ?_ (Heap.SameBut.update ..) ?_⟩
  · obtain ⟨c, d, dt, sl⟩ := o
    subst hd
    cases hi : es.findIdx? (·.key.isStr name) with
    | some i =>
      refine ⟨_, _, ep, Heap.get?_update_self _ ho (by simp only [Obj.putName_eq, Obj.putNameByArray, hi]; rfl), by simp only [Obj.putName_eq, Obj.putNameByArray, hi]; rfl, hk.modify _ _, fun x => ?_⟩
      show _ = if x = name then some v else m x
      rw [← hm]; exact findBy_modify (fun n v => v.isStr n) Value.isStr_inj es name x v i hi
    | none =>
      refine ⟨_, _, ep + 1, Heap.get?_update_self _ ho (by simp only [Obj.putName_eq, Obj.putNameByArray, hi]; rfl), by simp only [Obj.putName_eq, Obj.putNameByArray, hi]; rfl, hk.push _ _ _ _, fun x => ?_⟩
      show _ = if x = name then some v else m x
      rw [← hm]
      exact findBy_push (fun n v => v.isStr n) es name x _ _ v (fun y => by
        show (name == y) = decide (y = name)
        by_cases h : y = name
        · subst h; simp
        · have : ¬ name = y := fun e => h e.symm
          simp [h, this]) hi
  · intro od hod
    obtain rfl : o = od := Option.some.inj (ho.symm.trans hod)
    obtain ⟨c, d, dt, sl⟩ := o
    subst hd
    cases hi : es.findIdx? (·.key.isStr name) with
    | some i => exact ⟨_, Heap.get?_update_self _ ho (by simp only [Obj.putName_eq, Obj.putNameByArray, hi]; rfl), by simp only [Obj.putName_eq, Obj.putNameByArray, hi]⟩
    | none => exact ⟨_, Heap.get?_update_self _ ho (by simp only [Obj.putName_eq, Obj.putNameByArray, hi]; rfl), by simp only [Obj.putName_eq, Obj.putNameByArray, hi]⟩
section
variable {B : Base} {env : Env} {A : Around} {κ κ₁ : Kw} {own own₁ : Own} {st st₁ : St} {s s₁ : Shared} {X : Xp}
theorem LocRep.congr {loc loc' : List (Nat × AV)} {h : Heap} (x : LocRep B κ own env loc h) (e : ∀ i, loc'.lookup i = loc.lookup i) : LocRep B κ own env loc' h :=
  ⟨x.owned, x.fresh, x.isFrame, let ⟨m, a, b⟩ := x.vars; ⟨m, a, fun i hi => by rw [e]; exact b i hi⟩, fun i hi => by rw [e]; exact x.cells i hi, x.apart, fun i hi => by rw [e]; exact x.frees i hi⟩
theorem Rep.frm {σ : List AObj} {s' : Shared} (x : Rep B κ own σ s) (hk : ∀ b o, own b ≠ some .frm → s.heap.get? b = some o → s'.heap.get? b = some o) (hl : ∀ b, own b = some .frm → ∃ o, s'.heap.get? b = some o) (hg : s'.gens = s.gens) (ho : s'.os = s.os) :
    Rep B κ own σ s' ∧ Grow κ own s κ own s' := by
  refine ⟨⟨fun b o h => hk b o ?_ (x.stays b o h), x.apart, fun b t h => ?_, x.dom, fun i o h => ?_, x.bound, fun a v h => ⟨(x.imm a v h).1, (x.imm a v h).2.step fun ob => hk a ob (by rw [(x.imm a v h).1]; simp)⟩, hg.trans x.gens, ho.trans x.os⟩,
    ⟨.refl _, ⟨fun b o h _ => hk b o (by rw [h]; simp), fun b o h _ e => ⟨o.slots, hk b o (by rw [h]; simp) e⟩⟩, fun a t h => .inl (by rw [h]; simp), fun a v h => .inl h, fun _ _ h => h⟩⟩
  · intro q; rw [x.apart b _ q] at h; cases h
  · by_cases c : own b = some .frm
    · exact hl b c
    · obtain ⟨o, e⟩ := x.live b t h; exact ⟨o, hk b o c e⟩
  · obtain ⟨a, h1, h2⟩ := x.objs i o h
    exact ⟨a, h1, h2.step (.refl _) (fun _ _ h => h) (x.dom i a h1) fun b ob hb => hk b ob (by rcases hb with hb | hb <;> rw [hb] <;> simp)⟩
theorem sound_store {i : Nat} {av : AV} {v : Value} {F : Unit → Shared → Prop} {E : Value → Shared → Prop} (p : RepX B κ own env st s) (hsk : env.scope.kind = .function)
    (hk : env.kindOf (dec i) = some .local ∨ (env.kindOf (dec i) = some .cell ∧ env.frame = some env.locals)) (hv : VRel κ av v)
    (hF : ∀ s', (∀ loc', (∀ j, loc'.lookup j = if j = i then some av else st.loc.lookup j) → StepX B env κ own s κ own { st with loc := loc' } s') → F () s') :
    wpAny (model B.prog B.w) A (storeName env (dec i) v) F E s := by
  have hp : (env.scope.kind == .class || (env.scope.kind == .module && env.locals != env.globals)) = false := by rw [hsk]; rfl
  rcases hk with hk | ⟨hk, hfr⟩
  · obtain ⟨m, hm, hr⟩ := p.loc.vars
    rw [storeName_local hk hp]
    intro Γ q hΓ
    refine wp_nsSetE _ _ _ _ _ hm (dec i) v _ fun h' hn' hs hc => hF _ fun loc' hloc => ?_
    obtain ⟨of, hof, hofc⟩ := p.loc.isFrame
    obtain ⟨of', hof', hofc'⟩ := hc of hof
    have keep : ∀ b o, b ≠ env.locals → s.heap.get? b = some o → h'.get? b = some o := fun b o hb e => (hs.2 b hb).trans e
    obtain ⟨r, g⟩ := p.rep.frm (s' := { s with heap := h', toks := s.toks + 1 }) (fun b o hb => keep b o (by rintro rfl; exact hb p.loc.owned)) (fun b hb => by
      by_cases e : b = env.locals
      · subst e; exact ⟨_, hof'⟩
      · obtain ⟨o, e'⟩ := p.rep.live b _ hb; exact ⟨o, keep b o e e'⟩) rfl rfl
    refine ⟨⟨r, ⟨p.loc.owned, p.loc.fresh, ⟨of', hof', fun e => by rw [hofc', hofc e]⟩, ⟨_, hn', fun j hj => ?_⟩, fun j hj => ?_, p.loc.apart, fun j hj => ?_⟩⟩, g⟩
    · rw [hloc]
      by_cases e : j = i
      · subst e; simp only [if_true]; exact ⟨v, rfl, hv⟩
      · simp only [e, if_false, show dec j ≠ dec i from fun q => e (dec_inj q)]; exact hr j hj
    · obtain ⟨c, w, h1, h2, h3, h4, h5⟩ := p.loc.cells j hj
      have e : j ≠ i := by rintro rfl; rw [hk] at hj; cases hj
      refine ⟨c, w, h1, h2, h3, let ⟨o, e1, e2⟩ := h4; ⟨o, keep c o h2 e1, e2⟩, ?_⟩
      rw [hloc, if_neg e]; exact h5
    · obtain ⟨c, w, h1, h2, h3, h4⟩ := p.loc.frees j hj
      have e : j ≠ i := by rintro rfl; rw [hk] at hj; cases hj
      refine ⟨c, w, h1, h2, let ⟨o, e1, e2⟩ := h3; ⟨o, keep c o (by rintro rfl; rw [p.loc.owned] at h2; cases h2) e1, e2⟩, ?_⟩
      rw [hloc, if_neg e]; exact h4
  · obtain ⟨c, w, h1, h2, h3, h4, h5⟩ := p.loc.cells i hk
    have h3 : own c = some .frm := by
      rcases h3 with h3 | ⟨h3, _⟩
      · exact h3
      · exact absurd hfr h3
    refine wpAny_storeName_cell hsk hk h1 h4 fun h' hc hs => hF _ fun loc' hloc => ?_
    have keep : ∀ b o, b ≠ c → s.heap.get? b = some o → h'.get? b = some o := fun b o hb e => (hs.2 b hb).trans e
    obtain ⟨r, g⟩ := p.rep.frm (s' := { s with heap := h' }) (fun b o hb => keep b o (by rintro rfl; exact hb h3)) (fun b hb => by
      by_cases e : b = c
      · subst e; obtain ⟨o, e1, _⟩ := hc; exact ⟨_, e1⟩
      · obtain ⟨o, e'⟩ := p.rep.live b _ hb; exact ⟨o, keep b o e e'⟩) rfl rfl
    obtain ⟨of, hof, hofc⟩ := p.loc.isFrame
    obtain ⟨m, ⟨om, es, ep, hm1, hm2⟩, hr⟩ := p.loc.vars
    refine ⟨⟨r, ⟨p.loc.owned, p.loc.fresh, ⟨of, keep _ _ h2.symm hof, hofc⟩, ⟨m, ⟨om, es, ep, keep _ _ h2.symm hm1, hm2⟩, fun j hj => ?_⟩, fun j hj => ?_, p.loc.apart, fun j hj => ?_⟩⟩, g⟩
    · have e : j ≠ i := by rintro rfl; rw [hk] at hj; cases hj
      rw [hloc, if_neg e]; exact hr j hj
    · by_cases e : j = i
      · subst e
        refine ⟨c, some v, h1, h2, .inl h3, hc, ?_⟩
        rw [hloc, if_pos rfl]; exact ⟨v, rfl, hv⟩
      · obtain ⟨c', w', k1, k2, k3, k4, k5⟩ := p.loc.cells j hj
        have hne : c' ≠ c := by rintro rfl; exact e (p.loc.apart j i c' hj hk k1 h1)
        refine ⟨c', w', k1, k2, k3, let ⟨o, e1, e2⟩ := k4; ⟨o, keep c' o hne e1, e2⟩, ?_⟩
        rw [hloc, if_neg e]; exact k5
    · obtain ⟨c', w', k1, k2, k3, k4⟩ := p.loc.frees j hj
      have e : j ≠ i := by rintro rfl; rw [hk] at hj; cases hj
      refine ⟨c', w', k1, k2, let ⟨o, e1, e2⟩ := k3; ⟨o, keep c' o (by rintro rfl; rw [h3] at k2; cases k2) e1, e2⟩, ?_⟩
      rw [hloc, if_neg e]; exact k4
end
end Sm
end
section
set_option maxRecDepth 100000
set_option linter.unusedVariables false
namespace Sm
open PySem PySem.Calls PySem.W
def closL (env : Env) : List (Str × NameKind) → List (Str × Addr) → List (Str × Addr)
  | [], acc => acc
  | (n, k) :: r, acc => if k == .free then (match env.cells.lookup n with
    | some c => closL env r ((n, c) :: acc)
    | none => closL env r acc) else closL env r acc
theorem closureFor_eq {env : Env} {names : List (Str × NameKind)} (h : ∀ x ∈ names, x.2 = .free → ∃ c, env.cells.lookup x.1 = some c) : ∀ acc,
    (forIn names acc (fun x (cs : List (Str × Addr)) => match x with
      | (name, kind) => if (kind == NameKind.free) = true then (do let c ← cellOf env name; pure (ForInStep.yield ((name, c) :: cs))) else pure (ForInStep.yield cs)) : Sem _) = pure (closL env names acc) := by
  induction names with
  | nil => intro acc; rfl
  | cons x r ih =>
    intro acc
    obtain ⟨n, k⟩ := x
    have ih' := ih fun y hy => h y (.tail _ hy)
    rw [List.forIn_cons]
    by_cases hk : k = .free
    · subst hk
      obtain ⟨c, hc⟩ := h (n, .free) (.head _) rfl
      simp only [beq_self_eq_true, if_true]
      have e : cellOf env n = pure c := by unfold cellOf; rw [hc]
      rw [e]
      show (forIn r ((n, c) :: acc) _ : Sem _) = _
      rw [ih']
      have e2 : closL env ((n, .free) :: r) acc = closL env r ((n, c) :: acc) := by
        conv => lhs; unfold closL
        rw [if_pos (by rfl)]
        rw [show env.cells.lookup n = some c from hc]
      rw [e2]
    · have hb : (k == NameKind.free) = false := by simpa using hk
      simp only [hb, Bool.false_eq_true, if_false]
      show (forIn r acc _ : Sem _) = _
      rw [ih']
      show _ = pure (closL env ((n, k) :: r) acc)
      conv => rhs; unfold closL
      rw [if_neg (by simpa using hk)]
theorem closL_lookup {env : Env} {n : Str} {c : Addr} (hc : env.cells.lookup n = some c) : ∀ {names : List (Str × NameKind)} {acc : List (Str × Addr)}, (acc.lookup n = some c ∨ (n, NameKind.free) ∈ names) → (∀ c', acc.lookup n = some c' → c' = c) →
    (closL env names acc).lookup n = some c
  | [], acc, h, _ => by
    rcases h with h | h
    · exact h
    · cases h
  | (m, k) :: r, acc, h, hu => by
    unfold closL
    by_cases hk : k = .free
    · subst hk
      rw [if_pos (by rfl)]
      by_cases e : n = m
      · subst e
        rw [hc]
        have hl : ((n, c) :: acc).lookup n = some c := by simp [List.lookup_cons]
        exact closL_lookup hc (.inl hl) fun c' h' => by rw [hl] at h'; exact (Option.some.inj h').symm
      · have hne : (n == m) = false := beq_eq_false_iff_ne.mpr e
        have tail : (acc.lookup n = some c ∨ (n, NameKind.free) ∈ r) := h.imp id fun q => by
          rcases List.mem_cons.mp q with q | q
          · exact absurd (Prod.mk.inj q).1 e
          · exact q
        cases hm : env.cells.lookup m with
        | none => exact closL_lookup hc tail hu
        | some c' =>
          have hl : ((m, c') :: acc).lookup n = acc.lookup n := by simp [List.lookup_cons, hne]
          refine closL_lookup hc ?_ fun c'' h'' => by rw [hl] at h''; exact hu c'' h''
          rw [hl]; exact tail
    · rw [if_neg (by simpa using hk)]
      exact closL_lookup hc (h.imp id fun q => by
        rcases List.mem_cons.mp q with q | q
        · exact absurd (Prod.mk.inj q).2.symm hk
        · exact q) hu
theorem relab_lookup {sc : Scope} : ∀ {names : List (Str × NameKind)} {n : Str} {k : NameKind}, names.lookup n = some k →
    (names.map fun (n, k) => if (k == NameKind.free && sc.kind == .function && sc.names.lookup n == some .cell) then (n, NameKind.cell) else (n, k)).lookup n =
      some (if (k == NameKind.free && sc.kind == .function && sc.names.lookup n == some .cell) then NameKind.cell else k)
  | (m, j) :: r, n, k, h => by
    rw [List.lookup_cons] at h
    rw [List.map_cons]
    cases e : n == m with
    | true =>
      rw [e] at h
      obtain rfl := Option.some.inj h
      have := eq_of_beq e; subst this
      dsimp only
      split <;> simp [List.lookup_cons]
    | false =>
      rw [e] at h
      dsimp only
      have ih := relab_lookup (sc := sc) (names := r) h
      split <;> simp only [List.lookup_cons, e] <;> exact ih
theorem relab_back {sc : Scope} : ∀ {names : List (Str × NameKind)} {n : Str} {k : NameKind},
    (names.map fun (n, k) => if (k == NameKind.free && sc.kind == .function && sc.names.lookup n == some .cell) then (n, NameKind.cell) else (n, k)).lookup n = some k → ∃ j, names.lookup n = some j
  | [], n, k, h => by cases h
  | (m, j) :: r, n, k, h => by
    rw [List.map_cons] at h
    rw [List.lookup_cons]
    cases e : n == m with
    | true => exact ⟨j, rfl⟩
    | false =>
      dsimp only at h
      refine relab_back (sc := sc) (k := k) ?_
      split at h <;> (rw [List.lookup_cons, e] at h; exact h)
theorem no_set {it : Expr} (h : isSetDisplay it = false) {env : Env} (x : Value) : foldedSetIterable it env x = pure x := by
  unfold foldedSetIterable
  split
  · cases h
  · rfl
theorem iter_self {B : Base} {A : Around} {κ : Kw} {s : Shared} {I : Addr} {v : AV} {k : Nat} {F : Value → Shared → Prop} {E : Value → Shared → Prop} (x : ItAt κ s.heap I v k) (h : F (.ref I) s) : wpAny (model B.prog B.w) A (pyIter (.ref I)) F E s := by
  cases v with
  | tup xs => obtain ⟨t, vs, _, _, o, h1, h2, h3⟩ := x; exact wpAny_pyIter_tupleiter ⟨o, h1, h2, h3⟩ h
  | bytes b => obtain ⟨t, hI⟩ := x; exact KBw.pyIter_self hI h
  | rng lo hi st => exact wpAny_pyIter_rangeiter x h
  | ref i => obtain ⟨l, _, hI⟩ := x; exact wpAny_pyIter_listiter hI h
  | _ => exact x.elim
section
variable {B : Base} {κ : Kw} {own : Own} {σ : List AObj} {s s' : Shared}
theorem Rep.newFrm {C : Addr} (x : Rep B κ own σ s) (hk : ∀ b o, s.heap.get? b = some o → s'.heap.get? b = some o) (hg : s'.gens = s.gens) (ho : s'.os = s.os) (hC : s.heap.get? C = none) (hl : ∃ o, s'.heap.get? C = some o) :
    Rep B κ (ownAdd own C .frm) σ s' ∧ Grow κ own s κ (ownAdd own C .frm) s' := by
  have dead : own C = none := by
    cases q : own C with
    | none => rfl
    | some t => obtain ⟨o, e⟩ := x.live C t q; rw [hC] at e; cases e
  have ko : ∀ b t, own b = some t → ownAdd own C .frm b = some t := fun b t h => by
    show (if b = C then _ else _) = _
    rw [if_neg]
    · exact h
    · rintro rfl; rw [dead] at h; cases h
  have kn : ∀ b t, ownAdd own C .frm b = some t → own b = some t ∨ b = C := fun b t h => by
    have h' : (if b = C then some Tag.frm else own b) = some t := h
    split at h'
    · exact .inr (by assumption)
    · exact .inl h'
  refine ⟨⟨fun b o h => hk b o (x.stays b o h), fun b t h => ?_, fun b t h => ?_, fun i a h => ko _ _ (x.dom i a h), fun i o h => ?_, x.bound, fun a v h => ⟨?_, (x.imm a v h).2.step fun ob => hk a ob⟩, hg.trans x.gens, ho.trans x.os⟩,
    ⟨.refl _, ⟨fun b o _ _ => hk b o, fun b o _ _ h => ⟨o.slots, hk b o h⟩⟩, fun a t h => ?_, fun a v h => .inl h, ko⟩⟩
  · rcases kn b t h with z | rfl
    · exact x.apart b t z
    · cases q : B.h.get? b with
      | none => rfl
      | some o => rw [x.stays b o q] at hC; cases hC
  · rcases kn b t h with z | rfl
    · obtain ⟨o, e⟩ := x.live b t z; exact ⟨o, hk b o e⟩
    · exact hl
  · obtain ⟨a, h1, h2⟩ := x.objs i o h
    exact ⟨a, h1, h2.step (.refl _) ko (x.dom i a h1) fun b ob _ => hk b ob⟩
  · cases q : ownAdd own C .frm a with
    | none => rfl
    | some t =>
      rcases kn a t q with z | rfl
      · rw [(x.imm a v h).1] at z; cases z
      · obtain ⟨o, e, _⟩ := (x.imm a v h).2.live; rw [hC] at e; cases e
  · rcases kn a t h with z | rfl
    · exact .inl (by rw [z]; simp)
    · exact .inr hC
def dropA (own : Own) (C : Addr) : Own := fun b => if b = C then none else own b
theorem Rep.drop {κ₁ : Kw} {own₁ : Own} {s₁ s₂ : Shared} {C : Addr} (x : Rep B κ own σ s) (g : Grow κ₁ own₁ s₁ κ own s) (hC : own C = some .frm) (hd : s₁.heap.get? C = none) (hB : B.h.get? C = none) (ho₁ : own₁ C = none)
    (hk : ∀ b o, b ≠ C → s.heap.get? b = some o → s₂.heap.get? b = some o) (hg : s₂.gens = s.gens) (ho : s₂.os = s.os) : Rep B κ (dropA own C) σ s₂ ∧ Grow κ₁ own₁ s₁ κ (dropA own C) s₂ := by
  have kn : ∀ b t, dropA own C b = some t → own b = some t ∧ b ≠ C := fun b t h => by
    have h' : (if b = C then none else own b) = some t := h
    split at h'
    · cases h'
    · exact ⟨h', by assumption⟩
  have ko : ∀ b t, own b = some t → b ≠ C → dropA own C b = some t := fun b t h e => by show (if b = C then _ else _) = _; rw [if_neg e]; exact h
  have ne : ∀ b i, own b = some (.obj i) ∨ own b = some (.sub i) → b ≠ C := fun b i h => by rintro rfl; rcases h with h | h <;> rw [hC] at h <;> cases h
  refine ⟨⟨fun b o h => hk b o (by rintro rfl; rw [hB] at h; cases h) (x.stays b o h), fun b t h => x.apart b t (kn b t h).1, fun b t h => ?_, fun i a h => ko _ _ (x.dom i a h) (ne a i (.inl (x.dom i a h))), fun i o h => ?_, x.bound, fun a v h => ⟨?_, (x.imm a v h).2.step fun ob => hk a ob ?_⟩, hg.trans x.gens, ho.trans x.os⟩,
    ⟨g.le, ⟨fun b o h1 h2 h3 => hk b o (by rintro rfl; rw [hd] at h3; cases h3) (g.keep.rest b o h1 h2 h3), fun b o h1 h2 h3 => let ⟨sl, e⟩ := g.keep.frames b o h1 h2 h3; ⟨sl, hk b _ (by rintro rfl; rw [hd] at h3; cases h3) e⟩⟩,
      fun a t h => g.newOwn a t (kn a t h).1, g.newImm, fun a t h => ko a t (g.own a t h) (by rintro rfl; rw [ho₁] at h; cases h)⟩⟩
  · obtain ⟨h1, h2⟩ := kn b t h
    obtain ⟨o, e⟩ := x.live b t h1; exact ⟨o, hk b o h2 e⟩
  · obtain ⟨a, h1, h2⟩ := x.objs i o h
    have hown := x.dom i a h1
    -- the object stands, its own things too
    have h3 : ORep B κ own s₂.heap i a o := h2.step (.refl _) (fun _ _ h => h) hown fun b ob hb => hk b ob (ne b i hb)
    refine ⟨a, h1, ?_⟩
    exact h3.own fun b hb => ko b _ hb (ne b i (.inr hb))
  · cases q : dropA own C a with
    | none => rfl
    | some t => have := (kn a t q).1; rw [(x.imm a v h).1] at this; cases this
  · rintro rfl; have := (x.imm a v h).1; rw [hC] at this; cases this
theorem StepX.adopt {env : Env} {κ₁ : Kw} {own₁ : Own} {st₁ : St} {s₁ : Shared} {D : Addr} {xs : List AV} {vs : List Value} (x : StepX B env κ own s κ₁ own₁ st₁ s₁) (hD : s.heap.get? D = none) (hB : B.h.get? D = none) (hDo : own₁ D = none)
    (hl : s₁.heap.PlainList D vs.toArray) (hv : VRels κ₁ xs vs) :
    StepX B env κ own s (κ₁.addObj st₁.σ.length D) (ownAdd own₁ D (.obj st₁.σ.length)) { st₁ with σ := st₁.σ ++ [.list xs] } s₁ ∧ (κ₁.addObj st₁.σ.length D).rho st₁.σ.length = some D := by
  have L := x.rep.addLe D
  have ko : ∀ b t, own₁ b = some t → ownAdd own₁ D (.obj st₁.σ.length) b = some t := fun b t h => by
    show (if b = D then _ else _) = _
    rw [if_neg]
    · exact h
    · rintro rfl; rw [hDo] at h; cases h
  have kn : ∀ b t, ownAdd own₁ D (.obj st₁.σ.length) b = some t → own₁ b = some t ∨ (b = D ∧ t = .obj st₁.σ.length) := fun b t h => by
    have h' : (if b = D then some (Tag.obj st₁.σ.length) else own₁ b) = some t := h
    split at h'
    · exact .inr ⟨by assumption, (Option.some.inj h').symm⟩
    · exact .inl h'
  have nD : ∀ b, b ≠ D → own₁ b = none → ownAdd own₁ D (.obj st₁.σ.length) b = none := fun b e h => by show (if b = D then _ else _) = _; rw [if_neg e]; exact h
  obtain ⟨n, hDl⟩ := hl
  obtain ⟨⟨r, l⟩, g⟩ := x
  refine ⟨⟨⟨⟨r.stays, fun b t h => ?_, fun b t h => ?_, fun i b h => ?_, fun i o' h => ?_, fun i b h => ?_, fun b v h => ⟨?_, (r.imm b v h).2⟩, r.gens, r.os⟩,
    ⟨ko _ _ l.owned, l.fresh, l.isFrame, let ⟨m, a, b⟩ := l.vars; ⟨m, a, fun i hi => (b i hi).mono L⟩, fun i hi => ?_, l.apart, fun i hi => ?_⟩⟩, ⟨g.le.trans L, g.keep, fun b t h => ?_, g.newImm, fun b t h => ko b t (g.own b t h)⟩⟩, if_pos rfl⟩
  · rcases kn b t h with z | ⟨rfl, _⟩
    · exact r.apart b t z
    · exact hB
  · rcases kn b t h with z | ⟨rfl, _⟩
    · exact r.live b t z
    · exact ⟨_, hDl⟩
  · have h' : (if i = st₁.σ.length then some D else κ₁.rho i) = some b := h
    split at h'
    · rename_i e; subst e; obtain rfl := Option.some.inj h'; exact if_pos rfl
    · exact ko _ _ (r.dom i b h')
  · by_cases e : i < st₁.σ.length
    · rw [List.getElem?_append_left e] at h
      obtain ⟨b, h1, h2⟩ := r.objs i o' h
      exact ⟨b, L.rho _ _ h1, h2.step L ko (r.dom i b h1) fun b ob _ e => e⟩
    · have : i = st₁.σ.length := by
        have := (List.getElem?_eq_some_iff.mp h).1
        simp only [List.length_append, List.length_cons, List.length_nil] at this
        omega
      subst this
      rw [List.getElem?_append_right (Nat.le_refl _), Nat.sub_self] at h
      obtain rfl := Option.some.inj h
      exact ⟨D, if_pos rfl, vs, ⟨n, hDl⟩, hv.mono L⟩
  · have h' : (if i = st₁.σ.length then some D else κ₁.rho i) = some b := h
    simp only [List.length_append, List.length_cons, List.length_nil]
    split at h'
    · omega
    · have := r.bound i b h'; omega
  · have h1 := (r.imm b v h).1
    refine nD b ?_ h1
    rintro rfl
    have := (r.imm b v h).2
    cases v with
    | tup vs' => obtain ⟨o, n', e1, e2, _⟩ := this; rw [hDl] at e1; obtain rfl := Option.some.inj e1; exact absurd (show Value.type "list" = Value.type "tuple" from e2) (by decide)
    | lst vs' => obtain ⟨⟨o', e1, _⟩, _⟩ := this; rw [hB] at e1; cases e1
    | rng i j k => obtain ⟨t, u, w, e1⟩ := this; have e1' : s₁.heap.get? b = some _ := e1; rw [hDl] at e1'; have := congrArg Obj.cls (Option.some.inj e1'); exact absurd (show Value.type "list" = Value.type "range" from this) (by decide)
  · obtain ⟨c, v, h1, h2, h3, h4, h5⟩ := l.cells i hi
    refine ⟨c, v, h1, h2, h3.imp (ko _ _) fun ⟨a, b⟩ => ⟨a, nD c ?_ b⟩, h4, h5.mono L⟩
    rintro rfl; obtain ⟨o, e1, e2⟩ := h4; rw [hDl] at e1; obtain rfl := Option.some.inj e1; cases e2
  · obtain ⟨c, v, h1, h2, h4, h5⟩ := l.frees i hi
    refine ⟨c, v, h1, nD c ?_ h2, h4, h5.mono L⟩
    rintro rfl; obtain ⟨o, e1, e2⟩ := h4; rw [hDl] at e1; obtain rfl := Option.some.inj e1; cases e2
  · rcases kn b t h with z | ⟨rfl, _⟩
    · exact g.newOwn b t z
    · exact .inr hD
end
section
variable {B : Base} {κ₀ : Kw} {G : Genv} {U : Blts} {O : Addr → Sp} {d : Nat} {hd : Bool} {sc : Scope}
def compCtx (sc' : Scope) (cl : List (Str × Addr)) (L : Addr) (env : Env) : Env := { newEnv sc' L env.globals cl env.qual none .none (some env) builtinsNs with scope := relab sc' env.scope }
theorem ok_lcomp {elt it : Expr} {elt' it' : E} {x : Str} {i : Nat} {px pos : Pos} {sc' : Scope} (hx : nameId x = some i) (hlc : lcOk sc sc' x it = true)
    (he : EvOk B κ₀ G U O d hd (relab sc' sc) elt elt') (hit : EvOk B κ₀ G U O d hd sc it it') : EvOk B κ₀ G U O d hd sc (.ListComp elt [⟨.Name x px, it, [], 0⟩] sc' pos) (.lcomp elt' i it') := by
  intro env A κ own st s Q X ha p h
  obtain rfl := nameId_dec hx
  unfold lcOk at hlc
  simp only [Bool.and_eq_true, Bool.not_eq_true', beq_iff_eq, List.all_eq_true] at hlc
  obtain ⟨⟨⟨hkind, hset⟩, hxl⟩, hall⟩ := hlc
  have cellOfName : ∀ n, (n, NameKind.free) ∈ sc'.names → ∃ j c v, dec j = n ∧ env.cells.lookup n = some c ∧ IsCell s.heap c v ∧ (env.kindOf n = some .cell ∨ env.kindOf n = some .free) ∧ sc'.names.lookup n = some .free := fun n hn => by
    have := hall _ hn
    simp only [Bool.and_eq_true, Bool.or_eq_true, beq_iff_eq] at this
    obtain ⟨⟨h1, h2⟩, h3⟩ := this
    have hk : env.kindOf n = sc.names.lookup n := by unfold Env.kindOf; rw [p.scope]
    have hd := dec_enc h2
    rcases h1 with h1 | h1
    · rw [h1] at hk
      rw [← hd] at hk
      obtain ⟨c, v, e1, e2, e3, e4, e5⟩ := p.rep.loc.cells _ hk
      exact ⟨_, c, v, hd, hd ▸ e1, e4, .inl (hd ▸ hk), h3⟩
    · rw [h1] at hk
      rw [← hd] at hk
      obtain ⟨c, v, e1, e2, e4, e5⟩ := p.rep.loc.frees _ hk
      exact ⟨_, c, v, hd, hd ▸ e1, e4, .inr (hd ▸ hk), h3⟩
  have hclos : closureFor sc' env = pure (closL env sc'.names []) := by
    have := closureFor_eq (env := env) (names := sc'.names) (fun y hy hf => by
      obtain ⟨n, k⟩ := y
      obtain rfl : k = .free := hf
      obtain ⟨j, c, v, _, e, _⟩ := cellOfName n hy
      exact ⟨c, e⟩) []
    unfold closureFor
    dsimp only
    rw [this]; rfl
  have hnc : ∀ y ∈ sc'.names, y.2 ≠ .cell := fun y hy e => by
    have := hall _ hy
    rw [e] at this; cases this
  rw [eval_ListComp]
  refine wpAny_comprehension_free (use := none) rfl (no_set hset) hclos hkind (fun y hy hl => ?_) ?_
  · have := hall _ hy
    rw [hl] at this
    rcases Bool.or_eq_true_iff.mp this with this | this
    · have e : y.1 = dec i := by simpa using this
      rw [e]; exact hxl
    · exact by simpa using (Bool.and_eq_true_iff.mp this).2
  show wpAny _ _ (eval it env) _ _ _
  refine Sat.go (.refl p.rep) (hit env A κ own st s _ X ha p h) fun κ₁ own₁ s₁ itv itva st₁ q x₁ ra => ?_
  obtain ⟨⟨hdf, hdot, hok⟩, N, I, hN, h0, hstep⟩ := q
  subst hdf
  have hh : A.handled = none := ha.handled rfl
  refine iter_start x₁.rep ra hok fun J s₂ hJ hJ0 hk2 hg2 ho2 => ?_
  refine wpAny_newObj_type (wpAny_newFunctionEnv hnc (by intro y hy; cases hy) (fun h₄ hns hsb => ?_) hkind)
  obtain ⟨hns, hsb⟩ := And.intro hns hsb
  generalize hH3 : s₂.heap.push { cls := .type "list", dict := none, data := .seq ([] : List Value).toArray } = H3 at hns hsb ⊢
  have hC3 : H3.objs.size = s₂.heap.objs.size + 1 := by rw [← hH3, Heap.size_push]
  generalize hD : s₂.heap.objs.size = D at hC3 ⊢
  generalize hC : H3.objs.size = C at hns hsb hC3 ⊢
  have dead2 : ∀ a, D ≤ a → s₂.heap.get? a = none := fun a h => Heap.get?_none_of_le (hD ▸ h)
  have dead1 : ∀ a, s₂.heap.get? a = none → s₁.heap.get? a = none := fun a h => by
    cases q : s₁.heap.get? a with
    | none => rfl
    | some o => rw [hk2 a o q] at h; cases h
  have deadB : ∀ a, s₁.heap.get? a = none → B.h.get? a = none := fun a h => by
    cases q : B.h.get? a with
    | none => rfl
    | some o => rw [x₁.rep.rep.stays a o q] at h; cases h
  have hCD : C ≠ D := by rw [hC3]; exact Nat.succ_ne_self _
  have d2C := dead2 C (by rw [hC3]; exact Nat.le_succ _)
  have d2D := dead2 D (Nat.le_refl _)
  have hJlive : ∃ o, s₂.heap.get? J = some o := let ⟨o, _, e, _⟩ := hJ0.obj; ⟨o, e⟩
  have hJD : J ≠ D := by rintro rfl; obtain ⟨o, e⟩ := hJlive; rw [d2D] at e; cases e
  have hJC : J ≠ C := by rintro rfl; obtain ⟨o, e⟩ := hJlive; rw [d2C] at e; cases e
  have old3 : ∀ b o, s₂.heap.get? b = some o → H3.get? b = some o := fun b o e => hH3 ▸ Heap.get?_push_of_some _ e
  have old34 : ∀ b o, b ≠ C → H3.get? b = some o → h₄.get? b = some o := fun b o hb e => (hsb.2 b hb).trans (Heap.get?_push_of_some _ e)
  have old : ∀ b o, s₁.heap.get? b = some o → h₄.get? b = some o := fun b o e => old34 b o (by rintro rfl; rw [dead1 _ d2C] at e; cases e) (old3 b o (hk2 b o e))
  have hJ4 : ItAt κ₁ h₄ J itv 0 := hJ0.step (.refl _) fun o e => old34 J o hJC (old3 J o e)
  have hD4 : h₄.PlainList D #[] := ⟨0, old34 D _ hCD.symm (by rw [← hH3, ← hD]; exact Heap.get?_push_size _ rfl)⟩
  let cenv : Env := { newEnv sc' C env.globals (closL env sc'.names []) env.qual none .none (some env) builtinsNs with scope := relabel sc' env }
  have hcenv : (relabel sc' env).names = (relab sc' sc).names := by rw [← p.scope]; rfl
  have p₁ := p.step x₁
  -- the names of the block
  have memOf : ∀ {l : List (Str × NameKind)} {n : Str} {k : NameKind}, l.lookup n = some k → (n, k) ∈ l := fun h => mem_of_lookup h
  have kinds : ∀ j k, cenv.kindOf (dec j) = some k → (k = .local ∧ (j = i ∨ j = nDot0)) ∨ (j ≠ i ∧ ((k = .cell ∧ env.kindOf (dec j) = some .cell) ∨ (k = .free ∧ env.kindOf (dec j) = some .free)) ∧ (dec j, NameKind.free) ∈ sc'.names) ∨ k = .globalImplicit := by
    intro j k hk
    have hk' : (relab sc' sc).names.lookup (dec j) = some k := by rw [← hcenv]; exact hk
    obtain ⟨k0, hk0⟩ := relab_back (sc := sc) hk'
    have e := relab_lookup (sc := sc) hk0
    have e : some k = _ := hk'.symm.trans e
    have hm := memOf hk0
    have hal := hall _ hm
    have hks : ∀ n, env.kindOf n = sc.names.lookup n := fun n => by unfold Env.kindOf; rw [p.scope]
    cases k0 with
    | «local» =>
      rcases Bool.or_eq_true_iff.mp hal with hal | hal
      · have : dec j = dec i := by simpa using hal
        exact .inl ⟨by simpa using e, .inl (dec_inj this)⟩
      · have : dec j = (".0" : Str) := by simpa using (Bool.and_eq_true_iff.mp hal).1
        exact .inl ⟨by simpa using e, .inr (dec_inj (this.trans dec_dot0.symm))⟩
    | free =>
      obtain ⟨_, c, v, _, _, _, hkk, hfl⟩ := cellOfName (dec j) hm
      have hne : j ≠ i := by rintro rfl; rw [hxl] at hk0; cases hk0
      refine .inr (.inl ⟨hne, ?_, hm⟩)
      rcases hkk with hkk | hkk
      · left
        have : sc.names.lookup (dec j) = some .cell := (hks _).symm.trans hkk
        rw [this, p.kind] at e
        exact ⟨by simpa using e, hkk⟩
      · right
        have : sc.names.lookup (dec j) = some .free := (hks _).symm.trans hkk
        rw [this] at e
        exact ⟨by simpa using e, hkk⟩
    | globalImplicit => exact .inr (.inr (by simpa using e))
    | _ => cases hal
  have cellsAt : ∀ j, (dec j, NameKind.free) ∈ sc'.names → ∀ c, env.cells.lookup (dec j) = some c → cenv.cells.lookup (dec j) = some c := fun j hj c hc => closL_lookup hc (.inr hj) (fun c' h' => by cases h')
  obtain ⟨l, hl1, hl2, eF, heF, heFf⟩ := (ha.step x₁.grow).frames' x₁.rep
  have hfrC : cenv.frame ≠ some cenv.locals := by
    obtain ⟨_, L, o, es, ep, e1, _, _, e2, _⟩ := hl2 eF heF
    show env.frame ≠ some C
    rw [← heFf, e1]
    intro q
    obtain rfl := Option.some.inj q
    rw [dead1 _ d2C] at e2; cases e2
  have ownC : own₁ C = none := x₁.rep.dead (dead1 _ d2C)
  have nfC : noFrm own₁ C = none := noFrm_none ownC
  obtain ⟨rep4, grow4⟩ := x₁.rep.rep.noFrm.newFrm (s' := { s₂ with heap := h₄, toks := s₂.toks + ([] : List (Str × Value)).length }) (C := C) old hg2 ho2 (dead1 _ d2C) (let ⟨o, _, _, e, _⟩ := hns; ⟨o, e⟩)
  have own4 : ∀ b, b ≠ C → ownAdd (noFrm own₁) C .frm b = noFrm own₁ b := fun b hb => if_neg hb
  have loc4 : LocRep B κ₁ (ownAdd (noFrm own₁) C .frm) cenv (st₁.loc.filter fun y => y.1 != i) h₄ := by
    have flt : ∀ j, j ≠ i → (st₁.loc.filter fun y => y.1 != i).lookup j = st₁.loc.lookup j := fun j hj => by
      induction st₁.loc with
      | nil => rfl
      | cons y r ih =>
        obtain ⟨a, b⟩ := y
        by_cases e : a = i
        · subst e
          rw [List.filter_cons_of_neg (by simp), List.lookup_cons, ih]
          rw [show (j == a) = false from beq_eq_false_iff_ne.mpr hj]
        · rw [List.filter_cons_of_pos (by simpa using e), List.lookup_cons, List.lookup_cons, ih]
    have flt0 : (st₁.loc.filter fun y => y.1 != i).lookup i = none := by
      induction st₁.loc with
      | nil => rfl
      | cons y r ih =>
        obtain ⟨a, b⟩ := y
        by_cases e : a = i
        · subst e; rw [List.filter_cons_of_neg (by simp)]; exact ih
        · rw [List.filter_cons_of_pos (by simpa using e), List.lookup_cons, show (i == a) = false from beq_eq_false_iff_ne.mpr (Ne.symm e)]; exact ih
    refine ⟨if_pos rfl, deadB _ (dead1 _ d2C), let ⟨o, _, _, e, _⟩ := hns; ⟨o, e, fun q => absurd q hfrC⟩, ⟨_, hns, fun j hj => ?_⟩, fun j hj => ?_, fun j k c hj hk e1 e2 => ?_, fun j hj => ?_⟩
    · rcases kinds j _ hj with ⟨_, rfl | rfl⟩ | ⟨_, h, _⟩ | h
      · rw [flt0]; trivial
      · by_cases e : nDot0 = i
        · rw [e, flt0]; trivial
        · rw [flt _ e, hdot]; trivial
      · rcases h with ⟨h, _⟩ | ⟨h, _⟩ <;> cases h
      · cases h
    · rcases kinds j _ hj with ⟨h, _⟩ | ⟨hne, h, hm⟩ | h
      · cases h
      · rcases h with ⟨_, h⟩ | ⟨h, _⟩
        · obtain ⟨c, v, e1, e2, e3, e4, e5⟩ := x₁.rep.loc.cells j h
          have hcC : c ≠ C := by rintro rfl; obtain ⟨o, e, _⟩ := e4; rw [dead1 _ d2C] at e; cases e
          refine ⟨c, v, cellsAt j hm c e1, hcC, .inr ⟨hfrC, ?_⟩, e4.keeps old, by rw [flt j hne]; exact e5⟩
          rw [own4 c hcC]
          rcases e3 with e3 | ⟨_, e3⟩
          · exact noFrm_frm e3
          · exact noFrm_none e3
        · cases h
      · cases h
    · have get : ∀ j, cenv.kindOf (dec j) = some .cell → ∃ c, env.kindOf (dec j) = some .cell ∧ env.cells.lookup (dec j) = some c ∧ cenv.cells.lookup (dec j) = some c := fun j hj => by
        rcases kinds j _ hj with ⟨h, _⟩ | ⟨hne, h, hm⟩ | h
        · cases h
        · rcases h with ⟨_, h⟩ | ⟨h, _⟩
          · obtain ⟨c, v, e1, _⟩ := x₁.rep.loc.cells j h
            exact ⟨c, h, e1, cellsAt j hm c e1⟩
          · cases h
        · cases h
      obtain ⟨c1, a1, a2, a3⟩ := get j hj
      obtain ⟨c2, b1, b2, b3⟩ := get k hk
      rw [a3] at e1; rw [b3] at e2
      obtain rfl := Option.some.inj e1
      obtain rfl := Option.some.inj e2
      exact x₁.rep.loc.apart j k _ a1 b1 a2 b2
    · rcases kinds j _ hj with ⟨h, _⟩ | ⟨hne, h, hm⟩ | h
      · cases h
      · rcases h with ⟨h, _⟩ | ⟨_, h⟩
        · cases h
        · obtain ⟨c, v, e1, e2, e4, e5⟩ := x₁.rep.loc.frees j h
          have hcC : c ≠ C := by rintro rfl; obtain ⟨o, e, _⟩ := e4; rw [dead1 _ d2C] at e; cases e
          exact ⟨c, v, cellsAt j hm c e1, by rw [own4 c hcC]; exact noFrm_none e2, e4.keeps old, by rw [flt j hne]; exact e5⟩
      · cases h
  have step4 : StepX B cenv κ₁ (noFrm own₁) s₁ κ₁ (ownAdd (noFrm own₁) C .frm) ⟨st₁.σ, st₁.loc.filter fun y => y.1 != i⟩ { s₂ with heap := h₄, toks := s₂.toks + ([] : List (Str × Value)).length } := ⟨⟨rep4, loc4⟩, grow4⟩
  have flt : ∀ j, j ≠ i → (st₁.loc.filter fun y => y.1 != i).lookup j = st₁.loc.lookup j := fun j hj => by
    induction st₁.loc with
    | nil => rfl
    | cons y r ih =>
      obtain ⟨a, b⟩ := y
      by_cases e : a = i
      · subst e
        rw [List.filter_cons_of_neg (by simp), List.lookup_cons, ih]
        rw [show (j == a) = false from beq_eq_false_iff_ne.mpr hj]
      · rw [List.filter_cons_of_pos (by simpa using e), List.lookup_cons, List.lookup_cons, ih]
  have deadJ1 := hJ
  have ownJ : own₁ J = none := x₁.rep.dead hJ
  have ownD : own₁ D = none := x₁.rep.dead (dead1 _ d2D)
  have hBJ := deadB J hJ
  have hBD := deadB D (dead1 _ d2D)
  have hBC := deadB C (dead1 _ d2C)
  have xi : cenv.kindOf (dec i) = some .local := by
    show (relabel sc' env).names.lookup (dec i) = _
    rw [hcenv]
    exact relab_lookup (sc := sc) hxl
  have loop : ∀ s₅, s₅ = ({ s₂ with heap := h₄, toks := s₂.toks + ([] : List (Str × Value)).length } : Shared) → codeAny (model B.prog B.w) A (.compLoop (.ListComp elt [⟨.Name (dec i) px, it, [], 0⟩] sc' pos) 0 (.ref J) (.ref D) cenv)
      (compPost (model B.prog B.w) A (SatX B env X κ own s) none (SatQ B env VR Q κ own s) (.ref D) C) s₅ := by
    rintro s₅ rfl
    refine codeAny_compLoop_list (fun n s' => ∃ k acc σ κ' own' loc' vs, n = N + 1 - k ∧ I k acc σ ∧ StepX B cenv κ₁ (noFrm own₁) s₁ κ' own' ⟨σ, loc'⟩ s' ∧ (∀ j, j ≠ i → loc'.lookup j = st₁.loc.lookup j) ∧
      ItAt κ' s'.heap J itv k ∧ own' J = none ∧ s'.heap.PlainList D (vs : List Value).toArray ∧ VRels κ' acc vs ∧ own' D = none ∧ own' C = some .frm) ?_ (N + 1)
      ⟨0, [], st₁.σ, κ₁, _, _, [], rfl, h0, step4, flt, hJ4, by rw [own4 J hJC]; exact noFrm_none ownJ, hD4, .nil, by rw [own4 D hCD.symm]; exact noFrm_none ownD, if_pos rfl⟩
    rintro n s' ⟨k, acc, σ, κ', own', loc', vs, rfl, hI, x, hloc, hJk, hJo, hDl, hva, hDo, hCo⟩
    obtain ⟨hkN, hlen, hturn⟩ := hstep k acc σ hI
    obtain ⟨oJ, nJ, eJ, cJ, mJ, vJ, dJ⟩ := hJk.obj
    have nJ' : nJ ∉ (["tuple", "range"] : List String) := by
      simp only [List.mem_cons, List.not_mem_nil, or_false] at mJ
      rcases mJ with rfl | rfl | rfl | rfl <;> decide
    refine iter_next hh x.rep hJk (fun av xv s₆ hav hxv hJ6 hk6 hg6 ho6 => ?_) (fun s₆ hdone hk6 hg6 ho6 => ?_) (fun hb => by rw [hb] at hturn; exact hturn)
    · rw [hav] at hturn
      have y := x.touch (s₂ := s₆) hJ hBJ hJo eJ cJ nJ' (fun v e => by rw [dJ] at e; cases e) hk6 hg6 ho6
      refine wpAny_assign_Name (sound_store (av := av) y.rep hkind (.inl xi) hxv fun s₇ h7 => ?_)
      have z := h7 ((i, av) :: st₁.loc) fun j => by
        by_cases e : j = i
        · subst e; simp [List.lookup_cons]
        · rw [if_neg e, List.lookup_cons, show (j == i) = false from beq_eq_false_iff_ne.mpr e]; exact (hloc j e).symm
      have y7 := y.trans z
      have hJ7 : ItAt κ' s₇.heap J itv (k + 1) := hJ6.step (.refl _) fun o e => by
        obtain ⟨o', n', e', c', m', _⟩ := hJ6.obj
        refine z.grow.keep.rest J o hJo ?_ e
        rw [e'] at e; obtain rfl := Option.some.inj e
        rw [c']; intro q; simp only [List.mem_cons, List.not_mem_nil, or_false] at m'; cases q; simp at m'
      have hD7 : s₇.heap.PlainList D vs.toArray := hDl.at fun o e => z.grow.keep.rest D o hDo (by obtain ⟨n, e'⟩ := hDl; rw [e'] at e; obtain rfl := Option.some.inj e; show Value.type "list" ≠ _; decide) (hk6 D o hJD.symm e)
      have aok : AOk B cenv A own' s₇.heap (d + 1) false := ⟨⟨l, hl2.step y7.grow, .inr ⟨hfrC, hl1, eF, heF, heFf⟩⟩, by rw [show cenv.scope.kind = .function from hkind]; simp, ha.depth, ha.units, ha.handled⟩
      have pre : Pre B κ₀ (relab sc' sc) cenv κ' own' ⟨σ, (i, av) :: st₁.loc⟩ s₇ := ⟨by show relabel sc' env = _; rw [← p.scope]; rfl, hkind, p.globals, p.builtins, y7.rep, p₁.base.trans y7.grow.le⟩
      refine wpAny_mono (he cenv A κ' own' _ s₇ _ _ aok pre hturn) (fun wv s₈ ⟨w, st₈, κ₈, own₈, ⟨hl8, hI8⟩, u, rw8⟩ => ?_) fun e s₈ ⟨_, _, _, _, _, q, _⟩ => q.elim
      have y8 := y7.trans u
      obtain ⟨σ₈, loc₈⟩ := st₈
      simp only at hl8 hI8
      subst hl8
      have hJ8o : own₈ J = none := by
        obtain ⟨o, _, e, _⟩ := hJ7.obj
        exact u.grow.unowned e hJo
      have hD8o : own₈ D = none := by
        obtain ⟨n, e⟩ := hD7
        exact u.grow.unowned e hDo
      have hJ8 : ItAt κ₈ s₈.heap J itv (k + 1) := hJ7.step u.grow.le fun o e => by
        obtain ⟨o', n', e', c', m', _⟩ := hJ7.obj
        refine u.grow.keep.rest J o hJo ?_ e
        rw [e'] at e; obtain rfl := Option.some.inj e
        rw [c']; intro q; simp only [List.mem_cons, List.not_mem_nil, or_false] at m'; cases q; simp at m'
      have hD8 : s₈.heap.PlainList D vs.toArray := hD7.at fun o e => u.grow.keep.rest D o hDo (by obtain ⟨n, e'⟩ := hD7; rw [e'] at e; obtain rfl := Option.some.inj e; show Value.type "list" ≠ _; decide) e
      refine wpAny_list_append_plain hD8 (fun h₉ hl₉ hs₉ => ?_) (by
        have := hva.length
        rw [List.size_toArray, ← this, hlen, sizeLine_eq]; omega)
      obtain ⟨nD, eD⟩ := hD8
      have y9 := y8.touch (s₂ := { s₈ with heap := h₉ }) (dead1 _ d2D) hBD hD8o eD rfl (by decide) (fun v e => by cases e) (fun b o hb e => (hs₉.2 b hb).trans e) rfl rfl
      refine ⟨N + 1 - (k + 1), by omega, k + 1, acc ++ [w], σ₈, κ₈, own₈, _, vs ++ [wv], rfl, hI8, y9, fun j hj => by rw [List.lookup_cons, show (j == i) = false from beq_eq_false_iff_ne.mpr hj], ?_, hJ8o, ?_, (hva.mono u.grow.le).append (.cons rw8 .nil), hD8o, u.grow.own C _ hCo⟩
      · exact hJ8.step (.refl _) fun o e => (hs₉.2 J hJD).trans e
      · simpa using hl₉
    · rw [hdone] at hturn
      have y := x.touch (s₂ := s₆) hJ hBJ hJo eJ cJ nJ' (fun v e => by rw [dJ] at e; cases e) hk6 hg6 ho6
      have hD6 : s₆.heap.PlainList D vs.toArray := hDl.at fun o e => hk6 D o hJD.symm e
      obtain ⟨m, hm, _⟩ := y.rep.loc.vars
      refine ⟨m, hm, fun h' hs' => ?_⟩
      have keep' : ∀ b o, b ≠ C → s₆.heap.get? b = some o → h'.get? b = some o := fun b o hb e => (hs'.2 b hb).trans e
      obtain ⟨r, g⟩ := y.rep.rep.drop (s₂ := { s₆ with heap := h' }) y.grow hCo (dead1 _ d2C) hBC nfC keep' rfl rfl
      have back := StepX.back x₁.rep r g
      have hDo' : addFrm own₁ (dropA own' C) D = none := by
        show (if own₁ D = some .frm then _ else dropA own' C D) = none
        rw [if_neg (by rw [ownD]; simp)]
        show (if D = C then none else own' D) = none
        rw [if_neg hCD.symm]; exact hDo
      obtain ⟨ad, hrho⟩ := back.adopt (dead1 _ d2D) hBD hDo' (hD6.at fun o e => keep' D o hCD.symm e) hva
      exact SatQ.here (x₁.trans ad) hturn (.ref hrho)
  exact codeAny_compStart_list (loop _ rfl) (iter_self hJ4 (loop _ rfl))
end
end Sm
end
section
set_option maxRecDepth 100000
set_option linter.unusedVariables false
namespace Sm
open PySem PySem.Calls PySem.W
theorem cE_const {n : Nat} {sc : Scope} {e : Expr} {v : AV} (h : cE n sc e = some (.const v)) : ∃ k a b, e = .Constant k a b ∧ constA k = some v := by
  cases n with
  | zero => simp [cE] at h
  | succ n =>
    cases e with
    | Constant k a b =>
      unfold cE at h
      obtain ⟨w, hw, e⟩ := Option.map_eq_some_iff.mp h
      cases e
      exact ⟨k, a, b, rfl, hw⟩
    | _ =>
      exfalso
      unfold cE at h
      (repeat' split at h) <;> first
        | (simp_all; done)
        | (unfold nameE at h; (repeat' split at h) <;> simp_all)
theorem cEk_nil {n : Nat} {sc : Scope} {ks : List (Option Expr)} (h : cEk n sc ks = some .nil) : ks = [] := by
  cases n with
  | zero => simp [cEk] at h
  | succ n =>
    unfold cEk at h
    split at h
    · rfl
    · split at h
      · simp at h
      · cases h
    · cases h
theorem cEk_cons {n : Nat} {sc : Scope} {ks : List (Option Expr)} {a : E} {r : Es} (h : cEk n sc ks = some (.cons a r)) : ∃ e ks', ks = some e :: ks' ∧ cE (n - 1) sc e = some a ∧ cEk (n - 1) sc ks' = some r := by
  cases n with
  | zero => simp [cEk] at h
  | succ n =>
    unfold cEk at h
    split at h
    · simp at h
    · rename_i e ks'
      split at h
      · rename_i x y h1 h2
        simp only [Option.some.injEq, Es.cons.injEq] at h
        obtain ⟨rfl, rfl⟩ := h
        exact ⟨e, ks', rfl, h1, h2⟩
      · cases h
    · cases h
theorem cEs_nil {n : Nat} {sc : Scope} {ks : List Expr} (h : cEs n sc ks = some .nil) : ks = [] := by
  cases n with
  | zero => simp [cEs] at h
  | succ n =>
    unfold cEs at h
    split at h
    · rfl
    · split at h
      · cases h
      · split at h
        · simp at h
        · cases h
theorem cEs_cons {n : Nat} {sc : Scope} {ks : List Expr} {a : E} {r : Es} (h : cEs n sc ks = some (.cons a r)) : ∃ e ks', ks = e :: ks' ∧ cE (n - 1) sc e = some a ∧ cEs (n - 1) sc ks' = some r := by
  cases n with
  | zero => simp [cEs] at h
  | succ n =>
    unfold cEs at h
    split at h
    · simp at h
    · rename_i e ks'
      split at h
      · cases h
      · split at h
        · rename_i x y h1 h2
          simp only [Option.some.injEq, Es.cons.injEq] at h
          obtain ⟨rfl, rfl⟩ := h
          exact ⟨e, ks', rfl, h1, h2⟩
        · cases h
def pairsOf (env : Env) (pos : Pos) : List (Option Expr) → List Expr → List (Sem Value × Sem Value)
  | some k :: ks, v :: vs => (eval k env, do let x ← eval v env; standAt pos; pure x) :: pairsOf env pos ks vs
  | _, _ => []
section
variable {B : Base} {env : Env} {A : Around} {κ : Kw}
theorem const_run {k : Const} {av : AV} {n : Nat} {pos : Pos} {s : Shared} {Q : Value → Shared → Prop} {E : Value → Shared → Prop} (hk : constA k = some av) (h : ∀ v t, VRel κ av v → Q v { s with toks := t }) :
    wpAny (model B.prog B.w) A (eval (.Constant k n pos) env) Q E s := by
  rw [eval_Constant]
  have e0 : s = { s with toks := s.toks } := rfl
  cases k with
  | none => obtain rfl := Option.some.inj hk; exact wpAny_pure (h _ s.toks .none)
  | bool b => obtain rfl := Option.some.inj hk; exact wpAny_pure (h _ s.toks (.bool b))
  | int i => obtain rfl := Option.some.inj hk; exact wpAny_Constant_int (k := 0) (pos := default) (env := env) (h _ _ (.int _ _))
  | str x => obtain rfl := Option.some.inj hk; exact Constant_str (k := 0) (pos := default) (env := env) (h _ _ (.str _ _))
  | bytes b => obtain rfl := Option.some.inj hk; exact wpAny_bind (wpAny_fresh (wpAny_pure (h _ _ (.bytes _ _))))
  | _ => cases hk
theorem pairs_run {sc : Scope} {pos : Pos} {E : Value → Shared → Prop} : ∀ (ks vs : Es) (l : List (Str × AV)) (n m : Nat) (keys : List (Option Expr)) (values : List Expr) (s : Shared) (Q : List (Value × Value) → Shared → Prop),
    kvOf ks vs = some l → cEk n sc keys = some ks → cEs m sc values = some vs →
    (evalEachOpt keys env).zip ((evalEach values env).map fun v => do let x ← v; standAt pos; pure x) = (pairsOf env pos keys values).map (fun p => (some p.1, p.2)) ∧ (pairsOf env pos keys values).length = l.length ∧
    ((∀ prs kvs t, Carries (strKind B.prog B.w) prs kvs → DRel κ l kvs → Q prs { s with toks := t }) → wpAny (model B.prog B.w) A (evalPairs (pairsOf env pos keys values)) Q E s)
  | .nil, .nil, l, n, m, keys, values, s, Q, h, h1, h2 => by
    obtain rfl := Option.some.inj h
    obtain rfl := cEk_nil h1
    obtain rfl := cEs_nil h2
    exact ⟨rfl, rfl, fun hq => evalPairs_nil (hq [] [] s.toks trivial .nil)⟩
  | .cons a ks, .cons b vs, l, n, m, keys, values, s, Q, h, h1, h2 => by
    obtain ⟨ek, keys', rfl, hk1, hk2⟩ := cEk_cons h1
    obtain ⟨ev', values', rfl, hv1, hv2⟩ := cEs_cons h2
    cases a with
    | const av =>
      cases av with
      | str k =>
        cases b with
        | const v =>
          unfold kvOf at h
          obtain ⟨r, hr, rfl⟩ := Option.map_eq_some_iff.mp h
          obtain ⟨kc, a1, b1, rfl, hkc⟩ := cE_const hk1
          obtain ⟨vc, a2, b2, rfl, hvc⟩ := cE_const hv1
          have ih := fun s Q => pairs_run (pos := pos) (E := E) ks vs r _ _ keys' values' s Q hr hk2 hv2
          refine ⟨?_, ?_, fun hq => ?_⟩
          · have := (ih s (fun _ _ => True)).1
            exact congrArg (List.cons _) this
          · show (pairsOf env pos keys' values').length + 1 = r.length + 1
            rw [(ih s (fun _ _ => True)).2.1]
          · refine evalPairs_cons (const_run (κ := κ) hkc fun kv t1 hkv => ?_)
            refine wpAny_bind (const_run (κ := κ) hvc fun vv t2 hvv => wpAny_bind (wpAny_standAt (wpAny_pure ?_)))
            refine (ih _ _).2.2 fun prs kvs t hc hd => ?_
            cases hkv with
            | str _ tk => exact hq _ ((k, vv) :: kvs) t ⟨by simp [strKind, Value.isStrOf], rfl, hc⟩ (.cons hvv hd)
        | _ => simp [kvOf] at h
      | _ => simp [kvOf] at h
    | _ => simp [kvOf] at h
  | .nil, .cons _ _, _, _, _, _, _, _, _, h, _, _ => by simp [kvOf] at h
  | .cons _ _, .nil, _, _, _, _, _, _, _, h, _, _ => by
    unfold kvOf at h
    (repeat' split at h) <;> simp_all
end
section
variable {B : Base} {κ₀ : Kw} {G : Genv} {U : Blts} {O : Addr → Sp} {d : Nat} {hd : Bool} {sc : Scope}
theorem ok_dict (hG : GOk B κ₀ G) {n m : Nat} {ks : List (Option PySem.Expr)} {vs : List PySem.Expr} {a b : Es} {pos : Pos} (h1 : cEk n sc ks = some a) (h2 : cEs m sc vs = some b) (hl : ks.length = vs.length) : EvOk B κ₀ G U O d hd sc (.Dict ks vs pos) (.dict a b) := by
  intro env A κ own st s Q X ha p q
  simp only [ev] at q
  cases hk : kvOf a b with
  | none => rw [hk] at q; exact q.elim
  | some l =>
    rw [hk] at q
    obtain ⟨⟨hlen, hnd⟩, q⟩ := q
    have hsys : s.heap.objs.size ≠ sysModules := by
      intro e
      obtain ⟨o, ho⟩ := hG.sysm
      have := p.rep.rep.stays _ _ ho
      rw [← e, size_dead] at this; cases this
    cases l with
    | nil =>
      have ea : a = .nil ∧ b = .nil := by
        cases a with
        | nil => cases b with
          | nil => exact ⟨rfl, rfl⟩
          | cons => simp [kvOf] at hk
        | cons e r =>
          exfalso
          unfold kvOf at hk
          (repeat' split at hk) <;> simp_all
      obtain ⟨rfl, rfl⟩ := ea
      obtain rfl := cEk_nil h1
      obtain rfl := cEs_nil h2
      rw [eval_Dict_empty]
      refine wpAny_bind (wpAny_standAt (wpAny_newObj_type ?_))
      obtain ⟨y, hi⟩ := p.rep.push1 (ob := { cls := .type "dict", dict := none, data := .dict #[] }) (o := .dict []) rfl
        ⟨[], ⟨_, #[], 0, Heap.get?_push_size _ rfl, ⟨rfl, rfl, rfl⟩, rfl, by intro e he; simp at he, .nil, List.nodup_nil⟩, .nil, hsys, by simp⟩
      exact SatQ.here y q (.ref hi)
    | cons x l =>
      obtain ⟨e1, e2, run⟩ := pairs_run (B := B) (env := env) (A := A) (κ := κ) (pos := pos) (E := SatX B env X κ own s) a b (x :: l) n m ks vs { s with heap := s.heap.push { cls := .type "dict", data := .dict #[] } } _ hk h1 h2
      refine wpAny_Dict_pairs (knd := strKind B.prog B.w) e1 (by intro e; rw [e] at e2; simp at e2) (by rw [e2]; exact hlen) (run fun prs kvs t hc hdr => ?_)
      have hkeys : kvs.map (·.1) = (x :: l).map (·.1) := by
        have key : ∀ {l : List (Str × AV)} {kvs : List (Str × Value)}, DRel κ l kvs → kvs.map (·.1) = l.map (·.1) := fun {l kvs} h => by
          induction h with
          | nil => rfl
          | cons _ _ ih => rw [List.map_cons, List.map_cons, ih]
        exact key hdr
      refine ⟨kvs, hc, .new _, fun h' hm' hs' => ?_⟩
      rw [merged_nil_of_nodup kvs (by rw [hkeys]; exact hnd)] at hm'
      have old : ∀ b o, s.heap.get? b = some o → h'.get? b = some o := fun b o e => by
        have hb : b ≠ s.heap.objs.size := Nat.ne_of_lt (Heap.lt_size e)
        exact (hs'.2 b hb).trans (Heap.get?_push_of_some _ e)
      have live : ∃ o, h'.get? s.heap.objs.size = some o := let ⟨o, _, _, e, _⟩ := hm'; ⟨o, e⟩
      obtain ⟨y, hi⟩ := p.rep.newObj (s' := { s with heap := h', toks := t + prs.length }) (a := s.heap.objs.size) (o := .dict (x :: l)) (own' := ownAdd own s.heap.objs.size (.obj st.σ.length)) old rfl rfl (if_pos rfl) (fun b t h => by
          unfold ownAdd
          rw [if_neg]
          · exact h
          · rintro rfl
            rw [p.rep.dead (size_dead _)] at h; cases h) (fun b t h => by
          unfold ownAdd at h
          split at h
          · rename_i e; subst e
            exact .inr ⟨size_dead _, live⟩
          · exact .inl h) ⟨kvs, hm', hdr.mono (p.rep.addLe _), hsys, by omega⟩
      exact SatQ.here y q (.ref hi)
end
end Sm
end
section
set_option maxRecDepth 100000
set_option linter.unusedVariables false
namespace Sm
open PySem PySem.Calls PySem.W
section
variable {B : Base} {κ₀ : Kw} {G : Genv} {U : Blts} {O : Addr → Sp} {d : Nat} {hd : Bool}
theorem ok_name (hG : GOk B κ₀ G) {sc : Scope} {x : Str} {pos : Pos} {e' : E} (h : nameE sc x = some e') : EvOk B κ₀ G U O d hd sc (.Name x pos) e' := by
  intro env A κ own st s Q X ha p q
  unfold nameE at h
  split at h
  · cases h
  · rename_i hx
    have hx' : (x == ("__debug__" : Str) || x == ("__classdict__" : Str)) = false := by simpa using hx
    obtain ⟨hx, hcd⟩ := Bool.or_eq_false_iff.mp hx'
    cases hi : nameId x with
    | none => rw [hi] at h; cases h
    | some i =>
      have hdi := nameId_dec hi
      rw [hi] at h
      simp only at h
      have lo : (sc.names.lookup x = some .local ∨ sc.names.lookup x = some .cell ∨ sc.names.lookup x = some .free) → e' = .loc i → Sat B env A (eval (.Name x pos) env) VR Q X κ own s := by
        intro hk he
        subst he
        simp only [ev] at q
        cases hl : st.loc.lookup i with
        | none => rw [hl] at q; exact q.elim
        | some v =>
          rw [hl] at q
          exact sound_loc p hx hcd hdi hk hl q
      cases hk : sc.names.lookup x with
      | none => rw [hk] at h; cases h
      | some k =>
        rw [hk] at h
        cases k with
        | «local» => exact lo (.inl hk) (Option.some.inj h).symm
        | cell => exact lo (.inr (.inl hk)) (Option.some.inj h).symm
        | free => exact lo (.inr (.inr hk)) (Option.some.inj h).symm
        | globalImplicit =>
          obtain rfl := Option.some.inj h
          simp only [ev] at q
          cases hl : G.look i with
          | none => rw [hl] at q; exact q.elim
          | some v => rw [hl] at q; exact sound_glob hG p hx hdi hk hl q
        | _ => cases h
theorem isTrue_other {e : Expr} (h1 : ∀ x p, e ≠ .UnaryOp .Not x p) (h2 : ∀ o v p, e ≠ .BoolOp o v p) (h3 : ∀ t b o p, e ≠ .IfExp t b o p) (h4 : isCompare e = false) (env : Env) (w : Sem Value) :
    isTrue e env w = (do let v ← w; standAt e.pos; holding [v] (truthy v)) := by
  cases e with
  | UnaryOp op x p => cases op <;> first | exact absurd rfl (h1 _ _) | rfl
  | BoolOp => exact absurd rfl (h2 _ _ _)
  | IfExp => exact absurd rfl (h3 _ _ _ _)
  | Compare => cases h4
  | _ => rfl
theorem sound_all (hG : GOk B κ₀ G) (hU : UOk B G d hd U) (hO : OOk B κ₀ d hd O) : ∀ n,
    (∀ sc e e', cE n sc e = some e' → EvOk B κ₀ G U O d hd sc e e') ∧
    (∀ sc e e', cO n sc e = some e' → OsOk B κ₀ G U O d hd sc e e') ∧
    (∀ sc es es', cEs n sc es = some es' → EsOk B κ₀ G U O d hd sc es es' ∧ (es ≠ [] → BsOk B κ₀ G U O d hd sc es es')) ∧
    (∀ sc es es', cEk n sc es = some es' → es' = .nil → es = []) ∧
    (∀ sc ks ks', cKs n sc ks = some ks' → KsOk B κ₀ G U O d hd sc ks ks') ∧
    (∀ sc e c, cC n sc e = some c → TsOk B κ₀ G U O d hd sc e c) ∧
    (∀ sc es cs, cCs n sc es = some cs → CsOk B κ₀ G U O d hd sc es cs)
  | 0 => ⟨fun _ _ _ h => by simp [cE] at h, fun _ _ _ h => by simp [cO] at h, fun _ _ _ h => by simp [cEs] at h, fun _ _ _ h => by simp [cEk] at h, fun _ _ _ h => by simp [cKs] at h, fun _ _ _ h => by simp [cC] at h, fun _ _ _ h => by simp [cCs] at h⟩
  | n + 1 => by
    obtain ⟨iE, iO, iS, iK, iW, iC, iD⟩ := sound_all hG hU hO n
    refine ⟨fun sc e e' h => ?_, fun sc e e' h => ?_, fun sc es es' h => ?_, fun sc es es' h hn => ?_, fun sc ks ks' h => ?_, fun sc e c h => ?_, fun sc es cs h => ?_⟩
    · unfold cE at h
      split at h
      · obtain ⟨v, hv, rfl⟩ := Option.map_eq_some_iff.mp h
        exact fun env A κ own st s Q X ha p q => sound_const p.rep hv q
      · exact ok_name hG h
      · split at h
        · cases h
        · rename_i hn
          split at h
          · rename_i x y h1 h2
            obtain rfl := Option.some.inj h
            exact ok_attr hG (by simpa using hn) (nameId_dec h2) (iE _ _ _ h1)
          · cases h
      · split at h
        · rename_i x y h1 h2
          obtain rfl := Option.some.inj h
          exact ok_bin (iE _ _ _ h1) (iE _ _ _ h2)
        · cases h
      · obtain ⟨x, h1, rfl⟩ := Option.map_eq_some_iff.mp h
        exact ok_un hU (iE _ _ _ h1)
      · split at h
        · cases h
        · rename_i hn
          obtain ⟨x, h1, rfl⟩ := Option.map_eq_some_iff.mp h
          exact ok_boo ((iS _ _ _ h1).2 (by simpa using hn))
      · split at h
        · cases h
        · rename_i hn
          split at h
          · rename_i x y h1 h2
            obtain rfl := Option.some.inj h
            exact ok_cmp hG hU (by simpa using hn) (iE _ _ _ h1) (iE _ _ _ h2)
          · cases h
      · split at h
        · rename_i a b c h1 h2 h3
          obtain rfl := Option.some.inj h
          exact ok_ife (iC _ _ _ h1) (iE _ _ _ h2) (iE _ _ _ h3)
        · cases h
      · split at h
        · cases h
        · rename_i v' hv
          split at h
          · split at h
            · rename_i x y h1 h2
              obtain rfl := Option.some.inj h
              exact ok_slice hU (iE _ _ _ hv) (iO _ _ _ h1) (iO _ _ _ h2)
            · cases h
          · cases h
          · rename_i i' hns1 hns2
            obtain ⟨x, h1, rfl⟩ := Option.map_eq_some_iff.mp h
            refine ok_item hU (fun a b c p hh => ?_) (iE _ _ _ hv) (iE _ _ _ h1)
            cases c with
            | none => exact hns1 a b p hh
            | some c => exact hns2 a b c p hh
      · obtain ⟨x, h1, rfl⟩ := Option.map_eq_some_iff.mp h
        exact ok_tup (iS _ _ _ h1).1
      · obtain ⟨x, h1, rfl⟩ := Option.map_eq_some_iff.mp h
        exact ok_list (iS _ _ _ h1).1
      · rename_i ks vs pos
        split at h
        · rename_i a b h1 h2
          split at h
          · rename_i hl
            obtain rfl := Option.some.inj h
            exact ok_dict hG h1 h2 hl
          · cases h
        · cases h
      · rename_i f args kws pos
        split at h
        · rename_i o name apos
          split at h
          · cases h
          · rename_i hn
            split at h
            · rename_i o' i as ks h1 h2 h3 h4
              obtain rfl := Option.some.inj h
              have hn' : (isCallName o || apos.endLine != pos.line || decide (args.length + kws.length ≥ 29)) = false := by simpa using hn
              simp only [Bool.or_eq_false_iff, bne_eq_false_iff_eq, decide_eq_false_iff_not] at hn'
              exact ok_callm hG hU hO hn'.1.1 (nameId_dec h2) (fun _ => hn'.1.2) (by omega) (iE _ _ _ h1) (iS _ _ _ h3).1 (iW _ _ _ h4)
            · cases h
        · rename_i hna
          split at h
          · rename_i f' as ks h1 h2 h3
            obtain rfl := Option.some.inj h
            exact ok_call hG hU hO hna (iE _ _ _ h1) (iS _ _ _ h2).1 (iW _ _ _ h3)
          · cases h
      · split at h
        · split at h
          · cases h
          · rename_i hlc
            split at h
            · rename_i a i b h1 h2 h3
              obtain rfl := Option.some.inj h
              exact ok_lcomp h2 (by simpa using hlc) (iE _ _ _ h1) (iE _ _ _ h3)
            · cases h
        · cases h
      · cases h
    · unfold cO at h
      split at h
      · obtain rfl := Option.some.inj h; exact os_none
      · obtain ⟨x, h1, rfl⟩ := Option.map_eq_some_iff.mp h
        exact os_some (iE _ _ _ h1)
    · unfold cEs at h
      split at h
      · obtain rfl := Option.some.inj h; exact ⟨es_nil, fun q => absurd rfl q⟩
      · rename_i e r
        split at h
        · cases h
        · rename_i hn
          split at h
          · rename_i x y h1 h2
            obtain rfl := Option.some.inj h
            obtain ⟨j1, j2⟩ := iS _ _ _ h2
            refine ⟨es_cons (by simpa using hn) (iE _ _ _ h1) j1, fun _ => ?_⟩
            cases r with
            | nil =>
              have : y.len = 0 := j1.2.1
              cases y with
              | cons => simp [Es.len] at this
              | nil => exact bs_one (iE _ _ _ h1)
            | cons f r' =>
              have : y.len = r'.length + 1 := j1.2.1
              cases y with
              | nil => simp [Es.len] at this
              | cons f' y' => exact bs_cons (iE _ _ _ h1) (j2 (by simp))
          · cases h
    · unfold cEk at h
      split at h
      · rfl
      · split at h
        · have e := Option.some.inj h
          rw [hn] at e; cases e
        · cases h
      · cases h
    · unfold cKs at h
      split at h
      · obtain rfl := Option.some.inj h; exact ks_nil
      · split at h
        · rename_i i a b h1 h2 h3
          obtain rfl := Option.some.inj h
          exact ks_cons (nameId_dec h1) (iE _ _ _ h2) (iW _ _ _ h3)
        · cases h
      · cases h
    · unfold cC at h
      split at h
      · obtain ⟨x, h1, rfl⟩ := Option.map_eq_some_iff.mp h
        exact t_not (iC _ _ _ h1)
      · obtain ⟨x, h1, rfl⟩ := Option.map_eq_some_iff.mp h
        exact t_boo (iD _ _ _ h1)
      · split at h
        · rename_i a b c h1 h2 h3
          obtain rfl := Option.some.inj h
          exact t_ife (iC _ _ _ h1) (iC _ _ _ h2) (iC _ _ _ h3)
        · cases h
      · split at h
        · cases h
        · rename_i hn
          split at h
          · rename_i x y h1 h2
            obtain rfl := Option.some.inj h
            exact ok_cmpT hG hU (by simpa using hn) (iE _ _ _ h1) (iE _ _ _ h2)
          · cases h
      · rename_i e h1 h2 h3 h4
        split at h
        · cases h
        · rename_i hn
          obtain ⟨x, hx, rfl⟩ := Option.map_eq_some_iff.mp h
          exact t_e (iE _ _ _ hx) fun env => isTrue_other h1 h2 h3 (by simpa using hn) env _
    · unfold cCs at h
      split at h
      · obtain rfl := Option.some.inj h; exact cs_nil
      · split at h
        · rename_i x y h1 h2
          obtain rfl := Option.some.inj h
          exact cs_cons (iC _ _ _ h1) (iD _ _ _ h2)
        · cases h
end
end Sm
end
section
set_option maxRecDepth 100000
set_option linter.unusedVariables false
namespace Sm
open PySem PySem.Calls PySem.W
theorem set_same {α : Type} {l : List α} {i : Nat} {o : α} (h : l[i]? = some o) : l.set i o = l := by
  apply List.ext_getElem?
  intro j
  rw [List.getElem?_set]
  split
  · rename_i e; subst e
    split
    · exact h.symm
    · rename_i hlt; rw [List.getElem?_eq_none (by omega)] at h; cases h
  · rfl
section
variable {B : Base} {env : Env} {A : Around} {κ κ₁ : Kw} {own own₁ : Own} {st st₁ : St} {s s₁ : Shared} {X : Xp} {d : Nat} {hd : Bool}
theorem exc_rec {i : Nat} {a : Addr} (p : Rep B κ own st.σ s) (hi : κ.rho i = some a) (hx : IsExc st.σ i) : ∃ c args fs tb, st.σ[i]? = some (.exc c args fs tb) ∧ ORep B κ own s.heap i a (.exc c args fs tb) := by
  obtain ⟨c, args, fs, tb, hσ⟩ := hx
  obtain ⟨a', ha', hr⟩ := p.objs i _ hσ
  rw [hi] at ha'
  obtain rfl := Option.some.inj ha'
  exact ⟨c, args, fs, tb, hσ, hr⟩
theorem flight_set {i : Nat} {a T : Addr} {fl x : Value} {oT : Obj} {ts : Array Value} {ob : Obj} {vs : Array Value} {F : Unit → Shared → Prop} {E : Value → Shared → Prop} (p : RepX B κ own env st s) (hi : κ.rho i = some a) (hx : IsExc st.σ i)
    (e1 : s.heap.get? a = some ob) (e2 : ob.data = .fields vs) (e3 : vs[1]? = some (.ref T)) (e4 : s.heap.get? T = some oT) (e5 : oT.data = .fields ts) (e6 : ts[3]? = some fl)
    (hF : ∀ s', StepX B env κ own s κ own st s' → FlightAt s'.heap a x → F () s') : wpAny (model B.prog B.w) A (setField (.ref T) 3 x) F E s := by
  obtain ⟨c, args, fs, tb, hσ, hr⟩ := exc_rec p.rep hi hx
  obtain ⟨ob', vs', m, h1, h2, h3, h4, h5, h6, h7, h8, h9⟩ := hr
  rw [e1] at h1; obtain rfl := Option.some.inj h1
  rw [e2] at h3; obtain rfl := Data.fields.inj h3
  rcases h9 with ⟨_, h9⟩ | ⟨T', oT', ts', fl', g1, g2, g3, g4, g5, g6, g7⟩
  · rw [e3] at h9; cases h9
  rw [e3] at g1
  obtain rfl : T = T' := by simpa using g1
  rw [e4] at g4; obtain rfl := Option.some.inj g4
  rw [e5] at g5; obtain rfl := Data.fields.inj g5
  have hsz : 3 < ts.size := (Array.getElem?_eq_some_iff.mp e6).1
  refine wpAny_setField e4 e5 hsz ?_
  have hd' := Obj.data_mapFields e5 (·.setIfInBounds 3 x)
  have self := Heap.get?_update_self (h := s.heap) (Obj.mapFields (·.setIfInBounds 3 x)) e4 (Obj.isFreed_of_fields hd')
  have keep : ∀ b o, b ≠ T → s.heap.get? b = some o → (s.heap.update T (Obj.mapFields (·.setIfInBounds 3 x))).get? b = some o := fun b o hb e => (Heap.get?_update_other _ _ (Ne.symm hb)).trans e
  have ne : ∀ b, own b ≠ some (.sub i) → b ≠ T := fun b h q => by subst q; exact h g2
  have hoi := p.rep.dom i a hi
  have y := p.setObj (s' := { s with heap := s.heap.update T (Obj.mapFields (·.setIfInBounds 3 x)) }) (o := .exc c args fs tb) (own' := own) hi rfl rfl (fun b o _ h => keep b o (ne b h)) (fun b hb => by
      by_cases q : b = T
      · subst q; exact ⟨_, self⟩
      · obtain ⟨t, ht⟩ : ∃ t, own b = some t := by rcases hb with hb | hb <;> exact ⟨_, hb⟩
        obtain ⟨o, e⟩ := p.rep.live b t ht
        exact ⟨o, keep b o q e⟩) (fun _ _ h => h) (fun b t h => .inl h)
    ⟨ob, vs, m, keep a ob (Ne.symm g3) e1, h2, e2, h4, h5, h6.imp id fun ⟨dx, a1, a2, a3, a4⟩ => ⟨dx, a1, a2, a3, a4.at fun o => keep dx o (g7 dx a1)⟩, h7, h8,
      .inr ⟨T, _, _, x, e3, g2, g3, self, hd', by simp [hsz], g7⟩⟩
  rw [set_same hσ] at y
  exact hF _ y ⟨ob, vs, T, _, _, keep a ob (Ne.symm g3) e1, e2, e3, self, hd', by simp [hsz]⟩
theorem sound_setFlight {i : Nat} {a : Addr} {fl : Value} {fr : Option Addr} {F : Unit → Shared → Prop} {E : Value → Shared → Prop} (p : RepX B κ own env st s) (hi : κ.rho i = some a) (hx : IsExc st.σ i) (hfl : FlightAt s.heap a fl)
    (hF : ∀ s', StepX B env κ own s κ own st s' → FlightAt s'.heap a (fr.elim .none fun f => rawInt f) → F () s') : wpAny (model B.prog B.w) A (setFlight (.ref a) fr) F E s := by
  obtain ⟨ob, vs, T, oT, ts, e1, e2, e3, e4, e5, e6⟩ := hfl
  unfold setFlight
  refine wpAny_bind (wpAny_field e1 e2 e3 ?_)
  rw [if_pos (show (Value.ref T != Value.none) = true from by simp)]
  exact flight_set p hi hx e1 e2 e3 e4 e5 e6 hF
theorem RepX.slots {l : List Env} {h' : Heap} (p : RepX B κ own env st s) (ho : Outer B own l s.heap) (hfr : env.frame = some env.locals) (hs : Heap.SlotsOnly ((env :: l).filterMap (·.frame)) s.heap h') :
    StepX B env κ own s κ own st { s with heap := h' } := by
  have inS : ∀ b, b ∈ (env :: l).filterMap (·.frame) → b = env.locals ∨ (own b = none ∧ B.h.get? b = none ∧ ∃ o, s.heap.get? b = some o ∧ o.cls = .type "frame") := fun b hb => by
    rw [List.mem_filterMap] at hb
    obtain ⟨e, he, hb⟩ := hb
    rcases List.mem_cons.mp he with rfl | he
    · rw [hfr] at hb; exact .inl (Option.some.inj hb).symm
    · obtain ⟨_, L, o, es, ep, q1, q2, q3, q4, q5, q6⟩ := ho e he
      rw [q1] at hb; obtain rfl := Option.some.inj hb
      exact .inr ⟨q2, q3, o, q4, q5⟩
  have same : ∀ b o, b ≠ env.locals → (own b ≠ none ∨ o.cls ≠ .type "frame") → s.heap.get? b = some o → h'.get? b = some o := fun b o h1 h2 h3 => by
    by_cases hb : b ∈ (env :: l).filterMap (·.frame)
    · rcases inS b hb with q | ⟨q1, q2, o', q3, q4⟩
      · exact absurd q h1
      · rw [h3] at q3; obtain rfl := Option.some.inj q3
        rcases h2 with h2 | h2
        · exact absurd q1 h2
        · exact absurd q4 h2
    · rw [hs.2.1 b hb]; exact h3
  have base : ∀ b o, B.h.get? b = some o → s.heap.get? b = some o → h'.get? b = some o := fun b o h1 h3 => by
    by_cases hb : b ∈ (env :: l).filterMap (·.frame)
    · rcases inS b hb with rfl | ⟨q1, q2, _⟩
      · rw [p.loc.fresh] at h1; cases h1
      · rw [q2] at h1; cases h1
    · rw [hs.2.1 b hb]; exact h3
  have tag : ∀ b t, own b = some t → t ≠ .frm → b ≠ env.locals := fun b t h1 h2 q => by subst q; rw [p.loc.owned] at h1; exact h2 (Option.some.inj h1).symm
  have slot : ∀ b o, s.heap.get? b = some o → ∃ sl, h'.get? b = some { o with slots := sl } := hs.2.2
  refine ⟨⟨⟨fun b o h => base b o h (p.rep.stays b o h), p.rep.apart, fun b t h => ?_, p.rep.dom, fun i o h => ?_, p.rep.bound, fun a v h => ?_, p.rep.gens, p.rep.os⟩,
    ⟨p.loc.owned, p.loc.fresh, ?_, ?_, fun i hi => ?_, p.loc.apart, fun i hi => ?_⟩⟩, ⟨.refl _, ⟨fun b o h1 h2 h3 => ?_, fun b o _ _ h => slot b o h⟩, fun a t h => .inl (by rw [h]; simp), fun a v h => .inl h, fun _ _ h => h⟩⟩
  · obtain ⟨o, e⟩ := p.rep.live b t h
    obtain ⟨sl, e'⟩ := slot b o e; exact ⟨_, e'⟩
  · obtain ⟨a, h1, h2⟩ := p.rep.objs i o h
    refine ⟨a, h1, h2.step (.refl _) (fun _ _ h => h) (p.rep.dom i a h1) fun b ob hb => same b ob ?_ (.inl ?_)⟩
    · rcases hb with hb | hb <;> exact tag b _ hb (by simp)
    · rcases hb with hb | hb <;> rw [hb] <;> simp
  · have := p.rep.imm a v h
    obtain ⟨o, e, hc⟩ := this.2.live
    refine ⟨this.1, this.2.step fun ob e' => same a ob ?_ (.inr ?_) e'⟩
    · rintro rfl; rw [p.loc.owned] at this; cases this.1
    · rw [e] at e'; obtain rfl := Option.some.inj e'; exact hc
  · obtain ⟨o, e, hc⟩ := p.loc.isFrame
    obtain ⟨sl, e'⟩ := slot _ o e; exact ⟨_, e', hc⟩
  · obtain ⟨m, ⟨o, es, ep, e, r⟩, hr⟩ := p.loc.vars
    obtain ⟨sl, e'⟩ := slot _ o e
    exact ⟨m, ⟨_, es, ep, e', r⟩, hr⟩
  · obtain ⟨c, v, h1, h2, h3, ⟨o, h4, h5⟩, h6⟩ := p.loc.cells i hi
    obtain ⟨sl, e'⟩ := slot _ o h4
    exact ⟨c, v, h1, h2, h3, ⟨_, e', h5⟩, h6⟩
  · obtain ⟨c, v, h1, h2, ⟨o, h4, h5⟩, h6⟩ := p.loc.frees i hi
    obtain ⟨sl, e'⟩ := slot _ o h4
    exact ⟨c, v, h1, h2, ⟨_, e', h5⟩, h6⟩
  · exact same b o (by rintro rfl; rw [p.loc.owned] at h1; cases h1) (.inr h2) h3
theorem funFrames {l : List Env} {h : Heap} (ho : Outer B own l h) : h.FunFrames B.h l := by
  induction l with
  | nil => trivial
  | cons e r ih =>
    obtain ⟨k, L, o, es, ep, q1, q2, q3, q4, q5, q6⟩ := ho e (.head _)
    exact ⟨k, ⟨L, o, q1, q3, q4, fun vs h => by rw [q6] at h; cases h⟩, ih fun e he => ho e (.tail _ he)⟩
theorem sound_entry {i : Nat} {a : Addr} {head : Value} {b : Bool} {ob : Obj} {vs : Array Value} {l : List Env} {F : Unit → Shared → Prop} {E : Value → Shared → Prop} (p : RepX B κ own env st s) (hfr : env.frame = some env.locals) (hk : env.scope.kind ≠ .module) (hA : A.frames = some (env :: l)) (ho : Outer B own l s.heap)
    (hi : κ.rho i = some a) (hx : IsExc st.σ i) (e1 : s.heap.get? a = some ob) (e2 : ob.data = .fields vs)
    (hF : ∀ s' own', StepX B env κ own s κ own' st s' → FlightAt s'.heap a (rawInt env.locals) → F () s') :
    wpAny (model B.prog B.w) A (do let x ← frameOf env; let pl ← entryPlaceOf env.locals b; let y ← EntryCells.newEntry head x .none (rawInt env.locals) .none pl; setField (.ref a) 1 y) F E s := by
  have hff : s.heap.FunFrames B.h (env :: l) := by
    obtain ⟨m, ⟨o, es, ep, e, hdd, _⟩, _⟩ := p.loc.vars
    exact ⟨hk, ⟨_, o, hfr, p.loc.fresh, e, fun vs h => by rw [hdd] at h; cases h⟩, funFrames ho⟩
  refine wpAny_bind (wpAny_frameOf_fun hA hff hfr fun h₁ hs₁ => ?_)
  refine wpAny_bind (wpAny_entryPlaceOf fun pl hpl => ?_)
  unfold EntryCells.newEntry newFields
  refine wpAny_bind (wpAny_newObj_type ?_ (hpl.sizeOk5 _ _ _ _ _))
  have x := p.slots ho hfr hs₁
  obtain ⟨c, args, fs, tb, hσ, hr⟩ := exc_rec x.rep.rep hi hx
  obtain ⟨ob', vs', m, h1, h2, h3, h4, h5, h6, h7, ⟨ta, ws, h8, h8', h8''⟩, h9⟩ := hr
  generalize hTob : ({ cls := .type "traceback", dict := none, data := .fields ([head, .ref env.locals, .none, rawInt env.locals, .none] ++ (if pl.isEmpty then List.replicate 6 Value.none else pl)).toArray } : Obj) = oT
  generalize hTn : h₁.objs.size = T
  have dT : h₁.get? T = none := hTn ▸ size_dead h₁
  have eT : (h₁.push oT).get? T = some oT := by rw [← hTn, ← hTob]; exact Heap.get?_push_size _ rfl
  have keep1 : ∀ b o, h₁.get? b = some o → (h₁.push oT).get? b = some o := fun b o e => Heap.get?_push_of_some _ e
  have hne : T ≠ a := by rintro rfl; rw [dT] at h1; cases h1
  have hsz : 1 < vs'.size := by omega
  refine wpAny_setField (keep1 a ob' h1) h3 hsz ?_
  have hd' := Obj.data_mapFields h3 (·.setIfInBounds 1 (Value.ref T))
  have self := Heap.get?_update_self (h := h₁.push oT) (Obj.mapFields (·.setIfInBounds 1 (Value.ref T))) (keep1 a ob' h1) (Obj.isFreed_of_fields hd')
  have keep2 : ∀ b o, b ≠ a → h₁.get? b = some o → ((h₁.push oT).update a (Obj.mapFields (·.setIfInBounds 1 (Value.ref T)))).get? b = some o := fun b o hb e => (Heap.get?_update_other _ _ (Ne.symm hb)).trans (keep1 b o e)
  have eT2 : ((h₁.push oT).update a (Obj.mapFields (·.setIfInBounds 1 (Value.ref T)))).get? T = some oT := (Heap.get?_update_other _ _ (Ne.symm hne)).trans eT
  have dict' : ∀ (o : Obj) f, (o.mapFields f).dict = o.dict := fun o f => by obtain ⟨c, d, dt, sl⟩ := o; cases dt <;> rfl
  have hoi := x.rep.rep.dom i a hi
  have hts : oT.data = .fields ([head, .ref env.locals, .none, rawInt env.locals, .none] ++ (if pl.isEmpty then List.replicate 6 Value.none else pl)).toArray := by rw [← hTob]
  have ht3 : (([head, .ref env.locals, .none, rawInt env.locals, .none] ++ (if pl.isEmpty then List.replicate 6 Value.none else pl)).toArray : Array Value)[3]? = some (rawInt env.locals) := by
    first | (simp; done) | (rcases hpl with rfl | ⟨_, _, _, _, _, _, _, rfl⟩ <;> simp)
  have y := x.rep.setObj (s' := { s with heap := (h₁.push oT).update a (Obj.mapFields (·.setIfInBounds 1 (Value.ref T))) }) (o := .exc c args fs tb) (own' := ownAdd own T (.sub i)) hi rfl rfl
    (fun b o hb _ => keep2 b o (by rintro rfl; exact hb hoi)) (fun b hb => by
      by_cases q : b = a
      · subst q; exact ⟨_, self⟩
      · obtain ⟨t, ht⟩ : ∃ t, own b = some t := by rcases hb with hb | hb <;> exact ⟨_, hb⟩
        obtain ⟨o, e⟩ := x.rep.rep.live b t ht
        exact ⟨o, keep2 b o q e⟩)
    (fun b t h => by
      show (if b = T then _ else _) = _
      rw [if_neg]
      · exact h
      · rintro rfl; rw [x.rep.dead dT] at h; cases h)
    (fun b t h => by
      have h' : (if b = T then some (Tag.sub i) else own b) = some t := h
      split at h'
      · rename_i q; subst q; exact .inr ⟨dT, _, eT2⟩
      · exact .inl h')
    ⟨_, _, m, self, (Obj.cls_mapFields _ _).trans h2, hd', by simp; exact h4, h5, by
      rw [dict']
      exact h6.imp id fun ⟨dx, a1, a2, a3, a4⟩ => ⟨dx, a1, a2, (by
        show (if dx = T then _ else _) = _
        rw [if_neg]
        · exact a3
        · rintro rfl; obtain ⟨o, _, _, e, _⟩ := a4; have e' : h₁.get? dx = some o := e; rw [dT] at e'; cases e'), a4.at fun o => keep2 dx o a2⟩, h7, ⟨ta, ws, by rw [Array.getElem?_setIfInBounds_ne (by decide)]; exact h8, h8', h8''⟩,
      .inr ⟨T, oT, _, rawInt env.locals, by simp [hsz], if_pos rfl, hne, eT2, hts, ht3, fun dx hdx => by
        rw [dict'] at hdx
        rintro rfl
        rcases h6 with ⟨q, _⟩ | ⟨dx', q, _, _, o, _, _, e, _⟩
        · rw [q] at hdx; cases hdx
        · rw [q] at hdx; obtain rfl := Option.some.inj hdx
          have e' : h₁.get? dx' = some o := e; rw [dT] at e'; cases e'⟩⟩
  rw [set_same hσ] at y
  exact hF _ _ (x.trans y) ⟨_, _, T, _, _, self, hd', by simp [hsz], eT2, hts, ht3⟩
theorem sound_note {i : Nat} {a : Addr} {l : List Env} {F : Unit → Shared → Prop} {E : Value → Shared → Prop} (p : RepX B κ own env st s) (hfr : env.frame = some env.locals) (hk : env.scope.kind ≠ .module) (hA : A.frames = some (env :: l)) (ho : Outer B own l s.heap)
    (hi : κ.rho i = some a) (hx : IsExc st.σ i) (hf : Flying env s.heap a)
    (hF : ∀ s' own', StepX B env κ own s κ own' st s' → FlightAt s'.heap a (rawInt env.locals) → F () s') : wpAny (model B.prog B.w) A (noteFrame (.ref a) env) F E s := by
  unfold noteFrame
  simp only [hfr]
  rcases hf with ⟨ob, vs, e1, e2, e3⟩ | ⟨ob, vs, T, oT, ts, e1, e2, e3, e4, e5, e6⟩ | ⟨L, hL, hfl⟩
  · refine wpAny_bind (wpAny_field e1 e2 e3 ?_)
    rw [if_neg (by decide)]
    exact sound_entry p hfr hk hA ho hi hx e1 e2 hF
  · refine wpAny_bind (wpAny_field e1 e2 e3 ?_)
    rw [if_pos (show (Value.ref T != Value.none) = true from by simp)]
    refine wpAny_bind (wpAny_field e4 e5 e6 ?_)
    rw [if_neg (show ¬ ((Value.none == rawInt env.locals) = true) from by simp [rawInt])]
    refine wpAny_bind (flight_set p hi hx e1 e2 e3 e4 e5 e6 fun s' x hfl => ?_)
    obtain ⟨ob', vs', T', oT', ts', f1, f2, _⟩ := hfl
    exact sound_entry x.rep hfr hk hA (ho.step x.grow) hi hx f1 f2 fun s'' own' y hy => hF s'' own' (x.trans y) hy
  · rw [hfr] at hL
    obtain rfl := Option.some.inj hL
    obtain ⟨ob, vs, T, oT, ts, e1, e2, e3, e4, e5, e6⟩ := id hfl
    refine wpAny_bind (wpAny_field e1 e2 e3 ?_)
    rw [if_pos (show (Value.ref T != Value.none) = true from by simp)]
    refine wpAny_bind (wpAny_field e4 e5 e6 ?_)
    rw [if_pos (show (rawInt env.locals == rawInt env.locals) = true from by simp)]
    exact wpAny_pure (hF s own (.refl p) hfl)
theorem sound_leaving {i : Nat} {a : Addr} {l : List Env} {F : Unit → Shared → Prop} {E : Value → Shared → Prop} (p : RepX B κ own env st s) (hfr : env.frame = some env.locals) (hk : env.scope.kind ≠ .module) (hA : A.frames = some (env :: l)) (ho : Outer B own l s.heap)
    (hi : κ.rho i = some a) (hx : IsExc st.σ i) (hf : Flying env s.heap a)
    (hF : ∀ s' own', StepX B env κ own s κ own' st s' → Flown s'.heap a → F () s') : wpAny (model B.prog B.w) A («leaving» env (.ref a)) F E s := by
  unfold «leaving»
  refine wpAny_bind (sound_note p hfr hk hA ho hi hx hf fun s' own' x hfl => ?_)
  exact sound_setFlight (fr := none) x.rep hi hx hfl fun s'' y hy => hF s'' own' (x.trans y) hy
theorem sound_cameBack {i : Nat} {a : Addr} {fl : Value} {E : Value → Shared → Prop} (p : RepX B κ own env st s) (hfr : env.frame = some env.locals) (hi : κ.rho i = some a) (hx : IsExc st.σ i) (hfl : FlightAt s.heap a fl)
    (hF : ∀ s', StepX B env κ own s κ own st s' → FlightAt s'.heap a (rawInt env.locals) → E (.ref a) s') : cameBackBy (model B.prog B.w) A env E (.ref a) s := by
  unfold cameBackBy
  obtain ⟨ob, vs, T, oT, ts, e1, e2, e3, _⟩ := id hfl
  refine wpAny_bind (wpAny_field e1 e2 e3 ?_)
  rw [if_neg (by simp)]
  rw [hfr]
  exact sound_setFlight (fr := some env.locals) p hi hx hfl hF
end
end Sm
end
section
set_option maxRecDepth 100000
set_option maxHeartbeats 4000000
set_option linter.unusedVariables false
namespace Sm
open PySem PySem.Calls PySem.W PyProof.Rows
section
variable {prog : Program} {w : World} {A : Around} {E : Value → Shared → Prop} {h : Heap} {g : Array GenState} {d : Drawn} {t : Nat} {os : OsState}
variable {nm q : Str} {C N : Addr} {bs bm : List Value} {hdct : Bool} {sn : List Str} {sub : List Value} {ab : Bool} {col : Option Bool} {dd : Option Addr} {k0 k1 k2 k3 k5 : Option Value} {B newId initId : String}
theorem subclass_self {k : Int} {tk : Tok} {Q : Fin → Shared → Prop} (hC : h.get? C = some (excClassObj nm q C N bs bm hdct sn sub ab col dd k0 k1 k2 k3 k5 newId))
    (hq : Q (.done (.ret (.bool true))) ⟨h, g, d, t, os⟩) : wpAny (model prog w) A (Builtin.«issubclass.nested» ⟨[.ref C, .ref C, .int k tk], []⟩) Q E ⟨h, g, d, t, os⟩ := by
  have hcC : (Value.ref C :: bm).contains (.ref C) = true := by simp
  have f3 := tc_sub
  have hT : (⟨h, g, d, t, os⟩ : Shared).TypeIs (.ref C) "type" := ⟨_, hC, rfl⟩
  repeat (any_goals (first | assumption | with_reducible refine wpAny_loadPart_at hC ?_ | (with_reducible refine wpAny_isSubtype_exc hC ?_; rw [hcC]) | wp_step))
theorem meets_subclass : Meets (Builtin.«issubclass» ⟨[.ref C, .ref C], []⟩) (fun _ R s => s.heap.get? C = some (excClassObj nm q C N bs bm hdct sn sub ab col dd k0 k1 k2 k3 k5 newId) ∧ R (.ok (.ret (.bool true))) s) :=
  fun _ _ _ _ s hs => by
    obtain ⟨hC, hs⟩ := hs
    obtain ⟨h, g, d, t, os⟩ := s
    exact issubclass_outer (subclass_self hC hs)
theorem call_subclass {Q : Value → Shared → Prop} (hC : h.get? C = some (excClassObj nm q C N bs bm hdct sn sub ab col dd k0 k1 k2 k3 k5 newId)) (hq : Q (.bool true) ⟨h, g, d, t, os⟩) :
    wpAny (model prog w) A (call (.builtin "issubclass") [.ref C, .ref C]) Q E ⟨h, g, d, t, os⟩ :=
  call_issubclass meets_subclass ⟨hC, hq⟩
theorem raise_class {env : Env} {x : Sem Value} {Q : Flow → Shared → Prop} {s : Shared} (hh : A.handled = none)
    (hx : wpAny (model prog w) A x (fun v s₁ => ∃ nm q C N bs bm hdct sn sub ab col dd k0 k1 k2 k3 k5 B newId initId, ∃ mN : Str → Option Value, ExcBaseFacts B newId initId bm ∧ v = .ref C ∧ s₁.heap.get? C = some (excClassObj nm q C N bs bm hdct sn sub ab col dd k0 k1 k2 k3 k5 newId) ∧ s₁.heap.Ns N mN ∧ mN "__init__" = none ∧
      ∀ h' e, Heap.MadeExcOf s₁.heap h' e (.ref C) [] → E (.ref e) { s₁ with heap := h' }) E s) :
    wpAny (model prog w) A (raiseStmt env (some x) none) Q E s := by
  unfold raiseStmt
  dsimp only
  refine wpAny_bind (wpAny_mono hx (fun v s₁ ⟨nm, q, C, N, bs, bm, hdct, sn, sub, ab, col, dd, k0, k1, k2, k3, k5, B, newId, initId, mN, F, hv, hC, hn, hni, hE⟩ => ?_) fun _ _ e => e)
  subst hv
  have hcB : (Value.ref C :: bm).contains (.type "BaseException") = true := by rw [List.contains_cons, F.hasBase, Bool.or_true]
  obtain ⟨hp, g, d, tk, os⟩ := s₁
  refine wpAny_bind (wpAny_pure ?_)
  dsimp only
  refine wpAny_bind (wpAny_holding ?_)
  unfold excFromValue isExcClass
  have f3 := tc_sub
  have hT : (⟨hp, g, d, tk, os⟩ : Shared).TypeIs (.ref C) "type" := ⟨_, hC, rfl⟩
  have isT : ∀ {h₁ : Heap} {Q : Bool → Shared → Prop}, h₁.get? C = some (excClassObj nm q C N bs bm hdct sn sub ab col dd k0 k1 k2 k3 k5 newId) → Q true ⟨h₁, g, d, tk, os⟩ → wpAny (model prog w) A (isType (.ref C)) Q E ⟨h₁, g, d, tk, os⟩ := by
    intro h₁ Q hC₁ hq
    have hT₁ : (⟨h₁, g, d, tk, os⟩ : Shared).TypeIs (.ref C) "type" := ⟨_, hC₁, rfl⟩
    repeat (any_goals (first | assumption | with_reducible refine wpAny_loadPart_at hC₁ ?_ | wp_step))
  refine wpAny_bind (wpAny_bind (isT hC ?_))
  rw [if_pos rfl]
  refine wpAny_isSubtype_exc hC ?_
  rw [hcB]
  simp only [if_true]
  refine wpAny_bind (wpAny_call_exc_sub F hC hn hni fun h' e hm => ?_)
  obtain ⟨ta, he, _, _⟩ := hm.there
  have hC' := hm.keeps _ _ hC
  have isI : ∀ {Q : Bool → Shared → Prop}, Q true ⟨h', g, d, tk, os⟩ → wpAny (model prog w) A (isInstance (.ref e) (.type "BaseException")) Q E ⟨h', g, d, tk, os⟩ := by
    intro Q hq
    unfold isInstance
    repeat (first | with_reducible refine wpAny_loadPart_at he ?_ | (with_reducible refine wpAny_isSubtype_exc hC' ?_; rw [hcB]) | wp_step)
    exact hq
  have tyO : ∀ {Q : Value → Shared → Prop}, Q (.ref C) ⟨h', g, d, tk, os⟩ → wpAny (model prog w) A (typeOf (.ref e)) Q E ⟨h', g, d, tk, os⟩ := by
    intro Q hq
    repeat (first | with_reducible refine wpAny_loadPart_at he ?_ | wp_step)
    exact hq
  refine wpAny_bind (isI ?_)
  simp only [Bool.not_true, Bool.false_eq_true, if_false]
  refine wpAny_pure ?_
  refine wpAny_bind (isT hC' ?_)
  rw [if_pos rfl]
  refine wpAny_bind (wpAny_holding ?_)
  unfold raisedFor
  simp only [Bool.false_eq_true, if_false]
  refine wpAny_bind (m := typeOf (.ref e)) (tyO (wpAny_bind (call_subclass hC' (wpAny_bind (wpAny_truthy_bool ?_)))))
  simp only [if_true]
  refine wpAny_pure ?_
  unfold setFlight
  refine wpAny_bind (wpAny_bind (wpAny_field (i := 1) (x := Value.none) he rfl rfl ?_))
  rw [if_neg (by decide)]
  refine wpAny_pure ?_
  exact wpAny_raiseNew_none hh (hE h' e hm)
end
end Sm
end
section
set_option maxRecDepth 100000
set_option linter.unusedVariables false
namespace Sm
open PySem PySem.Calls PySem.W
inductive Tg
  | loc (x : Nat) | attr (o : E) (a : Nat) | tup (xs : List Nat)
mutual
inductive Sx
  | expr (e : E) | assign (t : Tg) (e : E) | augl (x : Nat) (op : Operator) (e : E) | auga (o : E) (a : Nat) (op : Operator) (e : E)
  | if_ (c : C) (t o : Sxs) | while_ (c : C) (b : Sxs) | for_ (t : Tg) (it : E) (b : Sxs)
  | try_ (b : Sxs) (hs : Hxs) | raise_ (e : E) | reraise | ret (e : E) | retn | pass | brk | cont | assert_ (c : C) | bad
inductive Sxs
  | nil | cons (s : Sx) (r : Sxs)
inductive Hxs
  | nil | cons (ty : E) (name : Option Nat) (b : Sxs) (r : Hxs)
end
def isComp : Expr → Bool
  | .ListComp .. | .SetComp .. | .DictComp .. => true
  | _ => false
def isTupleE : Expr → Bool
  | .Tuple .. => true
  | _ => false
def storable (sc : Scope) (x : Str) : Bool := sc.names.lookup x == some .local || sc.names.lookup x == some .cell
def cName (sc : Scope) (x : Str) : Option Nat := if storable sc x then nameId x else none
def cNames (sc : Scope) : List Expr → Option (List Nat)
  | [] => some []
  | .Name x _ :: r => match cName sc x, cNames sc r with
    | some i, some l => some (i :: l)
    | _, _ => none
  | _ => none
def cT (n : Nat) (sc : Scope) : Expr → Option Tg
  | .Name x _ => (cName sc x).map .loc
  | .Attribute o a _ => match cE n sc o, nameId a with
    | some o', some i => some (.attr o' i)
    | _, _ => none
  | .Tuple es _ _ => (cNames sc es).map .tup
  | _ => none
mutual
def cS : Nat → Scope → Stmt → Option Sx
  | 0, _, _ => none
  | n + 1, sc, s => match s with
    | .Expr e _ => if isComp e then none else (cE n sc e).map .expr
    | .Assign [t] e _ => if isComp e || (isTupleE t && isTupleE e) then none else match cT n sc t, cE n sc e with
      | some t', some e' => some (.assign t' e')
      | _, _ => none
    | .AugAssign (.Name x _) op e _ => if sc.names.lookup x == some .local && storable sc x && x != ("__debug__" : Str) && x != ("__classdict__" : Str) then match nameId x, cE n sc e with
      | some i, some e' => some (.augl i op e')
      | _, _ => none
      else none
    | .AugAssign (.Attribute o a _) op e _ => match cE n sc o, nameId a, cE n sc e with
      | some o', some i, some e' => some (.auga o' i op e')
      | _, _, _ => none
    | .If c b o _ => match cC n sc c with
      | some c' => some (.if_ c' (cSs n sc b) (cSs n sc o))
      | none => none
    | .While c b [] _ => match cC n sc c with
      | some c' => some (.while_ c' (cSs n sc b))
      | none => none
    | .For t it b [] _ => if isSetDisplay it then none else match cT n sc t, cE n sc it with
      | some (.attr _ _), _ => none
      | some t', some it' => some (.for_ t' it' (cSs n sc b))
      | _, _ => none
    | .Try b hs [] [] _ => if hs.isEmpty then none else (cHs n sc hs).map (.try_ (cSs n sc b))
    | .Raise (some e) none _ => (cE n sc e).map .raise_
    | .Raise none none _ => some .reraise
    | .Return (some e) _ => (cE n sc e).map .ret
    | .Return none _ => some .retn
    | .Pass _ => some .pass
    | .Break _ => some .brk
    | .Continue _ => some .cont
    | .Assert c _ _ => (cC n sc c).map .assert_
    | _ => none
def cSs : Nat → Scope → List Stmt → Sxs
  | 0, _, _ => .cons .bad .nil
  | n + 1, sc, ss => match ss with
    | [] => .nil
    | s :: r => .cons ((cS n sc s).getD .bad) (cSs n sc r)
def cHs : Nat → Scope → List ExceptHandler → Option Hxs
  | 0, _, _ => none
  | n + 1, sc, hs => match hs with
    | [] => some .nil
    | .ExceptHandler (some t) none (b₀ :: b) _ :: r => match cE n sc t, cHs n sc r with
      | some t', some r' => some (.cons t' none (cSs n sc (b₀ :: b)) r')
      | _, _ => none
    | .ExceptHandler (some t) (some x) (b₀ :: b) _ :: r => match cE n sc t, cHs n sc r with
      | some t', some r' => if sc.names.lookup x == some .local then (match nameId x with | some i => some (.cons t' (some i) (cSs n sc (b₀ :: b)) r') | none => none) else none
      | _, _ => none
    | _ => none
end
abbrev FQ := Fl → St → Prop
def setL (x : Nat) (v : AV) (st : St) : St := { st with loc := putA x v st.loc }
def setLs : List Nat → List AV → St → St
  | x :: xs, v :: vs, st => setLs xs vs (setL x v st)
  | _, _, st => st
def delL (x : Nat) (st : St) : St := { st with loc := st.loc.filter fun p => !Nat.beq p.1 x }
def setAt (G : Genv) (ov : AV) (a : Nat) (v : AV) (st : St) (Q : St → Prop) : Prop :=
  match ov with
  | .ref i => match st.σ[i]? with
    | some (.inst C fs) => match G.cls.lookup C with
      | none => False
      | some c => (c.exc = none ∧ c.attrs.lookup a = some none ∧ G.free.contains a = true ∧ fs.length ≤ 900) ∧ Q { st with σ := st.σ.set i (.inst C (putA a v fs)) }
    | _ => False
  | _ => False
def inW (op : Operator) (a b : AV) (Q : AV → Prop) : Prop := match op, a, b with
  | .Add, .int i, .int j => Q (.int (i + j))
  | .Sub, .int i, .int j => Q (.int (i - j))
  | .Add, .str x, .str y => x.length + y.length ≤ 16777216 ∧ Q (.str (x ++ y))
  | _, _, _ => False
def caught (i : Nat) (st : St) : St := match st.σ[i]? with
  | some (.exc c a f _) => { st with σ := st.σ.set i (.exc c a f true) }
  | _ => st
def matchExc (G : Genv) (σ : List AObj) (i : Nat) (ty : AV) : Option Bool :=
  match σ[i]? with
  | some (.exc (.ref C) _ _ true) => match G.cls.lookup C with
    | some c => match c.exc with
      | some up => match ty with
        | .glob D => match Nat.beq C D with
          | true => some true
          | false => match G.cls.lookup D with
            | some d => match d.exc with
              | some _ => some false
              | none => none
            | none => none
        | .type (.excep T) => match T == "Exception" || T == "ValueError" || T == "UnicodeDecodeError" with
          | true => some (up.contains T)
          | false => none
        | _ => none
      | none => none
    | none => none
  | _ => none
section
variable (G : Genv) (U : Bool → Blts) (O : Bool → Addr → Sp)
def asg (hd : Bool) : Tg → AV → St → (St → Prop) → Xp → Prop
  | .loc x, v, st, Q, _ => Q (setL x v st)
  | .attr o a, v, st, Q, X => ev G (U hd) (O hd) hd o st (fun ov st => setAt G ov a v st Q) X
  | .tup xs, v, st, Q, _ => hd = false ∧ match v with
    | .tup vs => xs.length = vs.length ∧ Q (setLs xs vs st)
    | _ => False
mutual
def ex : Sx → Option (Option Nat) → St → FQ → Xp → Prop
  | .expr e, cur, st, Q, X => ev G (U cur.isSome) (O cur.isSome) cur.isSome e st (fun _ st => Q .next st) X
  | .assign t e, cur, st, Q, X => ev G (U cur.isSome) (O cur.isSome) cur.isSome e st (fun v st => asg G U O cur.isSome t v st (fun st => Q .next st) X) X
  | .augl x op e, cur, st, Q, X => match st.loc.lookup x with
    | some old => ev G (U cur.isSome) (O cur.isSome) cur.isSome e st (fun v st => inW op old v fun r => Q .next (setL x r st)) X
    | none => False
  | .auga o a op e, cur, st, Q, X => ev G (U cur.isSome) (O cur.isSome) cur.isSome o st (fun ov st => getA G ov a st fun old st =>
      ev G (U cur.isSome) (O cur.isSome) cur.isSome e st (fun v st => inW op old v fun r => setAt G ov a r st fun st => Q .next st) X) X
  | .if_ c t o, cur, st, Q, X => tst G (U cur.isSome) (O cur.isSome) cur.isSome c st (fun b st => match b with | true => exs t cur st Q X | false => exs o cur st Q X) X
  | .while_ c b, cur, st, Q, X => ∃ (I : Nat → St → Prop) (n : Nat), I n st ∧ ∀ n st, I n st → tst G (U cur.isSome) (O cur.isSome) cur.isSome c st (fun r st => match r with
    | true => exs b cur st (fun fl st => match fl with
      | .next | .cont => ∃ m, m < n ∧ I m st
      | .brk => Q .next st
      | .ret v => Q (.ret v) st) X
    | false => Q .next st) X
  | .for_ t it b, cur, st, Q, X => ev G (U cur.isSome) (O cur.isSome) cur.isSome it st (fun itv st => cur = none ∧ iterOk st.σ itv ∧ ∃ (N : Nat) (I : Nat → St → Prop), I 0 st ∧ ∀ k st, I k st → k ≤ N ∧ match turnOf st.σ itv k with
    | .item v => asg G U O cur.isSome t v st (fun st => exs b cur st (fun fl st => match fl with
      | .next | .cont => I (k + 1) st
      | .brk => Q .next st
      | .ret v => Q (.ret v) st) X) X
    | .done => Q .next st
    | .bad => False) X
  | .try_ b hs, cur, st, Q, X => exs b cur st Q fun i st => hx hs i cur (caught i st) Q X
  | .raise_ e, cur, st, Q, X => cur = none ∧ ev G (U cur.isSome) (O cur.isSome) cur.isSome e st (fun v st => match v with
    | .glob C => match G.cls.lookup C with
      | some c => c.exc.isSome = true ∧ c.attrs.lookup nInit = some none ∧ X st.σ.length { st with σ := st.σ ++ [.exc (.ref C) [] [] false] }
      | none => False
    | _ => False) X
  | .reraise, cur, st, Q, X => match cur with
    | some (some i) => match st.σ[i]? with
      | some (.exc _ _ _ true) => X i st
      | _ => False
    | _ => False
  | .ret e, cur, st, Q, X => ev G (U cur.isSome) (O cur.isSome) cur.isSome e st (fun v st => Q (.ret v) st) X
  | .retn, _, st, Q, _ => Q (.ret .none) st
  | .pass, _, st, Q, _ => Q .next st
  | .brk, _, st, Q, _ => Q .brk st
  | .cont, _, st, Q, _ => Q .cont st
  | .assert_ c, cur, st, Q, X => tst G (U cur.isSome) (O cur.isSome) cur.isSome c st (fun b st => b = true ∧ Q .next st) X
  | .bad, _, _, _, _ => False
def exs : Sxs → Option (Option Nat) → St → FQ → Xp → Prop
  | .nil, _, st, Q, _ => Q .next st
  | .cons s r, cur, st, Q, X => ex s cur st (fun fl st => match fl with
    | .next => exs r cur st Q X
    | fl => Q fl st) X
def hx : Hxs → Nat → Option (Option Nat) → St → FQ → Xp → Prop
  | .nil, i, _, st, Q, X => X i st
  | .cons ty name b r, i, cur, st, Q, X => ev G (U true) (O true) true ty st (fun tv st => match matchExc G st.σ i tv with
    | some true => match name with
      | none => exs b (some (some i)) st Q X
      | some n => exs b (some (some i)) (setL n (.ref i) st) (fun fl st => Q fl (delL n st)) (fun j st => X j (delL n (caught j st)))
    | some false => hx r i cur st Q X
    | none => False) (fun _ _ => False)
end
end
end Sm
end
section
set_option maxRecDepth 100000
set_option linter.unusedVariables false
namespace Sm
open PySem PySem.Calls PySem.W
section
variable {B : Base} {κ₀ : Kw} {G : Genv} {sc : Scope} {env : Env} {A : Around} {κ : Kw} {own : Own} {st : St} {s : Shared} {X : Xp}
theorem sound_setAt (hG : GOk B κ₀ G) {ov av : AV} {va v : Value} {a : Nat} {Q : St → Prop} (p : Pre B κ₀ sc env κ own st s) (ho : VRel κ ov va) (hv : VRel κ av v) (h : setAt G ov a av st Q) :
    wpAny (model B.prog B.w) A (setAttr va (dec a) v) (fun _ s' => ∃ st', Q st' ∧ StepX B env κ own s κ own st' s') (fun _ _ => False) s := by
  cases ho with
  | ref hi =>
    rename_i i x
    cases e : st.σ[i]? with
    | none => simp only [setAt, e] at h
    | some o =>
      obtain ⟨a', ha', hr⟩ := p.rep.rep.objs i o e
      rw [hi] at ha'
      obtain rfl := Option.some.inj ha'
      cases o with
      | inst C fs =>
        simp only [setAt, e] at h
        cases hc : G.cls.lookup C with
        | none => simp only [hc] at h
        | some c =>
          simp only [hc] at h
          obtain ⟨⟨h1, h2, h3, h4⟩, hq⟩ := h
          obtain ⟨hB, hcp⟩ := hG.free a (by simpa using h3)
          obtain ⟨ob, dx, m, r1, r2, r3, r4, r5, r6, r7, r8, r9, r10⟩ := hr
          obtain ⟨nm, q, N, bs, sn, sub, col, dd, k0, k1, k2, k3, k5, mN, hC, hN, hat', g1, g2, g3⟩ := (hG.cls C c hc).plain h1
          have hC' := p.rep.rep.stays _ _ hC
          have hN' := p.ns hN
          have hNa : mN (dec a) = none := hat' a _ h2
          have hoi := p.rep.rep.dom i _ hi
          have hxC : x ≠ C := by
            rintro rfl
            have := p.rep.rep.apart _ _ hoi
            rw [this] at hC; cases hC
          have I : s.heap.InstFk x C m := ⟨ob, r1, r2, r3, .inr ⟨dx, r4, r5, r7, r8⟩⟩
          obtain ⟨hh, g, dr, t, os⟩ := s
          refine store_attrFk PySem.F.store_object hC' hN' g3 hNa hB hxC I (fun h' tk' I' hk hsame => ?_) r9.within (by rw [List.length_map, sizeLine_eq]; omega)
          refine ⟨_, hq, ?_⟩
          obtain ⟨o₁, e₁, c₁, dt₁, _, dk₁⟩ := hsame ob r1
          obtain ⟨o', e', i1, i2, hd'⟩ := I'
          obtain rfl := Option.some.inj (e₁.symm.trans e')
          have kk : ∀ b o, b ≠ x → b ≠ dx → hh.get? b = some o → h'.get? b = some o := fun b o q1 q2 e => hk b o q1 (fun o₀ d' e₀ ed => by
            obtain rfl := Option.some.inj (r1.symm.trans e₀); obtain rfl := Option.some.inj (r4.symm.trans ed); exact q2) e
          rcases hd' with ⟨hn0, _⟩ | ⟨d', hdd', _, hns', hex'⟩
          · rw [dk₁ dx r4] at hn0; cases hn0
          · obtain rfl := Option.some.inj ((dk₁ dx r4).symm.trans hdd')
            have hlen := putA_length a av fs
            have hdl : ∃ o, h'.get? dx = some o := let ⟨o, _, _, e, _⟩ := hns'; ⟨o, e⟩
            refine p.rep.setObj (o := .inst C (putA a av fs)) (own' := own) hi rfl rfl (fun b o q1 q2 eb => kk b o (by rintro rfl; exact q1 hoi) (by rintro rfl; exact q2 r6) eb) (fun b hb => ?_) (fun _ _ q => q) (fun _ _ q => .inl q)
              ⟨o₁, dx, _, e₁, i1, i2, dk₁ dx r4, r5, r6, hns', hex', r9.put hv, by omega⟩
            by_cases q1 : b = x
            · subst q1; exact ⟨_, e₁⟩
            by_cases q2 : b = dx
            · subst q2; exact hdl
            obtain ⟨t, ht⟩ : ∃ t, own b = some t := by rcases hb with hb | hb <;> exact ⟨_, hb⟩
            obtain ⟨o, eo⟩ := p.rep.rep.live b t ht
            exact ⟨o, kk b o q1 q2 eo⟩
      | list | dict | exc => simp only [setAt, e] at h
  | _ => exact h.elim
theorem sound_inW {op : Operator} {a b : AV} {va vb : Value} {Q : AV → Prop} (ha : VRel κ a va) (hb : VRel κ b vb) (h : inW op a b Q) :
    Val B env A κ own s (inplaceOp op va vb) Q := by
  cases op <;> cases ha <;> cases hb <;> try exact h.elim
  case Add.int.int i t j u => exact PyProof.Rows.iadd_int ⟨_, _, h, .int _ _, rfl⟩
  case Add.str.str x t y u => exact PyProof.Rows.iadd_str (fun t' k => ⟨_, _, h.2, .str _ _, rfl⟩) (by rw [sizeLine_eq]; exact h.1)
  case Sub.int.int i t j u => exact PyProof.Rows.isub_int ⟨_, _, h, .int _ _, rfl⟩
theorem setL_look (x : Nat) (v : AV) (st : St) (j : Nat) : (setL x v st).loc.lookup j = if j = x then some v else st.loc.lookup j := lookup_putA x v j st.loc
theorem sound_bind {i : Nat} {av : AV} {v : Value} {F : Unit → Shared → Prop} {E : Value → Shared → Prop} (p : Pre B κ₀ sc env κ own st s) (hfr : env.frame = some env.locals)
    (hk : sc.names.lookup (dec i) = some .local ∨ sc.names.lookup (dec i) = some .cell) (hv : VRel κ av v)
    (hF : ∀ s', StepX B env κ own s κ own (setL i av st) s' → F () s') :
    wpAny (model B.prog B.w) A (storeName env (dec i) v) F E s := by
  have hkn : env.kindOf (dec i) = sc.names.lookup (dec i) := by unfold Env.kindOf; rw [p.scope]
  refine sound_store p.rep (by rw [p.scope]; exact p.kind) (by rw [hkn]; exact hk.imp id fun q => ⟨q, hfr⟩) hv fun s' q => hF s' ?_
  exact q _ fun j => setL_look i av st j
theorem sound_binds {F : Unit → Shared → Prop} {E : Value → Shared → Prop} : ∀ {es : List Expr} {xs : List Nat} {avs : List AV} {vs : List Value} {κ own st s}, Pre B κ₀ sc env κ own st s → env.frame = some env.locals →
    cNames sc es = some xs → xs.length = avs.length → VRels κ avs vs → (∀ s', StepX B env κ own s κ own (setLs xs avs st) s' → F () s') →
    wpAny (model B.prog B.w) A (assignInOrder ((assignEach es env).map (·.2)) vs) F E s
  | [], xs, avs, vs, κ, own, st, s, p, hfr, hc, hl, hv, hF => by
    obtain rfl := Option.some.inj hc
    obtain rfl : avs = [] := List.length_eq_zero_iff.mp hl.symm
    cases hv
    exact wpAny_pure (hF s (.refl p.rep))
  | e :: r, xs, avs, vs, κ, own, st, s, p, hfr, hc, hl, hv, hF => by
    unfold cNames at hc
    split at hc
    · rename_i heq; cases heq
    · rename_i x px r' heq
      obtain ⟨rfl, rfl⟩ := List.cons.inj heq
      split at hc
      · rename_i i l h1 h2
        obtain rfl := Option.some.inj hc
        cases hv with
        | nil => simp at hl
        | cons hv hvs =>
          rename_i av v avs vs
          unfold cName at h1
          split at h1
          · rename_i hst
            obtain rfl := nameId_dec h1
            have hst' : sc.names.lookup (dec i) = some .local ∨ sc.names.lookup (dec i) = some .cell := by
              unfold storable at hst
              simpa using hst
            refine wpAny_bind (wpAny_holding (wpAny_assign_Name (sound_bind p hfr hst' hv fun s' x => ?_)))
            refine sound_binds (p.step x) hfr h2 (by simpa using hl) (hvs.mono x.grow.le) fun s'' y => hF s'' (x.trans y)
          · cases h1
      · cases hc
    · cases hc
end
end Sm
end
section
set_option maxRecDepth 100000
set_option linter.unusedVariables false
namespace Sm
open PySem PySem.Calls PySem.W
inductive FlR (κ : Kw) : Fl → Flow → Prop
  | next : FlR κ .next .next
  | brk : FlR κ .brk .brk
  | cont : FlR κ .cont .cont
  | ret {v x} (h : VRel κ v x) : FlR κ (.ret v) (.ret x)
abbrev XPo (B : Base) (env : Env) (κ : Kw) (own : Own) (s : Shared) (X : Xp) : Value → Shared → Prop := fun e s' =>
  ∃ i st' κ' own' a, X i st' ∧ StepX B env κ own s κ' own' st' s' ∧ e = .ref a ∧ κ'.rho i = some a ∧ Flying env s'.heap a ∧ IsExc st'.σ i
abbrev QPo (B : Base) (env : Env) (κ : Kw) (own : Own) (s : Shared) {α β : Type} (rel : Kw → β → α → Prop) (Q : β → St → Prop) : α → Shared → Prop := fun a s' =>
  ∃ b st' κ' own', Q b st' ∧ StepX B env κ own s κ' own' st' s' ∧ rel κ' b a
structure Cx (B : Base) (κ₀ : Kw) (sc : Scope) (env : Env) (A : Around) (d : Nat) (cur : Option (Option Nat)) (κ : Kw) (own : Own) (st : St) (s : Shared) : Prop where
  pre : Pre B κ₀ sc env κ own st s
  ao : AOk B env A own s.heap (d + 1) cur.isSome
  fr : env.frame = some env.locals
  cur : ∀ i, cur = some (some i) → ∃ a, A.handled = some (.ref a) ∧ κ.rho i = some a
section
variable {B : Base} {κ₀ : Kw} {G : Genv} {U : Bool → Blts} {O : Bool → Addr → Sp} {sc : Scope} {env : Env} {A A' : Around} {d : Nat} {cur : Option (Option Nat)} {κ κ₁ : Kw} {own own₁ : Own} {st st₁ : St} {s s₁ : Shared} {X : Xp}
theorem Cx.step (c : Cx B κ₀ sc env A d cur κ own st s) (x : StepX B env κ own s κ₁ own₁ st₁ s₁) : Cx B κ₀ sc env A d cur κ₁ own₁ st₁ s₁ :=
  ⟨c.pre.step x, c.ao.step x.grow, c.fr, fun i hi => let ⟨a, h1, h2⟩ := c.cur i hi; ⟨a, h1, x.grow.le.rho _ _ h2⟩⟩
theorem Cx.frames (c : Cx B κ₀ sc env A d cur κ own st s) : ∃ l, Outer B own l s.heap ∧ A.frames = some (env :: l) := by
  obtain ⟨l, h1, ⟨_, h2⟩ | ⟨h2, _⟩⟩ := c.ao.frames
  · exact ⟨l, h1, h2⟩
  · exact absurd c.fr h2
theorem Cx.noted (c : Cx B κ₀ sc env A d cur κ own st s) {e : Value} {E : Value → Shared → Prop} (h : XPo B env κ own s X e s₁)
    (hE : ∀ e s₂, (∃ i st' κ' own' a, X i st' ∧ StepX B env κ own s κ' own' st' s₂ ∧ e = .ref a ∧ κ'.rho i = some a ∧ FlightAt s₂.heap a (rawInt env.locals) ∧ IsExc st'.σ i) → E e s₂) : notedBy (model B.prog B.w) A env E e s₁ := by
  obtain ⟨i, st', κ', own', a, hx, x, rfl, hi, hf, hie⟩ := h
  have c' := c.step x
  obtain ⟨l, ho, hA⟩ := c'.frames
  exact sound_note x.rep c.fr c.ao.kind hA ho hi hie hf fun s' own'' y hy => hE _ _ ⟨i, st', κ', own'', a, hx, x.trans y, rfl, y.grow.le.rho _ _ hi, hy, hie⟩
theorem Cx.back (c : Cx B κ₀ sc env A d cur κ own st s) {e : Value} (h : ∃ i st' κ' own' a, X i st' ∧ StepX B env κ own s κ' own' st' s₁ ∧ e = .ref a ∧ κ'.rho i = some a ∧ FlightAt s₁.heap a (rawInt env.locals) ∧ IsExc st'.σ i) :
    cameBackBy (model B.prog B.w) A' env (XPo B env κ own s X) e s₁ := by
  obtain ⟨i, st', κ', own', a, hx, x, rfl, hi, hf, hie⟩ := h
  exact sound_cameBack x.rep c.fr hi hie hf fun s' y hy => ⟨i, st', κ', own', a, hx, x.trans y, rfl, hi, .inr (.inr ⟨_, c.fr, hy⟩), hie⟩
theorem Cx.notedBack (c : Cx B κ₀ sc env A d cur κ own st s) {e : Value} (h : XPo B env κ own s X e s₁) :
    notedBy (model B.prog B.w) A env (cameBackBy (model B.prog B.w) A' env (XPo B env κ own s X)) e s₁ :=
  c.noted h fun _ _ q => c.back q
variable (B κ₀ G U O d sc) in
def SOk (t : Stmt) (t' : Sx) : Prop := ∀ env A κ own st s Q X cur, Cx B κ₀ sc env A d cur κ own st s → ex G U O t' cur st Q X → Sat B env A (exec t env) FlR Q X κ own s
variable (B κ₀ G U O d sc) in
def SsOk (t : List Stmt) (t' : Sxs) : Prop := ∀ env A κ own st s Q X cur, Cx B κ₀ sc env A d cur κ own st s → exs G U O t' cur st Q X → Sat B env A (execs t env) FlR Q X κ own s
variable (B κ₀ G U O d sc) in
def TgOk (t : Expr) (t' : Tg) : Prop := ∀ env A κ own st s Q X cur av v, Cx B κ₀ sc env A d cur κ own st s → VRel κ av v → asg G U O cur.isSome t' av st Q X → Sat B env A (assign t env v) (fun _ (_ : Unit) _ => True) (fun _ => Q) X κ own s
theorem tg_ok (hG : GOk B κ₀ G) (hU : ∀ hd, UOk B G d hd (U hd)) (hO : ∀ hd, OOk B κ₀ d hd (O hd)) {n : Nat} {t : Expr} {t' : Tg} (h : cT n sc t = some t') : TgOk B κ₀ G U O sc d t t' := by
  intro env A κ own st s Q X cur av v c hv q
  unfold cT at h
  split at h
  · obtain ⟨i, hi, rfl⟩ := Option.map_eq_some_iff.mp h
    unfold cName at hi
    split at hi
    · rename_i hst
      obtain rfl := nameId_dec hi
      simp only [asg] at q
      exact wpAny_assign_Name (sound_bind c.pre c.fr (by unfold storable at hst; simpa using hst) hv fun s' x => ⟨(), _, _, _, q, x, trivial⟩)
    · cases hi
  · split at h
    · rename_i o' i h1 h2
      obtain rfl := Option.some.inj h
      obtain rfl := nameId_dec h2
      simp only [asg] at q
      rw [arm_assign_Attribute]
      refine Sat.bind (Sat.holding ((sound_all hG (hU _) (hO _) n).1 _ _ _ h1 _ _ _ _ _ _ _ _ c.ao c.pre q)) fun κ₁ own₁ s₁ ov va st₁ q x r => ?_
      refine wpAny_bind (wpAny_standAt ?_)
      refine wpAny_bind (wpAny_mono (wpAny_holding (sound_setAt hG (c.pre.step x) r (hv.mono x.grow.le) q)) (fun _ s' ⟨st', hq, y⟩ => ?_) fun _ _ q => q.elim)
      exact wpAny_release ⟨(), st', _, _, hq, y, trivial⟩
    · cases h
  · obtain ⟨xs, hi, rfl⟩ := Option.map_eq_some_iff.mp h
    simp only [asg] at q
    obtain ⟨hcur, q⟩ := q
    cases hv with
    | tup hi' hx =>
      rename_i es x1 pos t avs vs
      obtain ⟨o, n, h1, h2, h3, h4⟩ := (c.pre.rep.rep.imm _ _ hi').2
      simp only at q
      have hlen := hx.length
      have hl2 : ∀ {es : List Expr} {xs : List Nat}, cNames sc es = some xs → es.length = xs.length ∧ ∀ env, (assignEach es env).length = xs.length ∧ (assignEach es env).findIdx? (·.1) = none := by
        intro es
        induction es with
        | nil => intro xs h; obtain rfl := Option.some.inj h; exact ⟨rfl, fun _ => ⟨rfl, rfl⟩⟩
        | cons e r ih =>
          intro xs h
          unfold cNames at h
          split at h
          · rename_i heq; cases heq
          · rename_i x px r' heq
            obtain ⟨rfl, rfl⟩ := List.cons.inj heq
            split at h
            · rename_i i l h1 h2
              obtain rfl := Option.some.inj h
              obtain ⟨j1, j2⟩ := ih h2
              refine ⟨by simp [j1], fun env => ⟨?_, ?_⟩⟩
              · show (assignEach r env).length + 1 = _
                rw [(j2 env).1]; rfl
              · show List.findIdx? _ ((false, _) :: assignEach r env) = none
                rw [List.findIdx?_cons]; simp [(j2 env).2]
            · cases h
          · cases h
      obtain ⟨_, hl3⟩ := hl2 hi
      have hT : s.heap.IsTuple t vs.toArray := ⟨o, h1, h2, n, h4⟩
      refine wpAny_assign_Tuple (c.ao.handled hcur) hT (by rw [(hl3 env).1, q.1, hlen]; simp) (hl3 env).2 fun h' hext => ?_
      have y : StepX B env κ own s κ own st { s with heap := h' } := c.pre.rep.keeps (fun b o e => hext b o (by rintro rfl; rw [size_dead] at e; cases e) e) rfl rfl
      exact sound_binds (c.pre.step y) c.fr hi q.1 hx fun s' z => ⟨(), _, _, _, q.2, y.trans z, trivial⟩
    | _ => exact q.elim
  · cases h
end
end Sm
end
section
set_option maxRecDepth 100000
set_option linter.unusedVariables false
namespace Sm
open PySem PySem.Calls PySem.W
section
variable {B : Base} {κ₀ : Kw} {G : Genv} {U : Bool → Blts} {O : Bool → Addr → Sp} {sc : Scope} {env : Env} {A A' : Around} {d : Nat} {cur : Option (Option Nat)} {κ κ₁ : Kw} {own own₁ : Own} {st st₁ : St} {s s₁ : Shared} {X : Xp} {n : Nat}
theorem Cx.notInter (c : Cx B κ₀ sc env A d cur κ own st s) : interactive env = false := by unfold interactive; rw [c.pre.scope, c.pre.kind]; rfl
theorem noSwap {e : Expr} {t : Option Expr} {l : Nat} (h : isComp e = false) : swapsWith e t l env = pure false := by
  cases e <;> first | rfl | cases h
theorem Cx.ev (hG : GOk B κ₀ G) (hU : ∀ hd, UOk B G d hd (U hd)) (hO : ∀ hd, OOk B κ₀ d hd (O hd)) {e : Expr} {e' : E} (h : cE n sc e = some e') (c : Cx B κ₀ sc env A d cur κ own st s) {Q : VQ}
    (q : ev G (U cur.isSome) (O cur.isSome) cur.isSome e' st Q X) : Sat B env A (eval e env) VR Q X κ own s :=
  (sound_all hG (hU _) (hO _) n).1 _ _ _ h _ _ _ _ _ _ _ _ c.ao c.pre q
theorem Cx.tst (hG : GOk B κ₀ G) (hU : ∀ hd, UOk B G d hd (U hd)) (hO : ∀ hd, OOk B κ₀ d hd (O hd)) {e : Expr} {e' : C} (h : cC n sc e = some e') (c : Cx B κ₀ sc env A d cur κ own st s) {Q : Bool → St → Prop}
    (q : tst G (U cur.isSome) (O cur.isSome) cur.isSome e' st Q X) : Sat B env A (isTrue e env (eval e env)) (fun _ a b => a = b) Q X κ own s :=
  (sound_all hG (hU _) (hO _) n).2.2.2.2.2.1 _ _ _ h _ _ _ _ _ _ _ _ c.ao c.pre q
theorem Sat.after' {α β : Type} {t : Sem α} {Q : β → St → Prop} {rel : Kw → β → α → Prop} (x : StepX B env κ own s κ₁ own₁ st₁ s₁) (h : Sat B env A t rel Q X κ₁ own₁ s₁) :
    wpAny (model B.prog B.w) A t (fun a s' => ∃ b st' κ' own', Q b st' ∧ StepX B env κ own s κ' own' st' s' ∧ rel κ' b a ∧ κ₁.le κ') (XPo B env κ own s X) s₁ :=
  wpAny_mono h (fun c s₂ ⟨d, st', κ₂, own₂, q', y, r'⟩ => ⟨d, st', κ₂, own₂, q', x.trans y, r', y.grow.le⟩)
    fun e s₂ ⟨i, st', κ₂, own₂, a', q', y, r'⟩ => ⟨i, st', κ₂, own₂, a', q', x.trans y, r'⟩
theorem s_expr (hG : GOk B κ₀ G) (hU : ∀ hd, UOk B G d hd (U hd)) (hO : ∀ hd, OOk B κ₀ d hd (O hd)) {e : Expr} {e' : E} {pos : Pos} (hc : isComp e = false) (h : cE n sc e = some e') : SOk B κ₀ G U O sc d (.Expr e pos) (.expr e') := by
  intro env A κ own st s Q X cur c q
  simp only [ex] at q
  exact wpAny_Expr_any (wpAny_mono (c.ev hG hU hO h q) (fun v s' ⟨av, st', κ', own', q, x, r⟩ => ⟨.next, st', κ', own', q, x, .next⟩) fun _ _ q => q) c.notInter (noSwap hc)
theorem each_one {m : Nat} {t : Expr} {t' : Tg} (h : cT m sc t = some t') : assignEach [t] env = [(false, assign t env)] := by
  cases t <;> first | rfl | simp [cT] at h
theorem s_assign (hG : GOk B κ₀ G) (hU : ∀ hd, UOk B G d hd (U hd)) (hO : ∀ hd, OOk B κ₀ d hd (O hd)) {e t : Expr} {e' : E} {t' : Tg} {pos : Pos} (hc : (isComp e || (isTupleE t && isTupleE e)) = false) (ht : cT n sc t = some t') (h : cE n sc e = some e') :
    SOk B κ₀ G U O sc d (.Assign [t] e pos) (.assign t' e') := by
  intro env A κ own st s Q X cur c q
  simp only [ex] at q
  obtain ⟨h1, h2⟩ := Bool.or_eq_false_iff.mp hc
  refine wpAny_Assign_stores ?_ (noSwap h1) ?_
  · refine wpAny_mono (c.ev hG hU hO h q) (fun v s' ⟨av, st', κ', own', q, x, r⟩ => ?_) fun _ _ q => q
    rw [each_one ht]
    show wpAny _ _ (assign t env v) _ _ _
    refine wpAny_mono (Sat.after x (tg_ok hG hU hO ht _ _ _ _ _ _ _ _ _ _ _ (c.step x) r q)) (fun _ s'' ⟨_, st'', κ'', own'', q, y, _⟩ => ⟨.next, st'', κ'', own'', q, y, .next⟩) fun _ _ q => q
  · have hl : ∀ ts p, t ≠ .List ts p := by
      rintro ts p rfl
      simp [cT] at ht
    cases t <;> first | exact absurd rfl (hl _ _) | rfl | (cases e <;> first | rfl | cases h2)
theorem s_augl (hG : GOk B κ₀ G) (hU : ∀ hd, UOk B G d hd (U hd)) (hO : ∀ hd, OOk B κ₀ d hd (O hd)) {x : Str} {i : Nat} {e : Expr} {e' : E} {op : Operator} {p1 pos : Pos} (hk : sc.names.lookup x = some .local) (hi : dec i = x) (h : cE n sc e = some e') :
    SOk B κ₀ G U O sc d (.AugAssign (.Name x p1) op e pos) (.augl i op e') := by
  intro env A κ own st s Q X cur c q
  subst hi
  simp only [ex] at q
  have hkn : env.kindOf (dec i) = some .local := by unfold Env.kindOf; rw [c.pre.scope]; exact hk
  have hsk : env.scope.kind = .function := by rw [c.pre.scope]; exact c.pre.kind
  obtain ⟨m, hm, hr⟩ := c.pre.rep.loc.vars
  have := hr i hkn
  cases hl : st.loc.lookup i with
  | none => rw [hl] at q; exact q.elim
  | some old =>
    rw [hl] at q this
    obtain ⟨v, hv, hvr⟩ := this
    refine wpAny_AugAssign_Name (wpAny_loadName_local hsk hkn hm hv ?_)
    refine wpAny_mono (c.ev hG hU hO h q) (fun v s' ⟨av, st', κ', own', q, x, r⟩ => ?_) fun _ _ q => q
    refine wpAny_mono (sound_inW (env := env) (own := own') (hvr.mono x.grow.le) r q) (fun r s₂ ⟨rv, k, q, hr, he⟩ => ?_) fun _ _ q => q.elim
    subst he
    have y := StepX.toks (x.rep) k
    exact sound_bind ((c.step x).step y).pre c.fr (.inl hk) hr fun s' z => ⟨.next, _, _, _, q, (x.trans y).trans z, .next⟩
theorem s_auga (hG : GOk B κ₀ G) (hU : ∀ hd, UOk B G d hd (U hd)) (hO : ∀ hd, OOk B κ₀ d hd (O hd)) {a : Str} {i : Nat} {o e : Expr} {o' e' : E} {op : Operator} {p1 pos : Pos} (hi : dec i = a) (ho : cE n sc o = some o') (h : cE n sc e = some e') :
    SOk B κ₀ G U O sc d (.AugAssign (.Attribute o a p1) op e pos) (.auga o' i op e') := by
  intro env A κ own st s Q X cur c q
  subst hi
  simp only [ex] at q
  refine wpAny_AugAssign_AttributeAny ?_
  refine wpAny_mono (c.ev hG hU hO ho q) (fun va s₁ ⟨av, st₁, κ₁, own₁, q, x, r⟩ => ?_) fun _ _ q => q
  have c₁ := c.step x
  refine wpAny_mono (Sat.after' x (sound_attr (X := X) hG c₁.pre r q)) (fun vo s₂ ⟨ao, st₂, κ₂, own₂, q, x₂, r₂, le₂⟩ => ?_) fun _ _ q => q
  have c₂ := c.step x₂
  refine wpAny_mono (Sat.after' x₂ (c₂.ev hG hU hO h q)) (fun v s₃ ⟨av, st₃, κ₃, own₃, q, x₃, r₃, le₃⟩ => ?_) fun _ _ q => q
  refine wpAny_mono (sound_inW (env := env) (own := own₃) (r₂.mono le₃) r₃ q) (fun rv s₄ ⟨ra, k, q, hr, he⟩ => ?_) fun _ _ q => q.elim
  subst he
  have y := StepX.toks (x₃.rep) k
  refine wpAny_mono (sound_setAt hG ((c.step x₃).step y).pre (r.mono (le₂.trans le₃)) hr q) (fun _ s₅ ⟨st₅, q, z⟩ => ⟨.next, _, _, _, q, (x₃.trans y).trans z, .next⟩) fun _ _ q => q.elim
theorem s_if (hG : GOk B κ₀ G) (hU : ∀ hd, UOk B G d hd (U hd)) (hO : ∀ hd, OOk B κ₀ d hd (O hd)) {c : Expr} {c' : C} {t o : List Stmt} {t' o' : Sxs} {pos : Pos} (hc : cC n sc c = some c') (ht : SsOk B κ₀ G U O sc d t t') (ho : SsOk B κ₀ G U O sc d o o') :
    SOk B κ₀ G U O sc d (.If c t o pos) (.if_ c' t' o') := by
  intro env A κ own st s Q X cur cx q
  simp only [ex] at q
  refine wpAny_If (wpAny_mono (cx.tst hG hU hO hc q) (fun b s₁ ⟨b', st₁, κ₁, own₁, q, x, r⟩ => ?_) fun _ _ q => q)
  subst r
  cases b' with
  | true => exact Sat.after x (ht _ _ _ _ _ _ _ _ _ (cx.step x) q)
  | false => exact Sat.after x (ho _ _ _ _ _ _ _ _ _ (cx.step x) q)
theorem s_ret (hG : GOk B κ₀ G) (hU : ∀ hd, UOk B G d hd (U hd)) (hO : ∀ hd, OOk B κ₀ d hd (O hd)) {e : Expr} {e' : E} {pos : Pos} (h : cE n sc e = some e') : SOk B κ₀ G U O sc d (.Return (some e) pos) (.ret e') := by
  intro env A κ own st s Q X cur c q
  simp only [ex] at q
  exact wpAny_Return_some (wpAny_mono (c.ev hG hU hO h q) (fun v s' ⟨av, st', κ', own', q, x, r⟩ => ⟨.ret av, st', κ', own', q, x, .ret r⟩) fun _ _ q => q)
theorem s_assert (hG : GOk B κ₀ G) (hU : ∀ hd, UOk B G d hd (U hd)) (hO : ∀ hd, OOk B κ₀ d hd (O hd)) {e : Expr} {m : Option Expr} {e' : C} {pos : Pos} (h : cC n sc e = some e') : SOk B κ₀ G U O sc d (.Assert e m pos) (.assert_ e') := by
  intro env A κ own st s Q X cur c q
  simp only [ex] at q
  exact wpAny_Assert_holds (wpAny_mono (c.tst hG hU hO h q) (fun v s' ⟨av, st', κ', own', q, x, r⟩ => ⟨r ▸ q.1, .next, st', κ', own', q.2, x, .next⟩) fun _ _ q => q)
theorem s_cons {t : Stmt} {t' : Sx} {r : List Stmt} {r' : Sxs} (ht : SOk B κ₀ G U O sc d t t') (hr : SsOk B κ₀ G U O sc d r r') : SsOk B κ₀ G U O sc d (t :: r) (.cons t' r') := by
  intro env A κ own st s Q X cur c q
  simp only [exs] at q
  refine wpAny_execs_cons (wpAny_mono (ht _ _ _ _ _ _ _ _ _ c q) (fun f s₁ ⟨fl, st₁, κ₁, own₁, q, x, r⟩ => ?_) fun _ _ q => q)
  cases r with
  | next => exact Sat.after x (hr _ _ _ _ _ _ _ _ _ (c.step x) q)
  | brk => exact ⟨_, _, _, _, q, x, .brk⟩
  | cont => exact ⟨_, _, _, _, q, x, .cont⟩
  | ret h => exact ⟨_, _, _, _, q, x, .ret h⟩
theorem s_nil : SsOk B κ₀ G U O sc d [] .nil := fun env A κ own st s Q X cur c q => by
  simp only [exs] at q
  exact wpAny_execs_nil ⟨.next, _, _, _, q, .refl c.pre.rep, .next⟩
end
end Sm
end
section
set_option maxRecDepth 100000
set_option linter.unusedVariables false
namespace Sm
open PySem PySem.Calls PySem.W
section
variable {B : Base} {κ₀ : Kw} {G : Genv} {U : Bool → Blts} {O : Bool → Addr → Sp} {sc : Scope} {env : Env} {A A' : Around} {d : Nat} {cur : Option (Option Nat)} {κ κ₁ : Kw} {own own₁ : Own} {st st₁ : St} {s s₁ : Shared} {X : Xp} {n : Nat}
theorem Sat.afterG {α β : Type} {t : Sem α} {Q : β → St → Prop} {rel : Kw → β → α → Prop} (x : StepX B env κ own s κ₁ own₁ st₁ s₁) (h : Sat B env A t rel Q X κ₁ own₁ s₁) :
    wpAny (model B.prog B.w) A t (fun a s' => ∃ b st' κ' own', Q b st' ∧ StepX B env κ own s κ' own' st' s' ∧ rel κ' b a ∧ Grow κ₁ own₁ s₁ κ' own' s') (XPo B env κ own s X) s₁ :=
  wpAny_mono h (fun c s₂ ⟨d, st', κ₂, own₂, q', y, r'⟩ => ⟨d, st', κ₂, own₂, q', x.trans y, r', y.grow⟩)
    fun e s₂ ⟨i, st', κ₂, own₂, a', q', y, r'⟩ => ⟨i, st', κ₂, own₂, a', q', x.trans y, r'⟩
theorem s_while (hG : GOk B κ₀ G) (hU : ∀ hd, UOk B G d hd (U hd)) (hO : ∀ hd, OOk B κ₀ d hd (O hd)) {c : Expr} {c' : C} {b : List Stmt} {b' : Sxs} {pos : Pos} (hc : cC n sc c = some c') (hb : SsOk B κ₀ G U O sc d b b') :
    SOk B κ₀ G U O sc d (.While c b [] pos) (.while_ c' b') := by
  intro env A κ own st s Q X cur cx q
  simp only [ex] at q
  obtain ⟨I, k, h0, hI⟩ := q
  have hm : A.mark none = A := by cases A; rfl
  refine wpAny_While ?_
  refine codeAny_whileLoop (fun n s' => ∃ st' κ' own', I n st' ∧ StepX B env κ own s κ' own' st' s') (fun n s₁ hs₁ => ?_) k ⟨st, κ, own, h0, .refl cx.pre.rep⟩
  obtain ⟨st₁, κ₁, own₁, hi, x⟩ := hs₁
  refine wpAny_mono (Sat.after x ((cx.step x).tst hG hU hO hc (hI n st₁ hi))) (fun b s₂ hs₂ => ?_) fun e s₂ h => cx.notedBack h
  obtain ⟨b', st₂, κ₂, own₂, q, x₂, r⟩ := hs₂
  subst r
  cases b' with
  | true =>
    rw [if_pos rfl]
    refine wpAny_mono (Sat.after x₂ (hb _ _ _ _ _ _ _ _ _ (cx.step x₂) q)) (fun f s₃ hs₃ => ?_) fun e s₂ h => cx.notedBack h
    obtain ⟨fl, st₃, κ₃, own₃, q, x₃, r⟩ := hs₃
    cases r with
    | next => obtain ⟨m, hm, hi⟩ := q; exact ⟨m, hm, st₃, κ₃, own₃, hi, x₃⟩
    | cont => obtain ⟨m, hm, hi⟩ := q; exact ⟨m, hm, st₃, κ₃, own₃, hi, x₃⟩
    | brk => exact ⟨.next, _, _, _, q, x₃, .next⟩
    | ret h => exact ⟨.ret _, _, _, _, q, x₃, .ret h⟩
  | false =>
    rw [if_neg (by decide)]
    exact wpAny_execs_nil ⟨.next, _, _, _, q, x₂, .next⟩
theorem noFold {e : Expr} (h : isSetDisplay e = false) (v : Value) : foldedSetIterable e env v = pure v := by
  cases e <;> first | rfl | cases h
theorem s_for (hG : GOk B κ₀ G) (hU : ∀ hd, UOk B G d hd (U hd)) (hO : ∀ hd, OOk B κ₀ d hd (O hd)) {t it : Expr} {t' : Tg} {it' : E} {b : List Stmt} {b' : Sxs} {pos : Pos} (hset : isSetDisplay it = false) (ht : cT n sc t = some t') (hit : cE n sc it = some it') (hb : SsOk B κ₀ G U O sc d b b') :
    SOk B κ₀ G U O sc d (.For t it b [] pos) (.for_ t' it' b') := by
  intro env A κ own st s Q X cur cx q
  simp only [ex] at q
  refine wpAny_For ?_ (noFold hset)
  refine wpAny_mono (cx.ev hG hU hO hit q) (fun va s₁ hs₁ => ?_) fun _ _ q => q
  obtain ⟨itv, st₁, κ₁, own₁, ⟨hcur, hok, N, I, h0, hI⟩, x₁, r⟩ := hs₁
  subst hcur
  have hh : A.handled = none := cx.ao.handled rfl
  refine iter_start x₁.rep r hok fun It s₂ hnew hIt hk hg ho => ?_
  have y := x₁.rep.keeps hk hg ho
  have hoI : own₁ It = none := x₁.rep.dead hnew
  have hsI : s.heap.get? It = none := by
    cases e : s.heap.get? It with
    | none => rfl
    | some o =>
      exfalso
      by_cases hcase : own It = none
      · by_cases hf : o.cls = .type "frame"
        · obtain ⟨sl, e'⟩ := x₁.grow.keep.frames It o hcase hf e; rw [hnew] at e'; cases e'
        · have e' := x₁.grow.keep.rest It o hcase hf e; rw [hnew] at e'; cases e'
      · cases ho : own It with
        | none => exact hcase ho
        | some t => have := x₁.grow.own It t ho; rw [hoI] at this; cases this
  have hBI : B.h.get? It = none := by
    cases e : B.h.get? It with
    | none => rfl
    | some o => have := x₁.rep.rep.stays _ _ e; rw [hnew] at this; cases this
  have nfrm : ∀ n, n ∈ ["tuple_iterator", "bytes_iterator", "range_iterator", "list_iterator"] → Value.type n ≠ .type "frame" ∧ n ∉ ["tuple", "range"] := by decide
  refine codeAny_forLoop_any (fun m s' => ∃ k st' κ' own', I k st' ∧ StepX B env κ own s κ' own' st' s' ∧ ItAt κ' s'.heap It itv k ∧ own' It = none ∧ m = N + 1 - k) (fun m s₃ hs₃ => ?_) (N + 1) ⟨0, st₁, κ₁, own₁, h0, x₁.trans y, hIt, hoI, by omega⟩
  obtain ⟨k, st₃, κ₃, own₃, hi, x₃, hit₃, ho₃, hm⟩ := hs₃
  obtain ⟨hkN, hturn⟩ := hI k st₃ hi
  obtain ⟨oI, nI, e1, e2, e3, vsI, e4⟩ := hit₃.obj
  have touch : ∀ {s₄ : Shared}, (∀ b o, b ≠ It → s₃.heap.get? b = some o → s₄.heap.get? b = some o) → s₄.gens = s₃.gens → s₄.os = s₃.os → StepX B env κ own s κ₃ own₃ st₃ s₄ := fun hk hg ho =>
    x₃.touch hsI hBI ho₃ e1 e2 (nfrm _ e3).2 (by rw [e4]; simp) hk hg ho
  refine iter_next hh x₃.rep hit₃ (fun av v s₄ hto hv hit₄ hk hg ho => ?_) (fun s₄ hto hk hg ho => ?_) (fun hbad => by rw [hbad] at hturn; exact hturn)
  · rw [hto] at hturn
    simp only at hturn
    have x₄ := touch hk hg ho
    have hs₄I : ∃ o, s₄.heap.get? It = some o := let ⟨o, _, e, _⟩ := hit₄.obj; ⟨o, e⟩
    refine iter_let hit₄ ?_
    refine wpAny_mono (Sat.afterG x₄ (tg_ok hG hU hO ht _ _ _ _ _ _ _ _ _ _ _ (cx.step x₄) hv hturn)) (fun _ s₅ hs₅ => ?_) fun e s₂ h => cx.notedBack h
    obtain ⟨_, st₅, κ₅, own₅, q, x₅, _, g₅⟩ := hs₅
    refine wpAny_mono (Sat.afterG x₅ (hb _ _ _ _ _ _ _ _ _ (cx.step x₅) q)) (fun f s₆ hs₆ => ?_) fun e s₂ h => cx.notedBack h
    obtain ⟨fl, st₆, κ₆, own₆, q, x₆, r, g₆⟩ := hs₆
    have g := g₅.trans g₆
    have again : I (k + 1) st₆ → ∃ m', m' < m ∧ ∃ k st' κ' own', I k st' ∧ StepX B env κ own s κ' own' st' s₆ ∧ ItAt κ' s₆.heap It itv k ∧ own' It = none ∧ m' = N + 1 - k := fun hi' => by
      obtain ⟨oI', nI', f1, f2, f3, _⟩ := hit₄.obj
      refine ⟨N + 1 - (k + 1), by omega, k + 1, st₆, κ₆, own₆, hi', x₆, hit₄.step g.le fun o e => g.keep.rest It o ho₃ ?_ e, g.unowned f1 ho₃, rfl⟩
      rw [f1] at e; obtain rfl := Option.some.inj e
      rw [f2]; exact (nfrm _ f3).1
    cases r with
    | next => exact again q
    | cont => exact again q
    | brk => exact ⟨.next, _, _, _, q, x₆, .next⟩
    | ret h => exact ⟨.ret _, _, _, _, q, x₆, .ret h⟩
  · rw [hto] at hturn
    exact wpAny_execs_nil ⟨.next, _, _, _, hturn, touch hk hg ho, .next⟩
end
end Sm
end
section
set_option maxRecDepth 100000
set_option linter.unusedVariables false
namespace Sm
open PySem PySem.Calls PySem.W
section
variable {M : Model} {A : Around} {E : Value → Shared → Prop} {s : Shared}
theorem nsDelC {a : Addr} {m} {name : Str} {Q : Bool → Shared → Prop} (hn : s.heap.Ns a m)
    (hQ : ∀ h' v, h'.Ns a (fun x => if x = name then v else m x) → Heap.SameBut a s.heap h' → (∀ o, s.heap.get? a = some o → ∃ o', h'.get? a = some o' ∧ o'.cls = o.cls) → Q (m name).isSome { s with heap := h' }) : wpAny M A (nsDel a name) Q E s := by
  obtain ⟨⟨cl, dc, dt, sl⟩, es, ep, ho, hd, hk, hm⟩ := id hn
  subst hd
  have quiet : es.any (·.refKey) = false := Array.any_eq_false'.mpr fun e he => by
    obtain ⟨n, t, h⟩ := hk e he
    simp [DictEntry.refKey, h]
  have look : ∀ x, nsFind es x = m x := hm
  have some_iff : es.any (·.key.isStr name) = (m name).isSome := by
    rw [← look name]
    show _ = Option.isSome (Option.map _ _)
    rw [Option.isSome_map, Bool.eq_iff_iff, Array.any_eq_true, Array.find?_isSome]
    exact ⟨fun ⟨i, hi, hp⟩ => ⟨_, Array.getElem_mem hi, hp⟩, fun ⟨x, hx, hp⟩ => let ⟨i, hi, e⟩ := Array.mem_iff_getElem.mp hx; ⟨i, hi, e ▸ hp⟩⟩
  have has : nsHas name ⟨cl, dc, .dict es ep, sl⟩ = pure (m name).isSome := by
    rw [nsHas_eq, ← some_iff]
    unfold nsHasByArray
    show (if (es.any fun x => x.key.isStr name) = true then _ else _) = _
    generalize (es.any fun x => x.key.isStr name) = b
    cases b <;> simp [quiet]
  unfold nsDel
  refine wpAny_bind (wpAny_loadPart ho ?_)
  rw [has]
  refine wpAny_bind (wpAny_pure ?_)
  cases e : (m name).isSome with
  | false => exact wpAny_pure (e ▸ hQ s.heap (m name) ⟨_, es, ep, ho, rfl, hk, fun x => by by_cases h : x = name <;> simp [h, look]⟩ (.refl ..) fun o h => ⟨o, h, rfl⟩)
  | true =>
    refine wpAny_bind (wpAny_updatePart ho (wpAny_pure ?_))
    rw [← e]
    cases hi : es.findIdx? (·.key.isStr name) with
    | none =>
      have g := Heap.get?_update_self (h := s.heap) (Obj.dropName name) ho (by simp only [Obj.dropName_eq, Obj.dropNameByArray, hi]; rfl)
      refine hQ _ (m name) ⟨_, es, ep, g, by simp only [Obj.dropName_eq, Obj.dropNameByArray, hi], hk, fun x => by by_cases h : x = name <;> simp [h, look]⟩ (Heap.SameBut.update ..) fun o h => ⟨_, g, ?_⟩
      rw [ho] at h; obtain rfl := Option.some.inj h
      simp only [Obj.dropName_eq, Obj.dropNameByArray, hi]
    | some i =>
      have g := Heap.get?_update_self (h := s.heap) (Obj.dropName name) ho (by simp only [Obj.dropName_eq, Obj.dropNameByArray, hi]; rfl)
      refine hQ _ (nsFind (es.eraseIdxIfInBounds i) name) ⟨_, es.eraseIdxIfInBounds i, ep + 1, g, by simp only [Obj.dropName_eq, Obj.dropNameByArray, hi], hk.erase i, fun x => ?_⟩ (Heap.SameBut.update ..) fun o h => ⟨_, g, ?_⟩
      · by_cases h : x = name
        · subst h; simp
        · simp only [h, if_false]; rw [nsFind_erase_other hi h, look]
      · rw [ho] at h; obtain rfl := Option.some.inj h
        simp only [Obj.dropName_eq, Obj.dropNameByArray, hi]
end
section
variable {B : Base} {κ₀ : Kw} {sc : Scope} {env : Env} {A : Around} {κ : Kw} {own : Own} {st : St} {s : Shared}
theorem look_filter (i : Nat) : ∀ l : List (Nat × AV), ∀ j, (l.filter fun p => !Nat.beq p.1 i).lookup j = if j = i then none else l.lookup j
  | [], j => by simp
  | (k, v) :: l, j => by
    rw [List.filter_cons]
    by_cases h : k = i
    · subst h
      simp only [Nat.beq_refl, Bool.not_true, Bool.false_eq_true, if_false]
      rw [look_filter k l j, List.lookup_cons]
      by_cases hj : j = k
      · simp [hj]
      · simp [hj, beq_eq_false_iff_ne.mpr hj]
    · have : Nat.beq k i = false := by
        cases e : Nat.beq k i with
        | false => rfl
        | true => exact absurd (Nat.eq_of_beq_eq_true e) h
      simp only [this, Bool.not_false, if_true, List.lookup_cons]
      cases e : j == k with
      | true =>
        have := beq_iff_eq.mp e
        subst this
        simp [h]
      | false => exact look_filter i l j
theorem delL_look (i : Nat) (st : St) (j : Nat) : (delL i st).loc.lookup j = if j = i then none else st.loc.lookup j := look_filter i st.loc j
theorem sound_unbind {i : Nat} {pos : Pos} {F : Unit → Shared → Prop} {E : Value → Shared → Prop} (p : Pre B κ₀ sc env κ own st s) (hfr : env.frame = some env.locals) (hk : sc.names.lookup (dec i) = some .local)
    (hF : ∀ s', StepX B env κ own s κ own (delL i st) s' → F () s') :
    wpAny (model B.prog B.w) A (do bindName env (dec i) .none; unbindBehindTheSuite env (dec i) pos) F E s := by
  have hkn : env.kindOf (dec i) = some .local := by unfold Env.kindOf; rw [p.scope]; exact hk
  have hsk : env.scope.kind = .function := by rw [p.scope]; exact p.kind
  have hp : (env.scope.kind == .class || (env.scope.kind == .module && env.locals != env.globals)) = false := by rw [hsk]; rfl
  refine wpAny_bind (wpAny_bindName (sound_bind p hfr (.inl hk) .none fun s₁ x => ?_))
  obtain ⟨m, hm, hr⟩ := x.rep.loc.vars
  unfold unbindBehindTheSuite
  refine wpAny_onRaise ?_
  unfold unbindName
  refine wpAny_bind (wpAny_point (wpAny_bind ?_))
  unfold deleteName
  simp only [hkn, hp]
  rw [if_neg (by decide)]
  refine wpAny_bind (nsDelC hm fun h₂ v hn₂ hs₂ hc₂ => ?_)
  have hi := hr i hkn
  rw [setL_look, if_pos rfl] at hi
  obtain ⟨w, hw, _⟩ := hi
  simp only [hw, if_true, Option.isSome_some, Bool.not_true, Bool.false_eq_true, if_false]
  refine wpAny_pure (wpAny_point (hF _ (x.trans ?_)))
  obtain ⟨of, hof, hofc⟩ := x.rep.loc.isFrame
  obtain ⟨of', hof', hofc'⟩ := hc₂ of hof
  have keep : ∀ b o, b ≠ env.locals → s₁.heap.get? b = some o → h₂.get? b = some o := fun b o hb e => (hs₂.2 b hb).trans e
  obtain ⟨r, g⟩ := x.rep.rep.frm (s' := { s₁ with heap := h₂ }) (fun b o hb => keep b o (by rintro rfl; exact hb x.rep.loc.owned)) (fun b hb => by
    by_cases e : b = env.locals
    · subst e; exact ⟨_, hof'⟩
    · obtain ⟨o, e'⟩ := x.rep.rep.live b _ hb; exact ⟨o, keep b o e e'⟩) rfl rfl
  have hl : ∀ j, j ≠ i → (delL i st).loc.lookup j = (setL i .none st).loc.lookup j := fun j hj => by rw [delL_look, setL_look, if_neg hj, if_neg hj]
  refine ⟨⟨r, ⟨x.rep.loc.owned, x.rep.loc.fresh, ⟨of', hof', fun e => by rw [hofc', hofc e]⟩, ⟨_, hn₂, fun j hj => ?_⟩, fun j hj => ?_, x.rep.loc.apart, fun j hj => ?_⟩⟩, g⟩
  · by_cases e : j = i
    · subst e; rw [delL_look, if_pos rfl]; trivial
    · rw [hl j e]
      simp only [show dec j ≠ dec i from fun q => e (dec_inj q), if_false]
      exact hr j hj
  · obtain ⟨c, w, h1, h2, h3, h4, h5⟩ := x.rep.loc.cells j hj
    have e : j ≠ i := by rintro rfl; rw [hkn] at hj; cases hj
    exact ⟨c, w, h1, h2, h3, let ⟨o, e1, e2⟩ := h4; ⟨o, keep c o h2 e1, e2⟩, by rw [hl j e]; exact h5⟩
  · obtain ⟨c, w, h1, h2, h3, h4⟩ := x.rep.loc.frees j hj
    have e : j ≠ i := by rintro rfl; rw [hkn] at hj; cases hj
    exact ⟨c, w, h1, h2, let ⟨o, e1, e2⟩ := h3; ⟨o, keep c o (by rintro rfl; rw [x.rep.loc.owned] at h2; cases h2) e1, e2⟩, by rw [hl j e]; exact h4⟩
end
end Sm
end
section
set_option maxRecDepth 100000
set_option linter.unusedVariables false
namespace Sm
open PySem PySem.Calls PySem.W
section
variable {B : Base} {κ : Kw} {own : Own} {s : Shared}
theorem StepX.adoptObj {env : Env} {κ₁ : Kw} {own₁ : Own} {st₁ : St} {s₁ : Shared} {D : Addr} {oD : AObj} {ob : Obj} (x : StepX B env κ own s κ₁ own₁ st₁ s₁) (hD : s.heap.get? D = none) (hB : B.h.get? D = none) (hDo : own₁ D = none)
    (hDl : s₁.heap.get? D = some ob) (hc : ∀ n, n ∈ ["tuple", "range"] → ob.cls ≠ .type n) (hcell : ∀ v, ob.data ≠ .cell v)
    (hO : ORep B (κ₁.addObj st₁.σ.length D) (ownAdd own₁ D (.obj st₁.σ.length)) s₁.heap st₁.σ.length D oD) :
    StepX B env κ own s (κ₁.addObj st₁.σ.length D) (ownAdd own₁ D (.obj st₁.σ.length)) { st₁ with σ := st₁.σ ++ [oD] } s₁ ∧ (κ₁.addObj st₁.σ.length D).rho st₁.σ.length = some D := by
  have L := x.rep.addLe D
  have ko : ∀ b t, own₁ b = some t → ownAdd own₁ D (.obj st₁.σ.length) b = some t := fun b t h => by
    show (if b = D then _ else _) = _
    rw [if_neg]
    · exact h
    · rintro rfl; rw [hDo] at h; cases h
  have kn : ∀ b t, ownAdd own₁ D (.obj st₁.σ.length) b = some t → own₁ b = some t ∨ (b = D ∧ t = .obj st₁.σ.length) := fun b t h => by
    have h' : (if b = D then some (Tag.obj st₁.σ.length) else own₁ b) = some t := h
    split at h'
    · exact .inr ⟨by assumption, (Option.some.inj h').symm⟩
    · exact .inl h'
  have nD : ∀ b, b ≠ D → own₁ b = none → ownAdd own₁ D (.obj st₁.σ.length) b = none := fun b e h => by show (if b = D then _ else _) = _; rw [if_neg e]; exact h
  obtain ⟨⟨r, l⟩, g⟩ := x
  refine ⟨⟨⟨⟨r.stays, fun b t h => ?_, fun b t h => ?_, fun i b h => ?_, fun i o' h => ?_, fun i b h => ?_, fun b v h => ⟨?_, (r.imm b v h).2⟩, r.gens, r.os⟩,
    ⟨ko _ _ l.owned, l.fresh, l.isFrame, let ⟨m, a, b⟩ := l.vars; ⟨m, a, fun i hi => (b i hi).mono L⟩, fun i hi => ?_, l.apart, fun i hi => ?_⟩⟩, ⟨g.le.trans L, g.keep, fun b t h => ?_, g.newImm, fun b t h => ko b t (g.own b t h)⟩⟩, if_pos rfl⟩
  · rcases kn b t h with z | ⟨rfl, _⟩
    · exact r.apart b t z
    · exact hB
  · rcases kn b t h with z | ⟨rfl, _⟩
    · exact r.live b t z
    · exact ⟨_, hDl⟩
  · have h' : (if i = st₁.σ.length then some D else κ₁.rho i) = some b := h
    split at h'
    · rename_i e; subst e; obtain rfl := Option.some.inj h'; exact if_pos rfl
    · exact ko _ _ (r.dom i b h')
  · by_cases e : i < st₁.σ.length
    · rw [List.getElem?_append_left e] at h
      obtain ⟨b, h1, h2⟩ := r.objs i o' h
      exact ⟨b, L.rho _ _ h1, h2.step L ko (r.dom i b h1) fun b ob _ e => e⟩
    · have : i = st₁.σ.length := by
        have := (List.getElem?_eq_some_iff.mp h).1
        simp only [List.length_append, List.length_cons, List.length_nil] at this
        omega
      subst this
      rw [List.getElem?_append_right (Nat.le_refl _), Nat.sub_self] at h
      obtain rfl := Option.some.inj h
      exact ⟨D, if_pos rfl, hO⟩
  · have h' : (if i = st₁.σ.length then some D else κ₁.rho i) = some b := h
    simp only [List.length_append, List.length_cons, List.length_nil]
    split at h'
    · omega
    · have := r.bound i b h'; omega
  · have h1 := (r.imm b v h).1
    refine nD b ?_ h1
    rintro rfl
    have := (r.imm b v h).2
    cases v with
    | tup vs' => obtain ⟨o, n', e1, e2, _⟩ := this; rw [hDl] at e1; obtain rfl := Option.some.inj e1; exact hc _ (by decide) e2
    | lst vs' => obtain ⟨⟨o', e1, _⟩, _⟩ := this; rw [hB] at e1; cases e1
    | rng i j k => obtain ⟨t, u, w, e1⟩ := this; have e1' : s₁.heap.get? b = some _ := e1; rw [hDl] at e1'; have := congrArg Obj.cls (Option.some.inj e1'); exact hc _ (by decide) this
  · obtain ⟨c, v, h1, h2, h3, h4, h5⟩ := l.cells i hi
    refine ⟨c, v, h1, h2, h3.imp (ko _ _) fun ⟨a, b⟩ => ⟨a, nD c ?_ b⟩, h4, h5.mono L⟩
    rintro rfl; obtain ⟨o, e1, e2⟩ := h4; rw [hDl] at e1; obtain rfl := Option.some.inj e1; exact hcell _ e2
  · obtain ⟨c, v, h1, h2, h4, h5⟩ := l.frees i hi
    refine ⟨c, v, h1, nD c ?_ h2, h4, h5.mono L⟩
    rintro rfl; obtain ⟨o, e1, e2⟩ := h4; rw [hDl] at e1; obtain rfl := Option.some.inj e1; exact hcell _ e2
  · rcases kn b t h with z | ⟨rfl, _⟩
    · exact g.newOwn b t z
    · exact .inr hD
end
section
variable {M : Model} {A : Around} {E : Value → Shared → Prop} {h : Heap} {g : Array GenState} {d : Drawn} {t : Nat} {os : OsState}
variable {nm q nm' q' : Str} {C N D N' : Addr} {bs bm bs' bm' : List Value} {hdct hdct' : Bool} {sn sn' : List Str} {sub sub' : List Value} {ab ab' : Bool} {col col' : Option Bool} {dd dd' : Option Addr} {k0 k1 k2 k3 k5 j0 j1 j2 j3 j5 : Option Value} {newId newId' : String}
theorem excMatches_other {e : Addr} {oe : Obj} {Q : Bool → Shared → Prop}
    (hC : h.get? C = some (excClassObj nm q C N bs bm hdct sn sub ab col dd k0 k1 k2 k3 k5 newId)) (hD : h.get? D = some (excClassObj nm' q' D N' bs' bm' hdct' sn' sub' ab' col' dd' j0 j1 j2 j3 j5 newId')) (he : h.get? e = some oe) (hcls : oe.cls = .ref C)
    (hbase : bm'.contains (.type "BaseException") = true) (hne : C ≠ D) (hno : bm.contains (.ref D) = false)
    (hq : Q false ⟨h, g, d, t, os⟩) : wpAny M A (excMatches (.ref e) (.ref D)) Q E ⟨h, g, d, t, os⟩ := by
  have hcB : (Value.ref D :: bm').contains (.type "BaseException") = true := by rw [List.contains_cons, hbase, Bool.or_true]
  have hcC : (Value.ref C :: bm).contains (.ref D) = false := by rw [List.contains_cons, hno, Bool.or_false]; exact beq_eq_false_iff_ne.mpr fun q => hne (by cases q; rfl)
  have f := tc_notTuple
  unfold excMatches
  repeat (first | (with_reducible refine wpAny_loadPart_at he ?_; rw [hcls]) | with_reducible refine wpAny_loadPart_at hD ?_ | (with_reducible refine wpAny_isSubtype_exc hD ?_; rw [hcB]) | (with_reducible refine wpAny_isSubtype_exc hC ?_; rw [hcC]) | wp_step)
  exact hq
end
theorem excT_base {T : String} (h : (T == "Exception" || T == "ValueError" || T == "UnicodeDecodeError") = true) : isSubtype (.type T) (.type "BaseException") = pure true ∧ isSubtype (.type ((Manifest.find? T).elim "type" fun x => x.metatype)) (.type "tuple") = pure false := by
  simp only [Bool.or_eq_true, beq_iff_eq] at h
  rcases h with (rfl | rfl) | rfl <;> exact ⟨by kernel_rfl, by kernel_rfl⟩
section
variable {B : Base} {κ₀ : Kw} {G : Genv} {U : Bool → Blts} {O : Bool → Addr → Sp} {sc : Scope} {env : Env} {A A' : Around} {d : Nat} {cur : Option (Option Nat)} {κ κ₁ : Kw} {own own₁ : Own} {st st₁ : St} {s s₁ : Shared} {X : Xp} {n : Nat}
theorem sound_caught {i : Nat} {a : Addr} {fl : Value} (p : RepX B κ own env st s) (hi : κ.rho i = some a) (hx : IsExc st.σ i) (hf : FlightAt s.heap a fl) : StepX B env κ own s κ own (caught i st) s ∧ ∃ c args fs, (caught i st).σ[i]? = some (.exc c args fs true) := by
  obtain ⟨c, args, fs, tb, hσ, hr⟩ := exc_rec p.rep hi hx
  obtain ⟨ob, vs, m, h1, h2, h3, h4, h5, h6, h7, h8, h9⟩ := hr
  obtain ⟨ob', vs', T, oT, ts, e1, e2, e3, e4, e5, e6⟩ := hf
  rw [h1] at e1; obtain rfl := Option.some.inj e1
  rw [h3] at e2; obtain rfl := Data.fields.inj e2
  have hlt : i < st.σ.length := (List.getElem?_eq_some_iff.mp hσ).1
  unfold caught
  rw [hσ]
  refine ⟨p.setObj (o := .exc c args fs true) (own' := own) hi rfl rfl (fun _ _ _ _ h => h) (fun b hb => ?_) (fun _ _ h => h) (fun _ _ h => .inl h) ⟨ob, vs, m, h1, h2, h3, h4, h5, h6, h7, h8, ?_⟩, c, args, fs, by simp [hlt]⟩
  · rcases hb with hb | hb <;> exact p.rep.live b _ hb
  · rcases h9 with ⟨_, h9⟩ | h9
    · rw [e3] at h9; cases h9
    · exact .inr h9
theorem nInit_dec : dec nInit = "__init__" := dec_enc (by decide)
theorem sound_matches (hG : GOk B κ₀ G) {i : Nat} {a : Addr} {tv : AV} {v : Value} {b : Bool} {Q : Bool → Shared → Prop} {E : Value → Shared → Prop} (p : Pre B κ₀ sc env κ own st s) (hi : κ.rho i = some a) (hv : VRel κ tv v) (hm : matchExc G st.σ i tv = some b)
    (hq : Q b s) : wpAny (model B.prog B.w) A (excMatches (.ref a) v) Q E s := by
  unfold matchExc at hm
  split at hm
  · rename_i C args fs hσ
    obtain ⟨a', ha', hr⟩ := p.rep.rep.objs i _ hσ
    rw [hi] at ha'
    obtain rfl := Option.some.inj ha'
    obtain ⟨ob, vs, m, h1, h2, _⟩ := hr
    split at hm
    · rename_i c hc
      split at hm
      · rename_i up hup
        obtain ⟨nm, q, N, bs, bm, hdct, sn, sub, ab, col, dd, k0, k1, k2, k3, k5, bB, newId, initId, mN, hC, F, hN, hat, hT, hno⟩ := (hG.cls C c hc).excp up hup
        have hC' := p.rep.rep.stays _ _ hC
        split at hm
        · rename_i D
          have : v = .ref D := by cases hv; rfl
          subst this
          split at hm
          · rename_i e
            obtain rfl := Nat.eq_of_beq_eq_true e
            obtain rfl := Option.some.inj hm
            obtain ⟨hh, g, dr, t, os⟩ := s
            exact wpAny_excMatches_sub_self hC' h1 h2 F.hasBase hq
          · rename_i e
            have hne : C ≠ D := fun q => by subst q; simp at e
            split at hm
            · rename_i c' hc'
              split at hm
              · rename_i up' hup'
                obtain rfl := Option.some.inj hm
                obtain ⟨nm', q', N', bs', bm', hdct', sn', sub', ab', col', dd', j0, j1, j2, j3, j5, bB', newId', initId', mN', hC2, F', _⟩ := (hG.cls D c' hc').excp up' hup'
                have hC2' := p.rep.rep.stays _ _ hC2
                obtain ⟨hh, g, dr, t, os⟩ := s
                exact excMatches_other hC' hC2' h1 h2 F'.hasBase hne (hno D) hq
              · cases hm
            · cases hm
        · rename_i T
          have : v = .type T := by cases hv; rfl
          subst this
          split at hm
          · rename_i e
            obtain rfl := Option.some.inj hm
            obtain ⟨g1, g2⟩ := excT_base e
            rw [← hT] at hq
            obtain ⟨hh, g, dr, t, os⟩ := s
            exact wpAny_excMatches_sub_type hC' h1 h2 g1 g2 hq
          · cases hm
        · cases hm
      · cases hm
    · cases hm
  · cases hm
end
end Sm
end
section
set_option maxRecDepth 100000
set_option linter.unusedVariables false
namespace Sm
open PySem PySem.Calls PySem.W
section
variable {B : Base} {κ₀ : Kw} {G : Genv} {U : Bool → Blts} {O : Bool → Addr → Sp} {sc : Scope} {env : Env} {A A' : Around} {d : Nat} {cur : Option (Option Nat)} {κ κ₁ : Kw} {own own₁ : Own} {st st₁ : St} {s s₁ : Shared} {X : Xp} {n : Nat}
theorem s_raise (hG : GOk B κ₀ G) (hU : ∀ hd, UOk B G d hd (U hd)) (hO : ∀ hd, OOk B κ₀ d hd (O hd)) {e : Expr} {e' : E} {pos : Pos} (h : cE n sc e = some e') : SOk B κ₀ G U O sc d (.Raise (some e) none pos) (.raise_ e') := by
  intro env A κ own st s Q X cur c q
  simp only [ex] at q
  rw [arm_exec_Raise]
  refine wpAny_bind (wpAny_standAt ?_)
  show wpAny _ _ (raiseStmt env (some (do let v ← eval e env; standAt pos; pure v)) none) _ _ _
  obtain ⟨hcur, q⟩ := q
  · subst hcur
    refine raise_class (c.ao.handled rfl) (wpAny_bind (wpAny_mono (c.ev hG hU hO h q) (fun v s₁ hs₁ => ?_) fun _ _ q => q))
    obtain ⟨av, st₁, κ₁, own₁, q, x, r⟩ := hs₁
    refine wpAny_bind (wpAny_standAt (wpAny_pure ?_))
    cases r with
    | glob C =>
      simp only at q
      cases hc : G.cls.lookup C with
      | none => rw [hc] at q; exact q.elim
      | some cl =>
        rw [hc] at q
        obtain ⟨q1, q2, hX⟩ := q
        obtain ⟨up, hup⟩ := Option.isSome_iff_exists.mp q1
        obtain ⟨nm, q, N, bs, bm, hdct, sn, sub, ab, col, dd, k0, k1, k2, k3, k5, bB, newId, initId, mN, hC, F, hN, hat, hT, hno⟩ := (hG.cls C cl hc).excp up hup
        have hni : mN (dec nInit) = none := hat _ _ q2
        rw [nInit_dec] at hni
        refine ⟨nm, q, C, N, bs, bm, hdct, sn, sub, ab, col, dd, k0, k1, k2, k3, k5, bB, newId, initId, mN, F, rfl, x.rep.rep.stays _ _ hC, (c.pre.step x).ns hN, hni, fun h' e hm => ?_⟩
        obtain ⟨ta, he, hta, htb⟩ := hm.there
        obtain ⟨y, hy⟩ := x.rep.newImm (s' := { s₁ with heap := h' }) (a := ta) (v := .tup []) hm.keeps rfl rfl hta ⟨_, _, htb, rfl, rfl, rfl⟩
        have hB : B.h.get? e = none := by
          cases q : B.h.get? e with
          | none => rfl
          | some o => have := x.rep.rep.stays _ _ q; rw [hm.new] at this; cases this
        obtain ⟨z, hz⟩ := y.adoptObj (oD := .exc (.ref C) [] [] false) hm.new hB (x.rep.dead hm.new) he (by intro n _; simp) (by intro v; simp)
          ⟨_, _, fun _ => none, he, rfl, rfl, by simp, ⟨fun i => rfl, fun y hy => absurd rfl hy⟩, .inl ⟨rfl, fun _ => rfl⟩, by simp, ⟨ta, [], rfl, hy, .nil⟩, .inl ⟨rfl, rfl⟩⟩
        have hie : IsExc (st₁.σ ++ [AObj.exc (.ref C) [] [] false]) st₁.σ.length := ⟨.ref C, [], [], false, by simp⟩
        exact ⟨st₁.σ.length, _, _, _, e, hX, x.trans z, rfl, hz, .inl ⟨_, _, he, rfl, rfl⟩, hie⟩
    | _ => exact q.elim
theorem s_reraise {pos : Pos} : SOk B κ₀ G U O sc d (.Raise none none pos) .reraise := by
  intro env A κ own st s Q X cur c q
  simp only [ex] at q
  rw [arm_exec_Raise]
  refine wpAny_bind (wpAny_standAt ?_)
  show wpAny _ _ (raiseStmt env none none) _ _ _
  rcases cur with _ | _ | i
  · exact q.elim
  · exact q.elim
  · simp only at q
    obtain ⟨a, hA, hi⟩ := c.cur i rfl
    split at q
    · rename_i cl args fs hσ
      obtain ⟨a', ha', hr⟩ := c.pre.rep.rep.objs i _ hσ
      rw [hi] at ha'
      obtain rfl := Option.some.inj ha'
      obtain ⟨ob, vs, m, h1, h2, h3, h4, h5, h6, h7, h8, h9⟩ := hr
      rcases h9 with ⟨h9, _⟩ | ⟨T, oT, ts, fl, g1, g2, g3, g4, g5, g6, g7⟩
      · cases h9
      have hx : IsExc st.σ i := ⟨_, _, _, _, hσ⟩
      unfold raiseStmt
      refine wpAny_bind (wpAny_handled ?_)
      rw [hA]
      refine wpAny_bind (wpAny_rule (wpAny_bind (wpAny_field h1 h3 g1 ?_)))
      rw [if_neg (by simp)]
      refine wpAny_bind (sound_setFlight (fr := env.frame) c.pre.rep hi hx ⟨ob, vs, T, oT, ts, h1, h3, g1, g4, g5, g6⟩ fun s' x hf => ?_)
      refine wpAny_throw ⟨i, _, _, _, a, q, x, rfl, hi, .inr (.inr ⟨env.locals, c.fr, ?_⟩), hx⟩
      rw [c.fr] at hf; exact hf
    · exact q.elim
end
end Sm
end
section
set_option maxRecDepth 100000
set_option linter.unusedVariables false
namespace Sm
open PySem PySem.Calls PySem.W
section
variable {B : Base} {κ₀ : Kw} {G : Genv} {U : Bool → Blts} {O : Bool → Addr → Sp} {sc : Scope} {env : Env} {A A' : Around} {d : Nat} {cur : Option (Option Nat)} {κ κ₁ : Kw} {own own₁ : Own} {st st₁ : St} {s s₁ : Shared} {X : Xp} {n : Nat}
theorem Cx.noteW (c : Cx B κ₀ sc env A d cur κ own st s) {e : Value} {F : Unit → Shared → Prop} {E : Value → Shared → Prop} (h : XPo B env κ own s X e s₁)
    (hF : ∀ i st' κ' own' a s₂, X i st' → StepX B env κ own s κ' own' st' s₂ → e = .ref a → κ'.rho i = some a → FlightAt s₂.heap a (rawInt env.locals) → IsExc st'.σ i → F () s₂) : wpAny (model B.prog B.w) A (noteFrame e env) F E s₁ := by
  obtain ⟨i, st', κ', own', a, hx, x, rfl, hi, hf, hie⟩ := h
  have c' := c.step x
  obtain ⟨l, ho, hA⟩ := c'.frames
  exact sound_note x.rep c.fr c.ao.kind hA ho hi hie hf fun s' own'' y hy => hF i st' κ' own'' a s' hx (x.trans y) rfl (y.grow.le.rho _ _ hi) hy hie
def Caught (σ : List AObj) (i : Nat) : Prop := ∃ c args fs, σ[i]? = some (.exc c args fs true)
theorem Caught.exc {σ : List AObj} {i : Nat} (h : Caught σ i) : IsExc σ i := let ⟨c, a, f, e⟩ := h; ⟨c, a, f, _, e⟩
theorem Caught.flight {i : Nat} {a : Addr} (h : Caught st.σ i) (p : RepX B κ own env st s) (hi : κ.rho i = some a) : ∃ ob vs T fl, s.heap.get? a = some ob ∧ ob.data = .fields vs ∧ vs[1]? = some (.ref T) ∧ FlightAt s.heap a fl := by
  obtain ⟨c, args, fs, hσ⟩ := h
  obtain ⟨a', ha', hr⟩ := p.rep.objs i _ hσ
  rw [hi] at ha'
  obtain rfl := Option.some.inj ha'
  obtain ⟨ob, vs, m, h1, h2, h3, h4, h5, h6, h7, h8, h9⟩ := hr
  rcases h9 with ⟨h9, _⟩ | ⟨T, oT, ts, fl, g1, g2, g3, g4, g5, g6, g7⟩
  · cases h9
  exact ⟨ob, vs, T, fl, h1, h3, g1, ob, vs, T, oT, ts, h1, h3, g1, g4, g5, g6⟩
theorem sound_passOn {α : Type} {what : String} {i : Nat} {a : Addr} {Q : α → Shared → Prop} {E : Value → Shared → Prop} (c : Cx B κ₀ sc env A' d cur κ own st s) (hc : Caught st.σ i) (hi : κ.rho i = some a)
    (hE : ∀ s', StepX B env κ own s κ own st s' → Flying env s'.heap a → E (.ref a) s') : wpAny (model B.prog B.w) A (passOn what (.ref a) env : Sem α) Q E s := by
  obtain ⟨ob, vs, T, fl, h1, h2, h3, hf⟩ := hc.flight c.pre.rep hi
  unfold passOn
  refine wpAny_bind (wpAny_field h1 h2 h3 ?_)
  rw [if_neg (by simp)]
  refine wpAny_bind (sound_setFlight (fr := env.frame) c.pre.rep hi hc.exc hf fun s' x hf => ?_)
  rw [c.fr] at hf
  exact wpAny_throw (hE s' x (.inr (.inr ⟨_, c.fr, hf⟩)))
theorem Cx.mark {i : Nat} {a : Addr} (c : Cx B κ₀ sc env A d cur κ own st s) (hi : κ.rho i = some a) : Cx B κ₀ sc env (A.mark (some (.ref a))) d (some (some i)) κ own st s :=
  ⟨c.pre, ⟨c.ao.frames, c.ao.kind, c.ao.depth, c.ao.units, fun h => by cases h⟩, c.fr, fun j hj => by cases hj; exact ⟨a, rfl, hi⟩⟩
variable (B κ₀ G U O sc d) in
def HsOk (hs : List ExceptHandler) (hs' : Hxs) : Prop := ∀ env A κ own st s Q X cur i a, Cx B κ₀ sc env A d cur κ own st s → κ.rho i = some a → Caught st.σ i → hx G U O hs' i cur st Q X → Sat B env A (handleBy (.ref a) env hs) FlR Q X κ own s
theorem h_nil : HsOk B κ₀ G U O sc d [] .nil := by
  intro env A κ own st s Q X cur i a c hi hc q
  simp only [hx] at q
  exact wpAny_handleBy_nil (sound_passOn c hc hi fun s' x hf => ⟨i, _, _, _, a, q, x, rfl, hi, hf, hc.exc⟩)
theorem match_caught {σ : List AObj} {i : Nat} {tv : AV} {b : Bool} (h : matchExc G σ i tv = some b) : Caught σ i := by
  unfold matchExc at h
  split at h
  · rename_i C args fs hσ; exact ⟨_, _, _, hσ⟩
  · cases h
theorem h_cons (hG : GOk B κ₀ G) (hU : ∀ hd, UOk B G d hd (U hd)) (hO : ∀ hd, OOk B κ₀ d hd (O hd)) {t : Expr} {t' : E} {b₀ : Stmt} {b : List Stmt} {b' : Sxs} {nm : Option Str} {nm' : Option Nat} {r : List ExceptHandler} {r' : Hxs} {pos : Pos} (ht : cE n sc t = some t') (hb : SsOk B κ₀ G U O sc d (b₀ :: b) b')
    (hnm : (nm = none ∧ nm' = none) ∨ ∃ x i, nm = some x ∧ nm' = some i ∧ dec i = x ∧ sc.names.lookup x = some .local) (hr : HsOk B κ₀ G U O sc d r r') : HsOk B κ₀ G U O sc d (.ExceptHandler (some t) nm (b₀ :: b) pos :: r) (.cons t' nm' b' r') := by
  intro env A κ own st s Q X cur i a c hi hc q
  simp only [hx] at q
  have cm := c.mark hi
  refine wpAny_handleBy_cons (codeAny_handlers_test ?_) (by intro q; cases q)
  refine wpAny_mono (cm.ev hG hU hO ht q) (fun v s₁ hs₁ => ?_) fun e s₂ ⟨_, _, _, _, _, h, _⟩ => h.elim
  obtain ⟨tv, st₁, κ₁, own₁, q, x₁, r₁⟩ := hs₁
  have hi₁ := x₁.grow.le.rho _ _ hi
  cases hm : matchExc G st₁.σ i tv with
  | none => rw [hm] at q; exact q.elim
  | some m =>
    rw [hm] at q
    have hc₁ := match_caught hm
    refine sound_matches hG (c.step x₁).pre hi₁ r₁ hm ?_
    cases m with
    | false => exact Sat.after x₁ (hr _ _ _ _ _ _ _ _ _ _ _ (c.step x₁) hi₁ hc₁ q)
    | true =>
      obtain ⟨ob, vs, T, fl, _, _, _, hf⟩ := hc₁.flight x₁.rep hi₁
      rcases hnm with ⟨rfl, rfl⟩ | ⟨x, k, rfl, rfl, rfl, hk⟩
      · show codeAny _ _ _ _ _
        refine codeAny_handlers_suite (sound_setFlight (fr := none) x₁.rep hi₁ hc₁.exc hf fun s₂ x₂ hf₂ => ?_)
        refine wpAny_mono (Sat.after (x₁.trans x₂) (hb _ _ _ _ _ _ _ _ _ (((c.step x₁).step x₂).mark hi₁) q)) (fun f s₃ h => h) fun e s₃ h => cm.notedBack h
      · show codeAny _ _ _ _ _
        refine codeAny_handlers_suite_as (sound_setFlight (fr := none) x₁.rep hi₁ hc₁.exc hf fun s₂ x₂ hf₂ => ?_)
        refine sound_bind ((c.step x₁).step x₂).pre c.fr (.inl hk) (.ref hi₁) fun s₃ x₃ => ?_
        have y := (x₁.trans x₂).trans x₃
        refine wpAny_mono (Sat.after y (hb _ _ _ _ _ _ _ _ _ (((c.step y)).mark hi₁) q)) (fun f s₄ hs₄ => ?_) fun e s₄ hs₄ => ?_
        · obtain ⟨fl, st₄, κ₄, own₄, q, x₄, r⟩ := hs₄
          exact sound_unbind (c.step x₄).pre c.fr hk fun s₅ x₅ => ⟨fl, _, _, _, q, x₄.trans x₅, r⟩
        · refine cm.noteW hs₄ fun j st' κ' own' a' s₅ hX x₅ he hj hfj hje => ?_
          subst he
          obtain ⟨z, hcj⟩ := sound_caught x₅.rep hj hje hfj
          have x₆ := x₅.trans z
          refine sound_unbind (c.step x₆).pre c.fr hk fun s₇ x₇ => ?_
          have x₈ := x₆.trans x₇
          refine sound_passOn (cm.step x₈) (i := j) hcj hj fun s₉ x₉ hf₉ => ?_
          exact cm.notedBack ⟨j, _, _, _, a', hX, x₈.trans x₉, rfl, hj, hf₉, Caught.exc hcj⟩
theorem s_try {b : List Stmt} {b' : Sxs} {h₀ : ExceptHandler} {hs : List ExceptHandler} {hs' : Hxs} {pos : Pos} (hb : SsOk B κ₀ G U O sc d b b') (hh : HsOk B κ₀ G U O sc d (h₀ :: hs) hs') :
    SOk B κ₀ G U O sc d (.Try b (h₀ :: hs) [] [] pos) (.try_ b' hs') := by
  intro env A κ own st s Q X cur c q
  simp only [ex] at q
  refine wpAny_Try_except (wpAny_mono (hb _ _ _ _ _ _ _ _ _ c q) (fun f s₁ hs₁ => ?_) fun e s₁ h => ?_)
  · obtain ⟨fl, st₁, κ₁, own₁, q, x, r⟩ := hs₁
    cases r with
    | next => exact wpAny_execs_nil ⟨.next, _, _, _, q, x, .next⟩
    | brk => exact ⟨.brk, _, _, _, q, x, .brk⟩
    | cont => exact ⟨.cont, _, _, _, q, x, .cont⟩
    | ret h => exact ⟨.ret _, _, _, _, q, x, .ret h⟩
  · refine c.noteW h fun i st' κ' own' a s₂ hX x he hi hf hie => ?_
    subst he
    refine sound_setFlight (fr := none) x.rep hi hie hf fun s₃ y hf₃ => ?_
    obtain ⟨z, hc⟩ := sound_caught y.rep hi hie hf₃
    have w := (x.trans y).trans z
    exact Sat.after w (hh _ _ _ _ _ _ _ _ _ _ _ (c.step w) hi hc hX)
end
end Sm
end
section
set_option maxRecDepth 100000
set_option linter.unusedVariables false
namespace Sm
open PySem PySem.Calls PySem.W
section
variable {B : Base} {κ₀ : Kw} {G : Genv} {U : Bool → Blts} {O : Bool → Addr → Sp} {sc : Scope} {d : Nat}
theorem s_bad {t : Stmt} : SOk B κ₀ G U O sc d t .bad := fun env A κ own st s Q X cur c q => by simp only [ex] at q
theorem stmts_all (hG : GOk B κ₀ G) (hU : ∀ hd, UOk B G d hd (U hd)) (hO : ∀ hd, OOk B κ₀ d hd (O hd)) : ∀ n,
    (∀ sc t t', cS n sc t = some t' → SOk B κ₀ G U O sc d t t') ∧ (∀ sc ts, SsOk B κ₀ G U O sc d ts (cSs n sc ts)) ∧ (∀ sc hs hs', cHs n sc hs = some hs' → HsOk B κ₀ G U O sc d hs hs')
  | 0 => ⟨fun _ _ _ h => by simp [cS] at h, fun sc ts => by
      intro env A κ own st s Q X cur c q
      simp only [cSs, exs, ex] at q, fun _ _ _ h => by simp [cHs] at h⟩
  | n + 1 => by
    obtain ⟨iS, iT, iH⟩ := stmts_all hG hU hO n
    refine ⟨fun sc t t' h => ?_, fun sc ts => ?_, fun sc hs hs' h => ?_⟩
    · unfold cS at h
      split at h
      · split at h
        · cases h
        · rename_i hc
          obtain ⟨x, h1, rfl⟩ := Option.map_eq_some_iff.mp h
          exact s_expr hG hU hO (by simpa using hc) h1
      · split at h
        · cases h
        · rename_i hc
          split at h
          · rename_i a b h1 h2
            obtain rfl := Option.some.inj h
            exact s_assign hG hU hO (by simpa using hc) h1 h2
          · cases h
      · split at h
        · rename_i hc
          split at h
          · rename_i a b h1 h2
            obtain rfl := Option.some.inj h
            simp only [Bool.and_eq_true, beq_iff_eq] at hc
            exact s_augl hG hU hO hc.1.1.1 (nameId_dec h1) h2
          · cases h
        · cases h
      · split at h
        · rename_i a b c h1 h2 h3
          obtain rfl := Option.some.inj h
          exact s_auga hG hU hO (nameId_dec h2) h1 h3
        · cases h
      · split at h
        · rename_i c h1
          obtain rfl := Option.some.inj h
          exact s_if hG hU hO h1 (iT _ _) (iT _ _)
        · cases h
      · split at h
        · rename_i c h1
          obtain rfl := Option.some.inj h
          exact s_while hG hU hO h1 (iT _ _)
        · cases h
      · split at h
        · cases h
        · rename_i hs
          split at h
          · cases h
          · rename_i a b _ h1 h2
            obtain rfl := Option.some.inj h
            exact s_for hG hU hO (by simpa using hs) h1 h2 (iT _ _)
          · cases h
      · rename_i b hs pos
        split at h
        · cases h
        · rename_i hne
          obtain ⟨x, h1, rfl⟩ := Option.map_eq_some_iff.mp h
          cases hs with
          | nil => simp at hne
          | cons h₀ hs => exact s_try (iT _ _) (iH _ _ _ h1)
      · obtain ⟨x, h1, rfl⟩ := Option.map_eq_some_iff.mp h
        exact s_raise hG hU hO h1
      · obtain rfl := Option.some.inj h
        exact s_reraise
      · obtain ⟨x, h1, rfl⟩ := Option.map_eq_some_iff.mp h
        exact s_ret hG hU hO h1
      · obtain rfl := Option.some.inj h
        intro env A κ own st s Q X cur c q
        simp only [ex] at q
        exact wpAny_Return_none ⟨.ret .none, _, _, _, q, .refl c.pre.rep, .ret .none⟩
      · obtain rfl := Option.some.inj h
        intro env A κ own st s Q X cur c q
        simp only [ex] at q
        exact wpAny_Pass ⟨.next, _, _, _, q, .refl c.pre.rep, .next⟩
      · obtain rfl := Option.some.inj h
        intro env A κ own st s Q X cur c q
        simp only [ex] at q
        exact wpAny_Break ⟨.brk, _, _, _, q, .refl c.pre.rep, .brk⟩
      · obtain rfl := Option.some.inj h
        intro env A κ own st s Q X cur c q
        simp only [ex] at q
        exact wpAny_Continue ⟨.cont, _, _, _, q, .refl c.pre.rep, .cont⟩
      · obtain ⟨x, h1, rfl⟩ := Option.map_eq_some_iff.mp h
        exact s_assert hG hU hO h1
      · cases h
    · unfold cSs
      split
      · exact s_nil
      · rename_i t r
        refine s_cons ?_ (iT _ _)
        cases h : cS n sc t with
        | none => exact s_bad
        | some t' => exact iS _ _ _ h
    · unfold cHs at h
      split at h
      · obtain rfl := Option.some.inj h
        exact h_nil
      · split at h
        · rename_i a b h1 h2
          obtain rfl := Option.some.inj h
          exact h_cons hG hU hO h1 (iT _ _) (.inl ⟨rfl, rfl⟩) (iH _ _ _ h2)
        · cases h
      · split at h
        · rename_i a b h1 h2
          split at h
          · rename_i hk
            split at h
            · rename_i i hi
              obtain rfl := Option.some.inj h
              exact h_cons hG hU hO h1 (iT _ _) (.inr ⟨_, _, rfl, rfl, nameId_dec hi, by simpa using hk⟩) (iH _ _ _ h2)
            · cases h
          · cases h
        · cases h
      · cases h
end
end Sm
end
section
set_option maxRecDepth 100000
set_option linter.unusedVariables false
namespace Sm
open PySem PySem.Calls PySem.W
def ownNew (own : Own) (h h' : Heap) : Own := fun b => match h.get? b, h'.get? b with
  | none, some _ => some .frm
  | _, _ => own b
section
variable {B : Base} {κ : Kw} {own : Own} {σ : List AObj} {s s' : Shared}
theorem ownNew_old {b : Addr} {o : Obj} (h : s.heap.get? b = some o) : ownNew own s.heap s'.heap b = own b := by unfold ownNew; rw [h]
theorem ownNew_new {b : Addr} {o : Obj} (h : s.heap.get? b = none) (h' : s'.heap.get? b = some o) : ownNew own s.heap s'.heap b = some .frm := by unfold ownNew; rw [h, h']
theorem Rep.newFrms (x : Rep B κ own σ s) (hk : ∀ b o, s.heap.get? b = some o → s'.heap.get? b = some o) (hg : s'.gens = s.gens) (ho : s'.os = s.os) :
    Rep B κ (ownNew own s.heap s'.heap) σ s' ∧ Grow κ own s κ (ownNew own s.heap s'.heap) s' := by
  have kn : ∀ b t, ownNew own s.heap s'.heap b = some t → own b = some t ∨ (t = .frm ∧ s.heap.get? b = none ∧ ∃ o, s'.heap.get? b = some o) := fun b t h => by
    cases e : s.heap.get? b with
    | some o => rw [ownNew_old e] at h; exact .inl h
    | none =>
      cases e' : s'.heap.get? b with
      | some o => rw [ownNew_new e e'] at h; exact .inr ⟨(Option.some.inj h).symm, rfl, o, rfl⟩
      | none => unfold ownNew at h; rw [e, e'] at h; exact .inl h
  have ko : ∀ b t, own b = some t → ownNew own s.heap s'.heap b = some t := fun b t h => by
    obtain ⟨o, e⟩ := x.live b t h
    rw [ownNew_old e]; exact h
  have nB : ∀ b, s.heap.get? b = none → B.h.get? b = none := fun b h => by
    cases e : B.h.get? b with
    | none => rfl
    | some o => rw [x.stays b o e] at h; cases h
  refine ⟨⟨fun b o h => hk b o (x.stays b o h), fun b t h => ?_, fun b t h => ?_, fun i a h => ko _ _ (x.dom i a h), fun i o h => ?_, x.bound, fun a v h => ?_, hg.trans x.gens, ho.trans x.os⟩,
    ⟨.refl _, ⟨fun b o _ _ => hk b o, fun b o _ _ h => ⟨o.slots, hk b o h⟩⟩, fun a t h => ?_, fun a v h => .inl h, ko⟩⟩
  · rcases kn b t h with z | ⟨_, z, _⟩
    · exact x.apart b t z
    · exact nB b z
  · rcases kn b t h with z | ⟨_, _, z⟩
    · obtain ⟨o, e⟩ := x.live b t z; exact ⟨o, hk b o e⟩
    · exact z
  · obtain ⟨a, h1, h2⟩ := x.objs i o h
    exact ⟨a, h1, h2.step (.refl _) ko (x.dom i a h1) fun b ob _ => hk b ob⟩
  · obtain ⟨o, e, _⟩ := (x.imm a v h).2.live
    exact ⟨by rw [ownNew_old e]; exact (x.imm a v h).1, (x.imm a v h).2.step fun ob => hk a ob⟩
  · rcases kn a t h with z | ⟨_, z, _⟩
    · exact .inl (by rw [z]; simp)
    · exact .inr z
end
theorem cells_keep {n : Str} {c : Addr} : ∀ (names : List (Str × NameKind)) (k : Nat) (acc : List (Str × Addr)), (n, c) ∈ acc → (n, c) ∈ cellsFrom k names acc
  | [], _, _, h => h
  | (x, kd) :: r, k, acc, h => by
    unfold cellsFrom
    split
    · exact cells_keep r _ _ (.tail _ h)
    · exact cells_keep r _ _ h
theorem cells_have {n : Str} : ∀ (names : List (Str × NameKind)) (k : Nat) (acc : List (Str × Addr)), (n, NameKind.cell) ∈ names → ∃ c, (n, c) ∈ cellsFrom k names acc
  | (x, kd) :: r, k, acc, h => by
    unfold cellsFrom
    rcases List.mem_cons.mp h with h | h
    · cases h
      exact ⟨k, cells_keep r _ _ (.head _)⟩
    · split
      · exact cells_have r _ _ h
      · exact cells_have r _ _ h
theorem look_of_mem {α : Type} : ∀ {l : List (Str × α)} {n : Str} {c : α}, (n, c) ∈ l → ∃ c', l.lookup n = some c'
  | (x, d) :: r, n, c, h => by
    rw [List.lookup_cons]
    cases e : n == x with
    | true => exact ⟨d, rfl⟩
    | false =>
      rcases List.mem_cons.mp h with h | h
      · cases h; simp at e
      · exact look_of_mem h
def setAll : List (Nat × AV) → St → St
  | [], st => st
  | (x, v) :: r, st => setAll r (setL x v st)
section
variable {B : Base} {κ₀ : Kw} {sc : Scope} {env : Env} {A : Around} {own : Own} {σ : List AObj} {s : Shared}
theorem sound_params {κ : Kw} {F : PUnit → Shared → Prop} {E : Value → Shared → Prop} (f : Str × Value → PUnit → Sem (ForInStep PUnit)) (hf : ∀ n v u, f (n, v) u = (do storeName env n v; pure (.yield ⟨⟩))) (hfr : env.frame = some env.locals) :
    ∀ (avs : List (Nat × AV)) (bs : List (Str × Value)) (st : St) (own : Own) (s : Shared), KRel κ avs bs → Pre B κ₀ sc env κ own st s → (∀ p ∈ avs, sc.names.lookup (dec p.1) = some .local ∨ sc.names.lookup (dec p.1) = some .cell) →
      (∀ s', StepX B env κ own s κ own (setAll avs st) s' → F ⟨⟩ s') → wpAny (model B.prog B.w) A (forIn bs ⟨⟩ f) F E s
  | _, _, st, own, s, .nil, p, _, h => by rw [List.forIn_nil]; exact wpAny_pure (h s (.refl p.rep))
  | _, _, st, own, s, .cons (k := k) hv t, p, hk, h => by
    rw [List.forIn_cons, hf]
    refine wpAny_bind (wpAny_bind (sound_bind p hfr (hk _ (.head _)) hv fun s₁ x => wpAny_pure ?_))
    exact sound_params f hf hfr _ _ _ own s₁ t (p.step x) (fun q hq => hk q (.tail _ hq)) fun s₂ y => h s₂ (x.trans y)
theorem sound_newEnv {κ : Kw} {avs : List (Nat × AV)} {bs : List (Str × Value)} {qual : Str} {func : Option Addr} {code : Value} {F : Env → Shared → Prop} {E : Value → Shared → Prop} (x : Rep B κ own σ s) (L : κ₀.le κ) (hk : sc.kind = .function)
    (hfree : ∀ n, sc.names.lookup n ≠ some .free) (hb : KRel κ avs bs) (hkind : ∀ p ∈ avs, sc.names.lookup (dec p.1) = some .local ∨ sc.names.lookup (dec p.1) = some .cell)
    (hF : ∀ s' own', Pre B κ₀ sc (newEnv sc s.heap.objs.size mainGlobals (cellsFrom (s.heap.objs.size + 1) sc.names []) qual func code none builtinsNs) κ own' (setAll avs ⟨σ, []⟩) s' → Grow κ own s κ own' s' →
      F (newEnv sc s.heap.objs.size mainGlobals (cellsFrom (s.heap.objs.size + 1) sc.names []) qual func code none builtinsNs) s') :
    wpAny (model B.prog B.w) A (newFunctionEnv sc mainGlobals [] bs qual func code none builtinsNs) F E s := by
  simp only [newFunctionEnv, Option.isSome_none, Bool.false_eq_true, if_false]
  refine wpAny_bind (wpAny_alloc ?_)
  refine wpAny_bind (wpAny_layCells _ (fun name kind cells => by cases hkc : kind == NameKind.cell <;> simp [hkc]) _ _ _ _ ?_)
  have ok := cellsFrom_ok sc.names (s.heap.push { cls := .type "frame", data := .dict #[] }) (s.heap.objs.size + 1) [] ⟨fun _ _ hm => (nomatch hm), List.Pairwise.nil⟩ (by rw [Heap.size_push]; exact Nat.le_refl _)
  rw [Heap.size_push] at ok
  rw [show ({ s with heap := s.heap.push { cls := .type "frame", data := .dict #[] } } : Shared).heap.objs.size = s.heap.objs.size + 1 from Heap.size_push ..]
  generalize hcs : cellsFrom (s.heap.objs.size + 1) sc.names [] = cs at ok hF ⊢
  generalize hen : newEnv sc s.heap.objs.size mainGlobals cs qual func code none builtinsNs = env at hF
  have keep : ∀ b o, s.heap.get? b = some o → (pushCells (s.heap.push { cls := .type "frame", data := .dict #[] }) sc.names).get? b = some o := fun b o e => pushCells_keeps _ _ b o (Heap.get?_push_of_some _ e)
  obtain ⟨r, g⟩ := x.newFrms (s' := { s with heap := pushCells (s.heap.push { cls := .type "frame", data := .dict #[] }) sc.names }) keep rfl rfl
  have hL : (pushCells (s.heap.push { cls := .type "frame", data := .dict #[] }) sc.names).get? s.heap.objs.size = some { cls := .type "frame", data := .dict #[] } := pushCells_keeps _ _ _ _ (Heap.get?_push_size _ rfl)
  have hLn : s.heap.get? s.heap.objs.size = none := size_dead _
  have hlocals : env.locals = s.heap.objs.size := by rw [← hen]; rfl
  have hcells : env.cells = cs := by rw [← hen]; rfl
  have hscope : env.scope = sc := by rw [← hen]; rfl
  have hframe : env.frame = some env.locals := by rw [← hen]; rfl
  have hkn : ∀ n, env.kindOf n = sc.names.lookup n := fun n => by unfold Env.kindOf; rw [hscope]
  have p : Pre B κ₀ sc env κ (ownNew own s.heap (pushCells (s.heap.push { cls := .type "frame", data := .dict #[] }) sc.names)) ⟨σ, []⟩ { s with heap := pushCells (s.heap.push { cls := .type "frame", data := .dict #[] }) sc.names } := by
    refine ⟨hscope, hk, by rw [← hen]; rfl, by rw [← hen]; rfl, ⟨r, ?_⟩, L⟩
    refine ⟨?_, ?_, ⟨_, by rw [hlocals]; exact hL, fun _ => rfl⟩, ⟨fun _ => none, ?_, fun _ _ => trivial⟩, fun i hi => ?_, fun i j c hi hj h1 h2 => ?_, fun i hi => ?_⟩
    · rw [hlocals]; exact ownNew_new (s := s) (s' := { s with heap := pushCells (s.heap.push { cls := .type "frame", data := .dict #[] }) sc.names }) hLn hL
    · rw [hlocals]
      cases e : B.h.get? s.heap.objs.size with
      | none => rfl
      | some o => have := x.stays _ _ e; rw [hLn] at this; cases this
    · rw [hlocals]; exact (Heap.Ns.new s.heap (.type "frame")).keeps (pushCells_keeps _ _)
    · rw [hkn] at hi
      obtain ⟨c, hc⟩ := cells_have (n := dec i) sc.names (s.heap.objs.size + 1) [] (mem_of_lookup hi)
      rw [hcs] at hc
      obtain ⟨c', hc'⟩ := look_of_mem hc
      obtain ⟨hcell, hlo⟩ := ok.empty _ _ (mem_of_lookup hc')
      obtain ⟨oc, hoc, hocd⟩ := id hcell
      refine ⟨c', none, by rw [hcells]; exact hc', by rw [hlocals]; exact Nat.ne_of_gt (Nat.lt_of_succ_le hlo), .inl ?_, hcell, trivial⟩
      refine ownNew_new (s := s) (s' := { s with heap := pushCells (s.heap.push { cls := .type "frame", data := .dict #[] }) sc.names }) (o := oc) ?_ hoc
      exact Heap.get?_none_of_le (by omega)
    · rw [hcells] at h1 h2
      exact dec_inj (name_of_addr ok.apart (mem_of_lookup h1) (mem_of_lookup h2))
    · rw [hkn] at hi
      exact absurd hi (hfree _)
  refine wpAny_bind ?_
  show wpAny _ _ (forIn bs PUnit.unit _) _ _ _
  refine sound_params (env := env) _ (fun n v u => by rw [← hen]; rfl) hframe avs bs _ _ _ hb p hkind fun s' y => wpAny_pure ?_
  have := hF s' _ (p.step y) (g.trans y.grow)
  rw [← hen] at this
  exact this
end
end Sm
end
section
set_option maxRecDepth 100000
set_option linter.unusedVariables false
namespace Sm
open PySem PySem.Calls PySem.W
structure FnOk (B : Base) (f : Addr) (fd : FuncData) (sc : Scope) (body : List Stmt) : Prop where
  obj : ∃ o, B.h.get? f = some o ∧ o.data = .func fd
  scope : fd.scope = sc
  closure : fd.closure = []
  globals : fd.globals = mainGlobals
  builtins : fd.builtins = builtinsNs
  body : fd.body = .stmts body
  code : B.h.CodeRec fd.code fd.qualname
  co : sc.isCoroutine = false
  gen : sc.isGenerator = false
  kind : sc.kind = .function
  free : ∀ n, sc.names.lookup n ≠ some .free
def BindOk (B : Base) (κ₀ : Kw) (fd : FuncData) (sc : Scope) (bd : List AV → List (Nat × AV) → Option (List (Nat × AV))) : Prop := ∀ A κ own σ s args kws vs kvs loc, Rep B κ own σ s → κ₀.le κ → VRels κ args vs → KRel κ kws kvs → bd args kws = some loc →
  (∀ p ∈ loc, sc.names.lookup (dec p.1) = some .local ∨ sc.names.lookup (dec p.1) = some .cell) ∧
  wpAny (model B.prog B.w) A (bindArgs fd ⟨vs, kvs⟩) (fun bs s' => ∃ κ', KRel κ' loc bs ∧ Rep B κ' own σ s' ∧ Grow κ own s κ' own s') (fun _ _ => False) s
def curOf : Bool → Option (Option Nat)
  | true => some none
  | false => none
def bodyS (G : Genv) (U : Bool → Blts) (O : Bool → Addr → Sp) (hd : Bool) (bd : List AV → List (Nat × AV) → Option (List (Nat × AV))) (b : Sxs) : Sp := fun args kws σ Q X => match bd args kws with
  | some loc => exs G U O b (curOf hd) (setAll loc ⟨σ, []⟩) (fun fl st => match fl with
    | .ret v => Q v st.σ
    | .next => Q .none st.σ
    | _ => False) (fun i st => X i st.σ)
  | none => False
section
variable {B : Base} {κ₀ : Kw} {G : Genv} {U : Bool → Blts} {O : Bool → Addr → Sp} {d : Nat}
theorem Heap.NoLimit.stays {h h' : Heap} (x : h.NoLimit) (k : ∀ b o, h.get? b = some o → h'.get? b = some o) : h'.NoLimit := Heap.NoLimit.keeps x k
theorem callJ_body (hG : GOk B κ₀ G) (hU : ∀ hd, UOk B G d hd (U hd)) (hO : ∀ hd, OOk B κ₀ d hd (O hd)) {f : Addr} {fd : FuncData} {sc : Scope} {body : List Stmt} (F : FnOk B f fd sc body)
    {bd : List AV → List (Nat × AV) → Option (List (Nat × AV))} (hbd : BindOk B κ₀ fd sc bd) (n : Nat) (hd : Bool) : CallJ B κ₀ (d + 2) hd f (bodyS G U O hd bd (cSs n sc body)) := by
  intro args kws σ Q X hS A κ own s vs kvs ha L x hfrm hv hk
  unfold bodyS at hS
  cases hloc : bd args kws with
  | none => rw [hloc] at hS; exact hS.elim
  | some loc =>
    rw [hloc] at hS
    simp only at hS
    obtain ⟨o, hfo, hfd⟩ := F.obj
    obtain ⟨hkinds, hbind⟩ := hbd A.in1 κ own σ s args kws vs kvs loc x L hv hk hloc
    have hdep := ha.depth
    have hun := ha.units
    have hcode : s.heap.CodeRec fd.code fd.qualname := let ⟨c, oc, ws, tq, h1, h2, h3, h4⟩ := F.code; ⟨c, oc, ws, tq, h1, x.stays _ _ h2, h3, h4⟩
    refine codeAny_call_function (by omega) (x.stays _ _ hfo) hfd (by rw [F.scope]; exact F.co) (by rw [F.scope]; exact F.gen) F.body hcode ?_
    refine wpAny_mono hbind (fun bs s₁ hs₁ => ?_) fun _ _ q => q.elim
    obtain ⟨κ₁, hbs, x₁, g₁⟩ := hs₁
    rw [F.scope, F.globals, F.closure, F.builtins]
    refine sound_newEnv x₁ (L.trans g₁.le) F.kind F.free hbs hkinds fun s₂ own₂ p g₂ => ?_
    generalize hen : newEnv sc s₁.heap.objs.size mainGlobals (cellsFrom (s₁.heap.objs.size + 1) sc.names []) (fd.qualname ++ ".<locals>.") (some f) fd.code none builtinsNs = env at p
    have hlocals : env.locals = s₁.heap.objs.size := by rw [← hen]; rfl
    have hframe : env.frame = some env.locals := by rw [← hen]; rfl
    have hscope : env.scope = sc := by rw [← hen]; rfl
    refine ⟨Heap.NoLimit.keeps hG.limit p.rep.rep.stays, codeAny_func ?_⟩
    obtain ⟨l, hl, hout⟩ := ha.frames
    have g := g₁.trans g₂
    have c : Cx B κ₀ sc env (A.deeper env) d (curOf hd) κ₁ own₂ (setAll loc ⟨σ, []⟩) s₂ := by
      refine ⟨p, ⟨⟨l, hout.step g, .inl ⟨hframe, ?_⟩⟩, by rw [hscope, F.kind]; decide, ?_, ?_, fun h => ?_⟩, hframe, fun i hi => ?_⟩
      · show A.frames.map _ = _
        rw [hl]; rfl
      · show A.depth + 1 + (d + 1) ≤ _; omega
      · show A.units + 3 + 20 * (d + 1) ≤ _; omega
      · refine ha.handled ?_
        cases hd with
        | false => rfl
        | true => cases h
      · cases hd with
        | false => cases hi
        | true => exact absurd (Option.some.inj hi) (by simp)
    have hs₁L : s.heap.get? env.locals = none := by
      rw [hlocals]
      cases e : s.heap.get? s₁.heap.objs.size with
      | none => rfl
      | some oL =>
        exfalso
        have : s₁.heap.get? s₁.heap.objs.size = none := size_dead _
        by_cases hcase : own s₁.heap.objs.size = none
        · by_cases hf : oL.cls = .type "frame"
          · obtain ⟨sl, e'⟩ := g₁.keep.frames _ oL hcase hf e; rw [this] at e'; cases e'
          · have e' := g₁.keep.rest _ oL hcase hf e; rw [this] at e'; cases e'
        · cases ho : own s₁.heap.objs.size with
          | none => exact hcase ho
          | some t => obtain ⟨o', e'⟩ := x₁.live _ t ho; rw [this] at e'; cases e'
    have fin : ∀ {κ₃ own₃ st₃ s₃}, StepX B env κ₁ own₂ s₂ κ₃ own₃ st₃ s₃ → Rep B κ₃ (noFrm own₃) st₃.σ s₃ ∧ Grow κ own s κ₃ (noFrm own₃) s₃ := fun {κ₃ own₃ st₃ s₃} y => by
      have gg := g.trans y.grow
      refine ⟨y.rep.rep.noFrm, ⟨gg.le, gg.keep, fun a t h => gg.newOwn a t (noFrm_some h), gg.newImm, fun a t h => ?_⟩⟩
      have := gg.own a t h
      unfold noFrm
      rw [this]
      cases t with
      | frm => exact absurd h (hfrm a)
      | _ => rfl
    have go : wpAny (model B.prog B.w) (A.deeper env) (execs body env) (fun f s' => Res B κ own s Q X (.ok (.ret (match f with | .ret v => v | _ => .none))) s')
        (fun e s' => wpAny (model B.prog B.w) (A.deeper env) («leaving» env e) (fun _ s'' => Res B κ own s Q X (.error e) s'') (fun e' s'' => Res B κ own s Q X (.error e') s'') s') s₂ := by
      refine wpAny_mono ((stmts_all hG hU hO n).2.1 sc body _ _ _ _ _ _ _ _ _ c hS) (fun fl s₃ hs₃ => ?_) (fun e s₃ hs₃ => ?_)
      · obtain ⟨f', st₃, κ₃, own₃, q, y, r⟩ := hs₃
        obtain ⟨r₃, g₃⟩ := fin y
        cases r with
        | next => exact .inl ⟨.none, _, _, _, _, q, rfl, r₃, g₃, .none⟩
        | brk => exact q.elim
        | cont => exact q.elim
        | ret h => exact .inl ⟨_, _, _, _, _, q, rfl, r₃, g₃, h⟩
      · obtain ⟨i, st₃, κ₃, own₃, a, hX, y, rfl, hi, hf, hie⟩ := hs₃
        have c' := c.step y
        obtain ⟨l', ho', hA'⟩ := c'.frames
        refine sound_leaving y.rep c.fr c.ao.kind hA' ho' hi hie hf fun s₄ own₄ z hfl => ?_
        obtain ⟨r₄, g₄⟩ := fin (y.trans z)
        exact .inr ⟨i, _, a, _, _, hX, rfl, r₄, g₄, z.grow.le.rho _ _ hi, hfl, hie⟩
    exact go
end
end Sm
end
section
set_option maxRecDepth 100000
set_option linter.unusedVariables false
namespace Sm
open PySem PySem.Calls PySem.W
def itemW (σ : List AObj) (a b : AV) (Q : AV → Prop) : Prop := match a, b with
  | .str x, .int i => (0 ≤ i ∧ i < x.length ∧ x.length ≤ 16777216) ∧ Q (.str ⟨#[x.cps.getD i.toNat 0]⟩)
  | .bytes x, .int i => (0 ≤ i ∧ i < x.size ∧ x.size ≤ 16777216) ∧ Q (.int (x.toList.getD i.toNat 0).toNat)
  | .tup xs, .int i => (0 ≤ i ∧ i < 16777216) ∧ match xs[i.toNat]? with
    | some v => Q v
    | none => False
  | .ref r, .int i => (0 ≤ i ∧ i < 16777216) ∧ match σ[r]? with
    | some (.list xs) => match xs[i.toNat]? with
      | some v => Q v
      | none => False
    | _ => False
  | _, _ => False
def sliceW (st : St) (a : AV) (lo hi : Option AV) (Q : VQ) : Prop := match partOf lo, partOf hi with
  | some l, some u => match a with
    | .str x => x.length ≤ 16777216 ∧ Q (.str (Txt.slice x l u)) st
    | .bytes x => x.size ≤ 16777216 ∧ Q (.bytes (cut x.toList l u).toArray) st
    | .ref r => match st.σ[r]? with
      | some (.list xs) => xs.length ≤ 16777216 ∧ addObj (.list (cut xs l u)) st Q
      | _ => False
    | .fls xs => xs.length ≤ 16777216 ∧ addObj (.list (cut xs l u)) st Q
    | _ => False
  | _, _ => False
theorem VRels.drop {κ : Kw} : ∀ (n : Nat) {xs vs}, VRels κ xs vs → VRels κ (xs.drop n) (vs.drop n)
  | 0, _, _, h => h
  | n + 1, _, _, .nil => .nil
  | n + 1, _, _, .cons _ hs => VRels.drop n hs
theorem VRels.take {κ : Kw} : ∀ (n : Nat) {xs vs}, VRels κ xs vs → VRels κ (xs.take n) (vs.take n)
  | 0, _, _, h => .nil
  | n + 1, _, _, .nil => .nil
  | n + 1, _, _, .cons h hs => .cons h (VRels.take n hs)
theorem VRels.cut {κ : Kw} {xs vs} (h : VRels κ xs vs) (l u : Option Int) : VRels κ (cut xs l u) (cut vs l u) := by
  unfold Sm.cut
  rw [h.length]
  exact (h.drop _).take _
section
variable {B : Base} {κ : Kw} {own : Own} {env : Env} {A : Around} {st : St} {s : Shared} {X : Xp}
theorem gip {o : Value} {T id : String} {Q : Bool → Shared → Prop} {E : Value → Shared → Prop} (hT : s.TypeIs o T) (hl : typeLookup (.type T) "__getitem__" = pure (some (.builtin id))) (hn : o ≠ .builtin "sys.modules#opaque") (h : Q false s) :
    wpAny (model B.prog B.w) A (getitemInPython o) Q E s := by
  rw [getitemInPython_of_ne hn]
  exact wpAny_bind (wpAny_specialOf hT hl (wpAny_pure h))
theorem seqIx {i : Int} {n : Nat} (h0 : 0 ≤ i) (h1 : i < n) : seqIndex? i n = some i.toNat := by
  have hn : ¬ i < 0 := by omega
  simp [seqIndex?, hn, h0, h1]
theorem sound_item {a b : AV} {va vb : Value} {Q : VQ} (p : RepX B κ own env st s) (ha : VRel κ a va) (hb : VRel κ b vb) (h : itemW st.σ a b fun v => Q v st) :
    (∀ {Q : Bool → Shared → Prop} {E}, Q false s → wpAny (model B.prog B.w) A (getitemInPython va) Q E s) ∧ Sat B env A (getItem va vb) VR Q X κ own s := by
  cases hb with
  | int i u =>
    cases ha with
    | str x t =>
      obtain ⟨⟨h0, h1, h2⟩, hq⟩ := h
      refine ⟨fun hq => gip (typeIs_str _ _ _) PyProof.Rows.slot_str_getitem.lookup (by intro e; cases e) hq, ?_⟩
      have hlt : i.toNat < x.cps.size := by have : x.length = x.cps.size := rfl; omega
      refine PyProof.Rows.getItem_str (c := x.cps.getD i.toNat 0) (by rw [Bool.or_eq_false_iff]; exact ⟨decide_eq_false (by omega), decide_eq_false (by omega)⟩) ?_ ⟨_, _, _, _, hq, .toks p _, .str _ _⟩
      rw [seqIx h0 h1]
      simp [Array.getD, hlt]
    | bytes x t =>
      obtain ⟨⟨h0, h1, h2⟩, hq⟩ := h
      refine ⟨fun hq => gip (typeIs_bytes _ _ _) FB.slot_bytes_getitem.lookup (by intro e; cases e) hq, ?_⟩
      have e : x.toList.length = x.size := Array.length_toList
      have := getItem_bytes (prog := B.prog) (w := B.w) (A := A) (s := s) (t := t) (u := u) (l := x.toList) (i := i) (by omega) h0 (by omega)
        (E := fun e s' => ∃ i st' κ' own' a, X i st' ∧ StepX B env κ own s κ' own' st' s' ∧ e = .ref a ∧ κ'.rho i = some a ∧ Flying env s'.heap a ∧ IsExc st'.σ i)
        (Q := fun a s' => ∃ b st' κ' own', Q b st' ∧ StepX B env κ own s κ' own' st' s' ∧ VR κ' b a) ⟨_, _, _, _, hq, .toks p _, .int _ _⟩
      exact this
    | tup hi hx =>
      rename_i a xs vs
      obtain ⟨⟨h0, h1⟩, h⟩ := h
      obtain ⟨o, n, e1, e2, e3, e4⟩ := (p.rep.imm _ _ hi).2
      have hT : PyProof.Rows.IsTup s.heap a vs.toArray := ⟨o, e1, e2, n, e4⟩
      refine ⟨fun hq => gip hT.typeIs PyProof.Rows.slot_tuple_getitem.lookup (by intro e; cases e) hq, ?_⟩
      cases e : xs[i.toNat]? with
      | none => rw [e] at h; exact h.elim
      | some v =>
        rw [e] at h
        obtain ⟨w, hw, hr⟩ := hx.get e
        have hlt := (List.getElem?_eq_some_iff.mp hw).1
        exact PyProof.Rows.getItem_tuple hT (by omega) (by omega) (seqIx h0 (by rw [List.size_toArray]; omega)) (by rw [List.getElem?_toArray]; exact hw) ⟨_, _, _, _, h, .refl p, hr⟩
    | ref hi =>
      rename_i r a
      obtain ⟨⟨h0, h1⟩, h⟩ := h
      cases e : st.σ[r]? with
      | none => simp only [e] at h
      | some o =>
        obtain ⟨a', ha', hr⟩ := p.rep.objs r o e
        rw [hi] at ha'
        obtain rfl := Option.some.inj ha'
        cases o with
        | list xs =>
          simp only [e] at h
          obtain ⟨vs, hl, hx⟩ := list_isList hr
          refine ⟨fun hq => gip hl.typeIs slot_list_getitem.lookup (by intro e; cases e) hq, ?_⟩
          cases e2 : xs[i.toNat]? with
          | none => rw [e2] at h; exact h.elim
          | some v =>
            rw [e2] at h
            obtain ⟨w, hw, hr⟩ := hx.get e2
            exact wpAny_getItem_list hl h0 (by omega) (by rw [← Array.getElem?_toList]; exact hw) ⟨_, _, _, _, h, .refl p, hr⟩
        | inst | dict | exc => simp only [e] at h
    | _ => exact h.elim
  | _ => cases ha <;> exact h.elim
theorem list_slice {a : Addr} {xs : List AV} {vs : Array Value} {lo hi : Option AV} {l u : Option Int} {vl vh : Value} {sl : Addr} {Q : VQ} (p : RepX B κ own env st s) (hL : s.heap.IsList a vs) (hx : VRels κ xs vs.toList) (hl : ORelV κ lo vl) (hh : ORelV κ hi vh)
    (el : partOf lo = some l) (eh : partOf hi = some u) (hs : s.heap.get? sl = some { cls := .type "slice", data := .fields #[vl, vh, .none] }) (hz : xs.length ≤ 16777216) (h : addObj (.list (cut xs l u)) st Q) :
    (∀ {Q : Bool → Shared → Prop} {E}, Q false s → wpAny (model B.prog B.w) A (getitemInPython (.ref a)) Q E s) ∧ Sat B env A (getItem (.ref a) (.ref sl)) VR Q X κ own s := by
  refine ⟨fun hq => gip hL.typeIs slot_list_getitem.lookup (by intro e; cases e) hq, ?_⟩
  have hlen := hx.length
  have e0 : vs.toList.length = vs.size := Array.length_toList
  rw [e0] at hlen
  refine wpAny_getItem_list_slice hL ⟨_, hs, rfl, rfl⟩ (isPart hl el) (isPart hh eh) .none (by simp) ?_ (by rw [sizeLine_eq]; omega)
  rw [slicePick_plain]
  have hc : VRels κ (cut xs l u) (List.take (Option.elim u vs.size (clipAt vs.size) - Option.elim l 0 (clipAt vs.size)) (List.drop (Option.elim l 0 (clipAt vs.size)) vs.toList)) := by
    have := hx.cut l u
    unfold cut at this ⊢
    rw [e0] at this
    exact this
  obtain ⟨y, hi'⟩ := p.pushList hc
  exact SatQ.here y h (.ref hi')
theorem sound_slice {a : AV} {lo hi : Option AV} {va vl vh : Value} {sl : Addr} {Q : VQ} (p : RepX B κ own env st s) (ha : VRel κ a va) (hl : ORelV κ lo vl) (hh : ORelV κ hi vh)
    (hs : s.heap.get? sl = some { cls := .type "slice", data := .fields #[vl, vh, .none] }) (h : sliceW st a lo hi Q) :
    (∀ {Q : Bool → Shared → Prop} {E}, Q false s → wpAny (model B.prog B.w) A (getitemInPython va) Q E s) ∧ Sat B env A (getItem va (.ref sl)) VR Q X κ own s := by
  unfold sliceW at h
  cases el : partOf lo with
  | none => rw [el] at h; exact h.elim
  | some l =>
    cases eh : partOf hi with
    | none => rw [el, eh] at h; exact h.elim
    | some u =>
      rw [el, eh] at h
      cases ha with
      | str x t => exact ⟨fun hq => gip (typeIs_str _ _ _) PyProof.Rows.slot_str_getitem.lookup (by intro e; cases e) hq, str_slice p h.1 hl hh el eh hs h.2⟩
      | bytes x t => exact ⟨fun hq => gip (typeIs_bytes _ _ _) FB.slot_bytes_getitem.lookup (by intro e; cases e) hq, bytes_slice p h.1 hl hh el eh hs h.2⟩
      | ref hi =>
        rename_i r a
        cases e : st.σ[r]? with
        | none => simp only [e] at h
        | some o =>
          obtain ⟨a', ha', hr⟩ := p.rep.objs r o e
          rw [hi] at ha'
          obtain rfl := Option.some.inj ha'
          cases o with
          | list xs =>
            simp only [e] at h
            obtain ⟨vs, hL, hx⟩ := list_isList hr
            exact list_slice p hL hx hl hh el eh hs h.1 h.2
          | inst | dict | exc => simp only [e] at h
      | fls hi hx =>
        obtain ⟨_, hL⟩ := (p.rep.imm _ _ hi).2
        exact list_slice p hL (by simpa using hx) hl hh el eh hs h.1 h.2
      | _ => exact h.elim
end
end Sm
end
section
set_option maxRecDepth 100000
set_option linter.unusedVariables false
namespace Sm
open PySem PySem.Calls PySem.W
def lenW (σ : List AObj) (v : AV) (Q : AV → Prop) : Prop := match v with
  | .str x => x.length ≤ 16777216 ∧ Q (.int x.length)
  | .bytes b => b.size ≤ 16777216 ∧ Q (.int b.size)
  | .ref i => match σ[i]? with
    | some (.list xs) => xs.length ≤ 16777216 ∧ Q (.int xs.length)
    | some (.dict xs) => Q (.int xs.length)
    | _ => False
  | _ => False
def chrW (v : AV) (Q : AV → Prop) : Prop := match v with
  | .int i => (0 ≤ i ∧ i ≤ 1114111) ∧ Q (.str ⟨#[i.toNat]⟩)
  | _ => False
def isinstW (v t : AV) (Q : AV → Prop) : Prop := match v, t with
  | .str _, .type .str => Q (.bool true)
  | .str _, .type .bytes => Q (.bool false)
  | .str _, .type .int => Q (.bool false)
  | .int _, .type .int => Q (.bool true)
  | .int _, .type .bool => Q (.bool false)
  | _, _ => False
section
variable {B : Base} {κ₀ : Kw} {G : Genv} {sc : Scope} {env : Env} {A : Around} {κ : Kw} {own : Own} {st : St} {s : Shared} {X : Xp}
theorem sound_len {v : AV} {va : Value} {Q : VQ} (p : RepX B κ own env st s) (hv : VRel κ v va) (h : lenW st.σ v fun r => Q r st) : Sat B env A (call (.builtin "len") [va]) VR Q X κ own s := by
  have fin : ∀ {n : Int} {t : Tok} {k : Nat}, Q (.int n) st → ∃ b st' κ' own', Q b st' ∧ StepX B env κ own s κ' own' st' { s with toks := k } ∧ VR κ' b (.int n t) := fun q => ⟨_, _, _, _, q, .toks p _, .int _ _⟩
  cases hv with
  | str x t => exact PySem.P.len_str (by have := h.1; omega) (fin h.2)
  | bytes b t => exact PySem.W.len_bytes (by have := h.1; omega) (fin h.2)
  | ref hi =>
    rename_i i a
    cases e : st.σ[i]? with
    | none => simp only [lenW, e] at h
    | some o =>
      obtain ⟨a', ha', hr⟩ := p.rep.objs i o e
      rw [hi] at ha'
      obtain rfl := Option.some.inj ha'
      cases o with
      | list xs =>
        simp only [lenW, e] at h
        obtain ⟨vs, hl, hr⟩ := list_isList hr
        have hlen := hr.length
        have e0 : vs.toList.length = vs.size := Array.length_toList
        rw [e0] at hlen
        refine Calls.call_len_list hl (by have := h.1; omega) ?_
        rw [← hlen]
        exact fin h.2
      | dict kvs =>
        simp only [lenW, e] at h
        obtain ⟨vs, h1, h2, h3, h4⟩ := hr
        have hlen := h2.length
        refine call_len_dict (by simpa using h3) h1 (by omega) ?_
        rw [← hlen]
        exact fin h
      | inst | exc => simp only [lenW, e] at h
  | _ => exact h.elim
theorem sound_chr {v : AV} {va : Value} {Q : VQ} (p : RepX B κ own env st s) (hv : VRel κ v va) (h : chrW v fun r => Q r st) : Sat B env A (call (.builtin "chr") [va]) VR Q X κ own s := by
  cases hv with
  | int i t => exact PyProof.Rows.chr_of_range h.1.1 h.1.2 ⟨_, _, _, _, h.2, .toks p _, .str _ _⟩
  | _ => exact h.elim
theorem sound_isinst {v t : AV} {va ta : Value} {Q : VQ} (p : RepX B κ own env st s) (hv : VRel κ v va) (ht : VRel κ t ta) (h : isinstW v t fun r => Q r st) : Sat B env A (call (.builtin "isinstance") [va, ta]) VR Q X κ own s := by
  have yes : ∀ {b : Bool}, Q (.bool b) st → ∃ b' st' κ' own', Q b' st' ∧ StepX B env κ own s κ' own' st' s ∧ VR κ' b' (.bool b) := fun q => ⟨_, _, _, _, q, .refl p, .bool _⟩
  have no : ∀ {b : Bool} {k : Nat}, Q (.bool b) st → ∃ b' st' κ' own', Q b' st' ∧ StepX B env κ own s κ' own' st' { s with toks := k } ∧ VR κ' b' (.bool b) := fun q => ⟨_, _, _, _, q, .toks p _, .bool _⟩
  cases hv with
  | str x u =>
    cases ht with
    | type n =>
      cases n with
      | str => exact IsiPair.str_str (yes h)
      | bytes => exact IsiPair.str_bytes (no h)
      | int => exact IsiPair.str_int (no h)
      | _ => exact h.elim
    | _ => exact h.elim
  | int x u =>
    cases ht with
    | type n =>
      cases n with
      | int => exact IsiPair.int_int (yes h)
      | bool => exact IsiPair.int_bool (no h)
      | _ => exact h.elim
    | _ => exact h.elim
  | _ => cases t <;> exact h.elim
end
end Sm
end
section
set_option maxRecDepth 100000
set_option linter.unusedVariables false
namespace Sm
open PySem
def asc (x : Str) : Prop := ∀ c ∈ x.cps.toList, c < 128
def ascB (x : Str) : Array UInt8 := (x.cps.toList.map fun c => c.toUInt8).toArray
def strOf (b : Array UInt8) : Str := ⟨(b.toList.map UInt8.toNat).toArray⟩
def intsOf : List AV → Option (List Int)
  | [] => some []
  | .int i :: r => (intsOf r).map (i :: ·)
  | _ => none
def octetsOf : List AV → Option (List (Array UInt8))
  | [] => some []
  | .bytes b :: r => (octetsOf r).map (b :: ·)
  | _ => none
def isW2 (v t : AV) (Q : AV → Prop) : Prop := match v, t with
  | .bytes _, .type .bytes => Q (.bool true)
  | .bytes _, .type .str => Q (.bool false)
  | v, t => isinstW v t Q
def fmtT (y z : Str) : Str := ⟨#[50, 50, 48, 32] ++ y.cps ++ #[32] ++ z.cps⟩
def fnW (hd : Bool) (b : Bi) (vs : List AV) (st : St) (Q : VQ) : Prop := match b, vs with
  | .len, [v] => lenW st.σ v fun r => Q r st
  | .chr, [v] => chrW v fun r => Q r st
  | .isinstance, [v, t] => isW2 v t fun r => Q r st
  | .max, [.int a, .int b] => hd = false ∧ Q (.int (if a < b then b else a)) st
  | .sum, [.ref i] => match st.σ[i]? with
    | some (.list xs) => match intsOf xs with
      | some ns => (hd = false ∧ xs.length ≤ 1000) ∧ Q (.int ns.sum) st
      | none => False
    | _ => False
  | _, _ => False
def tyW (hd : Bool) (t : Ty) (vs : List AV) (st : St) (Q : VQ) : Prop := match t, vs with
  | .range, [.int n] => Q (.rng 0 n 1) st
  | .range, [.int a, .int b] => Q (.rng a b 1) st
  | .range, [.int a, .int b, .int c] => (c ≠ 0 ∧ small c) ∧ Q (.rng a b c) st
  | .bytes, [.ref i] => match st.σ[i]? with
    | some (.list xs) => match intsOf xs with
      | some ns => (hd = false ∧ xs.length ≤ 1000 ∧ ∀ n ∈ ns, 0 ≤ n ∧ n < 256) ∧ Q (.bytes (ns.map fun n => n.toNat.toUInt8).toArray) st
      | none => False
    | _ => False
  | _, _ => False
def methW (b : Bi) (o : AV) (vs : List AV) (st : St) (Q : VQ) : Prop := match b, o, vs with
  | .sEncode, .str x, [] => (asc x ∧ x.length ≤ 1000000) ∧ Q (.bytes (ascB x)) st
  | .sEncode, .str x, [.str y] => ((y = ("ascii" : Str) ∨ y = ("utf-8" : Str)) ∧ asc x ∧ x.length ≤ 1000000) ∧ Q (.bytes (ascB x)) st
  | .sFind, .str x, [.str y] => Q (.int (Txt.find x y)) st
  | .sFormat, .str x, [.str y, .str z] => (x = ⟨#[50, 50, 48, 32, 123, 125, 32, 123, 125]⟩ ∧ y.length ≤ 100000 ∧ z.length ≤ 100000) ∧ Q (.str (fmtT y z)) st
  | .bFind, .bytes x, [.bytes y] => Q (.int (findB x y none)) st
  | .bFind, .bytes x, [.bytes y, .int i] => Q (.int (findB x y (some i))) st
  | .bStrip, .bytes x, [] => x.size ≤ 16777216 ∧ Q (.bytes (stripB true true Builtin.Bytes.isSpace x).toArray) st
  | .bStrip, .bytes x, [.bytes y] => x.size ≤ 16777216 ∧ Q (.bytes (stripB true true y.contains x).toArray) st
  | .bRstrip, .bytes x, [.bytes y] => x.size ≤ 16777216 ∧ Q (.bytes (stripB false true y.contains x).toArray) st
  | .bUpper, .bytes x, [] => x.size ≤ 16777216 ∧ Q (.bytes (x.toList.map Builtin.Bytes.toUpper).toArray) st
  | .bLower, .bytes x, [] => x.size ≤ 16777216 ∧ Q (.bytes (x.toList.map Builtin.Bytes.toLower).toArray) st
  | .bPartition, .bytes x, [.bytes y] => (y.isEmpty = false ∧ x.size ≤ 16777216) ∧ match partB x y with
    | some i => Q (.tup [.bytes (x.extract 0 i), .bytes y, .bytes (x.extract (i + y.size) x.size)]) st
    | none => Q (.tup [.bytes x, .bytes #[], .bytes #[]]) st
  | .bJoin, .bytes x, [.ref i] => match st.σ[i]? with
    | some (.list xs) => match octetsOf xs with
      | some bs => (bs.map (·.size)).sum + x.size * bs.length ≤ 16777216 ∧ Q (.bytes (Builtin.Bytes.joined x bs)) st
      | none => False
    | _ => False
  | .bDecode, .bytes x, [.str y] => (y = ("ascii" : Str) ∧ (∀ c ∈ x.toList, c.toNat < 128) ∧ x.size ≤ 1000000) ∧ Q (.str (strOf x)) st
  | .iToBytes, .int x, [.int k, .str y] => (y = ("big" : Str) ∧ 0 ≤ k ∧ k ≤ 100000 ∧ 0 ≤ x ∧ x < 256 ^ k.toNat) ∧ Q (.bytes (octs k.toNat x).toArray) st
  | .iFromBytes, .type .int, [.bytes x, .str y] => (y = ("big" : Str) ∧ x.size ≤ 10000) ∧ Q (.int (bigN x.toList)) st
  | .lAppend, .ref i, [v] => match st.σ[i]? with
    | some (.list xs) => xs.length ≤ 100000 ∧ Q .none { st with σ := st.σ.set i (.list (xs ++ [v])) }
    | _ => False
  | .dGet, .ref i, [.str k] => match st.σ[i]? with
    | some (.dict kvs) => Q ((kvs.lookup k).getD .none) st
    | _ => False
  | _, _, _ => False
def unW (op : UnaryOp) (a : AV) (Q : AV → Prop) : Prop := match op, a with
  | .USub, .int i => Q (.int (-i))
  | _, _ => False
def blts (hd : Bool) : Blts where
  fn b vs st Q _ := fnW hd b vs st Q
  ty t vs st Q _ := tyW hd t vs st Q
  meth b o vs st Q _ := methW b o vs st Q
  item a b st Q _ := itemW st.σ a b fun v => Q v st
  slice a lo hi st Q _ := sliceW st a lo hi Q
  un op a st Q _ := unW op a fun v => Q v st
  cmp op a b st Q _ := cmpW op a b fun r => Q r st
end Sm
end
section
set_option maxRecDepth 100000
set_option linter.unusedVariables false
namespace Sm
open PySem PySem.Calls PySem.W
theorem enc_lookup {l : List (Nat × Bi)} {n : Nat} {b : Bi} (h : l.lookup n = some b) : (n, b) ∈ l := by
  induction l with
  | nil => cases h
  | cons p r ih =>
    obtain ⟨a, c⟩ := p
    rw [List.lookup_cons] at h
    cases e : n == a with
    | true => rw [e] at h; obtain rfl := Option.some.inj h; rw [eq_of_beq e]; exact .head _
    | false => rw [e] at h; exact .tail _ (ih h)
abbrev MF (T : String) (p : Nat × Bi) : Prop := Slot T (dec p.1) p.2.id ∧ typeOf (.builtin p.2.id) = pure (.type "method_descriptor")
theorem mf {T : String} {x : Str} {b : Bi} (hx : plainS x = true) (h1 : Slot T x b.id) (h2 : typeOf (.builtin b.id) = pure (.type "method_descriptor")) : MF T (enc x, b) := ⟨by show Slot T (dec (enc x)) _; rw [dec_enc hx]; exact h1, h2⟩
theorem strM : ∀ p ∈ strMeths, MF "str" p := by
  intro p hp
  simp only [strMeths, List.mem_cons, List.not_mem_nil, or_false] at hp
  rcases hp with rfl | rfl | rfl | rfl | rfl | rfl | rfl | rfl | rfl | rfl | rfl | rfl | rfl | rfl | rfl
  · exact mf (by decide +kernel) F.slot_str_encode F.type_str_encode
  · exact mf (by decide +kernel) F.slot_str_find F.type_str_find
  · exact mf (by decide +kernel) F.slot_str_format_m F.type_str_format_m
  · exact mf (by decide +kernel) F.slot_str_join F.type_str_join
  · exact mf (by decide +kernel) F.slot_str_upper F.type_str_upper
  · exact mf (by decide +kernel) F.slot_str_lower F.type_str_lower
  · exact mf (by decide +kernel) F.slot_str_strip F.type_str_strip
  · exact mf (by decide +kernel) F.slot_str_lstrip F.type_str_lstrip
  · exact mf (by decide +kernel) F.slot_str_rstrip F.type_str_rstrip
  · exact mf (by decide +kernel) F.slot_str_split F.type_str_split
  · exact mf (by decide +kernel) F.slot_str_partition F.type_str_partition
  · exact mf (by decide +kernel) F.slot_str_rpartition F.type_str_rpartition
  · exact mf (by decide +kernel) F.slot_str_isalnum F.type_str_isalnum
  · exact mf (by decide +kernel) F.slot_str_isdigit F.type_str_isdigit
  · exact mf (by decide +kernel) F.slot_str_startswith F.type_str_startswith
theorem bytesM : ∀ p ∈ bytesMeths, MF "bytes" p := by
  intro p hp
  simp only [bytesMeths, List.mem_cons, List.not_mem_nil, or_false] at hp
  rcases hp with rfl | rfl | rfl | rfl | rfl | rfl | rfl | rfl | rfl | rfl | rfl
  · exact mf (by decide +kernel) FX.slot_bytes_find FX.type_bytes_find
  · exact mf (by decide +kernel) FX.slot_bytes_strip FX.type_bytes_strip
  · exact mf (by decide +kernel) FX.slot_bytes_rstrip FX.type_bytes_rstrip
  · exact mf (by decide +kernel) FX.slot_bytes_partition FX.type_bytes_partition
  · exact mf (by decide +kernel) FX.slot_bytes_upper FX.type_bytes_upper
  · exact mf (by decide +kernel) FX.slot_bytes_lower FX.type_bytes_lower
  · exact mf (by decide +kernel) FX.slot_bytes_join FX.type_bytes_join
  · exact mf (by decide +kernel) FB.slot_bytes_decode FB.type_bytes_decode
  · exact mf (by decide +kernel) FX.slot_bytes_split FX.type_bytes_split
  · exact mf (by decide +kernel) FB.slot_bytes_startswith FB.type_bytes_startswith
  · exact mf (by decide +kernel) FB.slot_bytes_endswith FB.type_bytes_endswith
theorem listM : ∀ p ∈ listMeths, MF "list" p := by
  intro p hp
  simp only [listMeths, List.mem_cons, List.not_mem_nil, or_false] at hp
  rcases hp with rfl | rfl | rfl
  · exact mf (by decide +kernel) F.slot_list_append F.type_list_append
  · exact mf (by decide +kernel) F.slot_list_extend F.type_list_extend
  · exact mf (by decide +kernel) F.slot_list_sort F.type_list_sort
theorem dictM : ∀ p ∈ dictMeths, MF "dict" p := by
  intro p hp
  simp only [dictMeths, List.mem_cons, List.not_mem_nil, or_false] at hp
  rcases hp with rfl | rfl | rfl | rfl | rfl
  · exact mf (by decide +kernel) F.slot_dict_get F.type_dict_get
  · exact mf (by decide +kernel) F.slot_dict_items F.type_dict_items
  · exact mf (by decide +kernel) F.slot_dict_values F.type_dict_values
  · exact mf (by decide +kernel) F.slot_dict_keys F.type_dict_keys
  · exact mf (by decide +kernel) F.slot_dict_pop F.type_dict_pop
section
variable {prog : Program} {w : World} {A : Around} {E : Value → Shared → Prop} {s : Shared}
theorem from_bytes_getm {pl : Sem Bool} {Q : Value × List Value → Shared → Prop} (h : ∀ k, Q (.ref s.heap.objs.size, []) { s with heap := s.heap.push KFB.bound, toks := k }) :
    wpAny (model prog w) A (getMethod (.type "int") (PySem.Str.ofString "from_bytes") pl) Q E s := by
  have X : Frag.In [] s.heap := fun a o e => by cases e
  have hstub : opaqueClassAbove (.type "int") = pure none := by unfold opaqueClassAbove; dsimp only; rw [show Manifest.isStub "int" = false by decide +kernel]; rfl
  have ht : typeOf (.type "int") = pure (.type "type") := by first | rfl | kernel_rfl
  have L0 : Looks (model prog w) s.heap (typeOf (.type "int")) (.type "type") := Looks.of_pure ht
  have hg : findIn [] (.type "type") "__getattribute__" = some (some (.builtin "type.__getattribute__")) := type_tga
  have e : findCls [] (.type "int") (.type "type") (PySem.Str.ofString "from_bytes") = some (.get (.builtin "classmethod_descriptor.__get__") (.builtin "int.from_bytes") .none (.type "int")) := by kernel_rfl
  unfold getMethod specialOf
  refine wpAny_bind (wpAny_bind (L0.here ((looks_findIn X hg).here ?_)))
  dsimp only
  rw [if_pos canon_tga]
  refine wpAny_bind (wpAny_mono (Q := fun v => Q (v, [])) (E := E) ?_ (fun _ _ z => wpAny_pure z) fun _ _ z => z)
  have LO : Looks (model prog w) s.heap (opaqueClassAbove (.type "int")) none := Looks.of_pure hstub
  refine cls_open X LO L0 hg (looks_hook X (r := none) (by rfl)) (by show subIn [] _ _ = _; rfl) e ?_
  show wpAny _ _ (holding [.builtin "int.from_bytes"] (call (.builtin "classmethod_descriptor.__get__") [.builtin "int.from_bytes", .none, .type "int"]) >>= fun v => ret v) _ _ _
  refine wpAny_bind (wpAny_holding (wpAny_call_entry KFB.slot_get KFB.type_fb KFB.entry_get (KFB.run_get ⟨_, rfl, wpAny_pure (wpAny_pure (h _))⟩) (KFB.args_get _ _ _)))
end
section
variable {B : Base} {κ : Kw} {own : Own} {env : Env} {A : Around} {st : St} {s : Shared} {G : Genv}
theorem sound_getm {b : Bi} {ov : AV} {va : Value} {name : Nat} {pl : Sem Bool} {Q : Value × List Value → Shared → Prop} {E : Value → Shared → Prop} (h : methodOf G st.σ ov name = some (.blt b)) (p : RepX B κ own env st s) (hv : VRel κ ov va)
    (hq : ∀ f first s', Bcal b va f first s'.heap → (∀ u, f = .ref u → s.heap.get? u = none) → (∀ c o, s.heap.get? c = some o → s'.heap.get? c = some o) → s'.gens = s.gens → s'.os = s.os → Q (f, first) s') :
    wpAny (model B.prog B.w) A (getMethod va (dec name) pl) Q E s := by
  have here : b ≠ .iFromBytes → Q (.builtin b.id, [va]) s := fun hne => hq _ _ s (.inl ⟨hne, rfl, rfl⟩) (fun u e => by cases e) (fun _ _ e => e) rfl rfl
  have off : ∀ {l : List (Nat × Bi)} {n : Nat}, (∀ p ∈ l, p.2 ≠ .iFromBytes) → l.lookup n = some b → b ≠ .iFromBytes := fun hl e => hl _ (enc_lookup e)
  have unmap : ∀ {o : Option Bi}, o.map Callee.blt = some (.blt b) → o = some b := fun {o} e => by
    cases o with
    | none => cases e
    | some c => simpa using e
  cases hv with
  | str x t =>
    obtain ⟨h1, h2⟩ := strM _ (enc_lookup (unmap h))
    exact getMethod_builtin (typeIs_str _ _ _) F.plainAttrs_str h1 h2 (fun _ e => nomatch e) (here (off (l := strMeths) (by decide) (unmap h)))
  | bytes x t =>
    obtain ⟨h1, h2⟩ := bytesM _ (enc_lookup (unmap h))
    exact getMethod_builtin (typeIs_bytes _ _ _) FB.plainAttrs_bytes h1 h2 (fun _ e => nomatch e) (here (off (l := bytesMeths) (by decide) (unmap h)))
  | int i t =>
    unfold methodOf at h
    cases e : Nat.beq name (enc "to_bytes") with
    | false => rw [e] at h; cases h
    | true =>
      rw [e] at h
      have hb : Bi.iToBytes = b := by simpa using h
      subst hb
      rw [Nat.eq_of_beq_eq_true e, dec_enc (by decide +kernel)]
      exact KTBy.method (here (by decide))
  | type n =>
    cases n with
    | int =>
      unfold methodOf at h
      cases e : Nat.beq name (enc "from_bytes") with
      | false => rw [e] at h; cases h
      | true =>
        rw [e] at h
        have hb : Bi.iFromBytes = b := by simpa using h
        subst hb
        rw [Nat.eq_of_beq_eq_true e, dec_enc (by decide +kernel)]
        exact from_bytes_getm fun k => hq _ _ _ (.inr ⟨rfl, _, rfl, rfl, Heap.get?_push_size _ rfl⟩) (fun u e => by cases e; exact size_dead _) (fun c o e => Heap.get?_push_of_some _ e) rfl rfl
    | _ => cases h
  | ref hi =>
    rename_i i a
    unfold methodOf at h
    dsimp only at h
    cases e : st.σ[i]? with
    | none => rw [e] at h; cases h
    | some o =>
      obtain ⟨a', ha', hr⟩ := p.rep.objs i o e
      rw [hi] at ha'
      obtain rfl := Option.some.inj ha'
      rw [e] at h
      cases o with
      | list xs =>
        obtain ⟨h1, h2⟩ := listM _ (enc_lookup (unmap h))
        obtain ⟨vs, ⟨n, hl⟩, _⟩ := hr
        exact getMethod_builtin ⟨_, hl, rfl⟩ F.plainAttrs_list h1 h2 (fun _ e => by cases e; exact ⟨_, hl, rfl⟩) (here (off (l := listMeths) (by decide) (unmap h)))
      | dict kvs =>
        obtain ⟨h1, h2⟩ := dictM _ (enc_lookup (unmap h))
        obtain ⟨vs, hd, _⟩ := hr
        have hm := hd.mapOf
        exact getMethod_builtin hm.typeIs F.plainAttrs_dict h1 h2 (fun a e => hm.noDict a e) (here (off (l := dictMeths) (by decide) (unmap h)))
      | exc => cases h
      | inst C fs =>
        dsimp only at h
        split at h
        · cases h
        · split at h
          · split at h <;> cases h
          · cases h
  | _ => cases h
end
end Sm
end
section
set_option maxRecDepth 100000
set_option linter.unusedVariables false
namespace Sm
open PySem PySem.Calls PySem.W Builtin Builtin._codecs
def narrowB (c : TextCodec) (x : Str) : Array UInt8 := x.cps.foldl (fun acc y => acc ++ (c.bytesOf y).toArray) #[]
theorem foldl_size (f : Nat → List UInt8) (hf : ∀ y, (f y).length ≤ 4) : ∀ (l : List Nat) (a : Array UInt8), (l.foldl (fun acc y => acc ++ (f y).toArray) a).size ≤ a.size + 4 * l.length
  | [], a => by simp
  | y :: l, a => by
    rw [List.foldl_cons]
    have := foldl_size f hf l (a ++ (f y).toArray)
    have h := hf y
    simp only [Array.size_append, List.size_toArray] at this
    simp only [List.length_cons]
    omega
theorem narrow {M : Model} {A : Around} {E : Value → Shared → Prop} {s : Shared} {id : String} {c : TextCodec} {self : Value} {x : Str} {Q : Array UInt8 → Shared → Prop} (hc : ∀ y ∈ x.cps.toList, c.bad y = false) (hl : ∀ y, (c.bytesOf y).length ≤ 4) (hz : x.length ≤ 1000000) (h : Q (narrowB c x) s) :
    wpAny M A (encodeNarrow id c none self x) Q E s := by
  unfold encodeNarrow
  simp only [KPc.range_list]
  have hlen : x.length = x.cps.size := rfl
  have hb : (narrowB c x).size ≤ 4000000 := by
    unfold narrowB
    rw [← Array.foldl_toList]
    have := foldl_size c.bytesOf hl x.cps.toList #[]
    simp only [Array.size_empty, Array.length_toList] at this
    omega
  cases hn : x.length with
  | zero =>
    have e : x.cps = #[] := Array.eq_empty_of_size_eq_zero (hlen ▸ hn)
    unfold narrowB at h
    rw [e] at h
    exact wpAny_pure h
  | succ n =>
    rw [List.range'_succ, List.forIn_cons]
    have h0 : x.cps[0]? = some (x.cps[0]'(by omega)) := Array.getElem?_eq_getElem (by omega)
    have hbad : c.bad (x.cps[0]'(by omega)) = false := hc _ (by simp)
    have e1 : x.cps.extract 0 x.cps.size = x.cps := Array.extract_size
    have e2 : x.cps.findIdx? c.bad = none := by
      rw [Array.findIdx?_eq_none_iff]
      intro y hy
      simpa using hc y (Array.mem_toList_iff.mpr hy)
    simp only [show ¬ ((#[] : Array UInt8).size > sizeLine) from Nat.not_lt_zero _, if_false, h0, hbad, Bool.not_false, if_true, e1, e2, Option.getD_none, Nat.zero_add]
    simp only [pure_bind]
    cases n with
    | zero =>
      simp only [List.range'_zero, List.forIn_nil, pure_bind]
      exact wpAny_pure h
    | succ n =>
      rw [List.range'_succ, List.forIn_cons]
      have h1 : x.cps[x.cps.size]? = none := by simp
      simp only [h1]
      have hnb : ¬ ((x.cps.foldl (fun acc y => acc ++ (c.bytesOf y).toArray) #[]).size > sizeLine) := by
        rw [sizeLine_eq]
        unfold narrowB at hb
        omega
      rw [if_neg hnb]
      simp only [pure_bind]
      exact wpAny_pure h
theorem narrow_ascii {x : Str} (h : asc x) : narrowB asciiCodec x = ascB x := by
  unfold narrowB ascB
  rw [← Array.foldl_toList]
  have : ∀ (l : List Nat) (a : Array UInt8), l.foldl (fun acc y => acc ++ (asciiCodec.bytesOf y).toArray) a = a ++ (l.map fun c => c.toUInt8).toArray := by
    intro l
    induction l with
    | nil => intro a; simp
    | cons y l ih =>
      intro a
      rw [List.foldl_cons, ih]
      show (a ++ [y.toUInt8].toArray) ++ _ = _
      simp
  rw [this]; simp
theorem narrow_utf8 {x : Str} (h : asc x) : narrowB utf8Codec x = ascB x := by
  unfold narrowB ascB
  rw [← Array.foldl_toList]
  have : ∀ (l : List Nat) (a : Array UInt8), (∀ c ∈ l, c < 128) → l.foldl (fun acc y => acc ++ (utf8Codec.bytesOf y).toArray) a = a ++ (l.map fun c => c.toUInt8).toArray := by
    intro l
    induction l with
    | nil => intro a _; simp
    | cons y l ih =>
      intro a hl
      rw [List.foldl_cons, ih _ fun c hc => hl c (.tail _ hc)]
      have e : utf8Codec.bytesOf y = [y.toUInt8] := by
        show Str.utf8Of y = _
        unfold Str.utf8Of
        rw [if_pos (hl y (.head _))]
      rw [e]
      simp
  rw [this _ _ h]; simp
theorem ascii_bad {x : Str} (h : asc x) : ∀ y ∈ x.cps.toList, asciiCodec.bad y = false := fun y hy => by
  have := h y hy
  show decide (y ≥ 128) = false
  exact decide_eq_false (by omega)
theorem utf8_bad {x : Str} (h : asc x) : ∀ y ∈ x.cps.toList, utf8Codec.bad y = false := fun y hy => by
  have := h y hy
  show Str.isSurrogate y = false
  unfold Str.isSurrogate
  simp only [Bool.and_eq_false_iff, decide_eq_false_iff_not]
  left; omega
theorem utf8_len (y : Nat) : (utf8Codec.bytesOf y).length ≤ 4 := by
  show (Str.utf8Of y).length ≤ 4
  unfold Str.utf8Of
  (repeat' split) <;> simp
theorem road_ascii (id : String) (self : Value) (x : Str) (errors : Option Str) : encodeRoad id self x (Str.ofString "ascii") errors = (do mkBytes (← encodeNarrow id asciiCodec errors self x)) := by
  first | rfl | (unfold encodeRoad; rfl) | kernel_rfl
theorem encode1_eq (x : Str) (t : Tok) : Builtin.«str.encode» ⟨[.str x t], []⟩ = (do ret (← encodeRoad "str.encode" (.str x t) x (Str.ofString "utf-8") none)) := by kernel_rfl
theorem encode2_ascii (x : Str) (t u : Tok) : Builtin.«str.encode» ⟨[.str x t, .str (Str.ofString "ascii") u], []⟩ = (do ret (← encodeRoad "str.encode" (.str x t) x (Str.ofString "ascii") none)) := by kernel_rfl
theorem encode2_utf8 (x : Str) (t u : Tok) : Builtin.«str.encode» ⟨[.str x t, .str (Str.ofString "utf-8") u], []⟩ = (do ret (← encodeRoad "str.encode" (.str x t) x (Str.ofString "utf-8") none)) := by kernel_rfl
section
variable {x : Str} {t u : Tok}
theorem asc_size (hz : x.length ≤ 1000000) : (ascB x).size ≤ sizeLine := by
  unfold ascB
  rw [List.size_toArray, List.length_map, Array.length_toList, sizeLine_eq]
  have : x.length = x.cps.size := rfl
  omega
theorem enc_utf8 {M : Model} {A : Around} {E : Value → Shared → Prop} {s : Shared} {P : Fin → Shared → Prop} (ha : asc x) (hz : x.length ≤ 1000000) (h : ∀ t', P (.done (.ret (.bytes (ascB x) t'))) { s with toks := s.toks + 1 }) :
    wpAny M A (do ret (← encodeRoad "str.encode" (.str x t) x (Str.ofString "utf-8") none)) P E s := by
  rw [encodeRoad_utf8]
  refine wpAny_bind (wpAny_bind (narrow (utf8_bad ha) utf8_len hz ?_))
  rw [narrow_utf8 ha]
  exact wpAny_mkBytes (wpAny_pure (h _)) (asc_size hz)
theorem enc_ascii {M : Model} {A : Around} {E : Value → Shared → Prop} {s : Shared} {P : Fin → Shared → Prop} (ha : asc x) (hz : x.length ≤ 1000000) (h : ∀ t', P (.done (.ret (.bytes (ascB x) t'))) { s with toks := s.toks + 1 }) :
    wpAny M A (do ret (← encodeRoad "str.encode" (.str x t) x (Str.ofString "ascii") none)) P E s := by
  rw [road_ascii]
  refine wpAny_bind (wpAny_bind (narrow (ascii_bad ha) (fun y => by show ([y.toUInt8] : List UInt8).length ≤ 4; simp) hz ?_))
  rw [narrow_ascii ha]
  exact wpAny_mkBytes (wpAny_pure (h _)) (asc_size hz)
theorem meets_encode1 (ha : asc x) (hz : x.length ≤ 1000000) : Meets (Builtin.«str.encode» ⟨[.str x t], []⟩) (fun _ R s => ∀ t', R (.ok (.ret (.bytes (ascB x) t'))) { s with toks := s.toks + 1 }) := by
  refine .of_wp fun prog w A R s h => ?_
  rw [encode1_eq]
  exact enc_utf8 ha hz fun t' => ⟨_, rfl, h t'⟩
theorem meets_encode2 {y : Str} (hy : y = Str.ofString "ascii" ∨ y = Str.ofString "utf-8") (ha : asc x) (hz : x.length ≤ 1000000) : Meets (Builtin.«str.encode» ⟨[.str x t, .str y u], []⟩) (fun _ R s => ∀ t', R (.ok (.ret (.bytes (ascB x) t'))) { s with toks := s.toks + 1 }) := by
  refine .of_wp fun prog w A R s h => ?_
  rcases hy with rfl | rfl
  · rw [encode2_ascii]
    exact enc_ascii ha hz fun t' => ⟨_, rfl, h t'⟩
  · rw [encode2_utf8]
    exact enc_utf8 ha hz fun t' => ⟨_, rfl, h t'⟩
end
end Sm
end
section
set_option maxRecDepth 100000
set_option linter.unusedVariables false
namespace Sm
open PySem PySem.Calls PySem.W
section
variable {prog : Program} {w : World} {A : Around} {E : Value → Shared → Prop} {s : Shared} {b : Array UInt8} {u : Tok} {Q : Value → Shared → Prop}
theorem sub_bytes_bytes : isSubtype (.type "bytes") (.type "bytes") = pure true := by rw [isSubtype_type]; kernel_rfl
theorem sub_bytes_str : isSubtype (.type "bytes") (.type "str") = pure false := by rw [isSubtype_type]; kernel_rfl
theorem sub_bytes_int : isSubtype (.type "bytes") (.type "int") = pure false := by rw [isSubtype_type]; kernel_rfl
theorem isi_bytes_bytes (h : Q (.bool true) s) : wpAny (model prog w) A (call (.builtin "isinstance") [.bytes b u, .type "bytes"]) Q E s :=
  call_isinstance (isinstance_true (Tx := "bytes") F.isi_meta_bytes sub_bytes_bytes) ⟨rfl, h⟩
theorem isinstance_false_bytes {T : String} (hne : (Value.type "bytes" == Value.type T) = false) (hty : typeOf (.type T) = pure (.type "type")) (hsub : isSubtype (.type "bytes") (.type T) = pure false) :
    Meets (Builtin.«isinstance» ⟨[.bytes b u, .type T], []⟩) (fun _ R s => R (.ok (.ret (.bool false))) { s with toks := s.toks + 1 }) :=
  fun _ _ _ _ s hs => by
    obtain ⟨h, g, d, t, os⟩ := s
    exact isinstance_outer (isinstance_nested_false_bytes hne hty hsub hs)
theorem isi_bytes_str (h : Q (.bool false) { s with toks := s.toks + 1 }) : wpAny (model prog w) A (call (.builtin "isinstance") [.bytes b u, .type "str"]) Q E s :=
  call_isinstance (isinstance_false_bytes (by decide +kernel) F.isi_meta_str sub_bytes_str) h
end
end Sm
end
section
set_option maxRecDepth 100000
set_option linter.unusedVariables false
namespace Sm
open PySem PySem.Calls PySem.W Builtin
section
variable {M : Model} {A : Around} {E : Value → Shared → Prop} {s : Shared}
def upTo (b : Array UInt8) (k : Nat) : Array Nat := ((b.toList.take k).map UInt8.toNat).toArray
theorem upTo_size (b : Array UInt8) (k : Nat) : (upTo b k).size ≤ b.size := by
  unfold upTo
  have : b.toList.length = b.size := Array.length_toList
  simp only [List.size_toArray, List.length_map, List.length_take]
  omega
theorem loop_up {σ : Type} {n : Nat} {f : Nat → σ → Sem (ForInStep σ)} {inv : Nat → σ} {Q : σ → Shared → Prop} (hf : ∀ k x, k < n → f x (inv k) = pure (.yield (inv (k + 1)))) (h : Q (inv n) s) : ∀ m k, k + m = n → wpAny M A (forIn (List.range' k m) (inv k) f) Q E s
  | 0, k, e => by
    obtain rfl : k = n := by omega
    exact wpAny_pure h
  | m + 1, k, e => by
    rw [List.range'_succ, List.forIn_cons, hf k k (by omega)]
    simp only [pure_bind]
    exact loop_up hf h m (k + 1) (by omega)
theorem upTo_succ (b : Array UInt8) (k : Nat) (hk : k < b.size) : upTo b (k + 1) = upTo b k ++ [(b.getD k 0).toNat].toArray := by
  unfold upTo
  have hl : k < b.toList.length := by rw [Array.length_toList]; exact hk
  rw [List.take_add_one, List.getElem?_eq_getElem hl]
  have e : b.getD k 0 = b.toList[k] := by simp [Array.getD, hk]
  simp [e]
theorem upTo_all (b : Array UInt8) : upTo b b.size = (strOf b).cps := by
  unfold upTo strOf
  rw [List.take_of_length_le (by simp)]
theorem ascii_run {id : String} {b : Array UInt8} {Q : Array Nat × Nat → Shared → Prop} (hc : ∀ c ∈ b.toList, c.toNat < 128) (hz : b.size ≤ 1000000) (h : Q ((strOf b).cps, b.size) s) :
    wpAny M A (_codecs.runDecoder id _codecs.asciiDecoder none true b 0 []) Q E s := by
  rw [← upTo_all] at h
  unfold _codecs.runDecoder
  simp only [KPc.range_list]
  refine wpAny_bind (loop_up (n := b.size) (inv := fun k => (k, upTo b k, ({ held := [] } : _codecs.Faults))) (fun k x hk => ?_) (wpAny_pure h) b.size 0 (by omega))
  have hs := upTo_size b k
  have hd : (b.getD k 0).toNat < 128 := by
    refine hc _ ?_
    have e : b.getD k 0 = b[k] := by simp [Array.getD, hk]
    rw [e]
    exact Array.mem_toList_iff.mpr (Array.getElem_mem hk)
  have e : _codecs.asciiDecoder.find true b k = .text [(b.getD k 0).toNat] (k + 1) := by
    show (if (b.getD k 0).toNat < 128 then _ else _) = _
    rw [if_pos hd]; rfl
  dsimp only
  rw [if_neg (by rw [sizeLine_eq]; omega), if_neg (by omega), e]
  dsimp only
  rw [upTo_succ b k hk]
theorem droad_eq {id : String} {b : Array UInt8} : _codecs.decodeRoad id b (PySem.Str.ofString "ascii") none [] = (_codecs.runDecoder id _codecs.asciiDecoder none true b 0 [] >>= fun r => mkStr ⟨r.1⟩) := by kernel_rfl
end
section
variable {b : Array UInt8} {c : UInt8} {cs : List UInt8} {t : Tok}
theorem meets_text {t1 t2 : Tok} {d : PySem.Str} (hc : ∀ c ∈ b.toList, c.toNat < 128) (hz : b.size ≤ 1000000) :
    Meets («_codecs.decode.text» ⟨[.bytes b t, .str (PySem.Str.ofString "ascii") t1, .none, .str d t2], []⟩) (fun _ R s => R (.ok (.ret (.str (strOf b) s.toks))) { s with toks := s.toks + 1 }) := by
  refine .of_wp fun prog w A R s h => ?_
  show wpAny _ _ (Bytes.bytesLike _ (.bytes b t) >>= fun r => _) _ _ s
  refine wpAny_bind (wpAny_of_eq KBd.like_eq ?_)
  refine wpAny_bind (wpAny_of_eq KBd.held_eq ?_)
  show wpAny _ _ (_codecs.decodeRoad _ b (PySem.Str.ofString "ascii") none [] >>= fun v => _) _ _ s
  rw [droad_eq]
  refine wpAny_bind (wpAny_bind (ascii_run hc hz ?_))
  exact wpAny_mkStr (wpAny_pure ⟨_, rfl, h⟩) (by
    show (strOf b).cps.size ≤ _
    rw [← upTo_all]
    have := upTo_size b b.size
    rw [sizeLine_eq]; omega)
theorem dentry_eq {u : Tok} : «bytes.decode» ⟨[.bytes (c :: cs).toArray t, .str (PySem.Str.ofString "ascii") u], []⟩ = (mkStr (PySem.Str.ofString "utf-8") >>= fun _ => mkStr (PySem.Str.ofString "ascii") >>= fun e => mkStr (PySem.Str.ofString "bytes.decode") >>= fun d =>
    call (.builtin "_codecs.decode.text") [.bytes (c :: cs).toArray t, e, .none, d] >>= fun v => ret v) := by kernel_rfl
theorem dentry_nil {u : Tok} : «bytes.decode» ⟨[.bytes #[] t, .str (PySem.Str.ofString "ascii") u], []⟩ = (rule "bytes.decode.empty" >>= fun _ => retStr PySem.Str.empty) := by kernel_rfl
theorem meets_decode2 {u : Tok} (hc : ∀ c ∈ b.toList, c.toNat < 128) (hz : b.size ≤ 1000000) :
    Meets («bytes.decode» ⟨[.bytes b t, .str (PySem.Str.ofString "ascii") u], []⟩) (fun _ R s => ∀ t' k, R (.ok (.ret (.str (strOf b) t'))) { s with toks := k }) := by
  refine .of_wp fun prog w A R s h => ?_
  obtain ⟨l⟩ := b
  cases l with
  | nil =>
    rw [dentry_nil]
    exact wpAny_bind (wpAny_rule (wpAny_bind (wpAny_mkStr (wpAny_pure ⟨_, rfl, h _ _⟩) (by decide))))
  | cons c cs =>
    rw [dentry_eq]
    refine wpAny_bind (wpAny_mkStr ?_ (by decide))
    refine wpAny_bind (wpAny_mkStr ?_ (by decide))
    refine wpAny_bind (wpAny_mkStr ?_ (by decide))
    exact wpAny_bind (call_function_meets KBd.kind_text KBd.plain_text KBd.entry_text (KBd.args_text _ _ _ _) (meets_text hc hz) (wpAny_pure ⟨_, rfl, h _ _⟩))
theorem args_decode2 (a b : Value) : argsOk "bytes.decode" ⟨[a, b], []⟩ := by
  unfold argsOk; rw [signature?_of (id := "bytes.decode") (n := ['e', 'd', 'o', 'c', 'e', 'd']) (o := ['s', 'e', 't', 'y', 'b']) (by kernel_rfl) FB.owner_bytes]; kernel_rfl
end
end Sm
end
section
set_option maxRecDepth 100000
set_option linter.unusedVariables false
namespace Sm
open PySem PySem.Calls PySem.W PyProof.Rows
section
variable {y z : PySem.Str} {t u v : Tok}
theorem fmt1 (hy : y.length ≤ 100000) (hz : z.length ≤ 100000) : Meets (Builtin.«str.format» ⟨[.str (PySem.Str.mk #[50, 50, 48, 32, 123, 125, 32, 123, 125]) t, .str y u, .str z v], []⟩) (fun _ R s => ∀ t' k, R (.ok (.ret (.str (((PySem.Str.mk #[50, 50, 48, 32] ++ y) ++ PySem.Str.mk #[32]) ++ z) t'))) { s with toks := k }) := by
  kfm_run
theorem fmtT_eq : ((PySem.Str.mk #[50, 50, 48, 32] ++ y) ++ PySem.Str.mk #[32]) ++ z = fmtT y z := by
  have e : (((PySem.Str.mk #[50, 50, 48, 32] ++ y) ++ PySem.Str.mk #[32]) ++ z).cps = (fmtT y z).cps := by
    rw [Str.cps_append, Str.cps_append, Str.cps_append]; rfl
  exact congrArg PySem.Str.mk e
end
end Sm
end
section
set_option maxRecDepth 100000
set_option linter.unusedVariables false
namespace Sm
open PySem PySem.Calls PySem.W
theorem ints_rel {κ : Kw} : ∀ {xs : List AV} {vs : List Value} {ns : List Int}, VRels κ xs vs → intsOf xs = some ns → PyProof.Rows.IntsAre vs ns
  | [], _, ns, .nil, h => by obtain rfl := Option.some.inj h; exact .nil
  | x :: xs, _, ns, .cons hv hs, h => by
    cases x with
    | int i =>
      unfold intsOf at h
      obtain ⟨r, hr, rfl⟩ := Option.map_eq_some_iff.mp h
      cases hv
      exact .cons _ _ (ints_rel hs hr)
    | _ => cases h
theorem octets_rel {κ : Kw} : ∀ {xs : List AV} {vs : List Value} {bs : List (Array UInt8)}, VRels κ xs vs → octetsOf xs = some bs → BytesAre vs bs
  | [], _, ns, .nil, h => by obtain rfl := Option.some.inj h; exact .nil
  | x :: xs, _, ns, .cons hv hs, h => by
    cases x with
    | bytes i =>
      unfold octetsOf at h
      obtain ⟨r, hr, rfl⟩ := Option.map_eq_some_iff.mp h
      cases hv
      exact .cons _ _ (octets_rel hs hr)
    | _ => cases h
theorem drel_get {κ : Kw} {k : Str} : ∀ {kvs : List (Str × AV)} {vs : List (Str × Value)}, DRel κ kvs vs → VRel κ ((kvs.lookup k).getD .none) ((valueAt vs k).getD .none)
  | _, _, .nil => .none
  | _, _, .cons (k := k') (r := r) (r' := r') h tl => by
    have ih := drel_get (k := k) tl
    unfold valueAt at ih ⊢
    rw [List.lookup_cons, List.find?_cons]
    by_cases e : k' = k
    · subst e
      simp only [beq_self_eq_true, decide_true, Option.map_some, Option.getD_some]
      exact h
    · have e1 : (k == k') = false := beq_eq_false_iff_ne.mpr (Ne.symm e)
      have e2 : decide (k' = k) = false := decide_eq_false e
      rw [e1, e2]
      exact ih
section
variable {B : Base} {κ : Kw} {own : Own} {env : Env} {A : Around} {st : St} {s : Shared} {X : Xp}
theorem sound_isW2 {v t : AV} {va ta : Value} {Q : VQ} (p : RepX B κ own env st s) (hv : VRel κ v va) (ht : VRel κ t ta) (h : isW2 v t fun r => Q r st) : Sat B env A (call (.builtin "isinstance") [va, ta]) VR Q X κ own s := by
  cases hv with
  | bytes x u =>
    cases ht with
    | type n =>
      cases n with
      | bytes => exact isi_bytes_bytes ⟨_, _, _, _, h, .refl p, .bool _⟩
      | str => exact isi_bytes_str ⟨_, _, _, _, h, .toks p _, .bool _⟩
      | _ => exact h.elim
    | _ => exact h.elim
  | str x u => exact sound_isinst p (.str x u) ht h
  | int x u => exact sound_isinst p (.int x u) ht h
  | none => exact (show False from by cases t <;> exact h).elim
  | bool => exact (show False from by cases t <;> exact h).elim
  | tup => exact (show False from by cases t <;> exact h).elim
  | fls => exact (show False from by cases t <;> exact h).elim
  | rng => exact (show False from by cases t <;> exact h).elim
  | ref => exact (show False from by cases t <;> exact h).elim
  | glob => exact (show False from by cases t <;> exact h).elim
  | type => exact (show False from by cases t <;> exact h).elim
  | builtin => exact (show False from by cases t <;> exact h).elim
theorem listAt {i : Nat} {a : Addr} {xs : List AV} (p : RepX B κ own env st s) (hi : κ.rho i = some a) (e : st.σ[i]? = some (.list xs)) : ∃ vs n, s.heap.get? a = some { cls := .type "list", dict := none, data := .seq (vs : List Value).toArray n } ∧ VRels κ xs vs := by
  obtain ⟨a', ha', hr⟩ := p.rep.objs i _ e
  rw [hi] at ha'
  obtain rfl := Option.some.inj ha'
  obtain ⟨vs, ⟨n, hl⟩, hx⟩ := hr
  exact ⟨vs, n, hl, hx⟩
theorem sound_fn {d : Nat} {hd : Bool} {b : Bi} {vs : List AV} {vals : List Value} {Q : VQ} (h : fnW hd b vs st Q) (p : RepX B κ own env st s) (ha : AOk B env A own s.heap d hd) (hv : VRels κ vs vals) : Sat B env A (call (.builtin b.id) vals) VR Q X κ own s := by
  unfold fnW at h
  split at h
  · cases hv with | cons h1 t => cases t with | nil => exact sound_len p h1 h
  · cases hv with | cons h1 t => cases t with | nil => exact sound_chr p h1 h
  · cases hv with | cons h1 t => cases t with | cons h2 t => cases t with | nil => exact sound_isW2 p h1 h2 h
  · rename_i i j
    cases hv with
    | cons h1 t =>
      cases t with
      | cons h2 t =>
        cases t with
        | nil =>
          cases h1 with
          | int _ u =>
            cases h2 with
            | int _ v =>
              refine max_two_ints (ha.handled h.1) fun h' tk hk => ?_
              have y := p.keeps (s' := { s with heap := h', toks := tk }) hk rfl rfl
              by_cases e : j > i
              · rw [if_pos e]
                have q := h.2
                rw [if_pos (show i < j from e)] at q
                exact ⟨_, _, _, _, q, y, .int _ _⟩
              · rw [if_neg e]
                have q := h.2
                rw [if_neg (show ¬ i < j from e)] at q
                exact ⟨_, _, _, _, q, y, .int _ _⟩
  · rename_i i
    cases hv with
    | cons h1 t =>
      cases t with
      | nil =>
        cases h1 with
        | ref hi =>
          split at h
          · rename_i xs e
            split at h
            · rename_i ns en
              obtain ⟨ws, n, hl, hx⟩ := listAt p hi e
              have hI : s.heap.IsList _ ws.toArray := ⟨_, hl, rfl, n, rfl⟩
              have hints := ints_rel hx en
              obtain ⟨ys, hys⟩ := hints.allInts.items
              rw [hys] at hI
              refine sum_intListG (ha.handled h.1.1) hI fun h' tk t' hk => ?_
              have y := p.keeps (s' := { s with heap := h', toks := tk }) hk rfl rfl
              have e2 : preSum (numAt ys) ys.size = ns.sum := by
                have := hints.numsOf
                rw [← show ws.toArray.toList = ws from rfl, hys, nums_intItems] at this
                rw [preSum_eq, List.take_of_length_le (by simp), this]
              rw [e2]
              exact ⟨_, _, _, _, h.2, y, .int _ _⟩
            · exact h.elim
          · exact h.elim
  · exact h.elim
theorem sound_ty {d : Nat} {hd : Bool} {t : Ty} {vs : List AV} {vals : List Value} {Q : VQ} (h : tyW hd t vs st Q) (p : RepX B κ own env st s) (ha : AOk B env A own s.heap d hd) (hv : VRels κ vs vals) : Sat B env A (call (.type t.name) vals) VR Q X κ own s := by
  unfold tyW at h
  have mk : ∀ {lo hi st' : Int} {a b c : Tok} {k : Nat}, Q (.rng lo hi st') st → ∃ b' st'' κ' own', Q b' st'' ∧ StepX B env κ own s κ' own' st'' { s with heap := s.heap.push { cls := .type "range", data := .fields #[.int lo a, .int hi b, .int st' c] }, toks := k } ∧ VR κ' b' (.ref s.heap.objs.size) := fun {lo hi st' a b c k} q => by
    obtain ⟨y, hy⟩ := p.newImm (s' := { s with heap := s.heap.push { cls := .type "range", data := .fields #[.int lo a, .int hi b, .int st' c] }, toks := k }) (a := s.heap.objs.size) (v := .rng lo hi st') (fun b o e => Heap.get?_push_of_some _ e) rfl rfl (size_dead _) ⟨a, b, c, Heap.get?_push_size _ rfl⟩
    exact ⟨_, _, _, _, q, y, .rng hy⟩
  split at h
  · cases hv with | cons h1 t => cases t with | nil => cases h1 with | int i u => exact call_range_1 (mk h)
  · cases hv with
    | cons h1 t => cases t with | cons h2 t => cases t with | nil => cases h1 with | int i u => cases h2 with | int j v => exact call_range_2 (mk h)
  · cases hv with
    | cons h1 t =>
      cases t with
      | cons h2 t =>
        cases t with
        | cons h3 t =>
          cases t with
          | nil =>
            cases h1 with
            | int i u =>
              cases h2 with
              | int j v =>
                cases h3 with
                | int k x =>
                  have hs := h.1.2
                  unfold small at hs
                  exact call_range_3 h.1.1 (mk h.2) (Or.inl (PyProof.noPylong_small hs))
  · rename_i i
    cases hv with
    | cons h1 t =>
      cases t with
      | nil =>
        cases h1 with
        | ref hi =>
          split at h
          · rename_i xs e
            split at h
            · rename_i ns en
              obtain ⟨ws, n, hl, hx⟩ := listAt p hi e
              have hI : s.heap.IsList _ ws.toArray := ⟨_, hl, rfl, n, rfl⟩
              have hlen := hx.length
              refine call_bytes_ints hI (ints_rel hx en) h.1.2.2 (by rw [sizeLine_eq]; have := h.1.2.1; omega) (ha.handled h.1.1) fun h' t k hk => ?_
              have y := p.keeps (s' := { s with heap := h', toks := k }) hk rfl rfl
              exact ⟨_, _, _, _, h.2, y, .bytes _ _⟩
            · exact h.elim
          · exact h.elim
  · exact h.elim
end
end Sm
end
section
set_option maxRecDepth 100000
set_option linter.unusedVariables false
namespace Sm
open PySem PySem.Calls PySem.W
section
variable {B : Base} {κ : Kw} {own : Own} {env : Env} {A : Around} {st : St} {s : Shared} {X : Xp}
theorem one {v : AV} {va : List Value} (h : VRels κ [v] va) : ∃ w, va = [w] ∧ VRel κ v w := by
  cases h with | cons h t => cases t; exact ⟨_, rfl, h⟩
theorem two {v u : AV} {va : List Value} (h : VRels κ [v, u] va) : ∃ w x, va = [w, x] ∧ VRel κ v w ∧ VRel κ u x := by
  cases h with | cons h t => cases t with | cons h' t => cases t; exact ⟨_, _, rfl, h, h'⟩
theorem bcal_blt {b : Bi} {va f : Value} {first : List Value} {h : Heap} (hb : b ≠ .iFromBytes) (hc : Bcal b va f first h) : f = .builtin b.id ∧ first = [va] := by
  rcases hc with h | ⟨e, _⟩
  · exact h.2
  · exact absurd e hb
theorem sound_append {i : Nat} {a : Addr} {xs : List AV} {v : AV} {vv : Value} {Q : VQ} (p : RepX B κ own env st s) (hi : κ.rho i = some a) (e : st.σ[i]? = some (.list xs)) (hv : VRel κ v vv) (hz : xs.length ≤ 100000) (h : Q .none { st with σ := st.σ.set i (.list (xs ++ [v])) }) :
    Sat B env A (call (.builtin "list.append") [.ref a, vv]) VR Q X κ own s := by
  obtain ⟨ws, n, hl, hx⟩ := listAt p hi e
  have hlen := hx.length
  refine wpAny_list_append_plain ⟨n, hl⟩ (fun h' hl' hs' => ?_) (by rw [List.size_toArray, ← hlen, sizeLine_eq]; omega)
  have ho := p.rep.dom i a hi
  have y := p.setObj (o := .list (xs ++ [v])) (own' := own) (s' := { s with heap := h' }) hi rfl rfl (fun b ob hb _ hg => by
      have : b ≠ a := by rintro rfl; exact hb ho
      exact (hs'.2 b this).trans hg) (fun b hb => by
      by_cases eb : b = a
      · subst eb; obtain ⟨n', e'⟩ := hl'; exact ⟨_, e'⟩
      · have : ∃ o, s.heap.get? b = some o := by
          rcases hb with hb | hb
          · exact p.rep.live b _ hb
          · exact p.rep.live b _ hb
        obtain ⟨o, eo⟩ := this
        exact ⟨o, (hs'.2 b eb).trans eo⟩) (fun _ _ e => e) (fun _ _ e => .inl e) ⟨ws ++ [vv], by simpa using hl', hx.append (.cons hv .nil)⟩
  exact ⟨_, _, _, _, h, y, .none⟩
theorem sound_meth {d : Nat} {hd : Bool} {b : Bi} {ov : AV} {va f : Value} {first : List Value} {vs : List AV} {vals : List Value} {Q : VQ} (h : methW b ov vs st Q) (p : RepX B κ own env st s) (ha : AOk B env A own s.heap d hd) (hov : VRel κ ov va) (hc : Bcal b va f first s.heap) (hv : VRels κ vs vals) :
    Sat B env A (call f (first ++ vals)) VR Q X κ own s := by
  have fin : ∀ {v : AV} {w : Value} {k : Nat}, Q v st → VRel κ v w → ∃ b st' κ' own', Q b st' ∧ StepX B env κ own s κ' own' st' { s with toks := k } ∧ VR κ' b w := fun q r => ⟨_, _, _, _, q, .toks p _, r⟩
  unfold methW at h
  split at h
  · obtain ⟨rfl, rfl⟩ := bcal_blt (by decide) hc
    cases hv; cases hov
    exact call_meets F.slot_str_encode (typeIs_str _ _ _) F.entry_str_encode (F.args_str_encode_1 _) (meets_encode1 h.1.1 h.1.2) fun t' => fin h.2 (.bytes _ _)
  · obtain ⟨rfl, rfl⟩ := bcal_blt (by decide) hc
    obtain ⟨w, rfl, hw⟩ := one hv
    cases hov; cases hw
    exact call_meets F.slot_str_encode (typeIs_str _ _ _) F.entry_str_encode (F.args_str_encode_2 _ _) (meets_encode2 h.1.1 h.1.2.1 h.1.2.2) fun t' => fin h.2 (.bytes _ _)
  · obtain ⟨rfl, rfl⟩ := bcal_blt (by decide) hc
    obtain ⟨w, rfl, hw⟩ := one hv
    cases hov; cases hw
    exact call_gives F.slot_str_find (typeIs_str _ _ _) F.entry_str_find (F.args_str_find_2 _ _) (gives_str_find _ _ _ _) (fin h (.int _ _))
  · obtain ⟨rfl, rfl⟩ := bcal_blt (by decide) hc
    obtain ⟨w, x, rfl, hw, hx⟩ := two hv
    cases hov; cases hw; cases hx
    obtain ⟨⟨rfl, h1, h2⟩, q⟩ := h
    refine call_meets F.slot_str_format_m (typeIs_str _ _ _) F.entry_str_format_m (KFm.args_3 _ _ _) (fmt1 h1 h2) fun t' k => ?_
    rw [fmtT_eq]
    exact fin q (.str _ _)
  · obtain ⟨rfl, rfl⟩ := bcal_blt (by decide) hc
    obtain ⟨w, rfl, hw⟩ := one hv
    cases hov; cases hw
    exact call_meets FX.slot_bytes_find (typeIs_bytes _ _ _) FX.entry_bytes_find (FX.args_bytes_find_2 _ _) meets_find2 (fin h (.int _ _))
  · obtain ⟨rfl, rfl⟩ := bcal_blt (by decide) hc
    obtain ⟨w, x, rfl, hw, hx⟩ := two hv
    cases hov; cases hw; cases hx
    exact call_meets FX.slot_bytes_find (typeIs_bytes _ _ _) FX.entry_bytes_find (FX.args_bytes_find_3 _ _ _) meets_find3 (fin h (.int _ _))
  · obtain ⟨rfl, rfl⟩ := bcal_blt (by decide) hc
    cases hv; cases hov
    exact call_meets FX.slot_bytes_strip (typeIs_bytes _ _ _) FX.entry_bytes_strip (FX.args_bytes_strip_1 _) (meets_strip1 h.1) fun t' k => fin h.2 (.bytes _ _)
  · obtain ⟨rfl, rfl⟩ := bcal_blt (by decide) hc
    obtain ⟨w, rfl, hw⟩ := one hv
    cases hov; cases hw
    exact call_meets FX.slot_bytes_strip (typeIs_bytes _ _ _) FX.entry_bytes_strip (FX.args_bytes_strip_2 _ _) (meets_strip2 h.1) fun t' k => fin h.2 (.bytes _ _)
  · obtain ⟨rfl, rfl⟩ := bcal_blt (by decide) hc
    obtain ⟨w, rfl, hw⟩ := one hv
    cases hov; cases hw
    exact call_meets FX.slot_bytes_rstrip (typeIs_bytes _ _ _) FX.entry_bytes_rstrip (FX.args_bytes_rstrip_2 _ _) (meets_rstrip2 h.1) fun t' k => fin h.2 (.bytes _ _)
  · obtain ⟨rfl, rfl⟩ := bcal_blt (by decide) hc
    cases hv; cases hov
    exact call_meets FX.slot_bytes_upper (typeIs_bytes _ _ _) FX.entry_bytes_upper (FX.args_bytes_upper_1 _) (meets_upper h.1) fun t' k => fin h.2 (.bytes _ _)
  · obtain ⟨rfl, rfl⟩ := bcal_blt (by decide) hc
    cases hv; cases hov
    exact call_meets FX.slot_bytes_lower (typeIs_bytes _ _ _) FX.entry_bytes_lower (FX.args_bytes_lower_1 _) (meets_lower h.1) fun t' k => fin h.2 (.bytes _ _)
  · obtain ⟨rfl, rfl⟩ := bcal_blt (by decide) hc
    obtain ⟨w, rfl, hw⟩ := one hv
    cases hov; cases hw
    obtain ⟨⟨h1, h2⟩, h⟩ := h
    refine call_meets FX.slot_bytes_partition (typeIs_bytes _ _ _) FX.entry_bytes_partition (FX.args_bytes_partition_2 _ _) (meets_partition h1 h2) ?_
    have mk : ∀ {xs : List AV} {ws : List Value} {k : Nat}, Q (.tup xs) st → VRels κ xs ws → ∃ b st' κ' own', Q b st' ∧ StepX B env κ own s κ' own' st' { s with heap := s.heap.push { cls := .type "tuple", data := .seq ws.toArray }, toks := k } ∧ VR κ' b (.ref s.heap.objs.size) := fun {xs ws k} q r => by
      obtain ⟨y, hy⟩ := p.newImm (s' := { s with heap := s.heap.push { cls := .type "tuple", data := .seq ws.toArray }, toks := k }) (a := s.heap.objs.size) (v := .tup ws) (fun b o e => Heap.get?_push_of_some _ e) rfl rfl (size_dead _) ⟨_, 0, Heap.get?_push_size _ rfl, rfl, rfl, rfl⟩
      exact ⟨_, _, _, _, q, y, .tup hy (r.mono y.grow.le)⟩
    split at h
    · rename_i i e
      try rw [e]
      exact fun t1 t2 k => mk h (.cons (.bytes _ _) (.cons (.bytes _ _) (.cons (.bytes _ _) .nil)))
    · rename_i e
      try rw [e]
      exact fun t1 k => mk h (.cons (.bytes _ _) (.cons (.bytes _ _) (.cons (.bytes _ _) .nil)))
  · obtain ⟨rfl, rfl⟩ := bcal_blt (by decide) hc
    obtain ⟨w, rfl, hw⟩ := one hv
    cases hov
    cases hw with
    | ref hi =>
      split at h
      · rename_i xs e
        split at h
        · rename_i bs eb
          obtain ⟨ws, n, hl, hx⟩ := listAt p hi e
          exact call_meets FX.slot_bytes_join (typeIs_bytes _ _ _) FX.entry_bytes_join (FX.args_bytes_join_2 _ _) (meets_join (vs := ws.toArray) (octets_rel hx eb) h.1) ⟨⟨_, hl, rfl, n, rfl⟩, fun t' k => fin h.2 (.bytes _ _)⟩
        · exact h.elim
      · exact h.elim
  · obtain ⟨rfl, rfl⟩ := bcal_blt (by decide) hc
    obtain ⟨w, rfl, hw⟩ := one hv
    cases hov; cases hw
    obtain ⟨⟨rfl, h1, h2⟩, q⟩ := h
    exact call_meets FB.slot_bytes_decode (typeIs_bytes _ _ _) FB.entry_bytes_decode (args_decode2 _ _) (meets_decode2 h1 h2) fun t' k => fin q (.str _ _)
  · obtain ⟨rfl, rfl⟩ := bcal_blt (by decide) hc
    obtain ⟨w, x, rfl, hw, hx⟩ := two hv
    cases hov; cases hw; cases hx
    obtain ⟨⟨rfl, h1, h2, h3, h4⟩, q⟩ := h
    rename_i i _ k _ _
    obtain ⟨k', rfl⟩ := Int.eq_ofNat_of_zero_le h1
    exact to_big_any (by omega) h3 h4 fun t' k => fin q (.bytes _ _)
  · obtain ⟨w, x, rfl, hw, hx⟩ := two hv
    cases hov; cases hw; cases hx
    obtain ⟨⟨rfl, h1⟩, q⟩ := h
    rcases hc with ⟨hne, _⟩ | ⟨_, x, rfl, rfl, hx⟩
    · exact absurd rfl hne
    · exact call_from_big hx h1 (fin q (.int _ _))
  · obtain ⟨rfl, rfl⟩ := bcal_blt (by decide) hc
    obtain ⟨w, rfl, hw⟩ := one hv
    cases hov with
    | ref hi =>
      split at h
      · rename_i xs e
        exact sound_append p hi e hw h.1 h.2
      · exact h.elim
  · obtain ⟨rfl, rfl⟩ := bcal_blt (by decide) hc
    obtain ⟨w, rfl, hw⟩ := one hv
    cases hov with
    | ref hi =>
      cases hw
      split at h
      · rename_i kvs e
        obtain ⟨a', ha', hr⟩ := p.rep.objs _ _ e
        rw [hi] at ha'
        obtain rfl := Option.some.inj ha'
        obtain ⟨ws, h1, h2, h3, h4⟩ := hr
        have hm := h1.mapOf
        exact call_meetsIn F.slot_dict_get hm.typeIs F.entry_dict_get (F.args_dict_get_2 _ _) (meets_dict_get (strKind B.prog B.w) _ (by simp [strKind, Value.isStrOf]) (by simpa using h3)) ⟨_, hm, fin h (drel_get h2)⟩
      · exact h.elim
  · exact h.elim
theorem sound_un {op : UnaryOp} {a : AV} {va : Value} {Q : VQ} (h : unW op a fun v => Q v st) (p : RepX B κ own env st s) (ha : VRel κ a va) : Sat B env A (unaryOp op va) VR Q X κ own s := by
  unfold unW at h
  split at h
  · cases ha
    exact P.neg_int ⟨_, _, _, _, h, .toks p _, .int _ _⟩
  · exact h.elim
theorem sound_cmp' {op : CmpOp} {a b : AV} {va vb : Value} {Q : Bool → St → Prop} (h : cmpW op a b fun r => Q r st) (p : RepX B κ own env st s) (ha : VRel κ a va) (hb : VRel κ b vb) :
    Sat B env A (compareOp op va vb) (fun _ b v => v = .bool b) Q X κ own s := by
  have go : ∀ {t : Sem Value} {Q₁ : Bool → Prop}, (∀ {P : Value → Shared → Prop} {E}, wpAny (model B.prog B.w) A (operate [va, vb] t) P E s → wpAny (model B.prog B.w) A t P E s) → True := fun _ => trivial
  have h' : cmpW op a b fun r => Q r st := h
  have key := sound_cmp (B := B) (env := env) (A := A) (own := own) (s := s) ha hb h'
  have un : ∀ {t : Sem Value} {P : Value → Shared → Prop} {E : Value → Shared → Prop}, wpAny (model B.prog B.w) A (operate [va, vb] t) P E s → wpAny (model B.prog B.w) A t P E s := fun {t P E} k => by
    intro Γ p hΓ
    have := k Γ p hΓ
    rw [Sem.wp_operate] at this
    exact this
  refine wpAny_mono (un key) (fun v s' ⟨av, n, ⟨b, e, q⟩, r, es⟩ => ?_) fun _ _ q => q.elim
  subst e es
  cases r
  exact ⟨b, st, κ, own, q, .toks p n, rfl⟩
theorem blts_ok {G : Genv} {d : Nat} {hd : Bool} : UOk B G d hd (blts hd) where
  fn h p ha hv := sound_fn h p ha hv
  ty h p ha hv := sound_ty h p ha hv
  getm h p hv hq := sound_getm h p hv hq
  meth h p ha ho hc hv := sound_meth h p ha ho hc hv
  item h p ha h1 h2 := sound_item p h1 h2 h
  slice h p ha h1 h2 h3 hs := sound_slice p h1 h2 h3 hs h
  un h p ha h1 := sound_un h p h1
  cmp h p ha h1 h2 := sound_cmp' h p h1 h2
end
end Sm
end
section
set_option maxRecDepth 100000
namespace Sm
open PySem
def b_law_sixty : Sxs := (.cons (.assign (.loc 1819044198) (.bin .Mod (.un .USub (.call (.glob 7234924) (.cons (.loc 126943755527023) .nil) .nil)) (.const (.int (3))))) (.cons (.assign (.loc 125779768604014) (.callm (.glob 7630441) 544943659528996443353702 (.cons (.bin .Add (.loc 126943755527023) (.slice (.const (.bytes #[0, 0])) .nil (.cons (.loc 1819044198) .nil))) (.cons (.const (.str ⟨#[98, 105, 103]⟩)) .nil)) .nil)) (.cons (.assign (.loc 495773510003) (.const (.str ⟨#[]⟩))) (.cons (.for_ (.loc 1852994932) (.call (.glob 435526984050) (.cons (.bin .Mult (.bin .FloorDiv (.bin .Add (.call (.glob 7234924) (.cons (.loc 126943755527023) .nil) .nil) (.loc 1819044198)) (.const (.int (3)))) (.const (.int (4)))) .nil) .nil) (.cons (.assign (.loc 495773510003) (.bin .Add (.item (.glob 35729072780115062052068879455) (.bin .Mod (.loc 125779768604014) (.const (.int (64))))) (.loc 495773510003))) (.cons (.assign (.loc 125779768604014) (.bin .FloorDiv (.loc 125779768604014) (.const (.int (64))))) .nil))) (.cons (.ret (.callm (.bin .Add (.slice (.loc 495773510003) .nil (.cons (.bin .Sub (.call (.glob 7234924) (.cons (.loc 495773510003) .nil) .nil) (.loc 1819044198)) .nil)) (.slice (.const (.str ⟨#[61, 61]⟩)) .nil (.cons (.loc 1819044198) .nil))) 111482039922277 (.cons (.const (.str ⟨#[97, 115, 99, 105, 105]⟩)) .nil) .nil)) .nil)))))
def b_law_read : Sxs := (.cons (.assign (.loc 2036625250) (.loc 495606460279)) (.cons (.while_ (.boo .And (.cons (.cmp .Lt (.bin .Sub (.call (.glob 7234924) (.cons (.loc 495606460279) .nil) .nil) (.call (.glob 7234924) (.cons (.loc 2036625250) .nil) .nil)) (.const (.int (2)))) (.cons (.cmp .Eq (.slice (.loc 2036625250) (.cons (.un .USub (.const (.int (1)))) .nil) .nil) (.const (.bytes #[61]))) .nil))) (.cons (.assign (.loc 2036625250) (.slice (.loc 2036625250) .nil (.cons (.un .USub (.const (.int (1)))) .nil))) .nil)) (.cons (.assign (.loc 125779768604014) (.const (.int (0)))) (.cons (.for_ (.loc 1852270963) (.loc 2036625250) (.cons (.assign (.loc 435459026032) (.callm (.glob 35729072780115062052068879455) 1684957542 (.cons (.call (.glob 7497827) (.cons (.loc 1852270963) .nil) .nil) .nil) .nil)) (.cons (.if_ (.cmp .Lt (.loc 435459026032) (.const (.int (0)))) (.cons (.ret (.tup (.cons (.const (.bool false)) (.cons (.const (.bytes #[])) .nil)))) .nil) .nil) (.cons (.assign (.loc 125779768604014) (.bin .Add (.bin .Mult (.loc 125779768604014) (.const (.int (64)))) (.loc 435459026032))) .nil)))) (.cons (.if_ (.cmp .NotEq (.bin .Mod (.call (.glob 7234924) (.cons (.loc 495606460279) .nil) .nil) (.const (.int (4)))) (.const (.int (0)))) (.cons (.ret (.tup (.cons (.const (.bool false)) (.cons (.const (.bytes #[])) .nil)))) .nil) .nil) (.cons (.if_ (.cmp .Eq (.loc 2036625250) (.const (.bytes #[]))) (.cons (.ret (.tup (.cons (.const (.bool true)) (.cons (.const (.bytes #[])) .nil)))) .nil) .nil) (.cons (.ret (.tup (.cons (.const (.bool true)) (.cons (.callm (.bin .RShift (.loc 125779768604014) (.bin .Mod (.bin .Mult (.call (.glob 7234924) (.cons (.loc 2036625250) .nil) .nil) (.const (.int (6)))) (.const (.int (8))))) 8315180351699775348 (.cons (.bin .FloorDiv (.bin .Mult (.call (.glob 7234924) (.cons (.loc 2036625250) .nil) .nil) (.const (.int (6)))) (.const (.int (8)))) (.cons (.const (.str ⟨#[98, 105, 103]⟩)) .nil)) .nil) .nil)))) .nil)))))))
def b_law_answer : Sxs := (.cons (.assign (.loc 127979059635571) (.call (.glob 495623371106) (.cons (.lcomp (.bin .Mod (.bin .Add (.loc 125779768604014) (.bin .Mult (.const (.int (41))) (.loc 435459026032))) (.const (.int (256)))) 435459026032 (.call (.glob 435526984050) (.cons (.bin .Mod (.bin .FloorDiv (.loc 125779768604014) (.const (.int (9)))) (.const (.int (11)))) .nil) .nil)) .nil) .nil)) (.cons (.assign (.loc 495773510003) (.call (.glob 573554843332788346776671) (.cons (.loc 127979059635571) .nil) .nil)) (.cons (.assign (.loc 7954807) (.bin .Mod (.loc 125779768604014) (.const (.int (9))))) (.cons (.assign (.loc 435459026032) (.bin .Mod (.bin .FloorDiv (.loc 125779768604014) (.const (.int (4)))) (.bin .Add (.call (.glob 7234924) (.cons (.loc 495773510003) .nil) .nil) (.const (.int (1)))))) (.cons (.if_ (.cmp .Eq (.loc 7954807) (.const (.int (1)))) (.cons (.ret (.bin .Add (.bin .Add (.const (.bytes #[32])) (.loc 495773510003)) (.const (.bytes #[9])))) .nil) .nil) (.cons (.if_ (.cmp .Eq (.loc 7954807) (.const (.int (2)))) (.cons (.ret (.const (.bytes #[42]))) .nil) .nil) (.cons (.if_ (.cmp .Eq (.loc 7954807) (.const (.int (3)))) (.cons (.ret (.slice (.loc 495773510003) .nil (.cons (.loc 435459026032) .nil))) .nil) .nil) (.cons (.if_ (.cmp .Eq (.loc 7954807) (.const (.int (4)))) (.cons (.ret (.bin .Add (.bin .Add (.slice (.loc 495773510003) .nil (.cons (.loc 435459026032) .nil)) (.const (.bytes #[45]))) (.slice (.loc 495773510003) (.cons (.bin .Add (.loc 435459026032) (.const (.int (1)))) .nil) .nil))) .nil) .nil) (.cons (.if_ (.cmp .Eq (.loc 7954807) (.const (.int (5)))) (.cons (.ret (.bin .Add (.bin .Add (.slice (.loc 495773510003) .nil (.cons (.loc 435459026032) .nil)) (.const (.bytes #[61]))) (.slice (.loc 495773510003) (.cons (.loc 435459026032) .nil) .nil))) .nil) .nil) (.cons (.if_ (.cmp .Eq (.loc 7954807) (.const (.int (6)))) (.cons (.ret (.bin .Add (.loc 495773510003) (.loc 495773510003))) .nil) .nil) (.cons (.if_ (.cmp .Eq (.loc 7954807) (.const (.int (7)))) (.cons (.ret (.callm (.loc 495773510003) 491328597868 .nil .nil)) .nil) .nil) (.cons (.if_ (.cmp .Eq (.loc 7954807) (.const (.int (8)))) (.cons (.ret (.bin .Add (.loc 495773510003) (.slice (.const (.bytes #[61, 61, 61, 61])) .nil (.cons (.bin .Mod (.bin .FloorDiv (.loc 125779768604014) (.const (.int (4)))) (.const (.int (5)))) .nil)))) .nil) .nil) (.cons (.ret (.loc 495773510003)) .nil)))))))))))))
def b_law : Sxs := (.cons (.assign (.loc 495622973804) (.list .nil)) (.cons (.assign (.loc 1851878512) (.list .nil)) (.cons (.assign (.loc 110386907865463) (.const (.bytes #[]))) (.cons (.for_ (.loc 125779768604014) (.ife (.e (.loc 128026154263411)) (.slice (.loc 128026154263411) .nil (.cons (.const (.int (10))) .nil)) (.list (.cons (.const (.int (0))) .nil))) (.cons (.assign (.loc 1701734764) (.call (.glob 138296705931074955972275295) (.cons (.loc 125779768604014) .nil) .nil)) (.cons (.assign (.tup [431198270305, 126943755527023]) (.item (.glob 474107512077656218758239) (.bin .Mod (.bin .FloorDiv (.loc 125779768604014) (.const (.int (7)))) (.const (.int (4)))))) (.cons (.assign (.loc 431197810531) (.cmp .NotEq (.bin .Mod (.bin .FloorDiv (.loc 125779768604014) (.const (.int (28)))) (.const (.int (3)))) (.const (.int (2))))) (.cons (.expr (.callm (.loc 495622973804) 110425311047777 (.cons (.bin .Add (.loc 1701734764) (.ife (.e (.bin .Mod (.bin .FloorDiv (.loc 125779768604014) (.const (.int (5)))) (.const (.int (2))))) (.const (.bytes #[10])) (.const (.bytes #[13, 10])))) .nil) .nil)) (.cons (.assign (.loc 110386907865463) (.bin .Add (.bin .Add (.bin .Add (.loc 110386907865463) (.const (.bytes #[51, 51, 52, 32]))) (.ife (.e (.loc 431197810531)) (.call (.glob 573554843332788346776671) (.cons (.loc 126943755527023) .nil) .nil) (.loc 126943755527023))) (.const (.bytes #[13, 10])))) (.cons (.assign (.loc 495606460279) (.callm (.loc 1701734764) 482805445747 (.cons (.const (.bytes #[32, 9])) .nil) .nil)) (.cons (.assign (.tup [431349919603, 1684828020]) (.call (.glob 1851692548719632280671) (.cons (.loc 495606460279) .nil) .nil)) (.cons (.if_ (.cmp .Eq (.loc 495606460279) (.const (.bytes #[42]))) (.cons (.assign (.loc 110386907865463) (.bin .Add (.loc 110386907865463) (.const (.bytes #[53, 48, 49, 32, 53, 46, 55, 46, 48, 32, 65, 117, 116, 104, 32, 97, 98, 111, 114, 116, 101, 100, 13, 10])))) .nil) (.cons (.if_ (.not (.e (.loc 431349919603))) (.cons (.assign (.loc 110386907865463) (.bin .Add (.loc 110386907865463) (.const (.bytes #[53, 48, 49, 32, 53, 46, 53, 46, 50, 32, 67, 97, 110, 39, 116, 32, 100, 101, 99, 111, 100, 101, 32, 98, 97, 115, 101, 54, 52, 13, 10])))) .nil) .nil) .nil)) (.cons (.expr (.callm (.loc 1851878512) 110425311047777 (.cons (.tup (.cons (.loc 431198270305) (.cons (.loc 431197810531) (.cons (.loc 431349919603) (.cons (.loc 1684828020) .nil))))) .nil) .nil)) .nil)))))))))) (.cons (.assign (.loc 120265081255027) (.bin .Add (.callm (.const (.bytes #[])) 1852403562 (.cons (.loc 495622973804) .nil) .nil) (.const (.bytes #[81, 85, 73, 84, 13, 10])))) (.cons (.assign (.loc 1885697139) (.bin .Add (.const (.int (2))) (.bin .Mod (.call (.glob 7173491) (.cons (.slice (.loc 128026154263411) .nil (.cons (.const (.int (20))) .nil)) .nil) .nil) (.const (.int (19)))))) (.cons (.assign (.loc 521515500515601310183267) (.call (.glob 521515500515601310183235) (.cons (.lcomp (.slice (.loc 120265081255027) (.cons (.loc 29793) .nil) (.cons (.bin .Add (.loc 29793) (.loc 1885697139)) .nil)) 29793 (.call (.glob 435526984050) (.cons (.const (.int (0))) (.cons (.call (.glob 7234924) (.cons (.loc 120265081255027) .nil) .nil) (.cons (.loc 1885697139) .nil))) .nil)) (.cons (.const (.int (1001))) (.cons (.tup (.cons (.const (.str ⟨#[112, 101, 101, 114]⟩)) (.cons (.const (.int (25))) .nil))) .nil))) .nil)) (.cons (.assign (.loc 125780104471923) (.call (.glob 1347702099) (.cons (.call (.glob 32199663560843592) (.cons (.dict .nil .nil) (.cons (.list .nil) .nil)) .nil) .nil) (.cons 7308604897320202088 (.const (.str ⟨#[109, 120, 49, 46, 101, 120, 97, 109, 112, 108, 101]⟩)) (.cons 500068344937 (.const (.str ⟨#[112, 111, 115, 116, 32, 49, 50]⟩)) .nil)))) (.cons (.expr (.callm (.loc 125780104471923) 526457942653382180055239292051418979 (.cons (.loc 521515500515601310183267) .nil) .nil)) (.cons (.assign (.loc 499967814002) (.const (.bool true))) (.cons (.for_ (.tup [431198270305, 431197810531, 431349919603, 1684828020]) (.loc 1851878512) (.cons (.assign (.loc 431349919590) (.callm (.loc 125780104471923) 2118597393093877377273446631827555 (.cons (.loc 431198270305) (.cons (.loc 431197810531) .nil)) .nil)) (.cons (.if_ (.e (.loc 431349919603)) (.cons (.assign (.loc 499967814002) (.boo .And (.cons (.loc 499967814002) (.cons (.cmp .IsNot (.loc 431349919590) (.glob 20070800184002893)) (.cons (.cmp .Eq (.loc 431349919590) (.loc 1684828020)) .nil))))) .nil) (.cons (.assign (.loc 499967814002) (.boo .And (.cons (.loc 499967814002) (.cons (.cmp .Is (.loc 431349919590) (.glob 20070800184002893)) .nil)))) .nil)) .nil))) (.cons (.assign (.loc 499967814002) (.boo .And (.cons (.loc 499967814002) (.cons (.cmp .Eq (.attr (.loc 521515500515601310183267) 1953391987) (.loc 110386907865463)) .nil)))) (.cons (.try_ (.cons (.expr (.callm (.loc 125780104471923) 2361505997335214543533979314776159 .nil .nil)) .nil) (.cons (.glob 2321024440291732109269285072691523) .none (.cons .pass .nil) .nil)) (.cons (.ret (.boo .And (.cons (.loc 499967814002) (.cons (.cmp .Eq (.attr (.loc 521515500515601310183267) 1953391987) (.bin .Add (.loc 110386907865463) (.const (.bytes #[50, 50, 48, 32, 109, 120, 49, 46, 101, 120, 97, 109, 112, 108, 101, 32, 112, 111, 115, 116, 32, 49, 50, 13, 10, 50, 50, 49, 32, 66, 121, 101, 13, 10])))) .nil)))) .nil))))))))))))))
def b_b64encode : Sxs := (.cons (.assign (.loc 7632239) (.const (.str ⟨#[]⟩))) (.cons (.for_ (.loc 107) (.call (.glob 435526984050) (.cons (.const (.int (0))) (.cons (.call (.glob 7234924) (.cons (.loc 126943755527023) .nil) .nil) (.cons (.const (.int (3))) .nil))) .nil) (.cons (.assign (.loc 1953653104) (.slice (.loc 126943755527023) (.cons (.loc 107) .nil) (.cons (.bin .Add (.loc 107) (.const (.int (3)))) .nil))) (.cons (.assign (.loc 110) (.bin .LShift (.callm (.glob 7630441) 544943659528996443353702 (.cons (.loc 1953653104) (.cons (.const (.str ⟨#[98, 105, 103]⟩)) .nil)) .nil) (.bin .Mult (.const (.int (8))) (.bin .Sub (.const (.int (3))) (.call (.glob 7234924) (.cons (.loc 1953653104) .nil) .nil))))) (.cons (.assign (.loc 7827314) (.bin .Add (.bin .Add (.bin .Add (.item (.glob 6072332520732511297) (.bin .FloorDiv (.loc 110) (.const (.int (262144))))) (.item (.glob 6072332520732511297) (.bin .Mod (.bin .FloorDiv (.loc 110) (.const (.int (4096)))) (.const (.int (64)))))) (.item (.glob 6072332520732511297) (.bin .Mod (.bin .FloorDiv (.loc 110) (.const (.int (64)))) (.const (.int (64)))))) (.item (.glob 6072332520732511297) (.bin .Mod (.loc 110) (.const (.int (64))))))) (.cons (.assign (.loc 7632239) (.bin .Add (.bin .Add (.loc 7632239) (.slice (.loc 7827314) .nil (.cons (.bin .Add (.call (.glob 7234924) (.cons (.loc 1953653104) .nil) .nil) (.const (.int (1)))) .nil))) (.bin .Mult (.const (.str ⟨#[61]⟩)) (.bin .Sub (.const (.int (3))) (.call (.glob 7234924) (.cons (.loc 1953653104) .nil) .nil))))) .nil))))) (.cons (.ret (.callm (.loc 7632239) 111482039922277 (.cons (.const (.str ⟨#[97, 115, 99, 105, 105]⟩)) .nil) .nil)) .nil)))
def b_b64decode : Sxs := (.cons (.assign (.loc 2036625250) (.callm (.loc 1954047348) 123598194111346 (.cons (.const (.bytes #[61])) .nil) .nil)) (.cons (.if_ (.boo .Or (.cons (.e (.bin .Mod (.call (.glob 7234924) (.cons (.loc 1954047348) .nil) .nil) (.const (.int (4))))) (.cons (.cmp .Gt (.bin .Sub (.call (.glob 7234924) (.cons (.loc 1954047348) .nil) .nil) (.call (.glob 7234924) (.cons (.loc 2036625250) .nil) .nil)) (.const (.int (2)))) .nil))) (.cons (.raise_ (.glob 491496043077)) .nil) .nil) (.cons (.assign (.loc 7632239) (.const (.bytes #[]))) (.cons (.for_ (.loc 107) (.call (.glob 435526984050) (.cons (.const (.int (0))) (.cons (.call (.glob 7234924) (.cons (.loc 2036625250) .nil) .nil) (.cons (.const (.int (4))) .nil))) .nil) (.cons (.assign (.loc 1953653104) (.slice (.loc 2036625250) (.cons (.loc 107) .nil) (.cons (.bin .Add (.loc 107) (.const (.int (4)))) .nil))) (.cons (.assign (.loc 110) (.const (.int (0)))) (.cons (.for_ (.loc 120) (.loc 1953653104) (.cons (.assign (.loc 435459026032) (.callm (.glob 6072332520732511297) 1684957542 (.cons (.call (.glob 7497827) (.cons (.loc 120) .nil) .nil) .nil) .nil)) (.cons (.if_ (.cmp .Lt (.loc 435459026032) (.const (.int (0)))) (.cons (.raise_ (.glob 491496043077)) .nil) .nil) (.cons (.assign (.loc 110) (.bin .Add (.bin .Mult (.loc 110) (.const (.int (64)))) (.loc 435459026032))) .nil)))) (.cons (.assign (.loc 110) (.bin .LShift (.loc 110) (.bin .Mult (.const (.int (6))) (.bin .Sub (.const (.int (4))) (.call (.glob 7234924) (.cons (.loc 1953653104) .nil) .nil))))) (.cons (.assign (.loc 7632239) (.bin .Add (.loc 7632239) (.slice (.callm (.loc 110) 8315180351699775348 (.cons (.const (.int (3))) (.cons (.const (.str ⟨#[98, 105, 103]⟩)) .nil)) .nil) .nil (.cons (.bin .Sub (.call (.glob 7234924) (.cons (.loc 1953653104) .nil) .nil) (.const (.int (1)))) .nil)))) .nil)))))) (.cons (.ret (.loc 7632239)) .nil)))))
def b_Connection_init : Sxs := (.cons (.assign (.attr (.loc 1718379891) 126879296481648) (.loc 126879296481648)) (.cons (.assign (.attr (.loc 1718379891) 499984984428) (.loc 499984984428)) (.cons (.assign (.attr (.loc 1718379891) 1919247728) (.loc 1919247728)) (.cons (.assign (.attr (.loc 1718379891) 474147938676) (.const (.int (0)))) (.cons (.assign (.attr (.loc 1718379891) 125779835254114) (.const (.bytes #[]))) (.cons (.assign (.attr (.loc 1718379891) 1953391987) (.const (.bytes #[]))) (.cons (.assign (.attr (.loc 1718379891) 110386891156579) (.const (.bool false))) .nil)))))))
def b_Connection_get_extra_info : Sxs := (.cons (.ret (.attr (.loc 1718379891) 1919247728)) .nil)
def b_Connection_more : Sxs := (.cons (.if_ (.boo .Or (.cons (.e (.attr (.loc 1718379891) 110386891156579)) (.cons (.cmp .GtE (.attr (.loc 1718379891) 474147938676) (.call (.glob 7234924) (.cons (.attr (.loc 1718379891) 126879296481648) .nil) .nil)) .nil))) (.cons (.raise_ (.glob 2321024440291732109269285072691523)) .nil) .nil) (.cons (.assign (.attr (.loc 1718379891) 125779835254114) (.bin .Add (.attr (.loc 1718379891) 125779835254114) (.item (.attr (.loc 1718379891) 126879296481648) (.attr (.loc 1718379891) 474147938676)))) (.cons (.auga (.loc 1718379891) 474147938676 .Add (.const (.int (1)))) .nil)))
def b_Connection_readuntil : Sxs := (.cons (.if_ (.e (.attr (.loc 1718379891) 110386891156579)) (.cons (.raise_ (.glob 2321024440291732109269285072691523)) .nil) .nil) (.cons (.assign (.loc 500135195763) (.const (.int (0)))) (.cons (.while_ (.e (.const (.bool true))) (.cons (.assign (.loc 29793) (.callm (.attr (.loc 1718379891) 125779835254114) 1684957542 (.cons (.loc 2110959975582286243187) (.cons (.loc 500135195763) .nil)) .nil)) (.cons (.if_ (.cmp .NotEq (.loc 29793) (.un .USub (.const (.int (1))))) (.cons .brk .nil) .nil) (.cons (.assign (.loc 500135195763) (.call (.glob 7889261) (.cons (.loc 500135195763) (.cons (.bin .Sub (.bin .Add (.call (.glob 7234924) (.cons (.attr (.loc 1718379891) 125779835254114) .nil) .nil) (.const (.int (1)))) (.call (.glob 7234924) (.cons (.loc 2110959975582286243187) .nil) .nil)) .nil)) .nil)) (.cons (.if_ (.cmp .Gt (.loc 500135195763) (.attr (.loc 1718379891) 499984984428)) (.cons (.raise_ (.call (.glob 38940328376056606832702609790557500565836) (.cons (.loc 500135195763) .nil) .nil)) .nil) .nil) (.cons (.expr (.callm (.loc 1718379891) 1701998445 .nil .nil)) .nil)))))) (.cons (.if_ (.cmp .Gt (.loc 29793) (.attr (.loc 1718379891) 499984984428)) (.cons (.raise_ (.call (.glob 38940328376056606832702609790557500565836) (.cons (.loc 29793) .nil) .nil)) .nil) .nil) (.cons (.ret (.callm (.loc 1718379891) 1684104562 (.cons (.bin .Add (.loc 29793) (.call (.glob 7234924) (.cons (.loc 2110959975582286243187) .nil) .nil)) .nil) .nil)) .nil)))))
def b_Connection_readline : Sxs := (.cons (.try_ (.cons (.ret (.callm (.loc 1718379891) 1999847179882386777458 (.cons (.const (.bytes #[10])) .nil) .nil)) .nil) (.cons (.glob 38940328376056606832702609790557500565836) (.some 101) (.cons (.expr (.callm (.loc 1718379891) 1684104562 (.cons (.ife (.cmp .Eq (.slice (.attr (.loc 1718379891) 125779835254114) (.cons (.attr (.loc 101) 7234308727655788387) .nil) (.cons (.bin .Add (.attr (.loc 101) 7234308727655788387) (.const (.int (1)))) .nil)) (.const (.bytes #[10]))) (.bin .Add (.attr (.loc 101) 7234308727655788387) (.const (.int (1)))) (.call (.glob 7234924) (.cons (.attr (.loc 1718379891) 125779835254114) .nil) .nil)) .nil) .nil)) (.cons (.raise_ (.glob 540405614369491047440726)) .nil)) .nil)) .nil)
def b_Connection_read : Sxs := (.cons (.assign (.loc 461414688867) (.slice (.attr (.loc 1718379891) 125779835254114) .nil (.cons (.loc 110) .nil))) (.cons (.assign (.attr (.loc 1718379891) 125779835254114) (.slice (.attr (.loc 1718379891) 125779835254114) (.cons (.loc 110) .nil) .nil)) (.cons (.ret (.loc 461414688867)) .nil)))
def b_Connection_write : Sxs := (.cons (.if_ (.not (.e (.attr (.loc 1718379891) 110386891156579))) (.cons (.assign (.attr (.loc 1718379891) 1953391987) (.bin .Add (.attr (.loc 1718379891) 1953391987) (.loc 126943755527023))) .nil) .nil) .nil)
def b_Connection_drain : Sxs := (.cons .pass .nil)
def b_Connection_cancel : Sxs := (.cons (.assign (.attr (.loc 1718379891) 110386891156579) (.const (.bool true))) .nil)
def b_Connection_close : Sxs := (.cons (.assign (.attr (.loc 1718379891) 110386891156579) (.const (.bool true))) .nil)
def b_Handler_init : Sxs := (.cons (.assign (.attr (.loc 1718379891) 495723704168) (.loc 495723704168)) (.cons (.assign (.attr (.loc 1718379891) 126918051983212) (.loc 126918051983212)) (.cons (.assign (.attr (.loc 1718379891) 1953523051) (.list .nil)) .nil)))
def b_Session_init : Sxs := (.cons (.assign (.attr (.loc 1718379891) 1919247728) (.const .none)) (.cons (.assign (.attr (.loc 1718379891) 7107443) (.const .none)) (.cons (.assign (.attr (.loc 1718379891) 1871002853623794462568) (.const .none)) (.cons (.assign (.attr (.loc 1718379891) 8909586780483040348842398873701) (.const (.bool false))) (.cons (.assign (.attr (.loc 1718379891) 1886351212) (.loc 1886351212)) (.cons (.assign (.attr (.loc 1718379891) 460216388990000560042608) (.const .none)) (.cons (.expr (.const (.str ⟨#[68, 97, 116, 97, 32, 102, 114, 111, 109, 32, 80, 82, 79, 88, 89, 32, 80, 114, 111, 116, 111, 99, 111, 108, 32, 104, 97, 110, 100, 115, 104, 97, 107, 101]⟩))) (.cons (.assign (.attr (.loc 1718379891) 117815395581427984184077407) (.const .none)) (.cons (.assign (.attr (.loc 1718379891) 1797720269491904214369) (.const .none)) (.cons (.expr (.const (.str ⟨#[10, 32, 32, 32, 32, 32, 32, 32, 32, 78, 101, 119, 32, 115, 121, 115, 116, 101, 109, 32, 42, 111, 112, 116, 105, 111, 110, 97, 108, 42, 32, 97, 117, 116, 104, 101, 110, 116, 105, 99, 97, 116, 105, 111, 110, 32, 100, 97, 116, 97, 59, 10, 32, 32, 32, 32, 32, 32, 32, 32, 99, 97, 110, 32, 99, 111, 110, 116, 97, 105, 110, 32, 97, 110, 121, 116, 104, 105, 110, 103, 32, 114, 101, 116, 117, 114, 110, 101, 100, 32, 98, 121, 32, 116, 104, 101, 32, 97, 117, 116, 104, 101, 110, 116, 105, 99, 97, 116, 111, 114, 32, 99, 97, 108, 108, 98, 97, 99, 107, 46, 10, 32, 32, 32, 32, 32, 32, 32, 32, 67, 97, 110, 32, 101, 118, 101, 110, 32, 98, 101, 32, 78, 111, 110, 101, 59, 32, 99, 104, 101, 99, 107, 32, 96, 97, 117, 116, 104, 101, 110, 116, 105, 99, 97, 116, 101, 100, 96, 32, 97, 116, 116, 114, 105, 98, 117, 116, 101, 32, 116, 111, 32, 100, 101, 116, 101, 114, 109, 105, 110, 101, 10, 32, 32, 32, 32, 32, 32, 32, 32, 105, 102, 32, 65, 85, 84, 72, 32, 115, 117, 99, 99, 101, 115, 115, 102, 117, 108, 32, 111, 114, 32, 110, 111, 116, 46, 10, 32, 32, 32, 32, 32, 32, 32, 32]⟩))) (.cons (.assign (.attr (.loc 1718379891) 7954214932716840229785799259489) (.const .none)) .nil)))))))))))
def b_Envelope_init : Sxs := (.cons (.assign (.attr (.loc 1718379891) 2018725697679922913645) (.const .none)) (.cons (.assign (.attr (.loc 1718379891) 35724284097590346944111796589) (.list .nil)) (.cons (.assign (.attr (.loc 1718379891) 1040400322869670997363) (.const (.bool false))) (.cons (.assign (.attr (.loc 1718379891) 32772479322582883) (.const .none)) (.cons (.assign (.attr (.loc 1718379891) 154763657913503903890213270235436905071) (.const .none)) (.cons (.assign (.attr (.loc 1718379891) 8317994990100833138) (.list .nil)) (.cons (.assign (.attr (.loc 1718379891) 35724284097590346944246473586) (.list .nil)) .nil)))))))
def b_SMTP_init : Sxs := (.cons (.assign (.attr (.loc 1718379891) 500068344937) (.boo .Or (.cons (.loc 500068344937) (.cons (.glob 362090415177) .nil)))) (.cons (.assign (.attr (.loc 1718379891) 1886351212) (.loc 1886351212)) (.cons (.assign (.attr (.loc 1718379891) 9063399550879417817601583445605) (.loc 32199663560843624)) (.cons (.assert_ (.boo .Or (.cons (.cmp .Is (.loc 604444757095078001634194158471373156) (.const .none)) (.cons (.e (.call (.glob 478793196199587447665513) (.cons (.loc 604444757095078001634194158471373156) (.cons (.glob 7630441) .nil)) .nil)) .nil)))) (.cons (.assign (.attr (.loc 1718379891) 604444757095078001634194158471373156) (.loc 604444757095078001634194158471373156)) (.cons (.assign (.attr (.loc 1718379891) 292195074319195167906729805251440229) (.loc 292195074319195167906729805251440229)) (.cons (.assign (.attr (.loc 1718379891) 30160741268843025212933235807) (.loc 117815395581418067238020452)) (.cons (.assign (.attr (.loc 1718379891) 2574726598080873317446872829738011858461093731) (.dict .nil .nil)) (.cons (.if_ (.e (.loc 7308604897320202088)) (.cons (.assign (.attr (.loc 1718379891) 7308604897320202088) (.loc 7308604897320202088)) .nil) (.cons (.assign (.attr (.loc 1718379891) 7308604897320202088) (.const (.str ⟨#[108, 111, 99, 97, 108, 104, 111, 115, 116]⟩))) .nil)) (.cons (.assign (.attr (.loc 1718379891) 140803950564158414787931252) (.loc 140803950564158414787931252)) (.cons (.assign (.attr (.loc 1718379891) 153424349561367068863149008691576006002) (.boo .And (.cons (.loc 140803950564158414787931252) (.cons (.loc 153424349561367068863149008691576006002) .nil)))) (.cons (.assign (.attr (.loc 1718379891) 2706876619010479449082282535039198290334479455) (.const (.bool true))) (.cons (.assign (.attr (.loc 1718379891) 8591114597617392126741235659871) (.const .none)) (.cons (.assign (.attr (.loc 1718379891) 2596855164441389628957528527440234342918549343) (.const .none)) (.cons (.assign (.attr (.loc 1718379891) 31084746137363827) (.const .none)) (.cons (.assign (.attr (.loc 1718379891) 7309464706571726437) (.const .none)) (.cons (.assign (.attr (.loc 1718379891) 2148068245634122084980) (.const .none)) (.cons (.assign (.attr (.loc 1718379891) 8835912113096952814114134223093550660282463) (.const .none)) (.cons (.assign (.attr (.loc 1718379891) 39276633060754649796355352386697671565663) (.loc 153424347893572850767013095260537779553)) (.cons (.assign (.attr (.loc 1718379891) 2036278413562047103951696116932959) (.loc 7954212552976746499811312956769)) (.cons (.assign (.attr (.loc 1718379891) 9142321874161755687634362261855) (.dict (.cons (.const (.str ⟨#[76, 79, 71, 73, 78]⟩)) (.cons (.const (.str ⟨#[80, 76, 65, 73, 78]⟩)) .nil)) (.cons (.const (.bool true)) (.cons (.const (.bool true)) .nil)))) (.cons (.for_ (.loc 109) (.boo .Or (.cons (.loc 40950416281972890428420063022195407276456761728726369) (.cons (.list .nil) .nil))) (.cons (.expr (.callm (.attr (.loc 1718379891) 9142321874161755687634362261855) 7368560 (.cons (.loc 109) (.cons (.const .none) .nil)) .nil)) .nil)) (.cons (.assign (.attr (.loc 1718379891) 9144488302065274971230765672543) (.attr (.loc 32199663560843624) 495723704168)) (.cons (.assign (.loc 1981831367306647464037) (.callm (.attr (.loc 1718379891) 9144488302065274971230765672543) 7628135 (.cons (.const (.str ⟨#[69, 72, 76, 79]⟩)) .nil) .nil)) (.cons (.if_ (.cmp .Is (.loc 1981831367306647464037) (.const .none)) (.cons (.assign (.attr (.loc 1718379891) 2320233373816691738565317457634655) (.const .none)) .nil) (.cons (.assign (.attr (.loc 1718379891) 2320233373816691738565317457634655) (.const (.str ⟨#[110, 101, 119]⟩))) .nil)) (.cons (.assign (.attr (.loc 1718379891) 9142321874161755687668721480543) (.callm (.loc 1718379891) 2128612397250444747615 .nil .nil)) (.cons (.if_ (.cmp .Is (.loc 10140900249851658319697261578492821386391395) (.const .none)) (.cons (.assign (.attr (.loc 1718379891) 2596070463962024529842498964163142344380409183) (.const (.bool false))) .nil) (.cons (.assign (.attr (.loc 1718379891) 2596070463962024529842498964163142344380409183) (.const (.bool true))) (.cons (.if_ (.e (.call (.glob 478793196199587447665513) (.cons (.loc 10140900249851658319697261578492821386391395) (.cons (.glob 7630441) .nil)) .nil)) (.cons (.assign (.attr (.loc 1718379891) 134851116900641298145377162667812283231) (.dict .nil .nil)) (.cons (.assign (.attr (.loc 1718379891) 2596334512413898487291625445403961929588892511) (.loc 10140900249851658319697261578492821386391395)) .nil)) (.cons (.if_ (.e (.call (.glob 478793196199587447665513) (.cons (.loc 10140900249851658319697261578492821386391395) (.cons (.glob 1952672100) .nil)) .nil)) (.cons (.if_ (.not (.e (.call (.glob 7105633) (.cons (.lcomp (.call (.glob 128017563087721) (.cons (.loc 110) .nil) .nil) 110 (.callm (.loc 10140900249851658319697261578492821386391395) 126879598928246 .nil .nil)) .nil) .nil))) (.cons (.raise_ (.call (.glob 2110959431130824079700) (.cons (.const (.str ⟨#[65, 108, 108, 32, 99, 111, 109, 109, 97, 110, 100, 95, 99, 97, 108, 108, 95, 108, 105, 109, 105, 116, 32, 118, 97, 108, 117, 101, 115, 32, 109, 117, 115, 116, 32, 98, 101, 32, 105, 110, 116]⟩)) .nil) .nil)) .nil) .nil) (.cons (.assign (.attr (.loc 1718379891) 134851116900641298145377162667812283231) (.loc 10140900249851658319697261578492821386391395)) (.cons (.assign (.attr (.loc 1718379891) 2596334512413898487291625445403961929588892511) (.callm (.loc 10140900249851658319697261578492821386391395) 7628135 (.cons (.const (.str ⟨#[42]⟩)) (.cons (.glob 7343406801458046139848369556229467637825859) .nil)) .nil)) .nil))) (.cons (.raise_ (.call (.glob 2110959431130824079700) (.cons (.const (.str ⟨#[99, 111, 109, 109, 97, 110, 100, 95, 99, 97, 108, 108, 95, 108, 105, 109, 105, 116, 32, 109, 117, 115, 116, 32, 98, 101, 32, 105, 110, 116, 32, 111, 114, 32, 68, 105, 99, 116, 91, 115, 116, 114, 44, 32, 105, 110, 116, 93]⟩)) .nil) .nil)) .nil)) .nil)) .nil))) .nil)))))))))))))))))))))))))))
def b_SMTP_create_session : Sxs := (.cons (.ret (.call (.glob 31084746137363795) (.cons (.attr (.loc 1718379891) 1886351212) .nil) .nil)) .nil)
def b_SMTP_create_envelope : Sxs := (.cons (.ret (.call (.glob 7309464706571726405) .nil .nil)) .nil)
def b_SMTP_call_handler_hook : Sxs := (.cons (.assign (.loc 1802465128) (.callm (.attr (.loc 1718379891) 9144488302065274971230765672543) 7628135 (.cons (.loc 28268862397837155) .nil) .nil)) (.cons (.if_ (.cmp .Is (.loc 1802465128) (.const .none)) (.cons (.ret (.glob 20070800184002893)) .nil) .nil) (.cons (.assign (.loc 126948300911731) (.callm (.attr (.loc 1718379891) 9063399550879417817601583445605) 1802465128 (.cons (.loc 28268862397837155) (.cons (.loc 1718379891) (.cons (.attr (.loc 1718379891) 31084746137363827) (.cons (.attr (.loc 1718379891) 7309464706571726437) (.cons (.loc 1936159329) .nil))))) .nil)) (.cons (.ret (.loc 126948300911731)) .nil))))
def b_SMTP_commands : Sxs := (.cons (.ret (.dict (.cons (.const (.str ⟨#[65, 85, 84, 72]⟩)) (.cons (.const (.str ⟨#[68, 65, 84, 65]⟩)) (.cons (.const (.str ⟨#[69, 72, 76, 79]⟩)) (.cons (.const (.str ⟨#[69, 88, 80, 78]⟩)) (.cons (.const (.str ⟨#[72, 69, 76, 79]⟩)) (.cons (.const (.str ⟨#[72, 69, 76, 80]⟩)) (.cons (.const (.str ⟨#[77, 65, 73, 76]⟩)) (.cons (.const (.str ⟨#[78, 79, 79, 80]⟩)) (.cons (.const (.str ⟨#[81, 85, 73, 84]⟩)) (.cons (.const (.str ⟨#[82, 67, 80, 84]⟩)) (.cons (.const (.str ⟨#[82, 83, 69, 84]⟩)) (.cons (.const (.str ⟨#[83, 84, 65, 82, 84, 84, 76, 83]⟩)) (.cons (.const (.str ⟨#[86, 82, 70, 89]⟩)) .nil))))))))))))) (.cons (.const (.bool true)) (.cons (.const (.bool true)) (.cons (.const (.bool true)) (.cons (.const (.bool true)) (.cons (.const (.bool true)) (.cons (.const (.bool true)) (.cons (.const (.bool true)) (.cons (.const (.bool true)) (.cons (.const (.bool true)) (.cons (.const (.bool true)) (.cons (.const (.bool true)) (.cons (.const (.bool true)) (.cons (.const (.bool true)) .nil))))))))))))))) .nil)
def b_SMTP_call : Sxs := (.cons (.if_ (.cmp .Eq (.loc 28268862397837155) (.const (.str ⟨#[72, 69, 76, 79]⟩))) (.cons (.expr (.callm (.loc 1718379891) 1462788660318075907443 (.cons (.loc 6779489) .nil) .nil)) .nil) (.cons (.if_ (.cmp .Eq (.loc 28268862397837155) (.const (.str ⟨#[69, 72, 76, 79]⟩))) (.cons (.expr (.callm (.loc 1718379891) 1462789501444471156083 (.cons (.loc 6779489) .nil) .nil)) .nil) (.cons (.if_ (.cmp .Eq (.loc 28268862397837155) (.const (.str ⟨#[78, 79, 79, 80]⟩))) (.cons (.expr (.callm (.loc 1718379891) 1481454398520736116083 (.cons (.loc 6779489) .nil) .nil)) .nil) (.cons (.if_ (.cmp .Eq (.loc 28268862397837155) (.const (.str ⟨#[81, 85, 73, 84]⟩))) (.cons (.expr (.callm (.loc 1718379891) 1554810721399741902195 (.cons (.loc 6779489) .nil) .nil)) .nil) (.cons (.if_ (.cmp .Eq (.loc 28268862397837155) (.const (.str ⟨#[83, 84, 65, 82, 84, 84, 76, 83]⟩))) (.cons (.expr (.callm (.loc 1718379891) 6599560297395334928612170427763 (.cons (.loc 6779489) .nil) .nil)) .nil) (.cons (.if_ (.cmp .Eq (.loc 28268862397837155) (.const (.str ⟨#[65, 85, 84, 72]⟩))) (.cons (.expr (.callm (.loc 1718379891) 1334242408457458445683 (.cons (.loc 6779489) .nil) .nil)) .nil) (.cons (.if_ (.cmp .Eq (.loc 28268862397837155) (.const (.str ⟨#[72, 69, 76, 80]⟩))) (.cons (.expr (.callm (.loc 1718379891) 1481235404391785459059 (.cons (.loc 6779489) .nil) .nil)) .nil) (.cons (.if_ (.cmp .Eq (.loc 28268862397837155) (.const (.str ⟨#[86, 82, 70, 89]⟩))) (.cons (.expr (.callm (.loc 1718379891) 1646827430058803883379 (.cons (.loc 6779489) .nil) .nil)) .nil) (.cons (.if_ (.cmp .Eq (.loc 28268862397837155) (.const (.str ⟨#[77, 65, 73, 76]⟩))) (.cons (.expr (.callm (.loc 1718379891) 1407231134912484765043 (.cons (.loc 6779489) .nil) .nil)) .nil) (.cons (.if_ (.cmp .Eq (.loc 28268862397837155) (.const (.str ⟨#[82, 67, 80, 84]⟩))) (.cons (.expr (.callm (.loc 1718379891) 1555310059107938233715 (.cons (.loc 6779489) .nil) .nil)) .nil) (.cons (.if_ (.cmp .Eq (.loc 28268862397837155) (.const (.str ⟨#[82, 83, 69, 84]⟩))) (.cons (.expr (.callm (.loc 1718379891) 1554521929173148396915 (.cons (.loc 6779489) .nil) .nil)) .nil) (.cons (.if_ (.cmp .Eq (.loc 28268862397837155) (.const (.str ⟨#[68, 65, 84, 65]⟩))) (.cons (.expr (.callm (.loc 1718379891) 1205109573740492254579 (.cons (.loc 6779489) .nil) .nil)) .nil) (.cons (.if_ (.cmp .Eq (.loc 28268862397837155) (.const (.str ⟨#[69, 88, 80, 78]⟩))) (.cons (.expr (.callm (.loc 1718379891) 1444635491346540686707 (.cons (.loc 6779489) .nil) .nil)) .nil) .nil) .nil)) .nil)) .nil)) .nil)) .nil)) .nil)) .nil)) .nil)) .nil)) .nil)) .nil)) .nil)) .nil)
def b_SMTP_connection_made : Sxs := (.cons (.expr (.callm (.loc 1718379891) 526782463397543448371712452385403743 .nil .nil)) (.cons (.assign (.attr (.loc 1718379891) 31084746137363827) (.callm (.loc 1718379891) 573412356592182058285592000341369695 .nil .nil)) (.cons (.assign (.attr (.attr (.loc 1718379891) 31084746137363827) 1919247728) (.callm (.loc 2148068245634122084980) 2259462909320504184383269978269031 (.cons (.const (.str ⟨#[112, 101, 101, 114, 110, 97, 109, 101]⟩)) .nil) .nil)) (.cons (.assign (.loc 9144803855500642589518518904179) (.cmp .IsNot (.attr (.loc 1718379891) 2596855164441389628957528527440234342918549343) (.const .none))) (.cons (.if_ (.boo .And (.cons (.cmp .IsNot (.attr (.loc 1718379891) 2148068245634122084980) (.const .none)) (.cons (.e (.loc 9144803855500642589518518904179)) .nil))) (.cons (.assign (.attr (.loc 1718379891) 2148068245634122084980) (.loc 2148068245634122084980)) (.cons (.expr (.callm (.attr (.loc 1718379891) 32199629150188127) 28273260276967780 .nil .nil)) (.cons (.assert_ (.cmp .IsNot (.attr (.loc 1718379891) 8591114597617392126741235659871) (.const .none))) (.cons (.assign (.attr (.attr (.loc 1718379891) 31084746137363827) 7107443) (.dict .nil .nil)) (.cons (.assign (.loc 1802465128) (.callm (.attr (.loc 1718379891) 9144488302065274971230765672543) 7628135 (.cons (.const (.str ⟨#[83, 84, 65, 82, 84, 84, 76, 83]⟩)) .nil) .nil)) (.cons (.if_ (.cmp .Is (.loc 1802465128) (.const .none)) (.cons (.assign (.attr (.loc 1718379891) 2706876619010479449082282535039198290334479455) (.const (.bool true))) .nil) (.cons (.assign (.attr (.loc 1718379891) 2706876619010479449082282535039198290334479455) (.callm (.attr (.loc 1718379891) 9063399550879417817601583445605) 1802465128 (.cons (.const (.str ⟨#[83, 84, 65, 82, 84, 84, 76, 83]⟩)) (.cons (.loc 1718379891) (.cons (.attr (.loc 1718379891) 31084746137363827) (.cons (.attr (.loc 1718379891) 7309464706571726437) (.cons (.tup .nil) .nil))))) .nil)) .nil)) .nil)))))) (.cons (.expr (.callm (.loc 1718379891) 573161591195383374840980575297412846971301028703 (.cons (.loc 2148068245634122084980) (.cons (.loc 2148068245634122084980) .nil)) .nil)) (.cons (.assign (.attr (.loc 1718379891) 2148068245634122084980) (.loc 2148068245634122084980)) (.cons (.assign (.attr (.loc 1718379891) 8835912113096952814114134223093550660282463) (.loc 2148068245634122084980)) .nil)))) .nil)))))
def b_SMTP_cb_client_connected : Sxs := (.cons (.assign (.attr (.loc 1718379891) 32199629150188127) (.loc 125779801367922)) (.cons (.assign (.attr (.loc 1718379891) 32199698004735839) (.loc 125780070330999)) .nil))
def b_SMTP_set_post_data_state : Sxs := (.cons (.assign (.attr (.loc 1718379891) 7309464706571726437) (.callm (.loc 1718379891) 134835824757941121302624120582196847455 .nil .nil)) .nil)
def b_SMTP_set_rset_state : Sxs := (.cons (.expr (.callm (.loc 1718379891) 579203443814083752135918088429860055947082560351 .nil .nil)) .nil)
def b_SMTP_push : Sxs := (.cons (.if_ (.e (.call (.glob 478793196199587447665513) (.cons (.loc 126948300911731) (.cons (.glob 7500915) .nil)) .nil)) (.cons (.assign (.loc 7310308045059482994) (.ife (.e (.attr (.loc 1718379891) 292195074319195167906729805251440229)) (.callm (.loc 126948300911731) 111482039922277 (.cons (.const (.str ⟨#[117, 116, 102, 45, 56]⟩)) .nil) .nil) (.callm (.loc 126948300911731) 111482039922277 (.cons (.const (.str ⟨#[97, 115, 99, 105, 105]⟩)) .nil) .nil))) .nil) (.cons (.assign (.loc 7310308045059482994) (.loc 126948300911731)) .nil)) (.cons (.assert_ (.e (.call (.glob 478793196199587447665513) (.cons (.loc 7310308045059482994) (.cons (.glob 495623371106) .nil)) .nil))) (.cons (.expr (.callm (.attr (.loc 1718379891) 32199698004735839) 435744764535 (.cons (.bin .Add (.loc 7310308045059482994) (.const (.bytes #[13, 10]))) .nil) .nil)) (.cons (.assert_ (.cmp .IsNot (.attr (.loc 1718379891) 31084746137363827) (.const .none))) (.cons (.expr (.callm (.attr (.loc 1718379891) 32199698004735839) 474214396516 .nil .nil)) .nil)))))
def b_SMTP_handle_client : Sxs := (.cons (.assert_ (.cmp .IsNot (.attr (.loc 1718379891) 31084746137363827) (.const .none))) (.cons (.expr (.callm (.loc 1718379891) 1752397168 (.cons (.callm (.const (.str ⟨#[50, 50, 48, 32, 123, 125, 32, 123, 125]⟩)) 127961796865894 (.cons (.attr (.loc 1718379891) 7308604897320202088) (.cons (.attr (.loc 1718379891) 500068344937) .nil)) .nil) .nil) .nil)) (.cons (.if_ (.e (.attr (.loc 1718379891) 2596070463962024529842498964163142344380409183)) (.cons (.assign (.loc 549739304092398133207395) (.call (.glob 1952672100) (.cons (.attr (.loc 1718379891) 134851116900641298145377162667812283231) .nil) .nil)) .nil) (.cons (.assign (.loc 549739304092398133207395) (.dict .nil .nil)) .nil)) (.cons (.assign (.loc 36022850903937676462782902114) (.glob 101895927281873284927803202)) (.cons (.while_ (.cmp .IsNot (.attr (.loc 1718379891) 2148068245634122084980) (.const .none)) (.cons (.try_ (.cons (.try_ (.cons (.assign (.loc 1701734764) (.callm (.attr (.loc 1718379891) 32199629150188127) 1999847179882386777458 .nil .nil)) .nil) (.cons (.glob 38940328376056606832702609790557500565836) (.some 491496043109) (.cons (.expr (.callm (.attr (.loc 1718379891) 32199629150188127) 1684104562 (.cons (.attr (.loc 491496043109) 7234308727655788387) .nil) .nil)) (.cons (.while_ (.e (.const (.bool true))) (.cons (.try_ (.cons (.expr (.callm (.attr (.loc 1718379891) 32199629150188127) 1999847179882386777458 .nil .nil)) (.cons .brk .nil)) (.cons (.glob 38940328376056606832702609790557500565836) (.some 101) (.cons (.expr (.callm (.attr (.loc 1718379891) 32199629150188127) 1684104562 (.cons (.attr (.loc 101) 7234308727655788387) .nil) .nil)) (.cons .cont .nil)) .nil)) .nil)) (.cons (.expr (.callm (.loc 1718379891) 1752397168 (.cons (.const (.str ⟨#[53, 48, 48, 32, 67, 111, 109, 109, 97, 110, 100, 32, 108, 105, 110, 101, 32, 116, 111, 111, 32, 108, 111, 110, 103]⟩)) .nil) .nil)) (.cons .cont .nil)))) .nil)) (.cons (.assign (.loc 1701734764) (.callm (.loc 1701734764) 123598194111346 (.cons (.const (.bytes #[13, 10])) .nil) .nil)) (.cons (.if_ (.not (.e (.loc 1701734764))) (.cons (.expr (.callm (.loc 1718379891) 1752397168 (.cons (.const (.str ⟨#[53, 48, 48, 32, 69, 114, 114, 111, 114, 58, 32, 98, 97, 100, 32, 115, 121, 110, 116, 97, 120]⟩)) .nil) .nil)) (.cons .cont .nil)) .nil) (.cons (.assign (.tup [9142637483748429058929630998371, 95, 2128686170035141964385]) (.callm (.loc 1701734764) 2037169923915089338736 (.cons (.const (.bytes #[32])) .nil) .nil)) (.cons (.try_ (.cons (.assign (.loc 28268862397837155) (.callm (.callm (.loc 9142637483748429058929630998371) 491328139381 .nil .nil) 111482039919972 (.cons (.const (.str ⟨#[97, 115, 99, 105, 105]⟩)) .nil) .nil)) .nil) (.cons (.glob 9968724064269773030766456211686458732932693) .none (.cons (.expr (.callm (.loc 1718379891) 1752397168 (.cons (.const (.str ⟨#[53, 48, 48, 32, 69, 114, 114, 111, 114, 58, 32, 98, 97, 100, 32, 115, 121, 110, 116, 97, 120]⟩)) .nil) .nil)) (.cons .cont .nil)) .nil)) (.cons (.if_ (.not (.e (.loc 2128686170035141964385))) (.cons (.assign (.loc 6779489) (.const .none)) .nil) (.cons (.assign (.loc 2128686170035141964385) (.callm (.loc 2128686170035141964385) 482805445747 .nil .nil)) (.cons (.if_ (.e (.attr (.loc 1718379891) 292195074319195167906729805251440229)) (.cons (.assign (.loc 6779489) (.callm (.loc 2128686170035141964385) 111482039919972 (.cons (.const (.str ⟨#[117, 116, 102, 45, 56]⟩)) .nil) .nil)) .nil) (.cons (.try_ (.cons (.assign (.loc 6779489) (.callm (.loc 2128686170035141964385) 111482039919972 (.cons (.const (.str ⟨#[97, 115, 99, 105, 105]⟩)) .nil) .nil)) .nil) (.cons (.glob 9968724064269773030766456211686458732932693) .none (.cons (.expr (.callm (.loc 1718379891) 1752397168 (.cons (.const (.str ⟨#[53, 48, 48, 32, 69, 114, 114, 111, 114, 58, 32, 115, 116, 114, 105, 99, 116, 32, 65, 83, 67, 73, 73, 32, 109, 111, 100, 101]⟩)) .nil) .nil)) (.cons .cont .nil)) .nil)) .nil)) .nil))) (.cons (.assign (.loc 134635941552493) (.ife (.e (.attr (.attr (.loc 1718379891) 31084746137363827) 8909586780483040348842398873701)) (.callm (.attr (.loc 1718379891) 2574726598080873317446872829738011858461093731) 7628135 (.cons (.loc 28268862397837155) (.cons (.attr (.loc 1718379891) 10140900249851656170265228383450285273345891) .nil)) .nil) (.attr (.loc 1718379891) 10140900249851656170265228383450285273345891))) (.cons (.if_ (.cmp .Gt (.call (.glob 7234924) (.cons (.loc 1701734764) .nil) .nil) (.loc 134635941552493)) (.cons (.expr (.callm (.loc 1718379891) 1752397168 (.cons (.const (.str ⟨#[53, 48, 48, 32, 67, 111, 109, 109, 97, 110, 100, 32, 108, 105, 110, 101, 32, 116, 111, 111, 32, 108, 111, 110, 103]⟩)) .nil) .nil)) (.cons .cont .nil)) .nil) (.cons (.if_ (.boo .And (.cons (.not (.e (.attr (.loc 1718379891) 2706876619010479449082282535039198290334479455))) (.cons (.cmp .NotEq (.loc 28268862397837155) (.const (.str ⟨#[81, 85, 73, 84]⟩))) .nil))) (.cons (.expr (.callm (.loc 1718379891) 1752397168 (.cons (.const (.str ⟨#[53, 53, 52, 32, 67, 111, 109, 109, 97, 110, 100, 32, 114, 101, 102, 117, 115, 101, 100, 32, 100, 117, 101, 32, 116, 111, 32, 108, 97, 99, 107, 32, 111, 102, 32, 115, 101, 99, 117, 114, 105, 116, 121]⟩)) .nil) .nil)) (.cons .cont .nil)) .nil) (.cons (.if_ (.boo .And (.cons (.e (.attr (.loc 1718379891) 153424349561367068863149008691576006002)) (.cons (.not (.e (.attr (.loc 1718379891) 8591114597617392126741235659871))) (.cons (.cmp .NotIn (.loc 28268862397837155) (.glob 7978378841624821144362639972241553032106223978517646401)) .nil)))) (.cons (.expr (.callm (.loc 1718379891) 1752397168 (.cons (.const (.str ⟨#[53, 51, 48, 32, 77, 117, 115, 116, 32, 105, 115, 115, 117, 101, 32, 97, 32, 83, 84, 65, 82, 84, 84, 76, 83, 32, 99, 111, 109, 109, 97, 110, 100, 32, 102, 105, 114, 115, 116]⟩)) .nil) .nil)) (.cons .cont .nil)) .nil) (.cons (.if_ (.e (.attr (.loc 1718379891) 2596070463962024529842498964163142344380409183)) (.cons (.assign (.loc 127978875155810) (.callm (.loc 549739304092398133207395) 7628135 (.cons (.loc 28268862397837155) (.cons (.attr (.loc 1718379891) 2596334512413898487291625445403961929588892511) .nil)) .nil)) (.cons (.if_ (.cmp .Lt (.loc 127978875155810) (.const (.int (1)))) (.cons .bad (.cons (.expr (.callm (.attr (.loc 1718379891) 2148068245634122084980) 435728378979 .nil .nil)) (.cons .cont .nil))) .nil) (.cons .bad .nil))) .nil) (.cons (.assign (.loc 110429656606061) (.callm (.attr (.loc 1718379891) 9142321874161755687668721480543) 7628135 (.cons (.loc 28268862397837155) .nil) .nil)) (.cons (.if_ (.cmp .Is (.loc 110429656606061) (.const .none)) (.cons (.augl 36022850903937676462782902114 .Sub (.const (.int (1)))) (.cons (.if_ (.cmp .Lt (.loc 36022850903937676462782902114) (.const (.int (1)))) (.cons (.expr (.callm (.loc 1718379891) 1752397168 (.cons (.const (.str ⟨#[53, 48, 50, 32, 53, 46, 53, 46, 49, 32, 84, 111, 111, 32, 109, 97, 110, 121, 32, 117, 110, 114, 101, 99, 111, 103, 110, 105, 122, 101, 100, 32, 99, 111, 109, 109, 97, 110, 100, 115, 44, 32, 103, 111, 111, 100, 98, 121, 101, 46]⟩)) .nil) .nil)) (.cons (.expr (.callm (.attr (.loc 1718379891) 2148068245634122084980) 435728378979 .nil .nil)) (.cons .cont .nil))) .nil) (.cons .bad (.cons .cont .nil)))) .nil) (.cons (.expr (.callm (.loc 1718379891) 465674789727 (.cons (.loc 28268862397837155) (.cons (.loc 6779489) .nil)) .nil)) .nil)))))))))))))) (.cons (.glob 2321024440291732109269285072691523) .none (.cons (.expr (.callm (.attr (.loc 1718379891) 32199698004735839) 435728378979 .nil .nil)) (.cons .reraise .nil)) (.cons (.glob 2037169923944901474373) (.some 491496043109) (.cons (.assign (.loc 126948300911731) (.const .none)) (.cons .bad .nil)) .nil))) .nil)) .nil)))))
def b_SMTP_smtp_QUIT : Sxs := (.cons (.if_ (.e (.loc 6779489)) (.cons (.expr (.callm (.loc 1718379891) 1752397168 (.cons (.const (.str ⟨#[53, 48, 49, 32, 83, 121, 110, 116, 97, 120, 58, 32, 81, 85, 73, 84]⟩)) .nil) .nil)) .nil) (.cons (.assign (.loc 126948300911731) (.callm (.loc 1718379891) 9358934023668868285814945626043786538869599 (.cons (.const (.str ⟨#[81, 85, 73, 84]⟩)) .nil) .nil)) (.cons (.expr (.callm (.loc 1718379891) 1752397168 (.cons (.ife (.cmp .Is (.loc 126948300911731) (.glob 20070800184002893)) (.const (.str ⟨#[50, 50, 49, 32, 66, 121, 101]⟩)) (.loc 126948300911731)) .nil) .nil)) (.cons (.assert_ (.cmp .IsNot (.attr (.loc 1718379891) 8835912113096952814114134223093550660282463) (.const .none))) (.cons (.expr (.callm (.attr (.loc 1718379891) 8835912113096952814114134223093550660282463) 119182715674979 .nil .nil)) (.cons (.assert_ (.cmp .IsNot (.attr (.loc 1718379891) 2148068245634122084980) (.const .none))) (.cons (.expr (.callm (.attr (.loc 1718379891) 2148068245634122084980) 435728378979 .nil .nil)) .nil))))))) .nil)
def b_SMTP_challenge_auth : Sxs := (.cons (.assign (.loc 1870574157394358659171) (.ife (.e (.call (.glob 478793196199587447665513) (.cons (.loc 1870574157394358659171) (.cons (.glob 7500915) .nil)) .nil)) (.callm (.loc 1870574157394358659171) 111482039922277 .nil .nil) (.loc 1870574157394358659171))) (.cons (.assert_ (.e (.call (.glob 478793196199587447665513) (.cons (.loc 1870574157394358659171) (.cons (.glob 495623371106) .nil)) .nil))) (.cons (.assign (.loc 1870574157394358659171) (.bin .Add (.const (.bytes #[51, 51, 52, 32])) (.ife (.e (.loc 4136695566683210419545827405413)) (.call (.glob 1870358263896667862626) (.cons (.loc 1870574157394358659171) .nil) .nil) (.loc 1870574157394358659171)))) (.cons (.assert_ (.cmp .IsNot (.attr (.loc 1718379891) 31084746137363827) (.const .none))) (.cons (.expr (.callm (.loc 1718379891) 1752397168 (.cons (.loc 1870574157394358659171) .nil) .nil)) (.cons (.assign (.loc 1701734764) (.callm (.attr (.loc 1718379891) 32199629150188127) 7308895159530382706 .nil .nil)) (.cons (.assign (.loc 1651469410) (.callm (.loc 1701734764) 482805445747 .nil .nil)) (.cons (.if_ (.cmp .Eq (.loc 1651469410) (.const (.bytes #[42]))) (.cons (.expr (.callm (.loc 1718379891) 1752397168 (.cons (.const (.str ⟨#[53, 48, 49, 32, 53, 46, 55, 46, 48, 32, 65, 117, 116, 104, 32, 97, 98, 111, 114, 116, 101, 100]⟩)) .nil) .nil)) (.cons (.ret (.glob 20070800184002893)) .nil)) .nil) (.cons (.try_ (.cons (.assign (.loc 30464233558703840131954206052) (.call (.glob 1870358263857996379746) (.cons (.loc 1651469410) .nil) (.cons 7310575179022492022 (.const (.bool true)) .nil))) .nil) (.cons (.glob 491496043077) .none (.cons (.expr (.callm (.loc 1718379891) 1752397168 (.cons (.const (.str ⟨#[53, 48, 49, 32, 53, 46, 53, 46, 50, 32, 67, 97, 110, 39, 116, 32, 100, 101, 99, 111, 100, 101, 32, 98, 97, 115, 101, 54, 52]⟩)) .nil) .nil)) (.cons (.ret (.glob 20070800184002893)) .nil)) .nil)) (.cons (.ret (.loc 30464233558703840131954206052)) .nil))))))))))
def b_LimitOverrunError_init : Sxs := (.cons (.assign (.attr (.loc 1718379891) 7234308727655788387) (.loc 7234308727655788387)) .nil)
end Sm
end
section
set_option maxRecDepth 100000
namespace Sm
open PySem
def clsConnection : Cls := { attrs := [(126879296481648, none), (499984984428, none), (1919247728, none), (474147938676, none), (125779835254114, none), (1953391987, none), (110386891156579, none), (6872339552563453791, some (.glob 94)), (2259462909320504184383269978269031, some (.glob 101)), (1701998445, some (.glob 108)), (1999847179882386777458, some (.glob 116)), (7308895159530382706, some (.glob 123)), (1684104562, some (.glob 130)), (28273260276967780, some (.glob 137)), (435744764535, some (.glob 144)), (474214396516, some (.glob 151)), (119182715674979, some (.glob 158)), (435728378979, some (.glob 165))] }
def clsHandler : Cls := { attrs := [(495723704168, none), (126918051983212, none), (1953523051, none), (6872339552563453791, some (.glob 186))] }
def clsSession : Cls := { attrs := [(1919247728, none), (7107443, none), (1871002853623794462568, none), (8909586780483040348842398873701, none), (1886351212, none), (460216388990000560042608, none), (117815395581427984184077407, none), (1797720269491904214369, none), (7954214932716840229785799259489, none), (6872339552563453791, some (.glob 366))] }
def clsEnvelope : Cls := { attrs := [(2018725697679922913645, none), (35724284097590346944111796589, none), (1040400322869670997363, none), (32772479322582883, none), (154763657913503903890213270235436905071, none), (8317994990100833138, none), (35724284097590346944246473586, none), (6872339552563453791, some (.glob 387))] }
def clsSMTP : Cls := { attrs := [(500068344937, none), (1886351212, none), (9063399550879417817601583445605, none), (604444757095078001634194158471373156, none), (292195074319195167906729805251440229, none), (30160741268843025212933235807, none), (2574726598080873317446872829738011858461093731, none), (7308604897320202088, none), (140803950564158414787931252, none), (153424349561367068863149008691576006002, none), (2706876619010479449082282535039198290334479455, none), (8591114597617392126741235659871, none), (2596855164441389628957528527440234342918549343, none), (31084746137363827, none), (7309464706571726437, none), (2148068245634122084980, none), (8835912113096952814114134223093550660282463, none), (39276633060754649796355352386697671565663, none), (2036278413562047103951696116932959, none), (9142321874161755687634362261855, none), (9144488302065274971230765672543, none), (2320233373816691738565317457634655, none), (9142321874161755687668721480543, none), (2596070463962024529842498964163142344380409183, none), (134851116900641298145377162667812283231, none), (2596334512413898487291625445403961929588892511, none), (32199629150188127, none), (32199698004735839, none), (6872339552563453791, some (.glob 414)), (573412356592182058285592000341369695, some (.glob 421)), (134835824757941121302624120582196847455, some (.glob 428)), (9358934023668868285814945626043786538869599, some (.glob 435)), (2128612397250444747615, some (.glob 442)), (465674789727, some (.glob 449)), (526457942653382180055239292051418979, some (.glob 464)), (573161591195383374840980575297412846971301028703, some (.glob 471)), (579203443814083752135918088429860055947082560351, some (.glob 478)), (526782463397543448371712452385403743, some (.glob 485)), (1752397168, some (.glob 492)), (2361505997335214543533979314776159, some (.glob 506)), (1554810721399741902195, some (.glob 549)), (2118597393093877377273446631827555, some (.glob 571)), (10140900249851656170265228383450285273345891, some (.int 512))] }
def clsCancelledError : Cls := { attrs := [(6872339552563453791, none)], exc := some ["Exception", "BaseException", "object"] }
def clsError : Cls := { attrs := [(6872339552563453791, none)], exc := some ["ValueError", "Exception", "BaseException", "object"] }
def clsLimitOverrunError : Cls := { attrs := [(6872339552563453791, some (.glob 48))], exc := some ["Exception", "BaseException", "object"] }
def lawAsked : AV := (.tup [(.tup [(.str ⟨#[85, 115, 101, 114, 32, 78, 97, 109, 101, 0]⟩), (.bytes #[85, 115, 101, 114, 32, 78, 97, 109, 101, 0])]), (.tup [(.bytes #[0, 255, 32, 114, 97, 119]), (.bytes #[0, 255, 32, 114, 97, 119])]), (.tup [(.str ⟨#[]⟩), (.bytes #[])]), (.tup [(.bytes #[60, 49, 50, 46, 51, 52, 64, 109, 120, 49, 46, 101, 120, 97, 109, 112, 108, 101, 62]), (.bytes #[60, 49, 50, 46, 51, 52, 64, 109, 120, 49, 46, 101, 120, 97, 109, 112, 108, 101, 62])])])
def G7 : Genv where
  glb := [(1347702099, (.glob 672)), (362090415177, (.str ⟨#[80, 121, 116, 104, 111, 110, 32, 83, 77, 84, 80, 32, 49, 46, 52, 46, 54]⟩)), (491496043077, (.glob 77)), (128017563087721, (.glob 401)), (20070800184002893, (.glob 294)), (31084746137363795, (.glob 369)), (32199663560843592, (.glob 203)), (6072332520732511297, (.str ⟨#[65, 66, 67, 68, 69, 70, 71, 72, 73, 74, 75, 76, 77, 78, 79, 80, 81, 82, 83, 84, 85, 86, 87, 88, 89, 90, 97, 98, 99, 100, 101, 102, 103, 104, 105, 106, 107, 108, 109, 110, 111, 112, 113, 114, 115, 116, 117, 118, 119, 120, 121, 122, 48, 49, 50, 51, 52, 53, 54, 55, 56, 57, 43, 47]⟩)), (7309464706571726405, (.glob 390)), (1851692548719632280671, (.glob 695)), (1870358263857996379746, (.glob 264)), (1870358263896667862626, (.glob 256)), (474107512077656218758239, lawAsked), (521515500515601310183235, (.glob 168)), (573554843332788346776671, (.glob 688)), (101895927281873284927803202, (.int (5))), (138296705931074955972275295, (.glob 700)), (35729072780115062052068879455, (.str ⟨#[65, 66, 67, 68, 69, 70, 71, 72, 73, 74, 75, 76, 77, 78, 79, 80, 81, 82, 83, 84, 85, 86, 87, 88, 89, 90, 97, 98, 99, 100, 101, 102, 103, 104, 105, 106, 107, 108, 109, 110, 111, 112, 113, 114, 115, 116, 117, 118, 119, 120, 121, 122, 48, 49, 50, 51, 52, 53, 54, 55, 56, 57, 43, 47]⟩)), (2321024440291732109269285072691523, (.glob 31)), (38940328376056606832702609790557500565836, (.glob 51)), (7343406801458046139848369556229467637825859, (.int (20))), (7978378841624821144362639972241553032106223978517646401, (.glob 295))]
  blt := [(7105633, .builtin .all), (7173491, .builtin .sum), (7234924, .builtin .len), (7497827, .builtin .chr), (7500915, .type .str), (7630441, .type .int), (7889261, .builtin .max), (1952672100, .type .dict), (435526984050, .type .range), (495623371106, .type .bytes), (2037169923944901474373, .type (.excep "Exception")), (478793196199587447665513, .builtin .isinstance), (540405614369491047440726, .type (.excep "ValueError")), (9968724064269773030766456211686458732932693, .type (.excep "UnicodeDecodeError"))]
  cls := [(168, clsConnection), (203, clsHandler), (369, clsSession), (390, clsEnvelope), (672, clsSMTP), (31, clsCancelledError), (77, clsError), (51, clsLimitOverrunError)]
  fns := [94, 101, 108, 116, 123, 130, 137, 144, 151, 158, 165, 186, 256, 264, 366, 387, 414, 421, 428, 435, 442, 449, 464, 471, 478, 485, 492, 506, 549, 571, 688, 695, 700, 705]
  free := [7107443, 1684104562, 1701998445, 1752397168, 1886351212, 1919247728, 1953391987, 1953523051, 435728378979, 435744764535, 465674789727, 474147938676, 474214396516, 495723704168, 499984984428, 500068344937, 110386891156579, 119182715674979, 125779835254114, 126879296481648, 126918051983212, 28273260276967780, 31084746137363827, 32199629150188127, 32199698004735839, 32772479322582883, 7308604897320202088, 7308895159530382706, 7309464706571726437, 8317994990100833138, 1040400322869670997363, 1554810721399741902195, 1797720269491904214369, 1871002853623794462568, 1999847179882386777458, 2018725697679922913645, 2128612397250444747615, 2148068245634122084980, 460216388990000560042608, 117815395581427984184077407, 140803950564158414787931252, 30160741268843025212933235807, 35724284097590346944111796589, 35724284097590346944246473586, 7954214932716840229785799259489, 8591114597617392126741235659871, 8909586780483040348842398873701, 9063399550879417817601583445605, 9142321874161755687634362261855, 9142321874161755687668721480543, 9144488302065274971230765672543, 2036278413562047103951696116932959, 2118597393093877377273446631827555, 2259462909320504184383269978269031, 2320233373816691738565317457634655, 2361505997335214543533979314776159, 292195074319195167906729805251440229, 526457942653382180055239292051418979, 526782463397543448371712452385403743, 573412356592182058285592000341369695, 604444757095078001634194158471373156, 134835824757941121302624120582196847455, 134851116900641298145377162667812283231, 153424349561367068863149008691576006002, 154763657913503903890213270235436905071, 39276633060754649796355352386697671565663, 8835912113096952814114134223093550660282463, 9358934023668868285814945626043786538869599, 10140900249851656170265228383450285273345891, 2574726598080873317446872829738011858461093731, 2596070463962024529842498964163142344380409183, 2596334512413898487291625445403961929588892511, 2596855164441389628957528527440234342918549343, 2706876619010479449082282535039198290334479455, 573161591195383374840980575297412846971301028703, 579203443814083752135918088429860055947082560351]
  objs := [294]
end Sm
end
section
set_option maxRecDepth 100000
set_option linter.unusedVariables false
set_option maxHeartbeats 1000000
namespace Sm
open PySem
abbrev RQ (Q : AV → List AObj → Prop) : FQ := fun fl st => match fl with
  | .ret v => Q v st.σ
  | .next => Q .none st.σ
  | _ => False
abbrev RX (X : Nat → List AObj → Prop) : Xp := fun i st => X i st.σ
structure Conn where
  pieces : Nat
  peer : AV
  taken : Nat
  buffer : Array UInt8
  sent : Array UInt8
  closed : Bool
def Conn.obj (c : Conn) : AObj := .inst 168 [(126879296481648, .ref c.pieces), (499984984428, .int 1001), (1919247728, c.peer), (474147938676, .int c.taken), (125779835254114, .bytes c.buffer), (1953391987, .bytes c.sent), (110386891156579, .bool c.closed)]
theorem lt_of_at {σ : List AObj} {i : Nat} {o : AObj} (h : σ[i]? = some o) : i < σ.length := (List.getElem?_eq_some_iff.mp h).1
theorem at_set {σ : List AObj} {i : Nat} {o o' : AObj} (h : σ[i]? = some o) : (σ.set i o')[i]? = some o' := by
  rw [List.getElem?_set_self (lt_of_at h)]
section
variable {O : Bool → Addr → Sp} {Q : AV → List AObj → Prop} {X : Nat → List AObj → Prop} {σ : List AObj} {i : Nat} {c : Conn} {hd : Bool}
theorem c_write {o : Array UInt8} (hc : σ[i]? = some c.obj) (ho : c.closed = false) (hz : c.sent.size + o.size ≤ 100000) (hq : Q .none (σ.set i { c with sent := c.sent ++ o }.obj)) :
    exs G7 blts O b_Connection_write (curOf hd) ⟨σ, [(1718379891, .ref i), (126943755527023, .bytes o)]⟩ (RQ Q) (RX X) := by
  obtain ⟨p, pr, t, b, s, cl⟩ := c
  subst ho
  simp only at hz
  repeat (first | ((conv => whnf); rw [hc]) | ((conv => whnf); erw [hc]) | ((conv => whnf); refine ⟨by first | omega | (dsimp only; omega) | exact rfl | decide, ?_⟩) | ((conv => whnf); refine ⟨⟨rfl, rfl, rfl, by first | (simp; done) | exact Nat.le_of_ble_eq_true rfl⟩, ?_⟩))
  exact hq
theorem c_drain (hq : Q .none σ) : exs G7 blts O b_Connection_drain (curOf hd) ⟨σ, [(1718379891, .ref i)]⟩ (RQ Q) (RX X) := by
  exact hq
theorem c_close (hc : σ[i]? = some c.obj) (hq : Q .none (σ.set i { c with closed := true }.obj)) : exs G7 blts O b_Connection_close (curOf hd) ⟨σ, [(1718379891, .ref i)]⟩ (RQ Q) (RX X) := by
  obtain ⟨p, pr, t, b, s, cl⟩ := c
  repeat (first | ((conv => whnf); rw [hc]) | ((conv => whnf); erw [hc]) | ((conv => whnf); refine ⟨by first | omega | (dsimp only; omega) | exact rfl | decide, ?_⟩) | ((conv => whnf); refine ⟨⟨rfl, rfl, rfl, by first | (simp; done) | exact Nat.le_of_ble_eq_true rfl⟩, ?_⟩))
  exact hq
theorem c_cancel (hc : σ[i]? = some c.obj) (hq : Q .none (σ.set i { c with closed := true }.obj)) : exs G7 blts O b_Connection_cancel (curOf hd) ⟨σ, [(1718379891, .ref i)]⟩ (RQ Q) (RX X) := by
  obtain ⟨p, pr, t, b, s, cl⟩ := c
  repeat (first | ((conv => whnf); rw [hc]) | ((conv => whnf); erw [hc]) | ((conv => whnf); refine ⟨by first | omega | (dsimp only; omega) | exact rfl | decide, ?_⟩) | ((conv => whnf); refine ⟨⟨rfl, rfl, rfl, by first | (simp; done) | exact Nat.le_of_ble_eq_true rfl⟩, ?_⟩))
  exact hq
theorem c_get_extra_info {n : AV} (hc : σ[i]? = some c.obj) (hq : Q c.peer σ) : exs G7 blts O b_Connection_get_extra_info (curOf hd) ⟨σ, [(1718379891, .ref i), (1701667182, n)]⟩ (RQ Q) (RX X) := by
  obtain ⟨p, pr, t, b, s, cl⟩ := c
  repeat (first | ((conv => whnf); rw [hc]) | ((conv => whnf); erw [hc]) | ((conv => whnf); refine ⟨by first | omega | (dsimp only; omega) | exact rfl | decide, ?_⟩) | ((conv => whnf); refine ⟨⟨rfl, rfl, rfl, by first | (simp; done) | exact Nat.le_of_ble_eq_true rfl⟩, ?_⟩))
  exact hq
end
end Sm
end
section
set_option maxRecDepth 100000
set_option linter.unusedVariables false
set_option maxHeartbeats 1000000
namespace Sm
open PySem
theorem cut_take {α : Type} (l : List α) (n : Nat) : cut l none (some (n : Int)) = l.take n := by
  unfold cut
  simp only [Option.elim, clipAt_nat, List.drop_zero, Nat.sub_zero]
  by_cases h : n ≤ l.length
  · rw [Nat.min_eq_left h]
  · rw [Nat.min_eq_right (by omega), List.take_length, List.take_of_length_le (by omega)]
theorem cut_drop {α : Type} (l : List α) (n : Nat) : cut l (some (n : Int)) none = l.drop n := by
  unfold cut
  simp only [Option.elim, clipAt_nat]
  by_cases h : n ≤ l.length
  · rw [Nat.min_eq_left h, List.take_of_length_le (by simp)]
  · rw [Nat.min_eq_right (by omega), List.drop_length, List.take_nil, List.drop_of_length_le (by omega)]
theorem cut_mid {α : Type} (l : List α) (a b : Nat) : cut l (some (a : Int)) (some (b : Int)) = (l.drop a).take (b - a) := by
  unfold cut
  simp only [Option.elim, clipAt_nat]
  by_cases h : a ≤ l.length
  · rw [Nat.min_eq_left h]
    by_cases h' : b ≤ l.length
    · rw [Nat.min_eq_left h']
    · rw [Nat.min_eq_right (by omega), List.take_of_length_le (by simp), List.take_of_length_le (by simp; omega)]
  · rw [Nat.min_eq_right (show l.length ≤ a by omega), List.drop_length, List.take_nil, List.drop_of_length_le (by omega), List.take_nil]
theorem cut_len {α : Type} (l : List α) (a b : Option Int) : (cut l a b).length ≤ l.length := by
  unfold cut
  rw [List.length_take, List.length_drop]; omega
section
variable {O : Bool → Addr → Sp} {Q : AV → List AObj → Prop} {X : Nat → List AObj → Prop} {σ : List AObj} {i : Nat} {c : Conn} {hd : Bool}
def Conn.read (c : Conn) (n : Nat) : Conn := { c with buffer := (c.buffer.toList.drop n).toArray }
theorem c_read {n : Nat} (hc : σ[i]? = some c.obj) (hz : c.buffer.size ≤ 100000) (hq : Q (.bytes (c.buffer.toList.take n).toArray) (σ.set i (c.read n).obj)) :
    exs G7 blts O b_Connection_read (curOf hd) ⟨σ, [(1718379891, .ref i), (110, .int (n : Int))]⟩ (RQ Q) (RX X) := by
  obtain ⟨p, pr, t, b, s, cl⟩ := c
  simp only [Conn.read] at hz hq
  rw [← cut_take, ← cut_drop] at hq
  repeat (first | ((conv => whnf); rw [hc]) | ((conv => whnf); erw [hc]) | ((conv => whnf); refine ⟨by first | omega | (dsimp only; omega) | exact rfl | decide, ?_⟩) | ((conv => whnf); refine ⟨⟨rfl, rfl, rfl, by first | (simp; done) | exact Nat.le_of_ble_eq_true rfl⟩, ?_⟩))
  exact hq
def Conn.more (c : Conn) (x : Array UInt8) : Conn := { c with buffer := c.buffer ++ x, taken := c.taken + 1 }
theorem intLt {a b : Nat} (h : a < b) : decide ((a : Int) ≥ (b : Int)) = false := decide_eq_false (by omega)
theorem intGe {a b : Nat} (h : b ≤ a) : decide ((a : Int) ≥ (b : Int)) = true := decide_eq_true (by omega)
theorem c_more {ps : List AV} {x : Array UInt8} (hc : σ[i]? = some c.obj) (ho : c.closed = false) (hp : σ[c.pieces]? = some (.list ps)) (hne : c.pieces ≠ i) (hx : ps[c.taken]? = some (.bytes x)) (hz : c.buffer.size + x.size ≤ 100000) (hps : ps.length ≤ 100000)
    (hq : Q .none (σ.set i (c.more x).obj)) : exs G7 blts O b_Connection_more (curOf hd) ⟨σ, [(1718379891, .ref i)]⟩ (RQ Q) (RX X) := by
  obtain ⟨p, pr, t, b, s, cl⟩ := c
  subst ho
  simp only [Conn.more] at hz hq hp hx hne
  have hlt : t < ps.length := (List.getElem?_eq_some_iff.mp hx).1
  have hl := intLt hlt
  have hx2 : ps[(t : Int).toNat]? = some (.bytes x) := hx
  repeat (first | ((conv => whnf); rw [hc]) | ((conv => whnf); rw [hp]) | ((conv => whnf); rw [hl]) | ((conv => whnf); rw [hx2]) | ((conv => whnf); rw [at_set hc]) | ((conv => whnf); erw [hc]) | ((conv => whnf); erw [hp]) | ((conv => whnf); erw [hl]) | ((conv => whnf); erw [hx2]) | ((conv => whnf); erw [at_set hc]) | ((conv => whnf); refine ⟨by first | omega | (dsimp only; omega) | exact rfl | decide, ?_⟩) | ((conv => whnf); refine ⟨⟨rfl, rfl, rfl, by first | (simp; done) | exact Nat.le_of_ble_eq_true rfl⟩, ?_⟩))
  rw [List.set_set]
  exact hq
end
end Sm
end
section
set_option maxRecDepth 100000
set_option linter.unusedVariables false
set_option maxHeartbeats 1000000
namespace Sm
open PySem Builtin
theorem extract_one {b : Array UInt8} {i : Nat} {x : UInt8} : (b.extract i (i + 1) == #[x]) = decide (b[i]? = some x) := by
  by_cases h : i < b.size
  · have e : b.extract i (i + 1) = #[b[i]] := by
      apply Array.ext_getElem?
      intro j
      rw [Array.getElem?_extract]
      cases j with
      | zero => simp [h]; omega
      | succ j => simp; omega
    rw [e, Array.getElem?_eq_getElem h]
    by_cases q : b[i] = x
    · subst q; simp
    · have : (#[b[i]] == #[x]) = false := by
        rw [beq_eq_false_iff_ne]
        intro z
        have := congrArg (fun a : Array UInt8 => a[0]?) z
        simp at this
        exact q this
      rw [this]
      simp [q]
  · have e : b.extract i (i + 1) = #[] := by
      apply Array.eq_empty_of_size_eq_zero
      rw [Array.size_extract]; omega
    rw [e, Array.getElem?_eq_none (by omega)]
    simp
theorem find_none {b : Array UInt8} {x : UInt8} {k : Nat} (hk : k ≤ b.size) (h : ∀ j, k ≤ j → j < b.size → b[j]? ≠ some x) : findB b #[x] (some (k : Int)) = -1 := by
  unfold findB Bytes.window
  simp only [Option.getD_some, Option.getD_none]
  rw [if_neg (show ¬ (k : Int) < 0 by omega), if_neg (show ¬ (b.size : Int) < 0 by omega)]
  by_cases e : k = b.size
  · subst e
    rw [if_pos (by simp)]; rfl
  · rw [if_neg (by simp; omega)]
    simp only [Option.bind_some, Int.toNat_natCast]
    have hm : (min (b.size : Int) (b.size : Int)).toNat = b.size := by omega
    rw [hm]
    have : Bytes.find? b #[x] k b.size = none := by
      unfold Bytes.find?
      rw [List.find?_eq_none]
      intro i hi
      rw [List.mem_map] at hi
      obtain ⟨j, hj, rfl⟩ := hi
      rw [List.mem_range] at hj
      rw [show (#[x] : Array UInt8).size = 1 from rfl] at hj ⊢
      rw [extract_one]
      have := h (j + k) (by omega) (by omega)
      simpa using this
    rw [this]
theorem find_some {b : Array UInt8} {x : UInt8} {k m : Nat} (hm : m < b.size) (hk : k ≤ m) (hx : b[m]? = some x) (h : ∀ j, k ≤ j → j < m → b[j]? ≠ some x) : findB b #[x] (some (k : Int)) = (m : Int) := by
  unfold findB Bytes.window
  simp only [Option.getD_some, Option.getD_none]
  rw [if_neg (show ¬ (k : Int) < 0 by omega), if_neg (show ¬ (b.size : Int) < 0 by omega), if_neg (by simp; omega)]
  simp only [Option.bind_some, Int.toNat_natCast]
  have hmn : (min (b.size : Int) (b.size : Int)).toNat = b.size := by omega
  rw [hmn]
  have : Bytes.find? b #[x] k b.size = some m := by
    unfold Bytes.find?
    rw [show (#[x] : Array UInt8).size = 1 from rfl, List.find?_map]
    have : (List.range (b.size + 1 - (k + 1))).find? ((fun i => b.extract i (i + 1) == #[x]) ∘ fun x => x + k) = some (m - k) := by
      rw [List.find?_range_eq_some]
      refine ⟨?_, by rw [List.mem_range]; omega, fun j hj => ?_⟩
      · simp only [Function.comp]
        rw [extract_one, show m - k + k = m by omega]
        simpa using hx
      · simp only [Function.comp]
        rw [extract_one]
        have := h (j + k) (by omega) (by omega)
        simpa using this
    rw [this]
    simp; omega
  rw [this]
def Conn.ahead (c : Conn) (ps : List (Array UInt8)) : List UInt8 := c.buffer.toList ++ (ps.drop c.taken).flatMap (·.toList)
structure Conn.Later (c c' : Conn) (ps : List (Array UInt8)) (rest : List UInt8) : Prop where
  pieces : c'.pieces = c.pieces
  peer : c'.peer = c.peer
  sent : c'.sent = c.sent
  closed : c'.closed = c.closed
  ahead : c'.ahead ps = rest
section
variable {O : Bool → Addr → Sp} {Q : AV → List AObj → Prop} {X : Nat → List AObj → Prop} {σ : List AObj} {i : Nat} {c : Conn}
def SpMore (O : Bool → Addr → Sp) : Prop := ∀ (hd : Bool) (i : Nat) (c : Conn) (ps : List AV) (x : Array UInt8) (σ : List AObj) (Q : AV → List AObj → Prop) (X : Nat → List AObj → Prop), σ[i]? = some c.obj → c.closed = false → σ[c.pieces]? = some (.list ps) → c.pieces ≠ i → ps[c.taken]? = some (.bytes x) → c.buffer.size + x.size ≤ 100000 → ps.length ≤ 100000 →
  Q .none (σ.set i (c.more x).obj) → O hd 108 [.ref i] [] σ Q X
def SpRead (O : Bool → Addr → Sp) : Prop := ∀ (hd : Bool) (i : Nat) (c : Conn) (n : Nat) (σ : List AObj) (Q : AV → List AObj → Prop) (X : Nat → List AObj → Prop), σ[i]? = some c.obj → c.buffer.size ≤ 100000 →
  Q (.bytes (c.buffer.toList.take n).toArray) (σ.set i (c.read n).obj) → O hd 130 [.ref i, .int (n : Int)] [] σ Q X
theorem meth_read {σ : List AObj} {i : Nat} {c : Conn} (hc : σ[i]? = some c.obj) : methodOf G7 σ (.ref i) 1684104562 = some (.user 130) := by
  unfold methodOf
  dsimp only
  rw [hc]
  rfl
theorem meth_more {σ : List AObj} {i : Nat} {c : Conn} (hc : σ[i]? = some c.obj) : methodOf G7 σ (.ref i) 1701998445 = some (.user 108) := by
  unfold methodOf
  dsimp only
  rw [hc]
  rfl
theorem set_self {σ : List AObj} {i : Nat} {o : AObj} (h : σ[i]? = some o) : σ.set i o = σ := by
  apply List.ext_getElem?
  intro j
  rw [List.getElem?_set]
  by_cases e : i = j
  · subst e
    rw [if_pos rfl, if_pos (lt_of_at h), h]
  · rw [if_neg e]
theorem at_set_ne {σ : List AObj} {i j : Nat} {o o' : AObj} (hne : j ≠ i) (h : σ[j]? = some o) : (σ.set i o')[j]? = some o := by
  rw [List.getElem?_set_ne (Ne.symm hne)]; exact h
theorem c_readuntil {ps : List (Array UInt8)} {m : Nat} (hM : SpMore O) (hR : SpRead O) (hc : σ[i]? = some c.obj) (ho : c.closed = false) (hp : σ[c.pieces]? = some (.list (ps.map .bytes))) (hne : c.pieces ≠ i) (hps : ps.length ≤ 10000)
    (hz : (c.ahead ps).length ≤ 10000) (hm : m ≤ 1000) (hx : (c.ahead ps)[m]? = some 10) (hb : ∀ j, j < m → (c.ahead ps)[j]? ≠ some 10)
    (hq : ∀ c' : Conn, c.Later c' ps ((c.ahead ps).drop (m + 1)) → Q (.bytes ((c.ahead ps).take (m + 1)).toArray) (σ.set i c'.obj)) :
    exs G7 blts O b_Connection_readuntil none ⟨σ, [(1718379891, .ref i), (2110959975582286243187, .bytes #[10])]⟩ (RQ Q) (RX X) := by
  repeat (first | ((conv => whnf); rw [hc]) | ((conv => whnf); rw [ho]) | ((conv => whnf); erw [hc]) | ((conv => whnf); erw [ho]) | ((conv => whnf); refine ⟨by first | omega | (dsimp only; omega) | exact rfl | decide, ?_⟩) | ((conv => whnf); refine ⟨⟨rfl, rfl, rfl, by first | (simp; done) | exact Nat.le_of_ble_eq_true rfl⟩, ?_⟩))
  conv => whnf
  refine ⟨fun n st => ∃ (c' : Conn) (k : Nat) (tl : List (Nat × AV)), (tl = [] ∨ tl = [(29793, .int (-1))]) ∧ st = ⟨σ.set i c'.obj, [(1718379891, .ref i), (2110959975582286243187, .bytes #[10]), (500135195763, .int (k : Int))] ++ tl⟩ ∧ c.Later c' ps (c.ahead ps) ∧ k ≤ c'.buffer.size ∧
    (∀ j, j < k → c'.buffer[j]? ≠ some 10) ∧ n = ps.length - c'.taken, ps.length - c.taken, ⟨c, 0, [], .inl rfl, by rw [set_self hc]; rfl, ⟨rfl, rfl, rfl, rfl, rfl⟩, Nat.zero_le _, fun j hj => absurd hj (by omega), rfl⟩, ?_⟩
  rintro n st ⟨c', k, tl, htl, rfl, L, hk, hnl, rfl⟩
  have hc' : (σ.set i c'.obj)[i]? = some c'.obj := at_set hc
  have ho' : c'.closed = false := L.closed.trans ho
  have hahead : c'.buffer.toList ++ (ps.drop c'.taken).flatMap (·.toList) = c.ahead ps := L.ahead
  have hsz : c'.buffer.size ≤ 10000 := by
    have := congrArg List.length hahead
    rw [List.length_append, Array.length_toList] at this
    omega
  have hat : ∀ j, j < c'.buffer.size → c'.buffer[j]? = (c.ahead ps)[j]? := fun j hj => by
    rw [← hahead, List.getElem?_append_left (by rw [Array.length_toList]; exact hj), Array.getElem?_toList]
  by_cases hin : m < c'.buffer.size
  · -- found
    have hf : findB c'.buffer #[10] (some (k : Int)) = (m : Int) := by
      refine find_some hin ?_ (by rw [hat m hin]; exact hx) fun j h1 h2 => by rw [hat j (by omega)]; exact hb j h2
      by_cases h : k ≤ m
      · exact h
      · exact absurd (by rw [hat m hin]; exact hx) (hnl m (by omega))
    have hd1 : decide ((m : Int) = -1) = false := decide_eq_false (by omega)
    have hd2 : decide ((m : Int) > 1001) = false := decide_eq_false (by omega)
    rcases htl with rfl | rfl
    · repeat (first | ((conv => whnf); rw [hc']) | ((conv => whnf); rw [ho']) | ((conv => whnf); rw [hf]) | ((conv => whnf); rw [hd1]) | ((conv => whnf); rw [hd2]) | ((conv => whnf); rw [meth_read hc']) | ((conv => whnf); erw [hc']) | ((conv => whnf); erw [ho']) | ((conv => whnf); erw [hf]) | ((conv => whnf); erw [hd1]) | ((conv => whnf); erw [hd2]) | ((conv => whnf); erw [meth_read hc']) | ((conv => whnf); refine ⟨by first | omega | (dsimp only; omega) | exact rfl | decide, ?_⟩) | ((conv => whnf); refine ⟨⟨rfl, rfl, rfl, by first | (simp; done) | exact Nat.le_of_ble_eq_true rfl⟩, ?_⟩))
      conv => whnf
      refine hR false i c' (m + 1) _ _ _ hc' (by omega) ?_
      show Q (.bytes (c'.buffer.toList.take (m + 1)).toArray) ((σ.set i c'.obj).set i (c'.read (m + 1)).obj)
      rw [List.set_set]
      have e1 : c'.buffer.toList.take (m + 1) = (c.ahead ps).take (m + 1) := by
        rw [← hahead, List.take_append_of_le_length (by rw [Array.length_toList]; omega)]
      have e2 : (c'.read (m + 1)).ahead ps = (c.ahead ps).drop (m + 1) := by
        rw [← hahead, List.drop_append_of_le_length (by rw [Array.length_toList]; omega)]
        rfl
      rw [e1]
      exact hq _ ⟨L.pieces, L.peer, L.sent, L.closed, e2⟩
    · repeat (first | ((conv => whnf); rw [hc']) | ((conv => whnf); rw [ho']) | ((conv => whnf); rw [hf]) | ((conv => whnf); rw [hd1]) | ((conv => whnf); rw [hd2]) | ((conv => whnf); rw [meth_read hc']) | ((conv => whnf); erw [hc']) | ((conv => whnf); erw [ho']) | ((conv => whnf); erw [hf]) | ((conv => whnf); erw [hd1]) | ((conv => whnf); erw [hd2]) | ((conv => whnf); erw [meth_read hc']) | ((conv => whnf); refine ⟨by first | omega | (dsimp only; omega) | exact rfl | decide, ?_⟩) | ((conv => whnf); refine ⟨⟨rfl, rfl, rfl, by first | (simp; done) | exact Nat.le_of_ble_eq_true rfl⟩, ?_⟩))
      conv => whnf
      refine hR false i c' (m + 1) _ _ _ hc' (by omega) ?_
      show Q (.bytes (c'.buffer.toList.take (m + 1)).toArray) ((σ.set i c'.obj).set i (c'.read (m + 1)).obj)
      rw [List.set_set]
      have e1 : c'.buffer.toList.take (m + 1) = (c.ahead ps).take (m + 1) := by
        rw [← hahead, List.take_append_of_le_length (by rw [Array.length_toList]; omega)]
      have e2 : (c'.read (m + 1)).ahead ps = (c.ahead ps).drop (m + 1) := by
        rw [← hahead, List.drop_append_of_le_length (by rw [Array.length_toList]; omega)]
        rfl
      rw [e1]
      exact hq _ ⟨L.pieces, L.peer, L.sent, L.closed, e2⟩
  · have hf : findB c'.buffer #[10] (some (k : Int)) = -1 := by
      refine find_none hk fun j h1 h2 => ?_
      rw [hat j h2]
      exact hb j (by omega)
    have hmx : (if (k : Int) < (c'.buffer.size : Int) + 1 - ((#[10] : Array UInt8).size : Int) then (c'.buffer.size : Int) + 1 - ((#[10] : Array UInt8).size : Int) else (k : Int)) = (c'.buffer.size : Int) := by
      have e : ((#[10] : Array UInt8).size : Int) = 1 := rfl
      rw [e]
      split <;> omega
    have hd1 : decide ((-1 : Int) = -1) = true := rfl
    have hd2 : decide ((c'.buffer.size : Int) > 1001) = false := decide_eq_false (by omega)
    rcases htl with rfl | rfl
    · repeat (first | ((conv => whnf); rw [hc']) | ((conv => whnf); rw [ho']) | ((conv => whnf); rw [hf]) | ((conv => whnf); rw [hd1]) | ((conv => whnf); rw [hmx]) | ((conv => whnf); rw [hd2]) | ((conv => whnf); rw [meth_more hc']) | ((conv => whnf); erw [hc']) | ((conv => whnf); erw [ho']) | ((conv => whnf); erw [hf]) | ((conv => whnf); erw [hd1]) | ((conv => whnf); erw [hmx]) | ((conv => whnf); erw [hd2]) | ((conv => whnf); erw [meth_more hc']) | ((conv => whnf); refine ⟨by first | omega | (dsimp only; omega) | exact rfl | decide, ?_⟩) | ((conv => whnf); refine ⟨⟨rfl, rfl, rfl, by first | (simp; done) | exact Nat.le_of_ble_eq_true rfl⟩, ?_⟩))
      conv => whnf
      have hlen : c'.buffer.size ≤ m := by omega
      obtain ⟨x, hxx⟩ : ∃ x, ps[c'.taken]? = some x := by
        cases e : ps[c'.taken]? with
        | some x => exact ⟨x, rfl⟩
        | none =>
          exfalso
          have : ps.drop c'.taken = [] := List.drop_of_length_le (List.getElem?_eq_none_iff.mp e)
          rw [this] at hahead
          have hlt := (List.getElem?_eq_some_iff.mp hx).1
          have := congrArg List.length hahead
          simp only [List.flatMap_nil, List.append_nil, Array.length_toList] at this
          omega
      have hdrop : ps.drop c'.taken = x :: ps.drop (c'.taken + 1) := by
        obtain ⟨h1, h2⟩ := List.getElem?_eq_some_iff.mp hxx
        rw [List.drop_eq_getElem_cons h1, h2]
      have ha2 : (c'.more x).ahead ps = c.ahead ps := by
        rw [← hahead, hdrop]
        unfold Conn.ahead Conn.more
        simp
      have hszx : c'.buffer.size + x.size ≤ 10000 := by
        have := congrArg List.length hahead
        rw [hdrop] at this
        simp only [List.flatMap_cons, List.length_append, Array.length_toList] at this
        omega
      have htk : c'.taken < ps.length := (List.getElem?_eq_some_iff.mp hxx).1
      refine hM false i c' (ps.map .bytes) x _ _ _ hc' ho' (show (σ.set i c'.obj)[c'.pieces]? = some _ from at_set_ne (by rw [L.pieces]; exact hne) (by rw [L.pieces]; exact hp)) (by rw [L.pieces]; exact hne) (by rw [List.getElem?_map, hxx]; rfl) (by omega) (by rw [List.length_map]; omega) ?_
      conv => whnf
      refine ⟨ps.length - (c'.taken + 1), by omega, c'.more x, c'.buffer.size, [(29793, .int (-1))], .inr rfl, (by show (St.mk ((σ.set i c'.obj).set i (c'.more x).obj) _) = _; rw [List.set_set]; rfl), ⟨L.pieces, L.peer, L.sent, L.closed, ha2⟩, by show _ ≤ (c'.buffer ++ x).size; rw [Array.size_append]; omega, fun j hj => ?_, rfl⟩
      have e : (c'.more x).buffer[j]? = c'.buffer[j]? := by
        show (c'.buffer ++ x)[j]? = _
        rw [Array.getElem?_append_left hj]
      rw [e, hat j hj]
      exact hb j (by omega)
    · repeat (first | ((conv => whnf); rw [hc']) | ((conv => whnf); rw [ho']) | ((conv => whnf); rw [hf]) | ((conv => whnf); rw [hd1]) | ((conv => whnf); rw [hmx]) | ((conv => whnf); rw [hd2]) | ((conv => whnf); rw [meth_more hc']) | ((conv => whnf); erw [hc']) | ((conv => whnf); erw [ho']) | ((conv => whnf); erw [hf]) | ((conv => whnf); erw [hd1]) | ((conv => whnf); erw [hmx]) | ((conv => whnf); erw [hd2]) | ((conv => whnf); erw [meth_more hc']) | ((conv => whnf); refine ⟨by first | omega | (dsimp only; omega) | exact rfl | decide, ?_⟩) | ((conv => whnf); refine ⟨⟨rfl, rfl, rfl, by first | (simp; done) | exact Nat.le_of_ble_eq_true rfl⟩, ?_⟩))
      conv => whnf
      have hlen : c'.buffer.size ≤ m := by omega
      obtain ⟨x, hxx⟩ : ∃ x, ps[c'.taken]? = some x := by
        cases e : ps[c'.taken]? with
        | some x => exact ⟨x, rfl⟩
        | none =>
          exfalso
          have : ps.drop c'.taken = [] := List.drop_of_length_le (List.getElem?_eq_none_iff.mp e)
          rw [this] at hahead
          have hlt := (List.getElem?_eq_some_iff.mp hx).1
          have := congrArg List.length hahead
          simp only [List.flatMap_nil, List.append_nil, Array.length_toList] at this
          omega
      have hdrop : ps.drop c'.taken = x :: ps.drop (c'.taken + 1) := by
        obtain ⟨h1, h2⟩ := List.getElem?_eq_some_iff.mp hxx
        rw [List.drop_eq_getElem_cons h1, h2]
      have ha2 : (c'.more x).ahead ps = c.ahead ps := by
        rw [← hahead, hdrop]
        unfold Conn.ahead Conn.more
        simp
      have hszx : c'.buffer.size + x.size ≤ 10000 := by
        have := congrArg List.length hahead
        rw [hdrop] at this
        simp only [List.flatMap_cons, List.length_append, Array.length_toList] at this
        omega
      have htk : c'.taken < ps.length := (List.getElem?_eq_some_iff.mp hxx).1
      refine hM false i c' (ps.map .bytes) x _ _ _ hc' ho' (show (σ.set i c'.obj)[c'.pieces]? = some _ from at_set_ne (by rw [L.pieces]; exact hne) (by rw [L.pieces]; exact hp)) (by rw [L.pieces]; exact hne) (by rw [List.getElem?_map, hxx]; rfl) (by omega) (by rw [List.length_map]; omega) ?_
      conv => whnf
      refine ⟨ps.length - (c'.taken + 1), by omega, c'.more x, c'.buffer.size, [(29793, .int (-1))], .inr rfl, (by show (St.mk ((σ.set i c'.obj).set i (c'.more x).obj) _) = _; rw [List.set_set]; rfl), ⟨L.pieces, L.peer, L.sent, L.closed, ha2⟩, by show _ ≤ (c'.buffer ++ x).size; rw [Array.size_append]; omega, fun j hj => ?_, rfl⟩
      have e : (c'.more x).buffer[j]? = c'.buffer[j]? := by
        show (c'.buffer ++ x)[j]? = _
        rw [Array.getElem?_append_left hj]
      rw [e, hat j hj]
      exact hb j (by omega)
end
end Sm
end
section
set_option maxRecDepth 100000
set_option linter.unusedVariables false
set_option maxHeartbeats 1000000
namespace Sm
open PySem
def sL (l : List Nat) : Str := ⟨l.toArray⟩
def letters : List Nat := [65, 66, 67, 68, 69, 70, 71, 72, 73, 74, 75, 76, 77, 78, 79, 80, 81, 82, 83, 84, 85, 86, 87, 88, 89, 90, 97, 98, 99, 100, 101, 102, 103, 104, 105, 106, 107, 108, 109, 110, 111, 112, 113, 114, 115, 116, 117, 118, 119, 120, 121, 122, 48, 49, 50, 51, 52, 53, 54, 55, 56, 57, 43, 47]
def letterAt (k : Nat) : Nat := letters.getD k 0
theorem sL_append (a b : List Nat) : sL a ++ sL b = sL (a ++ b) := by
  have e : (sL a ++ sL b).cps = (sL (a ++ b)).cps := by
    rw [Str.cps_append]; simp [sL]
  exact congrArg Str.mk e
theorem sL_len (a : List Nat) : (sL a).length = a.length := by
  show a.toArray.size = _
  simp
theorem sL_take (a : List Nat) (n : Nat) (h : n ≤ a.length) : Txt.slice (sL a) none (some (n : Int)) = sL (a.take n) := by
  have := PyProof.Rows.slice_closes_to (x := sL a) (j := (n : Int)) ⟨by omega, by show (n : Int) ≤ (a.toArray.toList.length : Nat); simp; omega⟩
  rw [eq_of_beq this]
  simp [sL]
theorem natMod (a b : Nat) : Int.fmod (a : Int) (b : Int) = ((a % b : Nat) : Int) := by
  rw [Int.fmod_eq_emod_of_nonneg _ (by omega)]; omega
theorem natDiv (a b : Nat) : Int.fdiv (a : Int) (b : Int) = ((a / b : Nat) : Int) := by
  rw [Int.fdiv_eq_ediv_of_nonneg _ (by omega)]; omega
def fillN (n : Nat) : Nat := (3 - n % 3) % 3
theorem fill_eq (n : Nat) : Int.fmod (-(n : Int)) 3 = (fillN n : Int) := by
  unfold fillN
  rw [Int.fmod_eq_emod_of_nonneg _ (by decide)]
  omega
def six (n : Nat) : Nat → Nat × List Nat
  | 0 => (n, [])
  | k + 1 => ((six n k).1 / 64, letterAt ((six n k).1 % 64) :: (six n k).2)
theorem six_len (n : Nat) : ∀ k, (six n k).2.length = k
  | 0 => rfl
  | k + 1 => by show (six n k).2.length + 1 = _; rw [six_len n k]
def paddedNum (b : Array UInt8) : Nat := bigN (b ++ ([0, 0].take (fillN b.size)).toArray).toList
def sixLen (n : Nat) : Nat := (n + fillN n) / 3 * 4
def sixty (b : Array UInt8) : List Nat := (six (paddedNum b) (sixLen b.size)).2.take (sixLen b.size - fillN b.size) ++ [61, 61].take (fillN b.size)
theorem letterAt_mem (k : Nat) (h : k < 64) : letterAt k ∈ letters := by
  unfold letterAt
  rw [List.getD_eq_getElem?_getD, List.getElem?_eq_getElem (show k < letters.length from h)]
  exact List.getElem_mem _
theorem six_mem (n : Nat) : ∀ k, ∀ c ∈ (six n k).2, c ∈ letters
  | 0, c, h => by cases h
  | k + 1, c, h => by
    rcases List.mem_cons.mp h with rfl | h
    · exact letterAt_mem _ (Nat.mod_lt _ (by decide))
    · exact six_mem n k c h
theorem sixty_mem (b : Array UInt8) : ∀ c ∈ sixty b, c ∈ 61 :: letters := fun c h => by
  unfold sixty at h
  rcases List.mem_append.mp h with h | h
  · exact .tail _ (six_mem _ _ c (List.mem_of_mem_take h))
  · have := List.mem_of_mem_take h
    simp only [List.mem_cons, List.not_mem_nil, or_false, or_self] at this
    subst this; exact .head _
theorem letters_small : ∀ c ∈ 61 :: letters, c < 128 := by decide
theorem sixty_asc (b : Array UInt8) : asc (sL (sixty b)) := fun c h => letters_small c (sixty_mem b c (by simpa [sL] using h))
theorem sixty_len (b : Array UInt8) : (sixty b).length ≤ sixLen b.size := by
  have : fillN b.size ≤ 2 := by unfold fillN; omega
  have h2 : [61, 61].length = 2 := rfl
  unfold sixty
  rw [List.length_append, List.length_take, List.length_take, six_len]
  have : fillN b.size ≤ sixLen b.size ∨ b.size = 0 := by unfold sixLen fillN; omega
  rcases this with h | h
  · omega
  · have : fillN b.size = 0 := by rw [h]; rfl
    omega
theorem range_small (n : Nat) (h : n ≤ 100000) : Builtin.Range.small 0 (n : Int) 1 = true := small_one (by decide) (by decide) (by omega) (by omega)
theorem range_turn (n k : Nat) : decide ((k : Int) < Builtin.Range.rangeSize 0 (n : Int) 1) = decide (k < n) := by
  rw [rangeSize_one]
  by_cases h : (0 : Int) < n
  · rw [if_pos h]
    by_cases q : k < n
    · rw [decide_eq_true q]; exact decide_eq_true (by omega)
    · rw [decide_eq_false q]; exact decide_eq_false (by omega)
  · rw [if_neg h]
    rw [decide_eq_false (show ¬ k < n by omega)]; exact decide_eq_false (by omega)
theorem turn_rng {n k : Nat} (h : k < n) (σ : List AObj) : turnOf σ (.rng 0 (n : Int) 1) k = .item (.int (k : Int)) := by
  have ht := range_turn n k
  rw [decide_eq_true h] at ht
  unfold turnOf
  simp only
  rw [ht]
  simp only
  congr 2
  omega
theorem turn_rngE {n k : Nat} (h : ¬ k < n) (σ : List AObj) : turnOf σ (.rng 0 (n : Int) 1) k = .done := by
  have ht := range_turn n k
  rw [decide_eq_false h] at ht
  unfold turnOf
  simp only
  rw [ht]
theorem letter_eq (i : Nat) : (⟨#[(⟨#[65, 66, 67, 68, 69, 70, 71, 72, 73, 74, 75, 76, 77, 78, 79, 80, 81, 82, 83, 84, 85, 86, 87, 88, 89, 90, 97, 98, 99, 100, 101, 102, 103, 104, 105, 106, 107, 108, 109, 110, 111, 112, 113, 114, 115, 116, 117, 118, 119, 120, 121, 122, 48, 49, 50, 51, 52, 53, 54, 55, 56, 57, 43, 47]⟩ : Str).cps.getD ((i : Int)).toNat 0]⟩ : Str) = sL [letterAt i] := by
  show (⟨#[letters.toArray.getD i 0]⟩ : Str) = ⟨#[letters.getD i 0]⟩
  simp [Array.getD_eq_getD_getElem?]
theorem letter_ok {i : Nat} (h : i < 64) : 0 ≤ (i : Int) ∧ (i : Int) < ((⟨#[65, 66, 67, 68, 69, 70, 71, 72, 73, 74, 75, 76, 77, 78, 79, 80, 81, 82, 83, 84, 85, 86, 87, 88, 89, 90, 97, 98, 99, 100, 101, 102, 103, 104, 105, 106, 107, 108, 109, 110, 111, 112, 113, 114, 115, 116, 117, 118, 119, 120, 121, 122, 48, 49, 50, 51, 52, 53, 54, 55, 56, 57, 43, 47]⟩ : Str).length : Int) ∧ (⟨#[65, 66, 67, 68, 69, 70, 71, 72, 73, 74, 75, 76, 77, 78, 79, 80, 81, 82, 83, 84, 85, 86, 87, 88, 89, 90, 97, 98, 99, 100, 101, 102, 103, 104, 105, 106, 107, 108, 109, 110, 111, 112, 113, 114, 115, 116, 117, 118, 119, 120, 121, 122, 48, 49, 50, 51, 52, 53, 54, 55, 56, 57, 43, 47]⟩ : Str).length ≤ 16777216 := ⟨by omega, Int.ofNat_lt.mpr h, by decide⟩
section
variable {O : Bool → Addr → Sp} {Q : AV → List AObj → Prop} {X : Nat → List AObj → Prop} {σ : List AObj} {b : Array UInt8}
theorem c_sixty (hz : b.size ≤ 1000) (hq : Q (.bytes (ascB (sL (sixty b)))) σ) :
    exs G7 blts O b_law_sixty none ⟨σ, [(126943755527023, .bytes b)]⟩ (RQ Q) (RX X) := by
  have hfill := fill_eq b.size
  have hf3 : fillN b.size ≤ 2 := by unfold fillN; omega
  generalize hF : fillN b.size = F at hfill hf3
  have hcut : cut ([0, 0] : List UInt8) none (some (F : Int)) = [0, 0].take F := cut_take _ _
  have hcs : (([0, 0] : List UInt8).take F).toArray.size ≤ 2 := by simp; omega
  repeat (first | ((conv => whnf); rw [hfill]) | ((conv => whnf); rw [hcut]) | ((conv => whnf); erw [hfill]) | ((conv => whnf); erw [hcut]) | ((conv => whnf); refine ⟨by first | omega | (unfold small; omega) | (dsimp only; omega) | exact rfl | decide | (refine ⟨?_, ?_⟩ <;> first | omega | (unfold small; omega) | (dsimp only; omega) | exact rfl | decide | (simp only [List.size_toArray, Array.size_append, List.length_take, Array.length_toList]; omega)) | (refine ⟨?_, ?_, ?_⟩ <;> first | omega | (unfold small; omega) | (dsimp only; omega) | exact rfl | decide | (simp only [List.size_toArray, Array.size_append, List.length_take, Array.length_toList]; omega)), ?_⟩) | ((conv => whnf); refine ⟨⟨rfl, rfl, rfl, by first | (simp; done) | exact Nat.le_of_ble_eq_true rfl⟩, ?_⟩))
  conv => whnf
  generalize hN : bigN (b ++ (List.take F [0, 0]).toArray).toList = N
  generalize hL : (b.size + F) / 3 * 4 = L
  have e1 : (((b.size : Int) + (F : Int)).fdiv 3 * 4) = ((L : Nat) : Int) := by
    have := natDiv (b.size + F) 3
    rw [← hL, show ((b.size : Int) + (F : Int)) = ((b.size + F : Nat) : Int) by omega]
    erw [this]; omega
  rw [e1]
  refine ⟨range_small _ (by omega), L, fun k st => k ≤ L ∧ ∃ tl, (tl = [] ∨ ∃ v, tl = [(1852994932, v)]) ∧ st = ⟨σ, [(126943755527023, .bytes b), (1819044198, .int F), (125779768604014, .int (six N k).1), (495773510003, .str (sL (six N k).2))] ++ tl⟩, ⟨by omega, [], .inl rfl, rfl⟩, ?_⟩
  rintro k st ⟨hk, tl, htl, rfl⟩
  refine ⟨hk, ?_⟩
  by_cases hkn : k < L
  · have ht := turn_rng hkn
    have hm : Int.fmod ((six N k).1 : Int) 64 = (((six N k).1 % 64 : Nat) : Int) := natMod _ 64
    have hd : Int.fdiv ((six N k).1 : Int) 64 = (((six N k).1 / 64 : Nat) : Int) := natDiv _ 64
    have hm64 : (six N k).1 % 64 < 64 := Nat.mod_lt _ (by decide)
    have hl : (sL (six N k).2).length ≤ 1336 := by rw [sL_len, six_len]; have : L ≤ 1336 := (by omega); omega
    have hlen : ∀ x, (sL [x]).length + (sL (six N k).2).length ≤ 16777216 := fun x => by rw [sL_len]; have : [x].length = 1 := rfl; omega
    have happ : ∀ x, sL [x] ++ sL (six N k).2 = sL (x :: (six N k).2) := fun x => by rw [sL_append]; rfl
    rcases htl with rfl | ⟨v, rfl⟩
    · repeat (first | ((conv => whnf); rw [ht]) | ((conv => whnf); rw [hm]) | ((conv => whnf); rw [hd]) | ((conv => whnf); erw [ht]) | ((conv => whnf); erw [hm]) | ((conv => whnf); erw [hd]) | ((conv => whnf); refine ⟨letter_ok hm64, ?_⟩) | ((conv => whnf); rw [letter_eq]) | ((conv => whnf); refine ⟨hlen _, ?_⟩) | ((conv => whnf); rw [happ]) | ((conv => whnf); refine ⟨by first | omega | (unfold small; omega) | (dsimp only; omega) | exact rfl | decide | (refine ⟨?_, ?_⟩ <;> first | omega | (unfold small; omega) | (dsimp only; omega) | exact rfl | decide | (simp only [List.size_toArray, Array.size_append, List.length_take, Array.length_toList]; omega)) | (refine ⟨?_, ?_, ?_⟩ <;> first | omega | (unfold small; omega) | (dsimp only; omega) | exact rfl | decide | (simp only [List.size_toArray, Array.size_append, List.length_take, Array.length_toList]; omega)), ?_⟩) | ((conv => whnf); refine ⟨⟨rfl, rfl, rfl, by first | (simp; done) | exact Nat.le_of_ble_eq_true rfl⟩, ?_⟩))
      exact ⟨[(1852994932, _)], .inr ⟨_, rfl⟩, rfl⟩
    · repeat (first | ((conv => whnf); rw [ht]) | ((conv => whnf); rw [hm]) | ((conv => whnf); rw [hd]) | ((conv => whnf); erw [ht]) | ((conv => whnf); erw [hm]) | ((conv => whnf); erw [hd]) | ((conv => whnf); refine ⟨letter_ok hm64, ?_⟩) | ((conv => whnf); rw [letter_eq]) | ((conv => whnf); refine ⟨hlen _, ?_⟩) | ((conv => whnf); rw [happ]) | ((conv => whnf); refine ⟨by first | omega | (unfold small; omega) | (dsimp only; omega) | exact rfl | decide | (refine ⟨?_, ?_⟩ <;> first | omega | (unfold small; omega) | (dsimp only; omega) | exact rfl | decide | (simp only [List.size_toArray, Array.size_append, List.length_take, Array.length_toList]; omega)) | (refine ⟨?_, ?_, ?_⟩ <;> first | omega | (unfold small; omega) | (dsimp only; omega) | exact rfl | decide | (simp only [List.size_toArray, Array.size_append, List.length_take, Array.length_toList]; omega)), ?_⟩) | ((conv => whnf); refine ⟨⟨rfl, rfl, rfl, by first | (simp; done) | exact Nat.le_of_ble_eq_true rfl⟩, ?_⟩))
      exact ⟨[(1852994932, _)], .inr ⟨_, rfl⟩, rfl⟩
  · have hkL : k = L := by omega
    subst hkL
    have ht := turn_rngE hkn
    have hlen : (sL (six N k).2).length = k := by rw [sL_len, six_len]
    have hk3 : F ≤ k ∨ k = 0 := by omega
    have hFk : F ≤ k := by
      rcases hk3 with h | h
      · exact h
      · have : fillN b.size = F := hF
        unfold fillN at this
        omega
    have hsub : ((k : Int) - (F : Int)) = ((k - F : Nat) : Int) := by omega
    have hs1 := sL_take (six N k).2 (k - F) (by rw [six_len]; omega)
    have hs2 : Txt.slice ⟨#[61, 61]⟩ none (some (F : Int)) = sL ([61, 61].take F) := sL_take [61, 61] F hf3
    have hsx : sL ((six N k).2.take (k - F)) ++ sL ([61, 61].take F) = sL (sixty b) := by
      rw [sL_append]
      unfold sixty paddedNum sixLen
      rw [hF, hN, hL]
    have hl1 : (sL ((six N k).2.take (k - F))).length + (sL ([61, 61].take F)).length ≤ 16777216 := by
      rw [sL_len, sL_len, List.length_take, List.length_take, six_len]
      have : [61, 61].length = 2 := rfl
      omega
    have hkb : k ≤ 1336 := by omega
    have hal : (sL (sixty b)).length ≤ 1000000 := by rw [sL_len]; have := sixty_len b; unfold sixLen at this; rw [hF] at this; omega
    have hasc := sixty_asc b
    rcases htl with rfl | ⟨v, rfl⟩
    · repeat (first | ((conv => whnf); rw [ht]) | ((conv => whnf); rw [hlen]) | ((conv => whnf); rw [hsub]) | ((conv => whnf); rw [hs1]) | ((conv => whnf); rw [hs2]) | ((conv => whnf); rw [hsx]) | ((conv => whnf); erw [ht]) | ((conv => whnf); erw [hlen]) | ((conv => whnf); erw [hsub]) | ((conv => whnf); erw [hs1]) | ((conv => whnf); erw [hs2]) | ((conv => whnf); erw [hsx]) | ((conv => whnf); refine ⟨hl1, ?_⟩) | ((conv => whnf); refine ⟨⟨.inl (by decide), hasc, hal⟩, ?_⟩) | ((conv => whnf); refine ⟨by first | omega | (unfold small; omega) | (dsimp only; omega) | exact rfl | decide | (refine ⟨?_, ?_⟩ <;> first | omega | (unfold small; omega) | (dsimp only; omega) | exact rfl | decide | (simp only [List.size_toArray, Array.size_append, List.length_take, Array.length_toList]; omega)) | (refine ⟨?_, ?_, ?_⟩ <;> first | omega | (unfold small; omega) | (dsimp only; omega) | exact rfl | decide | (simp only [List.size_toArray, Array.size_append, List.length_take, Array.length_toList]; omega)), ?_⟩) | ((conv => whnf); refine ⟨⟨rfl, rfl, rfl, by first | (simp; done) | exact Nat.le_of_ble_eq_true rfl⟩, ?_⟩))
      exact hq
    · repeat (first | ((conv => whnf); rw [ht]) | ((conv => whnf); rw [hlen]) | ((conv => whnf); rw [hsub]) | ((conv => whnf); rw [hs1]) | ((conv => whnf); rw [hs2]) | ((conv => whnf); rw [hsx]) | ((conv => whnf); erw [ht]) | ((conv => whnf); erw [hlen]) | ((conv => whnf); erw [hsub]) | ((conv => whnf); erw [hs1]) | ((conv => whnf); erw [hs2]) | ((conv => whnf); erw [hsx]) | ((conv => whnf); refine ⟨hl1, ?_⟩) | ((conv => whnf); refine ⟨⟨.inl (by decide), hasc, hal⟩, ?_⟩) | ((conv => whnf); refine ⟨by first | omega | (unfold small; omega) | (dsimp only; omega) | exact rfl | decide | (refine ⟨?_, ?_⟩ <;> first | omega | (unfold small; omega) | (dsimp only; omega) | exact rfl | decide | (simp only [List.size_toArray, Array.size_append, List.length_take, Array.length_toList]; omega)) | (refine ⟨?_, ?_, ?_⟩ <;> first | omega | (unfold small; omega) | (dsimp only; omega) | exact rfl | decide | (simp only [List.size_toArray, Array.size_append, List.length_take, Array.length_toList]; omega)), ?_⟩) | ((conv => whnf); refine ⟨⟨rfl, rfl, rfl, by first | (simp; done) | exact Nat.le_of_ble_eq_true rfl⟩, ?_⟩))
      exact hq
end
end Sm
end
section
set_option maxRecDepth 100000
set_option linter.unusedVariables false
set_option linter.unusedSimpArgs false
set_option maxHeartbeats 2000000
namespace Sm
open PySem
theorem bigN_snoc (l : List UInt8) (x : UInt8) : bigN (l ++ [x]) = bigN l * 256 + x.toNat := by unfold bigN; rw [List.foldl_append]; rfl
theorem bigN_from (l : List UInt8) : ∀ acc : Nat, l.foldl (fun (acc : Nat) (b : UInt8) => acc * 256 + b.toNat) acc < (acc + 1) * 256 ^ l.length := by
  induction l with
  | nil => intro acc; simp
  | cons x l ih =>
    intro acc
    have := ih (acc * 256 + x.toNat)
    have hx := x.toNat_lt
    show List.foldl _ (acc * 256 + x.toNat) l < (acc + 1) * 256 ^ (l.length + 1)
    rw [Nat.pow_succ]
    have h2 : (acc * 256 + x.toNat + 1) * 256 ^ l.length ≤ (acc + 1) * 256 * 256 ^ l.length := Nat.mul_le_mul_right _ (by omega)
    have h3 : (acc + 1) * (256 ^ l.length * 256) = (acc + 1) * 256 * 256 ^ l.length := by rw [Nat.mul_comm (256 ^ l.length), Nat.mul_assoc]
    omega
theorem bigN_lt (l : List UInt8) : bigN l < 256 ^ l.length := by
  have := bigN_from l 0
  rwa [Nat.zero_add, Nat.one_mul] at this
theorem size_step (n s : Nat) (hs : 0 < s) : Builtin.Range.rangeSize 0 (n : Int) (s : Int) = (((n + (s - 1)) / s : Nat) : Int) := by
  unfold Builtin.Range.rangeSize
  rw [if_pos (by omega)]
  split
  · have h1 : (n : Int) - 0 - 1 = ((n - 1 : Nat) : Int) := by omega
    rw [h1, ← Int.natCast_ediv]
    have : (n + (s - 1)) / s = (n - 1) / s + 1 := by
      rw [show n + (s - 1) = n - 1 + s by omega, Nat.add_div_right _ hs]
    rw [this]; rfl
  · have : n = 0 := by omega
    subst this
    rw [Nat.div_eq_of_lt (by omega)]; rfl
theorem small_step (n s : Nat) (hs : 0 < s) (h : n ≤ 100000) (h2 : s ≤ 100000) : Builtin.Range.small 0 (n : Int) (s : Int) = true := by
  unfold Builtin.Range.small
  rw [size_step n s hs]
  have : (n + (s - 1)) / s ≤ n + (s - 1) := Nat.div_le_self _ _
  simp only [Builtin.Range.rangeFitsLong, Bool.and_eq_true, Bool.or_eq_true, decide_eq_true_eq, beq_iff_eq]
  generalize (n + (s - 1)) / s = q at this
  rw [if_pos (by omega)]
  simp only [Bool.and_eq_true, decide_eq_true_eq]
  omega
theorem turn_step {n s k : Nat} (hs : 0 < s) (h : k < (n + (s - 1)) / s) (σ : List AObj) : turnOf σ (.rng 0 (n : Int) (s : Int)) k = .item (.int ((s * k : Nat) : Int)) := by
  unfold turnOf
  simp only
  rw [size_step n s hs, decide_eq_true (by omega)]
  simp only
  congr 2
  rw [Int.mul_comm, Int.natCast_mul]; omega
theorem turn_stepE {n s k : Nat} (hs : 0 < s) (h : ¬ k < (n + (s - 1)) / s) (σ : List AObj) : turnOf σ (.rng 0 (n : Int) (s : Int)) k = .done := by
  unfold turnOf
  simp only
  rw [size_step n s hs, decide_eq_false (by omega)]
def encPart (l : List UInt8) : List Nat :=
  let n := bigN l * 2 ^ (8 * (3 - l.length))
  [letterAt (n / 262144), letterAt (n / 4096 % 64), letterAt (n / 64 % 64), letterAt (n % 64)].take (l.length + 1) ++ List.replicate (3 - l.length) 61
def encUpto (b : List UInt8) : Nat → List Nat
  | 0 => []
  | k + 1 => encUpto b k ++ encPart ((b.drop (3 * k)).take 3)
def enc64 (b : Array UInt8) : List Nat := encUpto b.toList ((b.size + 2) / 3)
theorem letterAt_128 (k : Nat) (h : k < 64) : letterAt k < 128 := letters_small _ (.tail _ (letterAt_mem k h))
theorem encPart_asc {l : List UInt8} (h : l.length ≤ 3) : ∀ c ∈ encPart l, c < 128 := by
  have hn := bigN_lt l
  have hn2 : bigN l * 2 ^ (8 * (3 - l.length)) < 16777216 := by
    have e : (16777216 : Nat) = 256 ^ l.length * 2 ^ (8 * (3 - l.length)) := by
      have : l.length = 0 ∨ l.length = 1 ∨ l.length = 2 ∨ l.length = 3 := by omega
      rcases this with h | h | h | h <;> rw [h] <;> decide
    rw [e]
    exact Nat.mul_lt_mul_of_pos_right hn (Nat.two_pow_pos _)
  intro c hc
  unfold encPart at hc
  rcases List.mem_append.mp hc with hc | hc
  · have := List.mem_of_mem_take hc
    simp only [List.mem_cons, List.not_mem_nil, or_false] at this
    rcases this with rfl | rfl | rfl | rfl <;> exact letterAt_128 _ (by omega)
  · rw [(List.mem_replicate.mp hc).2]; decide
theorem encPart_len {l : List UInt8} (h : l.length ≤ 3) : (encPart l).length = 4 := by
  unfold encPart
  rw [List.length_append, List.length_take, List.length_replicate]
  simp only [List.length_cons, List.length_nil]
  omega
theorem encUpto_asc (b : List UInt8) : ∀ k, ∀ c ∈ encUpto b k, c < 128
  | 0, c, h => by cases h
  | k + 1, c, h => by
    rcases List.mem_append.mp h with h | h
    · exact encUpto_asc b k c h
    · exact encPart_asc (by rw [List.length_take]; omega) c h
theorem encUpto_len (b : List UInt8) : ∀ k, (encUpto b k).length = 4 * k
  | 0 => rfl
  | k + 1 => by
    show (encUpto b k ++ _).length = _
    rw [List.length_append, encUpto_len b k, encPart_len (by rw [List.length_take]; omega)]; omega
section
variable {O : Bool → Addr → Sp} {Q : AV → List AObj → Prop} {X : Nat → List AObj → Prop} {σ : List AObj} {b : Array UInt8}
theorem c_b64encode (hz : b.size ≤ 1000) (hq : Q (.bytes (ascB (sL (enc64 b)))) σ) :
    exs G7 blts O b_b64encode none ⟨σ, [(126943755527023, .bytes b)]⟩ (RQ Q) (RX X) := by
  repeat (first | ((conv => whnf); change iterOk _ _ ∧ _; refine ⟨small_step b.size 3 (by decide) (by omega) (by decide), ?_⟩) | ((conv => whnf); refine ⟨by first | omega | (unfold small; omega) | (dsimp only; omega) | exact rfl | decide | (refine ⟨?_, ?_⟩ <;> first | omega | (unfold small; omega) | (dsimp only; omega) | exact rfl | decide | (simp only [List.size_toArray, Array.size_append, List.length_take, Array.length_toList]; omega)) | (refine ⟨?_, ?_, ?_⟩ <;> first | omega | (unfold small; omega) | (dsimp only; omega) | exact rfl | decide | (simp only [List.size_toArray, Array.size_append, List.length_take, Array.length_toList]; omega)), ?_⟩) | ((conv => whnf); refine ⟨⟨rfl, rfl, rfl, by first | (simp; done) | exact Nat.le_of_ble_eq_true rfl⟩, ?_⟩))
  conv => whnf
  refine ⟨1000, fun k st => k ≤ (b.size + 2) / 3 ∧ ∃ tl, (tl = [] ∨ ∃ v1 v2 v3 v4, tl = [(107, v1), (1953653104, v2), (110, v3), (7827314, v4)]) ∧ st = ⟨σ, [(126943755527023, .bytes b), (7632239, .str (sL (encUpto b.toList k)))] ++ tl⟩, ⟨by omega, [], .inl rfl, rfl⟩, ?_⟩
  rintro k st ⟨hk, tl, htl, rfl⟩
  refine ⟨by omega, ?_⟩
  by_cases hkn : k < (b.size + 2) / 3
  · have ht := turn_step (by decide : 0 < 3) hkn
    have e1 : (((3 * k : Nat) : Int) + 3) = ((3 * k + 3 : Nat) : Int) := by omega
    have hcut := cut_mid b.toList (3 * k) (3 * k + 3)
    rw [show 3 * k + 3 - 3 * k = 3 by omega] at hcut
    have hP : (((b.toList.drop (3 * k)).take 3).toArray).size = ((b.toList.drop (3 * k)).take 3).length := List.size_toArray ..
    have hm3 : ((b.toList.drop (3 * k)).take 3).length ≤ 3 := by rw [List.length_take]; omega
    have hnext : encUpto b.toList (k + 1) = encUpto b.toList k ++ encPart ((b.toList.drop (3 * k)).take 3) := rfl
    have hle := encUpto_len b.toList k
    generalize encUpto b.toList k = E at hnext hle
    generalize (b.toList.drop (3 * k)).take 3 = P at hcut hP hm3 hnext
    have hPl : P.toArray.toList = P := rfl
    have hpe := encPart_len hm3
    unfold encPart at hnext hpe
    simp only at hnext hpe
    have hn := bigN_lt P
    generalize hm : P.length = m at hP hm3 hnext hn hpe
    have e2 : ((3 : Int) - (m : Int)) = ((3 - m : Nat) : Int) := by omega
    have e3 : ((8 : Int) * ((3 - m : Nat) : Int)) = ((8 * (3 - m) : Nat) : Int) := by omega
    have e4 : ((bigN P : Int) * 2 ^ (((8 * (3 - m) : Nat) : Int)).toNat) = ((bigN P * 2 ^ (8 * (3 - m)) : Nat) : Int) := by
      rw [show (((8 * (3 - m) : Nat) : Int)).toNat = 8 * (3 - m) from rfl, Int.natCast_mul, Int.natCast_pow]; rfl
    have hn2 : bigN P * 2 ^ (8 * (3 - m)) < 16777216 := by
      have e : (16777216 : Nat) = 256 ^ m * 2 ^ (8 * (3 - m)) := by
        have : m = 0 ∨ m = 1 ∨ m = 2 ∨ m = 3 := by omega
        rcases this with h | h | h | h <;> rw [h] <;> decide
      rw [e]
      exact Nat.mul_lt_mul_of_pos_right hn (Nat.two_pow_pos _)
    have hn3 : bigN P < 16777216 := by
      have := Nat.two_pow_pos (8 * (3 - m))
      have := Nat.le_mul_of_pos_right (bigN P) this
      omega
    have hsh : (0 ≤ ((8 * (3 - m) : Nat) : Int) ∧ ((8 * (3 - m) : Nat) : Int) ≤ 1000 ∧ small (bigN P : Int)) := ⟨by omega, by omega, by unfold small; omega⟩
    generalize bigN P * 2 ^ (8 * (3 - m)) = n at *
    have d1 : Int.fdiv (n : Int) 262144 = ((n / 262144 : Nat) : Int) := natDiv _ _
    have d2 : Int.fdiv (n : Int) 4096 = ((n / 4096 : Nat) : Int) := natDiv _ _
    have d3 : Int.fmod ((n / 4096 : Nat) : Int) 64 = ((n / 4096 % 64 : Nat) : Int) := natMod _ _
    have d4 : Int.fdiv (n : Int) 64 = ((n / 64 : Nat) : Int) := natDiv _ _
    have d5 : Int.fmod ((n / 64 : Nat) : Int) 64 = ((n / 64 % 64 : Nat) : Int) := natMod _ _
    have d6 : Int.fmod (n : Int) 64 = ((n % 64 : Nat) : Int) := natMod _ _
    have l1 : n / 262144 < 64 := by omega
    have l2 : n / 4096 % 64 < 64 := by omega
    have l3 : n / 64 % 64 < 64 := by omega
    have l4 : n % 64 < 64 := by omega
    have e5 : ((m : Int) + 1) = ((m + 1 : Nat) : Int) := by omega
    have hs := sL_take [letterAt (n / 262144), letterAt (n / 4096 % 64), letterAt (n / 64 % 64), letterAt (n % 64)] (m + 1) (by simp only [List.length_cons, List.length_nil]; omega)
    have hmul : Txt.mul ⟨#[61]⟩ ((3 - m : Nat) : Int) = sL (List.replicate (3 - m) 61) := by
      have : m = 0 ∨ m = 1 ∨ m = 2 ∨ m = 3 := by omega
      rcases this with h | h | h | h <;> rw [h] <;> decide
    have hrow : [letterAt (n / 262144)] ++ [letterAt (n / 4096 % 64)] ++ [letterAt (n / 64 % 64)] ++ [letterAt (n % 64)] = [letterAt (n / 262144), letterAt (n / 4096 % 64), letterAt (n / 64 % 64), letterAt (n % 64)] := rfl
    rcases htl with rfl | ⟨v1, v2, v3, v4, rfl⟩
    · repeat (first | ((conv => whnf); rw [ht]) | ((conv => whnf); rw [e1]) | ((conv => whnf); rw [hcut]) | ((conv => whnf); rw [hP]) | ((conv => whnf); rw [hPl]) | ((conv => whnf); rw [hm]) | ((conv => whnf); rw [e2]) | ((conv => whnf); rw [e3]) | ((conv => whnf); rw [e4]) | ((conv => whnf); rw [d1]) | ((conv => whnf); rw [d2]) | ((conv => whnf); rw [d3]) | ((conv => whnf); rw [d4]) | ((conv => whnf); rw [d5]) | ((conv => whnf); rw [d6]) | ((conv => whnf); rw [e5]) | ((conv => whnf); rw [hrow]) | ((conv => whnf); rw [hs]) | ((conv => whnf); rw [hmul]) | ((conv => whnf); erw [ht]) | ((conv => whnf); erw [e1]) | ((conv => whnf); erw [hcut]) | ((conv => whnf); erw [hP]) | ((conv => whnf); erw [hPl]) | ((conv => whnf); erw [hm]) | ((conv => whnf); erw [e2]) | ((conv => whnf); erw [e3]) | ((conv => whnf); erw [e4]) | ((conv => whnf); erw [d1]) | ((conv => whnf); erw [d2]) | ((conv => whnf); erw [d3]) | ((conv => whnf); erw [d4]) | ((conv => whnf); erw [d5]) | ((conv => whnf); erw [d6]) | ((conv => whnf); erw [e5]) | ((conv => whnf); erw [hrow]) | ((conv => whnf); erw [hs]) | ((conv => whnf); erw [hmul]) | ((conv => whnf); refine ⟨hsh, ?_⟩) | ((conv => whnf); refine ⟨letter_ok l1, ?_⟩) | ((conv => whnf); refine ⟨letter_ok l2, ?_⟩) | ((conv => whnf); refine ⟨letter_ok l3, ?_⟩) | ((conv => whnf); refine ⟨letter_ok l4, ?_⟩) | ((conv => whnf); rw [letter_eq]) | ((conv => whnf); refine ⟨by rw [sL_len, sL_len]; simp only [List.length_cons, List.length_append, List.length_take, List.length_nil, List.length_replicate]; omega, ?_⟩) | ((conv => whnf); refine ⟨by rw [sL_len]; simp only [List.length_cons, List.length_append, List.length_take, List.length_nil, List.length_replicate]; omega, ?_⟩) | ((conv => whnf); rw [sL_append]) | ((conv => whnf); refine ⟨by first | omega | (unfold small; omega) | (dsimp only; omega) | exact rfl | decide | (refine ⟨?_, ?_⟩ <;> first | omega | (unfold small; omega) | (dsimp only; omega) | exact rfl | decide | (simp only [List.size_toArray, Array.size_append, List.length_take, Array.length_toList]; omega)) | (refine ⟨?_, ?_, ?_⟩ <;> first | omega | (unfold small; omega) | (dsimp only; omega) | exact rfl | decide | (simp only [List.size_toArray, Array.size_append, List.length_take, Array.length_toList]; omega)), ?_⟩) | ((conv => whnf); refine ⟨⟨rfl, rfl, rfl, by first | (simp; done) | exact Nat.le_of_ble_eq_true rfl⟩, ?_⟩))
      exact ⟨_, .inr ⟨_, _, _, _, rfl⟩, by rw [hnext, ← List.append_assoc]; rfl⟩
    · repeat (first | ((conv => whnf); rw [ht]) | ((conv => whnf); rw [e1]) | ((conv => whnf); rw [hcut]) | ((conv => whnf); rw [hP]) | ((conv => whnf); rw [hPl]) | ((conv => whnf); rw [hm]) | ((conv => whnf); rw [e2]) | ((conv => whnf); rw [e3]) | ((conv => whnf); rw [e4]) | ((conv => whnf); rw [d1]) | ((conv => whnf); rw [d2]) | ((conv => whnf); rw [d3]) | ((conv => whnf); rw [d4]) | ((conv => whnf); rw [d5]) | ((conv => whnf); rw [d6]) | ((conv => whnf); rw [e5]) | ((conv => whnf); rw [hrow]) | ((conv => whnf); rw [hs]) | ((conv => whnf); rw [hmul]) | ((conv => whnf); erw [ht]) | ((conv => whnf); erw [e1]) | ((conv => whnf); erw [hcut]) | ((conv => whnf); erw [hP]) | ((conv => whnf); erw [hPl]) | ((conv => whnf); erw [hm]) | ((conv => whnf); erw [e2]) | ((conv => whnf); erw [e3]) | ((conv => whnf); erw [e4]) | ((conv => whnf); erw [d1]) | ((conv => whnf); erw [d2]) | ((conv => whnf); erw [d3]) | ((conv => whnf); erw [d4]) | ((conv => whnf); erw [d5]) | ((conv => whnf); erw [d6]) | ((conv => whnf); erw [e5]) | ((conv => whnf); erw [hrow]) | ((conv => whnf); erw [hs]) | ((conv => whnf); erw [hmul]) | ((conv => whnf); refine ⟨hsh, ?_⟩) | ((conv => whnf); refine ⟨letter_ok l1, ?_⟩) | ((conv => whnf); refine ⟨letter_ok l2, ?_⟩) | ((conv => whnf); refine ⟨letter_ok l3, ?_⟩) | ((conv => whnf); refine ⟨letter_ok l4, ?_⟩) | ((conv => whnf); rw [letter_eq]) | ((conv => whnf); refine ⟨by rw [sL_len, sL_len]; simp only [List.length_cons, List.length_append, List.length_take, List.length_nil, List.length_replicate]; omega, ?_⟩) | ((conv => whnf); refine ⟨by rw [sL_len]; simp only [List.length_cons, List.length_append, List.length_take, List.length_nil, List.length_replicate]; omega, ?_⟩) | ((conv => whnf); rw [sL_append]) | ((conv => whnf); refine ⟨by first | omega | (unfold small; omega) | (dsimp only; omega) | exact rfl | decide | (refine ⟨?_, ?_⟩ <;> first | omega | (unfold small; omega) | (dsimp only; omega) | exact rfl | decide | (simp only [List.size_toArray, Array.size_append, List.length_take, Array.length_toList]; omega)) | (refine ⟨?_, ?_, ?_⟩ <;> first | omega | (unfold small; omega) | (dsimp only; omega) | exact rfl | decide | (simp only [List.size_toArray, Array.size_append, List.length_take, Array.length_toList]; omega)), ?_⟩) | ((conv => whnf); refine ⟨⟨rfl, rfl, rfl, by first | (simp; done) | exact Nat.le_of_ble_eq_true rfl⟩, ?_⟩))
      exact ⟨_, .inr ⟨_, _, _, _, rfl⟩, by rw [hnext, ← List.append_assoc]; rfl⟩
  · have ht := turn_stepE (by decide : 0 < 3) hkn
    have hk2 : k = (b.size + 2) / 3 := by omega
    have hasc : asc (sL (encUpto b.toList k)) := fun c h => encUpto_asc b.toList k c (by simpa [sL] using h)
    have hlen : (sL (encUpto b.toList k)).length ≤ 1000000 := by rw [sL_len, encUpto_len]; omega
    have hq' : Q (.bytes (ascB (sL (encUpto b.toList k)))) σ := by rw [hk2]; exact hq
    rcases htl with rfl | ⟨v1, v2, v3, v4, rfl⟩
    · repeat (first | ((conv => whnf); rw [ht]) | ((conv => whnf); erw [ht]) | ((conv => whnf); refine ⟨⟨.inl (by decide), hasc, hlen⟩, ?_⟩) | ((conv => whnf); refine ⟨by first | omega | (unfold small; omega) | (dsimp only; omega) | exact rfl | decide | (refine ⟨?_, ?_⟩ <;> first | omega | (unfold small; omega) | (dsimp only; omega) | exact rfl | decide | (simp only [List.size_toArray, Array.size_append, List.length_take, Array.length_toList]; omega)) | (refine ⟨?_, ?_, ?_⟩ <;> first | omega | (unfold small; omega) | (dsimp only; omega) | exact rfl | decide | (simp only [List.size_toArray, Array.size_append, List.length_take, Array.length_toList]; omega)), ?_⟩) | ((conv => whnf); refine ⟨⟨rfl, rfl, rfl, by first | (simp; done) | exact Nat.le_of_ble_eq_true rfl⟩, ?_⟩))
      exact hq'
    · repeat (first | ((conv => whnf); rw [ht]) | ((conv => whnf); erw [ht]) | ((conv => whnf); refine ⟨⟨.inl (by decide), hasc, hlen⟩, ?_⟩) | ((conv => whnf); refine ⟨by first | omega | (unfold small; omega) | (dsimp only; omega) | exact rfl | decide | (refine ⟨?_, ?_⟩ <;> first | omega | (unfold small; omega) | (dsimp only; omega) | exact rfl | decide | (simp only [List.size_toArray, Array.size_append, List.length_take, Array.length_toList]; omega)) | (refine ⟨?_, ?_, ?_⟩ <;> first | omega | (unfold small; omega) | (dsimp only; omega) | exact rfl | decide | (simp only [List.size_toArray, Array.size_append, List.length_take, Array.length_toList]; omega)), ?_⟩) | ((conv => whnf); refine ⟨⟨rfl, rfl, rfl, by first | (simp; done) | exact Nat.le_of_ble_eq_true rfl⟩, ?_⟩))
      exact hq'
end
theorem enc_asked : ∀ b ∈ [(#[85, 115, 101, 114, 32, 78, 97, 109, 101, 0] : Array UInt8), #[0, 255, 32, 114, 97, 119], #[], #[60, 49, 50, 46, 51, 52, 64, 109, 120, 49, 46, 101, 120, 97, 109, 112, 108, 101, 62]], enc64 b = sixty b := by decide +kernel
end Sm
end
section
set_option maxRecDepth 100000
set_option linter.unusedVariables false
set_option linter.unusedSimpArgs false
set_option maxHeartbeats 2000000
namespace Sm
open PySem
def placeN (x : UInt8) : Option Nat := letters.findIdx? (· == x.toNat)
def placeI (x : UInt8) : Int := match placeN x with | some p => (p : Int) | none => -1
theorem find_all : ∀ n : Fin 256, Txt.find ⟨#[65, 66, 67, 68, 69, 70, 71, 72, 73, 74, 75, 76, 77, 78, 79, 80, 81, 82, 83, 84, 85, 86, 87, 88, 89, 90, 97, 98, 99, 100, 101, 102, 103, 104, 105, 106, 107, 108, 109, 110, 111, 112, 113, 114, 115, 116, 117, 118, 119, 120, 121, 122, 48, 49, 50, 51, 52, 53, 54, 55, 56, 57, 43, 47]⟩ ⟨#[n.val]⟩ = placeI n.val.toUInt8 ∧ (placeI n.val.toUInt8 < 64) ∧ (placeI n.val.toUInt8 < 0 → placeI n.val.toUInt8 = -1) := by decide +kernel
theorem find_letter (x : UInt8) : Txt.find ⟨#[65, 66, 67, 68, 69, 70, 71, 72, 73, 74, 75, 76, 77, 78, 79, 80, 81, 82, 83, 84, 85, 86, 87, 88, 89, 90, 97, 98, 99, 100, 101, 102, 103, 104, 105, 106, 107, 108, 109, 110, 111, 112, 113, 114, 115, 116, 117, 118, 119, 120, 121, 122, 48, 49, 50, 51, 52, 53, 54, 55, 56, 57, 43, 47]⟩ ⟨#[((x.toNat : Nat) : Int).toNat]⟩ = placeI x := by
  have := (find_all ⟨x.toNat, x.toNat_lt⟩).1
  simpa using this
theorem placeI_lt (x : UInt8) : placeI x < 64 := by
  have := (find_all ⟨x.toNat, x.toNat_lt⟩).2.1
  simpa using this
def pv (x : UInt8) : Nat := (placeI x).toNat
theorem pv_lt (x : UInt8) : pv x < 64 := by have := placeI_lt x; unfold pv; omega
def num (l : List UInt8) : Nat := l.foldl (fun n x => n * 64 + pv x) 0
theorem num_snoc (l : List UInt8) (x : UInt8) : num (l ++ [x]) = num l * 64 + pv x := by unfold num; rw [List.foldl_append]; rfl
theorem num_from (l : List UInt8) : ∀ acc : Nat, l.foldl (fun n x => n * 64 + pv x) acc < (acc + 1) * 64 ^ l.length := by
  induction l with
  | nil => intro acc; simp
  | cons x l ih =>
    intro acc
    have := ih (acc * 64 + pv x)
    have hx := pv_lt x
    show List.foldl _ (acc * 64 + pv x) l < (acc + 1) * 64 ^ (l.length + 1)
    rw [Nat.pow_succ]
    have h2 : (acc * 64 + pv x + 1) * 64 ^ l.length ≤ (acc + 1) * 64 * 64 ^ l.length := Nat.mul_le_mul_right _ (by omega)
    have h3 : (acc + 1) * (64 ^ l.length * 64) = (acc + 1) * 64 * 64 ^ l.length := by rw [Nat.mul_comm (64 ^ l.length), Nat.mul_assoc]
    omega
theorem num_lt (l : List UInt8) : num l < 64 ^ l.length := by
  have := num_from l 0
  rwa [Nat.zero_add, Nat.one_mul] at this
theorem take_succ_snoc {α : Type} (l : List α) (k : Nat) (x : α) (h : l[k]? = some x) : l.take (k + 1) = l.take k ++ [x] := by
  rw [List.take_add_one, h]; rfl
def body2 (w : List UInt8) : List UInt8 := match w.reverse with
  | 61 :: 61 :: r => r.reverse
  | 61 :: r => r.reverse
  | _ => w
def sound (w : List UInt8) : Prop := (∀ x ∈ body2 w, 0 ≤ placeI x) ∧ w.length % 4 = 0
def told (w : List UInt8) : List UInt8 := octs ((body2 w).length * 6 / 8) ((num (body2 w) / 2 ^ ((body2 w).length * 6 % 8) : Nat) : Int)
theorem cut_last (l : List UInt8) : cut l (some (-1)) none = (l.reverse.take 1).reverse := by
  unfold cut
  simp only [Option.elim]
  have h : clipAt l.length (-1) = l.length - 1 := by
    have := clipAt_cast l.length (-1)
    rw [if_pos (by decide)] at this
    omega
  rw [h, List.take_reverse, List.reverse_reverse, List.take_of_length_le (by rw [List.length_drop]; omega)]
theorem cut_but (l : List UInt8) : cut l none (some (-1)) = (l.reverse.drop 1).reverse := by
  unfold cut
  simp only [Option.elim]
  have h : clipAt l.length (-1) = l.length - 1 := by
    have := clipAt_cast l.length (-1)
    rw [if_pos (by decide)] at this
    omega
  rw [h, List.drop_zero, Nat.sub_zero, List.drop_reverse, List.reverse_reverse]
theorem turn_bytes {b : Array UInt8} {k : Nat} {x : UInt8} (h : b[k]? = some x) (σ : List AObj) : turnOf σ (.bytes b) k = .item (.int x.toNat) := by unfold turnOf; simp only; rw [h]
theorem turn_bytesE {b : Array UInt8} {k : Nat} (h : b[k]? = none) (σ : List AObj) : turnOf σ (.bytes b) k = .done := by unfold turnOf; simp only; rw [h]
theorem turn_list {σ : List AObj} {i k : Nat} {xs : List AV} {v : AV} (hi : σ[i]? = some (.list xs)) (h : xs[k]? = some v) : turnOf σ (.ref i) k = .item v := by unfold turnOf; simp only; rw [hi]; simp only; rw [h]
theorem turn_listE {σ : List AObj} {i k : Nat} {xs : List AV} (hi : σ[i]? = some (.list xs)) (h : xs[k]? = none) : turnOf σ (.ref i) k = .done := by unfold turnOf; simp only; rw [hi]; simp only; rw [h]
def Sxs.dropS : Nat → Sxs → Sxs
  | 0, s => s
  | n + 1, .cons _ r => r.dropS n
  | _, .nil => .nil
section
variable {O : Bool → Addr → Sp} {Q : AV → List AObj → Prop} {X : Nat → List AObj → Prop} {σ : List AObj}
theorem read_rest {w b : List UInt8} (hz : w.length ≤ 1000) (hb : b = body2 w) (hl : b.length ≤ w.length) (hq : sound w → Q (.tup [.bool true, .bytes (told w).toArray]) σ) (hq2 : ¬ sound w → Q (.tup [.bool false, .bytes #[]]) σ) :
    exs G7 blts O (b_law_read.dropS 2) none ⟨σ, [(495606460279, .bytes w.toArray), (2036625250, .bytes b.toArray)]⟩ (RQ Q) (RX X) := by
  repeat (first | ((conv => whnf); refine ⟨by first | omega | (unfold small; omega) | (dsimp only; omega) | exact rfl | decide | exact Nat.le_of_ble_eq_true rfl | (refine ⟨?_, ?_⟩ <;> first | omega | (unfold small; omega) | (dsimp only; omega) | exact rfl | decide | (simp only [List.size_toArray, Array.size_append, List.length_take, Array.length_toList]; omega)) | (refine ⟨?_, ?_, ?_⟩ <;> first | omega | (unfold small; omega) | (dsimp only; omega) | exact rfl | decide | (simp only [List.size_toArray, Array.size_append, List.length_take, Array.length_toList]; omega)), ?_⟩) | ((conv => whnf); refine ⟨⟨rfl, rfl, rfl, by first | (simp; done) | exact Nat.le_of_ble_eq_true rfl⟩, ?_⟩))
  conv => whnf
  refine ⟨trivial, 1000, fun k st => k ≤ b.length ∧ (∀ x ∈ b.take k, 0 ≤ placeI x) ∧ ∃ tl, (tl = [] ∨ ∃ v1 v2, tl = [(1852270963, v1), (435459026032, v2)]) ∧ st = ⟨σ, [(495606460279, .bytes w.toArray), (2036625250, .bytes b.toArray), (125779768604014, .int (num (b.take k)))] ++ tl⟩, ⟨by omega, by simp, [], .inl rfl, rfl⟩, ?_⟩
  rintro k st ⟨hk, hall, tl, htl, rfl⟩
  refine ⟨by omega, ?_⟩
  have hbs : b.toArray.size = b.length := List.size_toArray ..
  have hws : w.toArray.size = w.length := List.size_toArray ..
  by_cases hkn : k < b.length
  · obtain ⟨x, hx⟩ : ∃ x, b[k]? = some x := ⟨_, List.getElem?_eq_getElem hkn⟩
    have hx2 := turn_bytes (b := b.toArray) (show b.toArray[k]? = some x by rw [List.getElem?_toArray]; exact hx)
    have hxs := x.toNat_lt
    have hf := find_letter x
    have hsn := num_snoc (b.take k) x
    rw [← take_succ_snoc b k x hx] at hsn
    by_cases hp : placeI x < 0
    · have hd : decide (placeI x < 0) = true := decide_eq_true hp
      have hns : ¬ sound w := fun h => by
        have := h.1 x (hb ▸ List.mem_of_getElem? hx)
        omega
      rcases htl with rfl | ⟨v1, v2, rfl⟩
      · repeat (first | ((conv => whnf); rw [hx2]) | ((conv => whnf); rw [hf]) | ((conv => whnf); rw [hd]) | ((conv => whnf); erw [hx2]) | ((conv => whnf); erw [hf]) | ((conv => whnf); erw [hd]) | ((conv => whnf); refine ⟨by first | omega | (unfold small; omega) | (dsimp only; omega) | exact rfl | decide | exact Nat.le_of_ble_eq_true rfl | (refine ⟨?_, ?_⟩ <;> first | omega | (unfold small; omega) | (dsimp only; omega) | exact rfl | decide | (simp only [List.size_toArray, Array.size_append, List.length_take, Array.length_toList]; omega)) | (refine ⟨?_, ?_, ?_⟩ <;> first | omega | (unfold small; omega) | (dsimp only; omega) | exact rfl | decide | (simp only [List.size_toArray, Array.size_append, List.length_take, Array.length_toList]; omega)), ?_⟩) | ((conv => whnf); refine ⟨⟨rfl, rfl, rfl, by first | (simp; done) | exact Nat.le_of_ble_eq_true rfl⟩, ?_⟩))
        exact hq2 hns
      · repeat (first | ((conv => whnf); rw [hx2]) | ((conv => whnf); rw [hf]) | ((conv => whnf); rw [hd]) | ((conv => whnf); erw [hx2]) | ((conv => whnf); erw [hf]) | ((conv => whnf); erw [hd]) | ((conv => whnf); refine ⟨by first | omega | (unfold small; omega) | (dsimp only; omega) | exact rfl | decide | exact Nat.le_of_ble_eq_true rfl | (refine ⟨?_, ?_⟩ <;> first | omega | (unfold small; omega) | (dsimp only; omega) | exact rfl | decide | (simp only [List.size_toArray, Array.size_append, List.length_take, Array.length_toList]; omega)) | (refine ⟨?_, ?_, ?_⟩ <;> first | omega | (unfold small; omega) | (dsimp only; omega) | exact rfl | decide | (simp only [List.size_toArray, Array.size_append, List.length_take, Array.length_toList]; omega)), ?_⟩) | ((conv => whnf); refine ⟨⟨rfl, rfl, rfl, by first | (simp; done) | exact Nat.le_of_ble_eq_true rfl⟩, ?_⟩))
        exact hq2 hns
    · have hd : decide (placeI x < 0) = false := decide_eq_false hp
      have hpv : placeI x = (pv x : Int) := by unfold pv; omega
      have hnum : ((num (b.take k) : Int) * 64 + placeI x) = (num (b.take (k + 1)) : Int) := by rw [hsn, hpv]; omega
      have hall' : ∀ y ∈ b.take (k + 1), 0 ≤ placeI y := fun y hy => by
        rw [take_succ_snoc b k x hx] at hy
        rcases List.mem_append.mp hy with hy | hy
        · exact hall y hy
        · rw [List.mem_singleton] at hy; subst hy; omega
      rcases htl with rfl | ⟨v1, v2, rfl⟩
      · repeat (first | ((conv => whnf); rw [hx2]) | ((conv => whnf); rw [hf]) | ((conv => whnf); rw [hd]) | ((conv => whnf); rw [hnum]) | ((conv => whnf); erw [hx2]) | ((conv => whnf); erw [hf]) | ((conv => whnf); erw [hd]) | ((conv => whnf); erw [hnum]) | ((conv => whnf); refine ⟨.inr (by decide), ?_⟩) | ((conv => whnf); refine ⟨by first | omega | (unfold small; omega) | (dsimp only; omega) | exact rfl | decide | exact Nat.le_of_ble_eq_true rfl | (refine ⟨?_, ?_⟩ <;> first | omega | (unfold small; omega) | (dsimp only; omega) | exact rfl | decide | (simp only [List.size_toArray, Array.size_append, List.length_take, Array.length_toList]; omega)) | (refine ⟨?_, ?_, ?_⟩ <;> first | omega | (unfold small; omega) | (dsimp only; omega) | exact rfl | decide | (simp only [List.size_toArray, Array.size_append, List.length_take, Array.length_toList]; omega)), ?_⟩) | ((conv => whnf); refine ⟨⟨rfl, rfl, rfl, by first | (simp; done) | exact Nat.le_of_ble_eq_true rfl⟩, ?_⟩))
        exact ⟨_, .inr ⟨_, _, rfl⟩, rfl⟩
      · repeat (first | ((conv => whnf); rw [hx2]) | ((conv => whnf); rw [hf]) | ((conv => whnf); rw [hd]) | ((conv => whnf); rw [hnum]) | ((conv => whnf); erw [hx2]) | ((conv => whnf); erw [hf]) | ((conv => whnf); erw [hd]) | ((conv => whnf); erw [hnum]) | ((conv => whnf); refine ⟨.inr (by decide), ?_⟩) | ((conv => whnf); refine ⟨by first | omega | (unfold small; omega) | (dsimp only; omega) | exact rfl | decide | exact Nat.le_of_ble_eq_true rfl | (refine ⟨?_, ?_⟩ <;> first | omega | (unfold small; omega) | (dsimp only; omega) | exact rfl | decide | (simp only [List.size_toArray, Array.size_append, List.length_take, Array.length_toList]; omega)) | (refine ⟨?_, ?_, ?_⟩ <;> first | omega | (unfold small; omega) | (dsimp only; omega) | exact rfl | decide | (simp only [List.size_toArray, Array.size_append, List.length_take, Array.length_toList]; omega)), ?_⟩) | ((conv => whnf); refine ⟨⟨rfl, rfl, rfl, by first | (simp; done) | exact Nat.le_of_ble_eq_true rfl⟩, ?_⟩))
        exact ⟨_, .inr ⟨_, _, rfl⟩, rfl⟩
  · have hkb : k = b.length := by omega
    subst hkb
    have hx2 := turn_bytesE (b := b.toArray) (show b.toArray[b.length]? = none by rw [List.getElem?_toArray]; exact List.getElem?_eq_none (Nat.le_refl _))
    rw [List.take_length] at *
    have hm : Int.fmod (w.length : Int) 4 = ((w.length % 4 : Nat) : Int) := natMod _ 4
    by_cases h4 : w.length % 4 = 0
    · have hd : (!decide (((w.length % 4 : Nat) : Int) = 0)) = false := by rw [h4]; rfl
      have hsound : sound w := ⟨hb ▸ hall, h4⟩
      have h6 : ((b.length : Int) * 6) = ((b.length * 6 : Nat) : Int) := by omega
      have h7 : Int.fmod ((b.length * 6 : Nat) : Int) 8 = ((b.length * 6 % 8 : Nat) : Int) := natMod _ 8
      have h8 : Int.fdiv ((b.length * 6 : Nat) : Int) 8 = ((b.length * 6 / 8 : Nat) : Int) := natDiv _ 8
      have h9 : Int.fdiv (num b : Int) (2 ^ ((b.length * 6 % 8 : Nat) : Int).toNat) = ((num b / 2 ^ (b.length * 6 % 8) : Nat) : Int) := by
        have := natDiv (num b) (2 ^ (b.length * 6 % 8))
        rw [Int.natCast_pow] at this
        exact this
      have hlt : num b / 2 ^ (b.length * 6 % 8) < 256 ^ (b.length * 6 / 8) := by
        have h1 := num_lt b
        rw [Nat.div_lt_iff_lt_mul (Nat.two_pow_pos _), show (256 : Nat) = 2 ^ 8 from rfl, ← Nat.pow_mul, ← Nat.pow_add]
        rw [show (64 : Nat) = 2 ^ 6 from rfl, ← Nat.pow_mul] at h1
        have : 8 * (b.length * 6 / 8) + b.length * 6 % 8 = 6 * b.length := by omega
        rw [this]; exact h1
      have hlt2 : ((num b / 2 ^ (b.length * 6 % 8) : Nat) : Int) < 256 ^ (((b.length * 6 / 8 : Nat) : Int)).toNat := by
        have := Int.ofNat_lt.mpr hlt
        rw [Int.natCast_pow] at this
        exact this
      have htold : told w = octs (b.length * 6 / 8) ((num b / 2 ^ (b.length * 6 % 8) : Nat) : Int) := by unfold told; rw [← hb]
      rw [htold] at hq
      by_cases he : b = []
      · subst he
        rcases htl with rfl | ⟨v1, v2, rfl⟩
        · repeat (first | ((conv => whnf); rw [hx2]) | ((conv => whnf); rw [hws]) | ((conv => whnf); rw [hm]) | ((conv => whnf); rw [hd]) | ((conv => whnf); erw [hx2]) | ((conv => whnf); erw [hws]) | ((conv => whnf); erw [hm]) | ((conv => whnf); erw [hd]) | ((conv => whnf); refine ⟨by first | omega | (unfold small; omega) | (dsimp only; omega) | exact rfl | decide | exact Nat.le_of_ble_eq_true rfl | (refine ⟨?_, ?_⟩ <;> first | omega | (unfold small; omega) | (dsimp only; omega) | exact rfl | decide | (simp only [List.size_toArray, Array.size_append, List.length_take, Array.length_toList]; omega)) | (refine ⟨?_, ?_, ?_⟩ <;> first | omega | (unfold small; omega) | (dsimp only; omega) | exact rfl | decide | (simp only [List.size_toArray, Array.size_append, List.length_take, Array.length_toList]; omega)), ?_⟩) | ((conv => whnf); refine ⟨⟨rfl, rfl, rfl, by first | (simp; done) | exact Nat.le_of_ble_eq_true rfl⟩, ?_⟩))
          exact hq hsound
        · repeat (first | ((conv => whnf); rw [hx2]) | ((conv => whnf); rw [hws]) | ((conv => whnf); rw [hm]) | ((conv => whnf); rw [hd]) | ((conv => whnf); erw [hx2]) | ((conv => whnf); erw [hws]) | ((conv => whnf); erw [hm]) | ((conv => whnf); erw [hd]) | ((conv => whnf); refine ⟨by first | omega | (unfold small; omega) | (dsimp only; omega) | exact rfl | decide | exact Nat.le_of_ble_eq_true rfl | (refine ⟨?_, ?_⟩ <;> first | omega | (unfold small; omega) | (dsimp only; omega) | exact rfl | decide | (simp only [List.size_toArray, Array.size_append, List.length_take, Array.length_toList]; omega)) | (refine ⟨?_, ?_, ?_⟩ <;> first | omega | (unfold small; omega) | (dsimp only; omega) | exact rfl | decide | (simp only [List.size_toArray, Array.size_append, List.length_take, Array.length_toList]; omega)), ?_⟩) | ((conv => whnf); refine ⟨⟨rfl, rfl, rfl, by first | (simp; done) | exact Nat.le_of_ble_eq_true rfl⟩, ?_⟩))
          exact hq hsound
      · have hd2 : decide (b.toArray = #[]) = false := decide_eq_false fun h => he (by simpa using h)
        have hside : (⟨#[98, 105, 103]⟩ : Str) = ("big" : Str) ∧ 0 ≤ ((b.length * 6 / 8 : Nat) : Int) ∧ ((b.length * 6 / 8 : Nat) : Int) ≤ 100000 ∧ 0 ≤ ((num b / 2 ^ (b.length * 6 % 8) : Nat) : Int) ∧ ((num b / 2 ^ (b.length * 6 % 8) : Nat) : Int) < 256 ^ (((b.length * 6 / 8 : Nat) : Int)).toNat := ⟨by decide, by omega, by omega, Int.natCast_nonneg _, hlt2⟩
        rcases htl with rfl | ⟨v1, v2, rfl⟩
        · repeat (first | ((conv => whnf); rw [hx2]) | ((conv => whnf); rw [hws]) | ((conv => whnf); rw [hm]) | ((conv => whnf); rw [hd]) | ((conv => whnf); rw [hd2]) | ((conv => whnf); rw [hbs]) | ((conv => whnf); rw [h6]) | ((conv => whnf); rw [h7]) | ((conv => whnf); rw [h8]) | ((conv => whnf); rw [h9]) | ((conv => whnf); erw [hx2]) | ((conv => whnf); erw [hws]) | ((conv => whnf); erw [hm]) | ((conv => whnf); erw [hd]) | ((conv => whnf); erw [hd2]) | ((conv => whnf); erw [hbs]) | ((conv => whnf); erw [h6]) | ((conv => whnf); erw [h7]) | ((conv => whnf); erw [h8]) | ((conv => whnf); erw [h9]) | ((conv => whnf); refine ⟨hside, ?_⟩) | ((conv => whnf); refine ⟨by first | omega | (unfold small; omega) | (dsimp only; omega) | exact rfl | decide | exact Nat.le_of_ble_eq_true rfl | (refine ⟨?_, ?_⟩ <;> first | omega | (unfold small; omega) | (dsimp only; omega) | exact rfl | decide | (simp only [List.size_toArray, Array.size_append, List.length_take, Array.length_toList]; omega)) | (refine ⟨?_, ?_, ?_⟩ <;> first | omega | (unfold small; omega) | (dsimp only; omega) | exact rfl | decide | (simp only [List.size_toArray, Array.size_append, List.length_take, Array.length_toList]; omega)), ?_⟩) | ((conv => whnf); refine ⟨⟨rfl, rfl, rfl, by first | (simp; done) | exact Nat.le_of_ble_eq_true rfl⟩, ?_⟩))
          exact hq hsound
        · repeat (first | ((conv => whnf); rw [hx2]) | ((conv => whnf); rw [hws]) | ((conv => whnf); rw [hm]) | ((conv => whnf); rw [hd]) | ((conv => whnf); rw [hd2]) | ((conv => whnf); rw [hbs]) | ((conv => whnf); rw [h6]) | ((conv => whnf); rw [h7]) | ((conv => whnf); rw [h8]) | ((conv => whnf); rw [h9]) | ((conv => whnf); erw [hx2]) | ((conv => whnf); erw [hws]) | ((conv => whnf); erw [hm]) | ((conv => whnf); erw [hd]) | ((conv => whnf); erw [hd2]) | ((conv => whnf); erw [hbs]) | ((conv => whnf); erw [h6]) | ((conv => whnf); erw [h7]) | ((conv => whnf); erw [h8]) | ((conv => whnf); erw [h9]) | ((conv => whnf); refine ⟨hside, ?_⟩) | ((conv => whnf); refine ⟨by first | omega | (unfold small; omega) | (dsimp only; omega) | exact rfl | decide | exact Nat.le_of_ble_eq_true rfl | (refine ⟨?_, ?_⟩ <;> first | omega | (unfold small; omega) | (dsimp only; omega) | exact rfl | decide | (simp only [List.size_toArray, Array.size_append, List.length_take, Array.length_toList]; omega)) | (refine ⟨?_, ?_, ?_⟩ <;> first | omega | (unfold small; omega) | (dsimp only; omega) | exact rfl | decide | (simp only [List.size_toArray, Array.size_append, List.length_take, Array.length_toList]; omega)), ?_⟩) | ((conv => whnf); refine ⟨⟨rfl, rfl, rfl, by first | (simp; done) | exact Nat.le_of_ble_eq_true rfl⟩, ?_⟩))
          exact hq hsound
    · have hd : (!decide (((w.length % 4 : Nat) : Int) = 0)) = true := by rw [decide_eq_false (by omega)]; rfl
      rcases htl with rfl | ⟨v1, v2, rfl⟩
      · repeat (first | ((conv => whnf); rw [hx2]) | ((conv => whnf); rw [hws]) | ((conv => whnf); rw [hm]) | ((conv => whnf); rw [hd]) | ((conv => whnf); erw [hx2]) | ((conv => whnf); erw [hws]) | ((conv => whnf); erw [hm]) | ((conv => whnf); erw [hd]) | ((conv => whnf); refine ⟨by first | omega | (unfold small; omega) | (dsimp only; omega) | exact rfl | decide | exact Nat.le_of_ble_eq_true rfl | (refine ⟨?_, ?_⟩ <;> first | omega | (unfold small; omega) | (dsimp only; omega) | exact rfl | decide | (simp only [List.size_toArray, Array.size_append, List.length_take, Array.length_toList]; omega)) | (refine ⟨?_, ?_, ?_⟩ <;> first | omega | (unfold small; omega) | (dsimp only; omega) | exact rfl | decide | (simp only [List.size_toArray, Array.size_append, List.length_take, Array.length_toList]; omega)), ?_⟩) | ((conv => whnf); refine ⟨⟨rfl, rfl, rfl, by first | (simp; done) | exact Nat.le_of_ble_eq_true rfl⟩, ?_⟩))
        exact hq2 fun h => h4 h.2
      · repeat (first | ((conv => whnf); rw [hx2]) | ((conv => whnf); rw [hws]) | ((conv => whnf); rw [hm]) | ((conv => whnf); rw [hd]) | ((conv => whnf); erw [hx2]) | ((conv => whnf); erw [hws]) | ((conv => whnf); erw [hm]) | ((conv => whnf); erw [hd]) | ((conv => whnf); refine ⟨by first | omega | (unfold small; omega) | (dsimp only; omega) | exact rfl | decide | exact Nat.le_of_ble_eq_true rfl | (refine ⟨?_, ?_⟩ <;> first | omega | (unfold small; omega) | (dsimp only; omega) | exact rfl | decide | (simp only [List.size_toArray, Array.size_append, List.length_take, Array.length_toList]; omega)) | (refine ⟨?_, ?_, ?_⟩ <;> first | omega | (unfold small; omega) | (dsimp only; omega) | exact rfl | decide | (simp only [List.size_toArray, Array.size_append, List.length_take, Array.length_toList]; omega)), ?_⟩) | ((conv => whnf); refine ⟨⟨rfl, rfl, rfl, by first | (simp; done) | exact Nat.le_of_ble_eq_true rfl⟩, ?_⟩))
        exact hq2 fun h => h4 h.2
theorem c_law_read {w : Array UInt8} (hz : w.size ≤ 1000) (hq : sound w.toList → Q (.tup [.bool true, .bytes (told w.toList).toArray]) σ) (hq2 : ¬ sound w.toList → Q (.tup [.bool false, .bytes #[]]) σ) :
    exs G7 blts O b_law_read none ⟨σ, [(495606460279, .bytes w)]⟩ (RQ Q) (RX X) := by
  have hws : w.toList.length = w.size := rfl
  have hwr : w.toList = w.toList.reverse.reverse := (List.reverse_reverse _).symm
  generalize hrr : w.toList.reverse = rr at hwr
  have hrl : rr.length = w.size := by rw [← hrr, List.length_reverse, hws]
  repeat (first | ((conv => whnf); refine ⟨by first | omega | (unfold small; omega) | (dsimp only; omega) | exact rfl | decide | exact Nat.le_of_ble_eq_true rfl | (refine ⟨?_, ?_⟩ <;> first | omega | (unfold small; omega) | (dsimp only; omega) | exact rfl | decide | (simp only [List.size_toArray, Array.size_append, List.length_take, Array.length_toList]; omega)) | (refine ⟨?_, ?_, ?_⟩ <;> first | omega | (unfold small; omega) | (dsimp only; omega) | exact rfl | decide | (simp only [List.size_toArray, Array.size_append, List.length_take, Array.length_toList]; omega)), ?_⟩) | ((conv => whnf); refine ⟨⟨rfl, rfl, rfl, by first | (simp; done) | exact Nat.le_of_ble_eq_true rfl⟩, ?_⟩))
  conv => whnf
  refine ⟨fun n st => ∃ p r, rr = p ++ r ∧ (p = [] ∨ p = [61] ∨ p = [61, 61]) ∧ n = 2 - p.length ∧ st = ⟨σ, [(495606460279, .bytes w), (2036625250, .bytes r.reverse.toArray)]⟩, 2, ⟨[], rr, rfl, .inl rfl, rfl, by rw [← hwr]; rfl⟩, ?_⟩
  rintro n st ⟨p, r, hr, hp, rfl, rfl⟩
  have hsz : r.reverse.toArray.size = r.length := by simp
  have hpl : p.length + r.length = w.size := by rw [← hrl, hr, List.length_append]
  have hsub : ((w.size : Int) - (r.length : Int)) = (p.length : Int) := by omega
  have hto : r.reverse.toArray.toList = r.reverse := rfl
  have hc1 := cut_last r.reverse
  have hc2 := cut_but r.reverse
  rw [List.reverse_reverse] at hc1 hc2
  have hw : w.toList = w.toList.toArray.toList := rfl
  have fin : (p = [61, 61] ∨ ∀ r', r ≠ 61 :: r') → r.reverse = body2 w.toList := by
    intro h
    unfold body2
    rw [hrr, hr]
    rcases hp with rfl | rfl | rfl
    · rcases h with h | h
      · cases h
      · rw [hwr, hr]
        rw [List.nil_append]
        split
        · exact absurd rfl (h _)
        · exact absurd rfl (h _)
        · rfl
    · rcases h with h | h
      · cases h
      · rw [List.singleton_append]
        split
        · rename_i e; cases e; exact absurd rfl (h _)
        · rename_i e; cases e; rfl
        · rename_i e; exact absurd rfl (e _)
    · rfl
  by_cases hj : p.length < 2
  · have hd : decide ((p.length : Int) < 2) = true := decide_eq_true (by omega)
    by_cases hy : ∃ r', r = 61 :: r'
    · obtain ⟨r', hr'⟩ := hy
      have hd2 : decide ((r.take 1).reverse.toArray = (#[61] : Array UInt8)) = true := decide_eq_true (by rw [hr']; rfl)
      rw [show r.drop 1 = r' by rw [hr']; rfl] at hc2
      have hr : rr = p ++ 61 :: r' := by rw [hr, hr']
      repeat (first | ((conv => whnf); rw [hsz]) | ((conv => whnf); rw [hsub]) | ((conv => whnf); rw [hto]) | ((conv => whnf); rw [hc1]) | ((conv => whnf); rw [hd]) | ((conv => whnf); rw [hd2]) | ((conv => whnf); rw [hc2]) | ((conv => whnf); erw [hsz]) | ((conv => whnf); erw [hsub]) | ((conv => whnf); erw [hto]) | ((conv => whnf); erw [hc1]) | ((conv => whnf); erw [hd]) | ((conv => whnf); erw [hd2]) | ((conv => whnf); erw [hc2]) | ((conv => whnf); refine ⟨by first | omega | (unfold small; omega) | (dsimp only; omega) | exact rfl | decide | exact Nat.le_of_ble_eq_true rfl | (refine ⟨?_, ?_⟩ <;> first | omega | (unfold small; omega) | (dsimp only; omega) | exact rfl | decide | (simp only [List.size_toArray, Array.size_append, List.length_take, Array.length_toList]; omega)) | (refine ⟨?_, ?_, ?_⟩ <;> first | omega | (unfold small; omega) | (dsimp only; omega) | exact rfl | decide | (simp only [List.size_toArray, Array.size_append, List.length_take, Array.length_toList]; omega)), ?_⟩) | ((conv => whnf); refine ⟨⟨rfl, rfl, rfl, by first | (simp; done) | exact Nat.le_of_ble_eq_true rfl⟩, ?_⟩))
      refine ⟨2 - (p ++ [61]).length, by rw [List.length_append, List.length_singleton]; omega, p ++ [61], r', by rw [hr, List.append_assoc]; rfl, ?_, rfl, rfl⟩
      rcases hp with rfl | rfl | rfl
      · exact .inr (.inl rfl)
      · exact .inr (.inr rfl)
      · exact absurd hj (by decide)
    · have hd2 : decide ((r.take 1).reverse.toArray = (#[61] : Array UInt8)) = false := decide_eq_false fun h => hy (by
        cases r with
        | nil => cases h
        | cons y r' =>
          have : y = 61 := by simpa using h
          exact ⟨r', by rw [this]⟩)
      repeat (first | ((conv => whnf); rw [hsz]) | ((conv => whnf); rw [hsub]) | ((conv => whnf); rw [hto]) | ((conv => whnf); rw [hc1]) | ((conv => whnf); rw [hd]) | ((conv => whnf); erw [hsz]) | ((conv => whnf); erw [hsub]) | ((conv => whnf); erw [hto]) | ((conv => whnf); erw [hc1]) | ((conv => whnf); erw [hd]) | ((conv => whnf); refine ⟨by first | omega | (unfold small; omega) | (dsimp only; omega) | exact rfl | decide | exact Nat.le_of_ble_eq_true rfl | (refine ⟨?_, ?_⟩ <;> first | omega | (unfold small; omega) | (dsimp only; omega) | exact rfl | decide | (simp only [List.size_toArray, Array.size_append, List.length_take, Array.length_toList]; omega)) | (refine ⟨?_, ?_, ?_⟩ <;> first | omega | (unfold small; omega) | (dsimp only; omega) | exact rfl | decide | (simp only [List.size_toArray, Array.size_append, List.length_take, Array.length_toList]; omega)), ?_⟩) | ((conv => whnf); refine ⟨⟨rfl, rfl, rfl, by first | (simp; done) | exact Nat.le_of_ble_eq_true rfl⟩, ?_⟩))
      conv => whnf
      rw [hd2]
      exact read_rest (O := O) (X := X) (w := w.toList) (b := r.reverse) hz (fin (.inr fun _ h => hy ⟨_, h⟩)) (by rw [List.length_reverse, hws]; omega) hq hq2
  · have hd : decide ((p.length : Int) < 2) = false := decide_eq_false (by omega)
    have hp2 : p = [61, 61] := by
      rcases hp with rfl | rfl | rfl
      · exact absurd (by decide) hj
      · exact absurd (by decide) hj
      · rfl
    repeat (first | ((conv => whnf); rw [hsz]) | ((conv => whnf); rw [hsub]) | ((conv => whnf); rw [hto]) | ((conv => whnf); rw [hc1]) | ((conv => whnf); erw [hsz]) | ((conv => whnf); erw [hsub]) | ((conv => whnf); erw [hto]) | ((conv => whnf); erw [hc1]) | ((conv => whnf); refine ⟨by first | omega | (unfold small; omega) | (dsimp only; omega) | exact rfl | decide | exact Nat.le_of_ble_eq_true rfl | (refine ⟨?_, ?_⟩ <;> first | omega | (unfold small; omega) | (dsimp only; omega) | exact rfl | decide | (simp only [List.size_toArray, Array.size_append, List.length_take, Array.length_toList]; omega)) | (refine ⟨?_, ?_, ?_⟩ <;> first | omega | (unfold small; omega) | (dsimp only; omega) | exact rfl | decide | (simp only [List.size_toArray, Array.size_append, List.length_take, Array.length_toList]; omega)), ?_⟩) | ((conv => whnf); refine ⟨⟨rfl, rfl, rfl, by first | (simp; done) | exact Nat.le_of_ble_eq_true rfl⟩, ?_⟩))
    conv => whnf
    rw [hd]
    exact read_rest (O := O) (X := X) (w := w.toList) (b := r.reverse) hz (fin (.inl hp2)) (by rw [List.length_reverse, hws]; omega) hq hq2
end
end Sm
end
section
set_option maxRecDepth 100000
set_option linter.unusedVariables false
set_option linter.unusedSimpArgs false
set_option maxHeartbeats 2000000
namespace Sm
open PySem
def bodyR (w : List UInt8) : List UInt8 := stripB false true (#[61] : Array UInt8).contains w.toArray
def decPart (p : List UInt8) : List UInt8 := (octs 3 ((num p * 2 ^ (6 * (4 - p.length)) : Nat) : Int)).take (p.length - 1)
def decUpto (b : List UInt8) : Nat → List UInt8
  | 0 => []
  | k + 1 => decUpto b k ++ decPart ((b.drop (4 * k)).take 4)
def soundD (w : List UInt8) : Prop := w.length % 4 = 0 ∧ w.length - (bodyR w).length ≤ 2 ∧ ∀ x ∈ bodyR w, 0 ≤ placeI x
def toldD (w : List UInt8) : List UInt8 := decUpto (bodyR w) (((bodyR w).length + 3) / 4)
theorem bodyR_len (w : List UInt8) : (bodyR w).length ≤ w.length := by
  unfold bodyR stripB
  simp only [Bool.false_eq_true, if_false, if_true]
  rw [List.length_reverse]
  have h := (List.dropWhile_suffix (p := (#[61] : Array UInt8).contains) (l := w.reverse)).length_le
  rw [List.length_reverse] at h
  exact h
theorem decPart_len (p : List UInt8) : (decPart p).length ≤ 3 := by
  unfold decPart octs
  rw [List.length_take, List.length_reverse, W.KTBy.low_length]; omega
theorem decUpto_len (b : List UInt8) : ∀ k, (decUpto b k).length ≤ 3 * k
  | 0 => Nat.le_refl _
  | k + 1 => by
    show (decUpto b k ++ _).length ≤ _
    have := decUpto_len b k
    have := decPart_len ((b.drop (4 * k)).take 4)
    rw [List.length_append]; omega
abbrev errObj (a : Addr) : AObj := .exc (.ref a) [] [] false
section
variable {O : Bool → Addr → Sp} {Q : AV → List AObj → Prop} {X : Nat → List AObj → Prop} {σ : List AObj}
theorem c_b64decode {w : Array UInt8} {v : AV} (hz : w.size ≤ 1000) (hq : soundD w.toList → Q (.bytes (toldD w.toList).toArray) σ) (hq2 : ¬ soundD w.toList → X σ.length (σ ++ [errObj 77])) :
    exs G7 blts O b_b64decode none ⟨σ, [(1954047348, .bytes w), (7310575179022492022, v)]⟩ (RQ Q) (RX X) := by
  have hbl := bodyR_len w.toList
  have hR : stripB false true (#[61] : Array UInt8).contains w = bodyR w.toList := rfl
  have hsd : soundD w.toList ↔ (w.size % 4 = 0 ∧ w.size - (bodyR w.toList).length ≤ 2 ∧ ∀ x ∈ bodyR w.toList, 0 ≤ placeI x) := Iff.rfl
  have htd : toldD w.toList = decUpto (bodyR w.toList) (((bodyR w.toList).length + 3) / 4) := rfl
  rw [hsd] at hq hq2
  rw [htd] at hq
  generalize bodyR w.toList = b at *
  have hm : Int.fmod (w.size : Int) 4 = ((w.size % 4 : Nat) : Int) := natMod _ 4
  have hbs : b.toArray.size = b.length := List.size_toArray ..
  have hbl2 : b.length ≤ w.size := hbl
  by_cases h4 : w.size % 4 = 0
  · have d1 : decide (((w.size % 4 : Nat) : Int) ≠ 0) = false := decide_eq_false (by omega)
    by_cases h2 : w.size - b.length ≤ 2
    · have d2 : decide (((w.size : Int) - (b.length : Int)) > 2) = false := decide_eq_false (by omega)
      repeat (first | ((conv => whnf); rw [hR]) | ((conv => whnf); rw [hm]) | ((conv => whnf); rw [d1]) | ((conv => whnf); rw [hbs]) | ((conv => whnf); rw [d2]) | ((conv => whnf); erw [hR]) | ((conv => whnf); erw [hm]) | ((conv => whnf); erw [d1]) | ((conv => whnf); erw [hbs]) | ((conv => whnf); erw [d2]) | ((conv => whnf); change iterOk _ _ ∧ _; refine ⟨small_step b.length 4 (by decide) (by omega) (by decide), ?_⟩) | ((conv => whnf); refine ⟨by first | omega | (unfold small; omega) | (dsimp only; omega) | exact rfl | decide | exact Nat.le_of_ble_eq_true rfl | (refine ⟨?_, ?_⟩ <;> first | omega | (unfold small; omega) | (dsimp only; omega) | exact rfl | decide | (simp only [List.size_toArray, Array.size_append, List.length_take, Array.length_toList]; omega)) | (refine ⟨?_, ?_, ?_⟩ <;> first | omega | (unfold small; omega) | (dsimp only; omega) | exact rfl | decide | (simp only [List.size_toArray, Array.size_append, List.length_take, Array.length_toList]; omega)), ?_⟩) | ((conv => whnf); refine ⟨⟨rfl, rfl, rfl, by first | (simp; done) | exact Nat.le_of_ble_eq_true rfl⟩, ?_⟩))
      conv => whnf
      refine ⟨1000, fun k st => k ≤ (b.length + 3) / 4 ∧ (∀ x ∈ b.take (4 * k), 0 ≤ placeI x) ∧ ∃ tl, (tl = [] ∨ ∃ v1 v2 v3 v4 v5, tl = [(107, v1), (1953653104, v2), (110, v3), (120, v4), (435459026032, v5)]) ∧ st = ⟨σ, [(1954047348, .bytes w), (7310575179022492022, v), (2036625250, .bytes b.toArray), (7632239, .bytes (decUpto b k).toArray)] ++ tl⟩, ⟨by omega, by simp, [], .inl rfl, rfl⟩, ?_⟩
      rintro k st ⟨hk, hall, tl, htl, rfl⟩
      refine ⟨by omega, ?_⟩
      by_cases hkn : k < (b.length + 3) / 4
      · have ht := turn_step (by decide : 0 < 4) hkn
        have e1 : (((4 * k : Nat) : Int) + 4) = ((4 * k + 4 : Nat) : Int) := by omega
        have hcut := cut_mid b (4 * k) (4 * k + 4)
        rw [show 4 * k + 4 - 4 * k = 4 by omega] at hcut
        have hnext : decUpto b (k + 1) = decUpto b k ++ decPart ((b.drop (4 * k)).take 4) := rfl
        have hPs : ((b.drop (4 * k)).take 4).toArray.size = ((b.drop (4 * k)).take 4).length := List.size_toArray ..
        have hP4 : ((b.drop (4 * k)).take 4).length ≤ 4 := by rw [List.length_take]; omega
        have hP1 : 1 ≤ ((b.drop (4 * k)).take 4).length := by rw [List.length_take, List.length_drop]; omega
        have hmem : ∀ x ∈ (b.drop (4 * k)).take 4, x ∈ b := fun x h => List.mem_of_mem_drop (List.mem_of_mem_take h)
        have hb2 : b.toArray.toList = b := rfl
        have htake : b.take (4 * (k + 1)) = b.take (4 * k) ++ (b.drop (4 * k)).take 4 := by
          rw [show 4 * (k + 1) = 4 * k + 4 by omega, List.take_add]
        have hol := decUpto_len b k
        generalize (b.drop (4 * k)).take 4 = P at *
        have hlast : ∀ (tl2 : List (Nat × AV)), (tl2 = [] ∨ ∃ v1 v2, tl2 = [(120, v1), (435459026032, v2)]) → ∃ j, True := fun _ _ => ⟨0, trivial⟩
        rcases htl with rfl | ⟨v1, v2, v3, v4, v5, rfl⟩
        · repeat (first | ((conv => whnf); rw [ht]) | ((conv => whnf); rw [e1]) | ((conv => whnf); rw [hb2]) | ((conv => whnf); rw [hcut]) | ((conv => whnf); erw [ht]) | ((conv => whnf); erw [e1]) | ((conv => whnf); erw [hb2]) | ((conv => whnf); erw [hcut]) | ((conv => whnf); refine ⟨by first | omega | (unfold small; omega) | (dsimp only; omega) | exact rfl | decide | exact Nat.le_of_ble_eq_true rfl | (refine ⟨?_, ?_⟩ <;> first | omega | (unfold small; omega) | (dsimp only; omega) | exact rfl | decide | (simp only [List.size_toArray, Array.size_append, List.length_take, Array.length_toList]; omega)) | (refine ⟨?_, ?_, ?_⟩ <;> first | omega | (unfold small; omega) | (dsimp only; omega) | exact rfl | decide | (simp only [List.size_toArray, Array.size_append, List.length_take, Array.length_toList]; omega)), ?_⟩) | ((conv => whnf); refine ⟨⟨rfl, rfl, rfl, by first | (simp; done) | exact Nat.le_of_ble_eq_true rfl⟩, ?_⟩))
          conv => whnf
          refine ⟨trivial, 4, fun j st => j ≤ P.length ∧ (∀ x ∈ P.take j, 0 ≤ placeI x) ∧ ∃ tl, (tl = [] ∧ j = 0 ∨ ∃ v4 v5, tl = [(120, v4), (435459026032, v5)]) ∧ st = ⟨σ, [(1954047348, .bytes w), (7310575179022492022, v), (2036625250, .bytes b.toArray), (7632239, .bytes (decUpto b k).toArray), (107, .int ((4 * k : Nat) : Int)), (1953653104, .bytes P.toArray), (110, .int (num (P.take j)))] ++ tl⟩, ⟨by omega, by simp, by first | exact ⟨[], .inl ⟨rfl, rfl⟩, rfl⟩ | exact ⟨_, .inr ⟨_, _, rfl⟩, rfl⟩⟩, ?_⟩
          rintro j st ⟨hj, hallj, tl, htl, rfl⟩
          refine ⟨by omega, ?_⟩
          by_cases hjn : j < P.length
          · obtain ⟨x, hx⟩ : ∃ x, P[j]? = some x := ⟨_, List.getElem?_eq_getElem hjn⟩
            have hx2 := turn_bytes (b := P.toArray) (show P.toArray[j]? = some x by rw [List.getElem?_toArray]; exact hx)
            have hxs := x.toNat_lt
            have hf := find_letter x
            have hsn := num_snoc (P.take j) x
            rw [← take_succ_snoc P j x hx] at hsn
            by_cases hp : placeI x < 0
            · have hd : decide (placeI x < 0) = true := decide_eq_true hp
              have hns := hmem x (List.mem_of_getElem? hx)
              rcases htl with ⟨rfl, hj0⟩ | ⟨v4, v5, rfl⟩
              · repeat (first | ((conv => whnf); rw [hx2]) | ((conv => whnf); rw [hf]) | ((conv => whnf); rw [hd]) | ((conv => whnf); erw [hx2]) | ((conv => whnf); erw [hf]) | ((conv => whnf); erw [hd]) | ((conv => whnf); refine ⟨by first | omega | (unfold small; omega) | (dsimp only; omega) | exact rfl | decide | exact Nat.le_of_ble_eq_true rfl | (refine ⟨?_, ?_⟩ <;> first | omega | (unfold small; omega) | (dsimp only; omega) | exact rfl | decide | (simp only [List.size_toArray, Array.size_append, List.length_take, Array.length_toList]; omega)) | (refine ⟨?_, ?_, ?_⟩ <;> first | omega | (unfold small; omega) | (dsimp only; omega) | exact rfl | decide | (simp only [List.size_toArray, Array.size_append, List.length_take, Array.length_toList]; omega)), ?_⟩) | ((conv => whnf); refine ⟨⟨rfl, rfl, rfl, by first | (simp; done) | exact Nat.le_of_ble_eq_true rfl⟩, ?_⟩))
                exact hq2 fun h => by have := h.2.2 x hns; omega
              · repeat (first | ((conv => whnf); rw [hx2]) | ((conv => whnf); rw [hf]) | ((conv => whnf); rw [hd]) | ((conv => whnf); erw [hx2]) | ((conv => whnf); erw [hf]) | ((conv => whnf); erw [hd]) | ((conv => whnf); refine ⟨by first | omega | (unfold small; omega) | (dsimp only; omega) | exact rfl | decide | exact Nat.le_of_ble_eq_true rfl | (refine ⟨?_, ?_⟩ <;> first | omega | (unfold small; omega) | (dsimp only; omega) | exact rfl | decide | (simp only [List.size_toArray, Array.size_append, List.length_take, Array.length_toList]; omega)) | (refine ⟨?_, ?_, ?_⟩ <;> first | omega | (unfold small; omega) | (dsimp only; omega) | exact rfl | decide | (simp only [List.size_toArray, Array.size_append, List.length_take, Array.length_toList]; omega)), ?_⟩) | ((conv => whnf); refine ⟨⟨rfl, rfl, rfl, by first | (simp; done) | exact Nat.le_of_ble_eq_true rfl⟩, ?_⟩))
                exact hq2 fun h => by have := h.2.2 x hns; omega
            · have hd : decide (placeI x < 0) = false := decide_eq_false hp
              have hpv : placeI x = (pv x : Int) := by unfold pv; omega
              have hnum : ((num (P.take j) : Int) * 64 + placeI x) = (num (P.take (j + 1)) : Int) := by rw [hsn, hpv]; omega
              have hall' : ∀ y ∈ P.take (j + 1), 0 ≤ placeI y := fun y hy => by
                rw [take_succ_snoc P j x hx] at hy
                rcases List.mem_append.mp hy with hy | hy
                · exact hallj y hy
                · rw [List.mem_singleton] at hy; subst hy; omega
              rcases htl with ⟨rfl, hj0⟩ | ⟨v4, v5, rfl⟩
              · repeat (first | ((conv => whnf); rw [hx2]) | ((conv => whnf); rw [hf]) | ((conv => whnf); rw [hd]) | ((conv => whnf); rw [hnum]) | ((conv => whnf); erw [hx2]) | ((conv => whnf); erw [hf]) | ((conv => whnf); erw [hd]) | ((conv => whnf); erw [hnum]) | ((conv => whnf); refine ⟨.inr (by decide), ?_⟩) | ((conv => whnf); refine ⟨by first | omega | (unfold small; omega) | (dsimp only; omega) | exact rfl | decide | exact Nat.le_of_ble_eq_true rfl | (refine ⟨?_, ?_⟩ <;> first | omega | (unfold small; omega) | (dsimp only; omega) | exact rfl | decide | (simp only [List.size_toArray, Array.size_append, List.length_take, Array.length_toList]; omega)) | (refine ⟨?_, ?_, ?_⟩ <;> first | omega | (unfold small; omega) | (dsimp only; omega) | exact rfl | decide | (simp only [List.size_toArray, Array.size_append, List.length_take, Array.length_toList]; omega)), ?_⟩) | ((conv => whnf); refine ⟨⟨rfl, rfl, rfl, by first | (simp; done) | exact Nat.le_of_ble_eq_true rfl⟩, ?_⟩))
                first | exact ⟨_, .inr ⟨_, _, rfl⟩, rfl⟩ | exact ⟨hall', _, .inr ⟨_, _, rfl⟩, rfl⟩
              · repeat (first | ((conv => whnf); rw [hx2]) | ((conv => whnf); rw [hf]) | ((conv => whnf); rw [hd]) | ((conv => whnf); rw [hnum]) | ((conv => whnf); erw [hx2]) | ((conv => whnf); erw [hf]) | ((conv => whnf); erw [hd]) | ((conv => whnf); erw [hnum]) | ((conv => whnf); refine ⟨.inr (by decide), ?_⟩) | ((conv => whnf); refine ⟨by first | omega | (unfold small; omega) | (dsimp only; omega) | exact rfl | decide | exact Nat.le_of_ble_eq_true rfl | (refine ⟨?_, ?_⟩ <;> first | omega | (unfold small; omega) | (dsimp only; omega) | exact rfl | decide | (simp only [List.size_toArray, Array.size_append, List.length_take, Array.length_toList]; omega)) | (refine ⟨?_, ?_, ?_⟩ <;> first | omega | (unfold small; omega) | (dsimp only; omega) | exact rfl | decide | (simp only [List.size_toArray, Array.size_append, List.length_take, Array.length_toList]; omega)), ?_⟩) | ((conv => whnf); refine ⟨⟨rfl, rfl, rfl, by first | (simp; done) | exact Nat.le_of_ble_eq_true rfl⟩, ?_⟩))
                first | exact ⟨_, .inr ⟨_, _, rfl⟩, rfl⟩ | exact ⟨hall', _, .inr ⟨_, _, rfl⟩, rfl⟩
          · have hjP : j = P.length := by omega
            subst hjP
            have hx2 := turn_bytesE (b := P.toArray) (show P.toArray[P.length]? = none by rw [List.getElem?_toArray]; exact List.getElem?_eq_none (Nat.le_refl _))
            rw [List.take_length] at *
            have hall' : ∀ y ∈ b.take (4 * (k + 1)), 0 ≤ placeI y := fun y hy => by
              rw [htake] at hy
              rcases List.mem_append.mp hy with hy | hy
              · exact hall y hy
              · exact hallj y hy
            have hnl := num_lt P
            have hn24 : num P * 2 ^ (6 * (4 - P.length)) < 16777216 := by
              have e : (16777216 : Nat) = 64 ^ P.length * 2 ^ (6 * (4 - P.length)) := by
                have : P.length = 1 ∨ P.length = 2 ∨ P.length = 3 ∨ P.length = 4 := by omega
                rcases this with h | h | h | h <;> rw [h] <;> decide
              rw [e]
              exact Nat.mul_lt_mul_of_pos_right hnl (Nat.two_pow_pos _)
            have hn3 : num P < 16777216 := by
              have := Nat.two_pow_pos (6 * (4 - P.length))
              have := Nat.le_mul_of_pos_right (num P) this
              omega
            unfold decPart at hnext
            have f1 : ((4 : Int) - (P.length : Int)) = ((4 - P.length : Nat) : Int) := by omega
            have f2 : ((6 : Int) * ((4 - P.length : Nat) : Int)) = ((6 * (4 - P.length) : Nat) : Int) := by omega
            have f3 : ((num P : Int) * 2 ^ (((6 * (4 - P.length) : Nat) : Int)).toNat) = ((num P * 2 ^ (6 * (4 - P.length)) : Nat) : Int) := by
              rw [show (((6 * (4 - P.length) : Nat) : Int)).toNat = 6 * (4 - P.length) from rfl, Int.natCast_mul, Int.natCast_pow]; rfl
            have hsh : (0 ≤ ((6 * (4 - P.length) : Nat) : Int) ∧ ((6 * (4 - P.length) : Nat) : Int) ≤ 1000 ∧ small (num P : Int)) := ⟨by omega, by omega, by unfold small; omega⟩
            generalize num P * 2 ^ (6 * (4 - P.length)) = n at *
            have h256 : (256 : Int) ^ (3 : Int).toNat = 16777216 := by decide
            have hside : (⟨#[98, 105, 103]⟩ : Str) = ("big" : Str) ∧ (0 : Int) ≤ 3 ∧ (3 : Int) ≤ 100000 ∧ 0 ≤ (n : Int) ∧ (n : Int) < 256 ^ ((3 : Int)).toNat := ⟨by decide, by decide, by decide, Int.natCast_nonneg _, by rw [h256]; omega⟩
            have f4 : ((P.length : Int) - 1) = ((P.length - 1 : Nat) : Int) := by omega
            have f5 : ∀ l : List UInt8, l.toArray.toList = l := fun _ => rfl
            have f6 := cut_take (octs 3 (n : Int)) (P.length - 1)
            have f7 : (decUpto b k).toArray ++ ((octs 3 (n : Int)).take (P.length - 1)).toArray = (decUpto b (k + 1)).toArray := by rw [hnext]; simp
            have f8 : (decUpto b k).toArray.size + ((octs 3 (n : Int)).take (P.length - 1)).toArray.size ≤ 16777216 := by
              rw [List.size_toArray, List.size_toArray, List.length_take]; omega
            have f9 : (octs 3 (n : Int)).toArray.size ≤ 16777216 := by
              unfold octs
              rw [List.size_toArray, List.length_reverse, W.KTBy.low_length]; decide
            rcases htl with ⟨rfl, hj0⟩ | ⟨v4, v5, rfl⟩
            · exact absurd hj0 (by omega)
            · repeat (first | ((conv => whnf); rw [hx2]) | ((conv => whnf); rw [hPs]) | ((conv => whnf); rw [f1]) | ((conv => whnf); rw [f2]) | ((conv => whnf); rw [f3]) | ((conv => whnf); rw [f4]) | ((conv => whnf); rw [f5]) | ((conv => whnf); rw [f6]) | ((conv => whnf); rw [f7]) | ((conv => whnf); erw [hx2]) | ((conv => whnf); erw [hPs]) | ((conv => whnf); erw [f1]) | ((conv => whnf); erw [f2]) | ((conv => whnf); erw [f3]) | ((conv => whnf); erw [f4]) | ((conv => whnf); erw [f5]) | ((conv => whnf); erw [f6]) | ((conv => whnf); erw [f7]) | ((conv => whnf); refine ⟨hsh, ?_⟩) | ((conv => whnf); refine ⟨hside, ?_⟩) | ((conv => whnf); refine ⟨f8, ?_⟩) | ((conv => whnf); refine ⟨f9, ?_⟩) | ((conv => whnf); refine ⟨by first | omega | (unfold small; omega) | (dsimp only; omega) | exact rfl | decide | exact Nat.le_of_ble_eq_true rfl | (refine ⟨?_, ?_⟩ <;> first | omega | (unfold small; omega) | (dsimp only; omega) | exact rfl | decide | (simp only [List.size_toArray, Array.size_append, List.length_take, Array.length_toList]; omega)) | (refine ⟨?_, ?_, ?_⟩ <;> first | omega | (unfold small; omega) | (dsimp only; omega) | exact rfl | decide | (simp only [List.size_toArray, Array.size_append, List.length_take, Array.length_toList]; omega)), ?_⟩) | ((conv => whnf); refine ⟨⟨rfl, rfl, rfl, by first | (simp; done) | exact Nat.le_of_ble_eq_true rfl⟩, ?_⟩))
              first | exact ⟨_, .inr ⟨_, _, _, _, _, rfl⟩, rfl⟩ | exact ⟨hall', _, .inr ⟨_, _, _, _, _, rfl⟩, rfl⟩
        · repeat (first | ((conv => whnf); rw [ht]) | ((conv => whnf); rw [e1]) | ((conv => whnf); rw [hb2]) | ((conv => whnf); rw [hcut]) | ((conv => whnf); erw [ht]) | ((conv => whnf); erw [e1]) | ((conv => whnf); erw [hb2]) | ((conv => whnf); erw [hcut]) | ((conv => whnf); refine ⟨by first | omega | (unfold small; omega) | (dsimp only; omega) | exact rfl | decide | exact Nat.le_of_ble_eq_true rfl | (refine ⟨?_, ?_⟩ <;> first | omega | (unfold small; omega) | (dsimp only; omega) | exact rfl | decide | (simp only [List.size_toArray, Array.size_append, List.length_take, Array.length_toList]; omega)) | (refine ⟨?_, ?_, ?_⟩ <;> first | omega | (unfold small; omega) | (dsimp only; omega) | exact rfl | decide | (simp only [List.size_toArray, Array.size_append, List.length_take, Array.length_toList]; omega)), ?_⟩) | ((conv => whnf); refine ⟨⟨rfl, rfl, rfl, by first | (simp; done) | exact Nat.le_of_ble_eq_true rfl⟩, ?_⟩))
          conv => whnf
          refine ⟨trivial, 4, fun j st => j ≤ P.length ∧ (∀ x ∈ P.take j, 0 ≤ placeI x) ∧ ∃ tl, (tl = [] ∧ j = 0 ∨ ∃ v4 v5, tl = [(120, v4), (435459026032, v5)]) ∧ st = ⟨σ, [(1954047348, .bytes w), (7310575179022492022, v), (2036625250, .bytes b.toArray), (7632239, .bytes (decUpto b k).toArray), (107, .int ((4 * k : Nat) : Int)), (1953653104, .bytes P.toArray), (110, .int (num (P.take j)))] ++ tl⟩, ⟨by omega, by simp, by first | exact ⟨[], .inl ⟨rfl, rfl⟩, rfl⟩ | exact ⟨_, .inr ⟨_, _, rfl⟩, rfl⟩⟩, ?_⟩
          rintro j st ⟨hj, hallj, tl, htl, rfl⟩
          refine ⟨by omega, ?_⟩
          by_cases hjn : j < P.length
          · obtain ⟨x, hx⟩ : ∃ x, P[j]? = some x := ⟨_, List.getElem?_eq_getElem hjn⟩
            have hx2 := turn_bytes (b := P.toArray) (show P.toArray[j]? = some x by rw [List.getElem?_toArray]; exact hx)
            have hxs := x.toNat_lt
            have hf := find_letter x
            have hsn := num_snoc (P.take j) x
            rw [← take_succ_snoc P j x hx] at hsn
            by_cases hp : placeI x < 0
            · have hd : decide (placeI x < 0) = true := decide_eq_true hp
              have hns := hmem x (List.mem_of_getElem? hx)
              rcases htl with ⟨rfl, hj0⟩ | ⟨v4, v5, rfl⟩
              · repeat (first | ((conv => whnf); rw [hx2]) | ((conv => whnf); rw [hf]) | ((conv => whnf); rw [hd]) | ((conv => whnf); erw [hx2]) | ((conv => whnf); erw [hf]) | ((conv => whnf); erw [hd]) | ((conv => whnf); refine ⟨by first | omega | (unfold small; omega) | (dsimp only; omega) | exact rfl | decide | exact Nat.le_of_ble_eq_true rfl | (refine ⟨?_, ?_⟩ <;> first | omega | (unfold small; omega) | (dsimp only; omega) | exact rfl | decide | (simp only [List.size_toArray, Array.size_append, List.length_take, Array.length_toList]; omega)) | (refine ⟨?_, ?_, ?_⟩ <;> first | omega | (unfold small; omega) | (dsimp only; omega) | exact rfl | decide | (simp only [List.size_toArray, Array.size_append, List.length_take, Array.length_toList]; omega)), ?_⟩) | ((conv => whnf); refine ⟨⟨rfl, rfl, rfl, by first | (simp; done) | exact Nat.le_of_ble_eq_true rfl⟩, ?_⟩))
                exact hq2 fun h => by have := h.2.2 x hns; omega
              · repeat (first | ((conv => whnf); rw [hx2]) | ((conv => whnf); rw [hf]) | ((conv => whnf); rw [hd]) | ((conv => whnf); erw [hx2]) | ((conv => whnf); erw [hf]) | ((conv => whnf); erw [hd]) | ((conv => whnf); refine ⟨by first | omega | (unfold small; omega) | (dsimp only; omega) | exact rfl | decide | exact Nat.le_of_ble_eq_true rfl | (refine ⟨?_, ?_⟩ <;> first | omega | (unfold small; omega) | (dsimp only; omega) | exact rfl | decide | (simp only [List.size_toArray, Array.size_append, List.length_take, Array.length_toList]; omega)) | (refine ⟨?_, ?_, ?_⟩ <;> first | omega | (unfold small; omega) | (dsimp only; omega) | exact rfl | decide | (simp only [List.size_toArray, Array.size_append, List.length_take, Array.length_toList]; omega)), ?_⟩) | ((conv => whnf); refine ⟨⟨rfl, rfl, rfl, by first | (simp; done) | exact Nat.le_of_ble_eq_true rfl⟩, ?_⟩))
                exact hq2 fun h => by have := h.2.2 x hns; omega
            · have hd : decide (placeI x < 0) = false := decide_eq_false hp
              have hpv : placeI x = (pv x : Int) := by unfold pv; omega
              have hnum : ((num (P.take j) : Int) * 64 + placeI x) = (num (P.take (j + 1)) : Int) := by rw [hsn, hpv]; omega
              have hall' : ∀ y ∈ P.take (j + 1), 0 ≤ placeI y := fun y hy => by
                rw [take_succ_snoc P j x hx] at hy
                rcases List.mem_append.mp hy with hy | hy
                · exact hallj y hy
                · rw [List.mem_singleton] at hy; subst hy; omega
              rcases htl with ⟨rfl, hj0⟩ | ⟨v4, v5, rfl⟩
              · repeat (first | ((conv => whnf); rw [hx2]) | ((conv => whnf); rw [hf]) | ((conv => whnf); rw [hd]) | ((conv => whnf); rw [hnum]) | ((conv => whnf); erw [hx2]) | ((conv => whnf); erw [hf]) | ((conv => whnf); erw [hd]) | ((conv => whnf); erw [hnum]) | ((conv => whnf); refine ⟨.inr (by decide), ?_⟩) | ((conv => whnf); refine ⟨by first | omega | (unfold small; omega) | (dsimp only; omega) | exact rfl | decide | exact Nat.le_of_ble_eq_true rfl | (refine ⟨?_, ?_⟩ <;> first | omega | (unfold small; omega) | (dsimp only; omega) | exact rfl | decide | (simp only [List.size_toArray, Array.size_append, List.length_take, Array.length_toList]; omega)) | (refine ⟨?_, ?_, ?_⟩ <;> first | omega | (unfold small; omega) | (dsimp only; omega) | exact rfl | decide | (simp only [List.size_toArray, Array.size_append, List.length_take, Array.length_toList]; omega)), ?_⟩) | ((conv => whnf); refine ⟨⟨rfl, rfl, rfl, by first | (simp; done) | exact Nat.le_of_ble_eq_true rfl⟩, ?_⟩))
                first | exact ⟨_, .inr ⟨_, _, rfl⟩, rfl⟩ | exact ⟨hall', _, .inr ⟨_, _, rfl⟩, rfl⟩
              · repeat (first | ((conv => whnf); rw [hx2]) | ((conv => whnf); rw [hf]) | ((conv => whnf); rw [hd]) | ((conv => whnf); rw [hnum]) | ((conv => whnf); erw [hx2]) | ((conv => whnf); erw [hf]) | ((conv => whnf); erw [hd]) | ((conv => whnf); erw [hnum]) | ((conv => whnf); refine ⟨.inr (by decide), ?_⟩) | ((conv => whnf); refine ⟨by first | omega | (unfold small; omega) | (dsimp only; omega) | exact rfl | decide | exact Nat.le_of_ble_eq_true rfl | (refine ⟨?_, ?_⟩ <;> first | omega | (unfold small; omega) | (dsimp only; omega) | exact rfl | decide | (simp only [List.size_toArray, Array.size_append, List.length_take, Array.length_toList]; omega)) | (refine ⟨?_, ?_, ?_⟩ <;> first | omega | (unfold small; omega) | (dsimp only; omega) | exact rfl | decide | (simp only [List.size_toArray, Array.size_append, List.length_take, Array.length_toList]; omega)), ?_⟩) | ((conv => whnf); refine ⟨⟨rfl, rfl, rfl, by first | (simp; done) | exact Nat.le_of_ble_eq_true rfl⟩, ?_⟩))
                first | exact ⟨_, .inr ⟨_, _, rfl⟩, rfl⟩ | exact ⟨hall', _, .inr ⟨_, _, rfl⟩, rfl⟩
          · have hjP : j = P.length := by omega
            subst hjP
            have hx2 := turn_bytesE (b := P.toArray) (show P.toArray[P.length]? = none by rw [List.getElem?_toArray]; exact List.getElem?_eq_none (Nat.le_refl _))
            rw [List.take_length] at *
            have hall' : ∀ y ∈ b.take (4 * (k + 1)), 0 ≤ placeI y := fun y hy => by
              rw [htake] at hy
              rcases List.mem_append.mp hy with hy | hy
              · exact hall y hy
              · exact hallj y hy
            have hnl := num_lt P
            have hn24 : num P * 2 ^ (6 * (4 - P.length)) < 16777216 := by
              have e : (16777216 : Nat) = 64 ^ P.length * 2 ^ (6 * (4 - P.length)) := by
                have : P.length = 1 ∨ P.length = 2 ∨ P.length = 3 ∨ P.length = 4 := by omega
                rcases this with h | h | h | h <;> rw [h] <;> decide
              rw [e]
              exact Nat.mul_lt_mul_of_pos_right hnl (Nat.two_pow_pos _)
            have hn3 : num P < 16777216 := by
              have := Nat.two_pow_pos (6 * (4 - P.length))
              have := Nat.le_mul_of_pos_right (num P) this
              omega
            unfold decPart at hnext
            have f1 : ((4 : Int) - (P.length : Int)) = ((4 - P.length : Nat) : Int) := by omega
            have f2 : ((6 : Int) * ((4 - P.length : Nat) : Int)) = ((6 * (4 - P.length) : Nat) : Int) := by omega
            have f3 : ((num P : Int) * 2 ^ (((6 * (4 - P.length) : Nat) : Int)).toNat) = ((num P * 2 ^ (6 * (4 - P.length)) : Nat) : Int) := by
              rw [show (((6 * (4 - P.length) : Nat) : Int)).toNat = 6 * (4 - P.length) from rfl, Int.natCast_mul, Int.natCast_pow]; rfl
            have hsh : (0 ≤ ((6 * (4 - P.length) : Nat) : Int) ∧ ((6 * (4 - P.length) : Nat) : Int) ≤ 1000 ∧ small (num P : Int)) := ⟨by omega, by omega, by unfold small; omega⟩
            generalize num P * 2 ^ (6 * (4 - P.length)) = n at *
            have h256 : (256 : Int) ^ (3 : Int).toNat = 16777216 := by decide
            have hside : (⟨#[98, 105, 103]⟩ : Str) = ("big" : Str) ∧ (0 : Int) ≤ 3 ∧ (3 : Int) ≤ 100000 ∧ 0 ≤ (n : Int) ∧ (n : Int) < 256 ^ ((3 : Int)).toNat := ⟨by decide, by decide, by decide, Int.natCast_nonneg _, by rw [h256]; omega⟩
            have f4 : ((P.length : Int) - 1) = ((P.length - 1 : Nat) : Int) := by omega
            have f5 : ∀ l : List UInt8, l.toArray.toList = l := fun _ => rfl
            have f6 := cut_take (octs 3 (n : Int)) (P.length - 1)
            have f7 : (decUpto b k).toArray ++ ((octs 3 (n : Int)).take (P.length - 1)).toArray = (decUpto b (k + 1)).toArray := by rw [hnext]; simp
            have f8 : (decUpto b k).toArray.size + ((octs 3 (n : Int)).take (P.length - 1)).toArray.size ≤ 16777216 := by
              rw [List.size_toArray, List.size_toArray, List.length_take]; omega
            have f9 : (octs 3 (n : Int)).toArray.size ≤ 16777216 := by
              unfold octs
              rw [List.size_toArray, List.length_reverse, W.KTBy.low_length]; decide
            rcases htl with ⟨rfl, hj0⟩ | ⟨v4, v5, rfl⟩
            · exact absurd hj0 (by omega)
            · repeat (first | ((conv => whnf); rw [hx2]) | ((conv => whnf); rw [hPs]) | ((conv => whnf); rw [f1]) | ((conv => whnf); rw [f2]) | ((conv => whnf); rw [f3]) | ((conv => whnf); rw [f4]) | ((conv => whnf); rw [f5]) | ((conv => whnf); rw [f6]) | ((conv => whnf); rw [f7]) | ((conv => whnf); erw [hx2]) | ((conv => whnf); erw [hPs]) | ((conv => whnf); erw [f1]) | ((conv => whnf); erw [f2]) | ((conv => whnf); erw [f3]) | ((conv => whnf); erw [f4]) | ((conv => whnf); erw [f5]) | ((conv => whnf); erw [f6]) | ((conv => whnf); erw [f7]) | ((conv => whnf); refine ⟨hsh, ?_⟩) | ((conv => whnf); refine ⟨hside, ?_⟩) | ((conv => whnf); refine ⟨f8, ?_⟩) | ((conv => whnf); refine ⟨f9, ?_⟩) | ((conv => whnf); refine ⟨by first | omega | (unfold small; omega) | (dsimp only; omega) | exact rfl | decide | exact Nat.le_of_ble_eq_true rfl | (refine ⟨?_, ?_⟩ <;> first | omega | (unfold small; omega) | (dsimp only; omega) | exact rfl | decide | (simp only [List.size_toArray, Array.size_append, List.length_take, Array.length_toList]; omega)) | (refine ⟨?_, ?_, ?_⟩ <;> first | omega | (unfold small; omega) | (dsimp only; omega) | exact rfl | decide | (simp only [List.size_toArray, Array.size_append, List.length_take, Array.length_toList]; omega)), ?_⟩) | ((conv => whnf); refine ⟨⟨rfl, rfl, rfl, by first | (simp; done) | exact Nat.le_of_ble_eq_true rfl⟩, ?_⟩))
              first | exact ⟨_, .inr ⟨_, _, _, _, _, rfl⟩, rfl⟩ | exact ⟨hall', _, .inr ⟨_, _, _, _, _, rfl⟩, rfl⟩
      · have hk2 : k = (b.length + 3) / 4 := by omega
        have ht := turn_stepE (by decide : 0 < 4) hkn
        have hq' : Q (.bytes (decUpto b k).toArray) σ := by
          rw [hk2]
          refine hq ⟨h4, h2, fun x hx => hall x ?_⟩
          rw [List.take_of_length_le (by omega)]; exact hx
        rcases htl with rfl | ⟨v1, v2, v3, v4, v5, rfl⟩
        · repeat (first | ((conv => whnf); rw [ht]) | ((conv => whnf); erw [ht]) | ((conv => whnf); refine ⟨by first | omega | (unfold small; omega) | (dsimp only; omega) | exact rfl | decide | exact Nat.le_of_ble_eq_true rfl | (refine ⟨?_, ?_⟩ <;> first | omega | (unfold small; omega) | (dsimp only; omega) | exact rfl | decide | (simp only [List.size_toArray, Array.size_append, List.length_take, Array.length_toList]; omega)) | (refine ⟨?_, ?_, ?_⟩ <;> first | omega | (unfold small; omega) | (dsimp only; omega) | exact rfl | decide | (simp only [List.size_toArray, Array.size_append, List.length_take, Array.length_toList]; omega)), ?_⟩) | ((conv => whnf); refine ⟨⟨rfl, rfl, rfl, by first | (simp; done) | exact Nat.le_of_ble_eq_true rfl⟩, ?_⟩))
          exact hq'
        · repeat (first | ((conv => whnf); rw [ht]) | ((conv => whnf); erw [ht]) | ((conv => whnf); refine ⟨by first | omega | (unfold small; omega) | (dsimp only; omega) | exact rfl | decide | exact Nat.le_of_ble_eq_true rfl | (refine ⟨?_, ?_⟩ <;> first | omega | (unfold small; omega) | (dsimp only; omega) | exact rfl | decide | (simp only [List.size_toArray, Array.size_append, List.length_take, Array.length_toList]; omega)) | (refine ⟨?_, ?_, ?_⟩ <;> first | omega | (unfold small; omega) | (dsimp only; omega) | exact rfl | decide | (simp only [List.size_toArray, Array.size_append, List.length_take, Array.length_toList]; omega)), ?_⟩) | ((conv => whnf); refine ⟨⟨rfl, rfl, rfl, by first | (simp; done) | exact Nat.le_of_ble_eq_true rfl⟩, ?_⟩))
          exact hq'
    · have d2 : decide (((w.size : Int) - (b.length : Int)) > 2) = true := decide_eq_true (by omega)
      repeat (first | ((conv => whnf); rw [hR]) | ((conv => whnf); rw [hm]) | ((conv => whnf); rw [d1]) | ((conv => whnf); rw [hbs]) | ((conv => whnf); rw [d2]) | ((conv => whnf); erw [hR]) | ((conv => whnf); erw [hm]) | ((conv => whnf); erw [d1]) | ((conv => whnf); erw [hbs]) | ((conv => whnf); erw [d2]) | ((conv => whnf); refine ⟨by first | omega | (unfold small; omega) | (dsimp only; omega) | exact rfl | decide | exact Nat.le_of_ble_eq_true rfl | (refine ⟨?_, ?_⟩ <;> first | omega | (unfold small; omega) | (dsimp only; omega) | exact rfl | decide | (simp only [List.size_toArray, Array.size_append, List.length_take, Array.length_toList]; omega)) | (refine ⟨?_, ?_, ?_⟩ <;> first | omega | (unfold small; omega) | (dsimp only; omega) | exact rfl | decide | (simp only [List.size_toArray, Array.size_append, List.length_take, Array.length_toList]; omega)), ?_⟩) | ((conv => whnf); refine ⟨⟨rfl, rfl, rfl, by first | (simp; done) | exact Nat.le_of_ble_eq_true rfl⟩, ?_⟩))
      exact hq2 fun h => h2 h.2.1
  · have d1 : decide (((w.size % 4 : Nat) : Int) ≠ 0) = true := decide_eq_true (by omega)
    repeat (first | ((conv => whnf); rw [hR]) | ((conv => whnf); rw [hm]) | ((conv => whnf); rw [d1]) | ((conv => whnf); erw [hR]) | ((conv => whnf); erw [hm]) | ((conv => whnf); erw [d1]) | ((conv => whnf); refine ⟨by first | omega | (unfold small; omega) | (dsimp only; omega) | exact rfl | decide | exact Nat.le_of_ble_eq_true rfl | (refine ⟨?_, ?_⟩ <;> first | omega | (unfold small; omega) | (dsimp only; omega) | exact rfl | decide | (simp only [List.size_toArray, Array.size_append, List.length_take, Array.length_toList]; omega)) | (refine ⟨?_, ?_, ?_⟩ <;> first | omega | (unfold small; omega) | (dsimp only; omega) | exact rfl | decide | (simp only [List.size_toArray, Array.size_append, List.length_take, Array.length_toList]; omega)), ?_⟩) | ((conv => whnf); refine ⟨⟨rfl, rfl, rfl, by first | (simp; done) | exact Nat.le_of_ble_eq_true rfl⟩, ?_⟩))
    exact hq2 fun h => h4 h.1
end
end Sm
end
section
set_option maxRecDepth 100000
set_option linter.unusedVariables false
set_option linter.unusedSimpArgs false
set_option maxHeartbeats 2000000
namespace Sm
open PySem
theorem low_nat (X n : Nat) (h : X < 256 ^ n) : (W.KTBy.low (X : Int) n).map UInt8.toNat = (List.range n).map fun i => X / 256 ^ i % 256 := by
  have := W.KTBy.low_ints (x := (X : Int)) (n := n) (Int.natCast_nonneg _) (by have := Int.ofNat_lt.mpr h; rwa [Int.natCast_pow] at this)
  have h2 : ((W.KTBy.low (X : Int) n).map UInt8.toNat).map (fun (m : Nat) => (m : Int)) = ((List.range n).map fun i => X / 256 ^ i % 256).map (fun (m : Nat) => (m : Int)) := by
    rw [List.map_map, List.map_map]
    refine Eq.trans this (List.map_congr_left fun i _ => ?_)
    simp only [Function.comp]
    rw [Int.natCast_emod, Int.natCast_ediv, Int.natCast_pow]; rfl
  exact List.map_inj_right (fun a b e => Int.ofNat.inj e) |>.mp h2
theorem low_inj {l m : List UInt8} (h : l.map UInt8.toNat = m.map UInt8.toNat) : l = m := List.map_inj_right (fun a b e => UInt8.toNat_inj.mp e) |>.mp h
theorem octs_append {a b x y : Nat} (hx : x < 256 ^ a) (hy : y < 256 ^ b) : octs (a + b) ((x * 256 ^ b + y : Nat) : Int) = octs a (x : Int) ++ octs b (y : Int) := by
  unfold octs
  rw [← List.reverse_append]
  congr 1
  apply low_inj
  have hp : 0 < 256 ^ b := Nat.pow_pos (by decide)
  rw [low_nat _ _ (by
    rw [Nat.pow_add]
    have := Nat.mul_le_mul_right (256 ^ b) (show x + 1 ≤ 256 ^ a from hx)
    rw [Nat.add_mul, Nat.one_mul] at this
    omega), List.map_append, low_nat _ _ hx, low_nat _ _ hy, Nat.add_comm a b, List.range_add, List.map_append, List.map_map]
  congr 1
  · refine List.map_congr_left fun i hi => ?_
    have hi := List.mem_range.mp hi
    have e : x * 256 ^ b = x * 256 ^ (b - i - 1) * 256 * 256 ^ i := by
      rw [Nat.mul_assoc, Nat.mul_assoc, ← Nat.pow_succ', ← Nat.pow_add]
      congr 2; omega
    rw [e, Nat.add_comm, Nat.add_mul_div_right _ _ (Nat.pow_pos (by decide)), Nat.add_mul_mod_self_right]
  · refine List.map_congr_left fun j _ => ?_
    simp only [Function.comp]
    rw [Nat.pow_add, ← Nat.div_div_eq_div_mul, Nat.add_comm, Nat.add_mul_div_right _ _ hp, Nat.div_eq_of_lt hy, Nat.zero_add]
theorem octs_len (k : Nat) (x : Int) : (octs k x).length = k := by unfold octs; rw [List.length_reverse, W.KTBy.low_length]
theorem octs_take {a b n : Nat} (h : n < 256 ^ (a + b)) : (octs (a + b) (n : Int)).take a = octs a ((n / 256 ^ b : Nat) : Int) := by
  have hp : 0 < 256 ^ b := Nat.pow_pos (by decide)
  have h1 : n / 256 ^ b < 256 ^ a := by rw [Nat.div_lt_iff_lt_mul hp, ← Nat.pow_add]; exact h
  have h2 := octs_append h1 (Nat.mod_lt n hp)
  rw [Nat.div_add_mod'] at h2
  rw [h2, List.take_left' (octs_len _ _)]
theorem num_append_from (m : List UInt8) : ∀ acc : Nat, m.foldl (fun n x => n * 64 + pv x) acc = acc * 64 ^ m.length + m.foldl (fun n x => n * 64 + pv x) 0 := by
  induction m with
  | nil => intro acc; simp
  | cons x m ih =>
    intro acc
    show List.foldl _ (acc * 64 + pv x) m = acc * 64 ^ (m.length + 1) + List.foldl _ (0 * 64 + pv x) m
    rw [ih (acc * 64 + pv x), ih (0 * 64 + pv x), Nat.pow_succ', Nat.zero_mul, Nat.zero_add, Nat.add_mul, Nat.mul_assoc, Nat.add_assoc]
theorem num_append (l m : List UInt8) : num (l ++ m) = num l * 64 ^ m.length + num m := by
  unfold num
  rw [List.foldl_append, num_append_from]
theorem decUpto_full (b : List UInt8) : ∀ k, 4 * k ≤ b.length → decUpto b k = octs (3 * k) ((num (b.take (4 * k)) : Nat) : Int)
  | 0, _ => rfl
  | k + 1, h => by
    have ih := decUpto_full b k (by omega)
    have hl : ((b.drop (4 * k)).take 4).length = 4 := by rw [List.length_take, List.length_drop]; omega
    have ht : b.take (4 * (k + 1)) = b.take (4 * k) ++ (b.drop (4 * k)).take 4 := by rw [show 4 * (k + 1) = 4 * k + 4 by omega, List.take_add]
    have hlt := num_lt (b.take (4 * k))
    have hlt2 := num_lt ((b.drop (4 * k)).take 4)
    rw [hl] at hlt2
    rw [List.length_take, Nat.min_eq_left (by omega)] at hlt
    show decUpto b k ++ decPart ((b.drop (4 * k)).take 4) = _
    rw [ih, ht, num_append, hl]
    unfold decPart
    rw [hl]
    have e : (64 : Nat) ^ 4 = 256 ^ 3 := by decide
    rw [e] at hlt2
    rw [e, show 3 * (k + 1) = 3 * k + 3 by omega, octs_append (by rw [show 4 * k = 4 * k from rfl, show (64 : Nat) = 2 ^ 6 from rfl, ← Nat.pow_mul] at hlt; rw [show (256 : Nat) = 2 ^ 8 from rfl, ← Nat.pow_mul, show 8 * (3 * k) = 6 * (4 * k) by omega]; exact hlt) hlt2]
    congr 1
    show (octs 3 ((num _ * 2 ^ 0 : Nat) : Int)).take 3 = _
    rw [Nat.pow_zero, Nat.mul_one, List.take_of_length_le (by rw [octs_len]; exact Nat.le_refl _)]
theorem dec_all (b : List UInt8) : decUpto b ((b.length + 3) / 4) = octs (b.length * 6 / 8) ((num b / 2 ^ (b.length * 6 % 8) : Nat) : Int) := by
  generalize hk : b.length / 4 = k
  generalize hr : b.length % 4 = r
  have hlen : b.length = 4 * k + r := by omega
  have hA := decUpto_full b k (by omega)
  have hsplit : b = b.take (4 * k) ++ b.drop (4 * k) := (List.take_append_drop _ _).symm
  have hPl : (b.drop (4 * k)).length = r := by rw [List.length_drop]; omega
  have hlt := num_lt (b.take (4 * k))
  rw [List.length_take, Nat.min_eq_left (by omega), show (64 : Nat) = 2 ^ 6 from rfl, ← Nat.pow_mul, show 6 * (4 * k) = 8 * (3 * k) by omega, Nat.pow_mul, show (2 : Nat) ^ 8 = 256 from rfl] at hlt
  have hPlt := num_lt (b.drop (4 * k))
  rw [hPl] at hPlt
  have hnum : num b = num (b.take (4 * k)) * 64 ^ r + num (b.drop (4 * k)) := by
    rw [← hPl, ← num_append, ← hsplit]
  have hPt : (b.drop (4 * k)).take 4 = b.drop (4 * k) := List.take_of_length_le (by omega)
  rw [hnum, hlen]
  have hstep : decUpto b (k + 1) = decUpto b k ++ decPart (b.drop (4 * k)) := by
    show decUpto b k ++ decPart ((b.drop (4 * k)).take 4) = _
    rw [hPt]
  generalize b.drop (4 * k) = P at *
  generalize num (b.take (4 * k)) = A at *
  have h4 : r = 0 ∨ r = 1 ∨ r = 2 ∨ r = 3 := by omega
  rcases h4 with rfl | rfl | rfl | rfl
  · have hP0 : num P = 0 := by omega
    rw [show (4 * k + 0 + 3) / 4 = k by omega, show (4 * k + 0) * 6 / 8 = 3 * k by omega, show (4 * k + 0) * 6 % 8 = 0 by omega, hP0, hA]
    simp
  · rw [show (4 * k + 1 + 3) / 4 = k + 1 by omega, show (4 * k + 1) * 6 / 8 = 3 * k by omega, show (4 * k + 1) * 6 % 8 = 6 by omega, hstep, hA]
    have : decPart P = [] := by unfold decPart; rw [hPl]; rfl
    rw [this, List.append_nil, show (A * 64 ^ 1 + num P) / 2 ^ 6 = A by omega]
  · rw [show (4 * k + 2 + 3) / 4 = k + 1 by omega, show (4 * k + 2) * 6 / 8 = 3 * k + 1 by omega, show (4 * k + 2) * 6 % 8 = 4 by omega, hstep, hA]
    have : decPart P = octs 1 ((num P / 16 : Nat) : Int) := by
      unfold decPart; rw [hPl]
      show (octs (1 + 2) ((num P * 2 ^ 12 : Nat) : Int)).take 1 = _
      rw [octs_take (by omega), show num P * 2 ^ 12 / 256 ^ 2 = num P / 16 by omega]
    rw [this, ← octs_append hlt (by omega), show (A * 64 ^ 2 + num P) / 2 ^ 4 = A * 256 ^ 1 + num P / 16 by omega]
  · rw [show (4 * k + 3 + 3) / 4 = k + 1 by omega, show (4 * k + 3) * 6 / 8 = 3 * k + 2 by omega, show (4 * k + 3) * 6 % 8 = 2 by omega, hstep, hA]
    have : decPart P = octs 2 ((num P / 4 : Nat) : Int) := by
      unfold decPart; rw [hPl]
      show (octs (2 + 1) ((num P * 2 ^ 6 : Nat) : Int)).take 2 = _
      rw [octs_take (by omega), show num P * 2 ^ 6 / 256 ^ 1 = num P / 4 by omega]
    rw [this, ← octs_append hlt (by omega), show (A * 64 ^ 3 + num P) / 2 ^ 2 = A * 256 ^ 2 + num P / 4 by omega]
theorem bodyR_eq (w : List UInt8) : bodyR w = (w.reverse.dropWhile (· == 61)).reverse := by
  unfold bodyR stripB
  simp only [Bool.false_eq_true, if_false, if_true]
  have : (#[61] : Array UInt8).contains = (· == 61) := by
    funext x
    rw [Bool.eq_iff_iff]
    simp
  rw [this]
theorem place_eq : placeI 61 = -1 := by decide +kernel
theorem sound_iff (w : List UInt8) : (soundD w ↔ sound w) ∧ (sound w → toldD w = told w) := by
  have hw : w = w.reverse.reverse := (List.reverse_reverse _).symm
  have key : bodyR w = body2 w → (soundD w ↔ sound w) ∧ (sound w → toldD w = told w) := by
    intro e
    have hd : w.length - (body2 w).length ≤ 2 := by
      unfold body2
      split
      · rename_i h; have := congrArg List.length h; simp only [List.length_reverse, List.length_cons] at this ⊢; omega
      · rename_i h; have := congrArg List.length h; simp only [List.length_reverse, List.length_cons] at this ⊢; omega
      · omega
    refine ⟨?_, fun _ => ?_⟩
    · unfold soundD sound
      rw [e]
      exact ⟨fun h => ⟨h.2.2, h.1⟩, fun h => ⟨h.2, hd, h.1⟩⟩
    · unfold toldD told
      rw [e, dec_all]
  by_cases h3 : ∃ r, w.reverse = 61 :: 61 :: 61 :: r
  · obtain ⟨r, hr⟩ := h3
    have hn : ¬ sound w := fun h => by
      have hb : body2 w = (61 :: r).reverse := by unfold body2; rw [hr]; rfl
      have := h.1 61 (by rw [hb]; simp)
      rw [place_eq] at this
      omega
    have hn2 : ¬ soundD w := fun h => by
      have h2 := h.2.1
      rw [bodyR_eq, hr] at h2
      simp only [List.dropWhile_cons, beq_self_eq_true, if_true, List.length_reverse] at h2
      have h5 := (List.dropWhile_suffix (p := fun x : UInt8 => x == 61) (l := r)).length_le
      have h6 := congrArg List.length hr
      simp only [List.length_reverse, List.length_cons] at h6
      omega
    exact ⟨⟨fun h => absurd h hn2, fun h => absurd h hn⟩, fun h => absurd h hn⟩
  · refine key ?_
    rw [bodyR_eq]
    unfold body2
    generalize w.reverse = rr at hw h3
    subst hw
    split
    · rename_i r
      rw [List.dropWhile_cons, if_pos (by rfl), List.dropWhile_cons, if_pos (by rfl)]
      rcases r with _ | ⟨x, r⟩
      · rfl
      · rw [List.dropWhile_cons, if_neg]
        intro h
        exact h3 ⟨r, by rw [eq_of_beq h]⟩
    · rename_i r hn
      rw [List.dropWhile_cons, if_pos (by rfl)]
      rcases r with _ | ⟨x, r⟩
      · rfl
      · rw [List.dropWhile_cons, if_neg]
        intro h
        exact hn r (by rw [eq_of_beq h])
    · rename_i hn hn2
      rcases rr with _ | ⟨x, r⟩
      · rfl
      · rw [List.dropWhile_cons, if_neg]
        intro h
        exact hn2 r (by rw [eq_of_beq h])
end Sm
end
section
set_option maxRecDepth 100000
set_option linter.unusedVariables false
set_option linter.unusedSimpArgs false
set_option maxHeartbeats 2000000
namespace Sm
open PySem
theorem app_get0 {σ : List AObj} {o : AObj} {l : List AObj} : (σ ++ o :: l)[σ.length]? = some o := by
  rw [List.getElem?_append_right (Nat.le_refl _), Nat.sub_self]; rfl
theorem app_set0 {σ : List AObj} {o x : AObj} {l : List AObj} : (σ ++ o :: l).set σ.length x = σ ++ x :: l := by
  rw [List.set_append_right _ _ (Nat.le_refl _), Nat.sub_self]; rfl
theorem app_old {σ l : List AObj} {i : Nat} {o : AObj} (h : σ[i]? = some o) : (σ ++ l)[i]? = some o := by
  rw [List.getElem?_append_left (lt_of_at h)]; exact h
def okSign (x : UInt8) : Prop := x = 9 ∨ 32 ≤ x.toNat
def okLine (l : Array UInt8) : Prop := l.size ≤ 40 ∧ ∀ x ∈ l.toList, okSign x
def SpSixty (O : Bool → Addr → Sp) : Prop := ∀ (b : Array UInt8) (σ : List AObj) (Q : AV → List AObj → Prop) (X : Nat → List AObj → Prop), b.size ≤ 1000 → Q (.bytes (ascB (sL (sixty b)))) σ → O false 688 [.bytes b] [] σ Q X
theorem intsOf_map : ∀ ns : List Int, intsOf (ns.map .int) = some ns
  | [] => rfl
  | n :: r => by
    show (intsOf (r.map .int)).map (n :: ·) = _
    rw [intsOf_map r]; rfl
theorem lower_all : ∀ n : Fin 256, 32 ≤ n.val → 32 ≤ (Builtin.Bytes.toLower n.val.toUInt8).toNat := by decide +kernel
theorem lower_ok {x : UInt8} (h : 32 ≤ x.toNat) : 32 ≤ (Builtin.Bytes.toLower x).toNat := by
  have := lower_all ⟨x.toNat, x.toNat_lt⟩ h
  simpa using this
theorem sixty_signs (b : Array UInt8) : ∀ x ∈ (ascB (sL (sixty b))).toList, 32 ≤ x.toNat := by
  have hl : ∀ c ∈ 61 :: letters, 32 ≤ c ∧ c < 256 := by decide
  intro x hx
  unfold ascB at hx
  obtain ⟨c, hc, rfl⟩ := List.mem_map.mp hx
  have hc2 : c ∈ sixty b := by simpa [sL] using hc
  have := hl c (sixty_mem b c hc2)
  rw [Nat.toUInt8_eq, UInt8.toNat_ofNat']
  omega
theorem sixty_size (b : Array UInt8) : (ascB (sL (sixty b))).size ≤ sixLen b.size := by
  have := sixty_len b
  simpa [ascB, sL] using this
theorem fmodNat (i : Int) (n : Nat) (h : 0 < n) : ∃ p : Nat, Int.fmod i (n : Int) = (p : Int) ∧ p < n := by
  refine ⟨(Int.fmod i n).toNat, ?_, ?_⟩
  · have := Int.fmod_nonneg_of_pos i (show (0 : Int) < n by omega); omega
  · have := Int.fmod_lt_of_pos i (show (0 : Int) < n by omega)
    have := Int.fmod_nonneg_of_pos i (show (0 : Int) < n by omega)
    omega
def okB (a : Array UInt8) : Prop := ∀ x ∈ a.toList, okSign x
theorem okB_app {a b : Array UInt8} (ha : okB a) (hb : okB b) : okB (a ++ b) := fun x hx => by
  rw [Array.toList_append] at hx
  rcases List.mem_append.mp hx with h | h
  · exact ha x h
  · exact hb x h
section
variable {O : Bool → Addr → Sp} {Q : AV → List AObj → Prop} {X : Nat → List AObj → Prop} {σ : List AObj}
theorem c_law_answer {i : Int} (hS : SpSixty O) (hq : ∀ l o, okLine l → Q (.bytes l) (σ ++ [o])) :
    exs G7 blts O b_law_answer none ⟨σ, [(125779768604014, .int i)]⟩ (RQ Q) (RX X) := by
  obtain ⟨r, hr, hr11⟩ := fmodNat (i.fdiv 9) 11 (by decide)
  have hr : Int.fmod (i.fdiv 9) 11 = (r : Int) := hr
  repeat (first | ((conv => whnf); rw [hr]) | ((conv => whnf); erw [hr]) | ((conv => whnf); change (_ ∧ _ ∧ iterOk _ _) ∧ _; refine ⟨⟨rfl, rfl, range_small r (by omega)⟩, ?_⟩) | ((conv => whnf); refine And.intro (by first | omega | (unfold small; omega) | (dsimp only; omega) | exact rfl | decide | exact Nat.le_of_ble_eq_true rfl | (refine ⟨?_, ?_⟩ <;> first | omega | (unfold small; omega) | (dsimp only; omega) | exact rfl | decide | (simp only [List.size_toArray, Array.size_append, List.length_take, Array.length_toList]; omega)) | (refine ⟨?_, ?_, ?_⟩ <;> first | omega | (unfold small; omega) | (dsimp only; omega) | exact rfl | decide | (simp only [List.size_toArray, Array.size_append, List.length_take, Array.length_toList]; omega))) ?_) | ((conv => whnf); refine And.intro ⟨rfl, rfl, rfl, by first | (simp; done) | exact Nat.le_of_ble_eq_true rfl⟩ ?_))
  conv => whnf
  refine ⟨11, fun k acc σ' => σ' = σ ∧ k ≤ r ∧ ∃ ns : List Int, acc = ns.map .int ∧ ns.length = k ∧ ∀ n ∈ ns, 0 ≤ n ∧ n < 256, by decide, ⟨rfl, by omega, [], rfl, rfl, fun _ h => by cases h⟩, ?_⟩
  rintro k acc σ' ⟨rfl, hk, ns, rfl, hlen, hall⟩
  refine ⟨by omega, by rw [List.length_map]; exact hlen, ?_⟩
  by_cases hkn : k < r
  · have ht := turn_rng hkn
    repeat (first | ((conv => whnf); rw [ht]) | ((conv => whnf); erw [ht]) | ((conv => whnf); refine ⟨.inl (by unfold small; decide), ?_⟩) | ((conv => whnf); refine And.intro (by first | omega | (unfold small; omega) | (dsimp only; omega) | exact rfl | decide | exact Nat.le_of_ble_eq_true rfl | (refine ⟨?_, ?_⟩ <;> first | omega | (unfold small; omega) | (dsimp only; omega) | exact rfl | decide | (simp only [List.size_toArray, Array.size_append, List.length_take, Array.length_toList]; omega)) | (refine ⟨?_, ?_, ?_⟩ <;> first | omega | (unfold small; omega) | (dsimp only; omega) | exact rfl | decide | (simp only [List.size_toArray, Array.size_append, List.length_take, Array.length_toList]; omega))) ?_) | ((conv => whnf); refine And.intro ⟨rfl, rfl, rfl, by first | (simp; done) | exact Nat.le_of_ble_eq_true rfl⟩ ?_))
    have hb := Int.fmod_nonneg_of_pos (i + 41 * (k : Int)) (show (0 : Int) < 256 by decide)
    have hb2 := Int.fmod_lt_of_pos (i + 41 * (k : Int)) (show (0 : Int) < 256 by decide)
    refine ⟨ns ++ [Int.fmod (i + 41 * (k : Int)) 256], by rw [List.map_append]; rfl, by rw [List.length_append, hlen]; rfl, fun n hn => ?_⟩
    rcases List.mem_append.mp hn with hn | hn
    · exact hall n hn
    · rw [List.mem_singleton] at hn; subst hn; exact ⟨hb, hb2⟩
  · have ht := turn_rngE hkn
    have hg : (σ' ++ [AObj.list (ns.map .int)])[σ'.length]? = some (.list (ns.map .int)) := app_get0
    have hi := intsOf_map ns
    have hmb : (ns.map AV.int).length ≤ 1000 := by rw [List.length_map]; omega
    have hbs : ((ns.map fun n => n.toNat.toUInt8).toArray).size = ns.length := by simp
    repeat (first | ((conv => whnf); rw [ht]) | ((conv => whnf); rw [hg]) | ((conv => whnf); rw [hi]) | ((conv => whnf); erw [ht]) | ((conv => whnf); erw [hg]) | ((conv => whnf); erw [hi]) | ((conv => whnf); refine And.intro ⟨rfl, hmb, hall⟩ ?_) | ((conv => whnf); refine And.intro (by first | omega | (unfold small; omega) | (dsimp only; omega) | exact rfl | decide | exact Nat.le_of_ble_eq_true rfl | (refine ⟨?_, ?_⟩ <;> first | omega | (unfold small; omega) | (dsimp only; omega) | exact rfl | decide | (simp only [List.size_toArray, Array.size_append, List.length_take, Array.length_toList]; omega)) | (refine ⟨?_, ?_, ?_⟩ <;> first | omega | (unfold small; omega) | (dsimp only; omega) | exact rfl | decide | (simp only [List.size_toArray, Array.size_append, List.length_take, Array.length_toList]; omega))) ?_) | ((conv => whnf); refine And.intro ⟨rfl, rfl, rfl, by first | (simp; done) | exact Nat.le_of_ble_eq_true rfl⟩ ?_))
    conv => whnf
    generalize ((ns.map fun n => n.toNat.toUInt8).toArray) = b at hbs
    refine hS b _ _ _ (by omega) ?_
    have hs1 := sixty_signs b
    have hs2 := sixty_size b
    unfold sixLen at hs2
    have hs3 : fillN b.size ≤ 2 := by unfold fillN; omega
    have hs4 : (b.size + fillN b.size) / 3 * 4 ≤ 16 := by
      have : b.size ≤ 10 := by omega
      unfold fillN; omega
    generalize ascB (sL (sixty b)) = S at *
    have hS16 : S.size ≤ 16 := by omega
    obtain ⟨p, hp, hpl⟩ := fmodNat (i.fdiv 4) (S.size + 1) (by omega)
    have hp : Int.fmod (i.fdiv 4) ((S.size : Int) + 1) = (p : Int) := hp
    obtain ⟨q, hqq, hq5⟩ := fmodNat (i.fdiv 4) 5 (by decide)
    have hqq : Int.fmod (i.fdiv 4) 5 = (q : Int) := hqq
    obtain ⟨y, hy, hy9⟩ := fmodNat i 9 (by decide)
    have hy : Int.fmod i 9 = (y : Int) := hy
    have c1 := cut_take S.toList p
    have c2 := cut_drop S.toList p
    have c3 := cut_drop S.toList (p + 1)
    have c4 : cut ([61, 61, 61, 61] : List UInt8) none (some (q : Int)) = [61, 61, 61, 61].take q := cut_take _ q
    have e1 : ((p : Int) + 1) = ((p + 1 : Nat) : Int) := by omega
    have z1 : ∀ x : UInt8, (#[x] : Array UInt8).size = 1 := fun _ => rfl
    have t1 : (S.toList.take p).toArray.size = min p S.size := by rw [List.size_toArray, List.length_take]; rfl
    have t2 : (S.toList.drop p).toArray.size = S.size - p := by rw [List.size_toArray, List.length_drop]; rfl
    have t3 : (S.toList.drop (p + 1)).toArray.size = S.size - (p + 1) := by rw [List.size_toArray, List.length_drop]; rfl
    have t4 : (S.toList.map Builtin.Bytes.toLower).toArray.size = S.size := by rw [List.size_toArray, List.length_map]; rfl
    have t5 : (([61, 61, 61, 61] : List UInt8).take q).toArray.size = min q 4 := by rw [List.size_toArray, List.length_take]; rfl
    have oS : okB S := fun x hx => .inr (hs1 x hx)
    have oT : okB (S.toList.take p).toArray := fun x hx => oS x (List.mem_of_mem_take hx)
    have oD : okB (S.toList.drop p).toArray := fun x hx => oS x (List.mem_of_mem_drop hx)
    have oD1 : okB (S.toList.drop (p + 1)).toArray := fun x hx => oS x (List.mem_of_mem_drop hx)
    have oL : okB (S.toList.map Builtin.Bytes.toLower).toArray := fun x hx => by
      obtain ⟨y, hy, rfl⟩ := List.mem_map.mp hx
      exact .inr (lower_ok (hs1 y hy))
    have one : ∀ x : UInt8, okSign x → okB #[x] := fun x h y hy => by
      have : y = x := by simpa using hy
      subst this; exact h
    have o32 := one 32 (.inr (by decide))
    have o9 := one 9 (.inl rfl)
    have o42 := one 42 (.inr (by decide))
    have o45 := one 45 (.inr (by decide))
    have o61 := one 61 (.inr (by decide))
    have oQ : okB (([61, 61, 61, 61] : List UInt8).take q).toArray := fun x hx => by
      have := List.mem_of_mem_take (show x ∈ ([61, 61, 61, 61] : List UInt8).take q from hx)
      have : x = 61 := by simpa using this
      subst this; exact .inr (by decide)
    have hSl : S.toList.length = S.size := rfl
    have hyc : y = 0 ∨ y = 1 ∨ y = 2 ∨ y = 3 ∨ y = 4 ∨ y = 5 ∨ y = 6 ∨ y = 7 ∨ y = 8 := by omega
    rcases hyc with rfl | rfl | rfl | rfl | rfl | rfl | rfl | rfl | rfl
    all_goals (repeat (first | ((conv => whnf); rw [hp]) | ((conv => whnf); rw [hy]) | ((conv => whnf); rw [c1]) | ((conv => whnf); rw [c2]) | ((conv => whnf); rw [c3]) | ((conv => whnf); rw [c4]) | ((conv => whnf); rw [e1]) | ((conv => whnf); rw [hqq]) | ((conv => whnf); erw [hp]) | ((conv => whnf); erw [hy]) | ((conv => whnf); erw [c1]) | ((conv => whnf); erw [c2]) | ((conv => whnf); erw [c3]) | ((conv => whnf); erw [c4]) | ((conv => whnf); erw [e1]) | ((conv => whnf); erw [hqq]) | ((conv => whnf); refine And.intro (by simp only [Array.size_append, z1, t1, t2, t3, t4, t5]; omega) ?_) | ((conv => whnf); refine And.intro (by first | omega | (unfold small; omega) | (dsimp only; omega) | exact rfl | decide | exact Nat.le_of_ble_eq_true rfl | (refine ⟨?_, ?_⟩ <;> first | omega | (unfold small; omega) | (dsimp only; omega) | exact rfl | decide | (simp only [List.size_toArray, Array.size_append, List.length_take, Array.length_toList]; omega)) | (refine ⟨?_, ?_, ?_⟩ <;> first | omega | (unfold small; omega) | (dsimp only; omega) | exact rfl | decide | (simp only [List.size_toArray, Array.size_append, List.length_take, Array.length_toList]; omega))) ?_) | ((conv => whnf); refine And.intro ⟨rfl, rfl, rfl, by first | (simp; done) | exact Nat.le_of_ble_eq_true rfl⟩ ?_)))
    · exact hq _ _ ⟨by omega, oS⟩
    · exact hq _ _ ⟨by rw [Array.size_append, Array.size_append, z1, z1]; omega, okB_app (okB_app o32 oS) o9⟩
    · exact hq _ _ ⟨by decide, o42⟩
    · exact hq _ _ ⟨by rw [t1]; omega, oT⟩
    · exact hq _ _ ⟨by rw [Array.size_append, Array.size_append, z1, t1, t3]; omega, okB_app (okB_app oT o45) oD1⟩
    · exact hq _ _ ⟨by rw [Array.size_append, Array.size_append, z1, t1, t2]; omega, okB_app (okB_app oT o61) oD⟩
    · exact hq _ _ ⟨by rw [Array.size_append]; omega, okB_app oS oS⟩
    · exact hq _ _ ⟨by rw [t4]; omega, oL⟩
    · exact hq _ _ ⟨by rw [Array.size_append, t5]; omega, okB_app oS oQ⟩
end
end Sm
end
section
set_option maxRecDepth 100000
set_option linter.unusedVariables false
set_option linter.unusedSimpArgs false
set_option maxHeartbeats 2000000
namespace Sm
open PySem
structure Srv where
  handler : Nat
  limits : Nat
  auth : Nat
  hooks : Nat
  methods : Nat
  session : AV
  envelope : AV
  transport : AV
  routine : AV
  tail : List (Nat × AV)
def tIdent : Str := ⟨#[112, 111, 115, 116, 32, 49, 50]⟩
def tHost : Str := ⟨#[109, 120, 49, 46, 101, 120, 97, 109, 112, 108, 101]⟩
def Srv.obj (s : Srv) : AObj := .inst 672 ([(500068344937, .str tIdent), (1886351212, .none), (9063399550879417817601583445605, .ref s.handler), (604444757095078001634194158471373156, .int 33554432), (292195074319195167906729805251440229, .bool false), (30160741268843025212933235807, .bool false), (2574726598080873317446872829738011858461093731, .ref s.limits), (7308604897320202088, .str tHost), (140803950564158414787931252, .none), (153424349561367068863149008691576006002, .none), (2706876619010479449082282535039198290334479455, .bool true), (8591114597617392126741235659871, .none), (2596855164441389628957528527440234342918549343, .none), (31084746137363827, s.session), (7309464706571726437, s.envelope), (2148068245634122084980, s.transport), (8835912113096952814114134223093550660282463, s.routine), (39276633060754649796355352386697671565663, .bool true), (2036278413562047103951696116932959, .bool false), (9142321874161755687634362261855, .ref s.auth), (9144488302065274971230765672543, .ref s.hooks), (2320233373816691738565317457634655, .none), (9142321874161755687668721480543, .ref s.methods), (2596070463962024529842498964163142344380409183, .bool false)] ++ s.tail)
def Srv.on (s : Srv) (i e n : Nat) : Srv := { s with session := .ref n, envelope := .ref e, transport := .ref i, routine := .ref i, tail := [(32199629150188127, .ref i), (32199698004735839, .ref i)] }
section
variable {σ : List AObj} {i : Nat} {c : Conn}
theorem meth_get_extra_info (hc : σ[i]? = some c.obj) : methodOf G7 σ (.ref i) 2259462909320504184383269978269031 = some (.user 101) := by unfold methodOf; dsimp only; rw [hc]; rfl
theorem meth_readuntil (hc : σ[i]? = some c.obj) : methodOf G7 σ (.ref i) 1999847179882386777458 = some (.user 116) := by unfold methodOf; dsimp only; rw [hc]; rfl
theorem meth_readline (hc : σ[i]? = some c.obj) : methodOf G7 σ (.ref i) 7308895159530382706 = some (.user 123) := by unfold methodOf; dsimp only; rw [hc]; rfl
theorem meth_write (hc : σ[i]? = some c.obj) : methodOf G7 σ (.ref i) 435744764535 = some (.user 144) := by unfold methodOf; dsimp only; rw [hc]; rfl
theorem meth_drain (hc : σ[i]? = some c.obj) : methodOf G7 σ (.ref i) 474214396516 = some (.user 151) := by unfold methodOf; dsimp only; rw [hc]; rfl
theorem meth_cancel (hc : σ[i]? = some c.obj) : methodOf G7 σ (.ref i) 119182715674979 = some (.user 158) := by unfold methodOf; dsimp only; rw [hc]; rfl
theorem meth_close (hc : σ[i]? = some c.obj) : methodOf G7 σ (.ref i) 435728378979 = some (.user 165) := by unfold methodOf; dsimp only; rw [hc]; rfl
end
section
variable {σ : List AObj} {j i e n : Nat} {s : Srv}
theorem smeth_create_session (hs : σ[j]? = some (s.on i e n).obj) : methodOf G7 σ (.ref j) 573412356592182058285592000341369695 = some (.user 421) := by unfold methodOf; dsimp only; rw [hs]; rfl
theorem zmeth_create_session (hs : σ[j]? = some s.obj) (ht : s.tail = []) : methodOf G7 σ (.ref j) 573412356592182058285592000341369695 = some (.user 421) := by obtain ⟨a, b, c, d, e, f, g, h, i, k⟩ := s; cases ht; unfold methodOf; dsimp only; rw [hs]; rfl
theorem smeth_create_envelope (hs : σ[j]? = some (s.on i e n).obj) : methodOf G7 σ (.ref j) 134835824757941121302624120582196847455 = some (.user 428) := by unfold methodOf; dsimp only; rw [hs]; rfl
theorem zmeth_create_envelope (hs : σ[j]? = some s.obj) (ht : s.tail = []) : methodOf G7 σ (.ref j) 134835824757941121302624120582196847455 = some (.user 428) := by obtain ⟨a, b, c, d, e, f, g, h, i, k⟩ := s; cases ht; unfold methodOf; dsimp only; rw [hs]; rfl
theorem smeth_call_handler_hook (hs : σ[j]? = some (s.on i e n).obj) : methodOf G7 σ (.ref j) 9358934023668868285814945626043786538869599 = some (.user 435) := by unfold methodOf; dsimp only; rw [hs]; rfl
theorem zmeth_call_handler_hook (hs : σ[j]? = some s.obj) (ht : s.tail = []) : methodOf G7 σ (.ref j) 9358934023668868285814945626043786538869599 = some (.user 435) := by obtain ⟨a, b, c, d, e, f, g, h, i, k⟩ := s; cases ht; unfold methodOf; dsimp only; rw [hs]; rfl
theorem smeth_commands (hs : σ[j]? = some (s.on i e n).obj) : methodOf G7 σ (.ref j) 2128612397250444747615 = some (.user 442) := by unfold methodOf; dsimp only; rw [hs]; rfl
theorem zmeth_commands (hs : σ[j]? = some s.obj) (ht : s.tail = []) : methodOf G7 σ (.ref j) 2128612397250444747615 = some (.user 442) := by obtain ⟨a, b, c, d, e, f, g, h, i, k⟩ := s; cases ht; unfold methodOf; dsimp only; rw [hs]; rfl
theorem smeth_call (hs : σ[j]? = some (s.on i e n).obj) : methodOf G7 σ (.ref j) 465674789727 = some (.user 449) := by unfold methodOf; dsimp only; rw [hs]; rfl
theorem zmeth_call (hs : σ[j]? = some s.obj) (ht : s.tail = []) : methodOf G7 σ (.ref j) 465674789727 = some (.user 449) := by obtain ⟨a, b, c, d, e, f, g, h, i, k⟩ := s; cases ht; unfold methodOf; dsimp only; rw [hs]; rfl
theorem smeth_connection_made (hs : σ[j]? = some (s.on i e n).obj) : methodOf G7 σ (.ref j) 526457942653382180055239292051418979 = some (.user 464) := by unfold methodOf; dsimp only; rw [hs]; rfl
theorem zmeth_connection_made (hs : σ[j]? = some s.obj) (ht : s.tail = []) : methodOf G7 σ (.ref j) 526457942653382180055239292051418979 = some (.user 464) := by obtain ⟨a, b, c, d, e, f, g, h, i, k⟩ := s; cases ht; unfold methodOf; dsimp only; rw [hs]; rfl
theorem smeth_cb_client_connected (hs : σ[j]? = some (s.on i e n).obj) : methodOf G7 σ (.ref j) 573161591195383374840980575297412846971301028703 = some (.user 471) := by unfold methodOf; dsimp only; rw [hs]; rfl
theorem zmeth_cb_client_connected (hs : σ[j]? = some s.obj) (ht : s.tail = []) : methodOf G7 σ (.ref j) 573161591195383374840980575297412846971301028703 = some (.user 471) := by obtain ⟨a, b, c, d, e, f, g, h, i, k⟩ := s; cases ht; unfold methodOf; dsimp only; rw [hs]; rfl
theorem smeth_set_post_data_state (hs : σ[j]? = some (s.on i e n).obj) : methodOf G7 σ (.ref j) 579203443814083752135918088429860055947082560351 = some (.user 478) := by unfold methodOf; dsimp only; rw [hs]; rfl
theorem zmeth_set_post_data_state (hs : σ[j]? = some s.obj) (ht : s.tail = []) : methodOf G7 σ (.ref j) 579203443814083752135918088429860055947082560351 = some (.user 478) := by obtain ⟨a, b, c, d, e, f, g, h, i, k⟩ := s; cases ht; unfold methodOf; dsimp only; rw [hs]; rfl
theorem smeth_set_rset_state (hs : σ[j]? = some (s.on i e n).obj) : methodOf G7 σ (.ref j) 526782463397543448371712452385403743 = some (.user 485) := by unfold methodOf; dsimp only; rw [hs]; rfl
theorem zmeth_set_rset_state (hs : σ[j]? = some s.obj) (ht : s.tail = []) : methodOf G7 σ (.ref j) 526782463397543448371712452385403743 = some (.user 485) := by obtain ⟨a, b, c, d, e, f, g, h, i, k⟩ := s; cases ht; unfold methodOf; dsimp only; rw [hs]; rfl
theorem smeth_push (hs : σ[j]? = some (s.on i e n).obj) : methodOf G7 σ (.ref j) 1752397168 = some (.user 492) := by unfold methodOf; dsimp only; rw [hs]; rfl
theorem zmeth_push (hs : σ[j]? = some s.obj) (ht : s.tail = []) : methodOf G7 σ (.ref j) 1752397168 = some (.user 492) := by obtain ⟨a, b, c, d, e, f, g, h, i, k⟩ := s; cases ht; unfold methodOf; dsimp only; rw [hs]; rfl
theorem smeth_handle_client (hs : σ[j]? = some (s.on i e n).obj) : methodOf G7 σ (.ref j) 2361505997335214543533979314776159 = some (.user 506) := by unfold methodOf; dsimp only; rw [hs]; rfl
theorem zmeth_handle_client (hs : σ[j]? = some s.obj) (ht : s.tail = []) : methodOf G7 σ (.ref j) 2361505997335214543533979314776159 = some (.user 506) := by obtain ⟨a, b, c, d, e, f, g, h, i, k⟩ := s; cases ht; unfold methodOf; dsimp only; rw [hs]; rfl
theorem smeth_smtp_QUIT (hs : σ[j]? = some (s.on i e n).obj) : methodOf G7 σ (.ref j) 1554810721399741902195 = some (.user 549) := by unfold methodOf; dsimp only; rw [hs]; rfl
theorem zmeth_smtp_QUIT (hs : σ[j]? = some s.obj) (ht : s.tail = []) : methodOf G7 σ (.ref j) 1554810721399741902195 = some (.user 549) := by obtain ⟨a, b, c, d, e, f, g, h, i, k⟩ := s; cases ht; unfold methodOf; dsimp only; rw [hs]; rfl
theorem smeth_challenge_auth (hs : σ[j]? = some (s.on i e n).obj) : methodOf G7 σ (.ref j) 2118597393093877377273446631827555 = some (.user 571) := by unfold methodOf; dsimp only; rw [hs]; rfl
theorem zmeth_challenge_auth (hs : σ[j]? = some s.obj) (ht : s.tail = []) : methodOf G7 σ (.ref j) 2118597393093877377273446631827555 = some (.user 571) := by obtain ⟨a, b, c, d, e, f, g, h, i, k⟩ := s; cases ht; unfold methodOf; dsimp only; rw [hs]; rfl
end
def crlf : Array UInt8 := #[13, 10]
def Conn.say (c : Conn) (o : Array UInt8) : Conn := { c with sent := c.sent ++ o }
def SpWrite (O : Bool → Addr → Sp) : Prop := ∀ (hd : Bool) (i : Nat) (c : Conn) (o : Array UInt8) (σ : List AObj) (Q : AV → List AObj → Prop) (X : Nat → List AObj → Prop), σ[i]? = some c.obj → c.closed = false → c.sent.size + o.size ≤ 100000 → Q .none (σ.set i (c.say o).obj) → O hd 144 [.ref i, .bytes o] [] σ Q X
def SpDrain (O : Bool → Addr → Sp) : Prop := ∀ (hd : Bool) (i : Nat) (σ : List AObj) (Q : AV → List AObj → Prop) (X : Nat → List AObj → Prop), Q .none σ → O hd 151 [.ref i] [] σ Q X
theorem inst_ne {σ : List AObj} {i j : Nat} {a b : AObj} (ha : σ[i]? = some a) (hb : σ[j]? = some b) (h : a ≠ b) : i ≠ j := fun e => h (by subst e; rw [ha] at hb; exact Option.some.inj hb)
theorem srv_conn (s : Srv) (c : Conn) : s.obj ≠ c.obj := fun h => by cases h
section
variable {O : Bool → Addr → Sp} {Q : AV → List AObj → Prop} {X : Nat → List AObj → Prop} {σ : List AObj} {i j e n : Nat} {c : Conn} {s : Srv} {hd : Bool}
theorem c_push_str {x : Str} (hW : SpWrite O) (hD : SpDrain O) (hs : σ[j]? = some (s.on i e n).obj) (hc : σ[i]? = some c.obj) (ho : c.closed = false) (hx : asc x) (hl : x.length ≤ 1000) (hz : c.sent.size ≤ 80000) (hq : Q .none (σ.set i (c.say (ascB x ++ crlf)).obj)) :
    exs G7 blts O b_SMTP_push (curOf hd) ⟨σ, [(1718379891, .ref j), (126948300911731, .str x)]⟩ (RQ Q) (RX X) := by
  have hside : (((⟨#[97, 115, 99, 105, 105]⟩ : Str) = ("ascii" : Str) ∨ (⟨#[97, 115, 99, 105, 105]⟩ : Str) = ("utf-8" : Str)) ∧ asc x ∧ x.length ≤ 1000000) := ⟨.inl (by decide), hx, by omega⟩
  have hl2 : (ascB x).size = x.length := by unfold ascB; rw [List.size_toArray, List.length_map]; rfl
  have hne : j ≠ i := inst_ne hs hc (srv_conn _ _)
  have hm := meth_write hc
  have hs' := at_set_ne (o' := (c.say (ascB x ++ crlf)).obj) hne hs
  have hc' := at_set (o' := (c.say (ascB x ++ crlf)).obj) hc
  have hm2 := meth_drain hc'
  have z2 : (ascB x ++ crlf).size = (ascB x).size + 2 := Array.size_append
  cases hd
  all_goals (
    repeat (first | ((conv => whnf); rw [hs]) | ((conv => whnf); rw [hm]) | ((conv => whnf); erw [hs]) | ((conv => whnf); erw [hm]) | ((conv => whnf); refine And.intro hside ?_) | ((conv => whnf); refine And.intro (by show (ascB x).size + 2 ≤ _; omega) ?_) | ((conv => whnf); refine And.intro (by first | omega | (unfold small; omega) | (dsimp only; omega) | exact rfl | decide | exact Nat.le_of_ble_eq_true rfl | (refine ⟨?_, ?_⟩ <;> first | omega | (unfold small; omega) | (dsimp only; omega) | exact rfl | decide | (simp only [List.size_toArray, Array.size_append, List.length_take, Array.length_toList]; omega)) | (refine ⟨?_, ?_, ?_⟩ <;> first | omega | (unfold small; omega) | (dsimp only; omega) | exact rfl | decide | (simp only [List.size_toArray, Array.size_append, List.length_take, Array.length_toList]; omega))) ?_) | ((conv => whnf); refine And.intro ⟨rfl, rfl, rfl, by first | (simp; done) | exact Nat.le_of_ble_eq_true rfl⟩ ?_))
    conv => whnf
    refine hW _ i c _ _ _ _ hc ho (by show _ + (ascB x ++ crlf).size ≤ _; omega) ?_
    repeat (first | ((conv => whnf); rw [hs']) | ((conv => whnf); rw [hm2]) | ((conv => whnf); erw [hs']) | ((conv => whnf); erw [hm2]) | ((conv => whnf); refine And.intro (by first | omega | (unfold small; omega) | (dsimp only; omega) | exact rfl | decide | exact Nat.le_of_ble_eq_true rfl | (refine ⟨?_, ?_⟩ <;> first | omega | (unfold small; omega) | (dsimp only; omega) | exact rfl | decide | (simp only [List.size_toArray, Array.size_append, List.length_take, Array.length_toList]; omega)) | (refine ⟨?_, ?_, ?_⟩ <;> first | omega | (unfold small; omega) | (dsimp only; omega) | exact rfl | decide | (simp only [List.size_toArray, Array.size_append, List.length_take, Array.length_toList]; omega))) ?_) | ((conv => whnf); refine And.intro ⟨rfl, rfl, rfl, by first | (simp; done) | exact Nat.le_of_ble_eq_true rfl⟩ ?_))
    conv => whnf
    refine hD _ _ _ _ _ ?_
    exact hq)
theorem c_push_bytes {o : Array UInt8} (hW : SpWrite O) (hD : SpDrain O) (hs : σ[j]? = some (s.on i e n).obj) (hc : σ[i]? = some c.obj) (ho : c.closed = false) (hl : o.size ≤ 1000) (hz : c.sent.size ≤ 80000) (hq : Q .none (σ.set i (c.say (o ++ crlf)).obj)) :
    exs G7 blts O b_SMTP_push (curOf hd) ⟨σ, [(1718379891, .ref j), (126948300911731, .bytes o)]⟩ (RQ Q) (RX X) := by
  have hne : j ≠ i := inst_ne hs hc (srv_conn _ _)
  have hm := meth_write hc
  have hs' := at_set_ne (o' := (c.say (o ++ crlf)).obj) hne hs
  have hc' := at_set (o' := (c.say (o ++ crlf)).obj) hc
  have hm2 := meth_drain hc'
  have z2 : (o ++ crlf).size = (o).size + 2 := Array.size_append
  cases hd
  all_goals (
    repeat (first | ((conv => whnf); rw [hs]) | ((conv => whnf); rw [hm]) | ((conv => whnf); erw [hs]) | ((conv => whnf); erw [hm]) | ((conv => whnf); refine And.intro (by show (o).size + 2 ≤ _; omega) ?_) | ((conv => whnf); refine And.intro (by first | omega | (unfold small; omega) | (dsimp only; omega) | exact rfl | decide | exact Nat.le_of_ble_eq_true rfl | (refine ⟨?_, ?_⟩ <;> first | omega | (unfold small; omega) | (dsimp only; omega) | exact rfl | decide | (simp only [List.size_toArray, Array.size_append, List.length_take, Array.length_toList]; omega)) | (refine ⟨?_, ?_, ?_⟩ <;> first | omega | (unfold small; omega) | (dsimp only; omega) | exact rfl | decide | (simp only [List.size_toArray, Array.size_append, List.length_take, Array.length_toList]; omega))) ?_) | ((conv => whnf); refine And.intro ⟨rfl, rfl, rfl, by first | (simp; done) | exact Nat.le_of_ble_eq_true rfl⟩ ?_))
    conv => whnf
    refine hW _ i c _ _ _ _ hc ho (by show _ + (o ++ crlf).size ≤ _; omega) ?_
    repeat (first | ((conv => whnf); rw [hs']) | ((conv => whnf); rw [hm2]) | ((conv => whnf); erw [hs']) | ((conv => whnf); erw [hm2]) | ((conv => whnf); refine And.intro (by first | omega | (unfold small; omega) | (dsimp only; omega) | exact rfl | decide | exact Nat.le_of_ble_eq_true rfl | (refine ⟨?_, ?_⟩ <;> first | omega | (unfold small; omega) | (dsimp only; omega) | exact rfl | decide | (simp only [List.size_toArray, Array.size_append, List.length_take, Array.length_toList]; omega)) | (refine ⟨?_, ?_, ?_⟩ <;> first | omega | (unfold small; omega) | (dsimp only; omega) | exact rfl | decide | (simp only [List.size_toArray, Array.size_append, List.length_take, Array.length_toList]; omega))) ?_) | ((conv => whnf); refine And.intro ⟨rfl, rfl, rfl, by first | (simp; done) | exact Nat.le_of_ble_eq_true rfl⟩ ?_))
    conv => whnf
    refine hD _ _ _ _ _ ?_
    exact hq)
end
def SpUntil (O : Bool → Addr → Sp) : Prop := ∀ (i m : Nat) (c : Conn) (ps : List (Array UInt8)) (args : List AV) (σ : List AObj) (Q : AV → List AObj → Prop) (X : Nat → List AObj → Prop), (args = [] ∨ args = [.bytes #[10]]) → σ[i]? = some c.obj → c.closed = false → σ[c.pieces]? = some (.list (ps.map .bytes)) → ps.length ≤ 10000 →
  (c.ahead ps).length ≤ 10000 → m ≤ 1000 → (c.ahead ps)[m]? = some 10 → (∀ j, j < m → (c.ahead ps)[j]? ≠ some 10) →
  (∀ c' : Conn, c.Later c' ps ((c.ahead ps).drop (m + 1)) → Q (.bytes ((c.ahead ps).take (m + 1)).toArray) (σ.set i c'.obj)) → O false 116 (.ref i :: args) [] σ Q X
def SpUntilX (O : Bool → Addr → Sp) : Prop := ∀ (i : Nat) (c : Conn) (σ : List AObj) (Q : AV → List AObj → Prop) (X : Nat → List AObj → Prop), σ[i]? = some c.obj → c.closed = true → X σ.length (σ ++ [errObj 31]) → O false 116 [.ref i] [] σ Q X
section
variable {O : Bool → Addr → Sp} {Q : AV → List AObj → Prop} {X : Nat → List AObj → Prop} {σ : List AObj} {i j e n m : Nat} {c : Conn} {s : Srv} {hd : Bool} {ps : List (Array UInt8)}
theorem c_readuntil_x {v : AV} (hc : σ[i]? = some c.obj) (ho : c.closed = true) (hq : X σ.length (σ ++ [errObj 31])) :
    exs G7 blts O b_Connection_readuntil none ⟨σ, [(1718379891, .ref i), (2110959975582286243187, v)]⟩ (RQ Q) (RX X) := by
  obtain ⟨p, pr, t, b, s, cl⟩ := c
  cases ho
  repeat (first | ((conv => whnf); rw [hc]) | ((conv => whnf); erw [hc]) | ((conv => whnf); refine And.intro (by first | omega | (unfold small; omega) | (dsimp only; omega) | exact rfl | decide | exact Nat.le_of_ble_eq_true rfl | (refine ⟨?_, ?_⟩ <;> first | omega | (unfold small; omega) | (dsimp only; omega) | exact rfl | decide | (simp only [List.size_toArray, Array.size_append, List.length_take, Array.length_toList]; omega)) | (refine ⟨?_, ?_, ?_⟩ <;> first | omega | (unfold small; omega) | (dsimp only; omega) | exact rfl | decide | (simp only [List.size_toArray, Array.size_append, List.length_take, Array.length_toList]; omega))) ?_) | ((conv => whnf); refine And.intro ⟨rfl, rfl, rfl, by first | (simp; done) | exact Nat.le_of_ble_eq_true rfl⟩ ?_))
  exact hq
theorem c_readline (hU : SpUntil O) (hc : σ[i]? = some c.obj) (ho : c.closed = false) (hp : σ[c.pieces]? = some (.list (ps.map .bytes))) (hps : ps.length ≤ 10000)
    (hz : (c.ahead ps).length ≤ 10000) (hm : m ≤ 1000) (hx : (c.ahead ps)[m]? = some 10) (hb : ∀ j, j < m → (c.ahead ps)[j]? ≠ some 10)
    (hq : ∀ c' : Conn, c.Later c' ps ((c.ahead ps).drop (m + 1)) → Q (.bytes ((c.ahead ps).take (m + 1)).toArray) (σ.set i c'.obj)) :
    exs G7 blts O b_Connection_readline none ⟨σ, [(1718379891, .ref i)]⟩ (RQ Q) (RX X) := by
  have hme := meth_readuntil hc
  repeat (first | ((conv => whnf); rw [hme]) | ((conv => whnf); erw [hme]) | ((conv => whnf); refine And.intro (by first | omega | (unfold small; omega) | (dsimp only; omega) | exact rfl | decide | exact Nat.le_of_ble_eq_true rfl | (refine ⟨?_, ?_⟩ <;> first | omega | (unfold small; omega) | (dsimp only; omega) | exact rfl | decide | (simp only [List.size_toArray, Array.size_append, List.length_take, Array.length_toList]; omega)) | (refine ⟨?_, ?_, ?_⟩ <;> first | omega | (unfold small; omega) | (dsimp only; omega) | exact rfl | decide | (simp only [List.size_toArray, Array.size_append, List.length_take, Array.length_toList]; omega))) ?_) | ((conv => whnf); refine And.intro ⟨rfl, rfl, rfl, by first | (simp; done) | exact Nat.le_of_ble_eq_true rfl⟩ ?_))
  conv => whnf
  exact hU i m c ps _ σ _ _ (.inr rfl) hc ho hp hps hz hm hx hb hq
end
end Sm
end
section
set_option maxRecDepth 100000
set_option linter.unusedVariables false
set_option linter.unusedSimpArgs false
set_option maxHeartbeats 4000000
namespace Sm
open PySem
def sesObj (peer : AV) : AObj := .inst 369 [(1919247728, peer), (7107443, .none), (1871002853623794462568, .none), (8909586780483040348842398873701, .bool false), (1886351212, .none), (460216388990000560042608, .none), (117815395581427984184077407, .none), (1797720269491904214369, .none), (7954214932716840229785799259489, .none)]
def handObj (hk lg kp : AV) : AObj := .inst 203 [(495723704168, hk), (126918051983212, lg), (1953523051, kp)]
def cmds : List (Str × AV) := [(⟨#[65, 85, 84, 72]⟩, .bool true), (⟨#[68, 65, 84, 65]⟩, .bool true), (⟨#[69, 72, 76, 79]⟩, .bool true), (⟨#[69, 88, 80, 78]⟩, .bool true), (⟨#[72, 69, 76, 79]⟩, .bool true), (⟨#[72, 69, 76, 80]⟩, .bool true), (⟨#[77, 65, 73, 76]⟩, .bool true), (⟨#[78, 79, 79, 80]⟩, .bool true), (⟨#[81, 85, 73, 84]⟩, .bool true), (⟨#[82, 67, 80, 84]⟩, .bool true), (⟨#[82, 83, 69, 84]⟩, .bool true), (⟨#[83, 84, 65, 82, 84, 84, 76, 83]⟩, .bool true), (⟨#[86, 82, 70, 89]⟩, .bool true)]
def Sxs.takeS : Nat → Sxs → Sxs
  | 0, _ => .nil
  | n + 1, .cons s r => .cons s (r.takeS n)
  | _, .nil => .nil
theorem exs_split {G : Genv} {U : Bool → Blts} {O : Bool → Addr → Sp} {cur : Option (Option Nat)} {Q : FQ} {X : Xp} : ∀ (n : Nat) (s : Sxs) (st : St),
    exs G U O s cur st Q X = exs G U O (s.takeS n) cur st (fun fl st => match fl with | .next => exs G U O (s.dropS n) cur st Q X | fl => Q fl st) X
  | 0, s, st => rfl
  | n + 1, .nil, st => rfl
  | n + 1, .cons a r, st => by
    show ex G U O a cur st _ X = ex G U O a cur st _ X
    congr 1
    funext fl st'
    cases fl
    · exact exs_split n r st'
    all_goals rfl
abbrev NX (R : St → Prop) (Q : FQ) : FQ := fun fl st => match fl with | .next => R st | fl => Q fl st
def initLoc (j h : Nat) : List (Nat × AV) := [(1718379891, .ref j), (32199663560843624, .ref h), (604444757095078001634194158471373156, .int 33554432), (292195074319195167906729805251440229, .bool false), (117815395581418067238020452, .bool false), (7308604897320202088, .str tHost), (500068344937, .str tIdent), (140803950564158414787931252, .none), (153424349561367068863149008691576006002, .bool false), (32780218601924980, .int 300), (7954212552976746499811312956769, .bool false), (153424347893572850767013095260537779553, .bool true), (40950416281972890428420063022195407276456761728726369, .none), (10140900249851658319697261578492821386391395, .none), (1886351212, .none)]
section
variable {O : Bool → Addr → Sp} {Q : AV → List AObj → Prop} {X : Nat → List AObj → Prop} {σ : List AObj} {i j h hk e n : Nat} {c : Conn} {s : Srv} {hd : Bool}
theorem set_app {σ l : List AObj} {i : Nat} {o : AObj} (h : i < σ.length) : (σ ++ l).set i o = σ.set i o ++ l := List.set_append_left _ _ h
theorem c_conn_init {p : Nat} {peer : AV} (h0 : σ[i]? = some (.inst 168 [])) (hq : Q .none (σ.set i (Conn.mk p peer 0 #[] #[] false).obj)) :
    exs G7 blts O b_Connection_init none ⟨σ, [(1718379891, .ref i), (126879296481648, .ref p), (499984984428, .int 1001), (1919247728, peer)]⟩ (RQ Q) (RX X) := by
  have hset : ∀ o, (σ.set i o)[i]? = some o := fun o => at_set h0
  repeat (first | ((conv => whnf); rw [h0]) | ((conv => whnf); rw [hset]) | ((conv => whnf); rw [List.set_set]) | ((conv => whnf); erw [h0]) | ((conv => whnf); erw [hset]) | ((conv => whnf); erw [List.set_set]) | ((conv => whnf); refine And.intro ⟨rfl, rfl, rfl, by first | exact Nat.le_of_ble_eq_true rfl | (simp; done)⟩ ?_) | ((conv => whnf); refine And.intro (by first | omega | (unfold small; omega) | (dsimp only; omega) | exact rfl | decide | exact Nat.le_of_ble_eq_true rfl | (refine ⟨?_, ?_⟩ <;> first | omega | (unfold small; omega) | (dsimp only; omega) | exact rfl | decide | (simp only [List.size_toArray, Array.size_append, List.length_take, Array.length_toList]; omega)) | (refine ⟨?_, ?_, ?_⟩ <;> first | omega | (unfold small; omega) | (dsimp only; omega) | exact rfl | decide | (simp only [List.size_toArray, Array.size_append, List.length_take, Array.length_toList]; omega))) ?_) | fail)
  exact hq
theorem c_session_init (h0 : σ[i]? = some (.inst 369 [])) (hq : Q .none (σ.set i (sesObj .none))) :
    exs G7 blts O b_Session_init none ⟨σ, [(1718379891, .ref i), (1886351212, .none)]⟩ (RQ Q) (RX X) := by
  have hset : ∀ o, (σ.set i o)[i]? = some o := fun o => at_set h0
  repeat (first | ((conv => whnf); rw [h0]) | ((conv => whnf); rw [hset]) | ((conv => whnf); rw [List.set_set]) | ((conv => whnf); erw [h0]) | ((conv => whnf); erw [hset]) | ((conv => whnf); erw [List.set_set]) | ((conv => whnf); refine And.intro ⟨rfl, rfl, rfl, by first | exact Nat.le_of_ble_eq_true rfl | (simp; done)⟩ ?_) | ((conv => whnf); refine And.intro (by first | omega | (unfold small; omega) | (dsimp only; omega) | exact rfl | decide | exact Nat.le_of_ble_eq_true rfl | (refine ⟨?_, ?_⟩ <;> first | omega | (unfold small; omega) | (dsimp only; omega) | exact rfl | decide | (simp only [List.size_toArray, Array.size_append, List.length_take, Array.length_toList]; omega)) | (refine ⟨?_, ?_, ?_⟩ <;> first | omega | (unfold small; omega) | (dsimp only; omega) | exact rfl | decide | (simp only [List.size_toArray, Array.size_append, List.length_take, Array.length_toList]; omega))) ?_) | fail)
  exact hq
theorem c_handler_init {v w : AV} (h0 : σ[i]? = some (.inst 203 [])) (hq : ∀ k o, Q .none (σ.set i (handObj v w k) ++ [o])) :
    exs G7 blts O b_Handler_init none ⟨σ, [(1718379891, .ref i), (495723704168, v), (126918051983212, w)]⟩ (RQ Q) (RX X) := by
  have hset : ∀ o, (σ.set i o)[i]? = some o := fun o => at_set h0
  have hap : ∀ o l, (σ.set i o ++ l)[i]? = some o := fun o l => app_old (at_set h0)
  have hsa : ∀ o l o', (σ.set i o ++ l).set i o' = σ.set i o' ++ l := fun o l o' => by rw [set_app (by rw [List.length_set]; exact lt_of_at h0), List.set_set]
  repeat (first | ((conv => whnf); rw [h0]) | ((conv => whnf); rw [hset]) | ((conv => whnf); rw [List.set_set]) | ((conv => whnf); rw [hap]) | ((conv => whnf); rw [hsa]) | ((conv => whnf); erw [h0]) | ((conv => whnf); erw [hset]) | ((conv => whnf); erw [List.set_set]) | ((conv => whnf); erw [hap]) | ((conv => whnf); erw [hsa]) | ((conv => whnf); refine And.intro ⟨rfl, rfl, rfl, by first | exact Nat.le_of_ble_eq_true rfl | (simp; done)⟩ ?_) | ((conv => whnf); refine And.intro (by first | omega | (unfold small; omega) | (dsimp only; omega) | exact rfl | decide | exact Nat.le_of_ble_eq_true rfl | (refine ⟨?_, ?_⟩ <;> first | omega | (unfold small; omega) | (dsimp only; omega) | exact rfl | decide | (simp only [List.size_toArray, Array.size_append, List.length_take, Array.length_toList]; omega)) | (refine ⟨?_, ?_, ?_⟩ <;> first | omega | (unfold small; omega) | (dsimp only; omega) | exact rfl | decide | (simp only [List.size_toArray, Array.size_append, List.length_take, Array.length_toList]; omega))) ?_) | fail)
  exact hq _ _
theorem c_envelope_init (h0 : σ[i]? = some (.inst 390 [])) (hq : ∀ fs l, Q .none (σ.set i (.inst 390 fs) ++ l)) :
    exs G7 blts O b_Envelope_init none ⟨σ, [(1718379891, .ref i)]⟩ (RQ Q) (RX X) := by
  have hset : ∀ o, (σ.set i o)[i]? = some o := fun o => at_set h0
  have hap : ∀ o l, (σ.set i o ++ l)[i]? = some o := fun o l => app_old (at_set h0)
  have hsa : ∀ o l o', (σ.set i o ++ l).set i o' = σ.set i o' ++ l := fun o l o' => by rw [set_app (by rw [List.length_set]; exact lt_of_at h0), List.set_set]
  repeat (first | ((conv => whnf); rw [h0]) | ((conv => whnf); rw [hset]) | ((conv => whnf); rw [List.set_set]) | ((conv => whnf); rw [hap]) | ((conv => whnf); rw [hsa]) | ((conv => whnf); rw [List.append_assoc]) | ((conv => whnf); erw [h0]) | ((conv => whnf); erw [hset]) | ((conv => whnf); erw [List.set_set]) | ((conv => whnf); erw [hap]) | ((conv => whnf); erw [hsa]) | ((conv => whnf); erw [List.append_assoc]) | ((conv => whnf); refine And.intro ⟨rfl, rfl, rfl, by first | exact Nat.le_of_ble_eq_true rfl | (simp; done)⟩ ?_) | ((conv => whnf); refine And.intro (by first | omega | (unfold small; omega) | (dsimp only; omega) | exact rfl | decide | exact Nat.le_of_ble_eq_true rfl | (refine ⟨?_, ?_⟩ <;> first | omega | (unfold small; omega) | (dsimp only; omega) | exact rfl | decide | (simp only [List.size_toArray, Array.size_append, List.length_take, Array.length_toList]; omega)) | (refine ⟨?_, ?_, ?_⟩ <;> first | omega | (unfold small; omega) | (dsimp only; omega) | exact rfl | decide | (simp only [List.size_toArray, Array.size_append, List.length_take, Array.length_toList]; omega))) ?_) | fail)
  exact hq _ _
theorem c_commands (hq : Q (.ref σ.length) (σ ++ [.dict cmds])) : exs G7 blts O b_SMTP_commands none ⟨σ, [(1718379891, .ref j)]⟩ (RQ Q) (RX X) := by
  conv => whnf
  refine And.intro ⟨by decide, by decide⟩ ?_
  exact hq
def SpCommands (O : Bool → Addr → Sp) : Prop := ∀ (j : Nat) (σ : List AObj) (Q : AV → List AObj → Prop) (X : Nat → List AObj → Prop), Q (.ref σ.length) (σ ++ [.dict cmds]) → O false 442 [.ref j] [] σ Q X
theorem init_0  {lg kp : AV} {R : St → Prop} {Q' : FQ} (h0 : σ[j]? = some (.inst 672 [])) (hh : σ[h]? = some (handObj (.ref hk) lg kp)) (hd : σ[hk]? = some (.dict [])) (hR : R ⟨(σ.set j (.inst 672 [(500068344937, .str tIdent), (1886351212, .none), (9063399550879417817601583445605, .ref h), (604444757095078001634194158471373156, .int 33554432), (292195074319195167906729805251440229, .bool false), (30160741268843025212933235807, .bool false)])), (initLoc j h)⟩) :
    exs G7 blts O ((b_SMTP_init.dropS 0).takeS 7) none ⟨σ, (initLoc j h)⟩ (NX R Q') (RX X) := by
  have hne : h ≠ j := inst_ne hh h0 (fun e => by cases e)
  have hne2 : hk ≠ j := inst_ne hd h0 (fun e => by cases e)
  have hset : ∀ o, (σ.set j o)[j]? = some o := fun o => at_set h0
  have hap : ∀ o l, (σ.set j o ++ l)[j]? = some o := fun o l => app_old (at_set h0)
  have hsa : ∀ o l o', (σ.set j o ++ l).set j o' = σ.set j o' ++ l := fun o l o' => by rw [set_app (by rw [List.length_set]; exact lt_of_at h0), List.set_set]
  have hh' : ∀ o l, (σ.set j o ++ l)[h]? = some (handObj (.ref hk) lg kp) := fun o l => app_old (at_set_ne hne hh)
  have hd' : ∀ o l, (σ.set j o ++ l)[hk]? = some (.dict []) := fun o l => app_old (at_set_ne hne2 hd)
  have hl1 : ∀ o l, (σ.set j o ++ l).length = σ.length + l.length := fun o l => by rw [List.length_append, List.length_set]
  have hl0 : ∀ o, (σ.set j o).length = σ.length + 0 := fun o => List.length_set
  repeat (first | ((conv => whnf); rw [h0]) | ((conv => whnf); rw [hset]) | ((conv => whnf); rw [List.set_set]) | ((conv => whnf); rw [hap]) | ((conv => whnf); rw [hsa]) | ((conv => whnf); rw [List.append_assoc]) | ((conv => whnf); rw [hh']) | ((conv => whnf); rw [hd']) | ((conv => whnf); rw [hl1]) | ((conv => whnf); rw [hl0]) | ((conv => whnf); erw [h0]) | ((conv => whnf); erw [hset]) | ((conv => whnf); erw [List.set_set]) | ((conv => whnf); erw [hap]) | ((conv => whnf); erw [hsa]) | ((conv => whnf); erw [List.append_assoc]) | ((conv => whnf); erw [hh']) | ((conv => whnf); erw [hd']) | ((conv => whnf); erw [hl1]) | ((conv => whnf); erw [hl0]) | ((conv => whnf); refine And.intro ⟨rfl, rfl, rfl, by first | exact Nat.le_of_ble_eq_true rfl | (simp; done)⟩ ?_) | ((conv => whnf); refine And.intro (by first | omega | (unfold small; omega) | (dsimp only; omega) | exact rfl | decide | exact Nat.le_of_ble_eq_true rfl | (refine ⟨?_, ?_⟩ <;> first | omega | (unfold small; omega) | (dsimp only; omega) | exact rfl | decide | (simp only [List.size_toArray, Array.size_append, List.length_take, Array.length_toList]; omega)) | (refine ⟨?_, ?_, ?_⟩ <;> first | omega | (unfold small; omega) | (dsimp only; omega) | exact rfl | decide | (simp only [List.size_toArray, Array.size_append, List.length_take, Array.length_toList]; omega))) ?_) | fail)
  exact hR
theorem init_1 {m : Nat} {lg kp : AV} {R : St → Prop} {Q' : FQ} (hnew : m = σ.length + 0) (h0 : σ[j]? = some (.inst 672 [])) (hh : σ[h]? = some (handObj (.ref hk) lg kp)) (hd : σ[hk]? = some (.dict [])) (hR : R ⟨(σ.set j (.inst 672 [(500068344937, .str tIdent), (1886351212, .none), (9063399550879417817601583445605, .ref h), (604444757095078001634194158471373156, .int 33554432), (292195074319195167906729805251440229, .bool false), (30160741268843025212933235807, .bool false), (2574726598080873317446872829738011858461093731, .ref m), (7308604897320202088, .str tHost), (140803950564158414787931252, .none), (153424349561367068863149008691576006002, .none)]) ++ [.dict []]), (initLoc j h)⟩) :
    exs G7 blts O ((b_SMTP_init.dropS 7).takeS 4) none ⟨(σ.set j (.inst 672 [(500068344937, .str tIdent), (1886351212, .none), (9063399550879417817601583445605, .ref h), (604444757095078001634194158471373156, .int 33554432), (292195074319195167906729805251440229, .bool false), (30160741268843025212933235807, .bool false)])), (initLoc j h)⟩ (NX R Q') (RX X) := by
  have hne : h ≠ j := inst_ne hh h0 (fun e => by cases e)
  have hne2 : hk ≠ j := inst_ne hd h0 (fun e => by cases e)
  have hset : ∀ o, (σ.set j o)[j]? = some o := fun o => at_set h0
  have hap : ∀ o l, (σ.set j o ++ l)[j]? = some o := fun o l => app_old (at_set h0)
  have hsa : ∀ o l o', (σ.set j o ++ l).set j o' = σ.set j o' ++ l := fun o l o' => by rw [set_app (by rw [List.length_set]; exact lt_of_at h0), List.set_set]
  have hh' : ∀ o l, (σ.set j o ++ l)[h]? = some (handObj (.ref hk) lg kp) := fun o l => app_old (at_set_ne hne hh)
  have hd' : ∀ o l, (σ.set j o ++ l)[hk]? = some (.dict []) := fun o l => app_old (at_set_ne hne2 hd)
  have hl1 : ∀ o l, (σ.set j o ++ l).length = σ.length + l.length := fun o l => by rw [List.length_append, List.length_set]
  have hl0 : ∀ o, (σ.set j o).length = σ.length + 0 := fun o => List.length_set
  subst hnew
  repeat (first | ((conv => whnf); rw [h0]) | ((conv => whnf); rw [hset]) | ((conv => whnf); rw [List.set_set]) | ((conv => whnf); rw [hap]) | ((conv => whnf); rw [hsa]) | ((conv => whnf); rw [List.append_assoc]) | ((conv => whnf); rw [hh']) | ((conv => whnf); rw [hd']) | ((conv => whnf); rw [hl1]) | ((conv => whnf); rw [hl0]) | ((conv => whnf); erw [h0]) | ((conv => whnf); erw [hset]) | ((conv => whnf); erw [List.set_set]) | ((conv => whnf); erw [hap]) | ((conv => whnf); erw [hsa]) | ((conv => whnf); erw [List.append_assoc]) | ((conv => whnf); erw [hh']) | ((conv => whnf); erw [hd']) | ((conv => whnf); erw [hl1]) | ((conv => whnf); erw [hl0]) | ((conv => whnf); refine And.intro ⟨rfl, rfl, rfl, by first | exact Nat.le_of_ble_eq_true rfl | (simp; done)⟩ ?_) | ((conv => whnf); refine And.intro (by first | omega | (unfold small; omega) | (dsimp only; omega) | exact rfl | decide | exact Nat.le_of_ble_eq_true rfl | (refine ⟨?_, ?_⟩ <;> first | omega | (unfold small; omega) | (dsimp only; omega) | exact rfl | decide | (simp only [List.size_toArray, Array.size_append, List.length_take, Array.length_toList]; omega)) | (refine ⟨?_, ?_, ?_⟩ <;> first | omega | (unfold small; omega) | (dsimp only; omega) | exact rfl | decide | (simp only [List.size_toArray, Array.size_append, List.length_take, Array.length_toList]; omega))) ?_) | fail)
  exact hR
theorem init_2 {l : List AObj} {m : Nat} {lg kp : AV} {R : St → Prop} {Q' : FQ} (h0 : σ[j]? = some (.inst 672 [])) (hh : σ[h]? = some (handObj (.ref hk) lg kp)) (hd : σ[hk]? = some (.dict [])) (hR : R ⟨(σ.set j (.inst 672 [(500068344937, .str tIdent), (1886351212, .none), (9063399550879417817601583445605, .ref h), (604444757095078001634194158471373156, .int 33554432), (292195074319195167906729805251440229, .bool false), (30160741268843025212933235807, .bool false), (2574726598080873317446872829738011858461093731, .ref m), (7308604897320202088, .str tHost), (140803950564158414787931252, .none), (153424349561367068863149008691576006002, .none), (2706876619010479449082282535039198290334479455, .bool true), (8591114597617392126741235659871, .none), (2596855164441389628957528527440234342918549343, .none), (31084746137363827, .none), (7309464706571726437, .none)]) ++ l), (initLoc j h)⟩) :
    exs G7 blts O ((b_SMTP_init.dropS 11).takeS 5) none ⟨(σ.set j (.inst 672 [(500068344937, .str tIdent), (1886351212, .none), (9063399550879417817601583445605, .ref h), (604444757095078001634194158471373156, .int 33554432), (292195074319195167906729805251440229, .bool false), (30160741268843025212933235807, .bool false), (2574726598080873317446872829738011858461093731, .ref m), (7308604897320202088, .str tHost), (140803950564158414787931252, .none), (153424349561367068863149008691576006002, .none)]) ++ l), (initLoc j h)⟩ (NX R Q') (RX X) := by
  have hne : h ≠ j := inst_ne hh h0 (fun e => by cases e)
  have hne2 : hk ≠ j := inst_ne hd h0 (fun e => by cases e)
  have hset : ∀ o, (σ.set j o)[j]? = some o := fun o => at_set h0
  have hap : ∀ o l, (σ.set j o ++ l)[j]? = some o := fun o l => app_old (at_set h0)
  have hsa : ∀ o l o', (σ.set j o ++ l).set j o' = σ.set j o' ++ l := fun o l o' => by rw [set_app (by rw [List.length_set]; exact lt_of_at h0), List.set_set]
  have hh' : ∀ o l, (σ.set j o ++ l)[h]? = some (handObj (.ref hk) lg kp) := fun o l => app_old (at_set_ne hne hh)
  have hd' : ∀ o l, (σ.set j o ++ l)[hk]? = some (.dict []) := fun o l => app_old (at_set_ne hne2 hd)
  have hl1 : ∀ o l, (σ.set j o ++ l).length = σ.length + l.length := fun o l => by rw [List.length_append, List.length_set]
  have hl0 : ∀ o, (σ.set j o).length = σ.length + 0 := fun o => List.length_set
  repeat (first | ((conv => whnf); rw [h0]) | ((conv => whnf); rw [hset]) | ((conv => whnf); rw [List.set_set]) | ((conv => whnf); rw [hap]) | ((conv => whnf); rw [hsa]) | ((conv => whnf); rw [List.append_assoc]) | ((conv => whnf); rw [hh']) | ((conv => whnf); rw [hd']) | ((conv => whnf); rw [hl1]) | ((conv => whnf); rw [hl0]) | ((conv => whnf); erw [h0]) | ((conv => whnf); erw [hset]) | ((conv => whnf); erw [List.set_set]) | ((conv => whnf); erw [hap]) | ((conv => whnf); erw [hsa]) | ((conv => whnf); erw [List.append_assoc]) | ((conv => whnf); erw [hh']) | ((conv => whnf); erw [hd']) | ((conv => whnf); erw [hl1]) | ((conv => whnf); erw [hl0]) | ((conv => whnf); refine And.intro ⟨rfl, rfl, rfl, by first | exact Nat.le_of_ble_eq_true rfl | (simp; done)⟩ ?_) | ((conv => whnf); refine And.intro (by first | omega | (unfold small; omega) | (dsimp only; omega) | exact rfl | decide | exact Nat.le_of_ble_eq_true rfl | (refine ⟨?_, ?_⟩ <;> first | omega | (unfold small; omega) | (dsimp only; omega) | exact rfl | decide | (simp only [List.size_toArray, Array.size_append, List.length_take, Array.length_toList]; omega)) | (refine ⟨?_, ?_, ?_⟩ <;> first | omega | (unfold small; omega) | (dsimp only; omega) | exact rfl | decide | (simp only [List.size_toArray, Array.size_append, List.length_take, Array.length_toList]; omega))) ?_) | fail)
  exact hR
theorem init_3 {l : List AObj} {m au : Nat} {lg kp : AV} {R : St → Prop} {Q' : FQ} (hnew : au = σ.length + l.length) (h0 : σ[j]? = some (.inst 672 [])) (hh : σ[h]? = some (handObj (.ref hk) lg kp)) (hd : σ[hk]? = some (.dict [])) (hR : R ⟨(σ.set j (.inst 672 [(500068344937, .str tIdent), (1886351212, .none), (9063399550879417817601583445605, .ref h), (604444757095078001634194158471373156, .int 33554432), (292195074319195167906729805251440229, .bool false), (30160741268843025212933235807, .bool false), (2574726598080873317446872829738011858461093731, .ref m), (7308604897320202088, .str tHost), (140803950564158414787931252, .none), (153424349561367068863149008691576006002, .none), (2706876619010479449082282535039198290334479455, .bool true), (8591114597617392126741235659871, .none), (2596855164441389628957528527440234342918549343, .none), (31084746137363827, .none), (7309464706571726437, .none), (2148068245634122084980, .none), (8835912113096952814114134223093550660282463, .none), (39276633060754649796355352386697671565663, .bool true), (2036278413562047103951696116932959, .bool false), (9142321874161755687634362261855, .ref au)]) ++ (l ++ [.dict [(⟨#[76, 79, 71, 73, 78]⟩, .bool true), (⟨#[80, 76, 65, 73, 78]⟩, .bool true)]])), (initLoc j h)⟩) :
    exs G7 blts O ((b_SMTP_init.dropS 16).takeS 5) none ⟨(σ.set j (.inst 672 [(500068344937, .str tIdent), (1886351212, .none), (9063399550879417817601583445605, .ref h), (604444757095078001634194158471373156, .int 33554432), (292195074319195167906729805251440229, .bool false), (30160741268843025212933235807, .bool false), (2574726598080873317446872829738011858461093731, .ref m), (7308604897320202088, .str tHost), (140803950564158414787931252, .none), (153424349561367068863149008691576006002, .none), (2706876619010479449082282535039198290334479455, .bool true), (8591114597617392126741235659871, .none), (2596855164441389628957528527440234342918549343, .none), (31084746137363827, .none), (7309464706571726437, .none)]) ++ l), (initLoc j h)⟩ (NX R Q') (RX X) := by
  have hne : h ≠ j := inst_ne hh h0 (fun e => by cases e)
  have hne2 : hk ≠ j := inst_ne hd h0 (fun e => by cases e)
  have hset : ∀ o, (σ.set j o)[j]? = some o := fun o => at_set h0
  have hap : ∀ o l, (σ.set j o ++ l)[j]? = some o := fun o l => app_old (at_set h0)
  have hsa : ∀ o l o', (σ.set j o ++ l).set j o' = σ.set j o' ++ l := fun o l o' => by rw [set_app (by rw [List.length_set]; exact lt_of_at h0), List.set_set]
  have hh' : ∀ o l, (σ.set j o ++ l)[h]? = some (handObj (.ref hk) lg kp) := fun o l => app_old (at_set_ne hne hh)
  have hd' : ∀ o l, (σ.set j o ++ l)[hk]? = some (.dict []) := fun o l => app_old (at_set_ne hne2 hd)
  have hl1 : ∀ o l, (σ.set j o ++ l).length = σ.length + l.length := fun o l => by rw [List.length_append, List.length_set]
  have hl0 : ∀ o, (σ.set j o).length = σ.length + 0 := fun o => List.length_set
  subst hnew
  repeat (first | ((conv => whnf); rw [h0]) | ((conv => whnf); rw [hset]) | ((conv => whnf); rw [List.set_set]) | ((conv => whnf); rw [hap]) | ((conv => whnf); rw [hsa]) | ((conv => whnf); rw [List.append_assoc]) | ((conv => whnf); rw [hh']) | ((conv => whnf); rw [hd']) | ((conv => whnf); rw [hl1]) | ((conv => whnf); rw [hl0]) | ((conv => whnf); erw [h0]) | ((conv => whnf); erw [hset]) | ((conv => whnf); erw [List.set_set]) | ((conv => whnf); erw [hap]) | ((conv => whnf); erw [hsa]) | ((conv => whnf); erw [List.append_assoc]) | ((conv => whnf); erw [hh']) | ((conv => whnf); erw [hd']) | ((conv => whnf); erw [hl1]) | ((conv => whnf); erw [hl0]) | ((conv => whnf); refine And.intro ⟨rfl, rfl, rfl, by first | exact Nat.le_of_ble_eq_true rfl | (simp; done)⟩ ?_) | ((conv => whnf); refine And.intro (by first | omega | (unfold small; omega) | (dsimp only; omega) | exact rfl | decide | exact Nat.le_of_ble_eq_true rfl | (refine ⟨?_, ?_⟩ <;> first | omega | (unfold small; omega) | (dsimp only; omega) | exact rfl | decide | (simp only [List.size_toArray, Array.size_append, List.length_take, Array.length_toList]; omega)) | (refine ⟨?_, ?_, ?_⟩ <;> first | omega | (unfold small; omega) | (dsimp only; omega) | exact rfl | decide | (simp only [List.size_toArray, Array.size_append, List.length_take, Array.length_toList]; omega))) ?_) | fail)
  exact hR
theorem init_4 {l : List AObj} {m au : Nat} {lg kp : AV} {R : St → Prop} {Q' : FQ} (h0 : σ[j]? = some (.inst 672 [])) (hh : σ[h]? = some (handObj (.ref hk) lg kp)) (hd : σ[hk]? = some (.dict [])) (hR : R ⟨(σ.set j (.inst 672 [(500068344937, .str tIdent), (1886351212, .none), (9063399550879417817601583445605, .ref h), (604444757095078001634194158471373156, .int 33554432), (292195074319195167906729805251440229, .bool false), (30160741268843025212933235807, .bool false), (2574726598080873317446872829738011858461093731, .ref m), (7308604897320202088, .str tHost), (140803950564158414787931252, .none), (153424349561367068863149008691576006002, .none), (2706876619010479449082282535039198290334479455, .bool true), (8591114597617392126741235659871, .none), (2596855164441389628957528527440234342918549343, .none), (31084746137363827, .none), (7309464706571726437, .none), (2148068245634122084980, .none), (8835912113096952814114134223093550660282463, .none), (39276633060754649796355352386697671565663, .bool true), (2036278413562047103951696116932959, .bool false), (9142321874161755687634362261855, .ref au), (9144488302065274971230765672543, .ref hk)]) ++ (l ++ [.list []])), (initLoc j h ++ [(1981831367306647464037, .none)])⟩) :
    exs G7 blts O ((b_SMTP_init.dropS 21).takeS 3) none ⟨(σ.set j (.inst 672 [(500068344937, .str tIdent), (1886351212, .none), (9063399550879417817601583445605, .ref h), (604444757095078001634194158471373156, .int 33554432), (292195074319195167906729805251440229, .bool false), (30160741268843025212933235807, .bool false), (2574726598080873317446872829738011858461093731, .ref m), (7308604897320202088, .str tHost), (140803950564158414787931252, .none), (153424349561367068863149008691576006002, .none), (2706876619010479449082282535039198290334479455, .bool true), (8591114597617392126741235659871, .none), (2596855164441389628957528527440234342918549343, .none), (31084746137363827, .none), (7309464706571726437, .none), (2148068245634122084980, .none), (8835912113096952814114134223093550660282463, .none), (39276633060754649796355352386697671565663, .bool true), (2036278413562047103951696116932959, .bool false), (9142321874161755687634362261855, .ref au)]) ++ l), (initLoc j h)⟩ (NX R Q') (RX X) := by
  have hne : h ≠ j := inst_ne hh h0 (fun e => by cases e)
  have hne2 : hk ≠ j := inst_ne hd h0 (fun e => by cases e)
  have hset : ∀ o, (σ.set j o)[j]? = some o := fun o => at_set h0
  have hap : ∀ o l, (σ.set j o ++ l)[j]? = some o := fun o l => app_old (at_set h0)
  have hsa : ∀ o l o', (σ.set j o ++ l).set j o' = σ.set j o' ++ l := fun o l o' => by rw [set_app (by rw [List.length_set]; exact lt_of_at h0), List.set_set]
  have hh' : ∀ o l, (σ.set j o ++ l)[h]? = some (handObj (.ref hk) lg kp) := fun o l => app_old (at_set_ne hne hh)
  have hd' : ∀ o l, (σ.set j o ++ l)[hk]? = some (.dict []) := fun o l => app_old (at_set_ne hne2 hd)
  have hl1 : ∀ o l, (σ.set j o ++ l).length = σ.length + l.length := fun o l => by rw [List.length_append, List.length_set]
  have hl0 : ∀ o, (σ.set j o).length = σ.length + 0 := fun o => List.length_set
  repeat (first | ((conv => whnf); rw [h0]) | ((conv => whnf); rw [hset]) | ((conv => whnf); rw [List.set_set]) | ((conv => whnf); rw [hap]) | ((conv => whnf); rw [hsa]) | ((conv => whnf); rw [List.append_assoc]) | ((conv => whnf); rw [hh']) | ((conv => whnf); rw [hd']) | ((conv => whnf); rw [hl1]) | ((conv => whnf); rw [hl0]) | ((conv => whnf); erw [h0]) | ((conv => whnf); erw [hset]) | ((conv => whnf); erw [List.set_set]) | ((conv => whnf); erw [hap]) | ((conv => whnf); erw [hsa]) | ((conv => whnf); erw [List.append_assoc]) | ((conv => whnf); erw [hh']) | ((conv => whnf); erw [hd']) | ((conv => whnf); erw [hl1]) | ((conv => whnf); erw [hl0]) | ((conv => whnf); refine And.intro ⟨rfl, rfl, rfl, by first | exact Nat.le_of_ble_eq_true rfl | (simp; done)⟩ ?_) | ((conv => whnf); refine And.intro (by first | omega | (unfold small; omega) | (dsimp only; omega) | exact rfl | decide | exact Nat.le_of_ble_eq_true rfl | (refine ⟨?_, ?_⟩ <;> first | omega | (unfold small; omega) | (dsimp only; omega) | exact rfl | decide | (simp only [List.size_toArray, Array.size_append, List.length_take, Array.length_toList]; omega)) | (refine ⟨?_, ?_, ?_⟩ <;> first | omega | (unfold small; omega) | (dsimp only; omega) | exact rfl | decide | (simp only [List.size_toArray, Array.size_append, List.length_take, Array.length_toList]; omega))) ?_) | fail)
  conv => whnf
  have hi : ∀ o l x, (σ.set j o ++ (l ++ [x]))[σ.length + l.length]? = some x := fun o l x => by
    rw [← List.append_assoc, ← hl1 o l]; exact app_get0
  have ht := turn_listE (k := 0) (hi (.inst 672 [(500068344937, .str tIdent), (1886351212, .none), (9063399550879417817601583445605, .ref h), (604444757095078001634194158471373156, .int 33554432), (292195074319195167906729805251440229, .bool false), (30160741268843025212933235807, .bool false), (2574726598080873317446872829738011858461093731, .ref m), (7308604897320202088, .str tHost), (140803950564158414787931252, .none), (153424349561367068863149008691576006002, .none), (2706876619010479449082282535039198290334479455, .bool true), (8591114597617392126741235659871, .none), (2596855164441389628957528527440234342918549343, .none), (31084746137363827, .none), (7309464706571726437, .none), (2148068245634122084980, .none), (8835912113096952814114134223093550660282463, .none), (39276633060754649796355352386697671565663, .bool true), (2036278413562047103951696116932959, .bool false), (9142321874161755687634362261855, .ref au)]) l (.list [])) rfl
  refine ⟨⟨[], hi _ _ _⟩, 0, fun k st => k = 0 ∧ st = ⟨σ.set j (.inst 672 [(500068344937, .str tIdent), (1886351212, .none), (9063399550879417817601583445605, .ref h), (604444757095078001634194158471373156, .int 33554432), (292195074319195167906729805251440229, .bool false), (30160741268843025212933235807, .bool false), (2574726598080873317446872829738011858461093731, .ref m), (7308604897320202088, .str tHost), (140803950564158414787931252, .none), (153424349561367068863149008691576006002, .none), (2706876619010479449082282535039198290334479455, .bool true), (8591114597617392126741235659871, .none), (2596855164441389628957528527440234342918549343, .none), (31084746137363827, .none), (7309464706571726437, .none), (2148068245634122084980, .none), (8835912113096952814114134223093550660282463, .none), (39276633060754649796355352386697671565663, .bool true), (2036278413562047103951696116932959, .bool false), (9142321874161755687634362261855, .ref au)]) ++ (l ++ [.list []]), initLoc j h⟩, ⟨rfl, rfl⟩, ?_⟩
  rintro k st ⟨rfl, rfl⟩
  refine ⟨Nat.le_refl _, ?_⟩
  have hmg : ∀ o l, methodOf G7 (σ.set j o ++ l) (.ref hk) 7628135 = some (.blt .dGet) := fun o l => by unfold methodOf; dsimp only; rw [hd']; rfl
  repeat (first | ((conv => whnf); rw [h0]) | ((conv => whnf); rw [hset]) | ((conv => whnf); rw [List.set_set]) | ((conv => whnf); rw [hap]) | ((conv => whnf); rw [hsa]) | ((conv => whnf); rw [List.append_assoc]) | ((conv => whnf); rw [hh']) | ((conv => whnf); rw [hd']) | ((conv => whnf); rw [hl1]) | ((conv => whnf); rw [hl0]) | ((conv => whnf); rw [ht]) | ((conv => whnf); rw [hmg]) | ((conv => whnf); erw [h0]) | ((conv => whnf); erw [hset]) | ((conv => whnf); erw [List.set_set]) | ((conv => whnf); erw [hap]) | ((conv => whnf); erw [hsa]) | ((conv => whnf); erw [List.append_assoc]) | ((conv => whnf); erw [hh']) | ((conv => whnf); erw [hd']) | ((conv => whnf); erw [hl1]) | ((conv => whnf); erw [hl0]) | ((conv => whnf); erw [ht]) | ((conv => whnf); erw [hmg]) | ((conv => whnf); refine And.intro ⟨rfl, rfl, rfl, by first | exact Nat.le_of_ble_eq_true rfl | (simp; done)⟩ ?_) | ((conv => whnf); refine And.intro (by first | omega | (unfold small; omega) | (dsimp only; omega) | exact rfl | decide | exact Nat.le_of_ble_eq_true rfl | (refine ⟨?_, ?_⟩ <;> first | omega | (unfold small; omega) | (dsimp only; omega) | exact rfl | decide | (simp only [List.size_toArray, Array.size_append, List.length_take, Array.length_toList]; omega)) | (refine ⟨?_, ?_, ?_⟩ <;> first | omega | (unfold small; omega) | (dsimp only; omega) | exact rfl | decide | (simp only [List.size_toArray, Array.size_append, List.length_take, Array.length_toList]; omega))) ?_) | fail)
  exact hR
theorem init_5 {l : List AObj} {m au me : Nat} {lg kp : AV} {R : St → Prop} {Q' : FQ} (hnew : me = σ.length + l.length) (hC : SpCommands O) (h0 : σ[j]? = some (.inst 672 [])) (hh : σ[h]? = some (handObj (.ref hk) lg kp)) (hd : σ[hk]? = some (.dict [])) (hR : R ⟨(σ.set j (.inst 672 [(500068344937, .str tIdent), (1886351212, .none), (9063399550879417817601583445605, .ref h), (604444757095078001634194158471373156, .int 33554432), (292195074319195167906729805251440229, .bool false), (30160741268843025212933235807, .bool false), (2574726598080873317446872829738011858461093731, .ref m), (7308604897320202088, .str tHost), (140803950564158414787931252, .none), (153424349561367068863149008691576006002, .none), (2706876619010479449082282535039198290334479455, .bool true), (8591114597617392126741235659871, .none), (2596855164441389628957528527440234342918549343, .none), (31084746137363827, .none), (7309464706571726437, .none), (2148068245634122084980, .none), (8835912113096952814114134223093550660282463, .none), (39276633060754649796355352386697671565663, .bool true), (2036278413562047103951696116932959, .bool false), (9142321874161755687634362261855, .ref au), (9144488302065274971230765672543, .ref hk), (2320233373816691738565317457634655, .none), (9142321874161755687668721480543, .ref me), (2596070463962024529842498964163142344380409183, .bool false)]) ++ (l ++ [.dict cmds])), (initLoc j h ++ [(1981831367306647464037, .none)])⟩) :
    exs G7 blts O ((b_SMTP_init.dropS 24).takeS 3) none ⟨(σ.set j (.inst 672 [(500068344937, .str tIdent), (1886351212, .none), (9063399550879417817601583445605, .ref h), (604444757095078001634194158471373156, .int 33554432), (292195074319195167906729805251440229, .bool false), (30160741268843025212933235807, .bool false), (2574726598080873317446872829738011858461093731, .ref m), (7308604897320202088, .str tHost), (140803950564158414787931252, .none), (153424349561367068863149008691576006002, .none), (2706876619010479449082282535039198290334479455, .bool true), (8591114597617392126741235659871, .none), (2596855164441389628957528527440234342918549343, .none), (31084746137363827, .none), (7309464706571726437, .none), (2148068245634122084980, .none), (8835912113096952814114134223093550660282463, .none), (39276633060754649796355352386697671565663, .bool true), (2036278413562047103951696116932959, .bool false), (9142321874161755687634362261855, .ref au), (9144488302065274971230765672543, .ref hk)]) ++ l), (initLoc j h ++ [(1981831367306647464037, .none)])⟩ (NX R Q') (RX X) := by
  have hne : h ≠ j := inst_ne hh h0 (fun e => by cases e)
  have hne2 : hk ≠ j := inst_ne hd h0 (fun e => by cases e)
  have hset : ∀ o, (σ.set j o)[j]? = some o := fun o => at_set h0
  have hap : ∀ o l, (σ.set j o ++ l)[j]? = some o := fun o l => app_old (at_set h0)
  have hsa : ∀ o l o', (σ.set j o ++ l).set j o' = σ.set j o' ++ l := fun o l o' => by rw [set_app (by rw [List.length_set]; exact lt_of_at h0), List.set_set]
  have hh' : ∀ o l, (σ.set j o ++ l)[h]? = some (handObj (.ref hk) lg kp) := fun o l => app_old (at_set_ne hne hh)
  have hd' : ∀ o l, (σ.set j o ++ l)[hk]? = some (.dict []) := fun o l => app_old (at_set_ne hne2 hd)
  have hl1 : ∀ o l, (σ.set j o ++ l).length = σ.length + l.length := fun o l => by rw [List.length_append, List.length_set]
  have hl0 : ∀ o, (σ.set j o).length = σ.length + 0 := fun o => List.length_set
  subst hnew
  have hmc : ∀ o l, methodOf G7 (σ.set j o ++ l) (.ref j) 2128612397250444747615 = methodOf G7 [o] (.ref 0) 2128612397250444747615 := fun o l => by unfold methodOf; dsimp only; rw [hap]; rfl
  repeat (first | ((conv => whnf); rw [h0]) | ((conv => whnf); rw [hset]) | ((conv => whnf); rw [List.set_set]) | ((conv => whnf); rw [hap]) | ((conv => whnf); rw [hsa]) | ((conv => whnf); rw [List.append_assoc]) | ((conv => whnf); rw [hh']) | ((conv => whnf); rw [hd']) | ((conv => whnf); rw [hl1]) | ((conv => whnf); rw [hl0]) | ((conv => whnf); rw [hmc]) | ((conv => whnf); erw [h0]) | ((conv => whnf); erw [hset]) | ((conv => whnf); erw [List.set_set]) | ((conv => whnf); erw [hap]) | ((conv => whnf); erw [hsa]) | ((conv => whnf); erw [List.append_assoc]) | ((conv => whnf); erw [hh']) | ((conv => whnf); erw [hd']) | ((conv => whnf); erw [hl1]) | ((conv => whnf); erw [hl0]) | ((conv => whnf); erw [hmc]) | ((conv => whnf); refine And.intro ⟨rfl, rfl, rfl, by first | exact Nat.le_of_ble_eq_true rfl | (simp; done)⟩ ?_) | ((conv => whnf); refine And.intro (by first | omega | (unfold small; omega) | (dsimp only; omega) | exact rfl | decide | exact Nat.le_of_ble_eq_true rfl | (refine ⟨?_, ?_⟩ <;> first | omega | (unfold small; omega) | (dsimp only; omega) | exact rfl | decide | (simp only [List.size_toArray, Array.size_append, List.length_take, Array.length_toList]; omega)) | (refine ⟨?_, ?_, ?_⟩ <;> first | omega | (unfold small; omega) | (dsimp only; omega) | exact rfl | decide | (simp only [List.size_toArray, Array.size_append, List.length_take, Array.length_toList]; omega))) ?_) | fail)
  conv => whnf
  refine hC _ _ _ _ ?_
  repeat (first | ((conv => whnf); rw [h0]) | ((conv => whnf); rw [hset]) | ((conv => whnf); rw [List.set_set]) | ((conv => whnf); rw [hap]) | ((conv => whnf); rw [hsa]) | ((conv => whnf); rw [List.append_assoc]) | ((conv => whnf); rw [hh']) | ((conv => whnf); rw [hd']) | ((conv => whnf); rw [hl1]) | ((conv => whnf); rw [hl0]) | ((conv => whnf); rw [hmc]) | ((conv => whnf); erw [h0]) | ((conv => whnf); erw [hset]) | ((conv => whnf); erw [List.set_set]) | ((conv => whnf); erw [hap]) | ((conv => whnf); erw [hsa]) | ((conv => whnf); erw [List.append_assoc]) | ((conv => whnf); erw [hh']) | ((conv => whnf); erw [hd']) | ((conv => whnf); erw [hl1]) | ((conv => whnf); erw [hl0]) | ((conv => whnf); erw [hmc]) | ((conv => whnf); refine And.intro ⟨rfl, rfl, rfl, by first | exact Nat.le_of_ble_eq_true rfl | (simp; done)⟩ ?_) | ((conv => whnf); refine And.intro (by first | omega | (unfold small; omega) | (dsimp only; omega) | exact rfl | decide | exact Nat.le_of_ble_eq_true rfl | (refine ⟨?_, ?_⟩ <;> first | omega | (unfold small; omega) | (dsimp only; omega) | exact rfl | decide | (simp only [List.size_toArray, Array.size_append, List.length_take, Array.length_toList]; omega)) | (refine ⟨?_, ?_, ?_⟩ <;> first | omega | (unfold small; omega) | (dsimp only; omega) | exact rfl | decide | (simp only [List.size_toArray, Array.size_append, List.length_take, Array.length_toList]; omega))) ?_) | fail)
  exact hR
theorem c_smtp_init {lg kp : AV} (hC : SpCommands O) (h0 : σ[j]? = some (.inst 672 [])) (hh : σ[h]? = some (handObj (.ref hk) lg kp)) (hd : σ[hk]? = some (.dict []))
    (hq : ∀ (s : Srv) l, s.handler = h → s.hooks = hk → s.tail = [] → s.session = .none → s.transport = .none → (σ.set j s.obj ++ l)[s.limits]? = some (.dict []) → (σ.set j s.obj ++ l)[s.methods]? = some (.dict cmds) → Q .none (σ.set j s.obj ++ l)) :
    exs G7 blts O b_SMTP_init none ⟨σ, initLoc j h⟩ (RQ Q) (RX X) := by
  have cut : ∀ n b (st : St) (R : St → Prop), (∀ st, R st → exs G7 blts O (b.dropS n) none st (RQ Q) (RX X)) → exs G7 blts O (b.takeS n) none st (NX (fun st => exs G7 blts O (b.dropS n) none st (RQ Q) (RX X)) (RQ Q)) (RX X) → exs G7 blts O b none st (RQ Q) (RX X) := fun n b st R _ h => by rw [exs_split n]; exact h
  rw [exs_split 7]
  refine init_0 (Q' := RQ Q) h0 hh hd ?_
  rw [exs_split 4]
  refine init_1 (Q' := RQ Q) rfl h0 hh hd ?_
  rw [exs_split 5]
  refine init_2 (Q' := RQ Q) h0 hh hd ?_
  rw [exs_split 5]
  refine init_3 (Q' := RQ Q) rfl h0 hh hd ?_
  rw [exs_split 3]
  refine init_4 (Q' := RQ Q) h0 hh hd ?_
  rw [exs_split 3]
  refine init_5 (Q' := RQ Q) rfl hC h0 hh hd ?_
  have hl1 : ∀ o l, (σ.set j o ++ l).length = σ.length + l.length := fun o l => by rw [List.length_append, List.length_set]
  have hn : ∀ (o x : AObj) (l r : List AObj), (σ.set j o ++ (l ++ x :: r))[σ.length + l.length]? = some x := fun o x l r => by
    rw [← List.append_assoc, ← hl1 o l]; exact app_get0
  have key := fun hl hm => hq ⟨h, σ.length + 0, σ.length + 1, hk, σ.length + 3, .none, .none, .none, .none, []⟩ [.dict [], .dict [(⟨#[76, 79, 71, 73, 78]⟩, .bool true), (⟨#[80, 76, 65, 73, 78]⟩, .bool true)], .list [], .dict cmds] rfl rfl rfl rfl rfl hl hm
  exact key (hn _ _ [] _) (hn _ _ [_, _, _] _)
end
end Sm
end
section
set_option maxRecDepth 100000
set_option linter.unusedVariables false
set_option linter.unusedSimpArgs false
set_option maxHeartbeats 4000000
namespace Sm
open PySem
def SpEnvInit (O : Bool → Addr → Sp) : Prop := ∀ (i : Nat) (σ : List AObj) (Q : AV → List AObj → Prop) (X : Nat → List AObj → Prop), σ[i]? = some (.inst 390 []) → (∀ fs l, Q .none (σ.set i (.inst 390 fs) ++ l)) → O false 387 [.ref i] [] σ Q X
def SpSesInit (O : Bool → Addr → Sp) : Prop := ∀ (i : Nat) (σ : List AObj) (Q : AV → List AObj → Prop) (X : Nat → List AObj → Prop), σ[i]? = some (.inst 369 []) → Q .none (σ.set i (sesObj .none)) → O false 366 [.ref i, .none] [] σ Q X
def SpEnv (O : Bool → Addr → Sp) : Prop := ∀ (j : Nat) (σ : List AObj) (Q : AV → List AObj → Prop) (X : Nat → List AObj → Prop), (∀ fs l, Q (.ref σ.length) (σ ++ (.inst 390 fs :: l))) → O false 428 [.ref j] [] σ Q X
def SpSes (O : Bool → Addr → Sp) : Prop := ∀ (j : Nat) (s : Srv) (σ : List AObj) (Q : AV → List AObj → Prop) (X : Nat → List AObj → Prop), σ[j]? = some s.obj → s.tail = [] → Q (.ref σ.length) (σ ++ [sesObj .none]) → O false 421 [.ref j] [] σ Q X
def SpPost (a : Nat) (O : Bool → Addr → Sp) : Prop := ∀ (j : Nat) (s : Srv) (σ : List AObj) (Q : AV → List AObj → Prop) (X : Nat → List AObj → Prop), σ[j]? = some s.obj → s.tail = [] → (∀ e l, Q .none (σ.set j { s with envelope := .ref e }.obj ++ l)) → O false a [.ref j] [] σ Q X
def SpCb (O : Bool → Addr → Sp) : Prop := ∀ (j i : Nat) (s : Srv) (σ : List AObj) (Q : AV → List AObj → Prop) (X : Nat → List AObj → Prop), σ[j]? = some s.obj → s.tail = [] → Q .none (σ.set j { s with tail := [(32199629150188127, .ref i), (32199698004735839, .ref i)] }.obj) → O false 471 [.ref j, .ref i, .ref i] [] σ Q X
def SpInfo (O : Bool → Addr → Sp) : Prop := ∀ (i : Nat) (c : Conn) (x : Str) (σ : List AObj) (Q : AV → List AObj → Prop) (X : Nat → List AObj → Prop), σ[i]? = some c.obj → Q c.peer σ → O false 101 [.ref i, .str x] [] σ Q X
section
variable {O : Bool → Addr → Sp} {Q : AV → List AObj → Prop} {X : Nat → List AObj → Prop} {σ : List AObj} {i j h hk e n : Nat} {c : Conn} {s : Srv} {hd : Bool}
theorem c_create_envelope (hE : SpEnvInit O) (hq : ∀ fs l, Q (.ref σ.length) (σ ++ (.inst 390 fs :: l))) : exs G7 blts O b_SMTP_create_envelope none ⟨σ, [(1718379891, .ref j)]⟩ (RQ Q) (RX X) := by
  repeat (first | ((conv => whnf); refine And.intro ⟨rfl, rfl, rfl, by first | exact Nat.le_of_ble_eq_true rfl | (simp; done)⟩ ?_) | ((conv => whnf); refine And.intro (by first | omega | (unfold small; omega) | (dsimp only; omega) | exact rfl | decide | exact Nat.le_of_ble_eq_true rfl | (refine ⟨?_, ?_⟩ <;> first | omega | (unfold small; omega) | (dsimp only; omega) | exact rfl | decide | (simp only [List.size_toArray, Array.size_append, List.length_take, Array.length_toList]; omega)) | (refine ⟨?_, ?_, ?_⟩ <;> first | omega | (unfold small; omega) | (dsimp only; omega) | exact rfl | decide | (simp only [List.size_toArray, Array.size_append, List.length_take, Array.length_toList]; omega))) ?_) | fail)
  conv => whnf
  refine hE _ _ _ _ app_get0 fun fs l => ⟨rfl, ?_⟩
  rw [app_set0, List.append_assoc]
  exact hq fs l
theorem c_create_session (hE : SpSesInit O) (hs : σ[j]? = some s.obj) (ht : s.tail = []) (hq : Q (.ref σ.length) (σ ++ [sesObj .none])) : exs G7 blts O b_SMTP_create_session none ⟨σ, [(1718379891, .ref j)]⟩ (RQ Q) (RX X) := by
  obtain ⟨a, b, c, d, e, f, g, h, k, t⟩ := s
  cases ht
  repeat (first | ((conv => whnf); rw [hs]) | ((conv => whnf); erw [hs]) | ((conv => whnf); refine And.intro ⟨rfl, rfl, rfl, by first | exact Nat.le_of_ble_eq_true rfl | (simp; done)⟩ ?_) | ((conv => whnf); refine And.intro (by first | omega | (unfold small; omega) | (dsimp only; omega) | exact rfl | decide | exact Nat.le_of_ble_eq_true rfl | (refine ⟨?_, ?_⟩ <;> first | omega | (unfold small; omega) | (dsimp only; omega) | exact rfl | decide | (simp only [List.size_toArray, Array.size_append, List.length_take, Array.length_toList]; omega)) | (refine ⟨?_, ?_, ?_⟩ <;> first | omega | (unfold small; omega) | (dsimp only; omega) | exact rfl | decide | (simp only [List.size_toArray, Array.size_append, List.length_take, Array.length_toList]; omega))) ?_) | fail)
  conv => whnf
  refine hE _ _ _ _ app_get0 ⟨rfl, ?_⟩
  rw [app_set0]
  exact hq
theorem c_set_post (hE : SpEnv O) (hs : σ[j]? = some s.obj) (ht : s.tail = []) (hq : ∀ e l, Q .none (σ.set j { s with envelope := .ref e }.obj ++ l)) : exs G7 blts O b_SMTP_set_post_data_state none ⟨σ, [(1718379891, .ref j)]⟩ (RQ Q) (RX X) := by
  have hm := zmeth_create_envelope hs ht
  obtain ⟨a, b, c, d, e, f, g, h, k, t⟩ := s
  cases ht
  repeat (first | ((conv => whnf); rw [hm]) | ((conv => whnf); erw [hm]) | ((conv => whnf); refine And.intro ⟨rfl, rfl, rfl, by first | exact Nat.le_of_ble_eq_true rfl | (simp; done)⟩ ?_) | ((conv => whnf); refine And.intro (by first | omega | (unfold small; omega) | (dsimp only; omega) | exact rfl | decide | exact Nat.le_of_ble_eq_true rfl | (refine ⟨?_, ?_⟩ <;> first | omega | (unfold small; omega) | (dsimp only; omega) | exact rfl | decide | (simp only [List.size_toArray, Array.size_append, List.length_take, Array.length_toList]; omega)) | (refine ⟨?_, ?_, ?_⟩ <;> first | omega | (unfold small; omega) | (dsimp only; omega) | exact rfl | decide | (simp only [List.size_toArray, Array.size_append, List.length_take, Array.length_toList]; omega))) ?_) | fail)
  conv => whnf
  refine hE _ _ _ _ fun fs l => ?_
  have ho := app_old (l := .inst 390 fs :: l) hs
  have hsa : ∀ o, (σ ++ (.inst 390 fs :: l)).set j o = σ.set j o ++ (.inst 390 fs :: l) := fun o => set_app (lt_of_at hs)
  repeat (first | ((conv => whnf); rw [ho]) | ((conv => whnf); rw [hsa]) | ((conv => whnf); erw [ho]) | ((conv => whnf); erw [hsa]) | ((conv => whnf); refine And.intro ⟨rfl, rfl, rfl, by first | exact Nat.le_of_ble_eq_true rfl | (simp; done)⟩ ?_) | ((conv => whnf); refine And.intro (by first | omega | (unfold small; omega) | (dsimp only; omega) | exact rfl | decide | exact Nat.le_of_ble_eq_true rfl | (refine ⟨?_, ?_⟩ <;> first | omega | (unfold small; omega) | (dsimp only; omega) | exact rfl | decide | (simp only [List.size_toArray, Array.size_append, List.length_take, Array.length_toList]; omega)) | (refine ⟨?_, ?_, ?_⟩ <;> first | omega | (unfold small; omega) | (dsimp only; omega) | exact rfl | decide | (simp only [List.size_toArray, Array.size_append, List.length_take, Array.length_toList]; omega))) ?_) | fail)
  exact hq _ _
theorem c_set_rset (hE : SpPost 478 O) (hs : σ[j]? = some s.obj) (ht : s.tail = []) (hq : ∀ e l, Q .none (σ.set j { s with envelope := .ref e }.obj ++ l)) : exs G7 blts O b_SMTP_set_rset_state none ⟨σ, [(1718379891, .ref j)]⟩ (RQ Q) (RX X) := by
  have hm := zmeth_set_post_data_state hs ht
  repeat (first | ((conv => whnf); rw [hm]) | ((conv => whnf); erw [hm]) | ((conv => whnf); refine And.intro ⟨rfl, rfl, rfl, by first | exact Nat.le_of_ble_eq_true rfl | (simp; done)⟩ ?_) | ((conv => whnf); refine And.intro (by first | omega | (unfold small; omega) | (dsimp only; omega) | exact rfl | decide | exact Nat.le_of_ble_eq_true rfl | (refine ⟨?_, ?_⟩ <;> first | omega | (unfold small; omega) | (dsimp only; omega) | exact rfl | decide | (simp only [List.size_toArray, Array.size_append, List.length_take, Array.length_toList]; omega)) | (refine ⟨?_, ?_, ?_⟩ <;> first | omega | (unfold small; omega) | (dsimp only; omega) | exact rfl | decide | (simp only [List.size_toArray, Array.size_append, List.length_take, Array.length_toList]; omega))) ?_) | fail)
  conv => whnf
  exact hE _ s _ _ _ hs ht fun e l => hq e l
theorem c_cb (hs : σ[j]? = some s.obj) (ht : s.tail = []) (hq : Q .none (σ.set j { s with tail := [(32199629150188127, .ref i), (32199698004735839, .ref i)] }.obj)) : exs G7 blts O b_SMTP_cb_client_connected none ⟨σ, [(1718379891, .ref j), (125779801367922, .ref i), (125780070330999, .ref i)]⟩ (RQ Q) (RX X) := by
  obtain ⟨a, b, c, d, e, f, g, h, k, t⟩ := s
  cases ht
  have hset : ∀ o, (σ.set j o)[j]? = some o := fun o => at_set hs
  repeat (first | ((conv => whnf); rw [hs]) | ((conv => whnf); rw [hset]) | ((conv => whnf); rw [List.set_set]) | ((conv => whnf); erw [hs]) | ((conv => whnf); erw [hset]) | ((conv => whnf); erw [List.set_set]) | ((conv => whnf); refine And.intro ⟨rfl, rfl, rfl, by first | exact Nat.le_of_ble_eq_true rfl | (simp; done)⟩ ?_) | ((conv => whnf); refine And.intro (by first | omega | (unfold small; omega) | (dsimp only; omega) | exact rfl | decide | exact Nat.le_of_ble_eq_true rfl | (refine ⟨?_, ?_⟩ <;> first | omega | (unfold small; omega) | (dsimp only; omega) | exact rfl | decide | (simp only [List.size_toArray, Array.size_append, List.length_take, Array.length_toList]; omega)) | (refine ⟨?_, ?_, ?_⟩ <;> first | omega | (unfold small; omega) | (dsimp only; omega) | exact rfl | decide | (simp only [List.size_toArray, Array.size_append, List.length_take, Array.length_toList]; omega))) ?_) | fail)
  exact hq
theorem c_connection_made (hR : SpPost 485 O) (hS : SpSes O) (hI : SpInfo O) (hB : SpCb O) (hs : σ[j]? = some s.obj) (ht : s.tail = []) (hsn : s.session = .none) (htr : s.transport = .none) (hc : σ[i]? = some c.obj)
    (hq : ∀ e n l, (σ.set j (s.on i e n).obj ++ l)[n]? = some (sesObj c.peer) → Q .none (σ.set j (s.on i e n).obj ++ l)) : exs G7 blts O b_SMTP_connection_made none ⟨σ, [(1718379891, .ref j), (2148068245634122084980, .ref i)]⟩ (RQ Q) (RX X) := by
  have hne : i ≠ j := inst_ne hc hs (fun e => (srv_conn _ _) e.symm)
  have hm := zmeth_set_rset_state hs ht
  obtain ⟨a, b, cc, d, ee, f, g, h, k, t⟩ := s
  cases ht
  cases hsn
  cases htr
  repeat (first | ((conv => whnf); rw [hm]) | ((conv => whnf); erw [hm]) | ((conv => whnf); refine And.intro ⟨rfl, rfl, rfl, by first | exact Nat.le_of_ble_eq_true rfl | (simp; done)⟩ ?_) | ((conv => whnf); refine And.intro (by first | omega | (unfold small; omega) | (dsimp only; omega) | exact rfl | decide | exact Nat.le_of_ble_eq_true rfl | (refine ⟨?_, ?_⟩ <;> first | omega | (unfold small; omega) | (dsimp only; omega) | exact rfl | decide | (simp only [List.size_toArray, Array.size_append, List.length_take, Array.length_toList]; omega)) | (refine ⟨?_, ?_, ?_⟩ <;> first | omega | (unfold small; omega) | (dsimp only; omega) | exact rfl | decide | (simp only [List.size_toArray, Array.size_append, List.length_take, Array.length_toList]; omega))) ?_) | fail)
  conv => whnf
  refine hR _ _ _ _ _ hs rfl fun e l => ?_
  dsimp only
  have h1 : (σ.set j (Srv.mk a b cc d ee .none (.ref e) .none k []).obj ++ l)[j]? = some (Srv.mk a b cc d ee .none (.ref e) .none k []).obj := app_old (at_set hs)
  have hm2 := zmeth_create_session h1 rfl
  repeat (first | ((conv => whnf); rw [hm2]) | ((conv => whnf); erw [hm2]) | ((conv => whnf); refine And.intro ⟨rfl, rfl, rfl, by first | exact Nat.le_of_ble_eq_true rfl | (simp; done)⟩ ?_) | ((conv => whnf); refine And.intro (by first | omega | (unfold small; omega) | (dsimp only; omega) | exact rfl | decide | exact Nat.le_of_ble_eq_true rfl | (refine ⟨?_, ?_⟩ <;> first | omega | (unfold small; omega) | (dsimp only; omega) | exact rfl | decide | (simp only [List.size_toArray, Array.size_append, List.length_take, Array.length_toList]; omega)) | (refine ⟨?_, ?_, ?_⟩ <;> first | omega | (unfold small; omega) | (dsimp only; omega) | exact rfl | decide | (simp only [List.size_toArray, Array.size_append, List.length_take, Array.length_toList]; omega))) ?_) | fail)
  conv => whnf
  refine hS _ _ _ _ _ h1 rfl ?_
  have hap : ∀ o l, (σ.set j o ++ l)[j]? = some o := fun o l => app_old (at_set hs)
  have hsa : ∀ o l o', (σ.set j o ++ l).set j o' = σ.set j o' ++ l := fun o l o' => by rw [set_app (by rw [List.length_set]; exact lt_of_at hs), List.set_set]
  have hci : ∀ o l, (σ.set j o ++ l)[i]? = some c.obj := fun o l => app_old (at_set_ne hne hc)
  have hl1 : ∀ o l, (σ.set j o ++ l).length = σ.length + l.length := fun o l => by rw [List.length_append, List.length_set]
  have hn : ∀ (o x : AObj) (l : List AObj), (σ.set j o ++ (l ++ [x]))[σ.length + l.length]? = some x := fun o x l => by
    rw [← List.append_assoc, ← hl1 o l]; exact app_get0
  have hn2 : ∀ (o x y : AObj) (l : List AObj), (σ.set j o ++ (l ++ [x])).set (σ.length + l.length) y = σ.set j o ++ (l ++ [y]) := fun o x y l => by
    rw [← List.append_assoc, ← hl1 o l, app_set0, List.append_assoc]
  have hinfo : ∀ o l, methodOf G7 (σ.set j o ++ l) (.ref i) 2259462909320504184383269978269031 = some (.user 101) := fun o l => meth_get_extra_info (hci o l)
  repeat (first | ((conv => whnf); rw [hap]) | ((conv => whnf); rw [hsa]) | ((conv => whnf); rw [List.append_assoc]) | ((conv => whnf); rw [hinfo]) | ((conv => whnf); rw [hl1]) | ((conv => whnf); erw [hap]) | ((conv => whnf); erw [hsa]) | ((conv => whnf); erw [List.append_assoc]) | ((conv => whnf); erw [hinfo]) | ((conv => whnf); erw [hl1]) | ((conv => whnf); refine And.intro ⟨rfl, rfl, rfl, by first | exact Nat.le_of_ble_eq_true rfl | (simp; done)⟩ ?_) | ((conv => whnf); refine And.intro (by first | omega | (unfold small; omega) | (dsimp only; omega) | exact rfl | decide | exact Nat.le_of_ble_eq_true rfl | (refine ⟨?_, ?_⟩ <;> first | omega | (unfold small; omega) | (dsimp only; omega) | exact rfl | decide | (simp only [List.size_toArray, Array.size_append, List.length_take, Array.length_toList]; omega)) | (refine ⟨?_, ?_, ?_⟩ <;> first | omega | (unfold small; omega) | (dsimp only; omega) | exact rfl | decide | (simp only [List.size_toArray, Array.size_append, List.length_take, Array.length_toList]; omega))) ?_) | fail)
  conv => whnf
  refine hI i c _ _ _ _ (hci _ _) ?_
  have h2 : (σ.set j (Srv.mk a b cc d ee (.ref (σ.length + l.length)) (.ref e) .none k []).obj ++ (l ++ [sesObj c.peer]))[j]? = some (Srv.mk a b cc d ee (.ref (σ.length + l.length)) (.ref e) .none k []).obj := app_old (at_set hs)
  have hm3 := zmeth_cb_client_connected h2 rfl
  repeat (first | ((conv => whnf); rw [hap]) | ((conv => whnf); rw [hsa]) | ((conv => whnf); rw [hn]) | ((conv => whnf); rw [hn2]) | ((conv => whnf); rw [hl1]) | ((conv => whnf); rw [List.append_assoc]) | ((conv => whnf); rw [hm3]) | ((conv => whnf); erw [hap]) | ((conv => whnf); erw [hsa]) | ((conv => whnf); erw [hn]) | ((conv => whnf); erw [hn2]) | ((conv => whnf); erw [hl1]) | ((conv => whnf); erw [List.append_assoc]) | ((conv => whnf); erw [hm3]) | ((conv => whnf); refine And.intro ⟨rfl, rfl, rfl, by first | exact Nat.le_of_ble_eq_true rfl | (simp; done)⟩ ?_) | ((conv => whnf); refine And.intro (by first | omega | (unfold small; omega) | (dsimp only; omega) | exact rfl | decide | exact Nat.le_of_ble_eq_true rfl | (refine ⟨?_, ?_⟩ <;> first | omega | (unfold small; omega) | (dsimp only; omega) | exact rfl | decide | (simp only [List.size_toArray, Array.size_append, List.length_take, Array.length_toList]; omega)) | (refine ⟨?_, ?_, ?_⟩ <;> first | omega | (unfold small; omega) | (dsimp only; omega) | exact rfl | decide | (simp only [List.size_toArray, Array.size_append, List.length_take, Array.length_toList]; omega))) ?_) | fail)
  conv => whnf
  refine hB j i (Srv.mk a b cc d ee (.ref (σ.length + l.length)) (.ref e) .none k []) _ _ _ h2 rfl ?_
  repeat (first | ((conv => whnf); rw [hap]) | ((conv => whnf); rw [hsa]) | ((conv => whnf); rw [hn]) | ((conv => whnf); rw [hn2]) | ((conv => whnf); rw [hl1]) | ((conv => whnf); rw [List.append_assoc]) | ((conv => whnf); erw [hap]) | ((conv => whnf); erw [hsa]) | ((conv => whnf); erw [hn]) | ((conv => whnf); erw [hn2]) | ((conv => whnf); erw [hl1]) | ((conv => whnf); erw [List.append_assoc]) | ((conv => whnf); refine And.intro ⟨rfl, rfl, rfl, by first | exact Nat.le_of_ble_eq_true rfl | (simp; done)⟩ ?_) | ((conv => whnf); refine And.intro (by first | omega | (unfold small; omega) | (dsimp only; omega) | exact rfl | decide | exact Nat.le_of_ble_eq_true rfl | (refine ⟨?_, ?_⟩ <;> first | omega | (unfold small; omega) | (dsimp only; omega) | exact rfl | decide | (simp only [List.size_toArray, Array.size_append, List.length_take, Array.length_toList]; omega)) | (refine ⟨?_, ?_, ?_⟩ <;> first | omega | (unfold small; omega) | (dsimp only; omega) | exact rfl | decide | (simp only [List.size_toArray, Array.size_append, List.length_take, Array.length_toList]; omega))) ?_) | fail)
  exact hq e (σ.length + l.length) (l ++ [sesObj c.peer]) (hn _ _ _)
end
end Sm
end
section
set_option maxRecDepth 100000
set_option linter.unusedVariables false
set_option linter.unusedSimpArgs false
set_option maxHeartbeats 4000000
namespace Sm
open PySem
def SpPushS (O : Bool → Addr → Sp) : Prop := ∀ (hd : Bool) (i j e n : Nat) (c : Conn) (s : Srv) (x : Str) (σ : List AObj) (Q : AV → List AObj → Prop) (X : Nat → List AObj → Prop), σ[j]? = some (s.on i e n).obj → σ[i]? = some c.obj → c.closed = false → asc x → x.length ≤ 1000 → c.sent.size ≤ 80000 → Q .none (σ.set i (c.say (ascB x ++ crlf)).obj) → O hd 492 [.ref j, .str x] [] σ Q X
def SpPushB (O : Bool → Addr → Sp) : Prop := ∀ (hd : Bool) (i j e n : Nat) (c : Conn) (s : Srv) (o : Array UInt8) (σ : List AObj) (Q : AV → List AObj → Prop) (X : Nat → List AObj → Prop), σ[j]? = some (s.on i e n).obj → σ[i]? = some c.obj → c.closed = false → o.size ≤ 1000 → c.sent.size ≤ 80000 → Q .none (σ.set i (c.say (o ++ crlf)).obj) → O hd 492 [.ref j, .bytes o] [] σ Q X
def SpLine (O : Bool → Addr → Sp) : Prop := ∀ (i m : Nat) (c : Conn) (ps : List (Array UInt8)) (σ : List AObj) (Q : AV → List AObj → Prop) (X : Nat → List AObj → Prop), σ[i]? = some c.obj → c.closed = false → σ[c.pieces]? = some (.list (ps.map .bytes)) → ps.length ≤ 10000 →
  (c.ahead ps).length ≤ 10000 → m ≤ 1000 → (c.ahead ps)[m]? = some 10 → (∀ j, j < m → (c.ahead ps)[j]? ≠ some 10) →
  (∀ c' : Conn, c.Later c' ps ((c.ahead ps).drop (m + 1)) → Q (.bytes ((c.ahead ps).take (m + 1)).toArray) (σ.set i c'.obj)) → O false 123 [.ref i] [] σ Q X
def SpEnc (O : Bool → Addr → Sp) : Prop := ∀ (b : Array UInt8) (σ : List AObj) (Q : AV → List AObj → Prop) (X : Nat → List AObj → Prop), b.size ≤ 100 → Q (.bytes (ascB (sL (enc64 b)))) σ → O false 256 [.bytes b] [] σ Q X
def SpDec (O : Bool → Addr → Sp) : Prop := ∀ (w : Array UInt8) (σ : List AObj) (Q : AV → List AObj → Prop) (X : Nat → List AObj → Prop), w.size ≤ 1000 → (soundD w.toList → Q (.bytes (toldD w.toList).toArray) σ) → (¬ soundD w.toList → X σ.length (σ ++ [errObj 77])) → O false 264 [.bytes w] [(7310575179022492022, .bool true)] σ Q X
def t334 : Array UInt8 := #[51, 51, 52, 32]
def tAbort : Str := ⟨#[53, 48, 49, 32, 53, 46, 55, 46, 48, 32, 65, 117, 116, 104, 32, 97, 98, 111, 114, 116, 101, 100]⟩
def tBad : Str := ⟨#[53, 48, 49, 32, 53, 46, 53, 46, 50, 32, 67, 97, 110, 39, 116, 32, 100, 101, 99, 111, 100, 101, 32, 98, 97, 115, 101, 54, 52]⟩
abbrev errTb (a : Addr) : AObj := .exc (.ref a) [] [] true
theorem caught_new {a : Addr} {σ : List AObj} {loc : List (Nat × AV)} : caught σ.length ⟨σ ++ [errObj a], loc⟩ = ⟨σ ++ [errTb a], loc⟩ := by
  unfold caught
  dsimp only
  rw [app_get0]
  dsimp only
  rw [app_set0]
inductive Asked : AV → Array UInt8 → Prop
  | str (x : Str) : asc x → x.length ≤ 100 → Asked (.str x) (ascB x)
  | bytes (o : Array UInt8) : o.size ≤ 100 → Asked (.bytes o) o
def chal (coded : Bool) (o : Array UInt8) : Array UInt8 := t334 ++ (if coded then ascB (sL (enc64 o)) else o)
def blobOf (l : Array UInt8) : Array UInt8 := (stripB true true Builtin.Bytes.isSpace l).toArray
section
variable {O : Bool → Addr → Sp} {Q : AV → List AObj → Prop} {X : Nat → List AObj → Prop} {σ : List AObj} {i j e n m : Nat} {c : Conn} {s : Srv} {ps : List (Array UInt8)}
theorem Later.next {c c' : Conn} {ps : List (Array UInt8)} {r : List UInt8} (h : c.Later c' ps r) : c'.pieces = c.pieces ∧ c'.sent = c.sent ∧ c'.closed = c.closed := ⟨h.pieces, h.sent, h.closed⟩
theorem say_ahead (c : Conn) (o : Array UInt8) (ps : List (Array UInt8)) : (c.say o).ahead ps = c.ahead ps := rfl
theorem enc_size (o : Array UInt8) : (ascB (sL (enc64 o))).size = 4 * ((o.size + 2) / 3) := by
  have := encUpto_len o.toList ((o.size + 2) / 3)
  simpa [ascB, sL, enc64] using this
theorem chal_asc : asc tAbort ∧ asc tBad := ⟨by unfold asc; decide, by unfold asc; decide⟩
theorem blob_len (l : Array UInt8) : (blobOf l).size ≤ l.size := by
  unfold blobOf stripB
  simp only [if_true]
  rw [List.size_toArray, List.length_reverse]
  have h := (List.dropWhile_suffix (p := Builtin.Bytes.isSpace) (l := (List.dropWhile Builtin.Bytes.isSpace l.toList).reverse)).length_le
  have h2 := (List.dropWhile_suffix (p := Builtin.Bytes.isSpace) (l := l.toList)).length_le
  rw [List.length_reverse] at h
  exact Nat.le_trans h h2
theorem chal_rest {K : Array UInt8} {coded w : AV} (hK : K.size ≤ 1000) (hPB : SpPushB O) (hPS : SpPushS O) (hL : SpLine O) (hD : SpDec O)
    (hs : σ[j]? = some (s.on i e n).obj) (hc : σ[i]? = some c.obj) (ho : c.closed = false) (hp : σ[c.pieces]? = some (.list (ps.map .bytes))) (hps : ps.length ≤ 10000) (hse : c.sent.size ≤ 70000)
    (hz : (c.ahead ps).length ≤ 10000) (hm : m ≤ 900) (hx : (c.ahead ps)[m]? = some 10) (hb : ∀ j, j < m → (c.ahead ps)[j]? ≠ some 10)
    (hq : ∀ (c' : Conn) (l : Array UInt8), l = ((c.ahead ps).take (m + 1)).toArray → (c.say (K ++ crlf)).Later c' ps ((c.ahead ps).drop (m + 1)) →
      (blobOf l = #[42] → Q (.glob 294) (σ.set i (c'.say (ascB tAbort ++ crlf)).obj)) ∧
      (blobOf l ≠ #[42] → ¬ soundD (blobOf l).toList → ∀ x, Q (.glob 294) (σ.set i (c'.say (ascB tBad ++ crlf)).obj ++ [x])) ∧
      (blobOf l ≠ #[42] → soundD (blobOf l).toList → Q (.bytes (toldD (blobOf l).toList).toArray) (σ.set i c'.obj))) :
    exs G7 blts O (b_SMTP_challenge_auth.dropS 3) none ⟨σ, [(1718379891, .ref j), (1870574157394358659171, .bytes K), (4136695566683210419545827405413, coded), (2262430757122291963717535638160023062141431660, w)]⟩ (RQ Q) (RX X) := by
  have hne : j ≠ i := inst_ne hs hc (srv_conn _ _)
  have hnp : c.pieces ≠ i := inst_ne hp hc (fun e => by cases e)
  have hm1 := smeth_push hs
  have hset : ∀ o, (σ.set i o)[i]? = some o := fun o => at_set hc
  have hsj : ∀ o, (σ.set i o)[j]? = some (s.on i e n).obj := fun o => at_set_ne hne hs
  have hsp : ∀ o, (σ.set i o)[c.pieces]? = some (.list (ps.map .bytes)) := fun o => at_set_ne hnp hp
  have hml : ∀ (c' : Conn), methodOf G7 (σ.set i c'.obj) (.ref i) 7308895159530382706 = some (.user 123) := fun c' => meth_readline (hset _)
  have hmp : ∀ o, methodOf G7 (σ.set i o) (.ref j) 1752397168 = some (.user 492) := fun o => smeth_push (hsj o)
  repeat (first | ((conv => whnf); rw [hs]) | ((conv => whnf); rw [hm1]) | ((conv => whnf); erw [hs]) | ((conv => whnf); erw [hm1]) | ((conv => whnf); refine And.intro ⟨rfl, rfl, rfl, by first | exact Nat.le_of_ble_eq_true rfl | (simp; done)⟩ ?_) | ((conv => whnf); refine And.intro (by first | omega | (unfold small; omega) | (dsimp only; omega) | exact rfl | decide | exact Nat.le_of_ble_eq_true rfl | (refine ⟨?_, ?_⟩ <;> first | omega | (unfold small; omega) | (dsimp only; omega) | exact rfl | decide | (simp only [List.size_toArray, Array.size_append, List.length_take, Array.length_toList]; omega)) | (refine ⟨?_, ?_, ?_⟩ <;> first | omega | (unfold small; omega) | (dsimp only; omega) | exact rfl | decide | (simp only [List.size_toArray, Array.size_append, List.length_take, Array.length_toList]; omega))) ?_) | fail)
  conv => whnf
  refine hPB _ i j e n c s _ _ _ _ hs hc ho hK (by omega) ?_
  repeat (first | ((conv => whnf); rw [hsj]) | ((conv => whnf); rw [hml]) | ((conv => whnf); erw [hsj]) | ((conv => whnf); erw [hml]) | ((conv => whnf); refine And.intro ⟨rfl, rfl, rfl, by first | exact Nat.le_of_ble_eq_true rfl | (simp; done)⟩ ?_) | ((conv => whnf); refine And.intro (by first | omega | (unfold small; omega) | (dsimp only; omega) | exact rfl | decide | exact Nat.le_of_ble_eq_true rfl | (refine ⟨?_, ?_⟩ <;> first | omega | (unfold small; omega) | (dsimp only; omega) | exact rfl | decide | (simp only [List.size_toArray, Array.size_append, List.length_take, Array.length_toList]; omega)) | (refine ⟨?_, ?_, ?_⟩ <;> first | omega | (unfold small; omega) | (dsimp only; omega) | exact rfl | decide | (simp only [List.size_toArray, Array.size_append, List.length_take, Array.length_toList]; omega))) ?_) | fail)
  conv => whnf
  refine hL i m (c.say (K ++ crlf)) ps _ _ _ (hset _) ho (hsp _) hps hz (by omega) hx hb fun c' L => ?_
  rw [List.set_set]
  have hlen : ((c.ahead ps).take (m + 1)).toArray.size ≤ 901 := by rw [List.size_toArray, List.length_take]; omega
  obtain ⟨q1, q2, q3⟩ := hq c' _ rfl L
  rw [say_ahead]
  generalize ((c.ahead ps).take (m + 1)).toArray = l at *
  have hbl := blob_len l
  have hbe : (stripB true true Builtin.Bytes.isSpace l).toArray = blobOf l := rfl
  have hsent : c'.sent.size = c.sent.size + (K.size + 2) := by rw [L.sent]; show (c.sent ++ (K ++ crlf)).size = _; rw [Array.size_append, Array.size_append]; rfl
  have hclosed : c'.closed = false := by rw [L.closed]; exact ho
  by_cases hst : blobOf l = #[42]
  · have d1 : decide (blobOf l = #[42]) = true := decide_eq_true hst
    repeat (first | ((conv => whnf); rw [hbe]) | ((conv => whnf); rw [d1]) | ((conv => whnf); rw [hmp]) | ((conv => whnf); erw [hbe]) | ((conv => whnf); erw [d1]) | ((conv => whnf); erw [hmp]) | ((conv => whnf); refine And.intro ⟨rfl, rfl, rfl, by first | exact Nat.le_of_ble_eq_true rfl | (simp; done)⟩ ?_) | ((conv => whnf); refine And.intro (by first | omega | (unfold small; omega) | (dsimp only; omega) | exact rfl | decide | exact Nat.le_of_ble_eq_true rfl | (refine ⟨?_, ?_⟩ <;> first | omega | (unfold small; omega) | (dsimp only; omega) | exact rfl | decide | (simp only [List.size_toArray, Array.size_append, List.length_take, Array.length_toList]; omega)) | (refine ⟨?_, ?_, ?_⟩ <;> first | omega | (unfold small; omega) | (dsimp only; omega) | exact rfl | decide | (simp only [List.size_toArray, Array.size_append, List.length_take, Array.length_toList]; omega))) ?_) | fail)
    conv => whnf
    refine hPS _ i j e n c' s _ _ _ _ (hsj _) (hset _) hclosed chal_asc.1 (by decide) (by omega) ?_
    have q1' := q1 hst
    rw [← List.set_set c'.obj] at q1'
    exact q1'
  · have d1 : decide (blobOf l = #[42]) = false := decide_eq_false hst
    repeat (first | ((conv => whnf); rw [hbe]) | ((conv => whnf); rw [d1]) | ((conv => whnf); rw [hmp]) | ((conv => whnf); erw [hbe]) | ((conv => whnf); erw [d1]) | ((conv => whnf); erw [hmp]) | ((conv => whnf); refine And.intro ⟨rfl, rfl, rfl, by first | exact Nat.le_of_ble_eq_true rfl | (simp; done)⟩ ?_) | ((conv => whnf); refine And.intro (by first | omega | (unfold small; omega) | (dsimp only; omega) | exact rfl | decide | exact Nat.le_of_ble_eq_true rfl | (refine ⟨?_, ?_⟩ <;> first | omega | (unfold small; omega) | (dsimp only; omega) | exact rfl | decide | (simp only [List.size_toArray, Array.size_append, List.length_take, Array.length_toList]; omega)) | (refine ⟨?_, ?_, ?_⟩ <;> first | omega | (unfold small; omega) | (dsimp only; omega) | exact rfl | decide | (simp only [List.size_toArray, Array.size_append, List.length_take, Array.length_toList]; omega))) ?_) | fail)
    conv => whnf
    refine hD _ _ _ _ (by omega) (fun hsd => ?_) (fun hsd => ?_)
    · exact q3 hst hsd
    · have hxe : ∀ o x, (σ.set i o ++ [x])[(σ.set i o).length]? = some x := fun o x => app_get0
      have hxs : ∀ o x y, (σ.set i o ++ [x]).set (σ.set i o).length y = σ.set i o ++ [y] := fun o x y => app_set0
      have hsj2 : ∀ o l, (σ.set i o ++ l)[j]? = some (s.on i e n).obj := fun o l => app_old (hsj o)
      have hmp2 : ∀ o l, methodOf G7 (σ.set i o ++ l) (.ref j) 1752397168 = some (.user 492) := fun o l => smeth_push (hsj2 o l)
      have hcau : ∀ o loc, caught (σ.set i o).length ⟨σ.set i o ++ [errObj 77], loc⟩ = ⟨σ.set i o ++ [errTb 77], loc⟩ := fun o loc => caught_new
      have hmat : ∀ o, matchExc G7 (σ.set i o ++ [errTb 77]) (σ.set i o).length (.glob 77) = some true := fun o => by unfold matchExc; rw [hxe]; rfl
      have hsi2 : ∀ o l, (σ.set i o ++ l)[i]? = some o := fun o l => app_old (hset o)
      repeat (first | ((conv => whnf); rw [hcau]) | ((conv => whnf); rw [hmat]) | ((conv => whnf); rw [hmp2]) | ((conv => whnf); erw [hcau]) | ((conv => whnf); erw [hmat]) | ((conv => whnf); erw [hmp2]) | ((conv => whnf); refine And.intro ⟨rfl, rfl, rfl, by first | exact Nat.le_of_ble_eq_true rfl | (simp; done)⟩ ?_) | ((conv => whnf); refine And.intro (by first | omega | (unfold small; omega) | (dsimp only; omega) | exact rfl | decide | exact Nat.le_of_ble_eq_true rfl | (refine ⟨?_, ?_⟩ <;> first | omega | (unfold small; omega) | (dsimp only; omega) | exact rfl | decide | (simp only [List.size_toArray, Array.size_append, List.length_take, Array.length_toList]; omega)) | (refine ⟨?_, ?_, ?_⟩ <;> first | omega | (unfold small; omega) | (dsimp only; omega) | exact rfl | decide | (simp only [List.size_toArray, Array.size_append, List.length_take, Array.length_toList]; omega))) ?_) | fail)
      conv => whnf
      refine hPS _ i j e n c' s _ _ _ _ (hsj2 _ _) (hsi2 _ _) hclosed chal_asc.2 (by decide) (by omega) ?_
      have q2' := q2 hst hsd (errTb 77)
      rw [← List.set_set c'.obj, ← set_app (by rw [List.length_set]; exact lt_of_at hc)] at q2'
      exact q2'
theorem c_challenge {v : AV} {o : Array UInt8} {coded w : Bool} (hPB : SpPushB O) (hPS : SpPushS O) (hL : SpLine O) (hE : SpEnc O) (hD : SpDec O) (hv : Asked v o)
    (hs : σ[j]? = some (s.on i e n).obj) (hc : σ[i]? = some c.obj) (ho : c.closed = false) (hp : σ[c.pieces]? = some (.list (ps.map .bytes))) (hps : ps.length ≤ 10000) (hse : c.sent.size ≤ 70000)
    (hz : (c.ahead ps).length ≤ 10000) (hm : m ≤ 900) (hx : (c.ahead ps)[m]? = some 10) (hb : ∀ j, j < m → (c.ahead ps)[j]? ≠ some 10)
    (hq : ∀ (c' : Conn) (l : Array UInt8), l = ((c.ahead ps).take (m + 1)).toArray → (c.say (chal coded o ++ crlf)).Later c' ps ((c.ahead ps).drop (m + 1)) →
      (blobOf l = #[42] → Q (.glob 294) (σ.set i (c'.say (ascB tAbort ++ crlf)).obj)) ∧
      (blobOf l ≠ #[42] → ¬ soundD (blobOf l).toList → ∀ x, Q (.glob 294) (σ.set i (c'.say (ascB tBad ++ crlf)).obj ++ [x])) ∧
      (blobOf l ≠ #[42] → soundD (blobOf l).toList → Q (.bytes (toldD (blobOf l).toList).toArray) (σ.set i c'.obj))) :
    exs G7 blts O b_SMTP_challenge_auth none ⟨σ, [(1718379891, .ref j), (1870574157394358659171, v), (4136695566683210419545827405413, .bool coded), (2262430757122291963717535638160023062141431660, .bool w)]⟩ (RQ Q) (RX X) := by
  have rest := fun hK => chal_rest (O := O) (X := X) (K := chal coded o) (coded := .bool coded) (w := .bool w) hK hPB hPS hL hD hs hc ho hp hps hse hz hm hx hb hq
  rw [exs_split 3]
  generalize hR : (fun st => exs G7 blts O (b_SMTP_challenge_auth.dropS 3) none st (RQ Q) (RX X)) = R
  have rest' : (chal coded o).size ≤ 1000 → R ⟨σ, [(1718379891, .ref j), (1870574157394358659171, .bytes (chal coded o)), (4136695566683210419545827405413, .bool coded), (2262430757122291963717535638160023062141431660, .bool w)]⟩ := by rw [← hR]; exact rest
  show exs G7 blts O (b_SMTP_challenge_auth.takeS 3) none _ (NX (fun st => exs G7 blts O (b_SMTP_challenge_auth.dropS 3) none st (RQ Q) (RX X)) (RQ Q)) (RX X)
  rw [hR]
  clear hR rest hq hPB hPS hL hD
  have t4 : (#[51, 51, 52, 32] : Array UInt8).size = 4 := rfl
  cases hv with
  | str x hx1 hx2 =>
    have hsz : (ascB x).size = x.length := by unfold ascB; rw [List.size_toArray, List.length_map]; rfl
    have hes := enc_size (ascB x)
    cases coded
    · repeat (first | ((conv => whnf); refine And.intro (by rw [t4]; omega) ?_) | ((conv => whnf); refine And.intro ⟨rfl, rfl, rfl, by first | exact Nat.le_of_ble_eq_true rfl | (simp; done)⟩ ?_) | ((conv => whnf); refine And.intro (by first | omega | (unfold small; omega) | (dsimp only; omega) | exact rfl | decide | exact Nat.le_of_ble_eq_true rfl | (refine ⟨?_, ?_⟩ <;> first | omega | (unfold small; omega) | (dsimp only; omega) | exact rfl | decide | (simp only [List.size_toArray, Array.size_append, List.length_take, Array.length_toList]; omega)) | (refine ⟨?_, ?_, ?_⟩ <;> first | omega | (unfold small; omega) | (dsimp only; omega) | exact rfl | decide | (simp only [List.size_toArray, Array.size_append, List.length_take, Array.length_toList]; omega))) ?_) | fail)
      exact rest' (by show (t334 ++ ascB x).size ≤ 1000; rw [Array.size_append]; exact Nat.le_trans (m := 4 + 100) (Nat.add_le_add (Nat.le_refl 4) (by omega)) (by decide))
    · repeat (first | ((conv => whnf); refine And.intro (by rw [t4]; omega) ?_) | ((conv => whnf); refine And.intro ⟨rfl, rfl, rfl, by first | exact Nat.le_of_ble_eq_true rfl | (simp; done)⟩ ?_) | ((conv => whnf); refine And.intro (by first | omega | (unfold small; omega) | (dsimp only; omega) | exact rfl | decide | exact Nat.le_of_ble_eq_true rfl | (refine ⟨?_, ?_⟩ <;> first | omega | (unfold small; omega) | (dsimp only; omega) | exact rfl | decide | (simp only [List.size_toArray, Array.size_append, List.length_take, Array.length_toList]; omega)) | (refine ⟨?_, ?_, ?_⟩ <;> first | omega | (unfold small; omega) | (dsimp only; omega) | exact rfl | decide | (simp only [List.size_toArray, Array.size_append, List.length_take, Array.length_toList]; omega))) ?_) | fail)
      conv => whnf
      refine hE _ _ _ _ (by omega) ?_
      repeat (first | ((conv => whnf); refine And.intro (by rw [t4]; omega) ?_) | ((conv => whnf); refine And.intro ⟨rfl, rfl, rfl, by first | exact Nat.le_of_ble_eq_true rfl | (simp; done)⟩ ?_) | ((conv => whnf); refine And.intro (by first | omega | (unfold small; omega) | (dsimp only; omega) | exact rfl | decide | exact Nat.le_of_ble_eq_true rfl | (refine ⟨?_, ?_⟩ <;> first | omega | (unfold small; omega) | (dsimp only; omega) | exact rfl | decide | (simp only [List.size_toArray, Array.size_append, List.length_take, Array.length_toList]; omega)) | (refine ⟨?_, ?_, ?_⟩ <;> first | omega | (unfold small; omega) | (dsimp only; omega) | exact rfl | decide | (simp only [List.size_toArray, Array.size_append, List.length_take, Array.length_toList]; omega))) ?_) | fail)
      exact rest' (by show (t334 ++ ascB (sL (enc64 (ascB x)))).size ≤ 1000; rw [Array.size_append]; exact Nat.le_trans (m := 4 + 200) (Nat.add_le_add (Nat.le_refl 4) (by omega)) (by decide))
  | bytes o hx2 =>
    have hes := enc_size o
    cases coded
    · repeat (first | ((conv => whnf); refine And.intro (by rw [t4]; omega) ?_) | ((conv => whnf); refine And.intro ⟨rfl, rfl, rfl, by first | exact Nat.le_of_ble_eq_true rfl | (simp; done)⟩ ?_) | ((conv => whnf); refine And.intro (by first | omega | (unfold small; omega) | (dsimp only; omega) | exact rfl | decide | exact Nat.le_of_ble_eq_true rfl | (refine ⟨?_, ?_⟩ <;> first | omega | (unfold small; omega) | (dsimp only; omega) | exact rfl | decide | (simp only [List.size_toArray, Array.size_append, List.length_take, Array.length_toList]; omega)) | (refine ⟨?_, ?_, ?_⟩ <;> first | omega | (unfold small; omega) | (dsimp only; omega) | exact rfl | decide | (simp only [List.size_toArray, Array.size_append, List.length_take, Array.length_toList]; omega))) ?_) | fail)
      exact rest' (by show (t334 ++ o).size ≤ 1000; rw [Array.size_append]; exact Nat.le_trans (m := 4 + 100) (Nat.add_le_add (Nat.le_refl 4) (by omega)) (by decide))
    · repeat (first | ((conv => whnf); refine And.intro (by rw [t4]; omega) ?_) | ((conv => whnf); refine And.intro ⟨rfl, rfl, rfl, by first | exact Nat.le_of_ble_eq_true rfl | (simp; done)⟩ ?_) | ((conv => whnf); refine And.intro (by first | omega | (unfold small; omega) | (dsimp only; omega) | exact rfl | decide | exact Nat.le_of_ble_eq_true rfl | (refine ⟨?_, ?_⟩ <;> first | omega | (unfold small; omega) | (dsimp only; omega) | exact rfl | decide | (simp only [List.size_toArray, Array.size_append, List.length_take, Array.length_toList]; omega)) | (refine ⟨?_, ?_, ?_⟩ <;> first | omega | (unfold small; omega) | (dsimp only; omega) | exact rfl | decide | (simp only [List.size_toArray, Array.size_append, List.length_take, Array.length_toList]; omega))) ?_) | fail)
      conv => whnf
      refine hE _ _ _ _ (by omega) ?_
      repeat (first | ((conv => whnf); refine And.intro (by rw [t4]; omega) ?_) | ((conv => whnf); refine And.intro ⟨rfl, rfl, rfl, by first | exact Nat.le_of_ble_eq_true rfl | (simp; done)⟩ ?_) | ((conv => whnf); refine And.intro (by first | omega | (unfold small; omega) | (dsimp only; omega) | exact rfl | decide | exact Nat.le_of_ble_eq_true rfl | (refine ⟨?_, ?_⟩ <;> first | omega | (unfold small; omega) | (dsimp only; omega) | exact rfl | decide | (simp only [List.size_toArray, Array.size_append, List.length_take, Array.length_toList]; omega)) | (refine ⟨?_, ?_, ?_⟩ <;> first | omega | (unfold small; omega) | (dsimp only; omega) | exact rfl | decide | (simp only [List.size_toArray, Array.size_append, List.length_take, Array.length_toList]; omega))) ?_) | fail)
      exact rest' (by show (t334 ++ ascB (sL (enc64 o))).size ≤ 1000; rw [Array.size_append]; exact Nat.le_trans (m := 4 + 200) (Nat.add_le_add (Nat.le_refl 4) (by omega)) (by decide))
end
end Sm
end
section
set_option maxRecDepth 100000
set_option linter.unusedVariables false
set_option linter.unusedSimpArgs false
set_option maxHeartbeats 4000000
namespace Sm
open PySem
def tQuit : Str := ⟨#[81, 85, 73, 84]⟩
def tBye : Str := ⟨#[50, 50, 49, 32, 66, 121, 101]⟩
def Conn.shut (c : Conn) : Conn := { c with closed := true }
def SpHook (O : Bool → Addr → Sp) : Prop := ∀ (i j e n : Nat) (s : Srv) (x : Str) (σ : List AObj) (Q : AV → List AObj → Prop) (X : Nat → List AObj → Prop), σ[j]? = some (s.on i e n).obj → σ[s.hooks]? = some (.dict []) → Q (.glob 294) σ → O false 435 [.ref j, .str x] [] σ Q X
def SpClose (a : Nat) (O : Bool → Addr → Sp) : Prop := ∀ (hd : Bool) (i : Nat) (c : Conn) (σ : List AObj) (Q : AV → List AObj → Prop) (X : Nat → List AObj → Prop), σ[i]? = some c.obj → Q .none (σ.set i c.shut.obj) → O hd a [.ref i] [] σ Q X
def SpQuit (O : Bool → Addr → Sp) : Prop := ∀ (i j e n : Nat) (c : Conn) (s : Srv) (σ : List AObj) (Q : AV → List AObj → Prop) (X : Nat → List AObj → Prop), σ[j]? = some (s.on i e n).obj → σ[s.hooks]? = some (.dict []) → σ[i]? = some c.obj → c.closed = false → c.sent.size ≤ 80000 →
  Q .none (σ.set i (c.say (ascB tBye ++ crlf)).shut.obj) → O false 549 [.ref j, .none] [] σ Q X
def SpCall (O : Bool → Addr → Sp) : Prop := ∀ (i j e n : Nat) (c : Conn) (s : Srv) (σ : List AObj) (Q : AV → List AObj → Prop) (X : Nat → List AObj → Prop), σ[j]? = some (s.on i e n).obj → σ[s.hooks]? = some (.dict []) → σ[i]? = some c.obj → c.closed = false → c.sent.size ≤ 80000 →
  Q .none (σ.set i (c.say (ascB tBye ++ crlf)).shut.obj) → O false 449 [.ref j, .str tQuit, .none] [] σ Q X
section
variable {O : Bool → Addr → Sp} {Q : AV → List AObj → Prop} {X : Nat → List AObj → Prop} {σ : List AObj} {i j e n m : Nat} {c : Conn} {s : Srv} {ps : List (Array UInt8)}
theorem meth_dget {σ : List AObj} {i : Nat} {kvs : List (Str × AV)} (h : σ[i]? = some (.dict kvs)) : methodOf G7 σ (.ref i) 7628135 = some (.blt .dGet) := by unfold methodOf; dsimp only; rw [h]; rfl
theorem c_hook {x : Str} (hs : σ[j]? = some (s.on i e n).obj) (hh : σ[s.hooks]? = some (.dict [])) (hq : Q (.glob 294) σ) :
    exs G7 blts O b_SMTP_call_handler_hook none ⟨σ, [(1718379891, .ref j), (28268862397837155, .str x), (1936159329, .tup [])]⟩ (RQ Q) (RX X) := by
  have hh' : σ[(s.on i e n).hooks]? = some (.dict []) := hh
  have hm := meth_dget hh'
  repeat (first | ((conv => whnf); rw [hs]) | ((conv => whnf); rw [hh']) | ((conv => whnf); rw [hm]) | ((conv => whnf); erw [hs]) | ((conv => whnf); erw [hh']) | ((conv => whnf); erw [hm]) | ((conv => whnf); refine And.intro ⟨rfl, rfl, rfl, by first | exact Nat.le_of_ble_eq_true rfl | (simp; done)⟩ ?_) | ((conv => whnf); refine And.intro (by first | omega | (unfold small; omega) | (dsimp only; omega) | exact rfl | decide | exact Nat.le_of_ble_eq_true rfl | (refine ⟨?_, ?_⟩ <;> first | omega | (unfold small; omega) | (dsimp only; omega) | exact rfl | decide | (simp only [List.size_toArray, Array.size_append, List.length_take, Array.length_toList]; omega)) | (refine ⟨?_, ?_, ?_⟩ <;> first | omega | (unfold small; omega) | (dsimp only; omega) | exact rfl | decide | (simp only [List.size_toArray, Array.size_append, List.length_take, Array.length_toList]; omega))) ?_) | fail)
  exact hq
theorem c_quit (hH : SpHook O) (hP : SpPushS O) (hC : SpClose 158 O) (hD : SpClose 165 O) (hs : σ[j]? = some (s.on i e n).obj) (hh : σ[s.hooks]? = some (.dict [])) (hc : σ[i]? = some c.obj) (ho : c.closed = false) (hse : c.sent.size ≤ 80000)
    (hq : Q .none (σ.set i (c.say (ascB tBye ++ crlf)).shut.obj)) :
    exs G7 blts O b_SMTP_smtp_QUIT none ⟨σ, [(1718379891, .ref j), (6779489, .none)]⟩ (RQ Q) (RX X) := by
  have hne : j ≠ i := inst_ne hs hc (srv_conn _ _)
  have hm1 := smeth_call_handler_hook hs
  have hm2 := smeth_push hs
  have hset : ∀ o, (σ.set i o)[i]? = some o := fun o => at_set hc
  have hsj : ∀ o, (σ.set i o)[j]? = some (s.on i e n).obj := fun o => at_set_ne hne hs
  have hm3 : ∀ c : Conn, methodOf G7 (σ.set i c.obj) (.ref i) 119182715674979 = some (.user 158) := fun c => meth_cancel (hset _)
  have hm4 : ∀ c : Conn, methodOf G7 (σ.set i c.obj) (.ref i) 435728378979 = some (.user 165) := fun c => meth_close (hset _)
  repeat (first | ((conv => whnf); rw [hs]) | ((conv => whnf); rw [hm1]) | ((conv => whnf); rw [hm2]) | ((conv => whnf); erw [hs]) | ((conv => whnf); erw [hm1]) | ((conv => whnf); erw [hm2]) | ((conv => whnf); refine And.intro ⟨rfl, rfl, rfl, by first | exact Nat.le_of_ble_eq_true rfl | (simp; done)⟩ ?_) | ((conv => whnf); refine And.intro (by first | omega | (unfold small; omega) | (dsimp only; omega) | exact rfl | decide | exact Nat.le_of_ble_eq_true rfl | (refine ⟨?_, ?_⟩ <;> first | omega | (unfold small; omega) | (dsimp only; omega) | exact rfl | decide | (simp only [List.size_toArray, Array.size_append, List.length_take, Array.length_toList]; omega)) | (refine ⟨?_, ?_, ?_⟩ <;> first | omega | (unfold small; omega) | (dsimp only; omega) | exact rfl | decide | (simp only [List.size_toArray, Array.size_append, List.length_take, Array.length_toList]; omega))) ?_) | fail)
  conv => whnf
  refine hH i j e n s _ _ _ _ hs hh ?_
  repeat (first | ((conv => whnf); rw [hs]) | ((conv => whnf); rw [hm1]) | ((conv => whnf); rw [hm2]) | ((conv => whnf); erw [hs]) | ((conv => whnf); erw [hm1]) | ((conv => whnf); erw [hm2]) | ((conv => whnf); refine And.intro ⟨rfl, rfl, rfl, by first | exact Nat.le_of_ble_eq_true rfl | (simp; done)⟩ ?_) | ((conv => whnf); refine And.intro (by first | omega | (unfold small; omega) | (dsimp only; omega) | exact rfl | decide | exact Nat.le_of_ble_eq_true rfl | (refine ⟨?_, ?_⟩ <;> first | omega | (unfold small; omega) | (dsimp only; omega) | exact rfl | decide | (simp only [List.size_toArray, Array.size_append, List.length_take, Array.length_toList]; omega)) | (refine ⟨?_, ?_, ?_⟩ <;> first | omega | (unfold small; omega) | (dsimp only; omega) | exact rfl | decide | (simp only [List.size_toArray, Array.size_append, List.length_take, Array.length_toList]; omega))) ?_) | fail)
  conv => whnf
  refine hP _ i j e n c s _ _ _ _ hs hc ho (by unfold asc; decide) (by decide) hse ?_
  repeat (first | ((conv => whnf); rw [hsj]) | ((conv => whnf); rw [hset]) | ((conv => whnf); rw [hm3]) | ((conv => whnf); rw [hm4]) | ((conv => whnf); erw [hsj]) | ((conv => whnf); erw [hset]) | ((conv => whnf); erw [hm3]) | ((conv => whnf); erw [hm4]) | ((conv => whnf); refine And.intro ⟨rfl, rfl, rfl, by first | exact Nat.le_of_ble_eq_true rfl | (simp; done)⟩ ?_) | ((conv => whnf); refine And.intro (by first | omega | (unfold small; omega) | (dsimp only; omega) | exact rfl | decide | exact Nat.le_of_ble_eq_true rfl | (refine ⟨?_, ?_⟩ <;> first | omega | (unfold small; omega) | (dsimp only; omega) | exact rfl | decide | (simp only [List.size_toArray, Array.size_append, List.length_take, Array.length_toList]; omega)) | (refine ⟨?_, ?_, ?_⟩ <;> first | omega | (unfold small; omega) | (dsimp only; omega) | exact rfl | decide | (simp only [List.size_toArray, Array.size_append, List.length_take, Array.length_toList]; omega))) ?_) | fail)
  conv => whnf
  refine hC _ i _ _ _ _ (hset _) ?_
  rw [List.set_set]
  repeat (first | ((conv => whnf); rw [hsj]) | ((conv => whnf); rw [hset]) | ((conv => whnf); rw [hm3]) | ((conv => whnf); rw [hm4]) | ((conv => whnf); erw [hsj]) | ((conv => whnf); erw [hset]) | ((conv => whnf); erw [hm3]) | ((conv => whnf); erw [hm4]) | ((conv => whnf); refine And.intro ⟨rfl, rfl, rfl, by first | exact Nat.le_of_ble_eq_true rfl | (simp; done)⟩ ?_) | ((conv => whnf); refine And.intro (by first | omega | (unfold small; omega) | (dsimp only; omega) | exact rfl | decide | exact Nat.le_of_ble_eq_true rfl | (refine ⟨?_, ?_⟩ <;> first | omega | (unfold small; omega) | (dsimp only; omega) | exact rfl | decide | (simp only [List.size_toArray, Array.size_append, List.length_take, Array.length_toList]; omega)) | (refine ⟨?_, ?_, ?_⟩ <;> first | omega | (unfold small; omega) | (dsimp only; omega) | exact rfl | decide | (simp only [List.size_toArray, Array.size_append, List.length_take, Array.length_toList]; omega))) ?_) | fail)
  conv => whnf
  refine hD _ i _ _ _ _ (hset _) ?_
  rw [List.set_set]
  exact hq
theorem c_call (hQ : SpQuit O) (hs : σ[j]? = some (s.on i e n).obj) (hh : σ[s.hooks]? = some (.dict [])) (hc : σ[i]? = some c.obj) (ho : c.closed = false) (hse : c.sent.size ≤ 80000)
    (hq : Q .none (σ.set i (c.say (ascB tBye ++ crlf)).shut.obj)) :
    exs G7 blts O b_SMTP_call none ⟨σ, [(1718379891, .ref j), (28268862397837155, .str tQuit), (6779489, .none)]⟩ (RQ Q) (RX X) := by
  have hm1 := smeth_smtp_QUIT hs
  repeat (first | ((conv => whnf); rw [hm1]) | ((conv => whnf); erw [hm1]) | ((conv => whnf); refine And.intro ⟨rfl, rfl, rfl, by first | exact Nat.le_of_ble_eq_true rfl | (simp; done)⟩ ?_) | ((conv => whnf); refine And.intro (by first | omega | (unfold small; omega) | (dsimp only; omega) | exact rfl | decide | exact Nat.le_of_ble_eq_true rfl | (refine ⟨?_, ?_⟩ <;> first | omega | (unfold small; omega) | (dsimp only; omega) | exact rfl | decide | (simp only [List.size_toArray, Array.size_append, List.length_take, Array.length_toList]; omega)) | (refine ⟨?_, ?_, ?_⟩ <;> first | omega | (unfold small; omega) | (dsimp only; omega) | exact rfl | decide | (simp only [List.size_toArray, Array.size_append, List.length_take, Array.length_toList]; omega))) ?_) | fail)
  conv => whnf
  exact hQ i j e n c s _ _ _ hs hh hc ho hse hq
end
end Sm
end
section
set_option maxRecDepth 100000
set_option linter.unusedVariables false
set_option linter.unusedSimpArgs false
set_option maxHeartbeats 4000000
namespace Sm
open PySem
def tHello : Str := fmtT tHost tIdent
def tLine : Array UInt8 := #[81, 85, 73, 84, 13, 10]
def tQ : Array UInt8 := #[81, 85, 73, 84]
section
variable {O : Bool → Addr → Sp} {Q : AV → List AObj → Prop} {X : Nat → List AObj → Prop} {σ : List AObj} {i j e n m : Nat} {c : Conn} {s : Srv} {ps : List (Array UInt8)} {peer : AV} {lim : Nat}
theorem ahead_line {l : List UInt8} (h : l = tLine.toList) : l[5]? = some 10 ∧ (∀ j, j < 5 → l[j]? ≠ some 10) := by
  subst h
  refine ⟨rfl, fun j hj => ?_⟩
  match j, hj with
  | 0, _ | 1, _ | 2, _ | 3, _ | 4, _ => decide
theorem h_strip : (stripB false true (#[13, 10] : Array UInt8).contains tLine).toArray = tQ := by decide +kernel
theorem h_part : partB tQ #[32] = none := by decide +kernel
theorem h_upper : (tQ.toList.map Builtin.Bytes.toUpper).toArray = tQ := by decide +kernel
theorem h_dec : (⟨#[97, 115, 99, 105, 105]⟩ : Str) = ("ascii" : Str) ∧ (∀ c ∈ tQ.toList, c.toNat < 128) ∧ tQ.size ≤ 1000000 := by decide +kernel
theorem h_str : strOf tQ = tQuit := by decide +kernel
theorem caught_again {a : Addr} {σ : List AObj} {loc : List (Nat × AV)} : caught σ.length ⟨σ ++ [errTb a], loc⟩ = ⟨σ ++ [errTb a], loc⟩ := by
  unfold caught
  dsimp only
  rw [app_get0]
  dsimp only
  rw [app_set0]
theorem h_loop (hU : SpUntil O) (hUX : SpUntilX O) (hP : SpPushS O) (hC : SpCall O) (hW : SpClose 165 O) (hs : σ[j]? = some (s.on i e n).obj) (hh : σ[s.hooks]? = some (.dict [])) (hm : σ[s.methods]? = some (.dict cmds)) (hn : σ[n]? = some (sesObj peer))
    (hc : σ[i]? = some c.obj) (ho : c.closed = false) (hp : σ[c.pieces]? = some (.list (ps.map .bytes))) (hps : ps.length ≤ 10000) (hse : c.sent.size ≤ 75000) (ha : c.ahead ps = tLine.toList)
    (hq : ∀ (c' : Conn) l k x, c'.sent = c.sent ++ (ascB tBye ++ crlf) → (σ.set i c'.obj ++ l)[k]? = some (.exc (.ref 31) [] [] x) → X k (σ.set i c'.obj ++ l)) :
    exs G7 blts O (b_SMTP_handle_client.dropS 4) none ⟨σ, [(1718379891, .ref j), (549739304092398133207395, .ref lim), (36022850903937676462782902114, .int 5)]⟩ (RQ Q) (RX X) := by
  have hne : j ≠ i := inst_ne hs hc (srv_conn _ _)
  have hnp : c.pieces ≠ i := inst_ne hp hc (fun e => by cases e)
  have hnn : n ≠ i := inst_ne hn hc (fun e => by cases e)
  have hnm : s.methods ≠ i := inst_ne hm hc (fun e => by cases e)
  have hnh : s.hooks ≠ i := inst_ne hh hc (fun e => by cases e)
  have hset : ∀ o, (σ.set i o)[i]? = some o := fun o => at_set hc
  have hsj : ∀ o, (σ.set i o)[j]? = some (s.on i e n).obj := fun o => at_set_ne hne hs
  have hpp : ∀ o, (σ.set i o)[c.pieces]? = some (.list (ps.map .bytes)) := fun o => at_set_ne hnp hp
  have hhh : ∀ o, (σ.set i o)[s.hooks]? = some (.dict []) := fun o => at_set_ne hnh hh
  have hmm : ∀ o, (σ.set i o)[(s.on i e n).methods]? = some (.dict cmds) := fun o => at_set_ne hnm hm
  have hmd : ∀ o, methodOf G7 (σ.set i o) (.ref (s.on i e n).methods) 7628135 = some (.blt .dGet) := fun o => meth_dget (hmm o)
  have hnn2 : ∀ o, (σ.set i o)[n]? = some (sesObj peer) := fun o => at_set_ne hnn hn
  have hmr := meth_readuntil hc
  have hmcall : ∀ o, methodOf G7 (σ.set i o) (.ref j) 465674789727 = some (.user 449) := fun o => smeth_call (hsj _)
  conv => whnf
  refine ⟨fun k st => (k = 1 ∧ st = ⟨σ, [(1718379891, .ref j), (549739304092398133207395, .ref lim), (36022850903937676462782902114, .int 5)]⟩) ∨ (k = 0 ∧ ∃ (c' : Conn), c'.sent = c.sent ++ (ascB tBye ++ crlf) ∧ c'.closed = true ∧ st.σ = σ.set i c'.obj ∧ st.loc.lookup 1718379891 = some (.ref j)), 1, .inl ⟨rfl, rfl⟩, fun k st hk => ?_⟩
  rcases hk with ⟨rfl, rfl⟩ | ⟨rfl, c', h1, h2, h3, h4⟩
  · repeat (first | ((conv => whnf); rw [hs]) | ((conv => whnf); rw [hmr]) | ((conv => whnf); erw [hs]) | ((conv => whnf); erw [hmr]) | ((conv => whnf); refine And.intro ⟨rfl, rfl, rfl, by first | exact Nat.le_of_ble_eq_true rfl | (simp; done)⟩ ?_) | ((conv => whnf); refine And.intro (by first | omega | (unfold small; omega) | (dsimp only; omega) | exact rfl | decide | exact Nat.le_of_ble_eq_true rfl | (refine ⟨?_, ?_⟩ <;> first | omega | (unfold small; omega) | (dsimp only; omega) | exact rfl | decide | (simp only [List.size_toArray, Array.size_append, List.length_take, Array.length_toList]; omega)) | (refine ⟨?_, ?_, ?_⟩ <;> first | omega | (unfold small; omega) | (dsimp only; omega) | exact rfl | decide | (simp only [List.size_toArray, Array.size_append, List.length_take, Array.length_toList]; omega))) ?_) | fail)
    conv => whnf
    refine hU i 5 c ps _ _ _ _ (.inl rfl) hc ho hp hps (by rw [ha]; decide) (by decide) (ahead_line ha).1 (ahead_line ha).2 fun c' L => ?_
    rw [show ((c.ahead ps).take (5 + 1)).toArray = tLine by rw [ha]; rfl]
    repeat (first | ((conv => whnf); rw [h_strip]) | ((conv => whnf); rw [h_part]) | ((conv => whnf); rw [h_upper]) | ((conv => whnf); rw [h_str]) | ((conv => whnf); rw [hsj]) | ((conv => whnf); rw [hnn2]) | ((conv => whnf); rw [hmm]) | ((conv => whnf); rw [hmd]) | ((conv => whnf); rw [hmcall]) | ((conv => whnf); erw [h_strip]) | ((conv => whnf); erw [h_part]) | ((conv => whnf); erw [h_upper]) | ((conv => whnf); erw [h_str]) | ((conv => whnf); erw [hsj]) | ((conv => whnf); erw [hnn2]) | ((conv => whnf); erw [hmm]) | ((conv => whnf); erw [hmd]) | ((conv => whnf); erw [hmcall]) | ((conv => whnf); refine And.intro h_dec ?_) | ((conv => whnf); refine And.intro ⟨rfl, rfl, rfl, by first | exact Nat.le_of_ble_eq_true rfl | (simp; done)⟩ ?_) | ((conv => whnf); refine And.intro (by first | omega | (unfold small; omega) | (dsimp only; omega) | exact rfl | decide | exact Nat.le_of_ble_eq_true rfl | (refine ⟨?_, ?_⟩ <;> first | omega | (unfold small; omega) | (dsimp only; omega) | exact rfl | decide | (simp only [List.size_toArray, Array.size_append, List.length_take, Array.length_toList]; omega)) | (refine ⟨?_, ?_, ?_⟩ <;> first | omega | (unfold small; omega) | (dsimp only; omega) | exact rfl | decide | (simp only [List.size_toArray, Array.size_append, List.length_take, Array.length_toList]; omega))) ?_) | fail)
    conv => whnf
    refine hC i j e n c' s _ _ _ (hsj _) (hhh _) (hset _) (by rw [L.closed]; exact ho) (by rw [L.sent]; omega) ?_
    refine ⟨0, by decide, .inr ⟨rfl, (c'.say (ascB tBye ++ crlf)).shut, ?_, rfl, ?_, rfl⟩⟩
    · show c'.sent ++ _ = _; rw [L.sent]
    · exact List.set_set ..
  · obtain ⟨σ', loc⟩ := st
    dsimp only at h3 h4
    subst h3
    have hmr2 := meth_readuntil (hset c'.obj)
    repeat (first | ((conv => whnf); rw [hsj]) | ((conv => whnf); rw [hmr2]) | ((conv => whnf); rw [h4]) | ((conv => whnf); erw [hsj]) | ((conv => whnf); erw [hmr2]) | ((conv => whnf); erw [h4]) | ((conv => whnf); refine And.intro ⟨rfl, rfl, rfl, by first | exact Nat.le_of_ble_eq_true rfl | (simp; done)⟩ ?_) | ((conv => whnf); refine And.intro (by first | omega | (unfold small; omega) | (dsimp only; omega) | exact rfl | decide | exact Nat.le_of_ble_eq_true rfl | (refine ⟨?_, ?_⟩ <;> first | omega | (unfold small; omega) | (dsimp only; omega) | exact rfl | decide | (simp only [List.size_toArray, Array.size_append, List.length_take, Array.length_toList]; omega)) | (refine ⟨?_, ?_, ?_⟩ <;> first | omega | (unfold small; omega) | (dsimp only; omega) | exact rfl | decide | (simp only [List.size_toArray, Array.size_append, List.length_take, Array.length_toList]; omega))) ?_) | fail)
    conv => whnf
    refine hUX i c' _ _ _ (hset _) h2 ?_
    have hcau : ∀ o loc, caught (σ.set i o).length ⟨σ.set i o ++ [errObj 31], loc⟩ = ⟨σ.set i o ++ [errTb 31], loc⟩ := fun o loc => caught_new
    have hcau2 : ∀ o loc, caught (σ.set i o).length ⟨σ.set i o ++ [errTb 31], loc⟩ = ⟨σ.set i o ++ [errTb 31], loc⟩ := fun o loc => caught_again
    have hxe : ∀ o x, (σ.set i o ++ [x])[(σ.set i o).length]? = some x := fun o x => app_get0
    have hmat : ∀ o, matchExc G7 (σ.set i o ++ [errTb 31]) (σ.set i o).length (.glob 51) = some false := fun o => by unfold matchExc; rw [hxe]; rfl
    have hmat2 : ∀ o, matchExc G7 (σ.set i o ++ [errTb 31]) (σ.set i o).length (.glob 31) = some true := fun o => by unfold matchExc; rw [hxe]; rfl
    have hsj2 : ∀ o l, (σ.set i o ++ l)[j]? = some (s.on i e n).obj := fun o l => app_old (hsj o)
    have hsi2 : ∀ o l, (σ.set i o ++ l)[i]? = some o := fun o l => app_old (hset o)
    have hmc : ∀ (c : Conn) l, methodOf G7 (σ.set i c.obj ++ l) (.ref i) 435728378979 = some (.user 165) := fun c l => meth_close (hsi2 _ _)
    repeat (first | ((conv => whnf); rw [hcau]) | ((conv => whnf); rw [hmat]) | ((conv => whnf); rw [hcau2]) | ((conv => whnf); rw [hmat2]) | ((conv => whnf); rw [hsj2]) | ((conv => whnf); rw [h4]) | ((conv => whnf); rw [hmc]) | ((conv => whnf); erw [hcau]) | ((conv => whnf); erw [hmat]) | ((conv => whnf); erw [hcau2]) | ((conv => whnf); erw [hmat2]) | ((conv => whnf); erw [hsj2]) | ((conv => whnf); erw [h4]) | ((conv => whnf); erw [hmc]) | ((conv => whnf); refine And.intro ⟨rfl, rfl, rfl, by first | exact Nat.le_of_ble_eq_true rfl | (simp; done)⟩ ?_) | ((conv => whnf); refine And.intro (by first | omega | (unfold small; omega) | (dsimp only; omega) | exact rfl | decide | exact Nat.le_of_ble_eq_true rfl | (refine ⟨?_, ?_⟩ <;> first | omega | (unfold small; omega) | (dsimp only; omega) | exact rfl | decide | (simp only [List.size_toArray, Array.size_append, List.length_take, Array.length_toList]; omega)) | (refine ⟨?_, ?_, ?_⟩ <;> first | omega | (unfold small; omega) | (dsimp only; omega) | exact rfl | decide | (simp only [List.size_toArray, Array.size_append, List.length_take, Array.length_toList]; omega))) ?_) | fail)
    conv => whnf
    refine hW true i _ _ _ _ (hsi2 _ _) ?_
    have hsa : ∀ o l o', (σ.set i o ++ l).set i o' = σ.set i o' ++ l := fun o l o' => by rw [set_app (by rw [List.length_set]; exact lt_of_at hc), List.set_set]
    rw [hsa]
    have hxl : ∀ o o' x, (σ.set i o ++ [x])[(σ.set i o').length]? = some x := fun o o' x => by rw [show (σ.set i o').length = (σ.set i o).length by rw [List.length_set, List.length_set]]; exact app_get0
    repeat (first | ((conv => whnf); rw [hxl]) | ((conv => whnf); erw [hxl]) | ((conv => whnf); refine And.intro ⟨rfl, rfl, rfl, by first | exact Nat.le_of_ble_eq_true rfl | (simp; done)⟩ ?_) | ((conv => whnf); refine And.intro (by first | omega | (unfold small; omega) | (dsimp only; omega) | exact rfl | decide | exact Nat.le_of_ble_eq_true rfl | (refine ⟨?_, ?_⟩ <;> first | omega | (unfold small; omega) | (dsimp only; omega) | exact rfl | decide | (simp only [List.size_toArray, Array.size_append, List.length_take, Array.length_toList]; omega)) | (refine ⟨?_, ?_, ?_⟩ <;> first | omega | (unfold small; omega) | (dsimp only; omega) | exact rfl | decide | (simp only [List.size_toArray, Array.size_append, List.length_take, Array.length_toList]; omega))) ?_) | fail)
    exact hq c'.shut [errTb 31] _ true h1 (hxl _ _ _)
end
end Sm
end
section
set_option maxRecDepth 100000
set_option linter.unusedVariables false
set_option linter.unusedSimpArgs false
set_option maxHeartbeats 400000
namespace Sm
open PySem
section
variable {O : Bool → Addr → Sp} {Q : AV → List AObj → Prop} {X : Nat → List AObj → Prop} {σ : List AObj} {i j e n m : Nat} {c : Conn} {s : Srv} {ps : List (Array UInt8)} {peer : AV} {lim : Nat}
theorem hello_size : (ascB tHello ++ crlf).size ≤ 100 := by decide +kernel
theorem hello_asc : asc tHello := by unfold asc; decide +kernel
theorem hello_len : tHello.length ≤ 1000 := by decide +kernel
theorem c_handle (hU : SpUntil O) (hUX : SpUntilX O) (hP : SpPushS O) (hC : SpCall O) (hW : SpClose 165 O) (hs : σ[j]? = some (s.on i e n).obj) (hh : σ[s.hooks]? = some (.dict [])) (hm : σ[s.methods]? = some (.dict cmds)) (hn : σ[n]? = some (sesObj peer))
    (hc : σ[i]? = some c.obj) (ho : c.closed = false) (hp : σ[c.pieces]? = some (.list (ps.map .bytes))) (hps : ps.length ≤ 10000) (hse : c.sent.size ≤ 70000) (ha : c.ahead ps = tLine.toList)
    (hq : ∀ (c' : Conn) l k x, c'.sent = (c.sent ++ (ascB tHello ++ crlf)) ++ (ascB tBye ++ crlf) → (σ.set i c'.obj ++ l)[k]? = some (.exc (.ref 31) [] [] x) → X k (σ.set i c'.obj ++ l)) :
    exs G7 blts O b_SMTP_handle_client none ⟨σ, [(1718379891, .ref j)]⟩ (RQ Q) (RX X) := by
  have hz := hello_size
  have hP1 := hP false i j e n c s tHello σ
  generalize hX : ascB tHello ++ crlf = Y at hq hz hP1
  clear hX
  have hne : j ≠ i := inst_ne hs hc (srv_conn _ _)
  have hnp : c.pieces ≠ i := inst_ne hp hc (fun e => by cases e)
  have hnn : n ≠ i := inst_ne hn hc (fun e => by cases e)
  have hnm : s.methods ≠ i := inst_ne hm hc (fun e => by cases e)
  have hnh : s.hooks ≠ i := inst_ne hh hc (fun e => by cases e)
  have hset : ∀ o l, (σ.set i o ++ l)[i]? = some o := fun o l => app_old (at_set hc)
  have hsj : ∀ o l, (σ.set i o ++ l)[j]? = some (s.on i e n).obj := fun o l => app_old (at_set_ne hne hs)
  have hsj0 : ∀ o, (σ.set i o)[j]? = some (s.on i e n).obj := fun o => at_set_ne hne hs
  have hsa : ∀ o l o', (σ.set i o ++ l).set i o' = σ.set i o' ++ l := fun o l o' => by rw [set_app (by rw [List.length_set]; exact lt_of_at hc), List.set_set]
  have hpp : ∀ o l, (σ.set i o ++ l)[c.pieces]? = some (.list (ps.map .bytes)) := fun o l => app_old (at_set_ne hnp hp)
  have hhh : ∀ o l, (σ.set i o ++ l)[s.hooks]? = some (.dict []) := fun o l => app_old (at_set_ne hnh hh)
  have hmm : ∀ o l, (σ.set i o ++ l)[s.methods]? = some (.dict cmds) := fun o l => app_old (at_set_ne hnm hm)
  have hnn2 : ∀ o l, (σ.set i o ++ l)[n]? = some (sesObj peer) := fun o l => app_old (at_set_ne hnn hn)
  have hmp := smeth_push hs
  have rest := h_loop (O := O) (Q := Q) (X := X) (lim := (σ.set i (c.say (Y)).obj).length) (c := c.say (Y)) (σ := σ.set i (c.say (Y)).obj ++ [.dict []]) hU hUX hP hC hW (hsj _ _) (hhh _ _) (hmm _ _) (hnn2 _ _) (hset _ _) ho (hpp _ _) hps
    (by show (c.sent ++ (Y)).size ≤ _; rw [Array.size_append]; omega) ha fun c' l k x hx hk => by
      rw [hsa, List.append_assoc] at hk ⊢
      exact hq c' _ k x hx hk
  rw [exs_split 4]
  generalize hR : (fun st => exs G7 blts O (b_SMTP_handle_client.dropS 4) none st (RQ Q) (RX X)) = R
  have rest' : R ⟨σ.set i (c.say (Y)).obj ++ [.dict []], [(1718379891, .ref j), (549739304092398133207395, .ref (σ.set i (c.say (Y)).obj).length), (36022850903937676462782902114, .int 5)]⟩ := by rw [← hR]; exact rest
  show exs G7 blts O (b_SMTP_handle_client.takeS 4) none _ (NX (fun st => exs G7 blts O (b_SMTP_handle_client.dropS 4) none st (RQ Q) (RX X)) (RQ Q)) (RX X)
  rw [hR]
  clear hR rest hq
  repeat (first | ((conv => whnf); rw [hs]) | ((conv => whnf); rw [hmp]) | ((conv => whnf); erw [hs]) | ((conv => whnf); erw [hmp]) | ((conv => whnf); refine And.intro ⟨rfl, rfl, rfl, by first | exact Nat.le_of_ble_eq_true rfl | (simp; done)⟩ ?_) | ((conv => whnf); refine And.intro (by first | omega | (unfold small; omega) | (dsimp only; omega) | exact rfl | decide | exact Nat.le_of_ble_eq_true rfl | (refine ⟨?_, ?_⟩ <;> first | omega | (unfold small; omega) | (dsimp only; omega) | exact rfl | decide | (simp only [List.size_toArray, Array.size_append, List.length_take, Array.length_toList]; omega)) | (refine ⟨?_, ?_, ?_⟩ <;> first | omega | (unfold small; omega) | (dsimp only; omega) | exact rfl | decide | (simp only [List.size_toArray, Array.size_append, List.length_take, Array.length_toList]; omega))) ?_) | fail)
  conv => whnf
  refine hP1 _ _ hs hc ho hello_asc hello_len (by omega) ?_
  repeat (first | ((conv => whnf); rw [hsj0]) | ((conv => whnf); rw [hsj]) | ((conv => whnf); rw [hset]) | ((conv => whnf); erw [hsj0]) | ((conv => whnf); erw [hsj]) | ((conv => whnf); erw [hset]) | ((conv => whnf); refine And.intro ⟨rfl, rfl, rfl, by first | exact Nat.le_of_ble_eq_true rfl | (simp; done)⟩ ?_) | ((conv => whnf); refine And.intro (by first | omega | (unfold small; omega) | (dsimp only; omega) | exact rfl | decide | exact Nat.le_of_ble_eq_true rfl | (refine ⟨?_, ?_⟩ <;> first | omega | (unfold small; omega) | (dsimp only; omega) | exact rfl | decide | (simp only [List.size_toArray, Array.size_append, List.length_take, Array.length_toList]; omega)) | (refine ⟨?_, ?_, ?_⟩ <;> first | omega | (unfold small; omega) | (dsimp only; omega) | exact rfl | decide | (simp only [List.size_toArray, Array.size_append, List.length_take, Array.length_toList]; omega))) ?_) | fail)
  exact rest'
end
end Sm
end
section
set_option maxRecDepth 100000
set_option linter.unusedVariables false
set_option linter.unusedSimpArgs false
set_option maxHeartbeats 4000000
namespace Sm
open PySem
structure Item where
  line : Array UInt8
  nl : Array UInt8
  asked : AV
  octets : Array UInt8
  coded : Bool
def wordsOf (l : Array UInt8) : Array UInt8 := (stripB true true (#[32, 9] : Array UInt8).contains l).toArray
structure Item.Ok (it : Item) : Prop where
  line : okLine it.line
  nl : it.nl = #[10] ∨ it.nl = #[13, 10]
  asked : Asked it.asked it.octets
  small : it.octets.size ≤ 100
  same : enc64 it.octets = sixty it.octets
noncomputable def wantStep (w : Array UInt8) (it : Item) : Array UInt8 :=
  let w' := ((w ++ #[51, 51, 52, 32]) ++ (if it.coded then ascB (sL (sixty it.octets)) else it.octets)) ++ #[13, 10]
  if wordsOf it.line = #[42] then w' ++ #[53, 48, 49, 32, 53, 46, 55, 46, 48, 32, 65, 117, 116, 104, 32, 97, 98, 111, 114, 116, 101, 100, 13, 10]
  else open Classical in if sound (wordsOf it.line).toList then w' else w' ++ #[53, 48, 49, 32, 53, 46, 53, 46, 50, 32, 67, 97, 110, 39, 116, 32, 100, 101, 99, 111, 100, 101, 32, 98, 97, 115, 101, 54, 52, 13, 10]
noncomputable def wantAll (its : List Item) : Array UInt8 := its.foldl wantStep #[]
theorem wantAll_snoc (its : List Item) (it : Item) : wantAll (its ++ [it]) = wantStep (wantAll its) it := by unfold wantAll; rw [List.foldl_append]; rfl
noncomputable def planOf (it : Item) : AV := open Classical in if sound (wordsOf it.line).toList then .tup [it.asked, .bool it.coded, .bool true, .bytes (told (wordsOf it.line).toList).toArray] else .tup [it.asked, .bool it.coded, .bool false, .bytes #[]]
def lineOf (it : Item) : AV := .bytes (it.line ++ it.nl)
def SpAnswer (O : Bool → Addr → Sp) : Prop := ∀ (i : Int) (σ : List AObj) (Q : AV → List AObj → Prop) (X : Nat → List AObj → Prop), (∀ l o, okLine l → Q (.bytes l) (σ ++ [o])) → O false 700 [.int i] [] σ Q X
def SpReadL (O : Bool → Addr → Sp) : Prop := ∀ (w : Array UInt8) (σ : List AObj) (Q : AV → List AObj → Prop) (X : Nat → List AObj → Prop), w.size ≤ 1000 → (sound w.toList → Q (.tup [.bool true, .bytes (told w.toList).toArray]) σ) → (¬ sound w.toList → Q (.tup [.bool false, .bytes #[]]) σ) → O false 695 [.bytes w] [] σ Q X
def lawL : List AV := match lawAsked with | .tup xs => xs | _ => []
theorem asked_at {r : Nat} (h : r < 4) : ∃ a o, Asked a o ∧ o.size ≤ 100 ∧ enc64 o = sixty o ∧ lawL[r]? = some (.tup [a, .bytes o]) := by
  match r, h with
  | 0, _ => exact ⟨_, _, .str ⟨#[85, 115, 101, 114, 32, 78, 97, 109, 101, 0]⟩ (by unfold asc; decide) (by decide), by decide, enc_asked _ (by simp [ascB]), rfl⟩
  | 1, _ => exact ⟨_, _, .bytes #[0, 255, 32, 114, 97, 119] (by decide), by decide, enc_asked _ (by simp), rfl⟩
  | 2, _ => exact ⟨_, _, .str ⟨#[]⟩ (by unfold asc; decide) (by decide), by decide, enc_asked _ (by simp [ascB]), rfl⟩
  | 3, _ => exact ⟨_, _, .bytes #[60, 49, 50, 46, 51, 52, 64, 109, 120, 49, 46, 101, 120, 97, 109, 112, 108, 101, 62] (by decide), by decide, enc_asked _ (by simp), rfl⟩
end Sm
end
section
set_option maxRecDepth 100000
set_option linter.unusedVariables false
set_option linter.unusedSimpArgs false
set_option maxHeartbeats 4000000
namespace Sm
open PySem
def bodyOfFor : Sxs → Sxs
  | .cons (.for_ _ _ b) _ => b
  | _ => .nil
def locA (w : Array UInt8) (v : AV) (tl : List (Nat × AV)) : List (Nat × AV) := (128026154263411, v) :: (495622973804, .ref 0) :: (1851878512, .ref 1) :: (110386907865463, .bytes w) :: tl
def tlA (tl : List (Nat × AV)) : Prop := tl = [] ∨ ∃ v1 v2 v3 v4 v5 v6 v7 v8, tl = [(125779768604014, v1), (1701734764, v2), (431198270305, v3), (126943755527023, v4), (431197810531, v5), (495606460279, v6), (431349919603, v7), (1684828020, v8)]
section
variable {O : Bool → Addr → Sp} {Q : AV → List AObj → Prop} {X : Nat → List AObj → Prop} {σ : List AObj} {F : FQ}
theorem words_size (l : Array UInt8) : (wordsOf l).size ≤ l.size := by
  unfold wordsOf stripB
  simp only [if_true]
  rw [List.size_toArray, List.length_reverse]
  have h := (List.dropWhile_suffix (p := (#[32, 9] : Array UInt8).contains) (l := (List.dropWhile (#[32, 9] : Array UInt8).contains l.toList).reverse)).length_le
  have h2 := (List.dropWhile_suffix (p := (#[32, 9] : Array UInt8).contains) (l := l.toList)).length_le
  rw [List.length_reverse] at h
  exact Nat.le_trans h h2
theorem meth_lappend {σ : List AObj} {i : Nat} {xs : List AV} (h : σ[i]? = some (.list xs)) : methodOf G7 σ (.ref i) 110425311047777 = some (.blt .lAppend) := by unfold methodOf; dsimp only; rw [h]; rfl
def tlC (tl : List (Nat × AV)) : Prop := tl = [] ∨ ∃ v6 v7 v8, tl = [(495606460279, v6), (431349919603, v7), (1684828020, v8)]
theorem law_turn2 {v : AV} {w : Array UInt8} {tl : List (Nat × AV)} {l o : Array UInt8} {a : AV} {cd : Bool} {ps : List AV} {k : Int} (hR : SpReadL O) (htl : tlC tl) (hlz : l.size ≤ 40) (hp : σ[1]? = some (.list ps)) (hps : ps.length ≤ 100000) (hw : w.size ≤ 20000)
    (hF : ∀ v6 v7 v8 w' pv, w' = (if wordsOf l = #[42] then w ++ #[53, 48, 49, 32, 53, 46, 55, 46, 48, 32, 65, 117, 116, 104, 32, 97, 98, 111, 114, 116, 101, 100, 13, 10]
        else open Classical in if sound (wordsOf l).toList then w else w ++ #[53, 48, 49, 32, 53, 46, 53, 46, 50, 32, 67, 97, 110, 39, 116, 32, 100, 101, 99, 111, 100, 101, 32, 98, 97, 115, 101, 54, 52, 13, 10]) →
      pv = (open Classical in if sound (wordsOf l).toList then .tup [a, .bool cd, .bool true, .bytes (told (wordsOf l).toList).toArray] else .tup [a, .bool cd, .bool false, .bytes #[]]) →
      F .next ⟨σ.set 1 (.list (ps ++ [pv])), locA w' v ([(125779768604014, .int k), (1701734764, .bytes l), (431198270305, a), (126943755527023, .bytes o), (431197810531, .bool cd), (495606460279, v6), (431349919603, v7), (1684828020, v8)])⟩) :
    exs G7 blts O ((bodyOfFor (b_law.dropS 3)).dropS 5) none ⟨σ, locA w v ([(125779768604014, .int k), (1701734764, .bytes l), (431198270305, a), (126943755527023, .bytes o), (431197810531, .bool cd)] ++ tl)⟩ F (RX X) := by
  have hbe : (stripB true true (#[32, 9] : Array UInt8).contains l).toArray = wordsOf l := rfl
  have hwz := words_size l
  have ml := meth_lappend hp
  have e1 : (#[53, 48, 49, 32, 53, 46, 55, 46, 48, 32, 65, 117, 116, 104, 32, 97, 98, 111, 114, 116, 101, 100, 13, 10] : Array UInt8).size = 24 := rfl
  have e2 : (#[53, 48, 49, 32, 53, 46, 53, 46, 50, 32, 67, 97, 110, 39, 116, 32, 100, 101, 99, 111, 100, 101, 32, 98, 97, 115, 101, 54, 52, 13, 10] : Array UInt8).size = 31 := rfl
  unfold locA at hF ⊢
  generalize hW : wordsOf l = W at hbe hF hwz
  rcases htl with rfl | ⟨v6, v7, v8, rfl⟩
  all_goals (
    repeat (first | ((conv => whnf); rw [hbe]) | ((conv => whnf); erw [hbe]) | ((conv => whnf); refine And.intro ⟨rfl, rfl, rfl, by first | exact Nat.le_of_ble_eq_true rfl | (simp; done)⟩ ?_) | ((conv => whnf); refine And.intro (by first | omega | (unfold small; omega) | (dsimp only; omega) | exact rfl | decide | exact Nat.le_of_ble_eq_true rfl | (refine ⟨?_, ?_⟩ <;> first | omega | (unfold small; omega) | (dsimp only; omega) | exact rfl | decide | (simp only [List.size_toArray, Array.size_append, List.length_take, Array.length_toList]; omega)) | (refine ⟨?_, ?_, ?_⟩ <;> first | omega | (unfold small; omega) | (dsimp only; omega) | exact rfl | decide | (simp only [List.size_toArray, Array.size_append, List.length_take, Array.length_toList]; omega))) ?_) | fail)
    conv => whnf
    refine hR _ _ _ _ (by omega) (fun hs => ?_) (fun hs => ?_)
    · by_cases hst : W = #[42]
      · have d1 : decide (W = #[42]) = true := decide_eq_true hst
        repeat (first | ((conv => whnf); rw [hbe]) | ((conv => whnf); rw [d1]) | ((conv => whnf); rw [ml]) | ((conv => whnf); rw [hp]) | ((conv => whnf); erw [hbe]) | ((conv => whnf); erw [d1]) | ((conv => whnf); erw [ml]) | ((conv => whnf); erw [hp]) | ((conv => whnf); refine And.intro (by rw [e1]; omega) ?_) | ((conv => whnf); refine And.intro ⟨rfl, rfl, rfl, by first | exact Nat.le_of_ble_eq_true rfl | (simp; done)⟩ ?_) | ((conv => whnf); refine And.intro (by first | omega | (unfold small; omega) | (dsimp only; omega) | exact rfl | decide | exact Nat.le_of_ble_eq_true rfl | (refine ⟨?_, ?_⟩ <;> first | omega | (unfold small; omega) | (dsimp only; omega) | exact rfl | decide | (simp only [List.size_toArray, Array.size_append, List.length_take, Array.length_toList]; omega)) | (refine ⟨?_, ?_, ?_⟩ <;> first | omega | (unfold small; omega) | (dsimp only; omega) | exact rfl | decide | (simp only [List.size_toArray, Array.size_append, List.length_take, Array.length_toList]; omega))) ?_) | fail)
        exact hF _ _ _ _ _ (by rw [if_pos hst]) (by rw [if_pos hs])
      · have d1 : decide (W = #[42]) = false := decide_eq_false hst
        repeat (first | ((conv => whnf); rw [hbe]) | ((conv => whnf); rw [d1]) | ((conv => whnf); rw [ml]) | ((conv => whnf); rw [hp]) | ((conv => whnf); erw [hbe]) | ((conv => whnf); erw [d1]) | ((conv => whnf); erw [ml]) | ((conv => whnf); erw [hp]) | ((conv => whnf); refine And.intro (by rw [e1]; omega) ?_) | ((conv => whnf); refine And.intro ⟨rfl, rfl, rfl, by first | exact Nat.le_of_ble_eq_true rfl | (simp; done)⟩ ?_) | ((conv => whnf); refine And.intro (by first | omega | (unfold small; omega) | (dsimp only; omega) | exact rfl | decide | exact Nat.le_of_ble_eq_true rfl | (refine ⟨?_, ?_⟩ <;> first | omega | (unfold small; omega) | (dsimp only; omega) | exact rfl | decide | (simp only [List.size_toArray, Array.size_append, List.length_take, Array.length_toList]; omega)) | (refine ⟨?_, ?_, ?_⟩ <;> first | omega | (unfold small; omega) | (dsimp only; omega) | exact rfl | decide | (simp only [List.size_toArray, Array.size_append, List.length_take, Array.length_toList]; omega))) ?_) | fail)
        exact hF _ _ _ _ _ (by rw [if_neg hst, if_pos hs]) (by rw [if_pos hs])
    · by_cases hst : W = #[42]
      · have d1 : decide (W = #[42]) = true := decide_eq_true hst
        repeat (first | ((conv => whnf); rw [hbe]) | ((conv => whnf); rw [d1]) | ((conv => whnf); rw [ml]) | ((conv => whnf); rw [hp]) | ((conv => whnf); erw [hbe]) | ((conv => whnf); erw [d1]) | ((conv => whnf); erw [ml]) | ((conv => whnf); erw [hp]) | ((conv => whnf); refine And.intro (by rw [e1]; omega) ?_) | ((conv => whnf); refine And.intro ⟨rfl, rfl, rfl, by first | exact Nat.le_of_ble_eq_true rfl | (simp; done)⟩ ?_) | ((conv => whnf); refine And.intro (by first | omega | (unfold small; omega) | (dsimp only; omega) | exact rfl | decide | exact Nat.le_of_ble_eq_true rfl | (refine ⟨?_, ?_⟩ <;> first | omega | (unfold small; omega) | (dsimp only; omega) | exact rfl | decide | (simp only [List.size_toArray, Array.size_append, List.length_take, Array.length_toList]; omega)) | (refine ⟨?_, ?_, ?_⟩ <;> first | omega | (unfold small; omega) | (dsimp only; omega) | exact rfl | decide | (simp only [List.size_toArray, Array.size_append, List.length_take, Array.length_toList]; omega))) ?_) | fail)
        exact hF _ _ _ _ _ (by rw [if_pos hst]) (by rw [if_neg hs])
      · have d1 : decide (W = #[42]) = false := decide_eq_false hst
        repeat (first | ((conv => whnf); rw [hbe]) | ((conv => whnf); rw [d1]) | ((conv => whnf); rw [ml]) | ((conv => whnf); rw [hp]) | ((conv => whnf); erw [hbe]) | ((conv => whnf); erw [d1]) | ((conv => whnf); erw [ml]) | ((conv => whnf); erw [hp]) | ((conv => whnf); refine And.intro (by rw [e2]; omega) ?_) | ((conv => whnf); refine And.intro ⟨rfl, rfl, rfl, by first | exact Nat.le_of_ble_eq_true rfl | (simp; done)⟩ ?_) | ((conv => whnf); refine And.intro (by first | omega | (unfold small; omega) | (dsimp only; omega) | exact rfl | decide | exact Nat.le_of_ble_eq_true rfl | (refine ⟨?_, ?_⟩ <;> first | omega | (unfold small; omega) | (dsimp only; omega) | exact rfl | decide | (simp only [List.size_toArray, Array.size_append, List.length_take, Array.length_toList]; omega)) | (refine ⟨?_, ?_, ?_⟩ <;> first | omega | (unfold small; omega) | (dsimp only; omega) | exact rfl | decide | (simp only [List.size_toArray, Array.size_append, List.length_take, Array.length_toList]; omega))) ?_) | fail)
        exact hF _ _ _ _ _ (by rw [if_neg hst, if_neg hs]) (by rw [if_neg hs]))
theorem law_turn1 {i : Int} {v : AV} {tl : List (Nat × AV)} {ls ps : List AV} {w : Array UInt8} {R : St → Prop} {F' : FQ} (hA : SpAnswer O) (hS : SpSixty O) (htl : tlA tl) (hl : σ[0]? = some (.list ls)) (hp : σ[1]? = some (.list ps))
    (hn : ls.length ≤ 100000) (hw : w.size ≤ 10000) (hR : ∀ it x tl', it.Ok → tlC tl' → R ⟨(σ ++ [x]).set 0 (.list (ls ++ [lineOf it])),
      locA (((w ++ #[51, 51, 52, 32]) ++ (if it.coded then ascB (sL (sixty it.octets)) else it.octets)) ++ #[13, 10]) v ([(125779768604014, .int i), (1701734764, .bytes it.line), (431198270305, it.asked), (126943755527023, .bytes it.octets), (431197810531, .bool it.coded)] ++ tl')⟩) :
    exs G7 blts O ((bodyOfFor (b_law.dropS 3)).takeS 5) none (setL 125779768604014 (.int i) ⟨σ, locA w v tl⟩) (NX R F') (RX X) := by
  obtain ⟨r, hr, hr4⟩ := fmodNat (i.fdiv 7) 4 (by decide)
  obtain ⟨a, o, ha, ho, hsame, hat⟩ := asked_at hr4
  have hr : Int.fmod (i.fdiv 7) 4 = (r : Int) := hr
  have hsy := sixty_size o
  have hso : sixLen o.size ≤ 200 := by unfold sixLen fillN; omega
  have e4 : (#[51, 51, 52, 32] : Array UInt8).size = 4 := rfl
  have e2 : (#[13, 10] : Array UInt8).size = 2 := rfl
  have e1 : (#[10] : Array UInt8).size = 1 := rfl
  have z1 : ∀ (a b : Array UInt8), (a ++ b).size = a.size + b.size := fun a b => Array.size_append
  obtain ⟨cd, hcd⟩ : ∃ cd, (!decide (Int.fmod (i.fdiv 28) 3 = 2)) = cd := ⟨_, rfl⟩
  obtain ⟨nb, hnb⟩ : ∃ nb, decide (¬ Int.fmod (i.fdiv 5) 2 = 0) = nb := ⟨_, rfl⟩
  unfold locA at hR ⊢
  rcases htl with rfl | ⟨v1, v2, v3, v4, v5, v6, v7, v8, rfl⟩
  all_goals (
    repeat (first | ((conv => whnf); rw [hr]) | ((conv => whnf); erw [hr]) | ((conv => whnf); refine And.intro ⟨rfl, rfl, rfl, by first | exact Nat.le_of_ble_eq_true rfl | (simp; done)⟩ ?_) | ((conv => whnf); refine And.intro (by first | omega | (unfold small; omega) | (dsimp only; omega) | exact rfl | decide | exact Nat.le_of_ble_eq_true rfl | (refine ⟨?_, ?_⟩ <;> first | omega | (unfold small; omega) | (dsimp only; omega) | exact rfl | decide | (simp only [List.size_toArray, Array.size_append, List.length_take, Array.length_toList]; omega)) | (refine ⟨?_, ?_, ?_⟩ <;> first | omega | (unfold small; omega) | (dsimp only; omega) | exact rfl | decide | (simp only [List.size_toArray, Array.size_append, List.length_take, Array.length_toList]; omega))) ?_) | fail)
    conv => whnf
    refine hA _ _ _ _ fun l x hx => ?_
    have hl2 := app_old (l := [x]) hl
    have ml := meth_lappend hl2
    have hlz := hx.1
    cases cd
    · cases nb
      · repeat (first | ((conv => whnf); rw [hr]) | ((conv => whnf); rw [hat]) | ((conv => whnf); rw [hcd]) | ((conv => whnf); rw [hnb]) | ((conv => whnf); rw [hl2]) | ((conv => whnf); rw [ml]) | ((conv => whnf); erw [hr]) | ((conv => whnf); erw [hat]) | ((conv => whnf); erw [hcd]) | ((conv => whnf); erw [hnb]) | ((conv => whnf); erw [hl2]) | ((conv => whnf); erw [ml]) | ((conv => whnf); refine And.intro (by rw [e2]; omega) ?_) | ((conv => whnf); refine And.intro (by rw [e1]; omega) ?_) | ((conv => whnf); refine And.intro (by rw [e4]; omega) ?_) | ((conv => whnf); refine And.intro (by simp only [z1, e4, e2]; omega) ?_) | ((conv => whnf); refine And.intro ⟨rfl, rfl, rfl, by first | exact Nat.le_of_ble_eq_true rfl | (simp; done)⟩ ?_) | ((conv => whnf); refine And.intro (by first | omega | (unfold small; omega) | (dsimp only; omega) | exact rfl | decide | exact Nat.le_of_ble_eq_true rfl | (refine ⟨?_, ?_⟩ <;> first | omega | (unfold small; omega) | (dsimp only; omega) | exact rfl | decide | (simp only [List.size_toArray, Array.size_append, List.length_take, Array.length_toList]; omega)) | (refine ⟨?_, ?_, ?_⟩ <;> first | omega | (unfold small; omega) | (dsimp only; omega) | exact rfl | decide | (simp only [List.size_toArray, Array.size_append, List.length_take, Array.length_toList]; omega))) ?_) | fail)
        exact hR ⟨l, #[13, 10], a, o, false⟩ x _ ⟨hx, .inr rfl, ha, ho, hsame⟩ (by first | exact .inl rfl | exact .inr ⟨_, _, _, rfl⟩)
      · repeat (first | ((conv => whnf); rw [hr]) | ((conv => whnf); rw [hat]) | ((conv => whnf); rw [hcd]) | ((conv => whnf); rw [hnb]) | ((conv => whnf); rw [hl2]) | ((conv => whnf); rw [ml]) | ((conv => whnf); erw [hr]) | ((conv => whnf); erw [hat]) | ((conv => whnf); erw [hcd]) | ((conv => whnf); erw [hnb]) | ((conv => whnf); erw [hl2]) | ((conv => whnf); erw [ml]) | ((conv => whnf); refine And.intro (by rw [e2]; omega) ?_) | ((conv => whnf); refine And.intro (by rw [e1]; omega) ?_) | ((conv => whnf); refine And.intro (by rw [e4]; omega) ?_) | ((conv => whnf); refine And.intro (by simp only [z1, e4, e2]; omega) ?_) | ((conv => whnf); refine And.intro ⟨rfl, rfl, rfl, by first | exact Nat.le_of_ble_eq_true rfl | (simp; done)⟩ ?_) | ((conv => whnf); refine And.intro (by first | omega | (unfold small; omega) | (dsimp only; omega) | exact rfl | decide | exact Nat.le_of_ble_eq_true rfl | (refine ⟨?_, ?_⟩ <;> first | omega | (unfold small; omega) | (dsimp only; omega) | exact rfl | decide | (simp only [List.size_toArray, Array.size_append, List.length_take, Array.length_toList]; omega)) | (refine ⟨?_, ?_, ?_⟩ <;> first | omega | (unfold small; omega) | (dsimp only; omega) | exact rfl | decide | (simp only [List.size_toArray, Array.size_append, List.length_take, Array.length_toList]; omega))) ?_) | fail)
        exact hR ⟨l, #[10], a, o, false⟩ x _ ⟨hx, .inl rfl, ha, ho, hsame⟩ (by first | exact .inl rfl | exact .inr ⟨_, _, _, rfl⟩)
    · cases nb
      · repeat (first | ((conv => whnf); rw [hr]) | ((conv => whnf); rw [hat]) | ((conv => whnf); rw [hcd]) | ((conv => whnf); rw [hnb]) | ((conv => whnf); rw [hl2]) | ((conv => whnf); rw [ml]) | ((conv => whnf); erw [hr]) | ((conv => whnf); erw [hat]) | ((conv => whnf); erw [hcd]) | ((conv => whnf); erw [hnb]) | ((conv => whnf); erw [hl2]) | ((conv => whnf); erw [ml]) | ((conv => whnf); refine And.intro (by rw [e2]; omega) ?_) | ((conv => whnf); refine And.intro (by rw [e1]; omega) ?_) | ((conv => whnf); refine And.intro (by rw [e4]; omega) ?_) | ((conv => whnf); refine And.intro (by simp only [z1, e4, e2]; omega) ?_) | ((conv => whnf); refine And.intro ⟨rfl, rfl, rfl, by first | exact Nat.le_of_ble_eq_true rfl | (simp; done)⟩ ?_) | ((conv => whnf); refine And.intro (by first | omega | (unfold small; omega) | (dsimp only; omega) | exact rfl | decide | exact Nat.le_of_ble_eq_true rfl | (refine ⟨?_, ?_⟩ <;> first | omega | (unfold small; omega) | (dsimp only; omega) | exact rfl | decide | (simp only [List.size_toArray, Array.size_append, List.length_take, Array.length_toList]; omega)) | (refine ⟨?_, ?_, ?_⟩ <;> first | omega | (unfold small; omega) | (dsimp only; omega) | exact rfl | decide | (simp only [List.size_toArray, Array.size_append, List.length_take, Array.length_toList]; omega))) ?_) | fail)
        conv => whnf
        refine hS _ _ _ _ (by omega) ?_
        repeat (first | ((conv => whnf); rw [hr]) | ((conv => whnf); rw [hat]) | ((conv => whnf); rw [hcd]) | ((conv => whnf); rw [hnb]) | ((conv => whnf); rw [hl2]) | ((conv => whnf); rw [ml]) | ((conv => whnf); erw [hr]) | ((conv => whnf); erw [hat]) | ((conv => whnf); erw [hcd]) | ((conv => whnf); erw [hnb]) | ((conv => whnf); erw [hl2]) | ((conv => whnf); erw [ml]) | ((conv => whnf); refine And.intro (by rw [e2]; omega) ?_) | ((conv => whnf); refine And.intro (by rw [e1]; omega) ?_) | ((conv => whnf); refine And.intro (by rw [e4]; omega) ?_) | ((conv => whnf); refine And.intro (by simp only [z1, e4, e2]; omega) ?_) | ((conv => whnf); refine And.intro ⟨rfl, rfl, rfl, by first | exact Nat.le_of_ble_eq_true rfl | (simp; done)⟩ ?_) | ((conv => whnf); refine And.intro (by first | omega | (unfold small; omega) | (dsimp only; omega) | exact rfl | decide | exact Nat.le_of_ble_eq_true rfl | (refine ⟨?_, ?_⟩ <;> first | omega | (unfold small; omega) | (dsimp only; omega) | exact rfl | decide | (simp only [List.size_toArray, Array.size_append, List.length_take, Array.length_toList]; omega)) | (refine ⟨?_, ?_, ?_⟩ <;> first | omega | (unfold small; omega) | (dsimp only; omega) | exact rfl | decide | (simp only [List.size_toArray, Array.size_append, List.length_take, Array.length_toList]; omega))) ?_) | fail)
        exact hR ⟨l, #[13, 10], a, o, true⟩ x _ ⟨hx, .inr rfl, ha, ho, hsame⟩ (by first | exact .inl rfl | exact .inr ⟨_, _, _, rfl⟩)
      · repeat (first | ((conv => whnf); rw [hr]) | ((conv => whnf); rw [hat]) | ((conv => whnf); rw [hcd]) | ((conv => whnf); rw [hnb]) | ((conv => whnf); rw [hl2]) | ((conv => whnf); rw [ml]) | ((conv => whnf); erw [hr]) | ((conv => whnf); erw [hat]) | ((conv => whnf); erw [hcd]) | ((conv => whnf); erw [hnb]) | ((conv => whnf); erw [hl2]) | ((conv => whnf); erw [ml]) | ((conv => whnf); refine And.intro (by rw [e2]; omega) ?_) | ((conv => whnf); refine And.intro (by rw [e1]; omega) ?_) | ((conv => whnf); refine And.intro (by rw [e4]; omega) ?_) | ((conv => whnf); refine And.intro (by simp only [z1, e4, e2]; omega) ?_) | ((conv => whnf); refine And.intro ⟨rfl, rfl, rfl, by first | exact Nat.le_of_ble_eq_true rfl | (simp; done)⟩ ?_) | ((conv => whnf); refine And.intro (by first | omega | (unfold small; omega) | (dsimp only; omega) | exact rfl | decide | exact Nat.le_of_ble_eq_true rfl | (refine ⟨?_, ?_⟩ <;> first | omega | (unfold small; omega) | (dsimp only; omega) | exact rfl | decide | (simp only [List.size_toArray, Array.size_append, List.length_take, Array.length_toList]; omega)) | (refine ⟨?_, ?_, ?_⟩ <;> first | omega | (unfold small; omega) | (dsimp only; omega) | exact rfl | decide | (simp only [List.size_toArray, Array.size_append, List.length_take, Array.length_toList]; omega))) ?_) | fail)
        conv => whnf
        refine hS _ _ _ _ (by omega) ?_
        repeat (first | ((conv => whnf); rw [hr]) | ((conv => whnf); rw [hat]) | ((conv => whnf); rw [hcd]) | ((conv => whnf); rw [hnb]) | ((conv => whnf); rw [hl2]) | ((conv => whnf); rw [ml]) | ((conv => whnf); erw [hr]) | ((conv => whnf); erw [hat]) | ((conv => whnf); erw [hcd]) | ((conv => whnf); erw [hnb]) | ((conv => whnf); erw [hl2]) | ((conv => whnf); erw [ml]) | ((conv => whnf); refine And.intro (by rw [e2]; omega) ?_) | ((conv => whnf); refine And.intro (by rw [e1]; omega) ?_) | ((conv => whnf); refine And.intro (by rw [e4]; omega) ?_) | ((conv => whnf); refine And.intro (by simp only [z1, e4, e2]; omega) ?_) | ((conv => whnf); refine And.intro ⟨rfl, rfl, rfl, by first | exact Nat.le_of_ble_eq_true rfl | (simp; done)⟩ ?_) | ((conv => whnf); refine And.intro (by first | omega | (unfold small; omega) | (dsimp only; omega) | exact rfl | decide | exact Nat.le_of_ble_eq_true rfl | (refine ⟨?_, ?_⟩ <;> first | omega | (unfold small; omega) | (dsimp only; omega) | exact rfl | decide | (simp only [List.size_toArray, Array.size_append, List.length_take, Array.length_toList]; omega)) | (refine ⟨?_, ?_, ?_⟩ <;> first | omega | (unfold small; omega) | (dsimp only; omega) | exact rfl | decide | (simp only [List.size_toArray, Array.size_append, List.length_take, Array.length_toList]; omega))) ?_) | fail)
        exact hR ⟨l, #[10], a, o, true⟩ x _ ⟨hx, .inl rfl, ha, ho, hsame⟩ (by first | exact .inl rfl | exact .inr ⟨_, _, _, rfl⟩))
end
end Sm
end
section
set_option maxRecDepth 100000
set_option linter.unusedVariables false
set_option linter.unusedSimpArgs false
set_option maxHeartbeats 4000000
namespace Sm
open PySem
section
variable {O : Bool → Addr → Sp} {Q : AV → List AObj → Prop} {X : Nat → List AObj → Prop} {σ : List AObj} {F : FQ}
theorem wantStep_size (w : Array UInt8) (it : Item) (h : it.Ok) : (wantStep w it).size ≤ w.size + 250 := by
  have hsy := sixty_size it.octets
  have hso : sixLen it.octets.size ≤ 200 := by have := h.small; unfold sixLen fillN; omega
  have hc : (if it.coded then ascB (sL (sixty it.octets)) else it.octets).size ≤ 200 := by split; omega; have := h.small; omega
  unfold wantStep
  simp only
  split
  · simp only [Array.size_append]; simp; omega
  · split
    · simp only [Array.size_append]; simp; omega
    · simp only [Array.size_append]; simp; omega
theorem wantAll_size (its : List Item) (h : ∀ it ∈ its, it.Ok) : (wantAll its).size ≤ 250 * its.length := by
  have : ∀ (r : List Item), (∀ it ∈ r, it.Ok) → (wantAll r.reverse).size ≤ 250 * r.length := by
    intro r
    induction r with
    | nil => intro _; exact Nat.le_refl _
    | cons it r ih =>
      intro h
      rw [List.reverse_cons, wantAll_snoc]
      have := ih fun x hx => h x (.tail _ hx)
      have := wantStep_size (wantAll r.reverse) it (h it (.head _))
      simp only [List.length_cons]; omega
  have := this its.reverse fun it hi => h it (by simpa using hi)
  rw [List.reverse_reverse, List.length_reverse] at this
  exact this
theorem law_turn {i : Int} {v : AV} {tl : List (Nat × AV)} {its : List Item} (hA : SpAnswer O) (hS : SpSixty O) (hR : SpReadL O) (htl : tlA tl) (hl : σ[0]? = some (.list (its.map lineOf))) (hp : σ[1]? = some (.list (its.map planOf)))
    (hn : its.length ≤ 10) (hok : ∀ it ∈ its, it.Ok) (hF : ∀ it x v1 v2 v3 v4 v5 v6 v7 v8, it.Ok → F .next ⟨((σ ++ [x]).set 0 (.list ((its ++ [it]).map lineOf))).set 1 (.list ((its ++ [it]).map planOf)), locA (wantAll (its ++ [it])) v [(125779768604014, v1), (1701734764, v2), (431198270305, v3), (126943755527023, v4), (431197810531, v5), (495606460279, v6), (431349919603, v7), (1684828020, v8)]⟩) :
    exs G7 blts O (bodyOfFor (b_law.dropS 3)) none (setL 125779768604014 (.int i) ⟨σ, locA (wantAll its) v tl⟩) F (RX X) := by
  rw [exs_split 5]
  have hw := wantAll_size its hok
  refine law_turn1 (F' := F) (R := fun st => exs G7 blts O ((bodyOfFor (b_law.dropS 3)).dropS 5) none st F (RX X)) hA hS htl hl hp (by rw [List.length_map]; omega) (by omega) fun it x tl' hit htl' => ?_
  have hp' : ((σ ++ [x]).set 0 (.list (its.map lineOf ++ [lineOf it])))[1]? = some (.list (its.map planOf)) := at_set_ne (by decide) (app_old hp)
  have hso : sixLen it.octets.size ≤ 200 := by have := hit.small; unfold sixLen fillN; omega
  have hsy := sixty_size it.octets
  have hc : (if it.coded then ascB (sL (sixty it.octets)) else it.octets).size ≤ 200 := by split; omega; have := hit.small; omega
  refine law_turn2 hR htl' hit.line.1 hp' (by rw [List.length_map]; omega) (by simp only [Array.size_append]; simp; omega) fun v6 v7 v8 w' pv hw' hpv => ?_
  have e1 : w' = wantAll (its ++ [it]) := by rw [wantAll_snoc, hw']; rfl
  have e2 : pv = planOf it := by rw [hpv]; rfl
  subst e1 e2
  have := hF it x (.int i) (.bytes it.line) it.asked (.bytes it.octets) (.bool it.coded) v6 v7 v8 hit
  rw [List.map_append, List.map_append] at this
  exact this
theorem law_for {v : AV} {ns : List Int} (hA : SpAnswer O) (hS : SpSixty O) (hR : SpReadL O) (hv : v = .fls (ns.map .int)) (hns : ns.length ≤ 100)
    (hF : ∀ its σ v1 v2 v3 v4 v5 v6 v7 v8, its.length ≤ 10 → (∀ it ∈ its, Item.Ok it) → σ[0]? = some (.list (its.map lineOf)) → σ[1]? = some (.list (its.map planOf)) →
      exs G7 blts O (b_law.dropS 4) none ⟨σ, locA (wantAll its) v [(125779768604014, v1), (1701734764, v2), (431198270305, v3), (126943755527023, v4), (431197810531, v5), (495606460279, v6), (431349919603, v7), (1684828020, v8)]⟩ F (RX X)) :
    exs G7 blts O (b_law.dropS 3) none ⟨[.list [], .list []], locA #[] v []⟩ F (RX X) := by
  subst hv
  have hlen : (ns.map AV.int).length = ns.length := List.length_map _
  have src : ∀ ms : List Int, ms.length ≤ 10 → ms ≠ [] → (iterOk [.list [], .list [], .list (ms.map .int)] (.ref 2)) ∧ ∃ (N : Nat) (I : Nat → St → Prop), I 0 ⟨[.list [], .list [], .list (ms.map .int)], locA #[] (.fls (ns.map .int)) []⟩ ∧ ∀ k st, I k st → k ≤ N ∧ match turnOf st.σ (.ref 2) k with
      | .item v => exs G7 blts O (bodyOfFor (b_law.dropS 3)) none (setL 125779768604014 v st) (fun fl st => match fl with
        | .next | .cont => I (k + 1) st
        | .brk => exs G7 blts O (b_law.dropS 4) none st F (RX X)
        | .ret v => F (.ret v) st) (RX X)
      | .done => exs G7 blts O (b_law.dropS 4) none st F (RX X)
      | .bad => False := by
    intro ms hms hne
    refine ⟨⟨_, rfl⟩, 10, fun k st => k ≤ 10 ∧ ∃ (its : List Item) (tl : List (Nat × AV)), its.length = k ∧ (∀ it ∈ its, Item.Ok it) ∧ st.σ[0]? = some (.list (its.map lineOf)) ∧ st.σ[1]? = some (.list (its.map planOf)) ∧ st.σ[2]? = some (.list (ms.map .int)) ∧
      tlA tl ∧ (k = 0 ∨ tl ≠ []) ∧ st.loc = locA (wantAll its) (.fls (ns.map .int)) tl, ⟨by omega, [], [], rfl, (fun _ h => by cases h), rfl, rfl, rfl, .inl rfl, .inl rfl, rfl⟩, fun k st hI => ?_⟩
    obtain ⟨hk, its, tl, h1, h2, h3, h4, h5, h6, h7, h8⟩ := hI
    refine ⟨hk, ?_⟩
    obtain ⟨σ, loc⟩ := st
    dsimp only at h3 h4 h5 h8
    subst h8
    by_cases hlt : k < ms.length
    · have ht := turn_list (k := k) h5 (v := .int ms[k]) (by rw [List.getElem?_map, List.getElem?_eq_getElem hlt]; rfl)
      rw [ht]
      refine law_turn hA hS hR h6 h3 h4 (by omega) h2 fun it x v1 v2 v3 v4 v5 v6 v7 v8 hit => ?_
      have hsn : (its ++ [it]).length = k + 1 := by rw [List.length_append, h1]; rfl
      have a1 : (σ ++ [x])[0]? = some (.list (its.map lineOf)) := app_old h3
      have a2 : (σ ++ [x])[1]? = some (.list (its.map planOf)) := app_old h4
      have a3 : (σ ++ [x])[2]? = some (.list (ms.map .int)) := app_old h5
      refine ⟨by omega, its ++ [it], _, hsn, fun y hy => ?_, at_set_ne (by decide) (at_set a1), at_set (at_set_ne (by decide) a2), at_set_ne (by decide) (at_set_ne (by decide) a3), .inr ⟨_, _, _, _, _, _, _, _, rfl⟩, .inr (by simp), rfl⟩
      rcases List.mem_append.mp hy with hy | hy
      · exact h2 y hy
      · rw [List.mem_singleton.mp hy]; exact hit
    · have ht := turn_listE (k := k) h5 (by rw [List.getElem?_map, List.getElem?_eq_none (by omega)]; rfl)
      rw [ht]
      rcases h6 with rfl | ⟨v1, v2, v3, v4, v5, v6, v7, v8, rfl⟩
      · have hm : 0 < ms.length := List.length_pos_iff.mpr hne
        exact absurd rfl (h7.resolve_left (by omega))
      · exact hF its σ v1 v2 v3 v4 v5 v6 v7 v8 (by omega) h2 h3 h4
  unfold locA
  by_cases hne : ns = []
  · have d1 : decide ((ns.map AV.int).length ≠ 0) = false := by subst hne; rfl
    repeat (first | ((conv => whnf); rw [d1]) | ((conv => whnf); erw [d1]) | ((conv => whnf); refine And.intro ⟨rfl, rfl, rfl, by first | exact Nat.le_of_ble_eq_true rfl | (simp; done)⟩ ?_) | ((conv => whnf); refine And.intro (by first | omega | (unfold small; omega) | (dsimp only; omega) | exact rfl | decide | exact Nat.le_of_ble_eq_true rfl | (refine ⟨?_, ?_⟩ <;> first | omega | (unfold small; omega) | (dsimp only; omega) | exact rfl | decide | (simp only [List.size_toArray, Array.size_append, List.length_take, Array.length_toList]; omega)) | (refine ⟨?_, ?_, ?_⟩ <;> first | omega | (unfold small; omega) | (dsimp only; omega) | exact rfl | decide | (simp only [List.size_toArray, Array.size_append, List.length_take, Array.length_toList]; omega))) ?_) | fail)
    conv => whnf
    exact src [0] (by decide) (by decide)
  · have d1 : decide ((ns.map AV.int).length ≠ 0) = true := by rw [hlen]; exact decide_eq_true fun e => hne (List.length_eq_zero_iff.mp e)
    have e : cut (ns.map AV.int) none (some 10) = (ns.take 10).map .int := by rw [show (10 : Int) = ((10 : Nat) : Int) from rfl, cut_take, List.map_take]
    repeat (first | ((conv => whnf); rw [d1]) | ((conv => whnf); erw [d1]) | ((conv => whnf); refine And.intro ⟨rfl, rfl, rfl, by first | exact Nat.le_of_ble_eq_true rfl | (simp; done)⟩ ?_) | ((conv => whnf); refine And.intro (by first | omega | (unfold small; omega) | (dsimp only; omega) | exact rfl | decide | exact Nat.le_of_ble_eq_true rfl | (refine ⟨?_, ?_⟩ <;> first | omega | (unfold small; omega) | (dsimp only; omega) | exact rfl | decide | (simp only [List.size_toArray, Array.size_append, List.length_take, Array.length_toList]; omega)) | (refine ⟨?_, ?_, ?_⟩ <;> first | omega | (unfold small; omega) | (dsimp only; omega) | exact rfl | decide | (simp only [List.size_toArray, Array.size_append, List.length_take, Array.length_toList]; omega))) ?_) | fail)
    conv => whnf
    rw [e]
    exact src (ns.take 10) (by rw [List.length_take]; omega) (by simpa using hne)
end
end Sm
end
section
set_option maxRecDepth 100000
set_option linter.unusedVariables false
set_option linter.unusedSimpArgs false
set_option maxHeartbeats 4000000
namespace Sm
open PySem
theorem octetsOf_map (l : List Item) : octetsOf (l.map lineOf) = some (l.map fun it => it.line ++ it.nl) := by
  induction l with
  | nil => rfl
  | cons it r ih =>
    show (octetsOf (r.map lineOf)).map _ = _
    rw [ih]; rfl
theorem join_flat : ∀ (l : List (Array UInt8)) (k : Nat) (out : Array UInt8), ((l.zipIdx k).foldl (fun out (p, i) => (if i > 0 then out ++ (#[] : Array UInt8) else out) ++ p) out).toList = out.toList ++ l.flatMap (·.toList)
  | [], k, out => by simp
  | p :: r, k, out => by
    rw [List.zipIdx_cons, List.foldl_cons]
    dsimp only
    rw [join_flat r (k + 1), List.flatMap_cons, Array.toList_append, ← List.append_assoc]
    congr 2
    split <;> simp
theorem joined_flat (l : List (Array UInt8)) : (Builtin.Bytes.joined #[] l).toList = l.flatMap (·.toList) := by
  have := join_flat l 0 #[]
  unfold Builtin.Bytes.joined
  simpa using this
def restOf (its : List Item) : List UInt8 := its.flatMap (fun it => it.line.toList ++ it.nl.toList) ++ tLine.toList
def streamOf (its : List Item) : Array UInt8 := Builtin.Bytes.joined #[] (its.map fun it => it.line ++ it.nl) ++ tLine
theorem stream_eq (its : List Item) : (streamOf its).toList = restOf its := by
  unfold streamOf restOf
  rw [Array.toList_append, joined_flat]
  congr 1
  induction its with
  | nil => rfl
  | cons it r ih =>
    rw [List.map_cons, List.flatMap_cons, List.flatMap_cons, ih, Array.toList_append]
def pieceAt (l : List UInt8) (s j : Nat) : Array UInt8 := ((l.drop (s * j)).take s).toArray
def piecesOf (l : List UInt8) (s k : Nat) : List (Array UInt8) := (List.range k).map (pieceAt l s)
theorem pieces_take (l : List UInt8) (s : Nat) : ∀ k, (piecesOf l s k).flatMap (·.toList) = l.take (s * k)
  | 0 => by simp [piecesOf]
  | k + 1 => by
    unfold piecesOf
    rw [List.range_succ, List.map_append, List.flatMap_append]
    have := pieces_take l s k
    unfold piecesOf at this
    rw [this]
    simp only [List.map_cons, List.map_nil, List.flatMap_cons, List.flatMap_nil, List.append_nil]
    show l.take (s * k) ++ (l.drop (s * k)).take s = _
    rw [Nat.mul_succ, List.take_add]
theorem pieces_all (l : List UInt8) (s k : Nat) (h : l.length ≤ s * k) : (piecesOf l s k).flatMap (·.toList) = l := by
  rw [pieces_take, List.take_of_length_le h]
theorem item_size {it : Item} (h : it.Ok) : (it.line ++ it.nl).size ≤ 42 := by
  rw [Array.size_append]
  have := h.line.1
  rcases h.nl with e | e <;> rw [e] <;> simp <;> omega
theorem sizes_sum (its : List Item) (h : ∀ it ∈ its, it.Ok) : ((its.map fun it => it.line ++ it.nl).map (·.size)).sum ≤ 42 * its.length := by
  induction its with
  | nil => exact Nat.le_refl _
  | cons it r ih =>
    have := ih fun x hx => h x (.tail _ hx)
    have := item_size (h it (.head _))
    simp only [List.map_cons, List.sum_cons, List.length_cons]
    omega
theorem stream_size (its : List Item) (h : ∀ it ∈ its, it.Ok) : (streamOf its).size ≤ 42 * its.length + 6 := by
  have := sizes_sum its h
  have := joined_size #[] (its.map fun it => it.line ++ it.nl)
  have e : (#[] : Array UInt8).size = 0 := rfl
  rw [e, Nat.zero_mul, Nat.add_zero] at this
  unfold streamOf
  rw [Array.size_append]
  show _ + 6 ≤ _
  omega
structure Tl8 (tl : List (Nat × AV)) : Prop where
  shape : ∃ v1 v2 v3 v4 v5 v6 v7 v8, tl = [(125779768604014, v1), (1701734764, v2), (431198270305, v3), (126943755527023, v4), (431197810531, v5), (495606460279, v6), (431349919603, v7), (1684828020, v8)]
section
variable {O : Bool → Addr → Sp} {Q : AV → List AObj → Prop} {X : Nat → List AObj → Prop} {σ : List AObj} {F : FQ} {ns : List Int} {its : List Item} {w : Array UInt8} {tl : List (Nat × AV)} {R : St → Prop}
theorem law_m4 (htl : Tl8 tl) (hl : σ[0]? = some (.list (its.map lineOf))) (hn : its.length ≤ 10) (hok : ∀ it ∈ its, it.Ok) (hns : ns.length ≤ 100)
    (hR : ∀ (s : Nat) x, 2 ≤ s → s ≤ 20 → R ⟨σ ++ [x], locA w (.fls (ns.map .int)) (tl ++ [(120265081255027, .bytes (streamOf its)), (1885697139, .int s)])⟩) :
    exs G7 blts O ((b_law.dropS 4).takeS 2) none ⟨σ, locA w (.fls (ns.map .int)) tl⟩ (NX R F) (RX X) := by
  obtain ⟨v1, v2, v3, v4, v5, v6, v7, v8, rfl⟩ := htl.shape
  have ho := octetsOf_map its
  have hz := sizes_sum its hok
  have e0 : (#[] : Array UInt8).size = 0 := rfl
  have e6 : (#[81, 85, 73, 84, 13, 10] : Array UInt8).size = 6 := rfl
  have hj := joined_size #[] (its.map fun it => it.line ++ it.nl)
  rw [e0, Nat.zero_mul, Nat.add_zero] at hj
  have e : cut (ns.map AV.int) none (some 20) = (ns.take 20).map .int := by rw [show (20 : Int) = ((20 : Nat) : Int) from rfl, cut_take, List.map_take]
  have hi := intsOf_map (ns.take 20)
  have hg : ∀ x, (σ ++ [x])[σ.length]? = some x := fun x => app_get0
  obtain ⟨r, hr, hr19⟩ := fmodNat ((ns.take 20).sum) 19 (by decide)
  have hr : Int.fmod ((ns.take 20).sum) 19 = (r : Int) := hr
  have hle : ((ns.take 20).map AV.int).length ≤ 1000 := by rw [List.length_map, List.length_take]; omega
  have hfl : (ns.map AV.int).length ≤ 16777216 := by rw [List.length_map]; omega
  have hrs : (2 : Int) + (r : Int) = ((2 + r : Nat) : Int) := by omega
  unfold locA at hR ⊢
  repeat (first | ((conv => whnf); rw [hl]) | ((conv => whnf); rw [ho]) | ((conv => whnf); rw [e]) | ((conv => whnf); rw [hi]) | ((conv => whnf); rw [hg]) | ((conv => whnf); rw [hr]) | ((conv => whnf); rw [hrs]) | ((conv => whnf); erw [hl]) | ((conv => whnf); erw [ho]) | ((conv => whnf); erw [e]) | ((conv => whnf); erw [hi]) | ((conv => whnf); erw [hg]) | ((conv => whnf); erw [hr]) | ((conv => whnf); erw [hrs]) | ((conv => whnf); refine And.intro (by rw [e0, Nat.zero_mul, Nat.add_zero]; omega) ?_) | ((conv => whnf); refine And.intro (by rw [e6]; omega) ?_) | ((conv => whnf); refine And.intro ⟨rfl, hle⟩ ?_) | ((conv => whnf); refine And.intro hfl ?_) | ((conv => whnf); refine And.intro ⟨rfl, rfl, rfl, by first | exact Nat.le_of_ble_eq_true rfl | (simp; done)⟩ ?_) | ((conv => whnf); refine And.intro (by first | omega | (unfold small; omega) | (dsimp only; omega) | exact rfl | decide | exact Nat.le_of_ble_eq_true rfl | (refine ⟨?_, ?_⟩ <;> first | omega | (unfold small; omega) | (dsimp only; omega) | exact rfl | decide | (simp only [List.size_toArray, Array.size_append, List.length_take, Array.length_toList]; omega)) | (refine ⟨?_, ?_, ?_⟩ <;> first | omega | (unfold small; omega) | (dsimp only; omega) | exact rfl | decide | (simp only [List.size_toArray, Array.size_append, List.length_take, Array.length_toList]; omega))) ?_) | fail)
  exact hR (2 + r) _ (by omega) (by omega)
end
end Sm
end
section
set_option maxRecDepth 100000
set_option linter.unusedVariables false
set_option linter.unusedSimpArgs false
set_option maxHeartbeats 4000000
namespace Sm
open PySem
def SpConnInit (O : Bool → Addr → Sp) : Prop := ∀ (i p : Nat) (peer : AV) (σ : List AObj) (Q : AV → List AObj → Prop) (X : Nat → List AObj → Prop), σ[i]? = some (.inst 168 []) → Q .none (σ.set i (Conn.mk p peer 0 #[] #[] false).obj) → O false 94 [.ref i, .ref p, .int 1001, peer] [] σ Q X
def peerV : AV := .tup [.str ⟨#[112, 101, 101, 114]⟩, .int 25]
section
variable {O : Bool → Addr → Sp} {Q : AV → List AObj → Prop} {X : Nat → List AObj → Prop} {σ : List AObj} {F : FQ} {ns : List Int} {its : List Item} {w S : Array UInt8} {tl : List (Nat × AV)} {R : St → Prop} {v : AV}
theorem slice_at (l : List UInt8) (s j : Nat) : (cut l (some ((s * j : Nat) : Int)) (some (((s * j : Nat) : Int) + (s : Int)))).toArray = pieceAt l s j := by
  rw [show ((s * j : Nat) : Int) + (s : Int) = ((s * j + s : Nat) : Int) by omega, cut_mid]
  unfold pieceAt
  rw [show s * j + s - s * j = s by omega]
theorem pieces_succ (l : List UInt8) (s k : Nat) : (piecesOf l s (k + 1)).map AV.bytes = (piecesOf l s k).map .bytes ++ [.bytes (pieceAt l s k)] := by
  unfold piecesOf
  rw [List.range_succ, List.map_append, List.map_append]; rfl
theorem law_m6 {s : Nat} (hI : SpConnInit O) (htl : Tl8 tl) (hS : S.size ≤ 1000) (h2 : 2 ≤ s) (h20 : s ≤ 20)
    (hR : ∀ ps : List (Array UInt8), ps.length ≤ 1000 → ps.flatMap (·.toList) = S.toList → R ⟨σ ++ [.list (ps.map .bytes), (Conn.mk σ.length peerV 0 #[] #[] false).obj], locA w v (tl ++ [(120265081255027, .bytes S), (1885697139, .int s), (521515500515601310183267, .ref (σ.length + 1))])⟩) :
    exs G7 blts O ((b_law.dropS 6).takeS 1) none ⟨σ, locA w v (tl ++ [(120265081255027, .bytes S), (1885697139, .int s)])⟩ (NX R F) (RX X) := by
  obtain ⟨v1, v2, v3, v4, v5, v6, v7, v8, rfl⟩ := htl.shape
  unfold locA at hR ⊢
  repeat (first | ((conv => whnf); change (_ ≠ _ ∧ _) ∧ _; refine And.intro ⟨by omega, by unfold small; omega⟩ ?_) | ((conv => whnf); change (_ ∧ _ ∧ iterOk _ _) ∧ _; refine ⟨⟨rfl, rfl, small_step _ _ (by omega) (by omega) (by omega)⟩, ?_⟩) | ((conv => whnf); refine And.intro ⟨rfl, rfl, rfl, by first | exact Nat.le_of_ble_eq_true rfl | (simp; done)⟩ ?_) | ((conv => whnf); refine And.intro (by first | omega | (unfold small; omega) | (dsimp only; omega) | exact rfl | decide | exact Nat.le_of_ble_eq_true rfl | (refine ⟨?_, ?_⟩ <;> first | omega | (unfold small; omega) | (dsimp only; omega) | exact rfl | decide | (simp only [List.size_toArray, Array.size_append, List.length_take, Array.length_toList]; omega)) | (refine ⟨?_, ?_, ?_⟩ <;> first | omega | (unfold small; omega) | (dsimp only; omega) | exact rfl | decide | (simp only [List.size_toArray, Array.size_append, List.length_take, Array.length_toList]; omega))) ?_) | fail)
  conv => whnf
  refine ⟨1000, fun k acc σ' => σ' = σ ∧ k ≤ (S.size + (s - 1)) / s ∧ acc = (piecesOf S.toList s k).map .bytes, by decide, ⟨rfl, Nat.zero_le _, rfl⟩, ?_⟩
  rintro k acc σ' ⟨rfl, hk, rfl⟩
  have hk1000 : (S.size + (s - 1)) / s ≤ 1000 := by
    rw [Nat.div_le_iff_le_mul_add_pred (by omega)]
    have := Nat.mul_le_mul_right 1000 h2
    omega
  refine ⟨by omega, by rw [List.length_map]; unfold piecesOf; rw [List.length_map, List.length_range], ?_⟩
  by_cases hkn : k < (S.size + (s - 1)) / s
  · have ht := turn_step (by omega : 0 < s) hkn
    have hsl := slice_at S.toList s k
    repeat (first | ((conv => whnf); rw [ht]) | ((conv => whnf); rw [hsl]) | ((conv => whnf); erw [ht]) | ((conv => whnf); erw [hsl]) | ((conv => whnf); refine And.intro ⟨rfl, rfl, rfl, by first | exact Nat.le_of_ble_eq_true rfl | (simp; done)⟩ ?_) | ((conv => whnf); refine And.intro (by first | omega | (unfold small; omega) | (dsimp only; omega) | exact rfl | decide | exact Nat.le_of_ble_eq_true rfl | (refine ⟨?_, ?_⟩ <;> first | omega | (unfold small; omega) | (dsimp only; omega) | exact rfl | decide | (simp only [List.size_toArray, Array.size_append, List.length_take, Array.length_toList]; omega)) | (refine ⟨?_, ?_, ?_⟩ <;> first | omega | (unfold small; omega) | (dsimp only; omega) | exact rfl | decide | (simp only [List.size_toArray, Array.size_append, List.length_take, Array.length_toList]; omega))) ?_) | fail)
    exact (pieces_succ _ _ _).symm
  · have ht := turn_stepE (by omega : 0 < s) hkn
    have hkk : k = (S.size + (s - 1)) / s := by omega
    have hlen : (piecesOf S.toList s k).length = k := by unfold piecesOf; rw [List.length_map, List.length_range]
    have hall : (piecesOf S.toList s k).flatMap (·.toList) = S.toList := pieces_all _ _ _ (by
      have hd := Nat.div_add_mod (S.size + (s - 1)) s
      have hm := Nat.mod_lt (S.size + (s - 1)) (show 0 < s by omega)
      rw [← hkk] at hd
      show S.size ≤ _
      omega)
    have hR := hR (piecesOf S.toList s k) (by omega) hall
    generalize (piecesOf S.toList s k).map AV.bytes = P at *
    repeat (first | ((conv => whnf); rw [ht]) | ((conv => whnf); erw [ht]) | ((conv => whnf); refine And.intro ⟨rfl, rfl, rfl, by first | exact Nat.le_of_ble_eq_true rfl | (simp; done)⟩ ?_) | ((conv => whnf); refine And.intro (by first | omega | (unfold small; omega) | (dsimp only; omega) | exact rfl | decide | exact Nat.le_of_ble_eq_true rfl | (refine ⟨?_, ?_⟩ <;> first | omega | (unfold small; omega) | (dsimp only; omega) | exact rfl | decide | (simp only [List.size_toArray, Array.size_append, List.length_take, Array.length_toList]; omega)) | (refine ⟨?_, ?_, ?_⟩ <;> first | omega | (unfold small; omega) | (dsimp only; omega) | exact rfl | decide | (simp only [List.size_toArray, Array.size_append, List.length_take, Array.length_toList]; omega))) ?_) | fail)
    conv => whnf
    refine hI _ _ _ _ _ _ app_get0 ⟨rfl, ?_⟩
    rw [app_set0]
    have hl : (σ' ++ [AObj.list P]).length = σ'.length + 1 := List.length_append
    rw [← hl] at hR
    have ha : ∀ y : AObj, σ' ++ [AObj.list P] ++ [y] = σ' ++ [AObj.list P, y] := fun y => by rw [List.append_assoc]; rfl
    rw [← ha] at hR
    exact hR
end
end Sm
end
section
set_option maxRecDepth 100000
set_option linter.unusedVariables false
set_option linter.unusedSimpArgs false
set_option maxHeartbeats 4000000
namespace Sm
open PySem
def SpHandInit (O : Bool → Addr → Sp) : Prop := ∀ (i : Nat) (v w : AV) (σ : List AObj) (Q : AV → List AObj → Prop) (X : Nat → List AObj → Prop), σ[i]? = some (.inst 203 []) → (∀ k o, Q .none (σ.set i (handObj v w k) ++ [o])) → O false 186 [.ref i, v, w] [] σ Q X
def SpSmtpInit (O : Bool → Addr → Sp) : Prop := ∀ (j h hk : Nat) (lg kp : AV) (σ : List AObj) (Q : AV → List AObj → Prop) (X : Nat → List AObj → Prop), σ[j]? = some (.inst 672 []) → σ[h]? = some (handObj (.ref hk) lg kp) → σ[hk]? = some (.dict []) →
  (∀ (s : Srv) l, s.handler = h → s.hooks = hk → s.tail = [] → s.session = .none → s.transport = .none → (σ.set j s.obj ++ l)[s.limits]? = some (.dict []) → (σ.set j s.obj ++ l)[s.methods]? = some (.dict cmds) → Q .none (σ.set j s.obj ++ l)) →
  O false 414 [.ref j, .ref h] [(7308604897320202088, .str tHost), (500068344937, .str tIdent)] σ Q X
def SpMade (O : Bool → Addr → Sp) : Prop := ∀ (j i : Nat) (s : Srv) (c : Conn) (σ : List AObj) (Q : AV → List AObj → Prop) (X : Nat → List AObj → Prop), σ[j]? = some s.obj → s.tail = [] → s.session = .none → s.transport = .none → σ[i]? = some c.obj →
  (∀ e n l, (σ.set j (s.on i e n).obj ++ l)[n]? = some (sesObj c.peer) → Q .none (σ.set j (s.on i e n).obj ++ l)) → O false 464 [.ref j, .ref i] [] σ Q X
def Ext (σ σ' : List AObj) : Prop := ∀ (k : Nat) (o : AObj), σ[k]? = some o → σ'[k]? = some o
section
variable {O : Bool → Addr → Sp} {Q : AV → List AObj → Prop} {X : Nat → List AObj → Prop} {σ : List AObj} {F : FQ} {ns : List Int} {its : List Item} {w S : Array UInt8} {tl : List (Nat × AV)} {R : St → Prop} {v a1 a2 : AV} {i : Nat} {c : Conn}
theorem hand_new {v w : AV} (hH : SpHandInit O) (hq : ∀ σ' k, Ext σ σ' → σ'[σ.length]? = some (handObj v w k) → Q .none σ') : O false 186 [.ref σ.length, v, w] [] (σ ++ [.inst 203 []]) Q X := by
  refine hH _ _ _ _ _ _ app_get0 fun k o => ?_
  rw [app_set0]
  exact hq _ k (fun a b h => app_old (app_old h)) (app_old app_get0)
theorem smtp_new {h hk : Nat} {lg kp : AV} (hI : SpSmtpInit O) (h1 : σ[h]? = some (handObj (.ref hk) lg kp)) (h2 : σ[hk]? = some (.dict []))
    (hq : ∀ σ' (s : Srv), Ext σ σ' → σ'[σ.length]? = some s.obj → s.handler = h → s.hooks = hk → s.tail = [] → s.session = .none → s.transport = .none → σ'[s.limits]? = some (.dict []) → σ'[s.methods]? = some (.dict cmds) → Q .none σ') :
    O false 414 [.ref σ.length, .ref h] [(7308604897320202088, .str tHost), (500068344937, .str tIdent)] (σ ++ [.inst 672 []]) Q X := by
  refine hI _ _ _ _ _ _ _ _ app_get0 (app_old h1) (app_old h2) fun s l x1 x2 x3 x4 x5 x6 x7 => ?_
  rw [app_set0, List.append_assoc] at *
  exact hq _ s (fun a b h => app_old h) app_get0 x1 x2 x3 x4 x5 x6 x7
theorem made_new {j : Nat} {s : Srv} (hM : SpMade O) (h1 : σ[j]? = some s.obj) (h2 : s.tail = []) (h3 : s.session = .none) (h4 : s.transport = .none) (h5 : σ[i]? = some c.obj)
    (hq : ∀ σ' e n, (∀ (k : Nat) (o : AObj), k ≠ j → σ[k]? = some o → σ'[k]? = some o) → σ'[j]? = some (s.on i e n).obj → σ'[n]? = some (sesObj c.peer) → Q .none σ') : O false 464 [.ref j, .ref i] [] σ Q X := by
  refine hM _ _ _ _ _ _ _ h1 h2 h3 h4 h5 fun e n l hn => ?_
  exact hq _ e n (fun k o hk h => app_old (at_set_ne hk h)) (app_old (at_set h1)) hn
theorem law_m7 (hH : SpHandInit O) (hI : SpSmtpInit O) (hM : SpMade O) (htl : Tl8 tl) (hc : σ[i]? = some c.obj)
    (hR : ∀ σ' j s e n, Ext σ σ' → σ'[j]? = some (Srv.on s i e n).obj → σ'[s.hooks]? = some (.dict []) → σ'[s.methods]? = some (.dict cmds) → σ'[n]? = some (sesObj c.peer) →
      R ⟨σ', locA w v (tl ++ [(120265081255027, a1), (1885697139, a2), (521515500515601310183267, .ref i), (125780104471923, .ref j), (499967814002, .bool true)])⟩) :
    exs G7 blts O ((b_law.dropS 7).takeS 3) none ⟨σ, locA w v (tl ++ [(120265081255027, a1), (1885697139, a2), (521515500515601310183267, .ref i)])⟩ (NX R F) (RX X) := by
  obtain ⟨v1, v2, v3, v4, v5, v6, v7, v8, rfl⟩ := htl.shape
  unfold locA at hR ⊢
  repeat (first | ((conv => whnf); refine And.intro ⟨rfl, rfl, rfl, by first | exact Nat.le_of_ble_eq_true rfl | (simp; done)⟩ ?_) | ((conv => whnf); refine And.intro (by first | omega | (unfold small; omega) | (dsimp only; omega) | exact rfl | decide | exact Nat.le_of_ble_eq_true rfl | (refine ⟨?_, ?_⟩ <;> first | omega | (unfold small; omega) | (dsimp only; omega) | exact rfl | decide | (simp only [List.size_toArray, Array.size_append, List.length_take, Array.length_toList]; omega)) | (refine ⟨?_, ?_, ?_⟩ <;> first | omega | (unfold small; omega) | (dsimp only; omega) | exact rfl | decide | (simp only [List.size_toArray, Array.size_append, List.length_take, Array.length_toList]; omega))) ?_) | fail)
  conv => whnf
  refine hand_new hH fun σ₁ k x1 x2 => ⟨rfl, ?_⟩
  have k1 := x1 _ _ (app_old (l := [.list []]) (app_get0 (σ := σ) (o := .dict []) (l := [])))
  have hc1 := x1 _ _ (app_old (l := [.list []]) (app_old (l := [.dict []]) hc))
  have e1 : Ext σ σ₁ := fun a b h => x1 _ _ (app_old (app_old h))
  clear x1
  repeat (first | ((conv => whnf); refine And.intro ⟨rfl, rfl, rfl, by first | exact Nat.le_of_ble_eq_true rfl | (simp; done)⟩ ?_) | ((conv => whnf); refine And.intro (by first | omega | (unfold small; omega) | (dsimp only; omega) | exact rfl | decide | exact Nat.le_of_ble_eq_true rfl | (refine ⟨?_, ?_⟩ <;> first | omega | (unfold small; omega) | (dsimp only; omega) | exact rfl | decide | (simp only [List.size_toArray, Array.size_append, List.length_take, Array.length_toList]; omega)) | (refine ⟨?_, ?_, ?_⟩ <;> first | omega | (unfold small; omega) | (dsimp only; omega) | exact rfl | decide | (simp only [List.size_toArray, Array.size_append, List.length_take, Array.length_toList]; omega))) ?_) | fail)
  conv => whnf
  refine smtp_new hI x2 k1 fun σ₂ s y1 y2 y3 y4 y5 y6 y7 y8 y9 => ⟨rfl, ?_⟩
  have hm := zmeth_connection_made y2 y5
  have e2 : Ext σ σ₂ := fun a b h => y1 _ _ (e1 _ _ h)
  have hc2 := y1 _ _ hc1
  repeat (first | ((conv => whnf); rw [hm]) | ((conv => whnf); erw [hm]) | ((conv => whnf); refine And.intro ⟨rfl, rfl, rfl, by first | exact Nat.le_of_ble_eq_true rfl | (simp; done)⟩ ?_) | ((conv => whnf); refine And.intro (by first | omega | (unfold small; omega) | (dsimp only; omega) | exact rfl | decide | exact Nat.le_of_ble_eq_true rfl | (refine ⟨?_, ?_⟩ <;> first | omega | (unfold small; omega) | (dsimp only; omega) | exact rfl | decide | (simp only [List.size_toArray, Array.size_append, List.length_take, Array.length_toList]; omega)) | (refine ⟨?_, ?_, ?_⟩ <;> first | omega | (unfold small; omega) | (dsimp only; omega) | exact rfl | decide | (simp only [List.size_toArray, Array.size_append, List.length_take, Array.length_toList]; omega))) ?_) | fail)
  conv => whnf
  refine made_new hM y2 y5 y6 y7 hc2 fun σ₃ e n z1 z2 z3 => ?_
  repeat (first | ((conv => whnf); refine And.intro ⟨rfl, rfl, rfl, by first | exact Nat.le_of_ble_eq_true rfl | (simp; done)⟩ ?_) | ((conv => whnf); refine And.intro (by first | omega | (unfold small; omega) | (dsimp only; omega) | exact rfl | decide | exact Nat.le_of_ble_eq_true rfl | (refine ⟨?_, ?_⟩ <;> first | omega | (unfold small; omega) | (dsimp only; omega) | exact rfl | decide | (simp only [List.size_toArray, Array.size_append, List.length_take, Array.length_toList]; omega)) | (refine ⟨?_, ?_, ?_⟩ <;> first | omega | (unfold small; omega) | (dsimp only; omega) | exact rfl | decide | (simp only [List.size_toArray, Array.size_append, List.length_take, Array.length_toList]; omega))) ?_) | fail)
  refine hR σ₃ σ₁.length s e n (fun a b h => z1 _ _ (Nat.ne_of_lt (lt_of_at (e1 _ _ h))) (e2 _ _ h)) z2 ?_ (z1 _ _ (inst_ne y9 y2 (fun e => by cases e)) y9) z3
  have y4' : s.hooks = σ.length := y4
  rw [y4']
  exact z1 _ _ (Nat.ne_of_lt (lt_of_at k1)) (y1 _ _ k1)
end
end Sm
end
section
set_option maxRecDepth 100000
set_option linter.unusedVariables false
set_option linter.unusedSimpArgs false
set_option maxHeartbeats 4000000
namespace Sm
open PySem
theorem space_ok {x : UInt8} (h : okSign x) : Builtin.Bytes.isSpace x = (#[32, 9] : Array UInt8).contains x := by
  have : ∀ n : Fin 256, (n.val = 9 ∨ 32 ≤ n.val) → Builtin.Bytes.isSpace n.val.toUInt8 = (#[32, 9] : Array UInt8).contains n.val.toUInt8 := by decide +kernel
  have := this ⟨x.toNat, x.toNat_lt⟩ (h.imp (fun e => by subst e; rfl) id)
  simpa using this
theorem dropW_same {α : Type} {p q : α → Bool} : ∀ {l : List α}, (∀ x ∈ l, p x = q x) → l.dropWhile p = l.dropWhile q
  | [], _ => rfl
  | x :: r, h => by
    rw [List.dropWhile_cons, List.dropWhile_cons, h x (.head _), dropW_same fun y hy => h y (.tail _ hy)]
theorem dropWhile_app {α : Type} {p : α → Bool} : ∀ {l r : List α}, (∀ x ∈ r, p x = true) → (l ++ r).dropWhile p = if l.dropWhile p = [] then [] else l.dropWhile p ++ r
  | [], r, h => by
    simp only [List.nil_append, List.dropWhile_nil, if_true]
    induction r with
    | nil => rfl
    | cons y r ih => rw [List.dropWhile_cons, h y (.head _), if_pos rfl]; exact ih fun z hz => h z (.tail _ hz)
  | x :: l, r, h => by
    rw [List.cons_append, List.dropWhile_cons, List.dropWhile_cons]
    split
    · exact dropWhile_app h
    · simp
theorem dropWhile_front {α : Type} {p : α → Bool} : ∀ {l r : List α}, (∀ x ∈ l, p x = true) → (l ++ r).dropWhile p = r.dropWhile p
  | [], r, h => rfl
  | x :: l, r, h => by
    rw [List.cons_append, List.dropWhile_cons, h x (.head _), if_pos rfl]
    exact dropWhile_front fun y hy => h y (.tail _ hy)
theorem blob_words {l nl : Array UInt8} (h : okLine l) (hn : nl = #[10] ∨ nl = #[13, 10]) : blobOf (l ++ nl) = wordsOf l := by
  have hp : ∀ x ∈ nl.toList, Builtin.Bytes.isSpace x = true := by rcases hn with e | e <;> subst e <;> decide
  have hs : ∀ x ∈ l.toList, Builtin.Bytes.isSpace x = (#[32, 9] : Array UInt8).contains x := fun x hx => space_ok (h.2 x hx)
  unfold blobOf wordsOf stripB
  simp only [if_true]
  rw [Array.toList_append, dropWhile_app hp, dropW_same (l := l.toList) hs]
  have hsub : ∀ x ∈ (l.toList.dropWhile (#[32, 9] : Array UInt8).contains).reverse, Builtin.Bytes.isSpace x = (#[32, 9] : Array UInt8).contains x := fun x hx => hs x ((List.dropWhile_suffix _).subset (List.mem_reverse.mp hx))
  split
  · rename_i e; rw [e]; rfl
  · rw [List.reverse_append, dropWhile_front (fun x hx => hp x (List.mem_reverse.mp hx)), dropW_same hsub]
theorem line_at {l nl : Array UInt8} {r : List UInt8} {m : Nat} (h : okLine l) (hn : nl = #[10] ∨ nl = #[13, 10]) (hm : m + 1 = l.size + nl.size) : ((l.toList ++ nl.toList) ++ r)[m]? = some 10 ∧ (∀ j, j < m → ((l.toList ++ nl.toList) ++ r)[j]? ≠ some 10) ∧
    ((l.toList ++ nl.toList) ++ r).take (m + 1) = l.toList ++ nl.toList ∧ ((l.toList ++ nl.toList) ++ r).drop (m + 1) = r := by
  have hlen : (l.toList ++ nl.toList).length = m + 1 := by rw [List.length_append, Array.length_toList, Array.length_toList, hm]
  have hno : ∀ x ∈ l.toList, x ≠ 10 := fun x hx e => by
    have := h.2 x hx
    subst e
    rcases this with e | e
    · cases e
    · exact absurd e (by decide)
  refine ⟨?_, fun j hj e => ?_, ?_, ?_⟩
  · rw [List.getElem?_append_left (by omega)]
    rcases hn with e | e <;> subst e
    · have : m = l.toList.length := by rw [Array.length_toList]; simp at hm; omega
      subst this; simp
    · have : m = l.toList.length + 1 := by rw [Array.length_toList]; simp at hm; omega
      subst this
      rw [List.getElem?_append_right (by omega)]; simp
  · rw [List.getElem?_append_left (by omega)] at e
    by_cases hj2 : j < l.toList.length
    · rw [List.getElem?_append_left hj2] at e
      exact hno _ (List.mem_of_getElem? e) rfl
    · rw [List.getElem?_append_right (by omega)] at e
      rw [Array.length_toList] at hj2 e
      rcases hn with q | q <;> subst q
      · simp at hm; omega
      · have : j - l.size = 0 := by simp at hm; omega
        rw [this] at e; simp at e
  · rw [List.take_append_of_le_length (by omega), List.take_of_length_le (by omega)]
  · rw [← hlen, List.drop_left]
theorem star_bad : ¬ sound [42] := by
  intro h
  have := h.1 42 (by decide +kernel)
  exact absurd this (by decide +kernel)
end Sm
end
section
set_option maxRecDepth 100000
set_option linter.unusedVariables false
set_option linter.unusedSimpArgs false
set_option maxHeartbeats 4000000
namespace Sm
open PySem
def SpChal (O : Bool → Addr → Sp) : Prop := ∀ (i j e n m : Nat) (c : Conn) (s : Srv) (ps : List (Array UInt8)) (v : AV) (o : Array UInt8) (coded : Bool) (σ : List AObj) (Q : AV → List AObj → Prop) (X : Nat → List AObj → Prop), Asked v o → σ[j]? = some (s.on i e n).obj → σ[i]? = some c.obj → c.closed = false →
  σ[c.pieces]? = some (.list (ps.map .bytes)) → ps.length ≤ 10000 → c.sent.size ≤ 70000 → (c.ahead ps).length ≤ 10000 → m ≤ 900 → (c.ahead ps)[m]? = some 10 → (∀ j, j < m → (c.ahead ps)[j]? ≠ some 10) →
  (∀ (c' : Conn) (l : Array UInt8), l = ((c.ahead ps).take (m + 1)).toArray → (c.say (chal coded o ++ crlf)).Later c' ps ((c.ahead ps).drop (m + 1)) →
      (blobOf l = #[42] → Q (.glob 294) (σ.set i (c'.say (ascB tAbort ++ crlf)).obj)) ∧
      (blobOf l ≠ #[42] → ¬ soundD (blobOf l).toList → ∀ x, Q (.glob 294) (σ.set i (c'.say (ascB tBad ++ crlf)).obj ++ [x])) ∧
      (blobOf l ≠ #[42] → soundD (blobOf l).toList → Q (.bytes (toldD (blobOf l).toList).toArray) (σ.set i c'.obj))) → O false 571 [.ref j, v, .bool coded] [] σ Q X
def ExtBut (i : Nat) (σ σ' : List AObj) : Prop := ∀ (k : Nat) (o : AObj), k ≠ i → σ[k]? = some o → σ'[k]? = some o
structure TlR (i j : Nat) (v1 : AV) (tl : List (Nat × AV)) : Prop where
  shape : ∃ v2 v3 v4 v5 v6 v7 v8 a1 a2 fd, (fd = [] ∨ ∃ fv, fd = [(431349919590, fv)]) ∧ tl = [(125779768604014, v1), (1701734764, v2), (431198270305, v3), (126943755527023, v4), (431197810531, v5), (495606460279, v6), (431349919603, v7), (1684828020, v8), (120265081255027, a1), (1885697139, a2), (521515500515601310183267, .ref i), (125780104471923, .ref j), (499967814002, .bool true)] ++ fd
section
variable {O : Bool → Addr → Sp} {Q : AV → List AObj → Prop} {X : Nat → List AObj → Prop} {σ : List AObj} {F : FQ} {ns : List Int} {w S : Array UInt8} {tl : List (Nat × AV)} {R : St → Prop} {v v1 : AV} {i j e n : Nat} {c : Conn} {s : Srv} {it : Item} {ps : List (Array UInt8)} {r : List UInt8}
theorem say_pieces (c : Conn) (o : Array UInt8) : (c.say o).pieces = c.pieces := rfl
theorem say_closed (c : Conn) (o : Array UInt8) : (c.say o).closed = c.closed := rfl
theorem law_chal (hC : SpChal O) (hit : it.Ok) (hs : σ[j]? = some (s.on i e n).obj) (hc : σ[i]? = some c.obj) (ho : c.closed = false) (hp : σ[c.pieces]? = some (.list (ps.map .bytes))) (hps : ps.length ≤ 10000) (hse : c.sent.size ≤ 70000) (hz : (c.ahead ps).length ≤ 10000)
    (ha : c.ahead ps = (it.line.toList ++ it.nl.toList) ++ r)
    (hq : ∀ (c' : Conn) σ', c'.pieces = c.pieces → c'.closed = false → c'.ahead ps = r → c'.sent = wantStep c.sent it → ExtBut i σ σ' → σ'[i]? = some c'.obj →
      (¬ sound (wordsOf it.line).toList → Q (.glob 294) σ') ∧ (sound (wordsOf it.line).toList → Q (.bytes (told (wordsOf it.line).toList).toArray) σ')) : O false 571 [.ref j, it.asked, .bool it.coded] [] σ Q X := by
  obtain ⟨m, hm⟩ : ∃ m, m + 1 = it.line.size + it.nl.size := ⟨it.line.size + it.nl.size - 1, by rcases hit.nl with q | q <;> rw [q] <;> simp⟩
  obtain ⟨k1, k2, k3, k4⟩ := line_at (r := r) hit.line hit.nl hm
  have hsz := item_size hit
  rw [Array.size_append] at hsz
  have eb : blobOf (it.line ++ it.nl) = wordsOf it.line := blob_words hit.line hit.nl
  have e1 : ascB tAbort ++ crlf = #[53, 48, 49, 32, 53, 46, 55, 46, 48, 32, 65, 117, 116, 104, 32, 97, 98, 111, 114, 116, 101, 100, 13, 10] := by decide +kernel
  have e2 : ascB tBad ++ crlf = #[53, 48, 49, 32, 53, 46, 53, 46, 50, 32, 67, 97, 110, 39, 116, 32, 100, 101, 99, 111, 100, 101, 32, 98, 97, 115, 101, 54, 52, 13, 10] := by decide +kernel
  refine hC i j e n m c s ps _ it.octets it.coded _ _ _ hit.asked hs hc ho hp hps hse hz (by omega) (by rw [ha]; exact k1) (by rw [ha]; exact k2) fun c' l hl L => ?_
  rw [ha, k3] at hl
  rw [ha, k4] at L
  have hl2 : l = it.line ++ it.nl := by rw [hl]; apply Array.toList_inj.mp; rw [Array.toList_append]
  rw [hl2, eb]
  have hsent : c'.sent = ((c.sent ++ #[51, 51, 52, 32]) ++ (if it.coded then ascB (sL (sixty it.octets)) else it.octets)) ++ #[13, 10] := by
    rw [L.sent]
    show c.sent ++ (chal it.coded it.octets ++ crlf) = _
    unfold chal
    rw [hit.same]
    simp only [t334, crlf, Array.append_assoc]
  obtain ⟨sd1, sd2⟩ := sound_iff (wordsOf it.line).toList
  have hcl : c'.closed = false := by rw [L.closed, say_closed]; exact ho
  have hpc : c'.pieces = c.pieces := by rw [L.pieces, say_pieces]
  refine ⟨fun hst => ?_, fun hst hns x => ?_, fun hst hsd => ?_⟩
  · refine (hq (c'.say (ascB tAbort ++ crlf)) _ ((say_pieces _ _).trans hpc) ((say_closed _ _).trans hcl) ((say_ahead _ _ _).trans L.ahead) ?_ (fun k o hk h => at_set_ne hk h) (at_set hc)).1 (by rw [hst]; exact star_bad)
    show c'.sent ++ _ = _
    unfold wantStep
    simp only
    rw [if_pos hst, hsent, e1]
  · refine (hq (c'.say (ascB tBad ++ crlf)) _ ((say_pieces _ _).trans hpc) ((say_closed _ _).trans hcl) ((say_ahead _ _ _).trans L.ahead) ?_ (fun k o hk h => app_old (at_set_ne hk h)) (app_old (at_set hc))).1 (fun q => hns (sd1.mpr q))
    show c'.sent ++ _ = _
    unfold wantStep
    simp only
    rw [if_neg hst, if_neg (fun q => hns (sd1.mpr q)), hsent, e2]
  · have hsn := sd1.mp hsd
    rw [sd2 hsn]
    refine (hq c' _ hpc hcl L.ahead ?_ (fun k o hk h => at_set_ne hk h) (at_set hc)).2 hsn
    unfold wantStep
    simp only
    rw [if_neg hst, if_pos hsn, hsent]
theorem law_turnB (hC : SpChal O) (hit : it.Ok) (htl : TlR i j v1 tl) (hs : σ[j]? = some (s.on i e n).obj) (hc : σ[i]? = some c.obj) (ho : c.closed = false) (hp : σ[c.pieces]? = some (.list (ps.map .bytes))) (hps : ps.length ≤ 10000) (hse : c.sent.size ≤ 70000) (hz : (c.ahead ps).length ≤ 10000)
    (ha : c.ahead ps = (it.line.toList ++ it.nl.toList) ++ r)
    (hF : ∀ (c' : Conn) σ' tl', c'.pieces = c.pieces → c'.closed = false → c'.ahead ps = r → c'.sent = wantStep c.sent it → ExtBut i σ σ' → σ'[i]? = some c'.obj → TlR i j v1 tl' → F .next ⟨σ', locA w v tl'⟩) :
    asg G7 blts O false (.tup [431198270305, 431197810531, 431349919603, 1684828020]) (planOf it) ⟨σ, locA w v tl⟩ (fun st => exs G7 blts O (bodyOfFor (b_law.dropS 10)) none st F (RX X)) (RX X) := by
  obtain ⟨v2, v3, v4, v5, v6, v7, v8, a1, a2, fd, hfd, rfl⟩ := htl.shape
  have hmc := smeth_challenge_auth hs
  unfold locA planOf at *
  by_cases hsd : sound (wordsOf it.line).toList
  · rw [if_pos hsd]
    refine ⟨rfl, rfl, ?_⟩
    rcases hfd with rfl | ⟨fv, rfl⟩
    all_goals (
      repeat (first | ((conv => whnf); rw [hmc]) | ((conv => whnf); erw [hmc]) | ((conv => whnf); refine And.intro ⟨rfl, rfl, rfl, by first | exact Nat.le_of_ble_eq_true rfl | (simp; done)⟩ ?_) | ((conv => whnf); refine And.intro (by first | omega | (unfold small; omega) | (dsimp only; omega) | exact rfl | decide | exact Nat.le_of_ble_eq_true rfl | (refine ⟨?_, ?_⟩ <;> first | omega | (unfold small; omega) | (dsimp only; omega) | exact rfl | decide | (simp only [List.size_toArray, Array.size_append, List.length_take, Array.length_toList]; omega)) | (refine ⟨?_, ?_, ?_⟩ <;> first | omega | (unfold small; omega) | (dsimp only; omega) | exact rfl | decide | (simp only [List.size_toArray, Array.size_append, List.length_take, Array.length_toList]; omega))) ?_) | fail)
      conv => whnf
      refine law_chal hC hit hs hc ho hp hps hse hz ha fun c' σ' x1 x2 x3 x4 x5 x6 => ⟨fun q => (q hsd).elim, fun _ => ?_⟩
      have d1 : decide ((told (wordsOf it.line).toList).toArray = (told (wordsOf it.line).toList).toArray) = true := decide_eq_true rfl
      repeat (first | ((conv => whnf); rw [d1]) | ((conv => whnf); erw [d1]) | ((conv => whnf); refine And.intro ⟨rfl, rfl, rfl, by first | exact Nat.le_of_ble_eq_true rfl | (simp; done)⟩ ?_) | ((conv => whnf); refine And.intro (by first | omega | (unfold small; omega) | (dsimp only; omega) | exact rfl | decide | exact Nat.le_of_ble_eq_true rfl | (refine ⟨?_, ?_⟩ <;> first | omega | (unfold small; omega) | (dsimp only; omega) | exact rfl | decide | (simp only [List.size_toArray, Array.size_append, List.length_take, Array.length_toList]; omega)) | (refine ⟨?_, ?_, ?_⟩ <;> first | omega | (unfold small; omega) | (dsimp only; omega) | exact rfl | decide | (simp only [List.size_toArray, Array.size_append, List.length_take, Array.length_toList]; omega))) ?_) | fail)
      exact hF c' σ' _ x1 x2 x3 x4 x5 x6 ⟨_, _, _, _, _, _, _, _, _, [(431349919590, _)], .inr ⟨_, rfl⟩, rfl⟩)
  · rw [if_neg hsd]
    refine ⟨rfl, rfl, ?_⟩
    rcases hfd with rfl | ⟨fv, rfl⟩
    all_goals (
      repeat (first | ((conv => whnf); rw [hmc]) | ((conv => whnf); erw [hmc]) | ((conv => whnf); refine And.intro ⟨rfl, rfl, rfl, by first | exact Nat.le_of_ble_eq_true rfl | (simp; done)⟩ ?_) | ((conv => whnf); refine And.intro (by first | omega | (unfold small; omega) | (dsimp only; omega) | exact rfl | decide | exact Nat.le_of_ble_eq_true rfl | (refine ⟨?_, ?_⟩ <;> first | omega | (unfold small; omega) | (dsimp only; omega) | exact rfl | decide | (simp only [List.size_toArray, Array.size_append, List.length_take, Array.length_toList]; omega)) | (refine ⟨?_, ?_, ?_⟩ <;> first | omega | (unfold small; omega) | (dsimp only; omega) | exact rfl | decide | (simp only [List.size_toArray, Array.size_append, List.length_take, Array.length_toList]; omega))) ?_) | fail)
      conv => whnf
      refine law_chal hC hit hs hc ho hp hps hse hz ha fun c' σ' x1 x2 x3 x4 x5 x6 => ⟨fun _ => ?_, fun q => (hsd q).elim⟩
      repeat (first | ((conv => whnf); refine And.intro ⟨rfl, rfl, rfl, by first | exact Nat.le_of_ble_eq_true rfl | (simp; done)⟩ ?_) | ((conv => whnf); refine And.intro (by first | omega | (unfold small; omega) | (dsimp only; omega) | exact rfl | decide | exact Nat.le_of_ble_eq_true rfl | (refine ⟨?_, ?_⟩ <;> first | omega | (unfold small; omega) | (dsimp only; omega) | exact rfl | decide | (simp only [List.size_toArray, Array.size_append, List.length_take, Array.length_toList]; omega)) | (refine ⟨?_, ?_, ?_⟩ <;> first | omega | (unfold small; omega) | (dsimp only; omega) | exact rfl | decide | (simp only [List.size_toArray, Array.size_append, List.length_take, Array.length_toList]; omega))) ?_) | fail)
      exact hF c' σ' _ x1 x2 x3 x4 x5 x6 ⟨_, _, _, _, _, _, _, _, _, [(431349919590, _)], .inr ⟨_, rfl⟩, rfl⟩)
end
end Sm
end
section
set_option maxRecDepth 100000
set_option linter.unusedVariables false
set_option linter.unusedSimpArgs false
set_option maxHeartbeats 4000000
namespace Sm
open PySem
def SpHandle (O : Bool → Addr → Sp) : Prop := ∀ (i j e n : Nat) (c : Conn) (s : Srv) (ps : List (Array UInt8)) (peer : AV) (σ : List AObj) (Q : AV → List AObj → Prop) (X : Nat → List AObj → Prop), σ[j]? = some (s.on i e n).obj → σ[s.hooks]? = some (.dict []) → σ[s.methods]? = some (.dict cmds) → σ[n]? = some (sesObj peer) → σ[i]? = some c.obj → c.closed = false →
  σ[c.pieces]? = some (.list (ps.map .bytes)) → ps.length ≤ 10000 → c.sent.size ≤ 70000 → c.ahead ps = tLine.toList →
  (∀ (c' : Conn) l k x, c'.sent = (c.sent ++ (ascB tHello ++ crlf)) ++ (ascB tBye ++ crlf) → (σ.set i c'.obj ++ l)[k]? = some (.exc (.ref 31) [] [] x) → X k (σ.set i c'.obj ++ l)) → O false 506 [.ref j] [] σ Q X
section
variable {O : Bool → Addr → Sp} {Q : AV → List AObj → Prop} {X : Nat → List AObj → Prop} {σ : List AObj} {F : FQ} {ns : List Int} {w S : Array UInt8} {tl : List (Nat × AV)} {R : St → Prop} {v v1 : AV} {i j e n : Nat} {c : Conn} {s : Srv} {it : Item} {its : List Item} {ps : List (Array UInt8)} {r : List UInt8} {peer : AV}
structure Round (i j e n : Nat) (s : Srv) (pc : Nat) (ps : List (Array UInt8)) (peer : AV) (its : List Item) (σ : List AObj) : Prop where
  srv : σ[j]? = some (s.on i e n).obj
  hooks : σ[s.hooks]? = some (.dict [])
  meths : σ[s.methods]? = some (.dict cmds)
  ses : σ[n]? = some (sesObj peer)
  pieces : σ[pc]? = some (.list (ps.map .bytes))
  plan : σ[1]? = some (.list (its.map planOf))
theorem Round.step {pc : Nat} {σ' : List AObj} (x : Round i j e n s pc ps peer its σ) (hc : σ[i]? = some c.obj) (h : ExtBut i σ σ') : Round i j e n s pc ps peer its σ' where
  srv := h _ _ (inst_ne x.srv hc (srv_conn _ _)) x.srv
  hooks := h _ _ (inst_ne x.hooks hc (fun e => by cases e)) x.hooks
  meths := h _ _ (inst_ne x.meths hc (fun e => by cases e)) x.meths
  ses := h _ _ (inst_ne x.ses hc (fun e => by cases e)) x.ses
  pieces := h _ _ (inst_ne x.pieces hc (fun e => by cases e)) x.pieces
  plan := h _ _ (inst_ne x.plan hc (fun e => by cases e)) x.plan
theorem restOf_len (its : List Item) (h : ∀ it ∈ its, it.Ok) : (restOf its).length ≤ 42 * its.length + 6 := by
  have := stream_size its h
  rw [← stream_eq its, Array.length_toList]; exact this
theorem restOf_cons (it : Item) (r : List Item) : restOf (it :: r) = (it.line.toList ++ it.nl.toList) ++ restOf r := by
  unfold restOf; rw [List.flatMap_cons, List.append_assoc]
theorem law_loop2 (hC : SpChal O) (hok : ∀ it ∈ its, it.Ok) (hn : its.length ≤ 10) (htl : TlR i j v1 tl) (hr : Round i j e n s c.pieces ps peer its σ) (hc : σ[i]? = some c.obj) (ho : c.closed = false) (hps : ps.length ≤ 10000)
    (hse : c.sent = #[]) (ha : c.ahead ps = restOf its)
    (hF : ∀ (c' : Conn) σ' tl', c'.pieces = c.pieces → c'.closed = false → c'.ahead ps = tLine.toList → c'.sent = wantAll its → Round i j e n s c.pieces ps peer its σ' → σ'[i]? = some c'.obj → TlR i j v1 tl' → exs G7 blts O (b_law.dropS 11) none ⟨σ', locA w v tl'⟩ F (RX X)) :
    exs G7 blts O (b_law.dropS 10) none ⟨σ, locA w v tl⟩ F (RX X) := by
  obtain ⟨v2, v3, v4, v5, v6, v7, v8, a1, a2, fd, hfd, htl'⟩ := htl.shape
  have start : iterOk σ (.ref 1) ∧ ∃ (N : Nat) (I : Nat → St → Prop), I 0 ⟨σ, locA w v tl⟩ ∧ ∀ k st, I k st → k ≤ N ∧ match turnOf st.σ (.ref 1) k with
      | .item v => asg G7 blts O false (.tup [431198270305, 431197810531, 431349919603, 1684828020]) v st (fun st => exs G7 blts O (bodyOfFor (b_law.dropS 10)) none st (fun fl st => match fl with
        | .next | .cont => I (k + 1) st
        | .brk => exs G7 blts O (b_law.dropS 11) none st F (RX X)
        | .ret v => F (.ret v) st) (RX X)) (RX X)
      | .done => exs G7 blts O (b_law.dropS 11) none st F (RX X)
      | .bad => False := by
    refine ⟨⟨_, hr.plan⟩, 10, fun k st => k ≤ its.length ∧ ∃ (c' : Conn) (σ' : List AObj) (tl' : List (Nat × AV)), st = ⟨σ', locA w v tl'⟩ ∧ c'.pieces = c.pieces ∧ c'.closed = false ∧ c'.ahead ps = restOf (its.drop k) ∧ c'.sent = wantAll (its.take k) ∧
      Round i j e n s c.pieces ps peer its σ' ∧ σ'[i]? = some c'.obj ∧ TlR i j v1 tl', ⟨Nat.zero_le _, c, σ, tl, rfl, rfl, ho, ha, hse, hr, hc, htl⟩, fun k st hI => ?_⟩
    obtain ⟨hk, c', σ', tl', rfl, h1, h2, h3, h4, h5, h6, h7⟩ := hI
    refine ⟨by omega, ?_⟩
    by_cases hlt : k < its.length
    · have ht := turn_list (k := k) h5.plan (v := planOf its[k]) (by rw [List.getElem?_map, List.getElem?_eq_getElem hlt]; rfl)
      rw [ht]
      have hdrop : its.drop k = its[k] :: its.drop (k + 1) := List.drop_eq_getElem_cons hlt
      have htake : its.take (k + 1) = its.take k ++ [its[k]] := take_succ_snoc _ _ _ (List.getElem?_eq_getElem hlt)
      have hsz := wantAll_size (its.take k) fun x hx => hok x (List.take_subset _ _ hx)
      have hl := restOf_len (its.drop k) fun x hx => hok x (List.drop_subset _ _ hx)
      rw [List.length_take] at hsz
      rw [List.length_drop] at hl
      refine law_turnB (r := restOf (its.drop (k + 1))) hC (hok _ (List.getElem_mem hlt)) h7 h5.srv h6 h2 (by rw [h1]; exact h5.pieces) hps (by rw [h4]; omega) (by rw [h3]; omega) (by rw [h3, hdrop, restOf_cons]) fun c2 σ2 tl2 x1 x2 x3 x4 x5 x6 x7 => ?_
      exact ⟨by omega, c2, σ2, tl2, rfl, x1.trans h1, x2, x3, by rw [x4, htake, wantAll_snoc, h4], h5.step h6 x5, x6, x7⟩
    · have ht := turn_listE (k := k) h5.plan (by rw [List.getElem?_map, List.getElem?_eq_none (by omega)]; rfl)
      rw [ht]
      have e : k = its.length := by omega
      subst e
      rw [List.drop_length] at h3
      rw [List.take_length] at h4
      exact hF c' σ' tl' h1 h2 h3 h4 h5 h6 h7
  unfold locA at start ⊢
  subst htl'
  conv => whnf
  exact ⟨rfl, start⟩
end
end Sm
end
section
set_option maxRecDepth 100000
set_option linter.unusedVariables false
set_option linter.unusedSimpArgs false
set_option maxHeartbeats 4000000
namespace Sm
open PySem
section
variable {O : Bool → Addr → Sp} {Q : AV → List AObj → Prop} {X : Nat → List AObj → Prop} {σ : List AObj} {F : FQ} {ns : List Int} {w S : Array UInt8} {tl : List (Nat × AV)} {R : St → Prop} {v v1 : AV} {i j e n : Nat} {c : Conn} {s : Srv} {it : Item} {its : List Item} {ps : List (Array UInt8)} {r : List UInt8} {peer : AV}
def finB : Array UInt8 := #[50, 50, 48, 32, 109, 120, 49, 46, 101, 120, 97, 109, 112, 108, 101, 32, 112, 111, 115, 116, 32, 49, 50, 13, 10, 50, 50, 49, 32, 66, 121, 101, 13, 10]
theorem fin_eq : (ascB tHello ++ crlf) ++ (ascB tBye ++ crlf) = finB := by decide +kernel
theorem law_end (hH : SpHandle O) (htl : TlR i j v1 tl) (hr : Round i j e n s c.pieces ps peer its σ) (hc : σ[i]? = some c.obj) (ho : c.closed = false) (hps : ps.length ≤ 10000) (hse : c.sent = w) (hw : w.size ≤ 10000) (ha : c.ahead ps = tLine.toList) (hq : ∀ σ', Q (.bool true) σ') :
    exs G7 blts O (b_law.dropS 11) none ⟨σ, locA w v tl⟩ (RQ Q) (RX X) := by
  obtain ⟨v2, v3, v4, v5, v6, v7, v8, a1, a2, fd, hfd, rfl⟩ := htl.shape
  have hm := smeth_handle_client hr.srv
  have d1 : decide (c.sent = w) = true := decide_eq_true hse
  have ef : ∀ (c' : Conn), c'.sent = c.sent ++ (ascB tHello ++ crlf) ++ (ascB tBye ++ crlf) → c'.sent = w ++ finB := fun c' h => by rw [h, Array.append_assoc, fin_eq, hse]
  have e34 : finB.size = 34 := rfl
  unfold locA
  rcases hfd with rfl | ⟨fv, rfl⟩
  all_goals (
    repeat (first | ((conv => whnf); rw [hc]) | ((conv => whnf); rw [d1]) | ((conv => whnf); rw [hm]) | ((conv => whnf); erw [hc]) | ((conv => whnf); erw [d1]) | ((conv => whnf); erw [hm]) | ((conv => whnf); refine And.intro ⟨rfl, rfl, rfl, by first | exact Nat.le_of_ble_eq_true rfl | (simp; done)⟩ ?_) | ((conv => whnf); refine And.intro (by first | omega | (unfold small; omega) | (dsimp only; omega) | exact rfl | decide | exact Nat.le_of_ble_eq_true rfl | (refine ⟨?_, ?_⟩ <;> first | omega | (unfold small; omega) | (dsimp only; omega) | exact rfl | decide | (simp only [List.size_toArray, Array.size_append, List.length_take, Array.length_toList]; omega)) | (refine ⟨?_, ?_, ?_⟩ <;> first | omega | (unfold small; omega) | (dsimp only; omega) | exact rfl | decide | (simp only [List.size_toArray, Array.size_append, List.length_take, Array.length_toList]; omega))) ?_) | fail)
    conv => whnf
    refine hH i j e n c s ps peer σ _ _ hr.srv hr.hooks hr.meths hr.ses hc ho hr.pieces hps (by rw [hse]; omega) ha fun c' l k x h1 h2 => ?_
    have h3 := ef c' h1
    have hci : (σ.set i c'.obj ++ l)[i]? = some c'.obj := app_old (at_set hc)
    generalize σ.set i c'.obj ++ l = σ₂ at h2 hci ⊢
    have hki : i ≠ k := inst_ne hci h2 (fun e => by cases e)
    have hcau : ∀ loc, caught k ⟨σ₂, loc⟩ = ⟨σ₂.set k (errTb 31), loc⟩ := fun loc => by unfold caught; dsimp only; rw [h2]
    have hxe : (σ₂.set k (errTb 31))[k]? = some (errTb 31) := at_set h2
    have hmat : matchExc G7 (σ₂.set k (errTb 31)) k (.glob 31) = some true := by unfold matchExc; rw [hxe]; rfl
    have hci2 : (σ₂.set k (errTb 31))[i]? = some c'.obj := at_set_ne hki hci
    have d2 : decide (c'.sent = w ++ finB) = true := decide_eq_true h3
    repeat (first | ((conv => whnf); rw [hcau]) | ((conv => whnf); rw [hmat]) | ((conv => whnf); rw [hci2]) | ((conv => whnf); rw [d2]) | ((conv => whnf); erw [hcau]) | ((conv => whnf); erw [hmat]) | ((conv => whnf); erw [hci2]) | ((conv => whnf); erw [d2]) | ((conv => whnf); refine And.intro (show w.size + finB.size ≤ _ by rw [e34]; omega) ?_) | ((conv => whnf); refine And.intro ⟨rfl, rfl, rfl, by first | exact Nat.le_of_ble_eq_true rfl | (simp; done)⟩ ?_) | ((conv => whnf); refine And.intro (by first | omega | (unfold small; omega) | (dsimp only; omega) | exact rfl | decide | exact Nat.le_of_ble_eq_true rfl | (refine ⟨?_, ?_⟩ <;> first | omega | (unfold small; omega) | (dsimp only; omega) | exact rfl | decide | (simp only [List.size_toArray, Array.size_append, List.length_take, Array.length_toList]; omega)) | (refine ⟨?_, ?_, ?_⟩ <;> first | omega | (unfold small; omega) | (dsimp only; omega) | exact rfl | decide | (simp only [List.size_toArray, Array.size_append, List.length_take, Array.length_toList]; omega))) ?_) | fail)
    exact hq _)
theorem c_law (hA : SpAnswer O) (hS : SpSixty O) (hR : SpReadL O) (hI : SpConnInit O) (hHI : SpHandInit O) (hSI : SpSmtpInit O) (hM : SpMade O) (hC : SpChal O) (hH : SpHandle O) (hns : ns.length ≤ 100) (hq : ∀ σ', Q (.bool true) σ') :
    exs G7 blts O b_law none ⟨[], [(128026154263411, .fls (ns.map .int))]⟩ (RQ Q) (RX X) := by
  rw [exs_split 3]
  generalize hR3 : (fun st => exs G7 blts O (b_law.dropS 3) none st (RQ Q) (RX X)) = R3
  show exs G7 blts O (b_law.takeS 3) none _ (NX (fun st => exs G7 blts O (b_law.dropS 3) none st (RQ Q) (RX X)) (RQ Q)) (RX X)
  rw [hR3]
  have key : R3 ⟨[.list [], .list []], locA #[] (.fls (ns.map .int)) []⟩ := by
    rw [← hR3]
    refine law_for hA hS hR rfl hns fun its σ v1 v2 v3 v4 v5 v6 v7 v8 hn hok h0 h1 => ?_
    have t8 : Tl8 [(125779768604014, v1), (1701734764, v2), (431198270305, v3), (126943755527023, v4), (431197810531, v5), (495606460279, v6), (431349919603, v7), (1684828020, v8)] := ⟨_, _, _, _, _, _, _, _, rfl⟩
    have hw := wantAll_size its hok
    show exs G7 blts O (b_law.dropS 4) none _ _ _
    rw [exs_split 2]
    refine law_m4 (F := RQ Q) (R := fun st => exs G7 blts O (b_law.dropS 6) none st (RQ Q) (RX X)) t8 h0 hn hok hns fun st x hst1 hst2 => ?_
    rw [exs_split 1]
    refine law_m6 (F := RQ Q) (R := fun st => exs G7 blts O (b_law.dropS 7) none st (RQ Q) (RX X)) hI t8 (by have := stream_size its hok; omega) hst1 hst2 fun ps hps hall => ?_
    rw [exs_split 3]
    have hci : (σ ++ [x] ++ [.list (ps.map .bytes), (Conn.mk (σ ++ [x]).length peerV 0 #[] #[] false).obj])[(σ ++ [x]).length + 1]? = some (Conn.mk (σ ++ [x]).length peerV 0 #[] #[] false).obj := by
      rw [List.getElem?_append_right (by omega)]
      rw [show (σ ++ [x]).length + 1 - (σ ++ [x]).length = 1 by omega]; rfl
    have hpi : (σ ++ [x] ++ [.list (ps.map .bytes), (Conn.mk (σ ++ [x]).length peerV 0 #[] #[] false).obj])[(σ ++ [x]).length]? = some (.list (ps.map .bytes)) := app_get0
    have hpl : (σ ++ [x] ++ [.list (ps.map .bytes), (Conn.mk (σ ++ [x]).length peerV 0 #[] #[] false).obj])[1]? = some (.list (its.map planOf)) := app_old (app_old h1)
    refine law_m7 (F := RQ Q) (R := fun st => exs G7 blts O (b_law.dropS 10) none st (RQ Q) (RX X)) hHI hSI hM t8 hci fun σ' j s e n hext hj hh hm hnn => ?_
    refine law_loop2 (c := Conn.mk (σ ++ [x]).length peerV 0 #[] #[] false) (F := RQ Q) (v1 := v1) hC hok hn ⟨_, _, _, _, _, _, _, _, _, [], .inl rfl, rfl⟩ ⟨hj, hh, hm, hnn, hext _ _ hpi, hext _ _ hpl⟩ (hext _ _ hci) rfl (by omega) rfl ?_ fun c' σ₂ tl' x1 x2 x3 x4 x5 x6 x7 => ?_
    · show ([] : List UInt8) ++ (ps.drop 0).flatMap (·.toList) = _
      rw [List.nil_append, List.drop_zero, hall, stream_eq]
    · exact law_end hH x7 (by rw [x1]; exact x5) x6 x2 (by omega) x4 (by omega) x3 hq
  clear hR3
  unfold locA at key
  repeat (first | ((conv => whnf); refine And.intro ⟨rfl, rfl, rfl, by first | exact Nat.le_of_ble_eq_true rfl | (simp; done)⟩ ?_) | ((conv => whnf); refine And.intro (by first | omega | (unfold small; omega) | (dsimp only; omega) | exact rfl | decide | exact Nat.le_of_ble_eq_true rfl | (refine ⟨?_, ?_⟩ <;> first | omega | (unfold small; omega) | (dsimp only; omega) | exact rfl | decide | (simp only [List.size_toArray, Array.size_append, List.length_take, Array.length_toList]; omega)) | (refine ⟨?_, ?_, ?_⟩ <;> first | omega | (unfold small; omega) | (dsimp only; omega) | exact rfl | decide | (simp only [List.size_toArray, Array.size_append, List.length_take, Array.length_toList]; omega))) ?_) | fail)
  exact key
end
end Sm
end
section
set_option maxRecDepth 100000
set_option linter.unusedVariables false
namespace Sm
open PySem PySem.Calls PySem.W
section
variable (t : BT) (N : Nat)
def hpT : Heap := absHeap t N {}
def obT (a : Addr) : Obj := (t.get a).getD default
def liveT (a : Addr) : Bool := Nat.blt a N && match t.get a with
  | some o => (match o.data with | .freed => false | _ => true)
  | none => false
def isType (v : Value) (n : String) : Bool := match v with
  | .type m => m == n
  | _ => false
def fdT (a : Addr) : FuncData := match (obT t a).data with
  | .func fd => fd
  | _ => default
def stT' (fd : FuncData) : List Stmt := match fd.body with
  | .stmts b => b
  | _ => []
def esT (a : Addr) : Array DictEntry := match (obT t a).data with
  | .dict es _ => es
  | _ => #[]
def cdT (a : Addr) : ClassData := match (obT t a).data with
  | .cls cd => cd
  | _ => default
def slotT (a : Addr) (k : Nat) : Option Value := (obT t a).slots.getD k none
def nsB (a : Addr) : Bool := liveT t N a && (match (obT t a).data with | .dict _ _ => true | _ => false) && (esT t a).toList.all fun e => match e.key with | .str _ _ => true | _ => false
def tupT (a : Addr) : Option (List Value) := match liveT t N a with
  | true => match (obT t a) with
    | ⟨c, none, .seq vs _, _⟩ => (match isType c "tuple" with | true => some vs.toList | false => none)
    | _ => none
  | false => none
def codeB (fd : FuncData) : Bool := match fd.code with
  | .ref c => liveT t N c && match (obT t c).data with
    | .fields vs => (match (vs[1]? : Option Value) with | some (.str q _) => q == fd.qualname | _ => false)
    | _ => false
  | _ => false
def fnB (a : Addr) : Bool := liveT t N a && isType (obT t a).cls "function" && (match (obT t a).data with | .func _ => true | _ => false) && (fdT t a).closure.isEmpty && (fdT t a).globals == mainGlobals && (fdT t a).builtins == builtinsNs &&
  (match (fdT t a).body with | .stmts _ => true | _ => false) && codeB t N (fdT t a) && !(fdT t a).scope.isCoroutine && !(fdT t a).scope.isGenerator && (match (fdT t a).scope.kind with | .function => true | _ => false) && (fdT t a).scope.names.all fun p => p.2 != .free
mutual
def vrelB : AV → Value → Bool
  | .none, .none => true
  | .bool a, .bool b => a == b
  | .int a, .int b _ => decide (a = b)
  | .str a, .str b _ => a == b
  | .bytes a, .bytes b _ => a == b
  | .tup xs, .ref a => match tupT t N a with
    | some vs => vrelsB xs vs
    | none => false
  | .glob a, .ref b => Nat.beq a b
  | .type n, .type m => n.name == m
  | .builtin i, .builtin m => i.id == m
  | _, _ => false
def vrelsB : List AV → List Value → Bool
  | [], [] => true
  | x :: xs, v :: vs => vrelB x v && vrelsB xs vs
  | _, _ => false
end
def kw0 (sa : Addr) (svs : List Value) : Kw := ⟨fun _ => none, fun a => if a = sa then some (.lst svs) else (tupT t N a).map .tup⟩
variable {t N}
theorem isType_eq {v : Value} {n : String} (h : isType v n = true) : v = .type n := by
  unfold isType at h
  split at h
  · rw [eq_of_beq h]
  · cases h
theorem live_get {a : Addr} (h : liveT t N a = true) : (hpT t N).get? a = some (obT t a) := by
  unfold liveT at h
  rw [Bool.and_eq_true] at h
  obtain ⟨h1, h2⟩ := h
  split at h2
  · rename_i o e
    have h3 : obT t a = o := by unfold obT; rw [e]; rfl
    unfold hpT
    rw [abs_get (Nat.le_of_ble_eq_true h1) e, h3]
    obtain ⟨c, d, dt, sl⟩ := o
    cases dt <;> first | rfl | cases h2
  · cases h2
theorem tup_get {a : Addr} {vs : List Value} (h : tupT t N a = some vs) : ∃ o n, (hpT t N).get? a = some o ∧ o.cls = .type "tuple" ∧ o.dict = none ∧ o.data = .seq vs.toArray n := by
  unfold tupT at h
  split at h
  · rename_i hl
    split at h
    · rename_i c vs' n sl e
      split at h
      · rename_i hc
        obtain rfl := Option.some.inj h
        exact ⟨_, n, live_get hl, by rw [e]; exact isType_eq hc, by rw [e], by rw [e]⟩
      · cases h
    · cases h
  · cases h
theorem ns_get {a : Addr} (h : nsB t N a = true) : (hpT t N).Ns a (nsFind (esT t a)) := by
  unfold nsB at h
  rw [Bool.and_eq_true, Bool.and_eq_true] at h
  obtain ⟨⟨h1, h2⟩, h3⟩ := h
  split at h2
  · rename_i es ep e
    have he : esT t a = es := by unfold esT; rw [e]
    refine ⟨obT t a, es, ep, live_get h1, e, ?_, fun _ => by rw [he]⟩
    rw [he] at h3
    intro x hx
    have := List.all_eq_true.mp h3 x (by simpa using hx)
    split at this
    · exact ⟨_, _, by assumption⟩
    · cases this
  · cases h2
theorem code_get {fd : FuncData} (h : codeB t N fd = true) : (hpT t N).CodeRec fd.code fd.qualname := by
  unfold codeB at h
  split at h
  · rename_i c e
    rw [Bool.and_eq_true] at h
    obtain ⟨h1, h2⟩ := h
    split at h2
    · rename_i vs e2
      split at h2
      · rename_i q u e3
        exact ⟨c, _, vs, u, e, live_get h1, e2, by rw [e3, eq_of_beq h2]⟩
      · cases h2
    · cases h2
  · cases h
end
section
variable {t : BT} {N : Nat} {B : Base} {κ₀ : Kw} {sa : Addr} {svs : List Value}
structure HasT (t : BT) (N : Nat) (B : Base) (κ₀ : Kw) : Prop where
  heap : ∀ b o, (hpT t N).get? b = some o → B.h.get? b = some o
  tups : ∀ a vs, tupT t N a = some vs → κ₀.imm a = some (.tup vs)
theorem fnOk (H : HasT t N B κ₀) {a : Addr} (h : fnB t N a = true) : FnOk B a (fdT t a) (fdT t a).scope (stT' (fdT t a)) := by
  unfold fnB at h
  simp only [Bool.and_eq_true, Bool.not_eq_true'] at h
  obtain ⟨⟨⟨⟨⟨⟨⟨⟨⟨⟨⟨h1, h2⟩, h3⟩, h4⟩, h5⟩, h6⟩, h7⟩, h8⟩, h9⟩, h10⟩, h11⟩, h12⟩ := h
  refine ⟨⟨_, H.heap _ _ (live_get h1), ?_⟩, rfl, List.isEmpty_iff.mp h4, eq_of_beq h5, eq_of_beq h6, ?_, (code_get h8).keeps H.heap, h9, h10, ?_, fun n hn => ?_⟩
  · split at h3
    · rename_i fd e; rw [e]; unfold fdT; rw [e]
    · cases h3
  · split at h7
    · rename_i b e; rw [e]; unfold stT'; rw [e]
    · cases h7
  · split at h11
    · assumption
    · cases h11
  · have := List.all_eq_true.mp h12
    have mem : ∀ (l : List (Str × NameKind)) (n : Str) (k : NameKind), l.lookup n = some k → ∃ m, (m, k) ∈ l := by
      intro l n k
      induction l with
      | nil => intro h; cases h
      | cons p r ih =>
        obtain ⟨a, b⟩ := p
        intro h
        rw [List.lookup_cons] at h
        split at h
        · obtain rfl := Option.some.inj h; exact ⟨_, .head _⟩
        · obtain ⟨m, hm⟩ := ih h; exact ⟨m, .tail _ hm⟩
    obtain ⟨m, hm⟩ := mem _ _ _ hn
    have := this _ hm
    simp at this
mutual
theorem vrel_of (H : HasT t N B κ₀) : ∀ (x : AV) (v : Value), vrelB t N x v = true → VRel κ₀ x v
  | x, v, h => by
    unfold vrelB at h
    split at h
    · exact .none
    · rw [eq_of_beq h]; exact .bool _
    · rw [of_decide_eq_true h]; exact .int _ _
    · rw [eq_of_beq h]; exact .str _ _
    · rw [eq_of_beq h]; exact .bytes _ _
    · rename_i xs a
      split at h
      · rename_i vs e
        exact .tup (H.tups _ _ e) (vrels_of H xs vs h)
      · cases h
    · rw [Nat.eq_of_beq_eq_true h]; exact .glob _
    · rw [← eq_of_beq h]; exact .type _
    · rw [← eq_of_beq h]; exact .builtin _
    · cases h
theorem vrels_of (H : HasT t N B κ₀) : ∀ (xs : List AV) (vs : List Value), vrelsB t N xs vs = true → VRels κ₀ xs vs
  | [], [], _ => .nil
  | x :: xs, v :: vs, h => by
    rw [vrelsB, Bool.and_eq_true] at h
    exact .cons (vrel_of H x v h.1) (vrels_of H xs vs h.2)
  | [], _ :: _, h => by cases h
  | _ :: _, [], h => by cases h
end
end
end Sm
end
section
set_option maxRecDepth 100000
set_option linter.unusedVariables false
namespace Sm
open PySem PySem.Calls PySem.W
section
variable (t : BT) (N : Nat)
def attrB (ns : Addr) (p : Nat × Option AV) : Bool := match p.2, nsFind (esT t ns) (dec p.1) with
  | none, none => true
  | some av, some v => vrelB t N av v
  | _, _ => false
def nothingB (ns : Addr) (x : Str) : Bool := (nsFind (esT t ns) x).isNone
def clsB (C : Addr) (c : Cls) : Bool := liveT t N C && nsB t N (cdT t C).ns && c.attrs.all (attrB t N (cdT t C).ns) && nothingB t (cdT t C).ns "__getattribute__" && nothingB t (cdT t C).ns "__getattr__" && nothingB t (cdT t C).ns "__setattr__"
def globB (p : Nat × AV) : Bool := match nsFind (esT t mainGlobals) (dec p.1) with
  | some v => vrelB t N p.2 v
  | none => false
def bltB (p : Nat × AV) : Bool := nothingB t mainGlobals (dec p.1) && match nsFind (esT t builtinsNs) (dec p.1) with
  | some v => vrelB t N p.2 v
  | none => false
def freeB (a : Nat) : Bool := (match fastLookup "object" (dec a) with | some none => true | _ => false) && !(["__module__", "__name__", "__qualname__", "__doc__", "__annotations__"] : List Str).contains (dec a)
def plainObj (C : Addr) : Obj := excClassObj (cdT t C).name (cdT t C).qualname C (cdT t C).ns (cdT t C).bases [.type "object"] true (cdT t C).slotNames (cdT t C).subclasses false (cdT t C).collection (obT t C).dict (slotT t C 0) (slotT t C 1) (slotT t C 2) (slotT t C 3) (slotT t C 5) "object.__new__"
def excObj (C : Addr) (bm : List Value) (newId : String) : Obj := excClassObj (cdT t C).name (cdT t C).qualname C (cdT t C).ns (cdT t C).bases bm (cdT t C).hasDict (cdT t C).slotNames (cdT t C).subclasses (cdT t C).abstract (cdT t C).collection (obT t C).dict (slotT t C 0) (slotT t C 1) (slotT t C 2) (slotT t C 3) (slotT t C 5) newId
def gOkB (G : Genv) : Bool := nsB t N mainGlobals && nsB t N builtinsNs && G.glb.all (globB t N) && G.blt.all (bltB t N) && nsB t N cStatics && nothingB t cStatics "sys.recursionlimit" && G.fns.all (fnB t N) && G.free.all freeB &&
  (G.objs.all fun a => liveT t N a && !isType (obT t a).cls "tuple") && liveT t N sysModules
end
section
variable {t : BT} {N : Nat} {B : Base} {κ₀ : Kw}
theorem nothing_eq {ns : Addr} {x : Str} (h : nothingB t ns x = true) : nsFind (esT t ns) x = none := Option.isNone_iff_eq_none.mp h
theorem mem_lookup {α β : Type} [BEq α] [LawfulBEq α] {l : List (α × β)} {a : α} {b : β} (h : l.lookup a = some b) : (a, b) ∈ l := by
  induction l with
  | nil => cases h
  | cons p r ih =>
    obtain ⟨x, y⟩ := p
    rw [List.lookup_cons] at h
    split at h
    · rename_i e; obtain rfl := Option.some.inj h; rw [eq_of_beq e]; exact .head _
    · exact .tail _ (ih h)
theorem attrs_of (H : HasT t N B κ₀) {ns : Addr} {l : List (Nat × Option AV)} (h : l.all (attrB t N ns) = true) : ∀ a o, l.lookup a = some o → VarRel κ₀ o (nsFind (esT t ns) (dec a)) := fun a o e => by
  have := List.all_eq_true.mp h _ (mem_lookup e)
  unfold attrB at this
  dsimp only at this
  split at this
  · rename_i e2; rw [e2]; rfl
  · rename_i av v e2; rw [e2]; exact ⟨_, rfl, vrel_of H _ _ this⟩
  · cases this
theorem clsB_get (H : HasT t N B κ₀) {C : Addr} {c : Cls} (h : clsB t N C c = true) : B.h.get? C = some (obT t C) ∧ B.h.Ns (cdT t C).ns (nsFind (esT t (cdT t C).ns)) ∧ (∀ a o, c.attrs.lookup a = some o → VarRel κ₀ o (nsFind (esT t (cdT t C).ns) (dec a))) ∧
    nsFind (esT t (cdT t C).ns) "__getattribute__" = none ∧ nsFind (esT t (cdT t C).ns) "__getattr__" = none ∧ nsFind (esT t (cdT t C).ns) "__setattr__" = none := by
  unfold clsB at h
  simp only [Bool.and_eq_true] at h
  obtain ⟨⟨⟨⟨⟨h1, h2⟩, h3⟩, h4⟩, h5⟩, h6⟩ := h
  exact ⟨H.heap _ _ (live_get h1), (ns_get h2).keeps H.heap, attrs_of H h3, nothing_eq h4, nothing_eq h5, nothing_eq h6⟩
theorem cls_plain (H : HasT t N B κ₀) {C : Addr} {c : Cls} (h : clsB t N C c = true) (he : obT t C = plainObj t C) (hx : c.exc = none) : ClsOk B κ₀ C c := by
  obtain ⟨h1, h2, h3, h4, h5, h6⟩ := clsB_get H h
  rw [he] at h1
  exact ⟨fun _ => ⟨_, _, _, _, _, _, _, _, _, _, _, _, _, _, h1, h2, h3, h4, h5, h6⟩, (fun up e => by rw [hx] at e; cases e)⟩
theorem cls_exc (H : HasT t N B κ₀) {C : Addr} {c : Cls} {up : List String} {bB newId initId : String} {bm : List Value} (h : clsB t N C c = true) (he : obT t C = excObj t C bm newId) (hx : c.exc = some up) (F : ExcBaseFacts bB newId initId bm) (hbm : bm = up.map .type) : ClsOk B κ₀ C c := by
  obtain ⟨h1, h2, h3, h4, h5, h6⟩ := clsB_get H h
  rw [he] at h1
  refine ⟨(fun e => by rw [hx] at e; cases e), fun up' e => ?_⟩
  rw [hx] at e
  obtain rfl := Option.some.inj e
  have e1 : ∀ T, bm.contains (.type T) = up.contains T := fun T => by
    subst hbm
    clear h1 hx F he e
    induction up with
    | nil => rfl
    | cons a r ih =>
      rw [List.map_cons, List.contains_cons, List.contains_cons, ih]
      congr 1
      first | rfl | (rw [Bool.eq_iff_iff, beq_iff_eq, beq_iff_eq]; exact ⟨fun q => by cases q; rfl, fun q => by rw [q]⟩)
  have e2 : ∀ D, bm.contains (.ref D) = false := fun D => by
    subst hbm
    clear h1 hx F he e e1
    induction up with
    | nil => rfl
    | cons a r ih =>
      rw [List.map_cons, List.contains_cons, ih]
      rfl
  exact ⟨_, _, _, _, _, _, _, _, _, _, _, _, _, _, _, _, _, _, _, _, h1, F, h2, h3, e1, e2⟩
theorem gOk (H : HasT t N B κ₀) {G : Genv} (h : gOkB t N G = true) (hc : ∀ C c, G.cls.lookup C = some c → ClsOk B κ₀ C c) (h0 : ∀ i, κ₀.rho i = none) : GOk B κ₀ G := by
  unfold gOkB at h
  simp only [Bool.and_eq_true] at h
  obtain ⟨⟨⟨⟨⟨⟨⟨⟨⟨h1, h2⟩, h3⟩, h4⟩, h5⟩, h6⟩, h7⟩, h8⟩, h9⟩, h10⟩ := h
  refine ⟨⟨_, _, (ns_get h1).keeps H.heap, (ns_get h2).keeps H.heap, fun x av e => ?_, fun x av _ e => ?_⟩, ⟨_, (ns_get h5).keeps H.heap, nothing_eq h6⟩, hc, fun f hf => ?_, fun a ha => ?_, fun a ha => ?_, h0, ⟨_, H.heap _ _ (live_get h10)⟩⟩
  · have := List.all_eq_true.mp h3 _ (mem_lookup e)
    unfold globB at this
    dsimp only at this
    split at this
    · rename_i v e2; exact ⟨v, e2, vrel_of H _ _ this⟩
    · cases this
  · have := List.all_eq_true.mp h4 _ (mem_lookup e)
    unfold bltB at this
    rw [Bool.and_eq_true] at this
    obtain ⟨q1, q2⟩ := this
    refine ⟨nothing_eq q1, ?_⟩
    dsimp only at q2
    split at q2
    · rename_i v e2; exact ⟨v, e2, vrel_of H _ _ q2⟩
    · cases q2
  · have := List.all_eq_true.mp h7 _ hf
    unfold fnB at this
    simp only [Bool.and_eq_true] at this
    obtain ⟨⟨⟨⟨⟨⟨⟨⟨⟨⟨⟨q1, q2⟩, q3⟩, _⟩, _⟩, _⟩, _⟩, _⟩, _⟩, _⟩, _⟩, _⟩ := this
    split at q3
    · rename_i fd e; exact ⟨_, fd, H.heap _ _ (live_get q1), isType_eq q2, e⟩
    · cases q3
  · have := List.all_eq_true.mp h8 _ ha
    unfold freeB at this
    rw [Bool.and_eq_true] at this
    obtain ⟨q1, q2⟩ := this
    refine ⟨?_, by simpa using q2⟩
    rw [typeLookup_type, builtinLookup_eq_fast]
    split at q1
    · rename_i e; rw [e]
    · cases q1
  · have := List.all_eq_true.mp h9 _ ha
    rw [Bool.and_eq_true] at this
    obtain ⟨q1, q2⟩ := this
    refine ⟨_, H.heap _ _ (live_get q1), fun q => ?_⟩
    rw [q] at q2
    cases q2
end
end Sm
end
section
set_option maxRecDepth 100000
set_option linter.unusedVariables false
namespace Sm
open PySem PySem.Calls PySem.W
inductive Src | arg (i : Nat) | kw (i : Nat) | const (v : AV) | rest (i : Nat)
structure BRow where
  n : Nat
  kw : List Nat
  out : List (Nat × Src)
def Src.av (args ks : List AV) : Src → AV
  | .arg i => args.getD i .none
  | .kw i => ks.getD i .none
  | .const v => v
  | .rest i => .tup (args.drop i)
def eqN : List Nat → List Nat → Bool
  | [], [] => true
  | a :: x, b :: y => Nat.beq a b && eqN x y
  | _, _ => false
theorem eqN_eq : ∀ {x y : List Nat}, eqN x y = true → x = y
  | [], [], _ => rfl
  | a :: x, b :: y, h => by
    rw [eqN, Bool.and_eq_true] at h
    rw [Nat.eq_of_beq_eq_true h.1, eqN_eq h.2]
  | [], _ :: _, h => by cases h
  | _ :: _, [], h => by cases h
def BRow.loc (r : BRow) (args : List AV) (kws : List (Nat × AV)) : List (Nat × AV) := r.out.map fun p => (p.1, p.2.av args (kws.map (·.2)))
def bdR : List BRow → List AV → List (Nat × AV) → Option (List (Nat × AV))
  | [], _, _ => none
  | r :: rs, args, kws => match Nat.beq args.length r.n && eqN (kws.map (·.1)) r.kw with
    | true => some (r.loc args kws)
    | false => bdR rs args kws
def RowSem (B : Base) (κ₀ : Kw) (fd : FuncData) (sc : Scope) (r : BRow) : Prop := ∀ A κ own σ s args kws vs kvs, Rep B κ own σ s → κ₀.le κ → VRels κ args vs → KRel κ kws kvs → args.length = r.n → kws.map (·.1) = r.kw →
  (∀ p ∈ r.loc args kws, sc.names.lookup (dec p.1) = some .local ∨ sc.names.lookup (dec p.1) = some .cell) ∧
  wpAny (model B.prog B.w) A (bindArgs fd ⟨vs, kvs⟩) (fun bs s' => ∃ κ', KRel κ' (r.loc args kws) bs ∧ Rep B κ' own σ s' ∧ Grow κ own s κ' own s') (fun _ _ => False) s
theorem bindOk {B : Base} {κ₀ : Kw} {fd : FuncData} {sc : Scope} : ∀ {rows : List BRow}, (∀ r ∈ rows, RowSem B κ₀ fd sc r) → BindOk B κ₀ fd sc (bdR rows)
  | [], _ => fun _ _ _ _ _ _ _ _ _ _ _ _ _ _ e => by cases e
  | r :: rs, h => fun A κ own σ s args kws vs kvs loc x L hv hk e => by
    rw [bdR] at e
    split at e
    · rename_i q
      rw [Bool.and_eq_true] at q
      obtain rfl := Option.some.inj e
      exact h r (.head _) A κ own σ s args kws vs kvs x L hv hk (Nat.eq_of_beq_eq_true q.1) (eqN_eq q.2)
    · exact bindOk (fun r hr => h r (.tail _ hr)) A κ own σ s args kws vs kvs loc x L hv hk e
theorem krel_split {κ : Kw} : ∀ {kws : List (Nat × AV)} {kvs : List (Str × Value)}, KRel κ kws kvs → ∃ us : List Value, us.length = (kws.map (·.1)).length ∧ kvs = ((kws.map (·.1)).map dec).zip us ∧ VRels κ (kws.map (·.2)) us
  | _, _, .nil => ⟨[], rfl, rfl, .nil⟩
  | _, _, .cons h t => by
    obtain ⟨us, h1, h2, h3⟩ := krel_split t
    exact ⟨_ :: us, by simp only [List.map_cons, List.length_cons, h1], by simp only [List.map_cons, List.zip_cons_cons, h2], .cons h h3⟩
theorem VRels.getD {κ : Kw} {xs : List AV} {vs : List Value} (h : VRels κ xs vs) (i : Nat) : VRel κ (xs.getD i .none) (vs.getD i .none) := by
  rw [List.getD_eq_getElem?_getD, List.getD_eq_getElem?_getD]
  cases e : xs[i]? with
  | none =>
    rw [List.getElem?_eq_none_iff] at e
    rw [List.getElem?_eq_none (by rw [← h.length]; exact e)]
    exact .none
  | some x =>
    obtain ⟨v, e2, r⟩ := h.get e
    rw [e2]; exact r
inductive OutRel (t : BT) (N : Nat) (vs us : List Value) : List (Nat × Src) → List (Str × Value) → Prop
  | nil : OutRel t N vs us [] []
  | arg {x i r r'} (h : OutRel t N vs us r r') : OutRel t N vs us ((x, .arg i) :: r) ((dec x, vs.getD i .none) :: r')
  | kw {x i r r'} (h : OutRel t N vs us r r') : OutRel t N vs us ((x, .kw i) :: r) ((dec x, us.getD i .none) :: r')
  | const {x av v r r'} (hv : vrelB t N av v = true) (h : OutRel t N vs us r r') : OutRel t N vs us ((x, .const av) :: r) ((dec x, v) :: r')
section
variable {t : BT} {N : Nat} {B : Base} {κ₀ κ κ' : Kw} {own : Own} {σ : List AObj} {s : Shared}
theorem OutRel.krel (H : HasT t N B κ₀) (L : κ₀.le κ) {args : List AV} {kws : List (Nat × AV)} {vs us : List Value} (hv : VRels κ args vs) (hu : VRels κ (kws.map (·.2)) us) :
    ∀ {out : List (Nat × Src)} {bs : List (Str × Value)}, OutRel t N vs us out bs → KRel κ (out.map fun p => (p.1, p.2.av args (kws.map (·.2)))) bs
  | _, _, .nil => .nil
  | _, _, .arg h => .cons (hv.getD _) (OutRel.krel H L hv hu h)
  | _, _, .kw h => .cons (hu.getD _) (OutRel.krel H L hv hu h)
  | _, _, .const hc h => .cons ((vrel_of H _ _ hc).mono L) (OutRel.krel H L hv hu h)
def fragT (t : BT) (as : List Addr) : Frag := as.map fun a => (a, obT t a)
theorem frag_in {as : List Addr} (h : as.all (liveT t N) = true) : (fragT t as).In (hpT t N) := by
  intro a o e
  unfold fragT at e
  induction as with
  | nil => cases e
  | cons b r ih =>
    rw [List.all_cons, Bool.and_eq_true] at h
    rw [List.map_cons, List.lookup_cons] at e
    split at e
    · rename_i q
      obtain rfl := Option.some.inj e
      rw [eq_of_beq q]
      exact live_get h.1
    · exact ih h.2 e
def localsB (sc : Scope) (l : List (Nat × Src)) : Bool := l.all fun p => match sc.names.lookup (dec p.1) with
  | some .local | some .cell => true
  | _ => false
theorem locals_of {sc : Scope} {r : BRow} (h : localsB sc r.out = true) (args : List AV) (kws : List (Nat × AV)) : ∀ p ∈ r.loc args kws, sc.names.lookup (dec p.1) = some .local ∨ sc.names.lookup (dec p.1) = some .cell := fun p hp => by
  unfold BRow.loc at hp
  obtain ⟨q, hq, rfl⟩ := List.mem_map.mp hp
  have := List.all_eq_true.mp h q hq
  split at this
  · rename_i e; exact .inl e
  · rename_i e; exact .inr e
  · cases this
theorem row_plain (H : HasT t N B κ₀) {fd : FuncData} {sc : Scope} {r : BRow} {as : List Addr} (hl : localsB sc r.out = true) (ha : as.all (liveT t N) = true)
    (h : ∀ vs us : List Value, vs.length = r.n → us.length = r.kw.length → ∃ bs, (∀ S, peek (fragT t as) S (bindArgs fd ⟨vs, (r.kw.map dec).zip us⟩) = some bs) ∧ OutRel t N vs us r.out bs) : RowSem B κ₀ fd sc r := by
  intro A κ own σ s args kws vs kvs x L hv hk hn hkw
  refine ⟨locals_of hl _ _, ?_⟩
  obtain ⟨us, h1, h2, h3⟩ := krel_split hk
  rw [hkw] at h1 h2
  obtain ⟨bs, hp, ho⟩ := h vs us (by rw [← hv.length]; exact hn) h1
  rw [h2]
  have K := ((frag_in ha).keeps H.heap).keeps x.stays
  exact (Looks.of_peek (M := model B.prog B.w) K (hp _)).here ⟨κ, ho.krel H L hv h3, x, .refl ..⟩
def peekA {α : Type} (K : Frag) (S : Setting) : Sem α → Option (Obj × (Addr → Option α))
  | .rule _ k => peekA K S (k ())
  | .point _ k => peekA K S (k ())
  | .ask k => peekA K S (k S)
  | .load a _ k => (match K.lookup a with
      | some o => peekA K S (k o)
      | none => none)
  | .alloc o k => some (o, fun D => peek K S (k D))
  | _ => none
theorem wp_of_peekA {α : Type} {K : Frag} {M : Model} {A : Around} {E : Value → Shared → Prop} {Q : α → Shared → Prop} {s : Shared} {o : Obj} {r : α} (X : K.In s.heap) (q : Q r { s with heap := s.heap.push o }) :
    ∀ (t : Sem α) (g : Addr → Option α), peekA K ⟨M.prog, M.w.params⟩ t = some (o, g) → g s.heap.objs.size = some r → wpAny M A t Q E s := by
  intro t
  induction t with
  | rule _ k ih => intro g e hg Γ p hΓ; exact ih () g e hg Γ p hΓ
  | point _ k ih => intro g e hg Γ p hΓ; exact ih () g e hg Γ p hΓ
  | ask k ih => intro g e hg Γ p hΓ; exact ih _ g e hg Γ p hΓ
  | load a _ k ih =>
    intro g e hg Γ p hΓ
    simp only [peekA] at e
    split at e
    · rename_i ob ho; exact ⟨ob, X _ _ ho, ih ob g e hg Γ p hΓ⟩
    · cases e
  | alloc ob k _ =>
    intro g e hg
    have e : some (ob, fun D => peek K ⟨M.prog, M.w.params⟩ (k D)) = some (o, g) := e
    obtain ⟨e1, e2⟩ := Prod.mk.inj (Option.some.inj e)
    subst e1
    subst e2
    have X' : K.In (s.heap.push ob) := X.keeps fun b x hb => Heap.get?_push_of_some _ hb
    show wpAny M A (alloc ob >>= k) Q E s
    refine wpAny_bind (wpAny_alloc ?_)
    exact (Looks.of_peek (M := M) (h := s.heap.push ob) X' hg).here (s := { s with heap := s.heap.push ob }) q
  | _ => intro g e; cases e
theorem Rep.newImm {a : Addr} {v : Imm} {s' : Shared} (x : Rep B κ own σ s) (hk : ∀ b o, s.heap.get? b = some o → s'.heap.get? b = some o) (hg : s'.gens = s.gens) (ho : s'.os = s.os) (ha : s.heap.get? a = none) (hv : IsImm B s'.heap a v) :
    Rep B (κ.addImm a v) own σ s' ∧ Grow κ own s (κ.addImm a v) own s' ∧ (κ.addImm a v).imm a = some v := by
  have L : κ.le (κ.addImm a v) := ⟨fun _ _ h => h, fun b w h => by
    show (if b = a then some v else κ.imm b) = some w
    rw [if_neg]
    · exact h
    · rintro rfl
      obtain ⟨o, e, _⟩ := (x.imm b w h).2.live
      rw [ha] at e; cases e⟩
  have no : own a = none := by
    cases q : own a with
    | none => rfl
    | some t => obtain ⟨o, e⟩ := x.live a t q; rw [ha] at e; cases e
  refine ⟨⟨fun b o h => hk _ _ (x.stays b o h), x.apart, fun b t h => let ⟨o, e⟩ := x.live b t h; ⟨o, hk _ _ e⟩, x.dom, fun i o h => let ⟨a, h1, h2⟩ := x.objs i o h; ⟨a, h1, h2.step L (fun _ _ h => h) (x.dom i a h1) fun b ob _ => hk b ob⟩,
    x.bound, fun b vs h => ?_, hg.trans x.gens, ho.trans x.os⟩,
    ⟨L, ⟨fun b o _ _ => hk b o, fun b o _ _ h => ⟨o.slots, hk b o h⟩⟩, fun a t h => .inl (by rw [h]; simp), fun b vs h => ?_, fun _ _ h => h⟩, if_pos rfl⟩
  · have h' : (if b = a then some v else κ.imm b) = some vs := h
    split at h'
    · rename_i e; subst e
      obtain rfl := Option.some.inj h'
      exact ⟨no, hv⟩
    · exact ⟨(x.imm b vs h').1, (x.imm b vs h').2.step fun ob => hk b ob⟩
  · have h' : (if b = a then some v else κ.imm b) = some vs := h
    split at h'
    · rename_i e; subst e; exact .inr ⟨no, ha⟩
    · exact .inl h'
theorem KRel.append : ∀ {κ : Kw} {a b : List (Nat × AV)} {c d : List (Str × Value)}, KRel κ a c → KRel κ b d → KRel κ (a ++ b) (c ++ d)
  | _, _, _, _, _, .nil, y => y
  | _, _, _, _, _, .cons h t, y => .cons h (KRel.append t y)
theorem VRels.drop' {κ : Kw} : ∀ (n : Nat) {xs vs}, VRels κ xs vs → VRels κ (xs.drop n) (vs.drop n)
  | 0, _, _, h => h
  | n + 1, _, _, .nil => .nil
  | n + 1, _, _, .cons _ hs => VRels.drop' n hs
theorem row_rest (H : HasT t N B κ₀) {fd : FuncData} {sc : Scope} {r : BRow} {as : List Addr} {out : List (Nat × Src)} {x i : Nat} (hr : r.out = out ++ [(x, .rest i)]) (hl : localsB sc r.out = true) (ha : as.all (liveT t N) = true)
    (h : ∀ vs us : List Value, vs.length = r.n → us.length = r.kw.length → ∃ bs, (∀ S D, (peekA (fragT t as) S (bindArgs fd ⟨vs, (r.kw.map dec).zip us⟩)).map (fun p => (p.1, p.2 D)) = some ({ cls := .type "tuple", data := .seq (vs.drop i).toArray }, some (bs ++ [(dec x, .ref D)]))) ∧ OutRel t N vs us out bs) : RowSem B κ₀ fd sc r := by
  intro A κ own σ s args kws vs kvs y L hv hk hn hkw
  refine ⟨locals_of hl _ _, ?_⟩
  obtain ⟨us, h1, h2, h3⟩ := krel_split hk
  rw [hkw] at h1 h2
  obtain ⟨bs, hp, ho⟩ := h vs us (by rw [← hv.length]; exact hn) h1
  rw [h2]
  have K := ((frag_in ha).keeps H.heap).keeps y.stays
  obtain ⟨y', g', hi⟩ := y.newImm (a := s.heap.objs.size) (v := .tup (vs.drop i)) (s' := { s with heap := s.heap.push { cls := .type "tuple", data := .seq (vs.drop i).toArray } }) (fun b o e => Heap.get?_push_of_some _ e) rfl rfl (size_dead _)
    ⟨_, _, Heap.get?_push_size _ rfl, rfl, rfl, rfl⟩
  have hp := hp ⟨B.prog, B.w.params⟩ s.heap.objs.size
  obtain ⟨⟨o', g⟩, e1, e2⟩ := Option.map_eq_some_iff.mp hp
  obtain ⟨rfl, e3⟩ := Prod.mk.inj e2
  refine wp_of_peekA K ?_ _ g e1 e3
  refine ⟨_, ?_, y', g'⟩
  unfold BRow.loc
  rw [hr, List.map_append]
  exact KRel.append (ho.krel H (L.trans g'.le) (hv.mono g'.le) (h3.mono g'.le)) (.cons (.tup hi ((hv.drop' i).mono g'.le)) .nil)
end
end Sm
end
section
set_option maxRecDepth 100000
set_option linter.unusedVariables false
set_option maxHeartbeats 1000000
namespace Sm
open PySem
def rows_94 : List BRow := [⟨4, [], [(1718379891, .arg 0), (126879296481648, .arg 1), (499984984428, .arg 2), (1919247728, .arg 3)]⟩]
def rows_101 : List BRow := [⟨2, [], [(1718379891, .arg 0), (1701667182, .arg 1)]⟩]
def rows_108 : List BRow := [⟨1, [], [(1718379891, .arg 0)]⟩]
def rows_116 : List BRow := [⟨2, [], [(1718379891, .arg 0), (2110959975582286243187, .arg 1)]⟩, ⟨1, [], [(1718379891, .arg 0), (2110959975582286243187, .const (.bytes #[10]))]⟩]
def rows_123 : List BRow := [⟨1, [], [(1718379891, .arg 0)]⟩]
def rows_130 : List BRow := [⟨2, [], [(1718379891, .arg 0), (110, .arg 1)]⟩]
def rows_144 : List BRow := [⟨2, [], [(1718379891, .arg 0), (126943755527023, .arg 1)]⟩]
def rows_151 : List BRow := [⟨1, [], [(1718379891, .arg 0)]⟩]
def rows_158 : List BRow := [⟨1, [], [(1718379891, .arg 0)]⟩]
def rows_165 : List BRow := [⟨1, [], [(1718379891, .arg 0)]⟩]
def rows_186 : List BRow := [⟨3, [], [(1718379891, .arg 0), (495723704168, .arg 1), (126918051983212, .arg 2)]⟩]
def rows_256 : List BRow := [⟨1, [], [(126943755527023, .arg 0)]⟩]
def rows_264 : List BRow := [⟨1, [7310575179022492022], [(1954047348, .arg 0), (7310575179022492022, .kw 0)]⟩]
def rows_366 : List BRow := [⟨2, [], [(1718379891, .arg 0), (1886351212, .arg 1)]⟩]
def rows_387 : List BRow := [⟨1, [], [(1718379891, .arg 0)]⟩]
def rows_414 : List BRow := [⟨2, [7308604897320202088, 500068344937], [(1718379891, .arg 0), (32199663560843624, .arg 1), (604444757095078001634194158471373156, .const (.int 33554432)), (292195074319195167906729805251440229, .const (.bool false)), (117815395581418067238020452, .const (.bool false)), (7308604897320202088, .kw 0), (500068344937, .kw 1), (140803950564158414787931252, .const (.none)), (153424349561367068863149008691576006002, .const (.bool false)), (32780218601924980, .const (.int 300)), (7954212552976746499811312956769, .const (.bool false)), (153424347893572850767013095260537779553, .const (.bool true)), (40950416281972890428420063022195407276456761728726369, .const (.none)), (10140900249851658319697261578492821386391395, .const (.none)), (1886351212, .const (.none))]⟩]
def rows_421 : List BRow := [⟨1, [], [(1718379891, .arg 0)]⟩]
def rows_428 : List BRow := [⟨1, [], [(1718379891, .arg 0)]⟩]
def rows_435 : List BRow := [⟨2, [], [(1718379891, .arg 0), (28268862397837155, .arg 1), (1936159329, .rest 2)]⟩]
def rows_442 : List BRow := [⟨1, [], [(1718379891, .arg 0)]⟩]
def rows_449 : List BRow := [⟨3, [], [(1718379891, .arg 0), (28268862397837155, .arg 1), (6779489, .arg 2)]⟩]
def rows_464 : List BRow := [⟨2, [], [(1718379891, .arg 0), (2148068245634122084980, .arg 1)]⟩]
def rows_471 : List BRow := [⟨3, [], [(1718379891, .arg 0), (125779801367922, .arg 1), (125780070330999, .arg 2)]⟩]
def rows_478 : List BRow := [⟨1, [], [(1718379891, .arg 0)]⟩]
def rows_485 : List BRow := [⟨1, [], [(1718379891, .arg 0)]⟩]
def rows_492 : List BRow := [⟨2, [], [(1718379891, .arg 0), (126948300911731, .arg 1)]⟩]
def rows_506 : List BRow := [⟨1, [], [(1718379891, .arg 0)]⟩]
def rows_549 : List BRow := [⟨2, [], [(1718379891, .arg 0), (6779489, .arg 1)]⟩]
def rows_571 : List BRow := [⟨3, [], [(1718379891, .arg 0), (1870574157394358659171, .arg 1), (4136695566683210419545827405413, .arg 2), (2262430757122291963717535638160023062141431660, .const (.bool false))]⟩]
def rows_688 : List BRow := [⟨1, [], [(126943755527023, .arg 0)]⟩]
def rows_695 : List BRow := [⟨1, [], [(495606460279, .arg 0)]⟩]
def rows_700 : List BRow := [⟨1, [], [(125779768604014, .arg 0)]⟩]
def rows_705 : List BRow := [⟨1, [], [(128026154263411, .arg 0)]⟩]
def tab7 : List (Nat × Sxs × List BRow) := [(94, b_Connection_init, rows_94), (101, b_Connection_get_extra_info, rows_101), (108, b_Connection_more, rows_108), (116, b_Connection_readuntil, rows_116), (123, b_Connection_readline, rows_123), (130, b_Connection_read, rows_130), (144, b_Connection_write, rows_144), (151, b_Connection_drain, rows_151), (158, b_Connection_cancel, rows_158), (165, b_Connection_close, rows_165), (186, b_Handler_init, rows_186), (256, b_b64encode, rows_256), (264, b_b64decode, rows_264), (366, b_Session_init, rows_366), (387, b_Envelope_init, rows_387), (414, b_SMTP_init, rows_414), (421, b_SMTP_create_session, rows_421), (428, b_SMTP_create_envelope, rows_428), (435, b_SMTP_call_handler_hook, rows_435), (442, b_SMTP_commands, rows_442), (449, b_SMTP_call, rows_449), (464, b_SMTP_connection_made, rows_464), (471, b_SMTP_cb_client_connected, rows_471), (478, b_SMTP_set_post_data_state, rows_478), (485, b_SMTP_set_rset_state, rows_485), (492, b_SMTP_push, rows_492), (506, b_SMTP_handle_client, rows_506), (549, b_SMTP_smtp_QUIT, rows_549), (571, b_SMTP_challenge_auth, rows_571), (688, b_law_sixty, rows_688), (695, b_law_read, rows_695), (700, b_law_answer, rows_700), (705, b_law, rows_705)]
def L7 : Nat → Bool → Addr → Sp
  | 0 => fun _ _ _ _ _ _ _ => False
  | n + 1 => fun hd f => match tab7.lookup f with
    | some (b, rows) => bodyS G7 blts (L7 n) hd (bdR rows) b
    | none => fun _ _ _ _ _ => False
section
variable (n : Nat)
theorem l_write : SpWrite (L7 (n + 1)) := fun hd i c o σ Q X h1 h2 h3 hq => c_write (O := L7 n) (hd := hd) h1 h2 h3 hq
theorem l_drain : SpDrain (L7 (n + 1)) := fun hd i σ Q X hq => c_drain (O := L7 n) (hd := hd) (X := X) hq
theorem l_close : SpClose 165 (L7 (n + 1)) := fun hd i c σ Q X h1 hq => c_close (O := L7 n) (hd := hd) (X := X) h1 hq
theorem l_cancel : SpClose 158 (L7 (n + 1)) := fun hd i c σ Q X h1 hq => c_cancel (O := L7 n) (hd := hd) (X := X) h1 hq
theorem l_more : SpMore (L7 (n + 1)) := fun hd i c ps x σ Q X h1 h2 h3 h4 h5 h6 h7 hq => by
  cases hd
  · exact c_more (O := L7 n) (hd := false) (X := X) h1 h2 h3 h4 h5 h6 h7 hq
  · exact c_more (O := L7 n) (hd := true) (X := X) h1 h2 h3 h4 h5 h6 h7 hq
theorem l_read : SpRead (L7 (n + 1)) := fun hd i c m σ Q X h1 h2 hq => c_read (O := L7 n) (hd := hd) (X := X) h1 h2 hq
theorem l_info : SpInfo (L7 (n + 1)) := fun i c x σ Q X h1 hq => c_get_extra_info (O := L7 n) (hd := false) (X := X) h1 hq
theorem l_conn : SpConnInit (L7 (n + 1)) := fun i p peer σ Q X h1 hq => c_conn_init (O := L7 n) (X := X) h1 hq
theorem l_hand : SpHandInit (L7 (n + 1)) := fun i v w σ Q X h1 hq => c_handler_init (O := L7 n) (X := X) h1 hq
theorem l_ses : SpSesInit (L7 (n + 1)) := fun i σ Q X h1 hq => c_session_init (O := L7 n) (X := X) h1 hq
theorem l_env : SpEnvInit (L7 (n + 1)) := fun i σ Q X h1 hq => c_envelope_init (O := L7 n) (X := X) h1 hq
theorem l_commands : SpCommands (L7 (n + 1)) := fun j σ Q X hq => c_commands (O := L7 n) (j := j) (X := X) hq
theorem l_hook : SpHook (L7 (n + 1)) := fun i j e k s x σ Q X h1 h2 hq => c_hook (O := L7 n) (X := X) h1 h2 hq
theorem l_cb : SpCb (L7 (n + 1)) := fun j i s σ Q X h1 h2 hq => c_cb (O := L7 n) (X := X) h1 h2 hq
theorem l_sixty : SpSixty (L7 (n + 1)) := fun b σ Q X h1 hq => c_sixty (O := L7 n) (X := X) h1 hq
theorem l_readl : SpReadL (L7 (n + 1)) := fun w σ Q X h1 h2 h3 => c_law_read (O := L7 n) (X := X) h1 h2 h3
theorem l_enc : SpEnc (L7 (n + 1)) := fun b σ Q X h1 hq => c_b64encode (O := L7 n) (X := X) (Nat.le_trans h1 (by decide)) hq
theorem l_dec : SpDec (L7 (n + 1)) := fun w σ Q X h1 h2 h3 => c_b64decode (O := L7 n) (X := X) h1 h2 h3
theorem l_untilx : SpUntilX (L7 (n + 1)) := fun i c σ Q X h1 h2 hq => c_readuntil_x (O := L7 n) (Q := Q) h1 h2 hq
theorem l_until : SpUntil (L7 (n + 2)) := fun i m c ps args σ Q X ha h1 h2 h3 h4 h5 h6 h7 h8 hq => by
  have hne : c.pieces ≠ i := inst_ne h3 h1 (fun e => by cases e)
  rcases ha with rfl | rfl
  · exact c_readuntil (O := L7 (n + 1)) (X := X) (l_more n) (l_read n) h1 h2 h3 hne h4 h5 h6 h7 h8 hq
  · exact c_readuntil (O := L7 (n + 1)) (X := X) (l_more n) (l_read n) h1 h2 h3 hne h4 h5 h6 h7 h8 hq
theorem l_pushs : SpPushS (L7 (n + 2)) := fun hd i j e k c s x σ Q X h1 h2 h3 h4 h5 h6 hq => c_push_str (O := L7 (n + 1)) (hd := hd) (X := X) (l_write n) (l_drain n) h1 h2 h3 h4 h5 h6 hq
theorem l_pushb : SpPushB (L7 (n + 2)) := fun hd i j e k c s o σ Q X h1 h2 h3 h5 h6 hq => c_push_bytes (O := L7 (n + 1)) (hd := hd) (X := X) (l_write n) (l_drain n) h1 h2 h3 h5 h6 hq
theorem l_newenv : SpEnv (L7 (n + 2)) := fun j σ Q X hq => c_create_envelope (O := L7 (n + 1)) (j := j) (X := X) (l_env n) hq
theorem l_newses : SpSes (L7 (n + 2)) := fun j s σ Q X h1 h2 hq => c_create_session (O := L7 (n + 1)) (X := X) (l_ses n) h1 h2 hq
theorem l_answer : SpAnswer (L7 (n + 2)) := fun i σ Q X hq => c_law_answer (O := L7 (n + 1)) (X := X) (l_sixty n) hq
theorem l_smtp : SpSmtpInit (L7 (n + 2)) := fun j h hk lg kp σ Q X h1 h2 h3 hq => c_smtp_init (O := L7 (n + 1)) (X := X) (l_commands n) h1 h2 h3 hq
theorem l_line : SpLine (L7 (n + 3)) := fun i m c ps σ Q X h1 h2 h3 h4 h5 h6 h7 h8 hq => c_readline (O := L7 (n + 2)) (X := X) (l_until n) h1 h2 h3 h4 h5 h6 h7 h8 hq
theorem l_post : SpPost 478 (L7 (n + 3)) := fun j s σ Q X h1 h2 hq => c_set_post (O := L7 (n + 2)) (X := X) (l_newenv n) h1 h2 hq
theorem l_quit : SpQuit (L7 (n + 3)) := fun i j e k c s σ Q X h1 h2 h3 h4 h5 hq => c_quit (O := L7 (n + 2)) (X := X) (l_hook (n + 1)) (l_pushs n) (l_cancel (n + 1)) (l_close (n + 1)) h1 h2 h3 h4 h5 hq
theorem l_rset : SpPost 485 (L7 (n + 4)) := fun j s σ Q X h1 h2 hq => c_set_rset (O := L7 (n + 3)) (X := X) (l_post n) h1 h2 hq
theorem l_call : SpCall (L7 (n + 4)) := fun i j e k c s σ Q X h1 h2 h3 h4 h5 hq => c_call (O := L7 (n + 3)) (X := X) (l_quit n) h1 h2 h3 h4 h5 hq
theorem l_chal : SpChal (L7 (n + 4)) := fun i j e k m c s ps v o coded σ Q X h0 h1 h2 h3 h4 h5 h6 h7 h8 h9 h10 hq => c_challenge (O := L7 (n + 3)) (X := X) (w := false) (l_pushb (n + 1)) (l_pushs (n + 1)) (l_line n) (l_enc (n + 2)) (l_dec (n + 2)) h0 h1 h2 h3 h4 h5 h6 h7 h8 h9 h10 hq
theorem l_made : SpMade (L7 (n + 5)) := fun j i s c σ Q X h1 h2 h3 h4 h5 hq => c_connection_made (O := L7 (n + 4)) (X := X) (l_rset n) (l_newses (n + 2)) (l_info (n + 3)) (l_cb (n + 3)) h1 h2 h3 h4 h5 hq
theorem l_handle : SpHandle (L7 (n + 5)) := fun i j e k c s ps peer σ Q X h1 h2 h3 h4 h5 h6 h7 h8 h9 h10 hq => c_handle (O := L7 (n + 4)) (Q := Q) (l_until (n + 2)) (l_untilx (n + 3)) (l_pushs (n + 2)) (l_call n) (l_close (n + 3)) h1 h2 h3 h4 h5 h6 h7 h8 h9 h10 hq
theorem l_law {ns : List Int} {Q : AV → List AObj → Prop} {X : Nat → List AObj → Prop} (hns : ns.length ≤ 100) (hq : ∀ σ', Q (.bool true) σ') : L7 (n + 6) false 705 [.fls (ns.map .int)] [] [] Q X :=
  c_law (O := L7 (n + 5)) (X := X) (l_answer (n + 3)) (l_sixty (n + 4)) (l_readl (n + 4)) (l_conn (n + 4)) (l_hand (n + 4)) (l_smtp (n + 3)) (l_made n) (l_chal (n + 1)) (l_handle n) hns hq
end
end Sm
end
section
set_option maxRecDepth 100000
set_option linter.unusedVariables false
namespace Sm
open PySem PySem.Calls PySem.W
def seqT (t : BT) (a : Addr) (k : Nat) : Value := match (obT t a).data with
  | .seq vs _ => vs.getD k .none
  | _ => .none
def dA (t : BT) (f : Addr) : Addr := match (fdT t f).defaults with
  | .ref a => a
  | _ => 0
def kA (t : BT) (f : Addr) : Addr := match (fdT t f).kwdefaults with
  | .ref a => a
  | _ => 0
def kwT (t : BT) (f : Addr) (x : Nat) : Value := (nsFind (esT t (kA t f)) (dec x)).getD .none
noncomputable abbrev T7 (w : World) (D : Obj) : BT := Hd.at_ (Hd.sh.tree_970 w.params) D
section
variable (w : World) (D : Obj)
theorem cs_94 : cSs 60 (fdT (T7 w D) 94).scope (stT' (fdT (T7 w D) 94)) = b_Connection_init := by kernel_rfl
theorem pk_94_0 : ∀ vs us : List Value, vs.length = 4 → us.length = 0 → ∃ bs, (∀ S, peek (fragT (T7 w D) []) S (bindArgs (fdT (T7 w D) 94) ⟨vs, (([] : List Nat).map dec).zip us⟩) = some bs) ∧ OutRel (T7 w D) 706 vs us [(1718379891, .arg 0), (126879296481648, .arg 1), (499984984428, .arg 2), (1919247728, .arg 3)] bs := by
  intro vs us h1 h2
  match vs, h1, us, h2 with
  | [v0, v1, v2, v3], _, [], _ => exact ⟨[(dec 1718379891, v0), (dec 126879296481648, v1), (dec 499984984428, v2), (dec 1919247728, v3)], fun S => by kernel_rfl, (.arg (.arg (.arg (.arg .nil))))⟩
theorem sem_94_0 {B : Base} {κ₀ : Kw} (H : HasT (T7 w D) 706 B κ₀) : RowSem B κ₀ (fdT (T7 w D) 94) (fdT (T7 w D) 94).scope ⟨4, [], [(1718379891, .arg 0), (126879296481648, .arg 1), (499984984428, .arg 2), (1919247728, .arg 3)]⟩ := row_plain H (as := []) (by kernel_rfl) (by kernel_rfl) (pk_94_0 w D)
theorem bind_94 {B : Base} {κ₀ : Kw} (H : HasT (T7 w D) 706 B κ₀) : BindOk B κ₀ (fdT (T7 w D) 94) (fdT (T7 w D) 94).scope (bdR rows_94) := bindOk fun r hr => by
  rcases List.mem_cons.mp hr with rfl | hr
  · exact sem_94_0 w D H
  cases hr
theorem cs_101 : cSs 60 (fdT (T7 w D) 101).scope (stT' (fdT (T7 w D) 101)) = b_Connection_get_extra_info := by kernel_rfl
theorem pk_101_0 : ∀ vs us : List Value, vs.length = 2 → us.length = 0 → ∃ bs, (∀ S, peek (fragT (T7 w D) []) S (bindArgs (fdT (T7 w D) 101) ⟨vs, (([] : List Nat).map dec).zip us⟩) = some bs) ∧ OutRel (T7 w D) 706 vs us [(1718379891, .arg 0), (1701667182, .arg 1)] bs := by
  intro vs us h1 h2
  match vs, h1, us, h2 with
  | [v0, v1], _, [], _ => exact ⟨[(dec 1718379891, v0), (dec 1701667182, v1)], fun S => by kernel_rfl, (.arg (.arg .nil))⟩
theorem sem_101_0 {B : Base} {κ₀ : Kw} (H : HasT (T7 w D) 706 B κ₀) : RowSem B κ₀ (fdT (T7 w D) 101) (fdT (T7 w D) 101).scope ⟨2, [], [(1718379891, .arg 0), (1701667182, .arg 1)]⟩ := row_plain H (as := []) (by kernel_rfl) (by kernel_rfl) (pk_101_0 w D)
theorem bind_101 {B : Base} {κ₀ : Kw} (H : HasT (T7 w D) 706 B κ₀) : BindOk B κ₀ (fdT (T7 w D) 101) (fdT (T7 w D) 101).scope (bdR rows_101) := bindOk fun r hr => by
  rcases List.mem_cons.mp hr with rfl | hr
  · exact sem_101_0 w D H
  cases hr
theorem cs_108 : cSs 60 (fdT (T7 w D) 108).scope (stT' (fdT (T7 w D) 108)) = b_Connection_more := by kernel_rfl
theorem pk_108_0 : ∀ vs us : List Value, vs.length = 1 → us.length = 0 → ∃ bs, (∀ S, peek (fragT (T7 w D) []) S (bindArgs (fdT (T7 w D) 108) ⟨vs, (([] : List Nat).map dec).zip us⟩) = some bs) ∧ OutRel (T7 w D) 706 vs us [(1718379891, .arg 0)] bs := by
  intro vs us h1 h2
  match vs, h1, us, h2 with
  | [v0], _, [], _ => exact ⟨[(dec 1718379891, v0)], fun S => by kernel_rfl, (.arg .nil)⟩
theorem sem_108_0 {B : Base} {κ₀ : Kw} (H : HasT (T7 w D) 706 B κ₀) : RowSem B κ₀ (fdT (T7 w D) 108) (fdT (T7 w D) 108).scope ⟨1, [], [(1718379891, .arg 0)]⟩ := row_plain H (as := []) (by kernel_rfl) (by kernel_rfl) (pk_108_0 w D)
theorem bind_108 {B : Base} {κ₀ : Kw} (H : HasT (T7 w D) 706 B κ₀) : BindOk B κ₀ (fdT (T7 w D) 108) (fdT (T7 w D) 108).scope (bdR rows_108) := bindOk fun r hr => by
  rcases List.mem_cons.mp hr with rfl | hr
  · exact sem_108_0 w D H
  cases hr
theorem cs_116 : cSs 60 (fdT (T7 w D) 116).scope (stT' (fdT (T7 w D) 116)) = b_Connection_readuntil := by kernel_rfl
theorem pk_116_0 : ∀ vs us : List Value, vs.length = 2 → us.length = 0 → ∃ bs, (∀ S, peek (fragT (T7 w D) [dA (T7 w D) 116]) S (bindArgs (fdT (T7 w D) 116) ⟨vs, (([] : List Nat).map dec).zip us⟩) = some bs) ∧ OutRel (T7 w D) 706 vs us [(1718379891, .arg 0), (2110959975582286243187, .arg 1)] bs := by
  intro vs us h1 h2
  match vs, h1, us, h2 with
  | [v0, v1], _, [], _ => exact ⟨[(dec 1718379891, v0), (dec 2110959975582286243187, v1)], fun S => by kernel_rfl, (.arg (.arg .nil))⟩
theorem sem_116_0 {B : Base} {κ₀ : Kw} (H : HasT (T7 w D) 706 B κ₀) : RowSem B κ₀ (fdT (T7 w D) 116) (fdT (T7 w D) 116).scope ⟨2, [], [(1718379891, .arg 0), (2110959975582286243187, .arg 1)]⟩ := row_plain H (as := [dA (T7 w D) 116]) (by kernel_rfl) (by kernel_rfl) (pk_116_0 w D)
theorem pk_116_1 : ∀ vs us : List Value, vs.length = 1 → us.length = 0 → ∃ bs, (∀ S, peek (fragT (T7 w D) [dA (T7 w D) 116]) S (bindArgs (fdT (T7 w D) 116) ⟨vs, (([] : List Nat).map dec).zip us⟩) = some bs) ∧ OutRel (T7 w D) 706 vs us [(1718379891, .arg 0), (2110959975582286243187, .const (.bytes #[10]))] bs := by
  intro vs us h1 h2
  match vs, h1, us, h2 with
  | [v0], _, [], _ => exact ⟨[(dec 1718379891, v0), (dec 2110959975582286243187, seqT (T7 w D) (dA (T7 w D) 116) 0)], fun S => by kernel_rfl, (.arg (.const (by kernel_rfl) .nil))⟩
theorem sem_116_1 {B : Base} {κ₀ : Kw} (H : HasT (T7 w D) 706 B κ₀) : RowSem B κ₀ (fdT (T7 w D) 116) (fdT (T7 w D) 116).scope ⟨1, [], [(1718379891, .arg 0), (2110959975582286243187, .const (.bytes #[10]))]⟩ := row_plain H (as := [dA (T7 w D) 116]) (by kernel_rfl) (by kernel_rfl) (pk_116_1 w D)
theorem bind_116 {B : Base} {κ₀ : Kw} (H : HasT (T7 w D) 706 B κ₀) : BindOk B κ₀ (fdT (T7 w D) 116) (fdT (T7 w D) 116).scope (bdR rows_116) := bindOk fun r hr => by
  rcases List.mem_cons.mp hr with rfl | hr
  · exact sem_116_0 w D H
  rcases List.mem_cons.mp hr with rfl | hr
  · exact sem_116_1 w D H
  cases hr
theorem cs_123 : cSs 60 (fdT (T7 w D) 123).scope (stT' (fdT (T7 w D) 123)) = b_Connection_readline := by kernel_rfl
theorem pk_123_0 : ∀ vs us : List Value, vs.length = 1 → us.length = 0 → ∃ bs, (∀ S, peek (fragT (T7 w D) []) S (bindArgs (fdT (T7 w D) 123) ⟨vs, (([] : List Nat).map dec).zip us⟩) = some bs) ∧ OutRel (T7 w D) 706 vs us [(1718379891, .arg 0)] bs := by
  intro vs us h1 h2
  match vs, h1, us, h2 with
  | [v0], _, [], _ => exact ⟨[(dec 1718379891, v0)], fun S => by kernel_rfl, (.arg .nil)⟩
theorem sem_123_0 {B : Base} {κ₀ : Kw} (H : HasT (T7 w D) 706 B κ₀) : RowSem B κ₀ (fdT (T7 w D) 123) (fdT (T7 w D) 123).scope ⟨1, [], [(1718379891, .arg 0)]⟩ := row_plain H (as := []) (by kernel_rfl) (by kernel_rfl) (pk_123_0 w D)
theorem bind_123 {B : Base} {κ₀ : Kw} (H : HasT (T7 w D) 706 B κ₀) : BindOk B κ₀ (fdT (T7 w D) 123) (fdT (T7 w D) 123).scope (bdR rows_123) := bindOk fun r hr => by
  rcases List.mem_cons.mp hr with rfl | hr
  · exact sem_123_0 w D H
  cases hr
theorem cs_130 : cSs 60 (fdT (T7 w D) 130).scope (stT' (fdT (T7 w D) 130)) = b_Connection_read := by kernel_rfl
theorem pk_130_0 : ∀ vs us : List Value, vs.length = 2 → us.length = 0 → ∃ bs, (∀ S, peek (fragT (T7 w D) []) S (bindArgs (fdT (T7 w D) 130) ⟨vs, (([] : List Nat).map dec).zip us⟩) = some bs) ∧ OutRel (T7 w D) 706 vs us [(1718379891, .arg 0), (110, .arg 1)] bs := by
  intro vs us h1 h2
  match vs, h1, us, h2 with
  | [v0, v1], _, [], _ => exact ⟨[(dec 1718379891, v0), (dec 110, v1)], fun S => by kernel_rfl, (.arg (.arg .nil))⟩
theorem sem_130_0 {B : Base} {κ₀ : Kw} (H : HasT (T7 w D) 706 B κ₀) : RowSem B κ₀ (fdT (T7 w D) 130) (fdT (T7 w D) 130).scope ⟨2, [], [(1718379891, .arg 0), (110, .arg 1)]⟩ := row_plain H (as := []) (by kernel_rfl) (by kernel_rfl) (pk_130_0 w D)
theorem bind_130 {B : Base} {κ₀ : Kw} (H : HasT (T7 w D) 706 B κ₀) : BindOk B κ₀ (fdT (T7 w D) 130) (fdT (T7 w D) 130).scope (bdR rows_130) := bindOk fun r hr => by
  rcases List.mem_cons.mp hr with rfl | hr
  · exact sem_130_0 w D H
  cases hr
theorem cs_144 : cSs 60 (fdT (T7 w D) 144).scope (stT' (fdT (T7 w D) 144)) = b_Connection_write := by kernel_rfl
theorem pk_144_0 : ∀ vs us : List Value, vs.length = 2 → us.length = 0 → ∃ bs, (∀ S, peek (fragT (T7 w D) []) S (bindArgs (fdT (T7 w D) 144) ⟨vs, (([] : List Nat).map dec).zip us⟩) = some bs) ∧ OutRel (T7 w D) 706 vs us [(1718379891, .arg 0), (126943755527023, .arg 1)] bs := by
  intro vs us h1 h2
  match vs, h1, us, h2 with
  | [v0, v1], _, [], _ => exact ⟨[(dec 1718379891, v0), (dec 126943755527023, v1)], fun S => by kernel_rfl, (.arg (.arg .nil))⟩
theorem sem_144_0 {B : Base} {κ₀ : Kw} (H : HasT (T7 w D) 706 B κ₀) : RowSem B κ₀ (fdT (T7 w D) 144) (fdT (T7 w D) 144).scope ⟨2, [], [(1718379891, .arg 0), (126943755527023, .arg 1)]⟩ := row_plain H (as := []) (by kernel_rfl) (by kernel_rfl) (pk_144_0 w D)
theorem bind_144 {B : Base} {κ₀ : Kw} (H : HasT (T7 w D) 706 B κ₀) : BindOk B κ₀ (fdT (T7 w D) 144) (fdT (T7 w D) 144).scope (bdR rows_144) := bindOk fun r hr => by
  rcases List.mem_cons.mp hr with rfl | hr
  · exact sem_144_0 w D H
  cases hr
theorem cs_151 : cSs 60 (fdT (T7 w D) 151).scope (stT' (fdT (T7 w D) 151)) = b_Connection_drain := by kernel_rfl
theorem pk_151_0 : ∀ vs us : List Value, vs.length = 1 → us.length = 0 → ∃ bs, (∀ S, peek (fragT (T7 w D) []) S (bindArgs (fdT (T7 w D) 151) ⟨vs, (([] : List Nat).map dec).zip us⟩) = some bs) ∧ OutRel (T7 w D) 706 vs us [(1718379891, .arg 0)] bs := by
  intro vs us h1 h2
  match vs, h1, us, h2 with
  | [v0], _, [], _ => exact ⟨[(dec 1718379891, v0)], fun S => by kernel_rfl, (.arg .nil)⟩
theorem sem_151_0 {B : Base} {κ₀ : Kw} (H : HasT (T7 w D) 706 B κ₀) : RowSem B κ₀ (fdT (T7 w D) 151) (fdT (T7 w D) 151).scope ⟨1, [], [(1718379891, .arg 0)]⟩ := row_plain H (as := []) (by kernel_rfl) (by kernel_rfl) (pk_151_0 w D)
theorem bind_151 {B : Base} {κ₀ : Kw} (H : HasT (T7 w D) 706 B κ₀) : BindOk B κ₀ (fdT (T7 w D) 151) (fdT (T7 w D) 151).scope (bdR rows_151) := bindOk fun r hr => by
  rcases List.mem_cons.mp hr with rfl | hr
  · exact sem_151_0 w D H
  cases hr
theorem cs_158 : cSs 60 (fdT (T7 w D) 158).scope (stT' (fdT (T7 w D) 158)) = b_Connection_cancel := by kernel_rfl
theorem pk_158_0 : ∀ vs us : List Value, vs.length = 1 → us.length = 0 → ∃ bs, (∀ S, peek (fragT (T7 w D) []) S (bindArgs (fdT (T7 w D) 158) ⟨vs, (([] : List Nat).map dec).zip us⟩) = some bs) ∧ OutRel (T7 w D) 706 vs us [(1718379891, .arg 0)] bs := by
  intro vs us h1 h2
  match vs, h1, us, h2 with
  | [v0], _, [], _ => exact ⟨[(dec 1718379891, v0)], fun S => by kernel_rfl, (.arg .nil)⟩
theorem sem_158_0 {B : Base} {κ₀ : Kw} (H : HasT (T7 w D) 706 B κ₀) : RowSem B κ₀ (fdT (T7 w D) 158) (fdT (T7 w D) 158).scope ⟨1, [], [(1718379891, .arg 0)]⟩ := row_plain H (as := []) (by kernel_rfl) (by kernel_rfl) (pk_158_0 w D)
theorem bind_158 {B : Base} {κ₀ : Kw} (H : HasT (T7 w D) 706 B κ₀) : BindOk B κ₀ (fdT (T7 w D) 158) (fdT (T7 w D) 158).scope (bdR rows_158) := bindOk fun r hr => by
  rcases List.mem_cons.mp hr with rfl | hr
  · exact sem_158_0 w D H
  cases hr
theorem cs_165 : cSs 60 (fdT (T7 w D) 165).scope (stT' (fdT (T7 w D) 165)) = b_Connection_close := by kernel_rfl
theorem pk_165_0 : ∀ vs us : List Value, vs.length = 1 → us.length = 0 → ∃ bs, (∀ S, peek (fragT (T7 w D) []) S (bindArgs (fdT (T7 w D) 165) ⟨vs, (([] : List Nat).map dec).zip us⟩) = some bs) ∧ OutRel (T7 w D) 706 vs us [(1718379891, .arg 0)] bs := by
  intro vs us h1 h2
  match vs, h1, us, h2 with
  | [v0], _, [], _ => exact ⟨[(dec 1718379891, v0)], fun S => by kernel_rfl, (.arg .nil)⟩
theorem sem_165_0 {B : Base} {κ₀ : Kw} (H : HasT (T7 w D) 706 B κ₀) : RowSem B κ₀ (fdT (T7 w D) 165) (fdT (T7 w D) 165).scope ⟨1, [], [(1718379891, .arg 0)]⟩ := row_plain H (as := []) (by kernel_rfl) (by kernel_rfl) (pk_165_0 w D)
theorem bind_165 {B : Base} {κ₀ : Kw} (H : HasT (T7 w D) 706 B κ₀) : BindOk B κ₀ (fdT (T7 w D) 165) (fdT (T7 w D) 165).scope (bdR rows_165) := bindOk fun r hr => by
  rcases List.mem_cons.mp hr with rfl | hr
  · exact sem_165_0 w D H
  cases hr
theorem cs_186 : cSs 60 (fdT (T7 w D) 186).scope (stT' (fdT (T7 w D) 186)) = b_Handler_init := by kernel_rfl
theorem pk_186_0 : ∀ vs us : List Value, vs.length = 3 → us.length = 0 → ∃ bs, (∀ S, peek (fragT (T7 w D) []) S (bindArgs (fdT (T7 w D) 186) ⟨vs, (([] : List Nat).map dec).zip us⟩) = some bs) ∧ OutRel (T7 w D) 706 vs us [(1718379891, .arg 0), (495723704168, .arg 1), (126918051983212, .arg 2)] bs := by
  intro vs us h1 h2
  match vs, h1, us, h2 with
  | [v0, v1, v2], _, [], _ => exact ⟨[(dec 1718379891, v0), (dec 495723704168, v1), (dec 126918051983212, v2)], fun S => by kernel_rfl, (.arg (.arg (.arg .nil)))⟩
theorem sem_186_0 {B : Base} {κ₀ : Kw} (H : HasT (T7 w D) 706 B κ₀) : RowSem B κ₀ (fdT (T7 w D) 186) (fdT (T7 w D) 186).scope ⟨3, [], [(1718379891, .arg 0), (495723704168, .arg 1), (126918051983212, .arg 2)]⟩ := row_plain H (as := []) (by kernel_rfl) (by kernel_rfl) (pk_186_0 w D)
theorem bind_186 {B : Base} {κ₀ : Kw} (H : HasT (T7 w D) 706 B κ₀) : BindOk B κ₀ (fdT (T7 w D) 186) (fdT (T7 w D) 186).scope (bdR rows_186) := bindOk fun r hr => by
  rcases List.mem_cons.mp hr with rfl | hr
  · exact sem_186_0 w D H
  cases hr
theorem cs_256 : cSs 60 (fdT (T7 w D) 256).scope (stT' (fdT (T7 w D) 256)) = b_b64encode := by kernel_rfl
theorem pk_256_0 : ∀ vs us : List Value, vs.length = 1 → us.length = 0 → ∃ bs, (∀ S, peek (fragT (T7 w D) []) S (bindArgs (fdT (T7 w D) 256) ⟨vs, (([] : List Nat).map dec).zip us⟩) = some bs) ∧ OutRel (T7 w D) 706 vs us [(126943755527023, .arg 0)] bs := by
  intro vs us h1 h2
  match vs, h1, us, h2 with
  | [v0], _, [], _ => exact ⟨[(dec 126943755527023, v0)], fun S => by kernel_rfl, (.arg .nil)⟩
theorem sem_256_0 {B : Base} {κ₀ : Kw} (H : HasT (T7 w D) 706 B κ₀) : RowSem B κ₀ (fdT (T7 w D) 256) (fdT (T7 w D) 256).scope ⟨1, [], [(126943755527023, .arg 0)]⟩ := row_plain H (as := []) (by kernel_rfl) (by kernel_rfl) (pk_256_0 w D)
theorem bind_256 {B : Base} {κ₀ : Kw} (H : HasT (T7 w D) 706 B κ₀) : BindOk B κ₀ (fdT (T7 w D) 256) (fdT (T7 w D) 256).scope (bdR rows_256) := bindOk fun r hr => by
  rcases List.mem_cons.mp hr with rfl | hr
  · exact sem_256_0 w D H
  cases hr
theorem cs_264 : cSs 60 (fdT (T7 w D) 264).scope (stT' (fdT (T7 w D) 264)) = b_b64decode := by kernel_rfl
theorem pk_264_0 : ∀ vs us : List Value, vs.length = 1 → us.length = 1 → ∃ bs, (∀ S, peek (fragT (T7 w D) [dA (T7 w D) 264]) S (bindArgs (fdT (T7 w D) 264) ⟨vs, (([7310575179022492022] : List Nat).map dec).zip us⟩) = some bs) ∧ OutRel (T7 w D) 706 vs us [(1954047348, .arg 0), (7310575179022492022, .kw 0)] bs := by
  intro vs us h1 h2
  match vs, h1, us, h2 with
  | [v0], _, [u0], _ => exact ⟨[(dec 1954047348, v0), (dec 7310575179022492022, u0)], fun S => by kernel_rfl, (.arg (.kw .nil))⟩
theorem sem_264_0 {B : Base} {κ₀ : Kw} (H : HasT (T7 w D) 706 B κ₀) : RowSem B κ₀ (fdT (T7 w D) 264) (fdT (T7 w D) 264).scope ⟨1, [7310575179022492022], [(1954047348, .arg 0), (7310575179022492022, .kw 0)]⟩ := row_plain H (as := [dA (T7 w D) 264]) (by kernel_rfl) (by kernel_rfl) (pk_264_0 w D)
theorem bind_264 {B : Base} {κ₀ : Kw} (H : HasT (T7 w D) 706 B κ₀) : BindOk B κ₀ (fdT (T7 w D) 264) (fdT (T7 w D) 264).scope (bdR rows_264) := bindOk fun r hr => by
  rcases List.mem_cons.mp hr with rfl | hr
  · exact sem_264_0 w D H
  cases hr
theorem cs_366 : cSs 60 (fdT (T7 w D) 366).scope (stT' (fdT (T7 w D) 366)) = b_Session_init := by kernel_rfl
theorem pk_366_0 : ∀ vs us : List Value, vs.length = 2 → us.length = 0 → ∃ bs, (∀ S, peek (fragT (T7 w D) []) S (bindArgs (fdT (T7 w D) 366) ⟨vs, (([] : List Nat).map dec).zip us⟩) = some bs) ∧ OutRel (T7 w D) 706 vs us [(1718379891, .arg 0), (1886351212, .arg 1)] bs := by
  intro vs us h1 h2
  match vs, h1, us, h2 with
  | [v0, v1], _, [], _ => exact ⟨[(dec 1718379891, v0), (dec 1886351212, v1)], fun S => by kernel_rfl, (.arg (.arg .nil))⟩
theorem sem_366_0 {B : Base} {κ₀ : Kw} (H : HasT (T7 w D) 706 B κ₀) : RowSem B κ₀ (fdT (T7 w D) 366) (fdT (T7 w D) 366).scope ⟨2, [], [(1718379891, .arg 0), (1886351212, .arg 1)]⟩ := row_plain H (as := []) (by kernel_rfl) (by kernel_rfl) (pk_366_0 w D)
theorem bind_366 {B : Base} {κ₀ : Kw} (H : HasT (T7 w D) 706 B κ₀) : BindOk B κ₀ (fdT (T7 w D) 366) (fdT (T7 w D) 366).scope (bdR rows_366) := bindOk fun r hr => by
  rcases List.mem_cons.mp hr with rfl | hr
  · exact sem_366_0 w D H
  cases hr
theorem cs_387 : cSs 60 (fdT (T7 w D) 387).scope (stT' (fdT (T7 w D) 387)) = b_Envelope_init := by kernel_rfl
theorem pk_387_0 : ∀ vs us : List Value, vs.length = 1 → us.length = 0 → ∃ bs, (∀ S, peek (fragT (T7 w D) []) S (bindArgs (fdT (T7 w D) 387) ⟨vs, (([] : List Nat).map dec).zip us⟩) = some bs) ∧ OutRel (T7 w D) 706 vs us [(1718379891, .arg 0)] bs := by
  intro vs us h1 h2
  match vs, h1, us, h2 with
  | [v0], _, [], _ => exact ⟨[(dec 1718379891, v0)], fun S => by kernel_rfl, (.arg .nil)⟩
theorem sem_387_0 {B : Base} {κ₀ : Kw} (H : HasT (T7 w D) 706 B κ₀) : RowSem B κ₀ (fdT (T7 w D) 387) (fdT (T7 w D) 387).scope ⟨1, [], [(1718379891, .arg 0)]⟩ := row_plain H (as := []) (by kernel_rfl) (by kernel_rfl) (pk_387_0 w D)
theorem bind_387 {B : Base} {κ₀ : Kw} (H : HasT (T7 w D) 706 B κ₀) : BindOk B κ₀ (fdT (T7 w D) 387) (fdT (T7 w D) 387).scope (bdR rows_387) := bindOk fun r hr => by
  rcases List.mem_cons.mp hr with rfl | hr
  · exact sem_387_0 w D H
  cases hr
theorem cs_414 : cSs 60 (fdT (T7 w D) 414).scope (stT' (fdT (T7 w D) 414)) = b_SMTP_init := by kernel_rfl
theorem pk_414_0 : ∀ vs us : List Value, vs.length = 2 → us.length = 2 → ∃ bs, (∀ S, peek (fragT (T7 w D) [kA (T7 w D) 414]) S (bindArgs (fdT (T7 w D) 414) ⟨vs, (([7308604897320202088, 500068344937] : List Nat).map dec).zip us⟩) = some bs) ∧ OutRel (T7 w D) 706 vs us [(1718379891, .arg 0), (32199663560843624, .arg 1), (604444757095078001634194158471373156, .const (.int 33554432)), (292195074319195167906729805251440229, .const (.bool false)), (117815395581418067238020452, .const (.bool false)), (7308604897320202088, .kw 0), (500068344937, .kw 1), (140803950564158414787931252, .const (.none)), (153424349561367068863149008691576006002, .const (.bool false)), (32780218601924980, .const (.int 300)), (7954212552976746499811312956769, .const (.bool false)), (153424347893572850767013095260537779553, .const (.bool true)), (40950416281972890428420063022195407276456761728726369, .const (.none)), (10140900249851658319697261578492821386391395, .const (.none)), (1886351212, .const (.none))] bs := by
  intro vs us h1 h2
  match vs, h1, us, h2 with
  | [v0, v1], _, [u0, u1], _ => exact ⟨[(dec 1718379891, v0), (dec 32199663560843624, v1), (dec 604444757095078001634194158471373156, kwT (T7 w D) 414 604444757095078001634194158471373156), (dec 292195074319195167906729805251440229, kwT (T7 w D) 414 292195074319195167906729805251440229), (dec 117815395581418067238020452, kwT (T7 w D) 414 117815395581418067238020452), (dec 7308604897320202088, u0), (dec 500068344937, u1), (dec 140803950564158414787931252, kwT (T7 w D) 414 140803950564158414787931252), (dec 153424349561367068863149008691576006002, kwT (T7 w D) 414 153424349561367068863149008691576006002), (dec 32780218601924980, kwT (T7 w D) 414 32780218601924980), (dec 7954212552976746499811312956769, kwT (T7 w D) 414 7954212552976746499811312956769), (dec 153424347893572850767013095260537779553, kwT (T7 w D) 414 153424347893572850767013095260537779553), (dec 40950416281972890428420063022195407276456761728726369, kwT (T7 w D) 414 40950416281972890428420063022195407276456761728726369), (dec 10140900249851658319697261578492821386391395, kwT (T7 w D) 414 10140900249851658319697261578492821386391395), (dec 1886351212, kwT (T7 w D) 414 1886351212)], fun S => by kernel_rfl, (.arg (.arg (.const (by kernel_rfl) (.const (by kernel_rfl) (.const (by kernel_rfl) (.kw (.kw (.const (by kernel_rfl) (.const (by kernel_rfl) (.const (by kernel_rfl) (.const (by kernel_rfl) (.const (by kernel_rfl) (.const (by kernel_rfl) (.const (by kernel_rfl) (.const (by kernel_rfl) .nil)))))))))))))))⟩
theorem sem_414_0 {B : Base} {κ₀ : Kw} (H : HasT (T7 w D) 706 B κ₀) : RowSem B κ₀ (fdT (T7 w D) 414) (fdT (T7 w D) 414).scope ⟨2, [7308604897320202088, 500068344937], [(1718379891, .arg 0), (32199663560843624, .arg 1), (604444757095078001634194158471373156, .const (.int 33554432)), (292195074319195167906729805251440229, .const (.bool false)), (117815395581418067238020452, .const (.bool false)), (7308604897320202088, .kw 0), (500068344937, .kw 1), (140803950564158414787931252, .const (.none)), (153424349561367068863149008691576006002, .const (.bool false)), (32780218601924980, .const (.int 300)), (7954212552976746499811312956769, .const (.bool false)), (153424347893572850767013095260537779553, .const (.bool true)), (40950416281972890428420063022195407276456761728726369, .const (.none)), (10140900249851658319697261578492821386391395, .const (.none)), (1886351212, .const (.none))]⟩ := row_plain H (as := [kA (T7 w D) 414]) (by kernel_rfl) (by kernel_rfl) (pk_414_0 w D)
theorem bind_414 {B : Base} {κ₀ : Kw} (H : HasT (T7 w D) 706 B κ₀) : BindOk B κ₀ (fdT (T7 w D) 414) (fdT (T7 w D) 414).scope (bdR rows_414) := bindOk fun r hr => by
  rcases List.mem_cons.mp hr with rfl | hr
  · exact sem_414_0 w D H
  cases hr
theorem cs_421 : cSs 60 (fdT (T7 w D) 421).scope (stT' (fdT (T7 w D) 421)) = b_SMTP_create_session := by kernel_rfl
theorem pk_421_0 : ∀ vs us : List Value, vs.length = 1 → us.length = 0 → ∃ bs, (∀ S, peek (fragT (T7 w D) []) S (bindArgs (fdT (T7 w D) 421) ⟨vs, (([] : List Nat).map dec).zip us⟩) = some bs) ∧ OutRel (T7 w D) 706 vs us [(1718379891, .arg 0)] bs := by
  intro vs us h1 h2
  match vs, h1, us, h2 with
  | [v0], _, [], _ => exact ⟨[(dec 1718379891, v0)], fun S => by kernel_rfl, (.arg .nil)⟩
theorem sem_421_0 {B : Base} {κ₀ : Kw} (H : HasT (T7 w D) 706 B κ₀) : RowSem B κ₀ (fdT (T7 w D) 421) (fdT (T7 w D) 421).scope ⟨1, [], [(1718379891, .arg 0)]⟩ := row_plain H (as := []) (by kernel_rfl) (by kernel_rfl) (pk_421_0 w D)
theorem bind_421 {B : Base} {κ₀ : Kw} (H : HasT (T7 w D) 706 B κ₀) : BindOk B κ₀ (fdT (T7 w D) 421) (fdT (T7 w D) 421).scope (bdR rows_421) := bindOk fun r hr => by
  rcases List.mem_cons.mp hr with rfl | hr
  · exact sem_421_0 w D H
  cases hr
theorem cs_428 : cSs 60 (fdT (T7 w D) 428).scope (stT' (fdT (T7 w D) 428)) = b_SMTP_create_envelope := by kernel_rfl
theorem pk_428_0 : ∀ vs us : List Value, vs.length = 1 → us.length = 0 → ∃ bs, (∀ S, peek (fragT (T7 w D) []) S (bindArgs (fdT (T7 w D) 428) ⟨vs, (([] : List Nat).map dec).zip us⟩) = some bs) ∧ OutRel (T7 w D) 706 vs us [(1718379891, .arg 0)] bs := by
  intro vs us h1 h2
  match vs, h1, us, h2 with
  | [v0], _, [], _ => exact ⟨[(dec 1718379891, v0)], fun S => by kernel_rfl, (.arg .nil)⟩
theorem sem_428_0 {B : Base} {κ₀ : Kw} (H : HasT (T7 w D) 706 B κ₀) : RowSem B κ₀ (fdT (T7 w D) 428) (fdT (T7 w D) 428).scope ⟨1, [], [(1718379891, .arg 0)]⟩ := row_plain H (as := []) (by kernel_rfl) (by kernel_rfl) (pk_428_0 w D)
theorem bind_428 {B : Base} {κ₀ : Kw} (H : HasT (T7 w D) 706 B κ₀) : BindOk B κ₀ (fdT (T7 w D) 428) (fdT (T7 w D) 428).scope (bdR rows_428) := bindOk fun r hr => by
  rcases List.mem_cons.mp hr with rfl | hr
  · exact sem_428_0 w D H
  cases hr
theorem cs_435 : cSs 60 (fdT (T7 w D) 435).scope (stT' (fdT (T7 w D) 435)) = b_SMTP_call_handler_hook := by kernel_rfl
theorem pk_435_0 : ∀ vs us : List Value, vs.length = 2 → us.length = 0 → ∃ bs, (∀ S X, (peekA (fragT (T7 w D) []) S (bindArgs (fdT (T7 w D) 435) ⟨vs, (([] : List Nat).map dec).zip us⟩)).map (fun p => (p.1, p.2 X)) = some ({ cls := .type "tuple", data := .seq (vs.drop 2).toArray }, some (bs ++ [(dec 1936159329, .ref X)]))) ∧ OutRel (T7 w D) 706 vs us [(1718379891, .arg 0), (28268862397837155, .arg 1)] bs := by
  intro vs us h1 h2
  match vs, h1, us, h2 with
  | [v0, v1], _, [], _ => exact ⟨[(dec 1718379891, v0), (dec 28268862397837155, v1)], fun S X => by kernel_rfl, (.arg (.arg .nil))⟩
theorem sem_435_0 {B : Base} {κ₀ : Kw} (H : HasT (T7 w D) 706 B κ₀) : RowSem B κ₀ (fdT (T7 w D) 435) (fdT (T7 w D) 435).scope ⟨2, [], [(1718379891, .arg 0), (28268862397837155, .arg 1), (1936159329, .rest 2)]⟩ := row_rest H (as := []) (out := [(1718379891, .arg 0), (28268862397837155, .arg 1)]) (x := 1936159329) (i := 2) rfl (by kernel_rfl) (by kernel_rfl) (pk_435_0 w D)
theorem bind_435 {B : Base} {κ₀ : Kw} (H : HasT (T7 w D) 706 B κ₀) : BindOk B κ₀ (fdT (T7 w D) 435) (fdT (T7 w D) 435).scope (bdR rows_435) := bindOk fun r hr => by
  rcases List.mem_cons.mp hr with rfl | hr
  · exact sem_435_0 w D H
  cases hr
theorem cs_442 : cSs 60 (fdT (T7 w D) 442).scope (stT' (fdT (T7 w D) 442)) = b_SMTP_commands := by kernel_rfl
theorem pk_442_0 : ∀ vs us : List Value, vs.length = 1 → us.length = 0 → ∃ bs, (∀ S, peek (fragT (T7 w D) []) S (bindArgs (fdT (T7 w D) 442) ⟨vs, (([] : List Nat).map dec).zip us⟩) = some bs) ∧ OutRel (T7 w D) 706 vs us [(1718379891, .arg 0)] bs := by
  intro vs us h1 h2
  match vs, h1, us, h2 with
  | [v0], _, [], _ => exact ⟨[(dec 1718379891, v0)], fun S => by kernel_rfl, (.arg .nil)⟩
theorem sem_442_0 {B : Base} {κ₀ : Kw} (H : HasT (T7 w D) 706 B κ₀) : RowSem B κ₀ (fdT (T7 w D) 442) (fdT (T7 w D) 442).scope ⟨1, [], [(1718379891, .arg 0)]⟩ := row_plain H (as := []) (by kernel_rfl) (by kernel_rfl) (pk_442_0 w D)
theorem bind_442 {B : Base} {κ₀ : Kw} (H : HasT (T7 w D) 706 B κ₀) : BindOk B κ₀ (fdT (T7 w D) 442) (fdT (T7 w D) 442).scope (bdR rows_442) := bindOk fun r hr => by
  rcases List.mem_cons.mp hr with rfl | hr
  · exact sem_442_0 w D H
  cases hr
theorem cs_449 : cSs 60 (fdT (T7 w D) 449).scope (stT' (fdT (T7 w D) 449)) = b_SMTP_call := by kernel_rfl
theorem pk_449_0 : ∀ vs us : List Value, vs.length = 3 → us.length = 0 → ∃ bs, (∀ S, peek (fragT (T7 w D) []) S (bindArgs (fdT (T7 w D) 449) ⟨vs, (([] : List Nat).map dec).zip us⟩) = some bs) ∧ OutRel (T7 w D) 706 vs us [(1718379891, .arg 0), (28268862397837155, .arg 1), (6779489, .arg 2)] bs := by
  intro vs us h1 h2
  match vs, h1, us, h2 with
  | [v0, v1, v2], _, [], _ => exact ⟨[(dec 1718379891, v0), (dec 28268862397837155, v1), (dec 6779489, v2)], fun S => by kernel_rfl, (.arg (.arg (.arg .nil)))⟩
theorem sem_449_0 {B : Base} {κ₀ : Kw} (H : HasT (T7 w D) 706 B κ₀) : RowSem B κ₀ (fdT (T7 w D) 449) (fdT (T7 w D) 449).scope ⟨3, [], [(1718379891, .arg 0), (28268862397837155, .arg 1), (6779489, .arg 2)]⟩ := row_plain H (as := []) (by kernel_rfl) (by kernel_rfl) (pk_449_0 w D)
theorem bind_449 {B : Base} {κ₀ : Kw} (H : HasT (T7 w D) 706 B κ₀) : BindOk B κ₀ (fdT (T7 w D) 449) (fdT (T7 w D) 449).scope (bdR rows_449) := bindOk fun r hr => by
  rcases List.mem_cons.mp hr with rfl | hr
  · exact sem_449_0 w D H
  cases hr
theorem cs_464 : cSs 60 (fdT (T7 w D) 464).scope (stT' (fdT (T7 w D) 464)) = b_SMTP_connection_made := by kernel_rfl
theorem pk_464_0 : ∀ vs us : List Value, vs.length = 2 → us.length = 0 → ∃ bs, (∀ S, peek (fragT (T7 w D) []) S (bindArgs (fdT (T7 w D) 464) ⟨vs, (([] : List Nat).map dec).zip us⟩) = some bs) ∧ OutRel (T7 w D) 706 vs us [(1718379891, .arg 0), (2148068245634122084980, .arg 1)] bs := by
  intro vs us h1 h2
  match vs, h1, us, h2 with
  | [v0, v1], _, [], _ => exact ⟨[(dec 1718379891, v0), (dec 2148068245634122084980, v1)], fun S => by kernel_rfl, (.arg (.arg .nil))⟩
theorem sem_464_0 {B : Base} {κ₀ : Kw} (H : HasT (T7 w D) 706 B κ₀) : RowSem B κ₀ (fdT (T7 w D) 464) (fdT (T7 w D) 464).scope ⟨2, [], [(1718379891, .arg 0), (2148068245634122084980, .arg 1)]⟩ := row_plain H (as := []) (by kernel_rfl) (by kernel_rfl) (pk_464_0 w D)
theorem bind_464 {B : Base} {κ₀ : Kw} (H : HasT (T7 w D) 706 B κ₀) : BindOk B κ₀ (fdT (T7 w D) 464) (fdT (T7 w D) 464).scope (bdR rows_464) := bindOk fun r hr => by
  rcases List.mem_cons.mp hr with rfl | hr
  · exact sem_464_0 w D H
  cases hr
theorem cs_471 : cSs 60 (fdT (T7 w D) 471).scope (stT' (fdT (T7 w D) 471)) = b_SMTP_cb_client_connected := by kernel_rfl
theorem pk_471_0 : ∀ vs us : List Value, vs.length = 3 → us.length = 0 → ∃ bs, (∀ S, peek (fragT (T7 w D) []) S (bindArgs (fdT (T7 w D) 471) ⟨vs, (([] : List Nat).map dec).zip us⟩) = some bs) ∧ OutRel (T7 w D) 706 vs us [(1718379891, .arg 0), (125779801367922, .arg 1), (125780070330999, .arg 2)] bs := by
  intro vs us h1 h2
  match vs, h1, us, h2 with
  | [v0, v1, v2], _, [], _ => exact ⟨[(dec 1718379891, v0), (dec 125779801367922, v1), (dec 125780070330999, v2)], fun S => by kernel_rfl, (.arg (.arg (.arg .nil)))⟩
theorem sem_471_0 {B : Base} {κ₀ : Kw} (H : HasT (T7 w D) 706 B κ₀) : RowSem B κ₀ (fdT (T7 w D) 471) (fdT (T7 w D) 471).scope ⟨3, [], [(1718379891, .arg 0), (125779801367922, .arg 1), (125780070330999, .arg 2)]⟩ := row_plain H (as := []) (by kernel_rfl) (by kernel_rfl) (pk_471_0 w D)
theorem bind_471 {B : Base} {κ₀ : Kw} (H : HasT (T7 w D) 706 B κ₀) : BindOk B κ₀ (fdT (T7 w D) 471) (fdT (T7 w D) 471).scope (bdR rows_471) := bindOk fun r hr => by
  rcases List.mem_cons.mp hr with rfl | hr
  · exact sem_471_0 w D H
  cases hr
theorem cs_478 : cSs 60 (fdT (T7 w D) 478).scope (stT' (fdT (T7 w D) 478)) = b_SMTP_set_post_data_state := by kernel_rfl
theorem pk_478_0 : ∀ vs us : List Value, vs.length = 1 → us.length = 0 → ∃ bs, (∀ S, peek (fragT (T7 w D) []) S (bindArgs (fdT (T7 w D) 478) ⟨vs, (([] : List Nat).map dec).zip us⟩) = some bs) ∧ OutRel (T7 w D) 706 vs us [(1718379891, .arg 0)] bs := by
  intro vs us h1 h2
  match vs, h1, us, h2 with
  | [v0], _, [], _ => exact ⟨[(dec 1718379891, v0)], fun S => by kernel_rfl, (.arg .nil)⟩
theorem sem_478_0 {B : Base} {κ₀ : Kw} (H : HasT (T7 w D) 706 B κ₀) : RowSem B κ₀ (fdT (T7 w D) 478) (fdT (T7 w D) 478).scope ⟨1, [], [(1718379891, .arg 0)]⟩ := row_plain H (as := []) (by kernel_rfl) (by kernel_rfl) (pk_478_0 w D)
theorem bind_478 {B : Base} {κ₀ : Kw} (H : HasT (T7 w D) 706 B κ₀) : BindOk B κ₀ (fdT (T7 w D) 478) (fdT (T7 w D) 478).scope (bdR rows_478) := bindOk fun r hr => by
  rcases List.mem_cons.mp hr with rfl | hr
  · exact sem_478_0 w D H
  cases hr
theorem cs_485 : cSs 60 (fdT (T7 w D) 485).scope (stT' (fdT (T7 w D) 485)) = b_SMTP_set_rset_state := by kernel_rfl
theorem pk_485_0 : ∀ vs us : List Value, vs.length = 1 → us.length = 0 → ∃ bs, (∀ S, peek (fragT (T7 w D) []) S (bindArgs (fdT (T7 w D) 485) ⟨vs, (([] : List Nat).map dec).zip us⟩) = some bs) ∧ OutRel (T7 w D) 706 vs us [(1718379891, .arg 0)] bs := by
  intro vs us h1 h2
  match vs, h1, us, h2 with
  | [v0], _, [], _ => exact ⟨[(dec 1718379891, v0)], fun S => by kernel_rfl, (.arg .nil)⟩
theorem sem_485_0 {B : Base} {κ₀ : Kw} (H : HasT (T7 w D) 706 B κ₀) : RowSem B κ₀ (fdT (T7 w D) 485) (fdT (T7 w D) 485).scope ⟨1, [], [(1718379891, .arg 0)]⟩ := row_plain H (as := []) (by kernel_rfl) (by kernel_rfl) (pk_485_0 w D)
theorem bind_485 {B : Base} {κ₀ : Kw} (H : HasT (T7 w D) 706 B κ₀) : BindOk B κ₀ (fdT (T7 w D) 485) (fdT (T7 w D) 485).scope (bdR rows_485) := bindOk fun r hr => by
  rcases List.mem_cons.mp hr with rfl | hr
  · exact sem_485_0 w D H
  cases hr
theorem cs_492 : cSs 60 (fdT (T7 w D) 492).scope (stT' (fdT (T7 w D) 492)) = b_SMTP_push := by kernel_rfl
theorem pk_492_0 : ∀ vs us : List Value, vs.length = 2 → us.length = 0 → ∃ bs, (∀ S, peek (fragT (T7 w D) []) S (bindArgs (fdT (T7 w D) 492) ⟨vs, (([] : List Nat).map dec).zip us⟩) = some bs) ∧ OutRel (T7 w D) 706 vs us [(1718379891, .arg 0), (126948300911731, .arg 1)] bs := by
  intro vs us h1 h2
  match vs, h1, us, h2 with
  | [v0, v1], _, [], _ => exact ⟨[(dec 1718379891, v0), (dec 126948300911731, v1)], fun S => by kernel_rfl, (.arg (.arg .nil))⟩
theorem sem_492_0 {B : Base} {κ₀ : Kw} (H : HasT (T7 w D) 706 B κ₀) : RowSem B κ₀ (fdT (T7 w D) 492) (fdT (T7 w D) 492).scope ⟨2, [], [(1718379891, .arg 0), (126948300911731, .arg 1)]⟩ := row_plain H (as := []) (by kernel_rfl) (by kernel_rfl) (pk_492_0 w D)
theorem bind_492 {B : Base} {κ₀ : Kw} (H : HasT (T7 w D) 706 B κ₀) : BindOk B κ₀ (fdT (T7 w D) 492) (fdT (T7 w D) 492).scope (bdR rows_492) := bindOk fun r hr => by
  rcases List.mem_cons.mp hr with rfl | hr
  · exact sem_492_0 w D H
  cases hr
theorem cs_506 : cSs 60 (fdT (T7 w D) 506).scope (stT' (fdT (T7 w D) 506)) = b_SMTP_handle_client := by kernel_rfl
theorem pk_506_0 : ∀ vs us : List Value, vs.length = 1 → us.length = 0 → ∃ bs, (∀ S, peek (fragT (T7 w D) []) S (bindArgs (fdT (T7 w D) 506) ⟨vs, (([] : List Nat).map dec).zip us⟩) = some bs) ∧ OutRel (T7 w D) 706 vs us [(1718379891, .arg 0)] bs := by
  intro vs us h1 h2
  match vs, h1, us, h2 with
  | [v0], _, [], _ => exact ⟨[(dec 1718379891, v0)], fun S => by kernel_rfl, (.arg .nil)⟩
theorem sem_506_0 {B : Base} {κ₀ : Kw} (H : HasT (T7 w D) 706 B κ₀) : RowSem B κ₀ (fdT (T7 w D) 506) (fdT (T7 w D) 506).scope ⟨1, [], [(1718379891, .arg 0)]⟩ := row_plain H (as := []) (by kernel_rfl) (by kernel_rfl) (pk_506_0 w D)
theorem bind_506 {B : Base} {κ₀ : Kw} (H : HasT (T7 w D) 706 B κ₀) : BindOk B κ₀ (fdT (T7 w D) 506) (fdT (T7 w D) 506).scope (bdR rows_506) := bindOk fun r hr => by
  rcases List.mem_cons.mp hr with rfl | hr
  · exact sem_506_0 w D H
  cases hr
theorem cs_549 : cSs 60 (fdT (T7 w D) 549).scope (stT' (fdT (T7 w D) 549)) = b_SMTP_smtp_QUIT := by kernel_rfl
theorem pk_549_0 : ∀ vs us : List Value, vs.length = 2 → us.length = 0 → ∃ bs, (∀ S, peek (fragT (T7 w D) []) S (bindArgs (fdT (T7 w D) 549) ⟨vs, (([] : List Nat).map dec).zip us⟩) = some bs) ∧ OutRel (T7 w D) 706 vs us [(1718379891, .arg 0), (6779489, .arg 1)] bs := by
  intro vs us h1 h2
  match vs, h1, us, h2 with
  | [v0, v1], _, [], _ => exact ⟨[(dec 1718379891, v0), (dec 6779489, v1)], fun S => by kernel_rfl, (.arg (.arg .nil))⟩
theorem sem_549_0 {B : Base} {κ₀ : Kw} (H : HasT (T7 w D) 706 B κ₀) : RowSem B κ₀ (fdT (T7 w D) 549) (fdT (T7 w D) 549).scope ⟨2, [], [(1718379891, .arg 0), (6779489, .arg 1)]⟩ := row_plain H (as := []) (by kernel_rfl) (by kernel_rfl) (pk_549_0 w D)
theorem bind_549 {B : Base} {κ₀ : Kw} (H : HasT (T7 w D) 706 B κ₀) : BindOk B κ₀ (fdT (T7 w D) 549) (fdT (T7 w D) 549).scope (bdR rows_549) := bindOk fun r hr => by
  rcases List.mem_cons.mp hr with rfl | hr
  · exact sem_549_0 w D H
  cases hr
theorem cs_571 : cSs 60 (fdT (T7 w D) 571).scope (stT' (fdT (T7 w D) 571)) = b_SMTP_challenge_auth := by kernel_rfl
theorem pk_571_0 : ∀ vs us : List Value, vs.length = 3 → us.length = 0 → ∃ bs, (∀ S, peek (fragT (T7 w D) [dA (T7 w D) 571]) S (bindArgs (fdT (T7 w D) 571) ⟨vs, (([] : List Nat).map dec).zip us⟩) = some bs) ∧ OutRel (T7 w D) 706 vs us [(1718379891, .arg 0), (1870574157394358659171, .arg 1), (4136695566683210419545827405413, .arg 2), (2262430757122291963717535638160023062141431660, .const (.bool false))] bs := by
  intro vs us h1 h2
  match vs, h1, us, h2 with
  | [v0, v1, v2], _, [], _ => exact ⟨[(dec 1718379891, v0), (dec 1870574157394358659171, v1), (dec 4136695566683210419545827405413, v2), (dec 2262430757122291963717535638160023062141431660, seqT (T7 w D) (dA (T7 w D) 571) 1)], fun S => by kernel_rfl, (.arg (.arg (.arg (.const (by kernel_rfl) .nil))))⟩
theorem sem_571_0 {B : Base} {κ₀ : Kw} (H : HasT (T7 w D) 706 B κ₀) : RowSem B κ₀ (fdT (T7 w D) 571) (fdT (T7 w D) 571).scope ⟨3, [], [(1718379891, .arg 0), (1870574157394358659171, .arg 1), (4136695566683210419545827405413, .arg 2), (2262430757122291963717535638160023062141431660, .const (.bool false))]⟩ := row_plain H (as := [dA (T7 w D) 571]) (by kernel_rfl) (by kernel_rfl) (pk_571_0 w D)
theorem bind_571 {B : Base} {κ₀ : Kw} (H : HasT (T7 w D) 706 B κ₀) : BindOk B κ₀ (fdT (T7 w D) 571) (fdT (T7 w D) 571).scope (bdR rows_571) := bindOk fun r hr => by
  rcases List.mem_cons.mp hr with rfl | hr
  · exact sem_571_0 w D H
  cases hr
theorem cs_688 : cSs 60 (fdT (T7 w D) 688).scope (stT' (fdT (T7 w D) 688)) = b_law_sixty := by kernel_rfl
theorem pk_688_0 : ∀ vs us : List Value, vs.length = 1 → us.length = 0 → ∃ bs, (∀ S, peek (fragT (T7 w D) []) S (bindArgs (fdT (T7 w D) 688) ⟨vs, (([] : List Nat).map dec).zip us⟩) = some bs) ∧ OutRel (T7 w D) 706 vs us [(126943755527023, .arg 0)] bs := by
  intro vs us h1 h2
  match vs, h1, us, h2 with
  | [v0], _, [], _ => exact ⟨[(dec 126943755527023, v0)], fun S => by kernel_rfl, (.arg .nil)⟩
theorem sem_688_0 {B : Base} {κ₀ : Kw} (H : HasT (T7 w D) 706 B κ₀) : RowSem B κ₀ (fdT (T7 w D) 688) (fdT (T7 w D) 688).scope ⟨1, [], [(126943755527023, .arg 0)]⟩ := row_plain H (as := []) (by kernel_rfl) (by kernel_rfl) (pk_688_0 w D)
theorem bind_688 {B : Base} {κ₀ : Kw} (H : HasT (T7 w D) 706 B κ₀) : BindOk B κ₀ (fdT (T7 w D) 688) (fdT (T7 w D) 688).scope (bdR rows_688) := bindOk fun r hr => by
  rcases List.mem_cons.mp hr with rfl | hr
  · exact sem_688_0 w D H
  cases hr
theorem cs_695 : cSs 60 (fdT (T7 w D) 695).scope (stT' (fdT (T7 w D) 695)) = b_law_read := by kernel_rfl
theorem pk_695_0 : ∀ vs us : List Value, vs.length = 1 → us.length = 0 → ∃ bs, (∀ S, peek (fragT (T7 w D) []) S (bindArgs (fdT (T7 w D) 695) ⟨vs, (([] : List Nat).map dec).zip us⟩) = some bs) ∧ OutRel (T7 w D) 706 vs us [(495606460279, .arg 0)] bs := by
  intro vs us h1 h2
  match vs, h1, us, h2 with
  | [v0], _, [], _ => exact ⟨[(dec 495606460279, v0)], fun S => by kernel_rfl, (.arg .nil)⟩
theorem sem_695_0 {B : Base} {κ₀ : Kw} (H : HasT (T7 w D) 706 B κ₀) : RowSem B κ₀ (fdT (T7 w D) 695) (fdT (T7 w D) 695).scope ⟨1, [], [(495606460279, .arg 0)]⟩ := row_plain H (as := []) (by kernel_rfl) (by kernel_rfl) (pk_695_0 w D)
theorem bind_695 {B : Base} {κ₀ : Kw} (H : HasT (T7 w D) 706 B κ₀) : BindOk B κ₀ (fdT (T7 w D) 695) (fdT (T7 w D) 695).scope (bdR rows_695) := bindOk fun r hr => by
  rcases List.mem_cons.mp hr with rfl | hr
  · exact sem_695_0 w D H
  cases hr
theorem cs_700 : cSs 60 (fdT (T7 w D) 700).scope (stT' (fdT (T7 w D) 700)) = b_law_answer := by kernel_rfl
theorem pk_700_0 : ∀ vs us : List Value, vs.length = 1 → us.length = 0 → ∃ bs, (∀ S, peek (fragT (T7 w D) []) S (bindArgs (fdT (T7 w D) 700) ⟨vs, (([] : List Nat).map dec).zip us⟩) = some bs) ∧ OutRel (T7 w D) 706 vs us [(125779768604014, .arg 0)] bs := by
  intro vs us h1 h2
  match vs, h1, us, h2 with
  | [v0], _, [], _ => exact ⟨[(dec 125779768604014, v0)], fun S => by kernel_rfl, (.arg .nil)⟩
theorem sem_700_0 {B : Base} {κ₀ : Kw} (H : HasT (T7 w D) 706 B κ₀) : RowSem B κ₀ (fdT (T7 w D) 700) (fdT (T7 w D) 700).scope ⟨1, [], [(125779768604014, .arg 0)]⟩ := row_plain H (as := []) (by kernel_rfl) (by kernel_rfl) (pk_700_0 w D)
theorem bind_700 {B : Base} {κ₀ : Kw} (H : HasT (T7 w D) 706 B κ₀) : BindOk B κ₀ (fdT (T7 w D) 700) (fdT (T7 w D) 700).scope (bdR rows_700) := bindOk fun r hr => by
  rcases List.mem_cons.mp hr with rfl | hr
  · exact sem_700_0 w D H
  cases hr
theorem cs_705 : cSs 60 (fdT (T7 w D) 705).scope (stT' (fdT (T7 w D) 705)) = b_law := by kernel_rfl
theorem pk_705_0 : ∀ vs us : List Value, vs.length = 1 → us.length = 0 → ∃ bs, (∀ S, peek (fragT (T7 w D) []) S (bindArgs (fdT (T7 w D) 705) ⟨vs, (([] : List Nat).map dec).zip us⟩) = some bs) ∧ OutRel (T7 w D) 706 vs us [(128026154263411, .arg 0)] bs := by
  intro vs us h1 h2
  match vs, h1, us, h2 with
  | [v0], _, [], _ => exact ⟨[(dec 128026154263411, v0)], fun S => by kernel_rfl, (.arg .nil)⟩
theorem sem_705_0 {B : Base} {κ₀ : Kw} (H : HasT (T7 w D) 706 B κ₀) : RowSem B κ₀ (fdT (T7 w D) 705) (fdT (T7 w D) 705).scope ⟨1, [], [(128026154263411, .arg 0)]⟩ := row_plain H (as := []) (by kernel_rfl) (by kernel_rfl) (pk_705_0 w D)
theorem bind_705 {B : Base} {κ₀ : Kw} (H : HasT (T7 w D) 706 B κ₀) : BindOk B κ₀ (fdT (T7 w D) 705) (fdT (T7 w D) 705).scope (bdR rows_705) := bindOk fun r hr => by
  rcases List.mem_cons.mp hr with rfl | hr
  · exact sem_705_0 w D H
  cases hr
end
end Sm
end
section
set_option maxRecDepth 100000
set_option linter.unusedVariables false
namespace Sm
open PySem PySem.F PySem.Calls PySem.W PyProof.Rows
section
variable (w : World) (D : Obj)
theorem g7_ok : gOkB (T7 w D) 706 G7 = true := by kernel_rfl
theorem cl_168 {B : Base} {κ₀ : Kw} (H : HasT (T7 w D) 706 B κ₀) : ClsOk B κ₀ 168 clsConnection := cls_plain H (by kernel_rfl) (by kernel_rfl) rfl
theorem cl_203 {B : Base} {κ₀ : Kw} (H : HasT (T7 w D) 706 B κ₀) : ClsOk B κ₀ 203 clsHandler := cls_plain H (by kernel_rfl) (by kernel_rfl) rfl
theorem cl_369 {B : Base} {κ₀ : Kw} (H : HasT (T7 w D) 706 B κ₀) : ClsOk B κ₀ 369 clsSession := cls_plain H (by kernel_rfl) (by kernel_rfl) rfl
theorem cl_390 {B : Base} {κ₀ : Kw} (H : HasT (T7 w D) 706 B κ₀) : ClsOk B κ₀ 390 clsEnvelope := cls_plain H (by kernel_rfl) (by kernel_rfl) rfl
theorem cl_672 {B : Base} {κ₀ : Kw} (H : HasT (T7 w D) 706 B κ₀) : ClsOk B κ₀ 672 clsSMTP := cls_plain H (by kernel_rfl) (by kernel_rfl) rfl
theorem cl_31 {B : Base} {κ₀ : Kw} (H : HasT (T7 w D) 706 B κ₀) : ClsOk B κ₀ 31 clsCancelledError := cls_exc (up := ["Exception", "BaseException", "object"]) H (by kernel_rfl) (by kernel_rfl) rfl excBase_Exception rfl
theorem cl_77 {B : Base} {κ₀ : Kw} (H : HasT (T7 w D) 706 B κ₀) : ClsOk B κ₀ 77 clsError := cls_exc (up := ["ValueError", "Exception", "BaseException", "object"]) H (by kernel_rfl) (by kernel_rfl) rfl excBase_ValueError rfl
theorem cl_51 {B : Base} {κ₀ : Kw} (H : HasT (T7 w D) 706 B κ₀) : ClsOk B κ₀ 51 clsLimitOverrunError := cls_exc (up := ["Exception", "BaseException", "object"]) H (by kernel_rfl) (by kernel_rfl) rfl excBase_Exception rfl
theorem g7_get {B : Base} {κ₀ : Kw} (H : HasT (T7 w D) 706 B κ₀) (h0 : ∀ i, κ₀.rho i = none) : GOk B κ₀ G7 := gOk H (g7_ok w D) (fun C c e => by
  have e := mem_lookup e
  rcases List.mem_cons.mp e with q | e
  · obtain ⟨rfl, rfl⟩ := Prod.mk.inj q; exact cl_168 w D H
  rcases List.mem_cons.mp e with q | e
  · obtain ⟨rfl, rfl⟩ := Prod.mk.inj q; exact cl_203 w D H
  rcases List.mem_cons.mp e with q | e
  · obtain ⟨rfl, rfl⟩ := Prod.mk.inj q; exact cl_369 w D H
  rcases List.mem_cons.mp e with q | e
  · obtain ⟨rfl, rfl⟩ := Prod.mk.inj q; exact cl_390 w D H
  rcases List.mem_cons.mp e with q | e
  · obtain ⟨rfl, rfl⟩ := Prod.mk.inj q; exact cl_672 w D H
  rcases List.mem_cons.mp e with q | e
  · obtain ⟨rfl, rfl⟩ := Prod.mk.inj q; exact cl_31 w D H
  rcases List.mem_cons.mp e with q | e
  · obtain ⟨rfl, rfl⟩ := Prod.mk.inj q; exact cl_77 w D H
  rcases List.mem_cons.mp e with q | e
  · obtain ⟨rfl, rfl⟩ := Prod.mk.inj q; exact cl_51 w D H
  cases e) h0
theorem tab_ok {B : Base} {κ₀ : Kw} (H : HasT (T7 w D) 706 B κ₀) : ∀ e ∈ tab7, ∃ fd sc body, FnOk B e.1 fd sc body ∧ BindOk B κ₀ fd sc (bdR e.2.2) ∧ cSs 60 sc body = e.2.1 :=
  (List.forall_mem_cons.mpr ⟨⟨_, _, _, fnOk H (a := 94) (by kernel_rfl), bind_94 w D H, cs_94 w D⟩,
  (List.forall_mem_cons.mpr ⟨⟨_, _, _, fnOk H (a := 101) (by kernel_rfl), bind_101 w D H, cs_101 w D⟩,
  (List.forall_mem_cons.mpr ⟨⟨_, _, _, fnOk H (a := 108) (by kernel_rfl), bind_108 w D H, cs_108 w D⟩,
  (List.forall_mem_cons.mpr ⟨⟨_, _, _, fnOk H (a := 116) (by kernel_rfl), bind_116 w D H, cs_116 w D⟩,
  (List.forall_mem_cons.mpr ⟨⟨_, _, _, fnOk H (a := 123) (by kernel_rfl), bind_123 w D H, cs_123 w D⟩,
  (List.forall_mem_cons.mpr ⟨⟨_, _, _, fnOk H (a := 130) (by kernel_rfl), bind_130 w D H, cs_130 w D⟩,
  (List.forall_mem_cons.mpr ⟨⟨_, _, _, fnOk H (a := 144) (by kernel_rfl), bind_144 w D H, cs_144 w D⟩,
  (List.forall_mem_cons.mpr ⟨⟨_, _, _, fnOk H (a := 151) (by kernel_rfl), bind_151 w D H, cs_151 w D⟩,
  (List.forall_mem_cons.mpr ⟨⟨_, _, _, fnOk H (a := 158) (by kernel_rfl), bind_158 w D H, cs_158 w D⟩,
  (List.forall_mem_cons.mpr ⟨⟨_, _, _, fnOk H (a := 165) (by kernel_rfl), bind_165 w D H, cs_165 w D⟩,
  (List.forall_mem_cons.mpr ⟨⟨_, _, _, fnOk H (a := 186) (by kernel_rfl), bind_186 w D H, cs_186 w D⟩,
  (List.forall_mem_cons.mpr ⟨⟨_, _, _, fnOk H (a := 256) (by kernel_rfl), bind_256 w D H, cs_256 w D⟩,
  (List.forall_mem_cons.mpr ⟨⟨_, _, _, fnOk H (a := 264) (by kernel_rfl), bind_264 w D H, cs_264 w D⟩,
  (List.forall_mem_cons.mpr ⟨⟨_, _, _, fnOk H (a := 366) (by kernel_rfl), bind_366 w D H, cs_366 w D⟩,
  (List.forall_mem_cons.mpr ⟨⟨_, _, _, fnOk H (a := 387) (by kernel_rfl), bind_387 w D H, cs_387 w D⟩,
  (List.forall_mem_cons.mpr ⟨⟨_, _, _, fnOk H (a := 414) (by kernel_rfl), bind_414 w D H, cs_414 w D⟩,
  (List.forall_mem_cons.mpr ⟨⟨_, _, _, fnOk H (a := 421) (by kernel_rfl), bind_421 w D H, cs_421 w D⟩,
  (List.forall_mem_cons.mpr ⟨⟨_, _, _, fnOk H (a := 428) (by kernel_rfl), bind_428 w D H, cs_428 w D⟩,
  (List.forall_mem_cons.mpr ⟨⟨_, _, _, fnOk H (a := 435) (by kernel_rfl), bind_435 w D H, cs_435 w D⟩,
  (List.forall_mem_cons.mpr ⟨⟨_, _, _, fnOk H (a := 442) (by kernel_rfl), bind_442 w D H, cs_442 w D⟩,
  (List.forall_mem_cons.mpr ⟨⟨_, _, _, fnOk H (a := 449) (by kernel_rfl), bind_449 w D H, cs_449 w D⟩,
  (List.forall_mem_cons.mpr ⟨⟨_, _, _, fnOk H (a := 464) (by kernel_rfl), bind_464 w D H, cs_464 w D⟩,
  (List.forall_mem_cons.mpr ⟨⟨_, _, _, fnOk H (a := 471) (by kernel_rfl), bind_471 w D H, cs_471 w D⟩,
  (List.forall_mem_cons.mpr ⟨⟨_, _, _, fnOk H (a := 478) (by kernel_rfl), bind_478 w D H, cs_478 w D⟩,
  (List.forall_mem_cons.mpr ⟨⟨_, _, _, fnOk H (a := 485) (by kernel_rfl), bind_485 w D H, cs_485 w D⟩,
  (List.forall_mem_cons.mpr ⟨⟨_, _, _, fnOk H (a := 492) (by kernel_rfl), bind_492 w D H, cs_492 w D⟩,
  (List.forall_mem_cons.mpr ⟨⟨_, _, _, fnOk H (a := 506) (by kernel_rfl), bind_506 w D H, cs_506 w D⟩,
  (List.forall_mem_cons.mpr ⟨⟨_, _, _, fnOk H (a := 549) (by kernel_rfl), bind_549 w D H, cs_549 w D⟩,
  (List.forall_mem_cons.mpr ⟨⟨_, _, _, fnOk H (a := 571) (by kernel_rfl), bind_571 w D H, cs_571 w D⟩,
  (List.forall_mem_cons.mpr ⟨⟨_, _, _, fnOk H (a := 688) (by kernel_rfl), bind_688 w D H, cs_688 w D⟩,
  (List.forall_mem_cons.mpr ⟨⟨_, _, _, fnOk H (a := 695) (by kernel_rfl), bind_695 w D H, cs_695 w D⟩,
  (List.forall_mem_cons.mpr ⟨⟨_, _, _, fnOk H (a := 700) (by kernel_rfl), bind_700 w D H, cs_700 w D⟩,
  (List.forall_mem_cons.mpr ⟨⟨_, _, _, fnOk H (a := 705) (by kernel_rfl), bind_705 w D H, cs_705 w D⟩,
  (fun _ h => by cases h)⟩)⟩)⟩)⟩)⟩)⟩)⟩)⟩)⟩)⟩)⟩)⟩)⟩)⟩)⟩)⟩)⟩)⟩)⟩)⟩)⟩)⟩)⟩)⟩)⟩)⟩)⟩)⟩)⟩)⟩)⟩)⟩)⟩)
theorem callJ7 {B : Base} {κ₀ : Kw} (H : HasT (T7 w D) 706 B κ₀) (h0 : ∀ i, κ₀.rho i = none) : ∀ n hd f, CallJ B κ₀ (2 * n) hd f (L7 n hd f)
  | 0, hd, f => fun args kws σ Q X hS => hS.elim
  | n + 1, hd, f => by
    show CallJ B κ₀ (2 * n + 2) hd f (match tab7.lookup f with
      | some (b, rows) => bodyS G7 blts (L7 n) hd (bdR rows) b
      | none => fun _ _ _ _ _ => False)
    cases e : tab7.lookup f with
    | none => exact fun args kws σ Q X hS => hS.elim
    | some p =>
      obtain ⟨b, rows⟩ := p
      obtain ⟨fd, sc, body, h1, h2, h3⟩ := tab_ok w D H _ (mem_lookup e)
      have := callJ_body (g7_get w D H h0) (fun hd => blts_ok (hd := hd)) (fun hd => callJ7 H h0 n hd) h1 h2 60 hd
      rw [h3] at this
      exact this
end
theorem ints_rels {κ : Kw} : ∀ {vs : List Value} {ns : List Int}, IntsAre vs ns → VRels κ (ns.map .int) vs
  | _, _, .nil => .nil
  | _, _, .cons n t h => .cons (.int n t) (ints_rels h)
theorem law_entry (w : World) (D : Obj) : nsFind (esT (T7 w D) mainGlobals) Hd.lawName = some (.ref 705) := by kernel_rfl
theorem kw0_tups {t : BT} {N : Nat} {sa : Addr} {svs : List Value} (h : tupT t N sa = none) : ∀ a vs, tupT t N a = some vs → (kw0 t N sa svs).imm a = some (.tup vs) := fun a vs e => by
  show (if a = sa then some (Imm.lst svs) else (tupT t N a).map .tup) = _
  rw [if_neg (fun q => by subst q; rw [h] at e; cases e), e]; rfl
section
variable {s₁ : Shared} {w : World} {D : Obj} {sa : Addr} {svs : List Value} {ns : List Int}
theorem start_has (hY : ∀ b o, (hpT (T7 w D) 706).get? b = some o → s₁.heap.get? b = some o) (hL : s₁.heap.IsList sa svs.toArray) : HasT (T7 w D) 706 ⟨Hd.pw, w, s₁.heap, s₁.os⟩ (kw0 (T7 w D) 706 sa svs) := by
  refine ⟨hY, kw0_tups ?_⟩
  cases e : tupT (T7 w D) 706 sa with
  | none => rfl
  | some vs =>
    obtain ⟨o, n, h1, h2, _⟩ := tup_get e
    obtain ⟨o', h3, h4, _⟩ := hL
    rw [hY _ _ h1] at h3
    obtain rfl := Option.some.inj h3
    rw [h2] at h4
    exact absurd h4 (by decide)
theorem start_rep (hY : ∀ b o, (hpT (T7 w D) 706).get? b = some o → s₁.heap.get? b = some o) (hL : s₁.heap.IsList sa svs.toArray) (hg : s₁.gens = #[]) : Rep ⟨Hd.pw, w, s₁.heap, s₁.os⟩ (kw0 (T7 w D) 706 sa svs) (fun _ => none) [] s₁ where
  stays := fun _ _ h => h
  apart := fun _ _ h => by cases h
  live := fun _ _ h => by cases h
  dom := fun _ _ h => by cases h
  objs := fun _ _ h => by cases h
  bound := fun _ _ h => by cases h
  imm := fun a v h => by
    refine ⟨rfl, ?_⟩
    replace h : (if a = sa then some (Imm.lst svs) else (tupT (T7 w D) 706 a).map .tup) = some v := h
    split at h
    · rename_i e; subst e
      obtain rfl : Imm.lst svs = v := Option.some.inj h
      exact ⟨hL, hL⟩
    · obtain ⟨vs, e, rfl⟩ := Option.map_eq_some_iff.mp h
      obtain ⟨o, n, h1, h2, h3, h4⟩ := tup_get e
      exact ⟨o, n, hY _ _ h1, h2, h3, h4⟩
  gens := hg
  os := rfl
set_option maxHeartbeats 2000000 in
theorem law_run (hY : ∀ b o, (hpT (T7 w D) 706).get? b = some o → s₁.heap.get? b = some o) (hL : s₁.heap.IsList sa svs.toArray) (hg : s₁.gens = #[]) (hI : IntsAre svs ns) (hn : ns.length ≤ 63) :
    codeAny (model Hd.pw w) callerA (.call (.ref 705) ⟨[.ref sa], []⟩) (fun r s' => r = .ok (.ret (.bool true)) ∧ (∀ b o, s₁.heap.get? b = some o → s'.heap.get? b = some o) ∧ s'.os = s₁.os ∧ s'.gens = #[]) s₁ := by
  have H := start_has hY hL
  have hR := start_rep hY hL hg
  have hc := callJ7 w D H (fun _ => rfl) 6 false 705 [.fls (ns.map .int)] [] [] (fun v _ => v = .bool true) (fun _ _ => False) (l_law 0 (by omega) fun _ => rfl) callerA _ (fun _ => none) s₁ [.ref sa] []
    ⟨⟨[], rfl, fun _ h => by cases h⟩, by decide, by decide, fun _ => rfl⟩ (.refl _) hR (fun _ h => by cases h) (.cons (.fls (if_pos rfl) (ints_rels hI)) .nil) .nil
  refine codeAny_mono hc fun r s' h => ?_
  rcases h with ⟨av, σ', v, κ', own', rfl, rfl, hr, g, hv⟩ | ⟨_, _, _, _, _, h, _⟩
  · cases hv
    exact ⟨rfl, hr.stays, hr.os, hr.gens⟩
  · exact h.elim
end
set_option maxHeartbeats 4000000 in
theorem walk7 : Hd.Walk := by
  intro w s₀ s₁ mg mb G hY fa o pm cd doc dV kV ho hd hcd hD hmg hg args vals as hpre hlay hrd hwl hlo
  obtain ⟨D, hYD⟩ := hY
  have hfa : fa = 705 := by
    have h1 := law_entry w D
    have h2 := G.T.g
    have h3 := (ns_get (t := T7 w D) (N := 706) (a := mainGlobals) (by kernel_rfl)).keeps hYD
    rw [defOf_name Hd.hdef] at hmg
    obtain ⟨o1, es1, ep1, e1, e2, _, e3⟩ := h2
    obtain ⟨o2, es2, ep2, f1, f2, _, f3⟩ := h3
    rw [e1] at f1
    obtain rfl := Option.some.inj f1
    rw [e2] at f2
    cases f2
    rw [← f3, e3, hmg] at h1
    exact Value.ref.inj (Option.some.inj h1)
  subst hfa
  wrow_args hpre hlay hrd hwl hlo
  rename_i ns _ _ _ _ _ _ _ sa svs _ hL _ _ _ hI _ hn _
  refine enter_call (codeAny_mono (law_run (D := D) (ns := ns) hYD hL hg hI (by omega)) fun r s' h => ?_)
  obtain ⟨rfl, h1, h2, h3⟩ := h
  refine ⟨.inl ⟨_, .bool true, [], rfl, fun _ => rfl, .bool _, ?_, ?_⟩, .of_keep h1, h2, .of_eq h3⟩
  · with_unfolding_all rfl
  · exact fun _ => ⟨List.nodup_nil, fun _ h => by cases h⟩
theorem done7 : PySem.Challenge.rw_fc0003_07.Holds := Hd.reduce walk7
end Sm
end
theorem PySem.Challenge.cw_fc0003_07_holds : PySem.Challenge.rw_fc0003_07.Holds :=
  Sm.done7
