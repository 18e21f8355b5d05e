import PyProof.Rows.All
import Wide.All
import OpenK.AllK
import Wide.FinOn
import Open.Tops
import PySem.Challenge.RW_bu5045_01
set_option Elab.async false
/- HdA -/
section
open PySem PySem.W PyProof.Rows
set_option maxRecDepth 100000
namespace Mine
/-- a stand-in: the same statement upon ints, behind many Nones, so that it is a piece of its own -/
def fset (n : String) (l : Nat) (a b c : Int) : Stmt :=
  .Assign [.Name n ⟨l, 0, l, 17⟩]
    (.BoolOp .Or (List.replicate 320 (.Constant .none 0 ⟨l, 20, l, 29⟩) ++ [.Call (.Name "frozenset" ⟨l, 20, l, 29⟩)
      [.Set [.Constant (.int a) 0 ⟨l, 31, l, 34⟩, .Constant (.int b) 0 ⟨l, 36, l, 39⟩, .Constant (.int c) 0 ⟨l, 41, l, 44⟩] 0 ⟨l, 30, l, 45⟩] [] ⟨l, 20, l, 46⟩]) ⟨l, 20, l, 46⟩) ⟨l, 0, l, 46⟩
def progI : Program := { PySem.Challenge.pw_bu5045_01 with main := { PySem.Challenge.pw_bu5045_01.main with body := (PySem.Challenge.pw_bu5045_01.main.body.set 18 (fset "_OPENING_BRACKETS" 127 1 2 3)).set 19 (fset "_CLOSING_BRACKETS" 128 4 5 6) } }
end Mine
end
/- HdB -/
section
open PySem PySem.W PyProof.Rows
set_option maxRecDepth 100000
namespace Mine
set_option maxHeartbeats 0 in
open_shared topI for progI leaving 0
end Mine
end
/- HdC -/
section
open PySem PySem.W PyProof.Rows
set_option maxRecDepth 100000
set_option maxHeartbeats 0
namespace Mine
/-- the four objects that the two frozenset statements make -/
def put4 (d1 d2 d3 d4 : Obj) (t : BT) : BT := (((t.set 268 fun _ => d1).set 269 fun _ => d2).set 270 fun _ => d3).set 271 fun _ => d4

theorem tail_a_q (d1 d2 d3 d4 : Obj) : ∀ (w : World),
  (fun p b os =>
      Fast.tw10110043849684766642 Fast.tw14364793385576792824 p w 11 (some (Value.ref 6)) 1 83
        { tree := put4 d1 d2 d3 d4 (Fast.tw17070430712069419555 w.params), n := 272, life := { }, gens := { toList := [] }, drawn := { },
          toks := 564, os := os }
        (piecesOf Fast.tw14385299527563157337 Mine.topI.env_1 (Code.body b Mine.topI.env_1)
          { line := 128, col := 0, endLine := 128, endCol := 17 }
          [topFrame { line := 0, col := 0, endLine := 0, endCol := 0 }])) =
    fun p b os =>
    some
      (Flow.next,
        { tree := put4 d1 d2 d3 d4 (Fast.tw14651061589673550743 w.params), n := 286, life := { }, gens := { toList := [] }, drawn := { },
          toks := 588, os := os },
        Code.body b Mine.topI.env_1, { line := 152, col := 0, endLine := 152, endCol := 12 }) := by
  intro w
  kernel_rfl!

theorem tail_a (d1 d2 d3 d4 : Obj) : ∀ (w : World),
  (fun p b os =>
      segRunT treeTable p w 11 (some (Value.ref 6)) 1 83
        { tree := put4 d1 d2 d3 d4 (Mine.topI.tree_436 w.params), n := 272, life := { }, gens := { toList := [] }, drawn := { },
          toks := 564, os := os }
        (piecesOf Mine.topI.sts_444 Mine.topI.env_1 (Code.body b Mine.topI.env_1)
          { line := 128, col := 0, endLine := 128, endCol := 17 }
          [topFrame { line := 0, col := 0, endLine := 0, endCol := 0 }])) =
    fun p b os =>
    some
      (Flow.next,
        { tree := put4 d1 d2 d3 d4 (Mine.topI.tree_459 w.params), n := 286, life := { }, gens := { toList := [] }, drawn := { },
          toks := 588, os := os },
        Code.body b Mine.topI.env_1, { line := 152, col := 0, endLine := 152, endCol := 12 }) := by
  intro w
  have h := tail_a_q d1 d2 d3 d4 w
  rw [← Fast.te10110043849684766642, ← Fast.te14364793385576792824, ← Fast.te17070430712069419555, ← Fast.te14385299527563157337, ← Fast.te14651061589673550743] at h
  exact h

theorem tail_b1_q (d1 d2 d3 d4 : Obj) : ∀ (w : World),
  (fun p b os =>
      Fast.tw10295753902157049106 Fast.tw14364793385576792824 p w 11 (some (Value.ref 6)) 1 400
        { tree := put4 d1 d2 d3 d4 (Fast.tw14651061589673550743 w.params), n := 286, life := { }, gens := { toList := [] }, drawn := { },
          toks := 588, os := os }
        (piecesOf Fast.tw17750681460041673507 Mine.topI.env_1 (Code.body b Mine.topI.env_1)
          { line := 152, col := 0, endLine := 152, endCol := 12 }
          [topFrame { line := 0, col := 0, endLine := 0, endCol := 0 }])) =
    fun p b os =>
    some
      ({ tree := put4 d1 d2 d3 d4 (Fast.tw8615828135763821426 w.params), n := 350, life := { }, gens := { toList := [] }, drawn := { },
          toks := 662, os := os },
        Mine.topI.thread_656 w p b os) := by
  intro w
  kernel_rfl!

theorem tail_b1 (d1 d2 d3 d4 : Obj) : ∀ (w : World),
  (fun p b os =>
      segGoT treeTable p w 11 (some (Value.ref 6)) 1 400
        { tree := put4 d1 d2 d3 d4 (Mine.topI.tree_459 w.params), n := 286, life := { }, gens := { toList := [] }, drawn := { },
          toks := 588, os := os }
        (piecesOf Mine.topI.sts_461 Mine.topI.env_1 (Code.body b Mine.topI.env_1)
          { line := 152, col := 0, endLine := 152, endCol := 12 }
          [topFrame { line := 0, col := 0, endLine := 0, endCol := 0 }])) =
    fun p b os =>
    some
      ({ tree := put4 d1 d2 d3 d4 (Mine.topI.tree_656 w.params), n := 350, life := { }, gens := { toList := [] }, drawn := { },
          toks := 662, os := os },
        Mine.topI.thread_656 w p b os) := by
  intro w
  have h := tail_b1_q d1 d2 d3 d4 w
  rw [← Fast.te10295753902157049106, ← Fast.te14364793385576792824, ← Fast.te14651061589673550743, ← Fast.te17750681460041673507, ← Fast.te8615828135763821426] at h
  exact h

theorem tail_b2_q (d1 d2 d3 d4 : Obj) : ∀ (w : World),
  (fun p b os =>
      Fast.tw10295753902157049106 Fast.tw14364793385576792824 p w 11 (some (Value.ref 6)) 1 400
        { tree := put4 d1 d2 d3 d4 (Fast.tw8615828135763821426 w.params), n := 350, life := { }, gens := { toList := [] }, drawn := { },
          toks := 662, os := os }
        (Mine.topI.thread_656 w p b os)) =
    fun p b os =>
    some
      ({ tree := put4 d1 d2 d3 d4 (Fast.tw17908020928900296168 w.params), n := 388, life := { }, gens := { toList := [] }, drawn := { },
          toks := 700, os := os },
        Mine.topI.thread_696 w p b os) := by
  intro w
  kernel_rfl!

theorem tail_b2 (d1 d2 d3 d4 : Obj) : ∀ (w : World),
  (fun p b os =>
      segGoT treeTable p w 11 (some (Value.ref 6)) 1 400
        { tree := put4 d1 d2 d3 d4 (Mine.topI.tree_656 w.params), n := 350, life := { }, gens := { toList := [] }, drawn := { },
          toks := 662, os := os }
        (Mine.topI.thread_656 w p b os)) =
    fun p b os =>
    some
      ({ tree := put4 d1 d2 d3 d4 (Mine.topI.tree_696 w.params), n := 388, life := { }, gens := { toList := [] }, drawn := { },
          toks := 700, os := os },
        Mine.topI.thread_696 w p b os) := by
  intro w
  have h := tail_b2_q d1 d2 d3 d4 w
  rw [← Fast.te10295753902157049106, ← Fast.te14364793385576792824, ← Fast.te8615828135763821426, ← Fast.te17908020928900296168] at h
  exact h

theorem tail_b3_q (d1 d2 d3 d4 : Obj) : ∀ (w : World),
  (fun p b os =>
      Fast.tw10110043849684766642 Fast.tw14364793385576792824 p w 11 (some (Value.ref 6)) 1 465
        { tree := put4 d1 d2 d3 d4 (Fast.tw17908020928900296168 w.params), n := 388, life := { }, gens := { toList := [] }, drawn := { },
          toks := 700, os := os }
        (Mine.topI.thread_696 w p b os)) =
    fun p b os =>
    some
      (Flow.next,
        { tree := put4 d1 d2 d3 d4 (Fast.tw4408493747519007397 w.params), n := 415, life := { }, gens := { toList := [] }, drawn := { },
          toks := 749, os := os },
        Code.body b Mine.topI.env_1, { line := 153, col := 0, endLine := 233, endCol := 17 }) := by
  intro w
  kernel_rfl!

theorem tail_b3 (d1 d2 d3 d4 : Obj) : ∀ (w : World),
  (fun p b os =>
      segRunT treeTable p w 11 (some (Value.ref 6)) 1 465
        { tree := put4 d1 d2 d3 d4 (Mine.topI.tree_696 w.params), n := 388, life := { }, gens := { toList := [] }, drawn := { },
          toks := 700, os := os }
        (Mine.topI.thread_696 w p b os)) =
    fun p b os =>
    some
      (Flow.next,
        { tree := put4 d1 d2 d3 d4 (Mine.topI.tree_591 w.params), n := 415, life := { }, gens := { toList := [] }, drawn := { },
          toks := 749, os := os },
        Code.body b Mine.topI.env_1, { line := 153, col := 0, endLine := 233, endCol := 17 }) := by
  intro w
  have h := tail_b3_q d1 d2 d3 d4 w
  rw [← Fast.te10110043849684766642, ← Fast.te14364793385576792824, ← Fast.te17908020928900296168, ← Fast.te4408493747519007397] at h
  exact h

theorem tail_c_q (d1 d2 d3 d4 : Obj) : ∀ (w : World),
  (fun p b os =>
      Fast.tw10110043849684766642 Fast.tw14364793385576792824 p w 11 (some (Value.ref 6)) 1 10
        { tree := put4 d1 d2 d3 d4 (Fast.tw4408493747519007397 w.params), n := 415, life := { }, gens := { toList := [] }, drawn := { },
          toks := 749, os := os }
        (piecesOf Fast.tw12144243113778507614 Mine.topI.env_1 (Code.body b Mine.topI.env_1)
          { line := 153, col := 0, endLine := 233, endCol := 17 }
          [topFrame { line := 0, col := 0, endLine := 0, endCol := 0 }])) =
    fun p b os =>
    some
      (Flow.next,
        { tree := put4 d1 d2 d3 d4 (Fast.tw1872465718459345720 w.params), n := 415, life := { }, gens := { toList := [] }, drawn := { },
          toks := 751, os := os },
        Code.body b Mine.topI.env_1, { line := 234, col := 0, endLine := 234, endCol := 8 }) := by
  intro w
  kernel_rfl!

theorem tail_c (d1 d2 d3 d4 : Obj) : ∀ (w : World),
  (fun p b os =>
      segRunT treeTable p w 11 (some (Value.ref 6)) 1 10
        { tree := put4 d1 d2 d3 d4 (Mine.topI.tree_591 w.params), n := 415, life := { }, gens := { toList := [] }, drawn := { },
          toks := 749, os := os }
        (piecesOf Mine.topI.sts_700 Mine.topI.env_1 (Code.body b Mine.topI.env_1)
          { line := 153, col := 0, endLine := 233, endCol := 17 }
          [topFrame { line := 0, col := 0, endLine := 0, endCol := 0 }])) =
    fun p b os =>
    some
      (Flow.next,
        { tree := put4 d1 d2 d3 d4 (Mine.topI.tree_700 w.params), n := 415, life := { }, gens := { toList := [] }, drawn := { },
          toks := 751, os := os },
        Code.body b Mine.topI.env_1, { line := 234, col := 0, endLine := 234, endCol := 8 }) := by
  intro w
  have h := tail_c_q d1 d2 d3 d4 w
  rw [← Fast.te10110043849684766642, ← Fast.te14364793385576792824, ← Fast.te4408493747519007397, ← Fast.te12144243113778507614, ← Fast.te1872465718459345720] at h
  exact h

theorem tail_d1_q (d1 d2 d3 d4 : Obj) : ∀ (w : World),
  (fun p b os =>
      Fast.tw10295753902157049106 Fast.tw14364793385576792824 p w 11 (some (Value.ref 6)) 1 400
        { tree := put4 d1 d2 d3 d4 (Fast.tw1872465718459345720 w.params), n := 415, life := { }, gens := { toList := [] }, drawn := { },
          toks := 751, os := os }
        (piecesOf Fast.tw12324604175972271617 Mine.topI.env_1 (Code.body b Mine.topI.env_1)
          { line := 234, col := 0, endLine := 234, endCol := 8 }
          [topFrame { line := 0, col := 0, endLine := 0, endCol := 0 }])) =
    fun p b os =>
    some
      ({ tree := put4 d1 d2 d3 d4 (Fast.tw5429625376406133376 w.params), n := 476, life := { }, gens := { toList := [] }, drawn := { },
          toks := 829, os := os },
        Mine.topI.thread_881 w p b os) := by
  intro w
  kernel_rfl!

theorem tail_d1 (d1 d2 d3 d4 : Obj) : ∀ (w : World),
  (fun p b os =>
      segGoT treeTable p w 11 (some (Value.ref 6)) 1 400
        { tree := put4 d1 d2 d3 d4 (Mine.topI.tree_700 w.params), n := 415, life := { }, gens := { toList := [] }, drawn := { },
          toks := 751, os := os }
        (piecesOf Mine.topI.sts_703 Mine.topI.env_1 (Code.body b Mine.topI.env_1)
          { line := 234, col := 0, endLine := 234, endCol := 8 }
          [topFrame { line := 0, col := 0, endLine := 0, endCol := 0 }])) =
    fun p b os =>
    some
      ({ tree := put4 d1 d2 d3 d4 (Mine.topI.tree_881 w.params), n := 476, life := { }, gens := { toList := [] }, drawn := { },
          toks := 829, os := os },
        Mine.topI.thread_881 w p b os) := by
  intro w
  have h := tail_d1_q d1 d2 d3 d4 w
  rw [← Fast.te10295753902157049106, ← Fast.te14364793385576792824, ← Fast.te1872465718459345720, ← Fast.te12324604175972271617, ← Fast.te5429625376406133376] at h
  exact h

theorem tail_d2_q (d1 d2 d3 d4 : Obj) : ∀ (w : World),
  (fun p b os =>
      Fast.tw10295753902157049106 Fast.tw14364793385576792824 p w 11 (some (Value.ref 6)) 1 400
        { tree := put4 d1 d2 d3 d4 (Fast.tw5429625376406133376 w.params), n := 476, life := { }, gens := { toList := [] }, drawn := { },
          toks := 829, os := os }
        (Mine.topI.thread_881 w p b os)) =
    fun p b os =>
    some
      ({ tree := put4 d1 d2 d3 d4 (Fast.tw3676471690098109136 w.params), n := 515, life := { }, gens := { toList := [] }, drawn := { },
          toks := 866, os := os },
        Mine.topI.thread_922 w p b os) := by
  intro w
  kernel_rfl!

theorem tail_d2 (d1 d2 d3 d4 : Obj) : ∀ (w : World),
  (fun p b os =>
      segGoT treeTable p w 11 (some (Value.ref 6)) 1 400
        { tree := put4 d1 d2 d3 d4 (Mine.topI.tree_881 w.params), n := 476, life := { }, gens := { toList := [] }, drawn := { },
          toks := 829, os := os }
        (Mine.topI.thread_881 w p b os)) =
    fun p b os =>
    some
      ({ tree := put4 d1 d2 d3 d4 (Mine.topI.tree_922 w.params), n := 515, life := { }, gens := { toList := [] }, drawn := { },
          toks := 866, os := os },
        Mine.topI.thread_922 w p b os) := by
  intro w
  have h := tail_d2_q d1 d2 d3 d4 w
  rw [← Fast.te10295753902157049106, ← Fast.te14364793385576792824, ← Fast.te5429625376406133376, ← Fast.te3676471690098109136] at h
  exact h

theorem tail_d3_q (d1 d2 d3 d4 : Obj) : ∀ (w : World),
  (fun p b os =>
      Fast.tw10110043849684766642 Fast.tw14364793385576792824 p w 11 (some (Value.ref 6)) 1 278
        { tree := put4 d1 d2 d3 d4 (Fast.tw3676471690098109136 w.params), n := 515, life := { }, gens := { toList := [] }, drawn := { },
          toks := 866, os := os }
        (Mine.topI.thread_922 w p b os)) =
    fun p b os =>
    some
      (Flow.next,
        { tree := put4 d1 d2 d3 d4 (Fast.tw12652354717908663103 w.params), n := 530, life := { }, gens := { toList := [] }, drawn := { },
          toks := 885, os := os },
        Code.body b Mine.topI.env_1, { line := 235, col := 0, endLine := 308, endCol := 62 }) := by
  intro w
  kernel_rfl!

theorem tail_d3 (d1 d2 d3 d4 : Obj) : ∀ (w : World),
  (fun p b os =>
      segRunT treeTable p w 11 (some (Value.ref 6)) 1 278
        { tree := put4 d1 d2 d3 d4 (Mine.topI.tree_922 w.params), n := 515, life := { }, gens := { toList := [] }, drawn := { },
          toks := 866, os := os }
        (Mine.topI.thread_922 w p b os)) =
    fun p b os =>
    some
      (Flow.next,
        { tree := put4 d1 d2 d3 d4 (Mine.topI.tree_819 w.params), n := 530, life := { }, gens := { toList := [] }, drawn := { },
          toks := 885, os := os },
        Code.body b Mine.topI.env_1, { line := 235, col := 0, endLine := 308, endCol := 62 }) := by
  intro w
  have h := tail_d3_q d1 d2 d3 d4 w
  rw [← Fast.te10110043849684766642, ← Fast.te14364793385576792824, ← Fast.te3676471690098109136, ← Fast.te12652354717908663103] at h
  exact h

theorem tail_e_q (d1 d2 d3 d4 : Obj) : ∀ (w : World),
  (fun p b os =>
      Fast.tw10110043849684766642 Fast.tw14364793385576792824 p w 11 (some (Value.ref 6)) 1 186
        { tree := put4 d1 d2 d3 d4 (Fast.tw12652354717908663103 w.params), n := 530, life := { }, gens := { toList := [] }, drawn := { },
          toks := 885, os := os }
        (piecesOf Fast.tw499039247623445584 Mine.topI.env_1 (Code.body b Mine.topI.env_1)
          { line := 235, col := 0, endLine := 308, endCol := 62 }
          [topFrame { line := 0, col := 0, endLine := 0, endCol := 0 }])) =
    fun p b os =>
    some
      (Flow.next,
        { tree := put4 d1 d2 d3 d4 (Fast.tw11924749156807955923 w.params), n := 570, life := { }, gens := { toList := [] }, drawn := { },
          toks := 933, os := os },
        Code.body b Mine.topI.env_1, { line := 339, col := 0, endLine := 378, endCol := 15 }) := by
  intro w
  kernel_rfl!

theorem tail_e (d1 d2 d3 d4 : Obj) : ∀ (w : World),
  (fun p b os =>
      segRunT treeTable p w 11 (some (Value.ref 6)) 1 186
        { tree := put4 d1 d2 d3 d4 (Mine.topI.tree_819 w.params), n := 530, life := { }, gens := { toList := [] }, drawn := { },
          toks := 885, os := os }
        (piecesOf Mine.topI.sts_926 Mine.topI.env_1 (Code.body b Mine.topI.env_1)
          { line := 235, col := 0, endLine := 308, endCol := 62 }
          [topFrame { line := 0, col := 0, endLine := 0, endCol := 0 }])) =
    fun p b os =>
    some
      (Flow.next,
        { tree := put4 d1 d2 d3 d4 (Mine.topI.tree_967 w.params), n := 570, life := { }, gens := { toList := [] }, drawn := { },
          toks := 933, os := os },
        Code.body b Mine.topI.env_1, { line := 339, col := 0, endLine := 378, endCol := 15 }) := by
  intro w
  have h := tail_e_q d1 d2 d3 d4 w
  rw [← Fast.te10110043849684766642, ← Fast.te14364793385576792824, ← Fast.te12652354717908663103, ← Fast.te499039247623445584, ← Fast.te11924749156807955923] at h
  exact h

end Mine
end
/- HdD -/
section
open PySem PySem.W PyProof.Rows
set_option maxRecDepth 100000
set_option linter.unusedVariables false
namespace Mine
abbrev pw : Program := PySem.Challenge.pw_bu5045_01
abbrev Bq : List Frame := [topFrame ⟨0, 0, 0, 0⟩]
abbrev TR (w : World) (N : Nat) (s : Shared) (t : Thread) (r : Shared) : Prop := topRun treeTable pw w 11 (some (.ref 6)) N s t = some r

theorem TR.mono {w : World} {N M : Nat} {s r : Shared} {t : Thread} (h : TR w N s t r) (le : N ≤ M) : TR w M s t r := by
  have := topRun_mono (M - N) _ _ _ _ h
  rw [show N + (M - N) = M by omega] at this
  exact this
theorem TR.step {w : World} {N : Nat} {s s' r : Shared} {t t' : Thread} (hth : through t = false) (hok : stepOk 11 (some (.ref 6)) t = true)
    (hs : step (denote treeTable) pw w s t = .go s' t') (h : TR w N s' t' r) : TR w (1 + N) s t r := by
  show topRun _ _ _ _ _ (1 + N) s t = some r
  rw [Nat.add_comm]
  unfold topRun
  rw [hth, hok, hs]
  exact h

/-- the tree t, in the top's own frame, goes from s to s' within n steps and hands on a -/
def TW {α : Type} (w : World) (c : Code) (lv : List Value → List Value) (n : Nat) (s : Shared) (pos : Pos) (t : Sem α) (s' : Shared) (pos' : Pos) (a : α) : Prop :=
  ∀ (K : α → Sem Fin) (H : Value → Sem Fin) (N : Nat) (r : Shared), TR w N s' ⟨K a, c, pos', Bq⟩ r → TR w (n + N) s ⟨t.wrap K H id lv, c, pos, Bq⟩ r

section
variable {α β : Type} {w : World} {c : Code} {lv : List Value → List Value} {n k : Nat} {s s₁ s₂ : Shared} {pos pos₁ pos₂ : Pos} {a : α} {b : β}
theorem TW.mono {t : Sem α} (h : TW w c lv n s pos t s₁ pos₁ a) (le : n ≤ k) : TW w c lv k s pos t s₁ pos₁ a := fun K H N r q => (h K H N r q).mono (Nat.add_le_add_right le N)
theorem TW.pure : TW w c lv 0 s pos (pure a : Sem α) s pos a := fun K H N r q => by rw [Nat.zero_add]; exact q
theorem TW.bind {m : Sem α} {f : α → Sem β} (h₁ : TW w c lv n s pos m s₁ pos₁ a) (h₂ : TW w c lv k s₁ pos₁ (f a) s₂ pos₂ b) : TW w c lv (n + k) s pos (m >>= f) s₂ pos₂ b := fun K H N r q => by
  rw [Sem.bind_eq_wrap', Sem.wrap_wrap, Nat.add_assoc]
  exact h₁ (fun a => (f a).wrap K H id lv) _ _ _ (h₂ K H N r q)
theorem TW.keep {m : Sem α} {vs : List Value} (h : TW w c (fun l => lv (vs ++ l)) n s pos m s₁ pos₁ a) : TW w c lv n s pos (m.keep vs) s₁ pos₁ a := fun K H N r q => by
  rw [Sem.keep_eq_wrap, Sem.wrap_wrap]
  exact h _ _ N r q
theorem TW.holdRef {m : Sem α} {x : Addr} (h : TW w c (fun l => lv ([.ref x] ++ l)) n s pos m s₁ pos₁ a) : TW w c lv n s pos (holding [.ref x] m) s₁ pos₁ a := TW.keep h
theorem TW.rule {tag : String} : TW w c lv 1 s pos (PySem.rule tag) s pos () := fun K H N r q => TR.step rfl rfl (by cases s; rfl) q
theorem TW.standAt : TW w c lv 1 s pos (PySem.standAt pos₁) s pos₁ () := fun K H N r q => TR.step rfl rfl (by cases s; rfl) q
theorem TW.load {x : Addr} {o : Obj} (ho : s.heap.get? x = some o) : TW w c lv 1 s pos (PySem.load x) s pos o := fun K H N r q => by
  refine TR.step rfl rfl (t' := ⟨K o, c, pos, Bq⟩) ?_ q
  obtain ⟨heap, gens, drawn, toks, os⟩ := s
  show step _ _ _ _ ⟨.load x none _, _, _, _⟩ = _
  simp only [step]
  rw [show heap.get? x = some o from ho]
  rfl
theorem TW.update {x : Addr} {o : Obj} {f : Obj → Obj} (ho : s.heap.get? x = some o) (hx : 11 ≤ x) : TW w c lv 1 s pos (PySem.update x f) { s with heap := s.heap.update x f } pos () := fun K H N r q => by
  refine TR.step rfl ?_ (t' := ⟨K (), c, pos, Bq⟩) ?_ q
  · show (true && (Nat.ble 11 x || x == mainNs || x == cStatics || some (Value.ref 6) == some (Value.ref x))) = true
    rw [show Nat.ble 11 x = true from Nat.ble_eq.mpr hx]; rfl
  · obtain ⟨heap, gens, drawn, toks, os⟩ := s
    show step _ _ _ _ ⟨.update x none f _, _, _, _⟩ = _
    simp only [step]
    rw [if_pos (by rw [show heap.get? x = some o from ho]; rfl)]
    rfl
/-- a closed tree by evaluation -/
theorem TW.ofRun {t : Sem α} (res : α → Flow) (lv : List Value → List Value) (hinj : ∀ x, res x = res a → x = a)
    (h : segRun treeTable pw w 11 (some (.ref 6)) 1 n s ⟨t.wrap (fun x => .pure (.done (res x))) deadEnd id lv, c, pos, Bq⟩ = some (res a, s₁, c, pos₁)) : TW w c lv n s pos t s₁ pos₁ a := fun K H N r q => by
  obtain ⟨x, hx, hN⟩ := seg_top (res := res) (K' := K) (H' := H) (B := Bq) rfl n s ⟨t.wrap (fun x => .pure (.done (res x))) deadEnd id lv, c, pos, Bq⟩ ⟨t.wrap K H id lv, c, pos, Bq⟩ _ _ _ _ ⟨rfl, rfl, .inl ⟨rfl, rfl, t, rfl, rfl⟩⟩ h
  obtain rfl := hinj x hx
  exact hN N r q
end
end Mine
end
/- HdS -/
section
open PySem PySem.W PyProof.Rows
namespace Mine
/-- a table of mask 7 without dummies -/
structure Small (t : SetTable) (k : Nat) : Prop where
  mask : t.mask = 7
  size : t.place.size = k
  dum : t.dummies = #[]

theorem Small.slot {t : SetTable} {k : Nat} (h : Small t k) (j : Nat) : t.slot j = .empty ∨ ∃ i, t.slot j = .live i ∧ t.place[i]? = some j := by
  unfold SetTable.slot
  by_cases q : t.place[SetTable.below t.place j]? = some j
  · right; exact ⟨_, by simp [q], q⟩
  · left
    simp only [h.dum]
    have e : (t.place[SetTable.below t.place j]? == some j) = false := by simpa using q
    simp only [e, Bool.false_eq_true, if_false]
    have : SetTable.has #[] j = false := by
      unfold SetTable.has; simp
    simp [this]

/-- a place that the table's one or two places are not -/
theorem Small.free {t : SetTable} {k : Nat} (h : Small t k) {j : Nat} (hj : ∀ x ∈ t.place.toList, x ≠ j) : t.slot j = .empty := by
  rcases h.slot j with q | ⟨i, _, q⟩
  · exact q
  · have : j ∈ t.place.toList := by
      rw [Array.getElem?_eq_some_iff] at q
      obtain ⟨hi, q⟩ := q
      rw [← q]; exact Array.getElem_mem_toList _
    exact absurd rfl (hj j this)
theorem Small.live {t : SetTable} {k : Nat} (h : Small t k) {j : Nat} (hj : t.slot j ≠ .empty) : j ∈ t.place.toList := by
  rcases h.slot j with q | ⟨i, _, q⟩
  · exact absurd q hj
  · rw [Array.getElem?_eq_some_iff] at q
    obtain ⟨hi, q⟩ := q
    rw [← q]; exact Array.getElem_mem_toList _

/-- the road once nothing is left of the hash: eight leaps meet every place -/
def leap8 (i : Nat) : Nat := (i * 5 + 1) % 8
def road8 : Nat → Nat → List Nat
  | 0, _ => []
  | n + 1, i => i :: road8 n (leap8 i)
theorem road8_all : ∀ i < 8, ∀ a < 8, ∀ b < 8, ∃ j ∈ road8 8 i, j ≠ a ∧ j ≠ b := by decide +kernel

theorem go_one {t : SetTable} {hashAt : Nat → Int} {h : Int} (hm : t.mask = 7) (hno : ∀ i, hashAt i ≠ h) {k : Nat} (S : Small t k) (fuel : Nat) (p : SetTable.Probe) (hp : p.more = 0) (hd : p.dummy = none) :
    SetTable.probe.go t hashAt h (fuel + 1) p = if t.slot p.j = .empty then some (.empty p.j none) else SetTable.probe.go t hashAt h fuel { j := (p.i * 5 + 1 + p.perturb / 32) % 8, more := 0, i := (p.i * 5 + 1 + p.perturb / 32) % 8, perturb := p.perturb / 32, dummy := none } := by
  have adv : t.advance p = { j := (p.i * 5 + 1 + p.perturb / 32) % 8, more := 0, i := (p.i * 5 + 1 + p.perturb / 32) % 8, perturb := p.perturb / 32, dummy := none } := by
    unfold SetTable.advance
    rw [if_neg (by omega)]
    have hr : ∀ i, SetTable.runEnd 7 i = i := fun i => by
      unfold SetTable.runEnd; rw [if_neg (by omega)]
    simp only [SetTable.leap, hm, hr, hd]
    simp
  rw [SetTable.probe.go]
  rcases S.slot p.j with q | ⟨i, q, _⟩
  · rw [q, hd]; simp
  · rw [q]
    dsimp only
    have e : (hashAt i == h) = false := by simpa using hno i
    rw [e, adv]
    simp

/-- the end of the road -/
theorem go_road {t : SetTable} {hashAt : Nat → Int} {h : Int} (hm : t.mask = 7) (hno : ∀ i, hashAt i ≠ h) {k : Nat} (S : Small t k) : ∀ (n i fuel : Nat), n ≤ fuel → i < 8 → (∃ j ∈ road8 n i, t.slot j = .empty) →
    ∃ j, SetTable.probe.go t hashAt h fuel { j := i, more := 0, i := i, perturb := 0, dummy := none } = some (.empty j none) ∧ t.slot j = .empty ∧ j < 8
  | 0, _, _, _, _, h => by simp [road8] at h
  | n + 1, i, 0, hf, _, _ => absurd hf (by omega)
  | n + 1, i, fuel + 1, hf, hi, h => by
    rw [go_one hm hno S fuel _ rfl rfl]
    dsimp only
    by_cases q : t.slot i = .empty
    · rw [if_pos q]; exact ⟨i, rfl, q, hi⟩
    · rw [if_neg q]
      have h' : ∃ j ∈ road8 n (leap8 i), t.slot j = .empty := by
        obtain ⟨j, hj, e⟩ := h
        simp only [road8, List.mem_cons] at hj
        rcases hj with rfl | hj
        · exact absurd e q
        · exact ⟨j, hj, e⟩
      have := go_road hm hno S n (leap8 i) fuel (by omega) (Nat.mod_lt _ (by omega)) h'
      simpa [leap8] using this

theorem go_free {t : SetTable} {hashAt : Nat → Int} {h : Int} (hm : t.mask = 7) (hno : ∀ i, hashAt i ≠ h) {k : Nat} (S : Small t k) (hfree : ∀ i < 8, ∃ j ∈ road8 8 i, t.slot j = .empty) : ∀ (n i pt fuel : Nat), n + 8 ≤ fuel → i < 8 → pt < 32 ^ n →
    ∃ j, SetTable.probe.go t hashAt h fuel { j := i, more := 0, i := i, perturb := pt, dummy := none } = some (.empty j none) ∧ t.slot j = .empty ∧ j < 8
  | 0, i, pt, fuel, hf, hi, hp => by
    obtain rfl : pt = 0 := by simpa using hp
    exact go_road hm hno S 8 i fuel (by omega) hi (hfree i hi)
  | n + 1, i, pt, 0, hf, _, _ => absurd hf (by omega)
  | n + 1, i, pt, fuel + 1, hf, hi, hp => by
    rw [go_one hm hno S fuel _ rfl rfl]
    dsimp only
    by_cases q : t.slot i = .empty
    · rw [if_pos q]; exact ⟨i, rfl, q, hi⟩
    · rw [if_neg q]
      exact go_free hm hno S hfree n _ (pt / 32) fuel (by omega) (Nat.mod_lt _ (by omega)) (by rw [Nat.pow_succ] at hp; omega)

theorem two_of_small {t : SetTable} {k : Nat} (S : Small t k) (hk : k ≤ 2) : ∃ a b, ∀ x ∈ t.place.toList, x = a ∨ x = b := by
  have hl : t.place.toList.length ≤ 2 := by rw [Array.length_toList, S.size]; exact hk
  match h : t.place.toList, hl with
  | [], _ => exact ⟨0, 0, fun x hx => by simp at hx⟩
  | [a], _ => exact ⟨a, a, fun x hx => by simpa using hx⟩
  | [a, b], _ => exact ⟨a, b, fun x hx => by simpa using hx⟩
theorem road8_free {t : SetTable} {k : Nat} (S : Small t k) (hk : k ≤ 2) : ∀ i < 8, ∃ j ∈ road8 8 i, t.slot j = .empty := fun i hi => by
  obtain ⟨a, b, hab⟩ := two_of_small S hk
  have low : ∀ (n i : Nat), i < 8 → ∀ j ∈ road8 n i, j < 8 := by
    intro n
    induction n with
    | zero => intro i _ j hj; simp [road8] at hj
    | succ n ih =>
      intro i hi j hj
      simp only [road8, List.mem_cons] at hj
      rcases hj with rfl | hj
      · exact hi
      · exact ih _ (Nat.mod_lt _ (by omega)) j hj
  obtain ⟨j, hj, ja, jb⟩ := road8_all i hi (a % 8) (Nat.mod_lt _ (by omega)) (b % 8) (Nat.mod_lt _ (by omega))
  refine ⟨j, hj, S.free fun x hx => ?_⟩
  have := low 8 i hi j hj
  rcases hab x hx with rfl | rfl <;> omega

theorem freeSlot_small {t : SetTable} {k : Nat} (S : Small t k) (hk : k ≤ 2) (h : Int) : ∃ j, t.freeSlot h = some (j, false) ∧ t.slot j = .empty ∧ j < 8 := by
  have hb : SetTable.bits h < 32 ^ 13 := by
    unfold SetTable.bits
    have : h % (2 ^ 64 : Int) < 2 ^ 64 := Int.emod_lt_of_pos _ (by decide)
    have h0 : 0 ≤ h % (2 ^ 64 : Int) := Int.emod_nonneg _ (by decide)
    have e : (32 : Nat) ^ 13 = 36893488147419103232 := by decide
    have e2 : (2 : Int) ^ 64 = 18446744073709551616 := by decide
    rw [e]; rw [e2] at this h0
    rw [e2]
    omega
  obtain ⟨j, e, q, l⟩ := go_free (t := t) (hashAt := fun _ => h + 1) (h := h) S.mask (fun _ => by omega) S (road8_free S hk) 13 (SetTable.bits h % 8) (SetTable.bits h) (10 * SetTable.turns 7) (by decide) (Nat.mod_lt _ (by omega)) hb
  refine ⟨j, ?_, q, l⟩
  unfold SetTable.freeSlot SetTable.probe SetTable.probeStart
  have hr : SetTable.runEnd 7 (SetTable.bits h % 8) = SetTable.bits h % 8 := by unfold SetTable.runEnd; rw [if_neg (by omega)]
  simp only [S.mask, hr, Nat.sub_self]
  rw [e]
  rfl

theorem insertAt_size {α : Type} (xs : Array α) (p : Nat) (x : α) : (SetTable.insertAt xs p x).size = xs.size + 1 := by
  unfold SetTable.insertAt
  simp only [Array.size_append, Array.size_push, Array.size_extract]
  omega
theorem insertAt_perm {α : Type} (xs : Array α) (p : Nat) (x : α) : (SetTable.insertAt xs p x).toList.Perm (x :: xs.toList) := by
  unfold SetTable.insertAt
  rw [Array.toList_append, Array.toList_push, Array.toList_extract, Array.toList_extract]
  have e : (xs.toList.extract 0 p) ++ [x] ++ xs.toList.extract p xs.size = xs.toList.take p ++ x :: xs.toList.drop p := by
    simp only [List.extract_eq_take_drop, List.drop_zero, Nat.sub_zero, List.append_assoc, List.singleton_append]
    rw [show List.take (xs.size - p) (List.drop p xs.toList) = List.drop p xs.toList from List.take_of_length_le (by simp)]
  rw [e]
  exact (List.perm_middle).trans (by rw [List.take_append_drop])

/-- laying one more into a table of at most two -/
theorem layNew_small {t : SetTable} {es : Array (Int × Value)} (S : Small t es.size) (hk : es.size ≤ 2) (h : Int) (x : Value) :
    ∃ es' pl, layNew t es h x = (es', { t with place := pl }, false, false) ∧ es'.toList.Perm ((h, x) :: es.toList) ∧ Small { t with place := pl } (es.size + 1) := by
  obtain ⟨j, e, _, _⟩ := freeSlot_small S hk h
  unfold layNew
  rw [e]
  have hd : t.dummies = #[] := S.dum
  have hput : t.put j = ({ t with place := SetTable.insertAt t.place (SetTable.below t.place j) j }, SetTable.below t.place j) := by
    unfold SetTable.put
    have : SetTable.has t.dummies j = false := by rw [hd]; unfold SetTable.has; simp
    simp only [this]
    obtain ⟨_, _, _, _, _, _, _⟩ := t
    simp
  have S' : Small { t with place := SetTable.insertAt t.place (SetTable.below t.place j) j } (es.size + 1) := ⟨S.mask, by show (SetTable.insertAt _ _ _).size = _; rw [insertAt_size, S.size], hd⟩
  have hfit : SetTable.fits { t with place := SetTable.insertAt t.place (SetTable.below t.place j) j } (SetTable.insertAt es (SetTable.below t.place j) (h, x)).size = true := by
    unfold SetTable.fits SetTable.fill
    have h1 := S'.size
    dsimp only at h1 ⊢
    rw [h1, insertAt_size, hd, S.mask]
    simp only [beq_self_eq_true, Bool.true_and, decide_eq_true_eq]
    show es.size + 1 + 0 ≤ 7
    omega
  dsimp only
  rw [hput]
  refine ⟨_, _, ?_, insertAt_perm es (SetTable.below t.place j) (h, x), S'⟩
  simp only [SetTable.orStandIn, hfit]
  rfl
end Mine
end
/- HdE -/
section
open PySem PySem.W PyProof.Rows
set_option maxRecDepth 100000
set_option linter.unusedVariables false
namespace Mine
section
variable {w : World} {c : Code} {lv : List Value → List Value} {n : Nat} {s : Shared} {pos : Pos} {a : Addr} {es : Array (Int × Value)} {t : SetTable} {od : Option Addr} {sl : Array (Option Value)} {oc : Value}
theorem TW_setState (ho : s.heap.get? a = some ⟨oc, od, .set es n t, sl⟩) (hf : t.fits es.size = true) : TW w c lv 1 s pos (setState a) s pos (es, n, t) := by
  unfold setState
  refine TW.bind (n := 1) (k := 0) (TW.load ho) ?_
  dsimp only
  unfold SetTable.fits at hf
  simp only [Bool.and_eq_true, beq_iff_eq, decide_eq_true_eq] at hf
  rw [if_neg (by simp only [bne_iff_ne, ne_eq, Bool.or_eq_true, decide_eq_true_eq, not_or, Decidable.not_not]; omega)]
  exact TW.pure
theorem TW_storeSet {es' : Array (Int × Value)} {t' : SetTable} (ho : s.heap.get? a = some ⟨oc, od, .set es n t, sl⟩) (ha : 11 ≤ a) (hz : es'.size ≤ sizeLine) :
    TW w c lv 2 s pos (storeSet a es' t') { s with heap := s.heap.update a (Obj.putSet es' t') } pos () := by
  unfold storeSet
  refine TW.bind (n := 1) (k := 1) (TW.load ho) ?_
  dsimp only
  rw [if_neg (Nat.not_lt.mpr hz)]
  first | exact TW.update ho ha | exact TW.bind (n := 0) (k := 1) TW.pure (TW.update ho ha)
theorem Small.fits {t : SetTable} {k : Nat} (S : Small t k) (hk : k ≤ 7) : t.fits k = true := by
  unfold SetTable.fits SetTable.fill
  rw [S.size, S.dum, S.mask]
  simp; exact hk
theorem small_line {k : Nat} (hk : k ≤ 3) : k ≤ sizeLine := by rw [sizeLine_eq]; omega

theorem TW_addHashed {v : Str} {tok : Tok} (h : Int) (ho : s.heap.get? a = some ⟨oc, od, .set es n t, sl⟩) (ha : 11 ≤ a) (S : Small t es.size) (hk : es.size ≤ 2)
    (hstr : ∀ e ∈ es.toList, ∃ y ty, e.2 = .str y ty ∧ y ≠ v) :
    ∃ es' pl, es'.toList.Perm ((h, .str v tok) :: es.toList) ∧ Small { t with place := pl, plain := false } (es.size + 1) ∧
      TW w c lv 10 s pos (setAddHashed a (.str v tok) h) { s with heap := s.heap.update a (Obj.putSet es' { t with place := pl, plain := false }) } pos true := by
  obtain ⟨es', pl, eL, hp, S'⟩ := layNew_small S hk h (.str v tok)
  refine ⟨es', pl, hp, ⟨S'.mask, S'.size, S'.dum⟩, ?_⟩
  have hall : es.all (fun e => isExactStrKey e.2) = true := by
    rw [Array.all_eq_true']
    intro e he
    obtain ⟨y, ty, q, _⟩ := hstr e (Array.mem_toList_iff.mpr he)
    rw [q]; rfl
  have hsc : es.all (fun e => e.2.scannable) = true := by
    rw [Array.all_eq_true']
    intro e he
    obtain ⟨y, ty, q, _⟩ := hstr e (Array.mem_toList_iff.mpr he)
    rw [q]; rfl
  have hnone : es.findIdx? (fun e => e.2.isStr v) = none := by
    rw [Array.findIdx?_eq_none_iff]
    intro e he
    obtain ⟨y, ty, q, ne⟩ := hstr e (Array.mem_toList_iff.mpr he)
    rw [q]
    simpa [Value.isStr] using ne
  have hby : byScan (.str v tok) es = true := by
    unfold byScan scanBound
    rw [hsc]
    simp [Value.scannable]
    omega
  have hz : es'.size ≤ sizeLine := small_line (by
    have := hp.length_eq
    simp only [Array.length_toList, List.length_cons] at this
    omega)
  have hfull : SetTable.tooFull { t with place := pl, plain := false } = false := by
    unfold SetTable.tooFull SetTable.fill
    have h1 := S'.size; have h2 := S'.mask; have h3 := S'.dum
    dsimp only at h1 h2 h3 ⊢
    rw [h1, h2, h3]
    simp
    omega
  show TW w c lv 10 s pos (setAddHashedIn a (.str v tok) h 100000) _ pos true
  unfold setAddHashedIn
  refine TW.bind (n := 1) (k := 9) (TW_setState ho (S.fits (by omega))) ?_
  dsimp only
  rw [if_pos hby]
  refine TW.bind (n := 9) (k := 0) (a := some true) ?_ TW.pure
  unfold setAddByScan
  refine TW.bind (n := 1) (k := 8) TW.rule ?_
  have hscan : setScan a (.str v tok) h true es = pure .absent := by
    show (if es.all (fun e => isExactStrKey e.2) then setScanStrs a (.str v tok) v true es else _) = _
    rw [if_pos hall]
    unfold setScanStrs
    rw [hnone]
  rw [hscan]
  refine TW.bind (n := 0) (k := 8) TW.pure ?_
  dsimp only
  rw [eL]
  dsimp only
  refine TW.bind (n := 0) (k := 8) (a := ()) (s₁ := s) (pos₁ := pos) ?_ ?_
  · exact (TW.pure : TW w c lv 0 s pos (pure ()) s pos ())
  by_cases hpl : t.plain = true
  · rw [if_pos hpl]
    refine TW.bind (n := 0) (k := 8) (a := false) TW.pure ?_
    simp only [Bool.false_eq_true, if_false]
    refine TW.bind (n := 2) (k := 6) (TW_storeSet ho ha hz) ?_
    simp only [hfull]
    exact TW.mono TW.pure (by omega)
  · rw [if_neg hpl]
    refine TW.bind (n := 0) (k := 8) (a := true) TW.pure ?_
    simp only [if_true]
    have e : { t with place := pl, plain := false } = ({ t with place := pl } : SetTable) := by
      cases t; simp only [SetTable.mk.injEq, true_and]; simpa using Eq.symm (by simpa using hpl)
    rw [e] at hfull ⊢
    refine TW.bind (n := 2) (k := 6) (TW_storeSet ho ha hz) ?_
    simp only [hfull]
    exact TW.mono TW.pure (by omega)
end
end Mine
end
/- HdF -/
section
open PySem PySem.W PyProof.Rows
set_option maxRecDepth 100000
set_option linter.unusedVariables false
namespace Mine
noncomputable abbrev ev : Env := topI.env_1
/-- the text's own statement -/
def frz (n : String) (l : Nat) (x y z : String) : Stmt :=
  .Assign [.Name n ⟨l, 0, l, 17⟩] (.Call (.Name "frozenset" ⟨l, 20, l, 29⟩)
      [.Set [.Constant (.str x) 0 ⟨l, 31, l, 34⟩, .Constant (.str y) 0 ⟨l, 36, l, 39⟩, .Constant (.str z) 0 ⟨l, 41, l, 44⟩] 0 ⟨l, 30, l, 45⟩] [] ⟨l, 20, l, 46⟩) ⟨l, 0, l, 46⟩

theorem frz_body : pw.main.body = topI.sts_4 ++ (topI.sts_15 ++ (topI.sts_212 ++ (topI.sts_365 ++ (topI.sts_411 ++ ([frz "_OPENING_BRACKETS" 127 "(" "[" "{"] ++ ([frz "_CLOSING_BRACKETS" 128 ")" "]" "}"] ++
    (topI.sts_444 ++ (topI.sts_461 ++ (topI.sts_700 ++ (topI.sts_703 ++ (topI.sts_926 ++ []))))))))))) := by rfl

theorem exec_frz (n : String) (l : Nat) (x y z : String) (hs : swapsWith (.Call (.Name "frozenset" ⟨l, 20, l, 29⟩)
      [.Set [.Constant (.str x) 0 ⟨l, 31, l, 34⟩, .Constant (.str y) 0 ⟨l, 36, l, 39⟩, .Constant (.str z) 0 ⟨l, 41, l, 44⟩] 0 ⟨l, 30, l, 45⟩] [] ⟨l, 20, l, 46⟩) (some (.Name n ⟨l, 0, l, 17⟩)) l ev = pure false) :
   exec (frz n l x y z) ev = (do
    standAt ⟨l, 0, l, 46⟩
    let v ← (do
      let f ← eval (.Name "frozenset" ⟨l, 20, l, 29⟩) ev
      callWith ⟨l, 20, l, 46⟩ f [] [(false, do
          standAt ⟨l, 30, l, 45⟩
          let b ← inMainModule ev
          setDisplay .unsure b [(false, do let v ← constValue ev (.str x); standAt ⟨l, 30, l, 45⟩; pure v), (false, do let v ← constValue ev (.str y); standAt ⟨l, 30, l, 45⟩; pure v), (false, do let v ← constValue ev (.str z); standAt ⟨l, 30, l, 45⟩; pure v)])] [])
    standAt ⟨l, 0, l, 17⟩
    bindName ev n v
    pure .next) := by
  unfold frz
  rw [exec_Assign_Name (hs := hs)]
  rfl

abbrev HashOf (w : World) (v : Str) : Int := if v.cps.isEmpty then 0 else reduceHash (w.params.strHash v.cps)
set_option maxHeartbeats 0 in
theorem run_hash (w : World) (b : Bool) (v : Str) (tok : Tok) (heap : Heap) (gens : Array GenState) (drawn : Drawn) (toks : Nat) (os : OsState) (c : Code) (pos : Pos) (l0 : List Value) :
   segRun treeTable pw (w.withFollow "special-get-raises" b) 11 (some (.ref 6)) 1 60 ⟨heap, gens, drawn, toks, os⟩ ⟨(pyHash (.str v tok)).wrap (fun x => .pure (.done (.ret (.int x 0)))) deadEnd id (fun l => l0 ++ l), c, pos, Bq⟩
    = some (.ret (.int (HashOf w v) 0), ⟨heap, gens, drawn, toks + 1, os⟩, c, pos) := by
  rw [Fast.te14374325043358763698, Fast.te14364793385576792824, Fast.te10540108854288196387]
  cases b <;> kernel_rfl!
theorem TW_hash {w : World} {c : Code} {l0 : List Value} {s : Shared} {pos : Pos} {v : Str} {tok : Tok} : TW w c (fun l => l0 ++ l) 60 s pos (pyHash (.str v tok)) { s with toks := s.toks + 1 } pos (HashOf w v) := by
  refine byRow2 "special-get-raises" (P := fun w => TW w c (fun l => l0 ++ l) 60 s pos (pyHash (.str v tok)) { s with toks := s.toks + 1 } pos (HashOf w v)) (fun w => ?_) (fun w => ?_) w
  · exact TW.ofRun (res := fun x => .ret (.int x 0)) _ (fun x e => by cases e; rfl) (run_hash w false v tok s.heap s.gens s.drawn s.toks s.os c pos l0)
  · exact TW.ofRun (res := fun x => .ret (.int x 0)) _ (fun x e => by cases e; rfl) (run_hash w true v tok s.heap s.gens s.drawn s.toks s.os c pos l0)

section
variable {w : World} {c : Code} {lv : List Value → List Value} {l0 : List Value} {s : Shared} {pos : Pos} {a : Addr} {es : Array (Int × Value)} {t : SetTable}
theorem TW.ask : TW w c lv 1 s pos PySem.ask s pos ⟨pw, w.params⟩ := fun K H N r q => TR.step rfl rfl (by cases s; rfl) q
theorem TW.alloc {o : Obj} : TW w c lv 1 s pos (PySem.alloc o) { s with heap := s.heap.push o } pos s.heap.objs.size := fun K H N r q => TR.step rfl rfl (by cases s; rfl) q
theorem TW.fresh : TW w c lv 1 s pos PySem.fresh { s with toks := s.toks + 1 } pos s.toks := fun K H N r q => TR.step rfl rfl (by cases s; rfl) q
theorem TW.point : TW w c lv 1 s pos PySem.point s pos () := fun K H N r q => TR.step rfl rfl (by cases s; rfl) q
/-- one str more, its hash asked first -/
theorem TW_add {v : Str} {tok : Tok} {n : Nat} {oc : Value} {od : Option Addr} {sl : Array (Option Value)} (ho : s.heap.get? a = some ⟨oc, od, .set es n t, sl⟩) (ha : 11 ≤ a) (S : Small t es.size) (hk : es.size ≤ 2)
    (hstr : ∀ e ∈ es.toList, ∃ y ty, e.2 = .str y ty ∧ y ≠ v) :
    ∃ es' pl, es'.toList.Perm ((HashOf w v, .str v tok) :: es.toList) ∧ Small { t with place := pl, plain := false } (es.size + 1) ∧
      TW w c (fun l => l0 ++ l) 70 s pos (setAdd a (.str v tok)) { s with heap := s.heap.update a (Obj.putSet es' { t with place := pl, plain := false }), toks := s.toks + 1 } pos true := by
  obtain ⟨es', pl, h1, h2, h3⟩ := TW_addHashed (w := w) (c := c) (lv := fun l => l0 ++ l) (s := { s with toks := s.toks + 1 }) (pos := pos) (tok := tok) (HashOf w v) ho ha S hk hstr
  refine ⟨es', pl, h1, h2, ?_⟩
  show TW w c _ 70 s pos (pyHash (.str v tok) >>= fun h => setAddHashed a (.str v tok) h) _ pos true
  exact TW.bind (n := 60) (k := 10) TW_hash h3
end
end Mine
end
/- HdG -/
section
open PySem PySem.W PyProof.Rows
set_option maxRecDepth 100000
set_option linter.unusedVariables false
namespace Mine
theorem upd_const {h : Heap} {a : Addr} {o : Obj} {f : Obj → Obj} (ho : h.get? a = some o) : h.update a f = h.update a fun _ => f o := by
  have e : h.objs[a]? = some o := by
    unfold Heap.get? at ho
    split at ho
    · cases ho
    · exact ho
  obtain ⟨objs, life⟩ := h
  have : objs.modify a f = objs.modify a fun _ => f o := by
   apply Array.ext_getElem?
   intro i
   replace e : objs[a]? = some o := e
   rw [Array.getElem?_modify, Array.getElem?_modify]
   by_cases q : a = i
   · subst q; simp [e]
   · simp [q]
  exact congrArg (Heap.mk · life) this
theorem upd_upd {h : Heap} {a : Addr} {x : Obj} {f : Obj → Obj} : (h.update a fun _ => x).update a f = h.update a fun _ => f x := by
  obtain ⟨objs, life⟩ := h
  have : (objs.modify a fun _ => x).modify a f = objs.modify a fun _ => f x := by
   apply Array.ext_getElem?
   intro i
   rw [Array.getElem?_modify, Array.getElem?_modify, Array.getElem?_modify]
   by_cases q : a = i
   · subst q; simp [Function.comp_def]
   · simp [q]
  exact congrArg (Heap.mk · life) this
theorem get_upd {h : Heap} {a : Addr} {o x : Obj} (ho : h.get? a = some o) (hx : alive x = some x) : (h.update a fun _ => x).get? a = some x := by
  have e : h.objs[a]? = some o := by
    unfold Heap.get? at ho
    split at ho
    · cases ho
    · exact ho
  unfold Heap.get? Heap.update
  dsimp only
  rw [Array.getElem?_modify]
  simp only [if_true, e, Option.map_some]
  obtain ⟨c, d, dt, sl⟩ := x
  cases dt <;> first | rfl | cases hx
abbrev setO (es : Array (Int × Value)) (n : Nat) (t : SetTable) : Obj := ⟨.type "set", none, .set es n t, #[]⟩
abbrev tabl (pl : Array Nat) (led plain : Bool) : SetTable := { mask := 7, place := pl, dummies := #[], finger := 0, led := led, moves := 0, plain := plain }

section
variable {w : World} {c : Code} {l0 : List Value} {s : Shared} {pos : Pos} {a : Addr} {led : Bool} {x y z : Str} {tx ty tz : Tok}
theorem TW_three (ho : s.heap.get? a = some (setO #[] 0 (tabl #[] led true))) (ha : 11 ≤ a) (xy : y ≠ x) (xz : z ≠ x) (yz : z ≠ y) :
    ∃ es pl, es.toList.Perm [(HashOf w z, .str z tz), (HashOf w y, .str y ty), (HashOf w x, .str x tx)] ∧ pl.size = 3 ∧
      ∀ f : Value → PUnit → Sem (ForInStep PUnit), (∀ v u, f v u = (do let _ ← setAdd a v; pure (.yield ()))) →
        TW w c (fun l => l0 ++ l) 210 s pos (forIn [Value.str x tx, .str y ty, .str z tz] PUnit.unit f) { s with heap := s.heap.update a (fun _ => setO es 3 (tabl pl led false)), toks := s.toks + 1 + 1 + 1 } pos () := by
  have S0 : Small (tabl #[] led true) (#[] : Array (Int × Value)).size := ⟨rfl, rfl, rfl⟩
  obtain ⟨e1, p1, h1, S1, T1⟩ := TW_add (w := w) (c := c) (l0 := l0) (s := s) (pos := pos) (v := x) (tok := tx) ho ha S0 (by decide) (by simp)
  rw [upd_const ho] at T1
  have n1 : e1.size = 1 := by have := h1.length_eq; simpa using this
  have g1 : (s.heap.update a fun _ => Obj.putSet e1 { (tabl #[] led true) with place := p1, plain := false } (setO #[] 0 (tabl #[] led true))).get? a = some (setO e1 1 (tabl p1 led false)) := get_upd ho rfl
  have S1' : Small (tabl p1 led false) e1.size := by rw [n1]; exact S1
  have m1 : ∀ e ∈ e1.toList, ∃ u tu, e.2 = .str u tu ∧ u ≠ y := fun e he => by
    have := h1.mem_iff.mp he
    simp only [List.mem_cons, List.not_mem_nil, or_false, Array.toList_empty] at this
    subst this; exact ⟨x, tx, rfl, fun q => xy q.symm⟩
  obtain ⟨e2, p2, h2, S2, T2⟩ := TW_add (w := w) (c := c) (l0 := l0) (s := { s with heap := s.heap.update a fun _ => Obj.putSet e1 { (tabl #[] led true) with place := p1, plain := false } (setO #[] 0 (tabl #[] led true)), toks := s.toks + 1 }) (pos := pos) (v := y) (tok := ty) g1 ha S1' (by omega) m1
  rw [upd_const g1, upd_upd] at T2
  have n2 : e2.size = 2 := by have := h2.length_eq; rw [List.length_cons, Array.length_toList, Array.length_toList, n1] at this; exact this
  have S2' : Small (tabl p2 led false) e2.size := ⟨S2.mask, by have := S2.size; rw [n1] at this; rw [n2]; exact this, S2.dum⟩
  have g2 : (s.heap.update a fun _ => Obj.putSet e2 { (tabl p1 led false) with place := p2, plain := false } (setO e1 1 (tabl p1 led false))).get? a = some (setO e2 2 (tabl p2 led false)) := get_upd ho rfl
  have m2 : ∀ e ∈ e2.toList, ∃ u tu, e.2 = .str u tu ∧ u ≠ z := fun e he => by
    have := h2.mem_iff.mp he
    rcases List.mem_cons.mp this with rfl | this
    · exact ⟨y, ty, rfl, fun q => yz q.symm⟩
    · have := h1.mem_iff.mp this
      simp only [List.mem_cons, List.not_mem_nil, or_false, Array.toList_empty] at this
      subst this; exact ⟨x, tx, rfl, fun q => xz q.symm⟩
  obtain ⟨e3, p3, h3, S3, T3⟩ := TW_add (w := w) (c := c) (l0 := l0) (s := { s with heap := s.heap.update a fun _ => Obj.putSet e2 { (tabl p1 led false) with place := p2, plain := false } (setO e1 1 (tabl p1 led false)), toks := s.toks + 1 + 1 }) (pos := pos) (v := z) (tok := tz) g2 ha S2' (by omega) m2
  rw [upd_const g2, upd_upd] at T3
  refine ⟨e3, p3, ?_, ?_, fun f hf => ?_⟩
  · refine h3.trans (List.Perm.cons _ (h2.trans (List.Perm.cons _ (h1.trans ?_))))
    exact List.Perm.refl _
  · have := S3.size
    simp only at this
    rw [this, n2]
  · rw [List.forIn_cons, hf]
    refine TW.bind (n := 70) (k := 140) (a := .yield ()) (s₁ := _) (pos₁ := pos) (TW.bind (n := 70) (k := 0) T1 TW.pure) ?_
    dsimp only
    rw [List.forIn_cons, hf]
    refine TW.bind (n := 70) (k := 70) (a := .yield ()) (s₁ := _) (pos₁ := pos) (TW.bind (n := 70) (k := 0) T2 TW.pure) ?_
    dsimp only
    rw [List.forIn_cons, hf]
    refine TW.bind (n := 70) (k := 0) (a := .yield ()) (s₁ := _) (pos₁ := pos) (TW.bind (n := 70) (k := 0) T3 TW.pure) ?_
    dsimp only
    rw [List.forIn_nil]
    exact TW.pure
end

section
variable {w : World} {c : Code} {lv : List Value → List Value} {s : Shared} {pos : Pos} {a : Addr} {led : Bool} {x y z : Str} {tx ty tz : Tok}
theorem TW_newSet : TW w c lv 2 s pos (newSet (.type "set")) { s with heap := s.heap.push (setO #[] 0 (tabl #[] (!w.params.followText "set-order") true)) } pos (.ref s.heap.objs.size) := by
  unfold newSet setsByText
  refine TW.bind (n := 1) (k := 1) (TW.bind (n := 1) (k := 0) TW.ask TW.pure) ?_
  dsimp only
  simp only [newObj]
  refine TW.bind (n := 1) (k := 0) TW.alloc ?_
  exact TW.pure
theorem TW_const {v : Str} {p : Pos} : TW w c lv 2 s pos (do let v ← constValue ev (.str v); standAt p; pure v : Sem Value) { s with toks := s.toks + 1 } p (.str v s.toks) :=
  TW.bind (n := 1) (k := 1) (a := .str v s.toks) (TW.bind (n := 1) (k := 0) TW.fresh TW.pure) (TW.bind (n := 1) (k := 0) TW.standAt TW.pure)

theorem TW_display {b : Bool} {p1 p2 p3 : Pos} (ha : 11 ≤ s.heap.objs.size) (xy : y ≠ x) (xz : z ≠ x) (yz : z ≠ y) :
    ∃ es pl, es.toList.Perm [(HashOf w z, .str z (s.toks + 1 + 1)), (HashOf w y, .str y (s.toks + 1)), (HashOf w x, .str x s.toks)] ∧ pl.size = 3 ∧
      TW w c id 300 s pos (setDisplay .unsure b [(false, do let v ← constValue ev (.str x); standAt p1; pure v), (false, do let v ← constValue ev (.str y); standAt p2; pure v), (false, do let v ← constValue ev (.str z); standAt p3; pure v)])
        { s with heap := (s.heap.push (setO #[] 0 (tabl #[] (!w.params.followText "set-order") true))).update s.heap.objs.size fun _ => setO es 4 (tabl pl false false), toks := s.toks + 1 + 1 + 1 + 1 + 1 + 1 } p3 (.ref s.heap.objs.size) := by
  have g0 : (s.heap.push (setO #[] 0 (tabl #[] (!w.params.followText "set-order") true))).get? s.heap.objs.size = some (setO #[] 0 (tabl #[] (!w.params.followText "set-order") true)) := Heap.get?_push_size _ rfl
  obtain ⟨es, pl, hp, hs, T⟩ := TW_three (w := w) (c := c) (l0 := [.ref s.heap.objs.size]) (s := { s with heap := s.heap.push (setO #[] 0 (tabl #[] (!w.params.followText "set-order") true)), toks := s.toks + 1 + 1 + 1 }) (pos := p3) (tx := s.toks) (ty := s.toks + 1) (tz := s.toks + 1 + 1) g0 ha xy xz yz
  refine ⟨es, pl, hp, hs, ?_⟩
  have g3 : ((s.heap.push (setO #[] 0 (tabl #[] (!w.params.followText "set-order") true))).update s.heap.objs.size fun _ => setO es 3 (tabl pl (!w.params.followText "set-order") false)).get? s.heap.objs.size = some (setO es 3 (tabl pl (!w.params.followText "set-order") false)) := get_upd g0 rfl
  have n3 : es.size = 3 := by have := hp.length_eq; simpa using this
  have S3 : Small (tabl pl (!w.params.followText "set-order") false) es.size := ⟨rfl, by rw [n3]; exact hs, rfl⟩
  unfold setDisplay
  dsimp only
  rw [if_neg (by decide)]
  refine TW.bind (n := 2) (k := 298) TW_newSet ?_
  dsimp only
  have hn : (if ([(false, (do let v ← constValue ev (.str x); standAt p1; pure v : Sem Value)), (false, do let v ← constValue ev (.str y); standAt p2; pure v), (false, do let v ← constValue ev (.str z); standAt p3; pure v)] : List (Bool × Sem Value)).length > 30 then 0 else (List.findIdx? (fun (q : Bool × Sem Value) => q.1) [(false, (do let v ← constValue ev (.str x); standAt p1; pure v : Sem Value)), (false, do let v ← constValue ev (.str y); standAt p2; pure v), (false, do let v ← constValue ev (.str z); standAt p3; pure v)]).getD ([(false, (do let v ← constValue ev (.str x); standAt p1; pure v : Sem Value)), (false, do let v ← constValue ev (.str y); standAt p2; pure v), (false, do let v ← constValue ev (.str z); standAt p3; pure v)] : List (Bool × Sem Value)).length) = 3 := rfl
  rw [hn]
  refine TW.bind (n := 298) (k := 0) (a := ()) (TW.holdRef ?_) TW.pure
  refine TW.bind (n := 6) (k := 292) (a := [.str x s.toks, .str y (s.toks + 1), .str z (s.toks + 1 + 1)]) (s₁ := { s with heap := s.heap.push (setO #[] 0 (tabl #[] (!w.params.followText "set-order") true)), toks := s.toks + 1 + 1 + 1 }) (pos₁ := p3) ?_ ?_
  · refine TW.bind (n := 2) (k := 4) TW_const ?_
    refine TW.bind (n := 4) (k := 0) (a := [.str y (s.toks + 1), .str z (s.toks + 1 + 1)]) ?_ TW.pure
    refine TW.bind (n := 2) (k := 2) TW_const ?_
    refine TW.bind (n := 2) (k := 0) (a := [.str z (s.toks + 1 + 1)]) ?_ TW.pure
    refine TW.bind (n := 2) (k := 0) TW_const ?_
    exact TW.bind (n := 0) (k := 0) (a := []) TW.pure TW.pure
  · refine TW.bind (n := 292) (k := 0) (a := ()) (s₁ := { s with heap := (s.heap.push (setO #[] 0 (tabl #[] (!w.params.followText "set-order") true))).update s.heap.objs.size fun _ => setO es 4 (tabl pl false false), toks := s.toks + 1 + 1 + 1 + 1 + 1 + 1 }) (pos₁ := p3) ?_ ?_
    · refine TW.bind (n := 210) (k := 82) (T _ fun v u => rfl) ?_
      rw [if_pos (by decide)]
      refine TW.bind (n := 1) (k := 81) TW.rule ?_
      unfold setUnled
      refine TW.bind (n := 1) (k := 80) (TW_setState g3 (S3.fits (by omega))) ?_
      dsimp only
      have := TW_storeSet (w := w) (c := c) (lv := fun l => id ([.ref s.heap.objs.size] ++ l)) (pos := p3) (es' := es) (t' := { (tabl pl (!w.params.followText "set-order") false) with led := false }) (s := { s with heap := (s.heap.push (setO #[] 0 (tabl #[] (!w.params.followText "set-order") true))).update s.heap.objs.size fun _ => setO es 3 (tabl pl (!w.params.followText "set-order") false), toks := s.toks + 1 + 1 + 1 + 1 + 1 + 1 }) g3 ha (small_line (by omega))
      rw [upd_const g3, upd_upd] at this
      exact this.mono (by omega)
    · rw [show List.drop 3 ([(false, (do let v ← constValue ev (.str x); standAt p1; pure v : Sem Value)), (false, do let v ← constValue ev (.str y); standAt p2; pure v), (false, do let v ← constValue ev (.str z); standAt p3; pure v)] : List (Bool × Sem Value)) = [] from rfl]
      rw [List.forIn_nil]
      exact TW.pure
end
end Mine
end
/- HdH -/
section
open PySem PySem.W PyProof.Rows
set_option maxRecDepth 100000
set_option linter.unusedVariables false
set_option maxHeartbeats 0
namespace Mine
abbrev frO (es : Array (Int × Value)) (n : Nat) (t : SetTable) : Obj := ⟨.type "frozenset", none, .set es n t, #[]⟩
abbrev st (T : BT) (n toks : Nat) (os : OsState) : SharedT := ⟨T, n, {}, ⟨[]⟩, {}, toks, os⟩
theorem abs_made {T : BT} {n : Nat} {o O : Obj} (g : ((T.ins n o).get n).isSome = true) : ((absHeap T n {}).push o).update n (fun _ => O) = absHeap ((T.ins n o).set n fun _ => O) (n + 1) {} := by
  obtain ⟨x, hx⟩ := Option.isSome_iff_exists.mp g
  rw [absHeap_set hx, absHeap_ins g]
theorem hold_type {α : Type} {x : String} (m : Sem α) : holding [Value.type x] m = m := rfl
theorem three_of {α : Type} {xs : Array α} (h : xs.size = 3) : ∃ a b c, xs = #[a, b, c] := by
  obtain ⟨l⟩ := xs
  match l, h with
  | [a, b, c], _ => exact ⟨a, b, c, rfl⟩

theorem run_name18 (w : World) (os : OsState) (c : Code) (pos : Pos) :
   segRunT treeTable pw w 11 (some (.ref 6)) 1 60 (st (topI.tree_420 w.params) 268 550 os) ⟨(eval (.Name "frozenset" ⟨127, 20, 127, 29⟩) ev).wrap (fun x => .pure (.done (.ret x))) deadEnd id id, c, pos, Bq⟩
    = some (.ret (.type "frozenset"), st (topI.tree_420 w.params) 268 550 os, c, ⟨127, 20, 127, 29⟩) := by
  rw [Fast.te10110043849684766642, Fast.te14364793385576792824, Fast.te14044960220447912780, Fast.te9282435020784479456]
  kernel_rfl!
theorem run_main18 (w : World) (os : OsState) (c : Code) (pos : Pos) :
   segRunT treeTable pw w 11 (some (.ref 6)) 1 60 (st (topI.tree_420 w.params) 268 550 os) ⟨(inMainModule ev).wrap (fun x => .pure (.done (.ret (.bool x)))) deadEnd id id, c, pos, Bq⟩
    = some (.ret (.bool true), st (topI.tree_420 w.params) 268 550 os, c, pos) := by
  rw [Fast.te10110043849684766642, Fast.te14364793385576792824, Fast.te6346910123636218555, Fast.te9282435020784479456]
  kernel_rfl!
theorem run_frozen18 (w : World) (b led : Bool) (e0 e1 e2 : Int × Value) (q0 q1 q2 : Nat) (os : OsState) (c : Code) (pos : Pos) :
   segRunT treeTable pw (w.withFollow "special-get-raises" b) 11 (some (.ref 6)) 1 100 (st (((topI.tree_420 w.params).ins 268 (setO #[] 0 (tabl #[] led true))).set 268 fun _ => setO #[e0, e1, e2] 4 (tabl #[q0, q1, q2] false false)) 269 556 os)
     ⟨(call (.type "frozenset") [.ref 268] []).wrap (fun x => .pure (.done (.ret x))) deadEnd id id, c, pos, Bq⟩
    = some (.ret (.ref 269), st ((((topI.tree_420 w.params).ins 268 (setO #[] 0 (tabl #[] led true))).set 268 fun _ => setO #[e0, e1, e2] 4 (tabl #[q0, q1, q2] false false)).ins 269 (frO #[e0, e1, e2] 1 (tabl #[q0, q1, q2] ((!w.params.followText "set-order") && false) false))) 270 556 os, c, pos) := by
  rw [Fast.te10110043849684766642, Fast.te14364793385576792824, Fast.te11478286150595567475, Fast.te9282435020784479456]
  cases b <;> kernel_rfl!
theorem run_bind18 (w : World) (led : Bool) (e0 e1 e2 : Int × Value) (q0 q1 q2 : Nat) (os : OsState) (c : Code) (pos : Pos) :
   segRunT treeTable pw w 11 (some (.ref 6)) 1 60 (st ((((topI.tree_420 w.params).ins 268 (setO #[] 0 (tabl #[] led true))).set 268 fun _ => setO #[e0, e1, e2] 4 (tabl #[q0, q1, q2] false false)).ins 269 (frO #[e0, e1, e2] 1 (tabl #[q0, q1, q2] ((!w.params.followText "set-order") && false) false))) 270 556 os)
     ⟨(bindName ev "_OPENING_BRACKETS" (.ref 269)).wrap (fun x => .pure (.done .next)) deadEnd id id, c, pos, Bq⟩
    = some (.next, st (((topI.tree_426 w.params).set 268 fun _ => (setO #[e0, e1, e2] 4 (tabl #[q0, q1, q2] false false))).set 269 fun _ => (frO #[e0, e1, e2] 1 (tabl #[q0, q1, q2] ((!w.params.followText "set-order") && false) false))) 270 557 os, c, pos) := by
  rw [Fast.te10110043849684766642, Fast.te14364793385576792824, Fast.te7536695828754713326, Fast.te9282435020784479456, Fast.te13406671525759646428]
  kernel_rfl!
theorem TW_frz18 (w : World) (os : OsState) (c : Code) (pos : Pos) : ∃ (es : Array (Int × Value)) (t1 t2 : SetTable), es.toList.Perm [(HashOf w "{", .str "{" 552), (HashOf w "[", .str "[" 551), (HashOf w "(", .str "(" 550)] ∧ t2.fits es.size = true ∧
    TW w c id 700 (st (topI.tree_420 w.params) 268 550 os).abs pos (exec (frz "_OPENING_BRACKETS" 127 "(" "[" "{") ev) (st (((topI.tree_426 w.params).set 268 fun _ => setO es 4 t1).set 269 fun _ => frO es 1 t2) 270 557 os).abs ⟨127, 0, 127, 17⟩ .next := by
  have size0 : (st (topI.tree_420 w.params) 268 550 os).abs.heap.objs.size = 268 := absHeap_size _ _ _
  obtain ⟨es, pl, hp, hs, D⟩ := TW_display (w := w) (c := c) (s := (st (topI.tree_420 w.params) 268 550 os).abs) (pos := ⟨127, 30, 127, 45⟩) (b := true) (x := "(") (y := "[") (z := "{") (p1 := ⟨127, 30, 127, 45⟩) (p2 := ⟨127, 30, 127, 45⟩) (p3 := ⟨127, 30, 127, 45⟩) (by rw [size0]; decide) (by decide +kernel) (by decide +kernel) (by decide +kernel)
  have n3 : es.size = 3 := by have := hp.length_eq; simpa using this
  obtain ⟨e0, e1, e2, rfl⟩ := three_of n3
  obtain ⟨q0, q1, q2, rfl⟩ := three_of hs
  rw [size0] at D
  have hm : (((st (topI.tree_420 w.params) 268 550 os).abs.heap.push (setO #[] 0 (tabl #[] (!w.params.followText "set-order") true))).update 268 fun _ => setO #[e0, e1, e2] 4 (tabl #[q0, q1, q2] false false)) = absHeap (((topI.tree_420 w.params).ins 268 (setO #[] 0 (tabl #[] (!w.params.followText "set-order") true))).set 268 fun _ => setO #[e0, e1, e2] 4 (tabl #[q0, q1, q2] false false)) 269 {} := abs_made (by kernel_rfl!)
  rw [hm] at D
  refine ⟨_, tabl #[q0, q1, q2] false false, tabl #[q0, q1, q2] ((!w.params.followText "set-order") && false) false, hp, rfl, ?_⟩
  rw [exec_frz (hs := rfl)]
  refine TW.bind (n := 1) (k := 699) TW.standAt ?_
  refine TW.bind (n := 600) (k := 99) (a := .ref 269) (s₁ := (st ((((topI.tree_420 w.params).ins 268 (setO #[] 0 (tabl #[] (!w.params.followText "set-order") true))).set 268 fun _ => setO #[e0, e1, e2] 4 (tabl #[q0, q1, q2] false false)).ins 269 (frO #[e0, e1, e2] 1 (tabl #[q0, q1, q2] ((!w.params.followText "set-order") && false) false))) 270 556 os).abs) (pos₁ := ⟨127, 20, 127, 46⟩) ?_ ?_
  · refine TW.bind (n := 60) (k := 540) (TW.ofRun (res := fun x => .ret x) _ (fun x e => by cases e; rfl) (segRun_of (run_name18  w os c _))) ?_
    unfold callWith
    refine TW.bind (n := 400) (k := 140) (a := ⟨[.ref 268], []⟩) (s₁ := (st (((topI.tree_420 w.params).ins 268 (setO #[] 0 (tabl #[] (!w.params.followText "set-order") true))).set 268 fun _ => setO #[e0, e1, e2] 4 (tabl #[q0, q1, q2] false false)) 269 556 os).abs) (pos₁ := ⟨127, 30, 127, 45⟩) ?_ ?_
    · rw [hold_type]
      unfold evalArgs
      dsimp only
      refine TW.bind (n := 390) (k := 10) (a := [Value.ref 268]) (s₁ := (st (((topI.tree_420 w.params).ins 268 (setO #[] 0 (tabl #[] (!w.params.followText "set-order") true))).set 268 fun _ => setO #[e0, e1, e2] 4 (tabl #[q0, q1, q2] false false)) 269 556 os).abs) (pos₁ := ⟨127, 30, 127, 45⟩) ?_ ?_
      · unfold spliced
        refine TW.bind (n := 380) (k := 10) (a := .ref 268) (s₁ := (st (((topI.tree_420 w.params).ins 268 (setO #[] 0 (tabl #[] (!w.params.followText "set-order") true))).set 268 fun _ => setO #[e0, e1, e2] 4 (tabl #[q0, q1, q2] false false)) 269 556 os).abs) (pos₁ := ⟨127, 30, 127, 45⟩) ?_ ?_
        · refine TW.bind (n := 1) (k := 379) TW.standAt ?_
          refine TW.bind (n := 60) (k := 319) (TW.ofRun (res := fun x => .ret (.bool x)) _ (fun x e => by cases e; rfl) (segRun_of (run_main18  w os c _))) ?_
          exact D.mono (by omega)
        · refine TW.bind (n := 0) (k := 10) (a := [.ref 268]) TW.pure ?_
          refine TW.bind (n := 0) (k := 10) (a := []) (TW.holdRef ?_) (TW.mono TW.pure (by omega))
          unfold spliced
          exact TW.pure
      · refine TW.bind (n := 0) (k := 10) (a := ([Value.ref 268], none)) TW.pure ?_
        refine TW.holdRef ?_
        rw [if_pos List.all_nil]
        exact TW.mono (TW.bind (n := 0) (k := 0) (a := []) TW.pure (TW.bind (n := 0) (k := 0) (a := [Value.ref 268]) TW.pure TW.pure)) (by omega)
    · refine TW.bind (n := 1) (k := 139) TW.standAt ?_
      refine TW.bind (n := 0) (k := 139) (a := Keeper.machine) TW.pure ?_
      dsimp only
      refine TW.bind (n := 130) (k := 9) (a := .ref 269) (s₁ := (st ((((topI.tree_420 w.params).ins 268 (setO #[] 0 (tabl #[] (!w.params.followText "set-order") true))).set 268 fun _ => setO #[e0, e1, e2] 4 (tabl #[q0, q1, q2] false false)).ins 269 (frO #[e0, e1, e2] 1 (tabl #[q0, q1, q2] ((!w.params.followText "set-order") && false) false))) 270 556 os).abs) (pos₁ := ⟨127, 20, 127, 46⟩) ?_ ?_
      · refine TW.mono (n := 100) ?_ (by omega)
        refine byRow2 "special-get-raises" (P := fun w => ∀ led : Bool, TW w c id 100 (st (((topI.tree_420 w.params).ins 268 (setO #[] 0 (tabl #[] led true))).set 268 fun _ => setO #[e0, e1, e2] 4 (tabl #[q0, q1, q2] false false)) 269 556 os).abs ⟨127, 20, 127, 46⟩ (call (.type "frozenset") [.ref 268] []) (st ((((topI.tree_420 w.params).ins 268 (setO #[] 0 (tabl #[] led true))).set 268 fun _ => setO #[e0, e1, e2] 4 (tabl #[q0, q1, q2] false false)).ins 269 (frO #[e0, e1, e2] 1 (tabl #[q0, q1, q2] ((!w.params.followText "set-order") && false) false))) 270 556 os).abs ⟨127, 20, 127, 46⟩ (.ref 269)) (fun w led => ?_) (fun w led => ?_) w _
        · exact TW.ofRun (res := fun x => .ret x) _ (fun x e => by cases e; rfl) (segRun_of (run_frozen18  w false led e0 e1 e2 q0 q1 q2 os c _))
        · exact TW.ofRun (res := fun x => .ret x) _ (fun x e => by cases e; rfl) (segRun_of (run_frozen18  w true led e0 e1 e2 q0 q1 q2 os c _))
      · refine TW.bind (n := 1) (k := 8) (TW.holdRef TW.point) ?_
        exact TW.mono TW.pure (by omega)
  · refine TW.bind (n := 1) (k := 98) TW.standAt ?_
    refine TW.bind (n := 60) (k := 38) (TW.ofRun (res := fun _ => .next) _ (fun x e => by cases x; rfl) (segRun_of (run_bind18  w (!w.params.followText "set-order") e0 e1 e2 q0 q1 q2 os c _))) ?_
    exact TW.mono TW.pure (by omega)

theorem run_name19 (d1 d2 : Obj) (w : World) (os : OsState) (c : Code) (pos : Pos) :
   segRunT treeTable pw w 11 (some (.ref 6)) 1 60 (st (((topI.tree_426 w.params).set 268 fun _ => d1).set 269 fun _ => d2) 270 557 os) ⟨(eval (.Name "frozenset" ⟨128, 20, 128, 29⟩) ev).wrap (fun x => .pure (.done (.ret x))) deadEnd id id, c, pos, Bq⟩
    = some (.ret (.type "frozenset"), st (((topI.tree_426 w.params).set 268 fun _ => d1).set 269 fun _ => d2) 270 557 os, c, ⟨128, 20, 128, 29⟩) := by
  rw [Fast.te10110043849684766642, Fast.te14364793385576792824, Fast.te14044960220447912780, Fast.te13406671525759646428]
  kernel_rfl!
theorem run_main19 (d1 d2 : Obj) (w : World) (os : OsState) (c : Code) (pos : Pos) :
   segRunT treeTable pw w 11 (some (.ref 6)) 1 60 (st (((topI.tree_426 w.params).set 268 fun _ => d1).set 269 fun _ => d2) 270 557 os) ⟨(inMainModule ev).wrap (fun x => .pure (.done (.ret (.bool x)))) deadEnd id id, c, pos, Bq⟩
    = some (.ret (.bool true), st (((topI.tree_426 w.params).set 268 fun _ => d1).set 269 fun _ => d2) 270 557 os, c, pos) := by
  rw [Fast.te10110043849684766642, Fast.te14364793385576792824, Fast.te6346910123636218555, Fast.te13406671525759646428]
  kernel_rfl!
theorem run_frozen19 (d1 d2 : Obj) (w : World) (b led : Bool) (e0 e1 e2 : Int × Value) (q0 q1 q2 : Nat) (os : OsState) (c : Code) (pos : Pos) :
   segRunT treeTable pw (w.withFollow "special-get-raises" b) 11 (some (.ref 6)) 1 100 (st (((((topI.tree_426 w.params).set 268 fun _ => d1).set 269 fun _ => d2).ins 270 (setO #[] 0 (tabl #[] led true))).set 270 fun _ => setO #[e0, e1, e2] 4 (tabl #[q0, q1, q2] false false)) 271 563 os)
     ⟨(call (.type "frozenset") [.ref 270] []).wrap (fun x => .pure (.done (.ret x))) deadEnd id id, c, pos, Bq⟩
    = some (.ret (.ref 271), st ((((((topI.tree_426 w.params).set 268 fun _ => d1).set 269 fun _ => d2).ins 270 (setO #[] 0 (tabl #[] led true))).set 270 fun _ => setO #[e0, e1, e2] 4 (tabl #[q0, q1, q2] false false)).ins 271 (frO #[e0, e1, e2] 1 (tabl #[q0, q1, q2] ((!w.params.followText "set-order") && false) false))) 272 563 os, c, pos) := by
  rw [Fast.te10110043849684766642, Fast.te14364793385576792824, Fast.te11478286150595567475, Fast.te13406671525759646428]
  cases b <;> kernel_rfl!
theorem run_bind19 (d1 d2 : Obj) (w : World) (led : Bool) (e0 e1 e2 : Int × Value) (q0 q1 q2 : Nat) (os : OsState) (c : Code) (pos : Pos) :
   segRunT treeTable pw w 11 (some (.ref 6)) 1 60 (st ((((((topI.tree_426 w.params).set 268 fun _ => d1).set 269 fun _ => d2).ins 270 (setO #[] 0 (tabl #[] led true))).set 270 fun _ => setO #[e0, e1, e2] 4 (tabl #[q0, q1, q2] false false)).ins 271 (frO #[e0, e1, e2] 1 (tabl #[q0, q1, q2] ((!w.params.followText "set-order") && false) false))) 272 563 os)
     ⟨(bindName ev "_CLOSING_BRACKETS" (.ref 271)).wrap (fun x => .pure (.done .next)) deadEnd id id, c, pos, Bq⟩
    = some (.next, st (((((topI.tree_436 w.params).set 268 fun _ => d1).set 269 fun _ => d2).set 270 fun _ => (setO #[e0, e1, e2] 4 (tabl #[q0, q1, q2] false false))).set 271 fun _ => (frO #[e0, e1, e2] 1 (tabl #[q0, q1, q2] ((!w.params.followText "set-order") && false) false))) 272 564 os, c, pos) := by
  rw [Fast.te10110043849684766642, Fast.te14364793385576792824, Fast.te7536695828754713326, Fast.te13406671525759646428, Fast.te17070430712069419555]
  kernel_rfl!
theorem TW_frz19 (d1 d2 : Obj) (w : World) (os : OsState) (c : Code) (pos : Pos) : ∃ (es : Array (Int × Value)) (t1 t2 : SetTable), es.toList.Perm [(HashOf w "}", .str "}" 559), (HashOf w "]", .str "]" 558), (HashOf w ")", .str ")" 557)] ∧ t2.fits es.size = true ∧
    TW w c id 700 (st (((topI.tree_426 w.params).set 268 fun _ => d1).set 269 fun _ => d2) 270 557 os).abs pos (exec (frz "_CLOSING_BRACKETS" 128 ")" "]" "}") ev) (st (((((topI.tree_436 w.params).set 268 fun _ => d1).set 269 fun _ => d2).set 270 fun _ => setO es 4 t1).set 271 fun _ => frO es 1 t2) 272 564 os).abs ⟨128, 0, 128, 17⟩ .next := by
  have size0 : (st (((topI.tree_426 w.params).set 268 fun _ => d1).set 269 fun _ => d2) 270 557 os).abs.heap.objs.size = 270 := absHeap_size _ _ _
  obtain ⟨es, pl, hp, hs, D⟩ := TW_display (w := w) (c := c) (s := (st (((topI.tree_426 w.params).set 268 fun _ => d1).set 269 fun _ => d2) 270 557 os).abs) (pos := ⟨128, 30, 128, 45⟩) (b := true) (x := ")") (y := "]") (z := "}") (p1 := ⟨128, 30, 128, 45⟩) (p2 := ⟨128, 30, 128, 45⟩) (p3 := ⟨128, 30, 128, 45⟩) (by rw [size0]; decide) (by decide +kernel) (by decide +kernel) (by decide +kernel)
  have n3 : es.size = 3 := by have := hp.length_eq; simpa using this
  obtain ⟨e0, e1, e2, rfl⟩ := three_of n3
  obtain ⟨q0, q1, q2, rfl⟩ := three_of hs
  rw [size0] at D
  have hm : (((st (((topI.tree_426 w.params).set 268 fun _ => d1).set 269 fun _ => d2) 270 557 os).abs.heap.push (setO #[] 0 (tabl #[] (!w.params.followText "set-order") true))).update 270 fun _ => setO #[e0, e1, e2] 4 (tabl #[q0, q1, q2] false false)) = absHeap (((((topI.tree_426 w.params).set 268 fun _ => d1).set 269 fun _ => d2).ins 270 (setO #[] 0 (tabl #[] (!w.params.followText "set-order") true))).set 270 fun _ => setO #[e0, e1, e2] 4 (tabl #[q0, q1, q2] false false)) 271 {} := abs_made (by kernel_rfl!)
  rw [hm] at D
  refine ⟨_, tabl #[q0, q1, q2] false false, tabl #[q0, q1, q2] ((!w.params.followText "set-order") && false) false, hp, rfl, ?_⟩
  rw [exec_frz (hs := rfl)]
  refine TW.bind (n := 1) (k := 699) TW.standAt ?_
  refine TW.bind (n := 600) (k := 99) (a := .ref 271) (s₁ := (st ((((((topI.tree_426 w.params).set 268 fun _ => d1).set 269 fun _ => d2).ins 270 (setO #[] 0 (tabl #[] (!w.params.followText "set-order") true))).set 270 fun _ => setO #[e0, e1, e2] 4 (tabl #[q0, q1, q2] false false)).ins 271 (frO #[e0, e1, e2] 1 (tabl #[q0, q1, q2] ((!w.params.followText "set-order") && false) false))) 272 563 os).abs) (pos₁ := ⟨128, 20, 128, 46⟩) ?_ ?_
  · refine TW.bind (n := 60) (k := 540) (TW.ofRun (res := fun x => .ret x) _ (fun x e => by cases e; rfl) (segRun_of (run_name19 d1 d2 w os c _))) ?_
    unfold callWith
    refine TW.bind (n := 400) (k := 140) (a := ⟨[.ref 270], []⟩) (s₁ := (st (((((topI.tree_426 w.params).set 268 fun _ => d1).set 269 fun _ => d2).ins 270 (setO #[] 0 (tabl #[] (!w.params.followText "set-order") true))).set 270 fun _ => setO #[e0, e1, e2] 4 (tabl #[q0, q1, q2] false false)) 271 563 os).abs) (pos₁ := ⟨128, 30, 128, 45⟩) ?_ ?_
    · rw [hold_type]
      unfold evalArgs
      dsimp only
      refine TW.bind (n := 390) (k := 10) (a := [Value.ref 270]) (s₁ := (st (((((topI.tree_426 w.params).set 268 fun _ => d1).set 269 fun _ => d2).ins 270 (setO #[] 0 (tabl #[] (!w.params.followText "set-order") true))).set 270 fun _ => setO #[e0, e1, e2] 4 (tabl #[q0, q1, q2] false false)) 271 563 os).abs) (pos₁ := ⟨128, 30, 128, 45⟩) ?_ ?_
      · unfold spliced
        refine TW.bind (n := 380) (k := 10) (a := .ref 270) (s₁ := (st (((((topI.tree_426 w.params).set 268 fun _ => d1).set 269 fun _ => d2).ins 270 (setO #[] 0 (tabl #[] (!w.params.followText "set-order") true))).set 270 fun _ => setO #[e0, e1, e2] 4 (tabl #[q0, q1, q2] false false)) 271 563 os).abs) (pos₁ := ⟨128, 30, 128, 45⟩) ?_ ?_
        · refine TW.bind (n := 1) (k := 379) TW.standAt ?_
          refine TW.bind (n := 60) (k := 319) (TW.ofRun (res := fun x => .ret (.bool x)) _ (fun x e => by cases e; rfl) (segRun_of (run_main19 d1 d2 w os c _))) ?_
          exact D.mono (by omega)
        · refine TW.bind (n := 0) (k := 10) (a := [.ref 270]) TW.pure ?_
          refine TW.bind (n := 0) (k := 10) (a := []) (TW.holdRef ?_) (TW.mono TW.pure (by omega))
          unfold spliced
          exact TW.pure
      · refine TW.bind (n := 0) (k := 10) (a := ([Value.ref 270], none)) TW.pure ?_
        refine TW.holdRef ?_
        rw [if_pos List.all_nil]
        exact TW.mono (TW.bind (n := 0) (k := 0) (a := []) TW.pure (TW.bind (n := 0) (k := 0) (a := [Value.ref 270]) TW.pure TW.pure)) (by omega)
    · refine TW.bind (n := 1) (k := 139) TW.standAt ?_
      refine TW.bind (n := 0) (k := 139) (a := Keeper.machine) TW.pure ?_
      dsimp only
      refine TW.bind (n := 130) (k := 9) (a := .ref 271) (s₁ := (st ((((((topI.tree_426 w.params).set 268 fun _ => d1).set 269 fun _ => d2).ins 270 (setO #[] 0 (tabl #[] (!w.params.followText "set-order") true))).set 270 fun _ => setO #[e0, e1, e2] 4 (tabl #[q0, q1, q2] false false)).ins 271 (frO #[e0, e1, e2] 1 (tabl #[q0, q1, q2] ((!w.params.followText "set-order") && false) false))) 272 563 os).abs) (pos₁ := ⟨128, 20, 128, 46⟩) ?_ ?_
      · refine TW.mono (n := 100) ?_ (by omega)
        refine byRow2 "special-get-raises" (P := fun w => ∀ led : Bool, TW w c id 100 (st (((((topI.tree_426 w.params).set 268 fun _ => d1).set 269 fun _ => d2).ins 270 (setO #[] 0 (tabl #[] led true))).set 270 fun _ => setO #[e0, e1, e2] 4 (tabl #[q0, q1, q2] false false)) 271 563 os).abs ⟨128, 20, 128, 46⟩ (call (.type "frozenset") [.ref 270] []) (st ((((((topI.tree_426 w.params).set 268 fun _ => d1).set 269 fun _ => d2).ins 270 (setO #[] 0 (tabl #[] led true))).set 270 fun _ => setO #[e0, e1, e2] 4 (tabl #[q0, q1, q2] false false)).ins 271 (frO #[e0, e1, e2] 1 (tabl #[q0, q1, q2] ((!w.params.followText "set-order") && false) false))) 272 563 os).abs ⟨128, 20, 128, 46⟩ (.ref 271)) (fun w led => ?_) (fun w led => ?_) w _
        · exact TW.ofRun (res := fun x => .ret x) _ (fun x e => by cases e; rfl) (segRun_of (run_frozen19 d1 d2 w false led e0 e1 e2 q0 q1 q2 os c _))
        · exact TW.ofRun (res := fun x => .ret x) _ (fun x e => by cases e; rfl) (segRun_of (run_frozen19 d1 d2 w true led e0 e1 e2 q0 q1 q2 os c _))
      · refine TW.bind (n := 1) (k := 8) (TW.holdRef TW.point) ?_
        exact TW.mono TW.pure (by omega)
  · refine TW.bind (n := 1) (k := 98) TW.standAt ?_
    refine TW.bind (n := 60) (k := 38) (TW.ofRun (res := fun _ => .next) _ (fun x e => by cases x; rfl) (segRun_of (run_bind19 d1 d2 w (!w.params.followText "set-order") e0 e1 e2 q0 q1 q2 os c _))) ?_
    exact TW.mono TW.pure (by omega)

end Mine
end
/- HdI -/
section
open PySem PySem.W PyProof.Rows
set_option maxRecDepth 100000
set_option linter.unusedVariables false
set_option maxHeartbeats 0
namespace Mine
noncomputable abbrev cb : Code := .body pw.main.body ev
theorem pre_run (w : World) (os : OsState) : topGo treeTable pw w 11 (some (.ref 6)) 12 ⟨boot_heap w.params, ⟨[]⟩, boot_drawn, boot_toks, os⟩ (topStub pw) =
    some ((st (topI.tree_4 w.params) 15 187 os).abs, ⟨denote treeTable cb, cb, ⟨0, 0, 0, 0⟩, Bq⟩) := by
  rw [Fast.te15667345088766844465, Fast.te14364793385576792824, Fast.te11892475500146522536]
  kernel_rfl!
theorem block_run (w : World) (os : OsState) : segRun treeTable pw w 11 (some (.ref 6)) 1 1 (st (topI.tree_4 w.params) 15 187 os).abs (blockOf pw.main.body ev cb ⟨0, 0, 0, 0⟩ Bq) =
    some (.next, (st (topI.tree_4 w.params) 15 187 os).abs, cb, ⟨0, 0, 0, 0⟩) := by
  rw [Fast.te14374325043358763698, Fast.te14364793385576792824]
  kernel_rfl!
theorem fin_run (w : World) (s : Shared) (pos : Pos) : topRun treeTable pw w 11 (some (.ref 6)) 2 s ⟨doneF .next, cb, pos, Bq⟩ = some s := by
  obtain ⟨heap, gens, drawn, toks, os⟩ := s
  rw [Fast.te14082659384304107361, Fast.te14364793385576792824]
  kernel_rfl!

section
variable (d1 d2 d3 d4 : Obj) (w : World) (os : OsState)
abbrev S4 (T : Params → BT) (n toks : Nat) : SharedT := st (put4 d1 d2 d3 d4 (T w.params)) n toks os
end
theorem TW.piece {w : World} {n N : Nat} {s s' r : Shared} {x : Stmt} {rest : List Stmt} {pos pos' : Pos} (h : TW w cb id n s pos (exec x ev) s' pos' .next)
    (k : topRun treeTable pw w 11 (some (.ref 6)) N s' (restOf rest ev cb pos' Bq) = some r) : topRun treeTable pw w 11 (some (.ref 6)) (n + N) s (restOf ([x] ++ rest) ev cb pos Bq) = some r := by
  have := h (fun f => match f with | .next => (execs rest ev).wrap doneF (leaveH ev) id id | f => doneF f) (leaveH ev) N r k
  unfold restOf
  rw [List.singleton_append, execs_cons_wrap]
  exact this
/-- what the two statements leave -/
structure Sets (w : World) (d1 d2 d3 d4 : Obj) : Prop where
  o : ∃ (es : Array (Int × Value)) (n : Nat) (t : SetTable), d2 = frO es n t ∧ t.fits es.size = true ∧ es.toList.Perm [(HashOf w "{", .str "{" 552), (HashOf w "[", .str "[" 551), (HashOf w "(", .str "(" 550)]
  c : ∃ (es : Array (Int × Value)) (n : Nat) (t : SetTable), d4 = frO es n t ∧ t.fits es.size = true ∧ es.toList.Perm [(HashOf w "}", .str "}" 559), (HashOf w "]", .str "]" 558), (HashOf w ")", .str ")" 557)]
  l1 : ∃ es n t, d1 = setO es n t
  l3 : ∃ es n t, d3 = setO es n t

theorem run_all (w : World) (os : OsState) : ∃ d1 d2 d3 d4, Sets w d1 d2 d3 d4 ∧
    topRun treeTable pw w 11 (some (.ref 6)) 8000 ⟨boot_heap w.params, ⟨[]⟩, boot_drawn, boot_toks, os⟩ (topStub pw) = some (S4 d1 d2 d3 d4 w os topI.tree_967 570 933).abs := by
  obtain ⟨e1, t1, t2, p1, f1, T1⟩ := TW_frz18 w os cb ⟨126, 0, 126, 8⟩
  obtain ⟨e2, t3, t4, p2, f2, T2⟩ := TW_frz19 (setO e1 4 t1) (frO e1 1 t2) w os cb ⟨127, 0, 127, 17⟩
  refine ⟨setO e1 4 t1, frO e1 1 t2, setO e2 4 t3, frO e2 1 t4, ⟨⟨e1, 1, t2, rfl, f1, p1⟩, ⟨e2, 1, t4, rfl, f2, p2⟩, ⟨e1, 4, t1, rfl⟩, ⟨e2, 4, t3, rfl⟩⟩, ?_⟩
  have h0 := fin_run w (S4 (setO e1 4 t1) (frO e1 1 t2) (setO e2 4 t3) (frO e2 1 t4) w os topI.tree_967 570 933).abs ⟨339, 0, 378, 15⟩
  have h1 := piece_app (segRun_of (congrFun (congrFun (congrFun (tail_e (setO e1 4 t1) (frO e1 1 t2) (setO e2 4 t3) (frO e2 1 t4) w) pw) pw.main.body) os)) (piece_nil h0)
  have h2 := piece_app (seg_go (segGo_of (congrFun (congrFun (congrFun (tail_d1 (setO e1 4 t1) (frO e1 1 t2) (setO e2 4 t3) (frO e2 1 t4) w) pw) pw.main.body) os)) (seg_go (segGo_of (congrFun (congrFun (congrFun (tail_d2 (setO e1 4 t1) (frO e1 1 t2) (setO e2 4 t3) (frO e2 1 t4) w) pw) pw.main.body) os)) (segRun_of (congrFun (congrFun (congrFun (tail_d3 (setO e1 4 t1) (frO e1 1 t2) (setO e2 4 t3) (frO e2 1 t4) w) pw) pw.main.body) os)))) h1
  have h3 := piece_app (segRun_of (congrFun (congrFun (congrFun (tail_c (setO e1 4 t1) (frO e1 1 t2) (setO e2 4 t3) (frO e2 1 t4) w) pw) pw.main.body) os)) h2
  have h4 := piece_app (seg_go (segGo_of (congrFun (congrFun (congrFun (tail_b1 (setO e1 4 t1) (frO e1 1 t2) (setO e2 4 t3) (frO e2 1 t4) w) pw) pw.main.body) os)) (seg_go (segGo_of (congrFun (congrFun (congrFun (tail_b2 (setO e1 4 t1) (frO e1 1 t2) (setO e2 4 t3) (frO e2 1 t4) w) pw) pw.main.body) os)) (segRun_of (congrFun (congrFun (congrFun (tail_b3 (setO e1 4 t1) (frO e1 1 t2) (setO e2 4 t3) (frO e2 1 t4) w) pw) pw.main.body) os)))) h3
  have h5 := piece_app (segRun_of (congrFun (congrFun (congrFun (tail_a (setO e1 4 t1) (frO e1 1 t2) (setO e2 4 t3) (frO e2 1 t4) w) pw) pw.main.body) os)) h4
  have h6 := TW.piece T2 h5
  have h7 := TW.piece T1 h6
  have h8 := piece_app (topI._proof_424 w pw pw.main.body os) h7
  have h9 := piece_app (topI._proof_411 w pw pw.main.body os) h8
  have h10 := piece_app (topI._proof_365 w pw pw.main.body os) h9
  have h11 := piece_app (topI._proof_212 w pw pw.main.body os) h10
  have h12 := piece_app (topI._proof_15 w pw pw.main.body os) h11
  rw [← frz_body] at h12
  have h13 := piece_block (block_run w os) h12
  have h14 := go_top (pre_run w os) h13
  exact TR.mono h14 (by decide)
end Mine
end
/- HdJ -/
section
open PySem PySem.W PyProof.Rows
set_option maxRecDepth 100000
set_option linter.unusedVariables false
set_option maxHeartbeats 0
namespace Mine
noncomputable def qv : Program := view pw [0, 2, 3, 4, 6, 7, 9, 10, 11, 13, 14, 15, 16, 18, 19, 20, 21, 23, 24, 26, 28, 29, 30, 31, 32, 33]
def lz : List Str := ["Base", "Leaf", "Annotation", "GetNodeAnnotation", "_style", "UNBREAKABLE", "_OPENING_BRACKETS", "_CLOSING_BRACKETS", "FormatToken", "LogicalLine"]
def lvs : List (Str × WData) := [("UNBREAKABLE", .int 1000000)]
noncomputable abbrev rwr : OpenRow := PySem.Challenge.rw_bu5045_01.row
noncomputable def Xq (s : Shared) : Bool := xlAt qv lvs s && recOk (RowW.records rwr.toRowW) s

theorem size_ok (w : World) : ((boot_heap w.params).isNs mainGlobals && (#[] : Array GenState).size == 0, (boot_heap w.params).objs.size, (boot_heap w.params).nsMap mainGlobals "__annotations__") = (true, 11, some (.ref 6)) := by
  kernel_rfl!
theorem looks1 (d1 d2 d3 d4 : Obj) (w : World) (os : OsState) : (staticsOk (importedModules pw.main.body) (boot_heap w.params) (S4 d1 d2 d3 d4 w os topI.tree_967 570 933).abs.heap && namesBound pw (S4 d1 d2 d3 d4 w os topI.tree_967 570 933).abs.heap && gensDone (S4 d1 d2 d3 d4 w os topI.tree_967 570 933).abs && laidKept (boot_heap w.params) (S4 d1 d2 d3 d4 w os topI.tree_967 570 933).abs.heap) = true := by
  kernel_rfl!

theorem looks2 (d1 d2 d3 d4 : Obj) (w : World) (os : OsState) : openSeen qv lz (importedModules pw.main.body) Xq true (S4 d1 d2 d3 d4 w os topI.tree_967 570 933).abs = openGood qv lz := by
  unfold openSeen openGood
  refine looks_pair ?_ (looks_pair ?_ (looks_pair ?_ (looks_pair ?_ (looks_pair ?_ (looks_pair ?_ (looks_pair ?_ (looks_pair ?_ ?_)))))))
  · kernel_rfl!
  · kernel_rfl!
  · kernel_rfl!
  · kernel_rfl!
  · kernel_rfl!
  · kernel_rfl!
  · kernel_rfl!
  · kernel_rfl!
  · kernel_rfl!
end Mine
end
/- HdK -/
section
open PySem PySem.W PyProof.Rows
set_option maxRecDepth 100000
set_option linter.unusedVariables false
set_option maxHeartbeats 0
namespace Mine
noncomputable def KF (P : Params) : Frag :=
  (nat_lit 2, PySem.W.boot_o_2 P) ::
  (nat_lit 3, topI.o_926 P) ::
  (nat_lit 15, topI.o_7 P) ::
  (nat_lit 17, topI.o_9 P) ::
  (nat_lit 18, topI.o_10 P) ::
  (nat_lit 20, topI.o_12 P) ::
  (nat_lit 21, topI.o_13 P) ::
  (nat_lit 22, topI.o_17 P) ::
  (nat_lit 29, topI.o_24 P) ::
  (nat_lit 30, topI.o_25 P) ::
  (nat_lit 32, topI.o_27 P) ::
  (nat_lit 33, topI.o_28 P) ::
  (nat_lit 35, topI.o_30 P) ::
  (nat_lit 36, topI.o_31 P) ::
  (nat_lit 37, topI.o_32 P) ::
  (nat_lit 39, topI.o_34 P) ::
  (nat_lit 40, topI.o_35 P) ::
  (nat_lit 42, topI.o_37 P) ::
  (nat_lit 43, topI.o_38 P) ::
  (nat_lit 44, topI.o_39 P) ::
  (nat_lit 46, topI.o_41 P) ::
  (nat_lit 47, topI.o_42 P) ::
  (nat_lit 49, topI.o_44 P) ::
  (nat_lit 50, topI.o_45 P) ::
  (nat_lit 51, topI.o_46 P) ::
  (nat_lit 53, topI.o_48 P) ::
  (nat_lit 54, topI.o_49 P) ::
  (nat_lit 56, topI.o_51 P) ::
  (nat_lit 57, topI.o_52 P) ::
  (nat_lit 58, topI.o_53 P) ::
  (nat_lit 60, topI.o_55 P) ::
  (nat_lit 61, topI.o_56 P) ::
  (nat_lit 63, topI.o_58 P) ::
  (nat_lit 64, topI.o_59 P) ::
  (nat_lit 65, topI.o_60 P) ::
  (nat_lit 67, topI.o_62 P) ::
  (nat_lit 68, topI.o_63 P) ::
  (nat_lit 70, topI.o_65 P) ::
  (nat_lit 71, topI.o_66 P) ::
  (nat_lit 72, topI.o_67 P) ::
  (nat_lit 74, topI.o_69 P) ::
  (nat_lit 75, topI.o_70 P) ::
  (nat_lit 77, topI.o_72 P) ::
  (nat_lit 78, topI.o_73 P) ::
  (nat_lit 79, topI.o_74 P) ::
  (nat_lit 81, topI.o_76 P) ::
  (nat_lit 82, topI.o_77 P) ::
  (nat_lit 84, topI.o_79 P) ::
  (nat_lit 85, topI.o_80 P) ::
  (nat_lit 86, topI.o_81 P) ::
  (nat_lit 88, topI.o_83 P) ::
  (nat_lit 89, topI.o_84 P) ::
  (nat_lit 91, topI.o_86 P) ::
  (nat_lit 92, topI.o_87 P) ::
  (nat_lit 93, topI.o_88 P) ::
  (nat_lit 95, topI.o_90 P) ::
  (nat_lit 96, topI.o_91 P) ::
  (nat_lit 98, topI.o_93 P) ::
  (nat_lit 99, topI.o_94 P) ::
  (nat_lit 100, topI.o_95 P) ::
  (nat_lit 101, topI.o_96 P) ::
  (nat_lit 103, topI.o_98 P) ::
  (nat_lit 104, topI.o_99 P) ::
  (nat_lit 106, topI.o_101 P) ::
  (nat_lit 107, topI.o_102 P) ::
  (nat_lit 108, topI.o_103 P) ::
  (nat_lit 109, topI.o_104 P) ::
  (nat_lit 111, topI.o_106 P) ::
  (nat_lit 112, topI.o_107 P) ::
  (nat_lit 114, topI.o_109 P) ::
  (nat_lit 115, topI.o_110 P) ::
  (nat_lit 116, topI.o_111 P) ::
  (nat_lit 118, topI.o_113 P) ::
  (nat_lit 119, topI.o_114 P) ::
  (nat_lit 121, topI.o_116 P) ::
  (nat_lit 122, topI.o_117 P) ::
  (nat_lit 123, topI.o_118 P) ::
  (nat_lit 125, topI.o_120 P) ::
  (nat_lit 126, topI.o_121 P) ::
  (nat_lit 128, topI.o_123 P) ::
  (nat_lit 129, topI.o_124 P) ::
  (nat_lit 130, topI.o_125 P) ::
  (nat_lit 131, topI.o_126 P) ::
  (nat_lit 132, topI.o_214 P) ::
  (nat_lit 133, topI.o_128 P) ::
  (nat_lit 134, topI.o_129 P) ::
  (nat_lit 137, topI.o_215 P) ::
  (nat_lit 144, topI.o_222 P) ::
  (nat_lit 145, topI.o_223 P) ::
  (nat_lit 146, topI.o_224 P) ::
  (nat_lit 148, topI.o_226 P) ::
  (nat_lit 149, topI.o_227 P) ::
  (nat_lit 151, topI.o_229 P) ::
  (nat_lit 152, topI.o_230 P) ::
  (nat_lit 153, topI.o_231 P) ::
  (nat_lit 155, topI.o_233 P) ::
  (nat_lit 156, topI.o_234 P) ::
  (nat_lit 158, topI.o_236 P) ::
  (nat_lit 159, topI.o_237 P) ::
  (nat_lit 160, topI.o_238 P) ::
  (nat_lit 162, topI.o_240 P) ::
  (nat_lit 163, topI.o_241 P) ::
  (nat_lit 165, topI.o_243 P) ::
  (nat_lit 166, topI.o_244 P) ::
  (nat_lit 167, topI.o_245 P) ::
  (nat_lit 169, topI.o_247 P) ::
  (nat_lit 170, topI.o_248 P) ::
  (nat_lit 172, topI.o_250 P) ::
  (nat_lit 173, topI.o_251 P) ::
  (nat_lit 174, topI.o_252 P) ::
  (nat_lit 176, topI.o_254 P) ::
  (nat_lit 177, topI.o_255 P) ::
  (nat_lit 179, topI.o_257 P) ::
  (nat_lit 180, topI.o_258 P) ::
  (nat_lit 181, topI.o_259 P) ::
  (nat_lit 183, topI.o_261 P) ::
  (nat_lit 184, topI.o_262 P) ::
  (nat_lit 186, topI.o_264 P) ::
  (nat_lit 187, topI.o_265 P) ::
  (nat_lit 188, topI.o_266 P) ::
  (nat_lit 190, topI.o_268 P) ::
  (nat_lit 191, topI.o_269 P) ::
  (nat_lit 193, topI.o_271 P) ::
  (nat_lit 194, topI.o_272 P) ::
  (nat_lit 195, topI.o_273 P) ::
  (nat_lit 197, topI.o_275 P) ::
  (nat_lit 198, topI.o_276 P) ::
  (nat_lit 200, topI.o_278 P) ::
  (nat_lit 201, topI.o_279 P) ::
  (nat_lit 204, topI.o_282 P) ::
  (nat_lit 206, topI.o_284 P) ::
  (nat_lit 207, topI.o_285 P) ::
  (nat_lit 209, topI.o_287 P) ::
  (nat_lit 210, topI.o_288 P) ::
  (nat_lit 211, topI.o_289 P) ::
  (nat_lit 212, topI.o_290 P) ::
  (nat_lit 213, topI.o_291 P) ::
  (nat_lit 214, topI.o_292 P) ::
  (nat_lit 217, topI.o_367 P) ::
  (nat_lit 224, topI.o_374 P) ::
  (nat_lit 225, topI.o_375 P) ::
  (nat_lit 226, topI.o_376 P) ::
  (nat_lit 227, topI.o_377 P) ::
  (nat_lit 228, topI.o_378 P) ::
  (nat_lit 231, topI.o_381 P) ::
  (nat_lit 232, topI.o_382 P) ::
  (nat_lit 234, topI.o_384 P) ::
  (nat_lit 235, topI.o_385 P) ::
  (nat_lit 237, topI.o_387 P) ::
  (nat_lit 238, topI.o_388 P) ::
  (nat_lit 239, topI.o_389 P) ::
  (nat_lit 241, topI.o_391 P) ::
  (nat_lit 242, topI.o_392 P) ::
  (nat_lit 244, topI.o_394 P) ::
  (nat_lit 245, topI.o_395 P) ::
  (nat_lit 246, topI.o_396 P) ::
  (nat_lit 248, topI.o_398 P) ::
  (nat_lit 249, topI.o_399 P) ::
  (nat_lit 251, topI.o_401 P) ::
  (nat_lit 252, topI.o_402 P) ::
  (nat_lit 253, topI.o_403 P) ::
  (nat_lit 255, topI.o_405 P) ::
  (nat_lit 256, topI.o_406 P) ::
  (nat_lit 258, topI.o_408 P) ::
  (nat_lit 259, topI.o_409 P) ::
  (nat_lit 260, topI.o_413 P) ::
  (nat_lit 261, topI.o_414 P) ::
  (nat_lit 263, topI.o_416 P) ::
  (nat_lit 264, topI.o_417 P) ::
  (nat_lit 266, topI.o_419 P) ::
  (nat_lit 267, topI.o_420 P) ::
  (nat_lit 272, topI.o_446 P) ::
  (nat_lit 274, topI.o_448 P) ::
  (nat_lit 275, topI.o_449 P) ::
  (nat_lit 277, topI.o_451 P) ::
  (nat_lit 278, topI.o_452 P) ::
  (nat_lit 279, topI.o_453 P) ::
  (nat_lit 281, topI.o_455 P) ::
  (nat_lit 282, topI.o_456 P) ::
  (nat_lit 284, topI.o_458 P) ::
  (nat_lit 285, topI.o_459 P) ::
  (nat_lit 286, topI.o_463 P) ::
  (nat_lit 293, topI.o_470 P) ::
  (nat_lit 295, topI.o_472 P) ::
  (nat_lit 296, topI.o_473 P) ::
  (nat_lit 298, topI.o_475 P) ::
  (nat_lit 299, topI.o_476 P) ::
  (nat_lit 300, topI.o_477 P) ::
  (nat_lit 302, topI.o_479 P) ::
  (nat_lit 303, topI.o_480 P) ::
  (nat_lit 305, topI.o_482 P) ::
  (nat_lit 306, topI.o_483 P) ::
  (nat_lit 307, topI.o_484 P) ::
  (nat_lit 309, topI.o_486 P) ::
  (nat_lit 310, topI.o_487 P) ::
  (nat_lit 312, topI.o_489 P) ::
  (nat_lit 313, topI.o_490 P) ::
  (nat_lit 314, topI.o_491 P) ::
  (nat_lit 316, topI.o_493 P) ::
  (nat_lit 317, topI.o_494 P) ::
  (nat_lit 319, topI.o_496 P) ::
  (nat_lit 320, topI.o_497 P) ::
  (nat_lit 321, topI.o_498 P) ::
  (nat_lit 323, topI.o_500 P) ::
  (nat_lit 324, topI.o_501 P) ::
  (nat_lit 326, topI.o_503 P) ::
  (nat_lit 327, topI.o_504 P) ::
  (nat_lit 328, topI.o_505 P) ::
  (nat_lit 330, topI.o_507 P) ::
  (nat_lit 331, topI.o_508 P) ::
  (nat_lit 333, topI.o_510 P) ::
  (nat_lit 334, topI.o_511 P) ::
  (nat_lit 335, topI.o_512 P) ::
  (nat_lit 336, topI.o_513 P) ::
  (nat_lit 338, topI.o_515 P) ::
  (nat_lit 339, topI.o_516 P) ::
  (nat_lit 341, topI.o_518 P) ::
  (nat_lit 342, topI.o_519 P) ::
  (nat_lit 343, topI.o_520 P) ::
  (nat_lit 344, topI.o_521 P) ::
  (nat_lit 346, topI.o_523 P) ::
  (nat_lit 347, topI.o_524 P) ::
  (nat_lit 349, topI.o_526 P) ::
  (nat_lit 350, topI.o_527 P) ::
  (nat_lit 351, topI.o_528 P) ::
  (nat_lit 352, topI.o_529 P) ::
  (nat_lit 354, topI.o_531 P) ::
  (nat_lit 355, topI.o_532 P) ::
  (nat_lit 357, topI.o_534 P) ::
  (nat_lit 358, topI.o_535 P) ::
  (nat_lit 359, topI.o_536 P) ::
  (nat_lit 360, topI.o_537 P) ::
  (nat_lit 362, topI.o_539 P) ::
  (nat_lit 363, topI.o_540 P) ::
  (nat_lit 365, topI.o_542 P) ::
  (nat_lit 366, topI.o_543 P) ::
  (nat_lit 367, topI.o_544 P) ::
  (nat_lit 368, topI.o_545 P) ::
  (nat_lit 370, topI.o_547 P) ::
  (nat_lit 371, topI.o_548 P) ::
  (nat_lit 373, topI.o_550 P) ::
  (nat_lit 374, topI.o_551 P) ::
  (nat_lit 375, topI.o_552 P) ::
  (nat_lit 376, topI.o_553 P) ::
  (nat_lit 378, topI.o_555 P) ::
  (nat_lit 379, topI.o_556 P) ::
  (nat_lit 381, topI.o_558 P) ::
  (nat_lit 382, topI.o_559 P) ::
  (nat_lit 383, topI.o_560 P) ::
  (nat_lit 384, topI.o_561 P) ::
  (nat_lit 386, topI.o_563 P) ::
  (nat_lit 387, topI.o_564 P) ::
  (nat_lit 389, topI.o_566 P) ::
  (nat_lit 390, topI.o_567 P) ::
  (nat_lit 391, topI.o_568 P) ::
  (nat_lit 392, topI.o_569 P) ::
  (nat_lit 394, topI.o_571 P) ::
  (nat_lit 395, topI.o_572 P) ::
  (nat_lit 397, topI.o_574 P) ::
  (nat_lit 398, topI.o_575 P) ::
  (nat_lit 399, topI.o_576 P) ::
  (nat_lit 400, topI.o_577 P) ::
  (nat_lit 402, topI.o_579 P) ::
  (nat_lit 403, topI.o_580 P) ::
  (nat_lit 405, topI.o_582 P) ::
  (nat_lit 406, topI.o_583 P) ::
  (nat_lit 407, topI.o_584 P) ::
  (nat_lit 408, topI.o_585 P) ::
  (nat_lit 409, topI.o_586 P) ::
  (nat_lit 410, topI.o_587 P) ::
  (nat_lit 411, topI.o_588 P) ::
  (nat_lit 412, topI.o_589 P) ::
  (nat_lit 415, topI.o_705 P) ::
  (nat_lit 422, topI.o_712 P) ::
  (nat_lit 423, topI.o_713 P) ::
  (nat_lit 425, topI.o_715 P) ::
  (nat_lit 426, topI.o_716 P) ::
  (nat_lit 428, topI.o_718 P) ::
  (nat_lit 429, topI.o_719 P) ::
  (nat_lit 430, topI.o_720 P) ::
  (nat_lit 432, topI.o_722 P) ::
  (nat_lit 433, topI.o_723 P) ::
  (nat_lit 435, topI.o_725 P) ::
  (nat_lit 436, topI.o_726 P) ::
  (nat_lit 437, topI.o_727 P) ::
  (nat_lit 439, topI.o_729 P) ::
  (nat_lit 440, topI.o_730 P) ::
  (nat_lit 442, topI.o_732 P) ::
  (nat_lit 443, topI.o_733 P) ::
  (nat_lit 444, topI.o_734 P) ::
  (nat_lit 446, topI.o_736 P) ::
  (nat_lit 447, topI.o_737 P) ::
  (nat_lit 449, topI.o_739 P) ::
  (nat_lit 450, topI.o_740 P) ::
  (nat_lit 451, topI.o_741 P) ::
  (nat_lit 452, topI.o_742 P) ::
  (nat_lit 454, topI.o_744 P) ::
  (nat_lit 455, topI.o_745 P) ::
  (nat_lit 457, topI.o_747 P) ::
  (nat_lit 458, topI.o_748 P) ::
  (nat_lit 459, topI.o_749 P) ::
  (nat_lit 460, topI.o_750 P) ::
  (nat_lit 461, topI.o_751 P) ::
  (nat_lit 463, topI.o_753 P) ::
  (nat_lit 464, topI.o_754 P) ::
  (nat_lit 466, topI.o_756 P) ::
  (nat_lit 467, topI.o_757 P) ::
  (nat_lit 468, topI.o_758 P) ::
  (nat_lit 470, topI.o_760 P) ::
  (nat_lit 471, topI.o_761 P) ::
  (nat_lit 473, topI.o_763 P) ::
  (nat_lit 474, topI.o_764 P) ::
  (nat_lit 475, topI.o_765 P) ::
  (nat_lit 477, topI.o_767 P) ::
  (nat_lit 478, topI.o_768 P) ::
  (nat_lit 480, topI.o_770 P) ::
  (nat_lit 481, topI.o_771 P) ::
  (nat_lit 482, topI.o_772 P) ::
  (nat_lit 483, topI.o_773 P) ::
  (nat_lit 485, topI.o_775 P) ::
  (nat_lit 486, topI.o_776 P) ::
  (nat_lit 488, topI.o_778 P) ::
  (nat_lit 489, topI.o_779 P) ::
  (nat_lit 490, topI.o_780 P) ::
  (nat_lit 491, topI.o_781 P) ::
  (nat_lit 493, topI.o_783 P) ::
  (nat_lit 494, topI.o_784 P) ::
  (nat_lit 496, topI.o_786 P) ::
  (nat_lit 497, topI.o_787 P) ::
  (nat_lit 498, topI.o_788 P) ::
  (nat_lit 499, topI.o_789 P) ::
  (nat_lit 501, topI.o_791 P) ::
  (nat_lit 502, topI.o_792 P) ::
  (nat_lit 504, topI.o_794 P) ::
  (nat_lit 505, topI.o_795 P) ::
  (nat_lit 506, topI.o_796 P) ::
  (nat_lit 507, topI.o_797 P) ::
  (nat_lit 509, topI.o_799 P) ::
  (nat_lit 510, topI.o_800 P) ::
  (nat_lit 512, topI.o_802 P) ::
  (nat_lit 513, topI.o_803 P) ::
  (nat_lit 514, topI.o_804 P) ::
  (nat_lit 515, topI.o_805 P) ::
  (nat_lit 517, topI.o_807 P) ::
  (nat_lit 518, topI.o_808 P) ::
  (nat_lit 520, topI.o_810 P) ::
  (nat_lit 521, topI.o_811 P) ::
  (nat_lit 522, topI.o_812 P) ::
  (nat_lit 523, topI.o_813 P) ::
  (nat_lit 524, topI.o_814 P) ::
  (nat_lit 525, topI.o_815 P) ::
  (nat_lit 526, topI.o_816 P) ::
  (nat_lit 527, topI.o_817 P) ::
  (nat_lit 530, topI.o_928 P) ::
  (nat_lit 532, topI.o_930 P) ::
  (nat_lit 533, topI.o_931 P) ::
  (nat_lit 535, topI.o_933 P) ::
  (nat_lit 536, topI.o_934 P) ::
  (nat_lit 537, topI.o_935 P) ::
  (nat_lit 539, topI.o_937 P) ::
  (nat_lit 540, topI.o_938 P) ::
  (nat_lit 542, topI.o_940 P) ::
  (nat_lit 543, topI.o_941 P) ::
  (nat_lit 544, topI.o_942 P) ::
  (nat_lit 546, topI.o_944 P) ::
  (nat_lit 547, topI.o_945 P) ::
  (nat_lit 549, topI.o_947 P) ::
  (nat_lit 550, topI.o_948 P) ::
  (nat_lit 551, topI.o_949 P) ::
  (nat_lit 553, topI.o_951 P) ::
  (nat_lit 554, topI.o_952 P) ::
  (nat_lit 556, topI.o_954 P) ::
  (nat_lit 557, topI.o_955 P) ::
  (nat_lit 558, topI.o_956 P) ::
  (nat_lit 560, topI.o_958 P) ::
  (nat_lit 561, topI.o_959 P) ::
  (nat_lit 563, topI.o_961 P) ::
  (nat_lit 564, topI.o_962 P) ::
  (nat_lit 565, topI.o_963 P) ::
  (nat_lit 568, topI.o_966 P) ::
  (nat_lit 569, topI.o_967 P) :: []
def asK : List Addr := [2, 3, 15, 17, 18, 20, 21, 22, 29, 30, 32, 33, 35, 36, 37, 39, 40, 42, 43, 44, 46, 47, 49, 50, 51, 53, 54, 56, 57, 58, 60, 61, 63, 64, 65, 67, 68, 70, 71, 72, 74, 75, 77, 78, 79, 81, 82, 84, 85, 86, 88, 89, 91, 92, 93, 95, 96, 98, 99, 100, 101, 103, 104, 106, 107, 108, 109, 111, 112, 114, 115, 116, 118, 119, 121, 122, 123, 125, 126, 128, 129, 130, 131, 132, 133, 134, 137, 144, 145, 146, 148, 149, 151, 152, 153, 155, 156, 158, 159, 160, 162, 163, 165, 166, 167, 169, 170, 172, 173, 174, 176, 177, 179, 180, 181, 183, 184, 186, 187, 188, 190, 191, 193, 194, 195, 197, 198, 200, 201, 204, 206, 207, 209, 210, 211, 212, 213, 214, 217, 224, 225, 226, 227, 228, 231, 232, 234, 235, 237, 238, 239, 241, 242, 244, 245, 246, 248, 249, 251, 252, 253, 255, 256, 258, 259, 260, 261, 263, 264, 266, 267, 272, 274, 275, 277, 278, 279, 281, 282, 284, 285, 286, 293, 295, 296, 298, 299, 300, 302, 303, 305, 306, 307, 309, 310, 312, 313, 314, 316, 317, 319, 320, 321, 323, 324, 326, 327, 328, 330, 331, 333, 334, 335, 336, 338, 339, 341, 342, 343, 344, 346, 347, 349, 350, 351, 352, 354, 355, 357, 358, 359, 360, 362, 363, 365, 366, 367, 368, 370, 371, 373, 374, 375, 376, 378, 379, 381, 382, 383, 384, 386, 387, 389, 390, 391, 392, 394, 395, 397, 398, 399, 400, 402, 403, 405, 406, 407, 408, 409, 410, 411, 412, 415, 422, 423, 425, 426, 428, 429, 430, 432, 433, 435, 436, 437, 439, 440, 442, 443, 444, 446, 447, 449, 450, 451, 452, 454, 455, 457, 458, 459, 460, 461, 463, 464, 466, 467, 468, 470, 471, 473, 474, 475, 477, 478, 480, 481, 482, 483, 485, 486, 488, 489, 490, 491, 493, 494, 496, 497, 498, 499, 501, 502, 504, 505, 506, 507, 509, 510, 512, 513, 514, 515, 517, 518, 520, 521, 522, 523, 524, 525, 526, 527, 530, 532, 533, 535, 536, 537, 539, 540, 542, 543, 544, 546, 547, 549, 550, 551, 553, 554, 556, 557, 558, 560, 561, 563, 564, 565, 568, 569]
theorem asK_ok (P : Params) : asK = (KF P).map (·.1) := by kernel_rfl!
/-- a frozenset of strs stands at a: its members -/
def FzAt (h : Heap) (a : Addr) (S : List Str) : Prop :=
  ∃ (es : Array (Int × Value)) (n : Nat) (t : SetTable), h.get? a = some (frO es n t) ∧ t.fits es.size = true ∧ es.size = 3 ∧ (∀ e ∈ es.toList, ∃ y ty, e.2 = .str y ty) ∧ ∀ v : Str, (∃ e ∈ es.toList, ∃ ty, e.2 = .str v ty) ↔ v ∈ S
theorem FzAt.keeps {h h' : Heap} {a : Addr} {S : List Str} (x : FzAt h a S) (k : ∀ b o, h.get? b = some o → h'.get? b = some o) : FzAt h' a S :=
  let ⟨es, n, t, g, r⟩ := x; ⟨es, n, t, k _ _ g, r⟩
theorem FzAt.of {h : Heap} {a : Addr} {w : World} {x y z : Str} {i j k : Nat} {es : Array (Int × Value)} {n : Nat} {t : SetTable} (g : h.get? a = some (frO es n t)) (f : t.fits es.size = true)
    (p : es.toList.Perm [(HashOf w x, .str x i), (HashOf w y, .str y j), (HashOf w z, .str z k)]) : FzAt h a [z, y, x] := by
  refine ⟨es, n, t, g, f, by have := p.length_eq; simpa using this, fun e he => ?_, fun v => ?_⟩
  · have := p.mem_iff.mp he
    simp only [List.mem_cons, List.not_mem_nil, or_false] at this
    rcases this with rfl | rfl | rfl <;> exact ⟨_, _, rfl⟩
  · constructor
    · rintro ⟨e, he, ty, q⟩
      have := p.mem_iff.mp he
      simp only [List.mem_cons, List.not_mem_nil, or_false] at this
      rcases this with rfl | rfl | rfl <;> (cases q; simp)
    · intro hv
      simp only [List.mem_cons, List.not_mem_nil, or_false] at hv
      rcases hv with rfl | rfl | rfl
      · exact ⟨(HashOf w v, .str v k), p.mem_iff.mpr (by simp), k, rfl⟩
      · exact ⟨(HashOf w v, .str v j), p.mem_iff.mpr (by simp), j, rfl⟩
      · exact ⟨(HashOf w v, .str v i), p.mem_iff.mpr (by simp), i, rfl⟩
abbrev opS : List Str := ["(", "[", "{"]
abbrev clS : List Str := [")", "]", "}"]
structure Says (w : World) (h : Heap) : Prop where
  k : (KF w.params).In h
  o : FzAt h 269 opS
  c : FzAt h 271 clS
theorem Says.keeps (w : World) (h h' : Heap) (x : Says w h) (k : ∀ b o, h.get? b = some o → h'.get? b = some o) : Says w h' := ⟨Frag.In.keeps x.k k, x.o.keeps k, x.c.keeps k⟩
def TwoFz (h : Heap) : Prop := FzAt h 269 opS ∧ FzAt h 271 clS
noncomputable def Yq (s : Shared) : List (Option Obj) × Bool := (asK.map s.heap.get?, @decide (TwoFz s.heap) (Classical.propDecidable _))
noncomputable def Yv (w : World) : List (Option Obj) × Bool := ((KF w.params).map fun p => some p.2, true)
theorem says_of (w : World) (s : Shared) (e : Yq s = Yv w) : Says w s.heap := by
  have e1 := congrArg Prod.fst e
  have e2 := congrArg Prod.snd e
  obtain ⟨a, b⟩ := @of_decide_eq_true (TwoFz s.heap) (Classical.propDecidable _) e2
  exact ⟨InK.of asK_ok w s e1, a, b⟩

set_option linter.unusedSimpArgs false
theorem look_part {a b : Nat} {f : Addr → Option Obj} {K : Frag} (h : ((asK.drop a).take b).map f = ((K.drop a).take b).map fun p => some p.2) (r : (asK.drop (a + b)).map f = (K.drop (a + b)).map fun p => some p.2) : (asK.drop a).map f = (K.drop a).map fun p => some p.2 := by
  rw [← List.take_append_drop b (asK.drop a), ← List.take_append_drop b (K.drop a), List.map_append, List.map_append, h, List.drop_drop, List.drop_drop, r]
theorem look_0 (d1 d2 d3 d4 : Obj) (w : World) (os : OsState) : ((asK.drop 0).take 100).map (S4 d1 d2 d3 d4 w os topI.tree_967 570 933).abs.heap.get? = (((KF w.params).drop 0).take 100).map fun p => some p.2 := by
  kernel_rfl!
theorem look_100 (d1 d2 d3 d4 : Obj) (w : World) (os : OsState) : ((asK.drop 100).take 100).map (S4 d1 d2 d3 d4 w os topI.tree_967 570 933).abs.heap.get? = (((KF w.params).drop 100).take 100).map fun p => some p.2 := by
  kernel_rfl!
theorem look_200 (d1 d2 d3 d4 : Obj) (w : World) (os : OsState) : ((asK.drop 200).take 100).map (S4 d1 d2 d3 d4 w os topI.tree_967 570 933).abs.heap.get? = (((KF w.params).drop 200).take 100).map fun p => some p.2 := by
  kernel_rfl!
theorem look_300 (d1 d2 d3 d4 : Obj) (w : World) (os : OsState) : (asK.drop 300).map (S4 d1 d2 d3 d4 w os topI.tree_967 570 933).abs.heap.get? = ((KF w.params).drop 300).map fun p => some p.2 := by
  kernel_rfl!
theorem looks3 (d1 d2 d3 d4 : Obj) (w : World) (os : OsState) : asK.map (S4 d1 d2 d3 d4 w os topI.tree_967 570 933).abs.heap.get? = (KF w.params).map fun p => some p.2 :=
  look_part (a := 0) (look_0 d1 d2 d3 d4 w os) (look_part (a := 100) (look_100 d1 d2 d3 d4 w os) (look_part (a := 200) (look_200 d1 d2 d3 d4 w os) (look_300 d1 d2 d3 d4 w os)))
theorem at269 (d1 d3 d4 : Obj) (es : Array (Int × Value)) (n : Nat) (t : SetTable) (w : World) (os : OsState) : (S4 d1 (frO es n t) d3 d4 w os topI.tree_967 570 933).abs.heap.get? 269 = some (frO es n t) := by
  kernel_rfl!
theorem at271 (d1 d2 d3 : Obj) (es : Array (Int × Value)) (n : Nat) (t : SetTable) (w : World) (os : OsState) : (S4 d1 d2 d3 (frO es n t) w os topI.tree_967 570 933).abs.heap.get? 271 = some (frO es n t) := by
  kernel_rfl!
theorem open_is : opening pw = plainProg pw.main.scope.names := by kernel_rfl!
theorem fence_is (s : Shared) : fenceModules? pw s = some s := by kernel_rfl!
theorem fz2 (d1 d3 : Obj) (e1 e2 : Array (Int × Value)) (n1 n2 : Nat) (t1 t2 : SetTable) (w : World) (os : OsState) (f1 : t1.fits e1.size = true) (f2 : t2.fits e2.size = true)
   (p1 : e1.toList.Perm [(HashOf w "{", .str "{" 552), (HashOf w "[", .str "[" 551), (HashOf w "(", .str "(" 550)]) (p2 : e2.toList.Perm [(HashOf w "}", .str "}" 559), (HashOf w "]", .str "]" 558), (HashOf w ")", .str ")" 557)]) : TwoFz (S4 d1 (frO e1 n1 t1) d3 (frO e2 n2 t2) w os topI.tree_967 570 933).abs.heap :=
  ⟨FzAt.of (at269 ..) f1 p1, FzAt.of (at271 ..) f2 p2⟩
theorem yq_is (d1 d3 : Obj) (e1 e2 : Array (Int × Value)) (n1 n2 : Nat) (t1 t2 : SetTable) (w : World) (os : OsState) (h : TwoFz (S4 d1 (frO e1 n1 t1) d3 (frO e2 n2 t2) w os topI.tree_967 570 933).abs.heap) : Yq (S4 d1 (frO e1 n1 t1) d3 (frO e2 n2 t2) w os topI.tree_967 570 933).abs = Yv w :=
  Prod.ext (looks3 ..) (@decide_eq_true (TwoFz _) (Classical.propDecidable _) h)
theorem top_is (d1 d3 : Obj) (e1 e2 : Array (Int × Value)) (n1 n2 : Nat) (t1 t2 : SetTable) (w : World) (os : OsState) (r : topRun treeTable pw w 11 (some (.ref 6)) 8000 ⟨boot_heap w.params, ⟨[]⟩, boot_drawn, boot_toks, os⟩ (topStub pw) = some (S4 d1 (frO e1 n1 t1) d3 (frO e2 n2 t2) w os topI.tree_967 570 933).abs) :
   topFrom treeTable pw w 8000 ⟨boot_heap w.params, Array.mk [], boot_drawn, boot_toks, os⟩ = some (S4 d1 (frO e1 n1 t1) d3 (frO e2 n2 t2) w os topI.tree_967 570 933).abs := by
    obtain ⟨z1, z2, z3⟩ : _ ∧ _ ∧ _ := by simpa only [Prod.mk.injEq] using size_ok w
    unfold topFrom
    dsimp only
    rw [z1, z2, z3, r]
    show (match staticsOk (importedModules pw.main.body) (boot_heap w.params) (S4 d1 (frO e1 n1 t1) d3 (frO e2 n2 t2) w os topI.tree_967 570 933).abs.heap && namesBound pw (S4 d1 (frO e1 n1 t1) d3 (frO e2 n2 t2) w os topI.tree_967 570 933).abs.heap && gensDone (S4 d1 (frO e1 n1 t1) d3 (frO e2 n2 t2) w os topI.tree_967 570 933).abs && laidKept (boot_heap w.params) (S4 d1 (frO e1 n1 t1) d3 (frO e2 n2 t2) w os topI.tree_967 570 933).abs.heap with | true => _ | false => _) = _
    rw [looks1]
theorem left_of {p q : Program} {loose : List Str} {Xt : Shared → Bool} {α : Type} {Yf : Shared → α} {Ya : World → α} {N : Nat} {g0 : Bool} {w : World} {sa sb : Shared} (e : fencedOpening treeTable p w N = some sa) (t : topFrom treeTable p w N sa = some sb)
    (h1 : openSeen q loose (importedModules p.main.body) Xt g0 sb = openGood q loose) (h2 : Yf sb = Ya w) : (openEnds treeTable p w N).map (fun s => (openSeen q loose (importedModules p.main.body) Xt g0 s, Yf s)) = some (openGood q loose, Ya w) := by
  unfold openEnds
  rw [e, Option.bind_some, t, Option.map_some, h1, h2]
theorem open_at (w : World) : ∃ os, fencedOpening treeTable pw w 8000 = some ⟨boot_heap w.params, Array.mk [], boot_drawn, boot_toks, os⟩ := by
  obtain ⟨⟨h, gs, d, k, os⟩, e, e'⟩ := Option.map_eq_some_iff.mp (boot_open (p := pw) (N := 8000) open_is (by decide) fence_is w)
  obtain ⟨rfl, rfl, rfl, rfl⟩ : h = boot_heap w.params ∧ gs = Array.mk [] ∧ d = boot_drawn ∧ k = boot_toks := by simpa using e'
  exact ⟨os, e⟩
theorem left : LeftO pw qv lz Xq Yq Yv 8000 := fun w => by
  obtain ⟨os, e⟩ := open_at w
  obtain ⟨d1, d2, d3, d4, ⟨⟨e1, n1, t1, rfl, f1, p1⟩, ⟨e2, n2, t2, rfl, f2, p2⟩, _, _⟩, r⟩ := run_all w os
  exact left_of e (top_is d1 d3 e1 e2 n1 n2 t1 t2 w os r) (looks2 ..) (yq_is d1 d3 e1 e2 n1 n2 t1 t2 w os (fz2 d1 d3 e1 e2 n1 n2 t1 t2 w os f1 f2 p1 p2))
end Mine
end
/- W0 -/
section
open PySem PySem.W PyProof.Rows PySem.Calls
set_option maxRecDepth 100000
set_option linter.unusedVariables false
namespace Mine
/-- the ground that a piece of the call stands on -/
structure At (w : World) (A₀ : Around) (base h₀ : Heap) (L : Addr) (m : Str → Option Value) (env : Env) (outer : List Env) (mean : ExcName → Option Value) (mg mb : Str → Option Value) (h : Heap) : Prop where
  B : Below A₀ base outer h₀
  F : Fr h₀ L h m
  X : (KF w.params).In h₀
  T : Top qv (looseW qv lz) mean mg mb h₀
  hf : env.frame = some L
  hk : env.scope.kind = .function
end Mine
end
/- W1 -/
section
open PySem PySem.W PyProof.Rows PySem.Calls
set_option maxRecDepth 100000
set_option linter.unusedVariables false
namespace Mine
local macro_rules | `(tactic| k_all) => `(tactic| assumption)
abbrev pr : Program := PySem.Challenge.rw_bu5045_01.row.prog
set_option maxHeartbeats 4000000 in
theorem law_next : ∀ (w : World) (A₀ A : Around) (base h₀ : Heap) (L : Addr) (m : Str → Option Value) (env : Env) (outer : List Env) (E : Value → Shared → Prop) (s : Shared) (mean : ExcName → Option Value) (mg mb : Str → Option Value)
    (st sl : Addr) (vs : List Value) (ns : List Int) (i lim : Int) (ti tl : Tok) (n1 n2 : Nat) (rest : List (Addr × Obj)) (Q : Value → Shared → Prop),
    Below A₀ base outer h₀ → Fr h₀ L s.heap m → (KF w.params).In h₀ → Top qv (looseW qv lz) mean mg mb h₀ → A.frames = some (env :: outer) → env.frame = some L → env.scope.kind = .function → A.depth < recursionLimit →
    News h₀ L s.heap ((st, listOf [.ref sl, .int i ti].toArray n1) :: (sl, listOf vs.toArray n2) :: rest) → IntsAre vs ns → ns.length ≤ 60 → 0 ≤ i → i ≤ 1000 → 0 < lim → lim ≤ 16 → @Ne Nat st sl → (∀ p ∈ rest, p.1 ≠ st) → (∀ p ∈ rest, p.1 ≠ sl) →
    (∀ e te h' tk, 0 ≤ e → e < lim → Fr h₀ L h' m → (∃ t2, News h₀ L h' ((st, listOf [.ref sl, .int (i + 1) t2].toArray n1) :: (sl, listOf vs.toArray n2) :: rest)) → Q (.int e te) { s with heap := h', toks := tk }) →
    wpAny (model PySem.Challenge.rw_bu5045_01.row.prog w) A (call (.ref 543) [.ref st, .int lim tl]) Q E s := by
  k_fill
  intro w A₀ A base h₀ L m env outer E s mean mg mb st sl vs ns i lim ti tl n1 n2 rest Q B F X T hA hf hke hroom N hI hlen hi0 hi1 hl0 hl1 hne hr1 hr2 hQ
  refine wpAny_call ?_
  refine' code_def B F X N T hA hf hke ?k6 ?k7 ?k8 ?k9 ?kB ?_ ?c2 ?c3 ?c4 ?c5
  case k6 => k_is
  case k7 => k_is
  case k8 => exact hroom
  case k9 => first | exact BindsTo.of_eq rfl | exact binds_K (by k_in) rfl (by k_is) rfl rfl rfl
  case kB => exact locs rfl
  case c2 => exact rfl
  case c3 => exact rfl
  case c4 => exact rfl
  case c5 => decide
  intro g' L' h' FG' F' N' B' X' T'
  k_steps
  · exact hQ 0 _ _ _ (Int.le_refl 0) hl0 (by assumption) ⟨_, by assumption⟩
  · exact hQ _ _ _ _ (fmod_lo _ hl0) (fmod_hi _ hl0) (by assumption) ⟨_, by assumption⟩
end Mine
end
/- W2 -/
section
open PySem PySem.W PyProof.Rows PySem.Calls
set_option maxRecDepth 100000
set_option linter.unusedVariables false
namespace Mine
theorem entry_hasattr : entryFor table "hasattr" = some Builtin.«hasattr» := entryFor_of_fast (by kernel_rfl)
theorem kind_hasattr : builtinKind "hasattr" = none := by decide +kernel
theorem plain_hasattr : plainId "hasattr" = true := by decide +kernel
theorem args_hasattr (a b : Value) : argsOk "hasattr" ⟨[a, b], []⟩ := by unfold argsOk; kernel_rfl
section
variable {prog : Program} {w : World} {A : Around} {E : Value → Shared → Prop} {s : Shared} {K : Frag} {x C L : Addr} {ox : Obj} {od : Option Obj} {name : Str} {h₀ : Heap} {m : Str → Option Value} {news : List (Addr × Obj)}
theorem hasattr_no {t : Tok} {cd : ClassData} {Q : Value → Shared → Prop} (Fh : Fr h₀ L s.heap m) (X₀ : K.In h₀) (N : News h₀ L s.heap news) (I : InstAt s.heap x ox C od)
    (hga : findIn K (.ref C) "__getattribute__" = some (some (.builtin "object.__getattribute__"))) (hf : findObj K C od name = some .missing) (hk : findIn K (.ref C) "__getattr__" = some none)
    (hm : subIn K (.ref C) (.type "module") = some false) (hc : clsIn K C = some cd) (hn : cd.name.cps.foldl (fun k c => k + (Str.utf8Of c).length) 0 ≤ 100) (hn2 : name.length ≤ 100) (hn3 : cd.name.toString.length ≤ 50) (hh : A.handled = none)
    (h : ∀ h' tk, Fr h₀ L h' m → News h₀ L h' news → Q (.bool false) { s with heap := h', toks := tk }) :
    wpAny (model prog w) A (call (.builtin "hasattr") [.ref x, .str name t]) Q E s := by
  refine Calls.call_function_entry kind_hasattr plain_hasattr entry_hasattr (args_hasattr _ _) ?_
  have X := X₀.keeps Fh.keep
  have L0 := I.type (M := model prog w)
  unfold Builtin.«hasattr»
  refine wpAny_bind (m := someArgs "hasattr" 2 2 _) (wpAny_pure ?_)
  dsimp only
  refine wpAny_bind (wpAny_pure ?_)
  rw [if_neg (by intro q; exact absurd (eq_of_beq q) (by intro e; cases e))]
  refine wpAny_bind (L0.here ?_)
  dsimp only
  refine wpAny_bind (wpAny_bind ?_)
  refine wpAny_pure ?_
  dsimp only
  refine wpAny_bind (wpAny_bind (L0.here ((looks_subIn X hm).here ?_)))
  simp only [Bool.not_false, if_true]
  refine wpAny_pure ?_
  rw [if_neg (by decide)]
  have L1 := looks_findIn (M := model prog w) X hga
  have L2 := looks_find (M := model prog w) X I hf
  have L3 := looks_findIn (M := model prog w) X hk
  have L4 := looks_clsIn (M := model prog w) X hc
  have hh1 : (A.in1.under (Code.builtin "proto.getattr_hooked" { pos := [Value.ref x, Value.str name t] })).handled = none := hh
  refine wpAny_bind ?_
  unfold getAttrBy?
  refine wpAny_bind (wpAny_attempt ?_)
  unfold getAttrBy
  refine wpAny_holding (wpAny_bind (L0.here (wpAny_bind (L1.here ?_))))
  show wpAny _ _ (getAttrEveryday _ _ _) _ _ _
  refine wpAny_bind (wpAny_onRaise (wpAny_runValue (codeAny_builtin F.plainObj_entry_getattr_hooked ?_)))
  refine wpAny_bind (wpAny_pure (wpAny_bind (L0.here (wpAny_bind (L2.here (wpAny_bind (L3.here ?_)))))))
  show wpAny _ _ (Builtin.ObjectAttr.noSuchAttribute _ _) _ _ _
  unfold Builtin.ObjectAttr.noSuchAttribute
  refine wpAny_bind ?_
  unfold typeNameOfCut shownTypeOf typeNameCut
  refine wpAny_bind (wpAny_bind (L0.here ?_))
  dsimp only
  rw [if_neg (by intro q; exact absurd (eq_of_beq q) (by intro e; cases e))]
  refine wpAny_pure ?_
  dsimp only
  refine wpAny_bind (L4.here ?_)
  rw [if_pos hn]
  refine wpAny_pure ?_
  have hlen : (Str.ofString (toString "'" ++ toString cd.name.toString ++ toString "' object has no attribute '") ++ name ++ Str.ofString "'").length ≤ sizeLine := by
    refine attrMsg_fits ?_ (by rw [sizeLine_eq]; omega)
    show ("'" ++ cd.name.toString ++ "' object has no attribute '").length ≤ 90
    rw [String.length_append, String.length_append]
    have e1 : "'".length = 1 := by decide
    have e2 : "' object has no attribute '".length = 27 := by decide
    omega
  refine wpAny_raiseAttrError hh1 (fun h' tk e hx => ?_) hlen
  have he := hx.there
  obtain ⟨t1, u1, he⟩ := he
  refine wpAny_pure ?_
  have hk' : ∀ b o, s.heap.get? b = some o → h'.get? b = some o := hx.of.keeps
  refine wpAny_bind (wpAny_bind (wpAny_bind (wpAny_loadPart he (wpAny_pure ?_))))
  rw [sub_AttributeError]
  refine wpAny_pure ?_
  rw [if_pos rfl]
  refine wpAny_pure ?_
  rw [if_neg (by decide)]
  exact wpAny_pure ⟨_, rfl, h h' tk (Fh.keeps hk') (N.grown hk')⟩
theorem findObj_miss {od : Obj} (hh : hasDictIn K C = true) (ha : findIn K (.ref C) name = some none) (hc : copiedNames.contains name = false) (hl : lookIn name od = some none) : findObj K C (some od) name = some .missing := by
  obtain ⟨cd, hc', hd⟩ := any_some hh
  unfold findObj
  have ho : PySem.W.ownOf cd (some od) name = some none := by unfold PySem.W.ownOf; rw [if_pos hd]; exact hl
  rw [hc', Option.bind_some, ha, Option.bind_some]
  simp only [Option.bind_some, ho, hc, Bool.false_and, Bool.false_eq_true, if_false]
end
theorem fill2 : ∀ (w : World) (h : Heap), (KF w.params).In h → PySem.Challenge.rw_bu5045_01.row.prog = PySem.Challenge.rw_bu5045_01.row.prog := by
  k_fill; intros; rfl
section
variable {prog : Program} {w : World} {A : Around} {E : Value → Shared → Prop} {s : Shared} {x L : Addr} {ox : Obj} {h₀ : Heap} {m : Str → Option Value} {news : List (Addr × Obj)} {es : List DictEntry} {n : Nat}
set_option maxHeartbeats 4000000 in
theorem hasattr_leaf {t : Tok} {Q : Value → Shared → Prop} (Fh : Fr h₀ L s.heap m) (X₀ : (KF w.params).In h₀) (N : News h₀ L s.heap news) (I : InstAt s.heap x ox 214 (some (dictOf es n))) (hl : getL "is_pseudo" es = some none) (hh : A.handled = none)
    (h : ∀ h' tk, Fr h₀ L h' m → News h₀ L h' news → Q (.bool false) { s with heap := h', toks := tk }) :
    wpAny (model prog w) A (call (.builtin "hasattr") [.ref x, .str "is_pseudo" t]) Q E s := by
  have hcn : (clsIn (KF w.params) 214).map (·.name) = some "Leaf" := by kernel_rfl!
  obtain ⟨cd, hcd, hnm⟩ := Option.map_eq_some_iff.mp hcn
  refine hasattr_no (K := KF w.params) (C := 214) (cd := cd) Fh X₀ N I ?a ?b ?c ?d hcd ?f ?g ?i hh h
  case a => k_is
  case b => exact findObj_miss (by k_is) (by k_is) (by decide) hl
  case c => k_is
  case d => k_is
  case f => rw [hnm]; decide +kernel
  case g => decide +kernel
  case i => rw [hnm]; decide +kernel
end
end Mine
end
/- W3 -/
section
open PySem PySem.W PyProof.Rows PySem.Calls
set_option maxRecDepth 100000
set_option linter.unusedVariables false
namespace Mine
/-- no address twice -/
def NN (l : List (Addr × Obj)) : Prop := (l.map (·.1)).Nodup
theorem NN.perm {a b : List (Addr × Obj)} (h : NN a) (p : a.Perm b) : NN b := by unfold NN at *; exact (p.map (·.1)).nodup_iff.mp h
theorem NN.same {a b : List (Addr × Obj)} (h : NN a) (p : a.map (·.1) = b.map (·.1)) : NN b := by unfold NN at *; rw [← p]; exact h
theorem NN.tail {p : Addr × Obj} {l : List (Addr × Obj)} (h : NN (p :: l)) : NN l := (List.nodup_cons.mp h).2
theorem NN.off {p : Addr × Obj} {l : List (Addr × Obj)} (h : NN (p :: l)) : ∀ q ∈ l, q.1 ≠ p.1 := fun q hq e => (List.nodup_cons.mp h).1 (List.mem_map.mpr ⟨q, hq, e⟩)
theorem NN.cons {p : Addr × Obj} {l : List (Addr × Obj)} (h : NN l) (ho : ∀ q ∈ l, q.1 ≠ p.1) : NN (p :: l) := List.nodup_cons.mpr ⟨fun hm => by obtain ⟨q, hq, e⟩ := List.mem_map.mp hm; exact ho q hq e, h⟩
theorem NN.consLt {a : Addr} {o : Obj} {l : List (Addr × Obj)} (h : NN l) (ho : ∀ q ∈ l, q.1 < a) : NN ((a, o) :: l) := h.cons fun q hq => Nat.ne_of_lt (ho q hq)
theorem NN.nil : NN [] := List.nodup_nil
theorem lt_of_all {d : Nat} : ∀ {l : List (Addr × Obj)}, AllLt d l → ∀ p ∈ l, p.1 < d
  | [], _, _, hp => nomatch hp
  | _ :: _, h, _, hp => (List.mem_cons.mp hp).elim (fun e => e ▸ h.1) (lt_of_all h.2 _)
theorem NN.consAll {a : Addr} {o : Obj} {l : List (Addr × Obj)} (h : NN l) (ho : AllLt a l) : NN ((a, o) :: l) := h.consLt (lt_of_all ho)
theorem News.perm {h₀ h : Heap} {L : Addr} {a b : List (Addr × Obj)} (N : News h₀ L h a) (p : a.Perm b) : News h₀ L h b := fun q hq => N q (p.mem_iff.mpr hq)
/-- how often -/
noncomputable def cnt (x : Addr × Obj) (l : List (Addr × Obj)) : Nat := @List.count _ (@instBEqOfDecidableEq _ (fun _ _ => Classical.propDecidable _)) x l
noncomputable def one (x p : Addr × Obj) : Nat := cnt x [p]
theorem cnt_nil (x : Addr × Obj) : cnt x [] = 0 := rfl
theorem cnt_app (x : Addr × Obj) (a b : List (Addr × Obj)) : cnt x (a ++ b) = cnt x a + cnt x b := by unfold cnt; exact @List.count_append _ (_) x a b
theorem cnt_cons (x p : Addr × Obj) (l : List (Addr × Obj)) : cnt x (p :: l) = one x p + cnt x l := cnt_app x [p] l
theorem permOf {a b : List (Addr × Obj)} (h : ∀ x, cnt x a = cnt x b) : a.Perm b :=
  letI : DecidableEq (Addr × Obj) := fun _ _ => Classical.propDecidable _
  List.perm_iff_count.mpr h
theorem cnt_perm {a b : List (Addr × Obj)} (h : a.Perm b) (x) : cnt x a = cnt x b :=
  letI : DecidableEq (Addr × Obj) := fun _ _ => Classical.propDecidable _
  List.perm_iff_count.mp h x
section
variable {prog : Program} {w : World} {A : Around} {E : Value → Shared → Prop} {s : Shared} {env : Env} {h₀ : Heap} {x : Str} {body : List Stmt} {Q : Flow → Shared → Prop} {σ : Type}
/-- what a turn of a loop must leave -/
def Turn (h₀ : Heap) (L : Addr) (J : σ → Prop) (Led : σ → List (Addr × Obj)) (ps : σ → List (Str × Value)) (I : Addr) (oI : Obj) (s₁ : Shared) (Q : Flow → Shared → Prop) (f : Flow) (s₂ : Shared) : Prop :=
  match f with
  | .ret v => Q (.ret v) s₂
  | .brk => Q .next s₂
  | _ => ∃ h' tk m' c', s₂ = { s₁ with heap := h', toks := tk } ∧ Fr h₀ L h' m' ∧ News h₀ L h' ((I, oI) :: Led c') ∧ NN ((I, oI) :: Led c') ∧ (∀ p ∈ ps c', m' p.1 = some p.2) ∧ J c'
theorem Turn.next {L : Addr} {J : σ → Prop} {Led : σ → List (Addr × Obj)} {ps : σ → List (Str × Value)} {I : Addr} {oI : Obj} {s₁ : Shared} {h' : Heap} {tk : Nat} {m' : Str → Option Value} (c' : σ)
    (F : Fr h₀ L h' m') (N : News h₀ L h' ((I, oI) :: Led c')) (D : NN ((I, oI) :: Led c')) (hk : ∀ p ∈ ps c', m' p.1 = some p.2) (hj : J c') : Turn h₀ L J Led ps I oI s₁ Q .next { s₁ with heap := h', toks := tk } := ⟨h', tk, m', c', rfl, F, N, D, hk, hj⟩
theorem Turn.cont {L : Addr} {J : σ → Prop} {Led : σ → List (Addr × Obj)} {ps : σ → List (Str × Value)} {I : Addr} {oI : Obj} {s₁ : Shared} {h' : Heap} {tk : Nat} {m' : Str → Option Value} (c' : σ)
    (F : Fr h₀ L h' m') (N : News h₀ L h' ((I, oI) :: Led c')) (D : NN ((I, oI) :: Led c')) (hk : ∀ p ∈ ps c', m' p.1 = some p.2) (hj : J c') : Turn h₀ L J Led ps I oI s₁ Q .cont { s₁ with heap := h', toks := tk } := ⟨h', tk, m', c', rfl, F, N, D, hk, hj⟩
theorem Turn.ret {L : Addr} {J : σ → Prop} {Led : σ → List (Addr × Obj)} {ps : σ → List (Str × Value)} {I : Addr} {oI : Obj} {s₁ s₂ : Shared} {v : Value} (h : Q (.ret v) s₂) : Turn h₀ L J Led ps I oI s₁ Q (.ret v) s₂ := h
theorem kst_self {ps : List (Str × Value)} {m : Str → Option Value} (h : ∀ p ∈ ps, m p.1 = some p.2) : kstB m ps = m := funext fun z => kstB_eq h fun _ => rfl
theorem it_walk {I : Addr} {fp : List Addr} {n : Nat} {P : Nat → Value → Prop} {St : Nat → Heap → Prop} {m₀ : Str → Option Value} (J : Nat → σ → Prop) (Led : σ → List (Addr × Obj)) (ps : σ → List (Str × Value)) (c₀ : σ)
    (W : Walks prog w A I fp [I] n P St) (hLf : env.locals ∉ fp) (hnew : h₀.get? I = none) (hI : ∀ p ∈ Led c₀, p.1 ≠ I) (hst : St 0 s.heap) (hsto : ∀ i h, St i h → ∃ o, h.get? I = some o) (hIf : I ∈ fp)
    (hfp : ∀ b ∈ fp, b ≠ I → h₀.get? b = none → ∃ o, ∀ i c, J i c → (b, o) ∈ Led c)
    (F : Fr h₀ env.locals s.heap m₀) (N : News h₀ env.locals s.heap (Led c₀)) (D : NN (Led c₀)) (hk : ∀ p ∈ ps c₀, m₀ p.1 = some p.2) (hj : J 0 c₀)
    (turn : ∀ i v (c : σ) u h tk oI, i < n → P i v → J i c → Fr h₀ env.locals h (fun y => if y = x then some v else kstB u (ps c) y) → News h₀ env.locals h ((I, oI) :: Led c) → NN ((I, oI) :: Led c) →
      wpAny (model prog w) A (execs body env) (Turn h₀ env.locals (J (i + 1)) Led ps I oI { s with heap := h, toks := tk } Q) E { s with heap := h, toks := tk })
    (done : ∀ (c : σ) u h tk, J n c → Fr h₀ env.locals h (kstB u (ps c)) → News h₀ env.locals h (Led c) → NN (Led c) → Q .next { s with heap := h, toks := tk }) :
    LoopAtV prog w A h₀ env x body Q E (.ref I) s := by
  refine ⟨I, fp, [I], n, P, St, m₀, Led c₀, (fun i m nx => ∃ c, nx = Led c ∧ NN ((I, default) :: Led c) ∧ (∀ p ∈ ps c, m p.1 = some p.2) ∧ J i c), rfl, W, hLf, ?_, ?_, hst, F, N, ⟨c₀, rfl, D.cons hI, hk, hj⟩, ?_, ?_⟩
  · intro b hb; rw [List.mem_singleton.mp hb]; exact hnew
  · intro p hp hb; exact hI p hp (List.mem_singleton.mp hb)
  · rintro i v m₁ nx s₁ own ⟨h, tk, rfl⟩ hi hP ⟨c, rfl, Dc, hkc, hJ⟩ hoff hown hget hall hst₁ F₁ N₁
    obtain ⟨oI, hoI⟩ := hsto _ _ hst₁
    have hmI : (I, oI) ∈ own := hall I hIf hnew oI hoI
    have D₁ : NN ((I, oI) :: Led c) := Dc.same rfl
    have N₂ : News h₀ env.locals h ((I, oI) :: Led c) := fun p hp => (List.mem_cons.mp hp).elim (fun e => e ▸ N₁ _ (List.mem_append_left _ hmI)) fun hp => N₁ p (List.mem_append_right _ hp)
    have F₂ : Fr h₀ env.locals h (fun y => if y = x then some v else kstB m₁ (ps c) y) := by rw [kst_self hkc]; exact F₁
    refine wpAny_mono (turn i v c m₁ h tk oI hi hP hJ F₂ N₂ D₁) (fun f s₂ p => ?_) fun _ _ e => e
    have fin : (∃ h' tk' m' c', s₂ = { s with heap := h', toks := tk' } ∧ Fr h₀ env.locals h' m' ∧ News h₀ env.locals h' ((I, oI) :: Led c') ∧ NN ((I, oI) :: Led c') ∧ (∀ p ∈ ps c', m' p.1 = some p.2) ∧ J (i + 1) c') →
        LoopStepU h₀ env.locals [I] own (fun m nx => ∃ c, nx = Led c ∧ NN ((I, default) :: Led c) ∧ (∀ p ∈ ps c, m p.1 = some p.2) ∧ J (i + 1) c) { s with heap := h, toks := tk } .next s₂ := by
      rintro ⟨h', tk', m', c', e, F', N', D', hk', hJ'⟩
      refine ⟨rfl, h', tk', m', Led c', e, F', fun p hp => ?_, fun p hp hb => D'.off p hp (List.mem_singleton.mp hb), c', rfl, D'.same rfl, hk', hJ'⟩
      rcases List.mem_append.mp hp with hp | hp
      · have hg := hget p hp
        by_cases hpI : p.1 = I
        · have : p = (I, oI) := Prod.ext hpI (by rw [hpI] at hg; exact Option.some.inj (hg.symm.trans hoI))
          rw [this]; exact N' _ (.head _)
        · have hn := (N₁ p (List.mem_append_left _ hp)).2.2
          obtain ⟨o, ho⟩ := hfp p.1 (hown p hp) hpI hn
          have h1 := (N₁ _ (List.mem_append_right _ (ho i c hJ))).1
          have : p = (p.1, o) := Prod.ext rfl (Option.some.inj (hg.symm.trans h1))
          rw [this]
          exact N' _ (.tail _ (ho _ c' hJ'))
      · exact N' p (.tail _ hp)
    cases f with
    | ret v => exact .ret p
    | brk => exact .brk p
    | next => exact .next (fin p)
    | cont => exact .cont (fin p)
  · rintro h' tk m' nx F' N' _ ⟨c, rfl, D', hk', hJ'⟩
    exact done c m' h' tk hJ' (by rw [kst_self hk']; exact F') N' D'.tail
theorem it_list {l : Addr} {vs : List Value} {nn : Nat} {m₀ : Str → Option Value} (J : Nat → σ → Prop) (Led : σ → List (Addr × Obj)) (ps : σ → List (Str × Value)) (c₀ : σ)
    (hh : A.handled = none) (hl : ∀ i c, J i c → (l, listOf vs.toArray nn) ∈ Led c) (F : Fr h₀ env.locals s.heap m₀) (N : News h₀ env.locals s.heap (Led c₀)) (D : NN (Led c₀)) (hk : ∀ p ∈ ps c₀, m₀ p.1 = some p.2) (hj : J 0 c₀)
    (turn : ∀ i v (c : σ) u h tk I oI, vs[i]? = some v → J i c → Fr h₀ env.locals h (fun y => if y = x then some v else kstB u (ps c) y) → News h₀ env.locals h ((I, oI) :: Led c) → NN ((I, oI) :: Led c) →
      wpAny (model prog w) A (execs body env) (Turn h₀ env.locals (J (i + 1)) Led ps I oI { s with heap := h, toks := tk } Q) E { s with heap := h, toks := tk })
    (done : ∀ (c : σ) u h tk, J vs.length c → Fr h₀ env.locals h (kstB u (ps c)) → News h₀ env.locals h (Led c) → NN (Led c) → Q .next { s with heap := h, toks := tk }) :
    wpAny (model prog w) A (pyIter (.ref l)) (fun it s₂ => LoopAtV prog w A h₀ env x body Q E it s₂) E s := by
  have hl₀ := hl 0 c₀ hj
  have hol : s.heap.get? l = some (listOf vs.toArray nn) := (N _ hl₀).1
  have hls : s.heap.IsList l vs.toArray := ⟨_, hol, rfl, nn, rfl⟩
  have hne : l ≠ s.heap.objs.size := Nat.ne_of_lt (Heap.lt_size hol)
  refine wpAny_pyIter_list hls ?_
  have W := Walks.list (prog := prog) (w := w) hh s.heap.objs.size l hne vs.toArray
  have hlen : vs.toArray.size = vs.length := by simp
  rw [hlen] at W
  refine it_walk (s := { s with heap := s.heap.push _ }) J Led ps c₀ W ?_ (next_is_new F) (fun p hp => Nat.ne_of_lt (Heap.lt_size (N p hp).1)) ?_ ?_ (by simp) ?_ (F.push _) (fun p hp => ⟨Heap.get?_push_of_some _ (N p hp).1, (N p hp).2⟩) D hk hj ?_ done
  · intro hm
    rcases List.mem_cons.mp hm with e | hm
    · exact absurd F.ns.lt (e ▸ Nat.lt_irrefl _)
    · exact (N _ hl₀).2.1 ((List.mem_singleton.mp hm).symm)
  · exact ⟨⟨_, Heap.get?_push_size _ rfl, rfl, rfl⟩, hls.at fun o e => Heap.get?_push_of_some _ e⟩
  · rintro i h ⟨⟨o, ho, _⟩, _⟩; exact ⟨o, ho⟩
  · intro b hb hne' _
    rcases List.mem_cons.mp hb with e | hb
    · exact absurd e hne'
    · rw [List.mem_singleton.mp hb]; exact ⟨_, hl⟩
  · intro i v c u h tk oI hi hP hJ F' N' D'
    exact turn i v c u h tk _ oI (by simpa using hP) hJ F' N' D'
theorem it_range {r : Addr} {a₀ b₀ : Int} {t₀ u₀ v₀ : Tok} {n : Nat} {m₀ : Str → Option Value} (J : Nat → σ → Prop) (Led : σ → List (Addr × Obj)) (ps : σ → List (Str × Value)) (c₀ : σ)
    (hh : A.handled = none) (hr : IsRange s.heap r a₀ b₀ 1 t₀ u₀ v₀) (hsmall : Builtin.Range.small a₀ b₀ 1 = true) (hn : Builtin.Range.rangeSize a₀ b₀ 1 = (n : Int)) (F : Fr h₀ env.locals s.heap m₀) (N : News h₀ env.locals s.heap (Led c₀)) (D : NN (Led c₀)) (hk : ∀ p ∈ ps c₀, m₀ p.1 = some p.2) (hj : J 0 c₀)
    (turn : ∀ i t (c : σ) u h tk I oI, i < n → J i c → Fr h₀ env.locals h (fun y => if y = x then some (.int (a₀ + (i : Nat)) t) else kstB u (ps c) y) → News h₀ env.locals h ((I, oI) :: Led c) → NN ((I, oI) :: Led c) →
      wpAny (model prog w) A (execs body env) (Turn h₀ env.locals (J (i + 1)) Led ps I oI { s with heap := h, toks := tk } Q) E { s with heap := h, toks := tk })
    (done : ∀ (c : σ) u h tk, J n c → Fr h₀ env.locals h (kstB u (ps c)) → News h₀ env.locals h (Led c) → NN (Led c) → Q .next { s with heap := h, toks := tk }) :
    wpAny (model prog w) A (pyIter (.ref r)) (fun it s₂ => LoopAtV prog w A h₀ env x body Q E it s₂) E s := by
  refine wpAny_pyIter_range hr hsmall ?_
  have W : Walks prog w A s.heap.objs.size [s.heap.objs.size] [s.heap.objs.size] n (fun i v => i < n ∧ ∃ t, v = .int (a₀ + i * 1) t)
      (fun i h => IsRangeIter h s.heap.objs.size (a₀ + (i : Nat) * 1) ((n : Int) - (i : Nat)) 1) := (Walks.range hh _ a₀ 1 n).bound
  refine it_walk (s := { s with heap := s.heap.push _ }) J Led ps c₀ W ?_ (next_is_new F) (fun p hp => Nat.ne_of_lt (Heap.lt_size (N p hp).1)) ?_ ?_ (by simp) ?_ (F.push _) (fun p hp => ⟨Heap.get?_push_of_some _ (N p hp).1, (N p hp).2⟩) D hk hj ?_ done
  · intro hm
    exact absurd F.ns.lt ((List.mem_singleton.mp hm) ▸ Nat.lt_irrefl _)
  · show IsRangeIter _ _ _ _ _; rw [hn]; simpa using Heap.get?_push_size _ rfl
  · intro i h hi; exact ⟨_, hi⟩
  · intro b hb hne' _
    exact absurd (List.mem_singleton.mp hb) hne'
  · rintro i v c u h tk oI hi ⟨_, t, rfl⟩ hJ F' N' D'
    have e1 : a₀ + (i : Int) * 1 = a₀ + (i : Int) := by omega
    rw [e1] at F' 
    exact turn i t c u h tk _ oI hi hJ F' N' D'
end
end Mine
end
/- W4 -/
section
local macro_rules | `(tactic| walk_at "partW4 no0") => `(tactic| fail "none")
open PySem PySem.W PyProof.Rows PySem.Calls
set_option maxRecDepth 100000
set_option linter.unusedVariables false
namespace Mine
local macro_rules | `(tactic| k_all) => `(tactic| assumption)
local macro_rules | `(tactic| kmk_list) => `(tactic| (refine' lstK ?X ?l; (case X => exact Frag.In.keeps (by k_asm) (Fr.keep (by k_asm))); (case l => k_is)))
theorem fill4 : ∀ (w : World) (h : Heap), (KF w.params).In h → PySem.Challenge.rw_bu5045_01.row.prog = PySem.Challenge.rw_bu5045_01.row.prog := by
  k_fill; intros; rfl
abbrev ent (w : World) (x : Str) (t : Tok) (v : Value) : DictEntry := ⟨PyData.keyHash w.params x, .str x t, v⟩
/-- a leaf's fields -/
def leafE (w : World) (f : Nat → Tok) (v : Str) (kd : Int) (nt fx : Addr) : List DictEntry :=
  [ent w "notes" (f 0) (.ref nt), ent w "type" (f 1) (.int kd (f 4)), ent w "value" (f 2) (.str v (f 5)), ent w "fixers_applied" (f 3) (.ref fx)]
/-- a token's fields -/
def tokE (w : World) (f : Nat → Tok) (x : Addr) (v : Str) (kd : Int) (nx pv M : Value) (pa : Addr) (C : Value) (c sb : Addr) : List DictEntry :=
  [ent w "node" (f 0) (.ref x), ent w "name" (f 1) (.str "T" (f 21)), ent w "type" (f 2) (.int kd (f 22)), ent w "column" (f 3) (.int 0 (f 23)), ent w "lineno" (f 4) (.int 0 (f 24)),
   ent w "value" (f 5) (.str v (f 25)), ent w "next_token" (f 6) nx, ent w "previous_token" (f 7) pv, ent w "matching_bracket" (f 8) M, ent w "parameters" (f 9) (.ref pa),
   ent w "container_opening" (f 10) C, ent w "container_elements" (f 11) (.ref c), ent w "whitespace_prefix" (f 12) (.str "" (f 26)), ent w "total_length" (f 13) (.int 0 (f 27)), ent w "split_penalty" (f 14) (.int 0 (f 28)),
   ent w "can_break_before" (f 15) (.bool false), ent w "must_break_before" (f 16) (.bool false), ent w "newlines" (f 17) .none, ent w "spaces_required_before" (f 18) (.int 0 (f 29)), ent w "subtypes" (f 19) (.ref sb), ent w "is_pseudo" (f 20) (.bool false)]
def pk6 (a0 a1 a2 a3 a4 a5 : Tok) : Nat → Tok
  | 0 => a0 | 1 => a1 | 2 => a2 | 3 => a3 | 4 => a4 | _ => a5
def pk30 (a0 a1 a2 a3 a4 a5 a6 a7 a8 a9 a10 a11 a12 a13 a14 a15 a16 a17 a18 a19 a20 a21 a22 a23 a24 a25 a26 a27 a28 a29 : Tok) : Nat → Tok
  | 0 => a0 | 1 => a1 | 2 => a2 | 3 => a3 | 4 => a4 | 5 => a5 | 6 => a6 | 7 => a7 | 8 => a8 | 9 => a9 | 10 => a10 | 11 => a11 | 12 => a12 | 13 => a13 | 14 => a14 | 15 => a15 | 16 => a16 | 17 => a17 | 18 => a18 | 19 => a19
  | 20 => a20 | 21 => a21 | 22 => a22 | 23 => a23 | 24 => a24 | 25 => a25 | 26 => a26 | 27 => a27 | 28 => a28 | _ => a29
theorem NN.sub {a b : List (Addr × Obj)} (h : NN b) (p : a.Sublist b) : NN a := List.Nodup.sublist (p.map _) h
theorem News.sub {h₀ h : Heap} {L : Addr} {a b : List (Addr × Obj)} (N : News h₀ L h b) (p : a.Sublist b) : News h₀ L h a := fun q hq => N q (p.subset hq)
local macro_rules | `(tactic| kqd_sub) => `(tactic| first | exact List.Sublist.refl _ | (refine List.Sublist.cons_cons _ ?_; kqd_sub) | (refine List.Sublist.cons _ ?_; kqd_sub))
theorem AllLt.mono {a b : Nat} (h : a < b) : ∀ {l : List (Addr × Obj)}, AllLt a l → AllLt b l
  | [], _ => trivial
  | _ :: _, ⟨x, y⟩ => ⟨Nat.lt_trans x h, AllLt.mono h y⟩
theorem AllLt.two {a b : Nat} {o : Obj} {l : List (Addr × Obj)} (h : a < b) (x : AllLt a l) : AllLt b ((a, o) :: l) := ⟨h, AllLt.mono h x⟩
set_option maxHeartbeats 8000000 in
theorem mk_leaf : ∀ (w : World) (A₀ : Around) (base h₀ : Heap) (L : Addr) (m : Str → Option Value) (env : Env) (E : Value → Shared → Prop) (s : Shared) (mean : ExcName → Option Value) (mg mb : Str → Option Value)
    (v : Str) (kd : Int) (tk tv : Tok) (rest : List (Addr × Obj)) (Q : Value → Shared → Prop),
    At w A₀ base h₀ L m env [] mean mg mb s.heap → News h₀ L s.heap rest → NN rest → 0 ≤ kd → kd < 50 →
    (∀ h' tk' x d nt fx on f, Fr h₀ L h' m → (nt == sysModules) = false → Obj.IsDictOf (PySem.strKind PySem.Challenge.rw_bu5045_01.row.prog w) on [] → News h₀ L h' ((nt, on) :: (x, instObj 214 d) :: (d, dictOf (leafE w f v kd nt fx) 4) :: rest) →
      NN ((nt, on) :: (x, instObj 214 d) :: (d, dictOf (leafE w f v kd nt fx) 4) :: rest) → Q (.ref x) { s with heap := h', toks := tk' }) →
    wpAny (model PySem.Challenge.rw_bu5045_01.row.prog w) (callerA.deeper env) (call (.ref 214) [.int kd tk, .str v tv]) Q E s := by
  intro w A₀ base h₀ L m env E s mean mg mb v kd tk tv rest Q C N D hk0 hk1 hQ
  obtain ⟨B, F, X, T, hf, hke⟩ := C
  refine' call_cls F X N ?k4 ?k5 ?k6 ?_
  case k4 => k_is
  case k5 => k_is
  case k6 => k_is
  intro x' d' h' F' N' l1 l2
  replace l1 := allLt_of l1
  k_lt2 l2
  k_sweep
  refine' code_def B F' X N' T ?kA hf hke ?k6 ?k7 ?k8 ?k9 ?kB ?_ ?c2 ?c3 ?c4 ?c5
  case kA => exact rfl
  case k6 => k_is
  case k7 => k_is
  case k8 => k_room
  case k9 => first | exact BindsTo.of_eq rfl | exact binds_K (by k_in) rfl (by k_is) rfl rfl rfl
  case kB => exact locs rfl
  case c2 => exact rfl
  case c3 => exact rfl
  case c4 => exact rfl
  case c5 => decide
  intro g' L' h' FG' F' N' B' X' T'
  k_steps
  · refine hQ _ _ _ _ _ _ _ (pk6 _ _ _ _ _ _) (by assumption) (by assumption) (by assumption) (News.sub (by assumption) (by kqd_sub)) ?_
    have DD := NN.consAll (a := x') (o := instObj 214 d') (NN.consAll (a := d') (o := dictOf [] 0) D l1) (AllLt.two l2 l1)
    exact NN.consAll (NN.same DD rfl) (by simp only [AllLt, and_true]; assumption)
end Mine
end
/- W5 -/
section
open PySem PySem.W PyProof.Rows PySem.Calls
set_option maxRecDepth 100000
set_option linter.unusedVariables false
namespace Mine
local macro_rules | `(tactic| k_all) => `(tactic| assumption)
local macro_rules | `(tactic| k_mem) => `(tactic| assumption)
local macro_rules | `(tactic| tbn_conj) => `(tactic| first | exact List.forall_mem_nil _ | (refine List.forall_mem_cons.mpr ⟨?_, ?_⟩; (focus (with_unfolding_all rfl)); tbn_conj))
local macro_rules | `(tactic| kqd_sub) => `(tactic| first | exact List.Sublist.refl _ | (refine List.Sublist.cons_cons _ ?_; kqd_sub) | (refine List.Sublist.cons _ ?_; kqd_sub))
theorem fill5 : ∀ (w : World) (h : Heap), (KF w.params).In h → PySem.Challenge.rw_bu5045_01.row.prog = PySem.Challenge.rw_bu5045_01.row.prog := by
  k_fill; intros; rfl
theorem cat1 : (Str.ofString "_yapf_annotation_" ++ Str.ofString "must_split") = Str.ofString "_yapf_annotation_must_split" := by decide +kernel
theorem cat2 : (Str.ofString "_yapf_annotation_" ++ Str.ofString "newlines") = Str.ofString "_yapf_annotation_newlines" := by decide +kernel
theorem cat3 : (Str.ofString "_yapf_annotation_" ++ Str.ofString "subtype") = Str.ofString "_yapf_annotation_subtype" := by decide +kernel
theorem cat4 : (Str.ofString "_yapf_annotation_" ++ Str.ofString "container_bracket") = Str.ofString "_yapf_annotation_container_bracket" := by decide +kernel
theorem cat5 : (Str.ofString "_yapf_annotation_" ++ Str.ofString "split_penalty") = Str.ofString "_yapf_annotation_split_penalty" := by decide +kernel
local macro_rules | `(tactic| walk_at "call builtin:dict.get") => `(tactic| (simp only [cat1, cat2, cat3, cat4, cat5]; walk_say "CAT"))
local macro_rules | `(tactic| walk_at "call builtin:hasattr") => `(tactic| (k_here; (with_reducible show wpAny _ _ (call (Value.builtin "hasattr") [Value.ref _, Value.str _ _]) _ _ _); k_dflt (refine' hasattr_leaf ?F ?X ?N ?I ?l rfl ?_; (case F => k_asm); (case X => k_asm); (case N => k_asm); (case I => k_inst); (case l => k_get); k_whole; intro h' tk' F' N'; (try k_sweep))))
theorem eq_no {prog : Program} {w : World} {A : Around} {E : Value → Shared → Prop} {s : Shared} {a b : Int} {t u : Tok} {Q : Value → Shared → Prop} (h : a ≠ b) (hq : Q (.bool false) s) : wpAny (model prog w) A (compareOp .Eq (.int a t) (.int b u)) Q E s :=
  PySem.P.eq_int (by rw [beq_eq_false_iff_ne.mpr h]; exact hq)
local macro_rules | `(tactic| walk_at "compareOp Eq int int") => `(tactic| (k_here; (with_reducible show wpAny _ _ (compareOp CmpOp.Eq (Value.int _ _) (Value.int _ _)) _ _ _); k_dflt (refine' eq_no ?h ?_; (case h => assumption); k_whole)))
set_option maxHeartbeats 8000000 in
theorem mk_ft : ∀ (w : World) (A₀ : Around) (base h₀ : Heap) (L : Addr) (m : Str → Option Value) (env : Env) (E : Value → Shared → Prop) (s : Shared) (mean : ExcName → Option Value) (mg mb : Str → Option Value)
    (v : Str) (kd : Int) (tT : Tok) (fl : Nat → Tok) (x d nt fx : Addr) (on : Obj) (rest : List (Addr × Obj)) (Q : Value → Shared → Prop),
    At w A₀ base h₀ L m env [] mean mg mb s.heap → News h₀ L s.heap ((nt, on) :: (x, instObj 214 d) :: (d, dictOf (leafE w fl v kd nt fx) 4) :: rest) →
    NN ((nt, on) :: (x, instObj 214 d) :: (d, dictOf (leafE w fl v kd nt fx) 4) :: rest) →
    Obj.IsDictOf (PySem.strKind PySem.Challenge.rw_bu5045_01.row.prog w) on [] → PyProof.V.FlatPairs PyData.str ([] : List (Str × Value)) [] → (nt == sysModules) = false → kd ≠ 60 → kd ≠ 53 →
    (∀ h' tk' t dt c pa sb f, Fr h₀ L h' m →
      News h₀ L h' ((c, listOf #[] 0) :: (t, instObj 410 dt) :: (dt, dictOf (tokE w f x v kd .none .none .none pa .none c sb) 21) :: (nt, on) :: (x, instObj 214 d) :: (d, dictOf (leafE w fl v kd nt fx) 4) :: rest) →
      NN ((c, listOf #[] 0) :: (t, instObj 410 dt) :: (dt, dictOf (tokE w f x v kd .none .none .none pa .none c sb) 21) :: (nt, on) :: (x, instObj 214 d) :: (d, dictOf (leafE w fl v kd nt fx) 4) :: rest) →
      Q (.ref t) { s with heap := h', toks := tk' }) →
    wpAny (model PySem.Challenge.rw_bu5045_01.row.prog w) (callerA.deeper env) (call (.ref 410) [.ref x, .str "T" tT]) Q E s := by
  intro w A₀ base h₀ L m env E s mean mg mb v kd tT fl x d nt fx on rest Q C N D hon hfs hlo hk0 hk1 hQ
  obtain ⟨B, F, X, T, hf, hke⟩ := C
  have hk0' : decide (kd = 60) = false := decide_eq_false hk0
  have hk1' : decide (kd = 53) = false := decide_eq_false hk1
  have n1 : @Ne Nat nt x := fun e => D.off (x, _) (.head _) e.symm
  have n2 : @Ne Nat nt d := fun e => D.off (d, _) (.tail _ (.head _)) e.symm
  have n3 : @Ne Nat x d := fun e => D.tail.off (d, _) (.head _) e.symm
  have r1 : ∀ p ∈ rest, p.1 ≠ nt := fun p hp => D.off p (.tail _ (.tail _ hp))
  have r2 : ∀ p ∈ rest, p.1 ≠ x := fun p hp => D.tail.off p (.tail _ hp)
  have r3 : ∀ p ∈ rest, p.1 ≠ d := fun p hp => D.tail.tail.off p hp
  refine' call_cls F X N ?k4 ?k5 ?k6 ?_
  case k4 => k_is
  case k5 => k_is
  case k6 => k_is
  intro x' d' h' F' N' l1 l2
  have D1 := NN.consAll (a := x') (o := instObj 410 d') (NN.consAll (a := d') (o := dictOf [] 0) D (allLt_of l1)) (AllLt.two l2 (allLt_of l1))
  k_lt l1
  k_lt2 l2
  k_sweep
  refine' code_def B F' X N' T ?kA hf hke ?k6 ?k7 ?k8 ?k9 ?kB ?_ ?c2 ?c3 ?c4 ?c5
  case kA => exact rfl
  case k6 => k_is
  case k7 => k_is
  case k8 => k_room
  case k9 => first | exact BindsTo.of_eq rfl | exact binds_K (by k_in) rfl (by k_is) rfl rfl rfl
  case kB => exact locs rfl
  case c2 => exact rfl
  case c3 => exact rfl
  case c4 => exact rfl
  case c5 => decide
  intro g' L' h' FG' F' N' B' X' T'
  k_steps
  all_goals first | (exact absurd (by assumption : kd = 60) hk0) | (exact absurd (by assumption : kd = 53) hk1) | skip
  · refine hQ _ _ _ _ _ _ _ (pk30 _ _ _ _ _ _ _ _ _ _ _ _ _ _ _ _ _ _ _ _ _ _ _ _ _ _ _ _ _ _) (by assumption) (News.sub (by assumption) (by kqd_sub)) ?_
    refine NN.consAll (NN.same D1 rfl) ?_
    simp only [AllLt, and_true]
    rename _ ∧ _ ∧ _ ∧ _ ∧ _ ∧ _ ∧ AllLt _ _ => hl
    exact hl.2
end Mine
end
/- W6 -/
section
open PySem PySem.W PyProof.Rows PySem.Calls
set_option maxRecDepth 100000
set_option linter.unusedVariables false
namespace Mine
local macro_rules | `(tactic| k_all) => `(tactic| assumption)
local macro_rules | `(tactic| k_mem) => `(tactic| assumption)
local macro_rules | `(tactic| tbn_conj) => `(tactic| first | exact List.forall_mem_nil _ | (refine List.forall_mem_cons.mpr ⟨?_, ?_⟩; (focus (with_unfolding_all rfl)); tbn_conj))
local macro_rules | `(tactic| kqd_sub) => `(tactic| first | exact List.Sublist.refl _ | (refine List.Sublist.cons_cons _ ?_; kqd_sub) | (refine List.Sublist.cons _ ?_; kqd_sub))
theorem fill6 : ∀ (w : World) (h : Heap), (KF w.params).In h → PySem.Challenge.rw_bu5045_01.row.prog = PySem.Challenge.rw_bu5045_01.row.prog := by
  k_fill; intros; rfl
section
variable {prog : Program} {w : World} {A : Around} {E : Value → Shared → Prop} {s : Shared} {h₀ : Heap} {L : Addr} {news : List (Addr × Obj)}
theorem item_at {value slice : PySem.Expr} {l : Addr} {vs : List Value} {nn i : Nat} {k : Int} {u : Tok} {v : Value} {Q : Value → Shared → Prop} (N : News h₀ L s.heap news) (hm : (l, listOf vs.toArray nn) ∈ news) (hx : vs[i]? = some v) (hk : k = (i : Int)) (hfit : (i : Int) < 2 ^ 63) (h : Q v s)
    (hs : subscripted slice false (.ref l) (.int k u) = operate [.ref l, .int k u] (getItem (.ref l) (.int k u)) := by with_unfolding_all rfl) :
    wpAny (model prog w) A (subscriptTail value slice (.ref l) (.int k u)) Q E s := by
  subst hk
  have hl : s.heap.IsList l vs.toArray := ⟨_, (N _ hm).1, rfl, _, rfl⟩
  exact tail_any hl.typeIs slot_list_getitem.lookup (wpAny_getItem_list hl (by omega) hfit (by simpa using hx) h) hs
theorem is_refs {M : Model} {a b : Addr} {oa ob : Obj} {Q : Value → Shared → Prop} (N : News h₀ L s.heap news) (ha : (a, oa) ∈ news) (hb : (b, ob) ∈ news) (hn : oa.cls ≠ .type "tuple") (h : Q (.bool (decide (a = b))) s) :
    wpAny M A (compareOp .Is (.ref a) (.ref b)) Q E s := by
  by_cases e : a = b
  · subst e; simp only [decide_true] at h; exact wpAny_is_ref_self h
  · simp only [e, decide_false] at h; exact wpAny_is_ref_other e (N _ ha).1 (N _ hb).1 hn h
end
/-- a token or none -/
def valOf (ts : List Addr) : Option Nat → Value
  | none => .none
  | some j => match ts[j]? with | some a => .ref a | none => .none
local macro_rules | `(tactic| walk_at "subscriptTail") => `(tactic| (k_here; (with_reducible show wpAny _ _ (subscriptTail _ _ (Value.ref _) (Value.int _ _)) _ _ _); (with_unfolding_all refine' item_at ?N ?m ?x ?k ?f ?_ ?s; (case N => k_asm); (case m => k_mem); (case x => assumption); (case k => first | rfl | omega); (case f => omega); (case s => with_unfolding_all rfl); k_whole)))
local macro_rules | `(tactic| walk_at "compareOp Is ref ref") => `(tactic| (k_here; (with_reducible show wpAny _ _ (compareOp CmpOp.Is (Value.ref _) (Value.ref _)) _ _ _); k_dflt (refine' is_refs ?N ?a ?b ?n ?_; (case N => k_asm); (case a => k_mem); (case b => k_mem); (case n => (intro z; cases z; done)); k_whole)))
local macro_rules | `(tactic| walk_at "exec For Name Call cons nil") => `(tactic| (k_here; (rename Fr _ _ _ _ => lF'); (with_unfolding_all refine' For_invVF lF' ?k1 ?k2 ?_; (case k1 => exact rfl); (case k2 => exact rfl); k_whole)))
local macro_rules | `(tactic| walk_at "pyIter ref") => `(tactic| fail "own")
local macro_rules | `(tactic| walk_at "Turn ret") => `(tactic| (refine Turn.ret ?_; try dsimp only))
set_option maxHeartbeats 8000000 in
theorem law_place : ∀ (w : World) (A₀ A : Around) (base h₀ : Heap) (L : Addr) (m : Str → Option Value) (env : Env) (outer : List Env) (E : Value → Shared → Prop) (s : Shared) (mean : ExcName → Option Value) (mg mb : Str → Option Value)
    (tl : Addr) (ts : List Addr) (nn : Nat) (o : Option Nat) (rest : List (Addr × Obj)) (Q : Value → Shared → Prop),
    Below A₀ base outer h₀ → Fr h₀ L s.heap m → (KF w.params).In h₀ → Top qv (looseW qv lz) mean mg mb h₀ → A.frames = some (env :: outer) → env.frame = some L → env.scope.kind = .function → A.depth < recursionLimit → A.handled = none →
    News h₀ L s.heap ((tl, listOf (ts.map Value.ref).toArray nn) :: rest) → NN ((tl, listOf (ts.map Value.ref).toArray nn) :: rest) → ts.length ≤ 10 → ts.Nodup → (∀ a ∈ ts, ∃ d, (a, instObj 410 d) ∈ rest) → (∀ j, o = some j → j < ts.length) →
    (∀ h' tk v, Fr h₀ L h' m → News h₀ L h' ((tl, listOf (ts.map Value.ref).toArray nn) :: rest) → (match o with | none => v = .none | some j => ∃ t, v = .int (j : Int) t) → Q v { s with heap := h', toks := tk }) →
    wpAny (model PySem.Challenge.rw_bu5045_01.row.prog w) A (call (.ref 564) [.ref tl, valOf ts o]) Q E s := by
  k_fill
  intro w A₀ A base h₀ L m env outer E s mean mg mb tl ts nn o rest Q B F X T hA hf hke hroom hhd N D hlen hnd hin ho hQ
  have hsz : ((ts.map Value.ref).toArray.size : Int) ≤ 10 := by simp; omega
  refine wpAny_call ?_
  refine' code_def B F X N T hA hf hke ?k6 ?k7 ?k8 ?k9 ?kB ?_ ?c2 ?c3 ?c4 ?c5
  case k6 => k_is
  case k7 => k_is
  case k8 => exact hroom
  case k9 => first | exact BindsTo.of_eq rfl | exact binds_K (by k_in) rfl (by k_is) rfl rfl rfl
  case kB => exact locs rfl
  case c2 => exact rfl
  case c3 => exact rfl
  case c4 => exact rfl
  case c5 => decide
  intro g' L' h' FG' F' N' B' X' T'
  k_steps
  rename Fr _ _ _ _ => lF
  rename News _ _ _ _ => lN
  rename IsRange _ _ _ _ _ _ _ _ => lR
  have hszn : (ts.map Value.ref).toArray.size = ts.length := by simp
  rw [hszn] at lR
  refine it_range (σ := Unit) (n := ts.length) (fun i _ => ∀ j, o = some j → i ≤ j) (fun _ => (tl, listOf (ts.map Value.ref).toArray nn) :: rest) (fun _ => [("tokens", .ref tl), ("one", valOf ts o)]) () hhd lR (small_one (by omega) (by omega) (by omega) (by omega)) (by first | exact rangeSize_nat _ _ | rfl) lF lN D ?k1 ?k2 ?turn ?done
  case k1 => tbn_conj
  case k2 => intro j _; exact Nat.zero_le _
  case turn =>
    intro i t c u h tk I oI hi hJ F1 N1 D1
    obtain ⟨a, hta⟩ : ∃ a, ts[i]? = some a := ⟨_, List.getElem?_eq_getElem hi⟩
    have hit : (ts.map Value.ref)[i]? = some (.ref a) := by simp [hta]
    obtain ⟨da, hda⟩ := hin a (List.mem_of_getElem? hta)
    have hi10 : (i : Int) < 10 := by omega
    rcases o with _ | j
    · rw [show valOf ts none = Value.none from rfl] at F1
      k_steps
      refine Turn.next () (by assumption) (by assumption) (by assumption) ?_ ?_
      · tbn_conj
      · intro j hj; cases hj
    · obtain ⟨b, htb⟩ : ∃ b, ts[j]? = some b := ⟨_, List.getElem?_eq_getElem (ho j rfl)⟩
      have hv : valOf ts (some j) = .ref b := by simp only [valOf, htb]
      obtain ⟨db, hdb⟩ := hin b (List.mem_of_getElem? htb)
      rw [hv] at F1
      k_steps
      · rename a = b => hab
        have hij : i = j := (List.getElem?_inj hi hnd).mp (by rw [hta, htb, hab])
        exact hQ _ _ _ (by assumption) (News.sub (by assumption) (by kqd_sub)) ⟨t, by rw [hij, Int.zero_add]⟩
      · rename ¬ a = b => hab
        refine Turn.next () (by assumption) (by assumption) (by assumption) ?_ ?_
        · rw [hv]; tbn_conj
        · intro j' hj'
          have h1 := hJ j' hj'
          cases hj'
          rcases Nat.lt_or_eq_of_le h1 with h2 | h2
          · exact h2
          · subst h2; rw [hta] at htb; exact absurd (Option.some.inj htb) hab
  case done =>
    intro c u h tk hJ F1 N1 D1
    k_steps
    refine hQ _ _ _ (by assumption) (by assumption) ?_
    cases o with
    | none => rfl
    | some j => exact absurd (hJ j rfl) (Nat.not_le_of_lt (ho j rfl))
end Mine
end
/- W7 -/
section
open PySem PySem.W PyProof.Rows PySem.Calls
set_option maxRecDepth 100000
set_option linter.unusedVariables false
namespace Mine
section
variable {prog : Program} {w : World} {A : Around} {E : Value → Shared → Prop} {s : Shared} {h₀ : Heap} {L : Addr} {m : Str → Option Value} {news news' : List (Addr × Obj)}
theorem setFind_str {a : Addr} {v : Str} {tv : Tok} {S : List Str} {k : Int} {Q : Option Nat → Shared → Prop} (hS : FzAt s.heap a S) (h : ∀ r : Option Nat, r.isSome = decide (v ∈ S) → Q r s) :
    wpAny (model prog w) A (setFind a (.str v tv) k) Q E s := by
  obtain ⟨es, n, t, ho, hf, hsz, hall, hmem⟩ := hS
  have hstr : ∀ e ∈ es.toList, isExactStrKey e.2 = true := fun e he => by obtain ⟨y, ty, q⟩ := hall e he; rw [q]; rfl
  have hsc : es.all (fun e => e.2.scannable) = true := by
    rw [← Array.all_toList, List.all_eq_true]
    intro e he
    obtain ⟨y, ty, q⟩ := hall e he; rw [q]; rfl
  have hex : es.all (fun e => isExactStrKey e.2) = true := by
    rw [← Array.all_toList, List.all_eq_true]; exact hstr
  unfold setFind setFindIn
  refine wpAny_bind (wpAny_setState_of ho rfl hf ?_)
  dsimp only
  have hb : byScan (.str v tv) es = true := by
    simp only [byScan, Bool.and_eq_true, decide_eq_true_eq]
    refine ⟨⟨rfl, by rw [hsz]; decide⟩, hsc⟩
  rw [hb]
  simp only [↓reduceIte]
  refine wpAny_bind (wpAny_rule ?_)
  unfold setScan
  dsimp only
  rw [hex]
  simp only [↓reduceIte]
  unfold setScanStrs
  have hidx : es.findIdx? (fun e => e.2.isStr v) = es.toList.findIdx? (fun e => e.2.isStr v) := by cases es; simp
  rw [hidx]
  have hms := hmem v
  have hist : ∀ e : Int × Value, e ∈ es.toList → (e.2.isStr v = true ↔ ∃ ty, e.2 = .str v ty) := fun e he => by
    obtain ⟨y, ty, q⟩ := hall e he
    rw [q]
    constructor
    · intro h; exact ⟨ty, by rw [show y = v from eq_of_beq h]⟩
    · rintro ⟨ty', h⟩; cases h; exact beq_self_eq_true v
  cases hr : es.toList.findIdx? (fun e => e.2.isStr v) with
  | none =>
    refine wpAny_bind (wpAny_pure ?_)
    dsimp only
    refine wpAny_pure (h none ?_)
    rw [Option.isSome_none, eq_comm, decide_eq_false_iff_not, ← hms]
    rintro ⟨e, he, hpe⟩
    have := List.findIdx?_eq_none_iff.mp hr e he
    rw [(hist e he).mpr hpe] at this; exact Bool.noConfusion this
  | some j =>
    obtain ⟨hj, hpj, _⟩ := List.findIdx?_eq_some_iff_getElem.mp hr
    obtain ⟨ty, hty⟩ := (hist _ (List.getElem_mem hj)).mp hpj
    have he : es[j]? = some (es.toList[j].1, es.toList[j].2) := by rw [← Array.getElem?_toList]; exact List.getElem?_eq_getElem hj
    dsimp only
    rw [he]
    dsimp only
    have hq : ∀ {Q' : Bool → Shared → Prop}, Q' true s → wpAny (model prog w) A (eqBool es.toList[j].2 (.str v tv)) Q' E s := fun h => by
      rw [hty]
      exact (PySem.strKind prog w).eqBool (strKind_is _ _ v ty) (strKind_is _ _ v tv) (by simpa using h)
    refine wpAny_bind (wpAny_bind (wpAny_setEpoch_of ho rfl hf ?_))
    refine wpAny_bind (hq ?_)
    simp only [Bool.false_and, Bool.false_eq_true, ↓reduceIte]
    refine wpAny_bind (wpAny_setEpoch_of ho rfl hf ?_)
    simp only [bne_self_eq_false, Bool.false_eq_true, ↓reduceIte]
    refine wpAny_pure ?_
    dsimp only
    refine wpAny_pure (h (some j) ?_)
    rw [Option.isSome_some, eq_comm, decide_eq_true_eq, ← hms]
    exact ⟨_, List.getElem_mem hj, ty, hty⟩
theorem in_fz {a : Addr} {v : Str} {tv : Tok} {S : List Str} {Q : Value → Shared → Prop} (F : Fr h₀ L s.heap m) (hS : FzAt h₀ a S) (h : Q (.bool (decide (v ∈ S))) { s with toks := s.toks + 1 }) :
    wpAny (model prog w) A (compareOp .In (.str v tv) (.ref a)) Q E s := by
  have hS' := hS.keeps F.keep
  obtain ⟨es, n, t, ho, _⟩ := id hS'
  have hT : s.TypeIs (.ref a) "frozenset" := ⟨_, ho, rfl⟩
  show wpAny _ _ (do return .bool (← contains (.ref a) (.str v tv))) Q E s
  refine wpAny_bind ?_
  unfold contains
  try with_reducible refine wpAny_holding ?_
  refine wpAny_bind (wpAny_specialOf hT FB.slot_frozenset_contains.lookup ?_)
  show wpAny _ _ (if (some (Value.builtin "frozenset.__contains__") == some Value.none) = true then _ else _) _ E s
  rw [if_neg (by rw [beq_builtin_none]; exact Bool.false_ne_true)]
  refine wpAny_bind (wpAny_callSpecialUnlessNone?_slot (name := Str.ofString "__contains__") hT FB.slot_frozenset_contains
    (wpAny_call_entry FB.slot_frozenset_contains hT FB.entry_frozenset_contains ?_ (FB.args_frozenset_contains_2 _ _)))
  unfold Builtin.«frozenset.__contains__» Builtin.Frozenset.oneOther
  simp only [List.isEmpty_nil, bind_assoc]
  unfold Builtin.Frozenset.addrOf Builtin.Frozenset.withSetAsKey setContains
  refine wpAny_bind (wpAny_pure ?_)
  try dsimp only
  refine wpAny_bind (wpAny_pure ?_)
  try dsimp only
  refine wpAny_bind (wpAny_tryCatch ?_)
  refine wpAny_holding ?_
  refine wpAny_bind ((PySem.strKind prog w).pyHash (strKind_is _ _ v tv) ?_)
  refine wpAny_bind (setFind_str (s := { s with toks := s.toks + 1 }) hS' fun r hr => ?_)
  refine wpAny_pure ?_
  show wpAny _ _ (ret (Value.bool r.isSome)) _ _ _
  rw [hr]
  exact wpAny_pure ⟨_, rfl, wpAny_truthy_bool (wpAny_pure h)⟩
theorem append_V {D : Addr} {vs : List Value} {n : Nat} {x : Value} {Q : Value → Shared → Prop} (F : Fr h₀ L s.heap m) (N : News h₀ L s.heap news) (U : Upd D (listOf vs.toArray n) (listOf (vs ++ [x]).toArray (n + 1)) news news') (hsz : vs.length ≤ 1000)
    (h : ∀ h', Fr h₀ L h' m → News h₀ L h' news' → Q .none { s with heap := h' }) : wpAny (model prog w) A (call (.builtin "list.append") [.ref D, x]) Q E s := by
  refine append_K F N (by rw [List.push_toArray]; exact U) h ?_
  rw [sizeLine_eq, List.size_toArray]; omega
theorem pop_V {D : Addr} {p : List Value} {y : Value} {n : Nat} {Q : Value → Shared → Prop} (F : Fr h₀ L s.heap m) (N : News h₀ L s.heap news) (U : Upd D (listOf (p ++ [y]).toArray n) (listOf p.toArray (n + 1)) news news') (hsz : (p ++ [y]).length ≤ 1000)
    (h : ∀ h', Fr h₀ L h' m → News h₀ L h' news' → Q y { s with heap := h' }) : wpAny (model prog w) A (call (.builtin "list.pop") [.ref D]) Q E s := by
  refine kl_pop F N (p := p) (y := y) (kpa_last y p) U ?_ h
  rw [sizeLine_eq]; show (p ++ [y]).length ≤ _; omega
theorem item_last {value slice : PySem.Expr} {l : Addr} {p : List Value} {y : Value} {nn : Nat} {u : Tok} {Q : Value → Shared → Prop} (N : News h₀ L s.heap news) (hm : (l, listOf (p ++ [y]).toArray nn) ∈ news) (hsz : p.length ≤ 1000) (h : Q y s)
    (hs : subscripted slice false (.ref l) (.int (-1) u) = operate [.ref l, .int (-1) u] (getItem (.ref l) (.int (-1) u)) := by with_unfolding_all rfl) :
    wpAny (model prog w) A (subscriptTail value slice (.ref l) (.int (-1) u)) Q E s := by
  have hl : s.heap.IsList l (p ++ [y]).toArray := ⟨_, (N _ hm).1, rfl, _, rfl⟩
  have hz : ((p ++ [y]).toArray.size : Int) = p.length + 1 := by simp
  refine tail_any hl.typeIs slot_list_getitem.lookup (wpAny_getItem_list_neg hl (by omega) (by rw [hz]; omega) (by omega) ?_ h) hs
  rw [hz, show ((-1 + ((p.length : Int) + 1)).toNat) = p.length from by omega]
  simp
def RaiseQ (E : Value → Shared → Prop) (s : Shared) : Prop := ∀ h' tk e, Heap.NewExc s.heap h' e "IndexError" → E (.ref e) { s with heap := h', toks := tk }
theorem item_none {value slice : PySem.Expr} {l : Addr} {nn : Nat} {u : Tok} {Q : Value → Shared → Prop} (N : News h₀ L s.heap news) (hm : (l, listOf (List.toArray []) nn) ∈ news) (hA : A.handled = none)
    (hE : RaiseQ E s)
    (hs : subscripted slice false (.ref l) (.int (-1) u) = operate [.ref l, .int (-1) u] (getItem (.ref l) (.int (-1) u)) := by with_unfolding_all rfl) :
    wpAny (model prog w) A (subscriptTail value slice (.ref l) (.int (-1) u)) Q E s :=
  item_outK hA ⟨_, (N _ hm).1, rfl, _, rfl⟩ (Or.inl (by decide)) (by decide) (by decide) hE hs
end
end Mine
end
/- W8 -/
section
open PySem PySem.W PyProof.Rows PySem.Calls
set_option maxRecDepth 100000
set_option linter.unusedVariables false
namespace Mine
/-- one token, its node and their objects -/
structure Z where
  (t dt x d nt fx pa c sb : Addr)
  (v : Str) (kd : Int) (f fl : Nat → Tok)
  (nx pv M C : Value)
  (on : Obj) (kv : List (Str × Value)) (el : List Value) (en : Nat)
def tk (w : World) (z : Z) : List (Addr × Obj) :=
  [(z.c, listOf z.el.toArray z.en), (z.t, instObj 410 z.dt), (z.dt, dictOf (tokE w z.f z.x z.v z.kd z.nx z.pv z.M z.pa z.C z.c z.sb) 21), (z.nt, z.on), (z.x, instObj 214 z.d), (z.d, dictOf (leafE w z.fl z.v z.kd z.nt z.fx) 4)]
def Led (w : World) (zs : List Z) : List (Addr × Obj) := zs.flatMap (tk w)
def ts (zs : List Z) : List Addr := zs.map (·.t)
/-- change one place -/
def up (f : Z → Z) : Nat → List Z → List Z
  | _, [] => []
  | 0, z :: r => f z :: r
  | n + 1, z :: r => z :: up f n r
theorem up_len (f : Z → Z) : ∀ (i : Nat) (zs : List Z), (up f i zs).length = zs.length
  | _, [] => by simp [up]
  | 0, _ :: _ => rfl
  | n + 1, _ :: r => congrArg (· + 1) (up_len f n r)
theorem up_get (f : Z → Z) : ∀ (i j : Nat) (zs : List Z), (up f i zs)[j]? = if i = j then (zs[j]?).map f else zs[j]?
  | _, _, [] => by simp [up]
  | 0, 0, _ :: _ => by simp [up]
  | 0, j + 1, _ :: _ => by simp [up]
  | n + 1, 0, _ :: _ => by simp [up]
  | n + 1, j + 1, _ :: r => by simp only [up, List.getElem?_cons_succ, up_get f n j r, Nat.add_right_cancel_iff]
theorem Led_cons (w : World) (z : Z) (r : List Z) : Led w (z :: r) = tk w z ++ Led w r := rfl
theorem led1 (w : World) : ∀ (zs : List Z) (i : Nat) (z : Z), zs[i]? = some z → ∃ R, (Led w zs).Perm (tk w z ++ R) ∧ ∀ f, (Led w (up f i zs)).Perm (tk w (f z) ++ R)
  | [], i, z, h => by simp at h
  | y :: r, 0, z, h => by
    have e : y = z := by simpa using h
    subst e
    exact ⟨Led w r, List.Perm.refl _, fun f => List.Perm.refl _⟩
  | y :: r, i + 1, z, h => by
    obtain ⟨R, h1, h2⟩ := led1 w r i z (by simpa using h)
    refine ⟨tk w y ++ R, permOf fun x => ?_, fun f => permOf fun x => ?_⟩
    · have := cnt_perm h1 x
      simp only [Led_cons, cnt_app] at this ⊢; omega
    · have := cnt_perm (h2 f) x
      simp only [up, Led_cons, cnt_app] at this ⊢; omega
theorem led2 (w : World) (zs : List Z) (i j : Nat) (z y : Z) (hij : i ≠ j) (hz : zs[i]? = some z) (hy : zs[j]? = some y) :
    ∃ R, (Led w zs).Perm (tk w z ++ (tk w y ++ R)) ∧ ∀ f g, (Led w (up f i (up g j zs))).Perm (tk w (f z) ++ (tk w (g y) ++ R)) := by
  induction zs generalizing i j with
  | nil => simp at hz
  | cons a r ih =>
    cases i with
    | zero =>
      cases j with
      | zero => exact absurd rfl hij
      | succ j =>
        have e : a = z := by simpa using hz
        subst e
        obtain ⟨R, h1, h2⟩ := led1 w r j y (by simpa using hy)
        exact ⟨R, by simpa only [Led_cons] using h1.append_left _, fun f g => by simpa only [up, Led_cons] using (h2 g).append_left _⟩
    | succ i =>
      cases j with
      | zero =>
        have e : a = y := by simpa using hy
        subst e
        obtain ⟨R, h1, h2⟩ := led1 w r i z (by simpa using hz)
        refine ⟨R, permOf fun x => ?_, fun f g => permOf fun x => ?_⟩
        · have := cnt_perm h1 x
          simp only [Led_cons, cnt_app] at this ⊢; omega
        · have := cnt_perm (h2 f) x
          simp only [up, Led_cons, cnt_app] at this ⊢; omega
      | succ j =>
        obtain ⟨R, h1, h2⟩ := ih i j (by omega) (by simpa using hz) (by simpa using hy)
        refine ⟨tk w a ++ R, permOf fun x => ?_, fun f g => permOf fun x => ?_⟩
        · have := cnt_perm h1 x
          simp only [Led_cons, cnt_app] at this ⊢; omega
        · have := cnt_perm (h2 f g) x
          simp only [up, Led_cons, cnt_app] at this ⊢; omega
/-- what no step changes -/
def Z.stat (z : Z) : Z := { z with nx := .none, pv := .none, M := .none, C := .none, el := [], en := 0 }
theorem up_stat (f : Z → Z) (hf : ∀ z, (f z).stat = z.stat) : ∀ (i : Nat) (zs : List Z), (up f i zs).map Z.stat = zs.map Z.stat
  | _, [] => by simp [up]
  | 0, z :: r => by simp only [up, List.map_cons, hf]
  | n + 1, z :: r => by simp only [up, List.map_cons, up_stat f hf n r]
theorem ts_stat (zs : List Z) : ts zs = (zs.map Z.stat).map (·.t) := by simp only [ts, List.map_map]; rfl
/-- what holds of each token -/
def OkZ (w : World) (z : Z) : Prop := z.on.IsDictOf (PySem.strKind PySem.Challenge.rw_bu5045_01.row.prog w) z.kv ∧ (z.nt == sysModules) = false ∧ z.kv.length ≤ 8
theorem OkZ.stat {w : World} {z y : Z} (h : OkZ w z) (e : z.stat = y.stat) : OkZ w y := by
  have e1 : z.on = y.on := (congrArg Z.on e : z.stat.on = y.stat.on)
  have e2 : z.kv = y.kv := (congrArg Z.kv e : z.stat.kv = y.stat.kv)
  have e3 : z.nt = y.nt := (congrArg Z.nt e : z.stat.nt = y.stat.nt)
  unfold OkZ at *; rw [← e1, ← e2, ← e3]; exact h
/-- the same places, whatever stands there -/
inductive UpdW (d : Addr) (o o' : Obj) : List (Addr × Obj) → List (Addr × Obj) → Prop
  | head {r} : UpdW d o o' ((d, o) :: r) ((d, o') :: r)
  | tail {p r r'} : UpdW d o o' r r' → UpdW d o o' (p :: r) (p :: r')
theorem UpdW.mem {d : Addr} {o o' : Obj} : ∀ {l l' : List (Addr × Obj)}, UpdW d o o' l l' → (d, o) ∈ l
  | _, _, .head => .head _
  | _, _, .tail r => .tail _ r.mem
theorem UpdW.nn {d : Addr} {o o' : Obj} : ∀ {l l' : List (Addr × Obj)}, UpdW d o o' l l' → NN l → Upd d o o' l l'
  | _, _, .head, h => .head h.off
  | _, _, .tail r, h => .tail (fun e => h.off _ r.mem e.symm) (r.nn h.tail)
theorem updNN {a l l' : List (Addr × Obj)} {d : Addr} {o o' : Obj} (h : NN a) (e : a.map (·.1) = l.map (·.1)) (u : UpdW d o o' l l') : Upd d o o' l l' := u.nn (h.same e)
inductive UpdWF (d : Addr) (o : Obj) : List (Addr × Obj) → (Obj → List (Addr × Obj)) → Prop
  | head {r} : UpdWF d o ((d, o) :: r) (fun o' => (d, o') :: r)
  | tail {p r g} : UpdWF d o r g → UpdWF d o (p :: r) (fun o' => p :: g o')
theorem UpdWF.mem {d : Addr} {o : Obj} : ∀ {l : List (Addr × Obj)} {g}, UpdWF d o l g → (d, o) ∈ l
  | _, _, .head => .head _
  | _, _, .tail r => .tail _ r.mem
theorem UpdWF.nn {d : Addr} {o : Obj} : ∀ {l : List (Addr × Obj)} {g}, UpdWF d o l g → NN l → UpdF d o l g
  | _, _, .head, h => .head h.off
  | _, _, .tail r, h => .tail (fun e => h.off _ r.mem e.symm) (r.nn h.tail)
theorem updFNN {a l : List (Addr × Obj)} {g : Obj → List (Addr × Obj)} {d : Addr} {o : Obj} (h : NN a) (e : a.map (·.1) = l.map (·.1)) (u : UpdWF d o l g) : UpdF d o l g := u.nn (h.same e)
section
variable {M : Model} {A : Around} {E : Value → Shared → Prop} {s : Shared}
def CutQ (Mid : Shared → Prop) (f : Flow) (s' : Shared) : Prop := f = .next ∧ Mid s'
theorem cut {st : Stmt} {rest : List Stmt} {env : Env} {Q : Flow → Shared → Prop} (Mid : Shared → Prop) (h1 : wpAny M A (exec st env) (CutQ Mid) E s) (h2 : ∀ s', Mid s' → wpAny M A (execs rest env) Q E s') :
    wpAny M A (execs (st :: rest) env) Q E s := wpAny_execs_cons (wpAny_mono h1 (fun f s' ⟨e, h⟩ => by subst e; exact h2 s' h) fun _ _ e => e)
end
end Mine
end
/- W8b -/
section
open PySem PySem.W PyProof.Rows PySem.Calls
set_option maxRecDepth 100000
set_option linter.unusedVariables false
namespace Mine
abbrev CB : Str := "_yapf_annotation_container_bracket"
def Z.setC (z : Z) (v : Value) : Z := { z with C := v }
def Z.setM (z : Z) (v : Value) : Z := { z with M := v }
def Z.addE (z : Z) (v : Value) : Z := { z with el := z.el ++ [v], en := z.en + 1 }
/-- the told bracket of z is y -/
def cbIs (z y : Z) : Bool := match valueAt z.kv CB with | some (.ref a) => a == y.x | _ => false
def inn (i j : Nat) (zs : List Z) : List Z :=
  match zs[i]?, zs[j]? with
  | some z, some y => if cbIs z y then up (fun q => q.setC (.ref y.t)) i (up (fun q => q.addE (.ref z.t)) j zs) else zs
  | _, _ => zs
def mIn (i : Nat) : List Nat → List Z → List Z
  | [], zs => zs
  | j :: r, zs => mIn i r (inn i j zs)
def mPre (i : Nat) (zs : List Z) (stk : List Nat) : Option (List Z × List Nat) :=
  match zs[i]? with
  | none => none
  | some z =>
    if z.v ∈ opS then some (zs, stk ++ [i])
    else if z.v ∈ clS then
      match stk.getLast? with
      | none => none
      | some j => match zs[j]? with
        | none => none
        | some y => some (up (fun q => q.setM (.ref y.t)) i (up (fun q => q.setM (.ref z.t)) j zs), stk.dropLast)
    else some (zs, stk)
def run (zs : List Z) : Nat → Option (List Z × List Nat)
  | 0 => some (zs, [])
  | n + 1 => match run zs n with
    | none => none
    | some c => match mPre n c.1 c.2 with
      | none => none
      | some b => some (mIn n b.2 b.1, b.2)
def tv (zs : List Z) (j : Nat) : Value := match zs[j]? with | some z => .ref z.t | none => .none
theorem inn_stat (i j : Nat) (zs : List Z) : (inn i j zs).map Z.stat = zs.map Z.stat := by
  unfold inn
  split
  · split
    · exact (up_stat _ (hf := fun _ => by unfold Z.setC Z.stat; rfl) _ _).trans (up_stat _ (hf := fun _ => by unfold Z.addE Z.stat; rfl) _ _)
    · rfl
  · rfl
theorem mIn_stat (i : Nat) : ∀ (l : List Nat) (zs : List Z), (mIn i l zs).map Z.stat = zs.map Z.stat
  | [], _ => rfl
  | j :: r, zs => (mIn_stat i r _).trans (inn_stat i j zs)
theorem mPre_stat {i : Nat} {zs zs' : List Z} {stk stk' : List Nat} (h : mPre i zs stk = some (zs', stk')) : zs'.map Z.stat = zs.map Z.stat := by
  unfold mPre at h
  split at h
  · cases h
  · split at h
    · cases h; rfl
    · split at h
      · split at h
        · cases h
        · split at h
          · cases h
          · cases h; exact (up_stat _ (hf := fun _ => by unfold Z.setM Z.stat; rfl) _ _).trans (up_stat _ (hf := fun _ => by unfold Z.setM Z.stat; rfl) _ _)
      · cases h; rfl
theorem run_stat (zs : List Z) : ∀ (n : Nat) (c : List Z × List Nat), run zs n = some c → c.1.map Z.stat = zs.map Z.stat
  | 0, c, h => by cases h; rfl
  | n + 1, c, h => by
    unfold run at h
    split at h
    · cases h
    · next c' hc =>
      split at h
      · cases h
      · next b hb => cases h; exact (mIn_stat n _ _).trans ((mPre_stat (zs' := b.1) (stk' := b.2) hb).trans (run_stat zs n c' hc))
theorem mPre_stk {i : Nat} {zs zs' : List Z} {stk stk' : List Nat} (h : mPre i zs stk = some (zs', stk')) (hs : ∀ j ∈ stk, j < i) : ∀ j ∈ stk', j ≤ i := by
  unfold mPre at h
  split at h
  · cases h
  · split at h
    · cases h
      intro j hj
      rcases List.mem_append.mp hj with h1 | h1
      · exact Nat.le_of_lt (hs j h1)
      · rw [List.mem_singleton.mp h1]; exact Nat.le_refl _
    · split at h
      · split at h
        · cases h
        · split at h
          · cases h
          · cases h; intro j hj; exact Nat.le_of_lt (hs j (List.dropLast_subset _ hj))
      · cases h; intro j hj; exact Nat.le_of_lt (hs j hj)
theorem mPre_len {i : Nat} {zs zs' : List Z} {stk stk' : List Nat} (h : mPre i zs stk = some (zs', stk')) : stk'.length ≤ stk.length + 1 := by
  unfold mPre at h
  split at h
  · cases h
  · split at h
    · cases h; simp
    · split at h
      · split at h
        · cases h
        · split at h
          · cases h
          · cases h; simp; omega
      · cases h; simp
theorem run_stk (zs : List Z) : ∀ (n : Nat) (c : List Z × List Nat), run zs n = some c → (∀ j ∈ c.2, j < n) ∧ c.2.length ≤ n
  | 0, c, h => by cases h; exact ⟨(fun j hj => nomatch hj), Nat.le_refl _⟩
  | n + 1, c, h => by
    unfold run at h
    split at h
    · cases h
    · next c' hc =>
      split at h
      · cases h
      · next b hb =>
        cases h
        have h1 := run_stk zs n c' hc
        have h2 := mPre_stk (zs' := b.1) (stk' := b.2) hb h1.1
        have h3 := mPre_len (zs' := b.1) (stk' := b.2) hb
        exact ⟨fun j hj => Nat.lt_succ_of_le (h2 j hj), by have := h1.2; show b.2.length ≤ _; omega⟩
theorem mIn_app (i : Nat) : ∀ (l r : List Nat) (zs : List Z), mIn i (l ++ r) zs = mIn i r (mIn i l zs)
  | [], _, _ => rfl
  | j :: l, r, zs => mIn_app i l r (inn i j zs)
theorem up_up (f g : Z → Z) : ∀ (i : Nat) (zs : List Z), up f i (up g i zs) = up (fun z => f (g z)) i zs
  | 0, [] => rfl
  | _ + 1, [] => rfl
  | 0, _ :: _ => rfl
  | n + 1, z :: r => congrArg (z :: ·) (up_up f g n r)
theorem cbIs_val {z y : Z} (h : cbIs z y = true) : valueAt z.kv CB = some (.ref y.x) := by
  unfold cbIs at h
  split at h
  · next a ha => rw [ha, eq_of_beq h]
  · cases h
def elB (b : Nat) (zs : List Z) : Prop := ∀ y ∈ zs, y.el.length ≤ b
theorem elB.mono {a b : Nat} {zs : List Z} (h : elB a zs) (k : a ≤ b) : elB b zs := fun y hy => Nat.le_trans (h y hy) k
theorem up_elB (f : Z → Z) {a b : Nat} (hf : ∀ z, z.el.length ≤ a → (f z).el.length ≤ b) (hab : a ≤ b) : ∀ (i : Nat) (zs : List Z), elB a zs → elB b (up f i zs)
  | _, [], _ => by intro y hy; simp [up] at hy
  | 0, z :: r, h => fun y hy => by
    rcases List.mem_cons.mp hy with rfl | hy
    · exact hf z (h z (.head _))
    · exact Nat.le_trans (h y (.tail _ hy)) hab
  | n + 1, z :: r, h => fun y hy => by
    rcases List.mem_cons.mp hy with rfl | hy
    · exact Nat.le_trans (h y (.head _)) hab
    · exact up_elB f hf hab n r (fun q hq => h q (.tail _ hq)) y hy
theorem inn_elB {b : Nat} (i j : Nat) (zs : List Z) (h : elB b zs) : elB (b + 1) (inn i j zs) := by
  unfold inn
  split
  · split
    · refine up_elB (a := b + 1) _ ?_ (Nat.le_refl _) _ _ (up_elB (a := b) _ ?_ (Nat.le_succ b) _ _ h)
      · intro z hz; exact hz
      · intro z hz
        show (z.el ++ [_]).length ≤ b + 1
        rw [List.length_append, List.length_singleton]; omega
    · exact h.mono (Nat.le_succ b)
  · exact h.mono (Nat.le_succ b)
theorem mIn_elB (i : Nat) : ∀ (l : List Nat) {b : Nat} (zs : List Z), elB b zs → elB (b + l.length) (mIn i l zs)
  | [], _, _, h => h
  | j :: r, b, zs, h => by
    have := mIn_elB i r _ (inn_elB i j zs h)
    exact this.mono (by simp only [List.length_cons]; omega)
theorem mPre_elB {i b : Nat} {zs zs' : List Z} {stk stk' : List Nat} (h : mPre i zs stk = some (zs', stk')) (hb : elB b zs) : elB b zs' := by
  unfold mPre at h
  split at h
  · cases h
  · split at h
    · cases h; exact hb
    · split at h
      · split at h
        · cases h
        · split at h
          · cases h
          · cases h
            refine up_elB (a := b) _ ?_ (Nat.le_refl _) _ _ (up_elB (a := b) _ ?_ (Nat.le_refl _) _ _ hb)
            · intro z hz; exact hz
            · intro z hz; exact hz
      · cases h; exact hb
theorem run_elB (zs : List Z) (h0 : elB 0 zs) : ∀ (n : Nat) (c : List Z × List Nat), run zs n = some c → elB (n * (n + 1)) c.1
  | 0, c, h => by cases h; exact h0
  | n + 1, c, h => by
    unfold run at h
    split at h
    · cases h
    · next c' hc =>
      split at h
      · cases h
      · next b hb =>
        cases h
        have h1 := run_stk zs n c' hc
        have h3 := mPre_len (zs' := b.1) (stk' := b.2) hb
        have h4 := mPre_elB (zs' := b.1) (stk' := b.2) hb (run_elB zs h0 n c' hc)
        refine (mIn_elB n b.2 b.1 h4).mono ?_
        have e1 : (n + 1) * (n + 1 + 1) = n * (n + 1) + (n + 1) + (n + 1) := by simp only [Nat.add_mul, Nat.mul_add, Nat.mul_one, Nat.one_mul]; try omega
        have := h1.2
        rw [e1]; omega
theorem stat_t {z y : Z} (h : z.stat = y.stat) : z.t = y.t := (congrArg Z.t h : z.stat.t = y.stat.t)
theorem stat_x {z y : Z} (h : z.stat = y.stat) : z.x = y.x := (congrArg Z.x h : z.stat.x = y.stat.x)
theorem stat_v {z y : Z} (h : z.stat = y.stat) : z.v = y.v := (congrArg Z.v h : z.stat.v = y.stat.v)
theorem stat_kv {z y : Z} (h : z.stat = y.stat) : z.kv = y.kv := (congrArg Z.kv h : z.stat.kv = y.stat.kv)
theorem stat_get {zs ys : List Z} (h : zs.map Z.stat = ys.map Z.stat) {i : Nat} {z : Z} (hz : zs[i]? = some z) : ∃ y, ys[i]? = some y ∧ y.stat = z.stat := by
  have h1 : (ys.map Z.stat)[i]? = some z.stat := by rw [← h]; simp [hz]
  simp only [List.getElem?_map, Option.map_eq_some_iff] at h1
  exact h1
theorem stat_mem {zs ys : List Z} (h : zs.map Z.stat = ys.map Z.stat) {z : Z} (hz : z ∈ zs) : ∃ y ∈ ys, y.stat = z.stat := by
  obtain ⟨i, hi⟩ := List.getElem?_of_mem hz
  obtain ⟨y, hy, e⟩ := stat_get h hi
  exact ⟨y, List.mem_of_getElem? hy, e⟩
theorem Led_mem {w : World} {zs : List Z} {z : Z} {p : Addr × Obj} (hz : z ∈ zs) (hp : p ∈ tk w z) : p ∈ Led w zs := List.mem_flatMap.mpr ⟨z, hz, hp⟩
end Mine
end
/- W8c -/
section
open PySem PySem.W PyProof.Rows PySem.Calls
set_option maxRecDepth 100000
set_option linter.unusedVariables false
namespace Mine
/-- the pure _law_pairs -/
def prun (vs : List Str) : Nat → Option (List (Nat × Nat) × List Nat)
  | 0 => some ([], [])
  | n + 1 => match prun vs n with
    | none => none
    | some c => match vs[n]? with
      | none => some c
      | some v =>
        if v ∈ opS then some (c.1, c.2 ++ [n])
        else if v ∈ clS then
          match c.2.getLast? with
          | none => none
          | some j => some (c.1 ++ [(j, n)], c.2.dropLast)
        else some c
theorem prun_none (vs : List Str) : ∀ (d n : Nat), prun vs n = none → prun vs (n + d) = none
  | 0, _, h => h
  | d + 1, n, h => by
    have := prun_none vs d n h
    show prun vs ((n + d) + 1) = none
    unfold prun; rw [this]
theorem prun_len (vs : List Str) : ∀ (n : Nat) (c : List (Nat × Nat) × List Nat), prun vs n = some c → c.1.length + c.2.length ≤ n
  | 0, c, h => by cases h; exact Nat.le_refl _
  | n + 1, c, h => by
    unfold prun at h
    split at h
    · cases h
    · next c' hc =>
      have I := prun_len vs n c' hc
      split at h
      · cases h; omega
      · split at h
        · cases h; simp only [List.length_append, List.length_singleton]; omega
        · split at h
          · split at h
            · cases h
            · next j hj =>
              cases h
              have : c'.2.length = c'.2.dropLast.length + 1 := by
                cases hq : c'.2 with
                | nil => rw [hq] at hj; cases hj
                | cons a r => simp
              simp only [List.length_append, List.length_singleton]; omega
          · cases h; omega
/-- what holds of the pure pairs and the pure stack -/
structure PInv (n : Nat) (ps : List (Nat × Nat)) (stk : List Nat) : Prop where
  lt : ∀ j ∈ stk, j < n
  nd : stk.Nodup
  klt : ∀ q ∈ ps, q.1 < q.2 ∧ q.2 < n
  off : ∀ q ∈ ps, q.1 ∉ stk
  knd : (ps.map (·.1)).Nodup
theorem getLast_split {α : Type} {l : List α} {j : α} (h : l.getLast? = some j) : l = l.dropLast ++ [j] := by
  rcases List.eq_nil_or_concat l with rfl | ⟨p, y, rfl⟩
  · cases h
  · rw [List.concat_eq_append] at h ⊢
    rw [List.getLast?_concat] at h
    cases h
    rw [List.dropLast_concat]
theorem prun_inv (vs : List Str) : ∀ (n : Nat) (c : List (Nat × Nat) × List Nat), prun vs n = some c → PInv n c.1 c.2
  | 0, c, h => by
    cases h
    exact ⟨(fun j hj => nomatch hj), List.nodup_nil, (fun q hq => nomatch hq), (fun q hq => nomatch hq), List.nodup_nil⟩
  | n + 1, c, h => by
    unfold prun at h
    split at h
    · cases h
    · next c' hc =>
      have I := prun_inv vs n c' hc
      have same : PInv (n + 1) c'.1 c'.2 := ⟨fun j hj => Nat.lt_succ_of_lt (I.lt j hj), I.nd, fun q hq => ⟨(I.klt q hq).1, Nat.lt_succ_of_lt (I.klt q hq).2⟩, I.off, I.knd⟩
      split at h
      · cases h; exact same
      · split at h
        · cases h
          refine ⟨fun j hj => ?_, ?_, same.klt, fun q hq hm => ?_, I.knd⟩
          · rcases List.mem_append.mp hj with h1 | h1
            · exact Nat.lt_succ_of_lt (I.lt j h1)
            · rw [List.mem_singleton.mp h1]; exact Nat.lt_succ_self n
          · refine List.nodup_append.mpr ⟨I.nd, by simp, fun a ha b hb e => ?_⟩
            rw [List.mem_singleton.mp hb] at e
            exact absurd (I.lt a ha) (by rw [e]; exact Nat.lt_irrefl _)
          · rcases List.mem_append.mp hm with h1 | h1
            · exact I.off q hq h1
            · have := (I.klt q hq); rw [List.mem_singleton.mp h1] at this; omega
        · split at h
          · split at h
            · cases h
            · next j hj =>
              cases h
              have e := getLast_split hj
              have hjm : j ∈ c'.2 := by rw [e]; simp
              have hd : ∀ x ∈ c'.2.dropLast, x ∈ c'.2 := fun x hx => List.dropLast_subset _ hx
              have hnd : (c'.2.dropLast ++ [j]).Nodup := e ▸ I.nd
              have hjd : j ∉ c'.2.dropLast := fun hm => by
                have := (List.nodup_append.mp hnd).2.2 j hm j (by simp)
                exact this rfl
              refine ⟨fun x hx => Nat.lt_succ_of_lt (I.lt x (hd x hx)), (List.nodup_append.mp hnd).1, fun q hq => ?_, fun q hq hm => ?_, ?_⟩
              · rcases List.mem_append.mp hq with h1 | h1
                · exact ⟨(I.klt q h1).1, Nat.lt_succ_of_lt (I.klt q h1).2⟩
                · rw [List.mem_singleton.mp h1]; exact ⟨I.lt j hjm, Nat.lt_succ_self n⟩
              · rcases List.mem_append.mp hq with h1 | h1
                · exact I.off q h1 (hd _ hm)
                · rw [List.mem_singleton.mp h1] at hm; exact hjd hm
              · rw [List.map_append, List.map_singleton]
                refine List.nodup_append.mpr ⟨I.knd, by simp, fun a ha b hb e' => ?_⟩
                obtain ⟨q, hq, rfl⟩ := List.mem_map.mp ha
                rw [List.mem_singleton.mp hb] at e'
                exact I.off q hq (e' ▸ hjm)
          · cases h; exact same
end Mine
end
/- W9 -/
section
open PySem PySem.W PyProof.Rows PySem.Calls
set_option maxRecDepth 100000
set_option linter.unusedVariables false
namespace Mine
local macro_rules | `(tactic| k_all) => `(tactic| assumption)
local macro_rules | `(tactic| k_mem) => `(tactic| assumption)
local macro_rules | `(tactic| tbn_conj) => `(tactic| first | exact List.forall_mem_nil _ | (refine List.forall_mem_cons.mpr ⟨?_, ?_⟩; (focus (with_unfolding_all rfl)); tbn_conj))
local macro_rules | `(tactic| kqd_sub) => `(tactic| first | exact List.Sublist.refl _ | (refine List.Sublist.cons_cons _ ?_; kqd_sub) | (refine List.Sublist.cons _ ?_; kqd_sub))
local macro_rules | `(tactic| kd_addW) => `(tactic| first | exact UpdW.head | (refine' UpdW.tail ?b; (case b => kd_addW)))
local macro_rules | `(tactic| kd_addB) => `(tactic| first | exact UpdWF.head | (refine' UpdWF.tail ?b; (case b => kd_addB)))
local macro_rules | `(tactic| k_upd) => `(tactic| ((with_reducible rename NN _ => dN); exact updNN dN rfl (by kd_addW)))
local macro_rules | `(tactic| k_updF) => `(tactic| ((with_reducible rename NN _ => dN); exact updFNN dN rfl (by kd_addB)))
local macro_rules | `(tactic| w_means) => `(tactic| (refine permOf fun x => ?_; (try simp only [cnt_app, cnt_cons, cnt_nil]); omega))
theorem fill9 : ∀ (w : World) (h : Heap), (KF w.params).In h → PySem.Challenge.rw_bu5045_01.row.prog = PySem.Challenge.rw_bu5045_01.row.prog := by
  k_fill; intros; rfl
theorem catCB : (Str.ofString "_yapf_annotation_" ++ Str.ofString "container_bracket") = CB := by decide +kernel
/-- a line's fields -/
def lineE (w : World) (g : Nat → Tok) (tl : Addr) : List DictEntry := [ent w "depth" (g 0) (.int 0 (g 3)), ent w "_tokens" (g 1) (.ref tl), ent w "disable" (g 2) (.bool false)]
local macro_rules | `(tactic| walk_at "subscriptTail") => `(tactic| (k_here; (with_reducible show wpAny _ _ (subscriptTail _ _ (Value.ref _) (Value.int _ _)) _ _ _); (with_unfolding_all refine' item_at ?N ?m ?x ?k ?f ?_ ?s; (case N => k_asm); (case m => k_mem); (case x => assumption); (case k => first | rfl | omega); (case f => omega); (case s => with_unfolding_all rfl); k_whole)))
local macro_rules | `(tactic| walk_at "compareOp Is ref ref") => `(tactic| (k_here; (with_reducible show wpAny _ _ (compareOp CmpOp.Is (Value.ref _) (Value.ref _)) _ _ _); k_dflt (refine' is_refs ?N ?a ?b ?n ?_; (case N => k_asm); (case a => k_mem); (case b => k_mem); (case n => (intro z; cases z; done)); k_whole)))
local macro_rules | `(tactic| walk_at "compareOp In str ref") => `(tactic| (k_here; (with_reducible show wpAny _ _ (compareOp CmpOp.In (Value.str _ _) (Value.ref _)) _ _ _); k_dflt (refine' in_fz ?F ?S ?_; (case F => k_asm); (case S => assumption); k_whole)))
local macro_rules | `(tactic| walk_at "exec For Name Call cons nil") => `(tactic| (k_here; (rename Fr _ _ _ _ => lF'); (with_unfolding_all refine' For_invVF lF' ?k1 ?k2 ?_; (case k1 => exact rfl); (case k2 => exact rfl); k_whole)))
local macro_rules | `(tactic| walk_at "exec For Name Name cons nil") => `(tactic| (k_here; (rename Fr _ _ _ _ => lF'); (with_unfolding_all refine' For_invVF lF' ?k1 ?k2 ?_; (case k1 => exact rfl); (case k2 => exact rfl); k_whole)))
local macro_rules | `(tactic| walk_at "exec For Name Attribute cons nil") => `(tactic| (k_here; (rename Fr _ _ _ _ => lF'); (with_unfolding_all refine' For_invVF lF' ?k1 ?k2 ?_; (case k1 => exact rfl); (case k2 => exact rfl); k_whole)))
local macro_rules | `(tactic| walk_at "pyIter ref") => `(tactic| fail "own")
local macro_rules | `(tactic| walk_at "Turn ret") => `(tactic| (refine Turn.ret ?_; try dsimp only))
local macro_rules | `(tactic| walk_at "call builtin:list.append") => `(tactic| (k_here; (with_reducible show wpAny _ _ (call (Value.builtin _) [Value.ref _, _]) _ _ _); k_dflt (refine' append_V ?k1 ?k2 ?k3 ?z ?_; (case k1 => k_asm); (case k2 => k_asm); (case k3 => k_upd); (case z => first | omega | (simp only [List.length_append, List.length_map, List.length_singleton]; omega)); k_whole); intro h' F' N'; (try k_sweep)))
local macro_rules | `(tactic| walk_at "call builtin:list.pop") => `(tactic| (k_here; (with_reducible show wpAny _ _ (call (Value.builtin _) [Value.ref _]) _ _ _); k_dflt (refine' pop_V ?k1 ?k2 ?k3 ?z ?_; (case k1 => k_asm); (case k2 => k_asm); (case k3 => k_upd); (case z => first | omega | (simp only [List.length_append, List.length_map, List.length_singleton]; omega)); k_whole); intro h' F' N'; (try k_sweep)))
local macro_rules | `(tactic| walk_at "subscriptTail Name UnaryOp ref int") => `(tactic| (k_here; (with_unfolding_all refine' item_last ?N ?m ?z ?_ ?s; (case N => k_asm); (case m => k_mem); (case z => first | omega | (simp only [List.length_append, List.length_map, List.length_singleton]; omega)); (case s => with_unfolding_all rfl); k_whole)))
local macro_rules | `(tactic| walk_at "getMethod ref") => `(tactic| (k_here; (with_reducible show wpAny _ _ (getMethod (Value.ref _) (Str.ofString "get") _) _ _ _); k_dflt (refine kdg_method (knd := PySem.strKind _ _) (by k_asm) (by k_mem) (by k_asm) ?_)))
local macro_rules | `(tactic| walk_at "call builtin:dict.get") => `(tactic| (k_here; (simp only [catCB]); k_dflt (refine kdg_get2 (knd := PySem.strKind _ _) (by k_asm) (by k_mem) (by k_asm) (by k_asm) (strKind_is _ _ _ _) _ (by assumption) ?_); (try dsimp only [Option.getD])))
local macro_rules | `(tactic| walk_at "subscriptTail Name UnaryOp ref int") => `(tactic| (k_here; (with_unfolding_all refine' item_none ?N ?m ?h ?_ ?s; (case N => k_asm); (case m => k_mem); (case h => rfl); (case s => with_unfolding_all rfl); k_whole)))
theorem RaisedN.sub {h₀ h : Heap} {fs : List Env} {e : Addr} {X : Value} {a b : List (Addr × Obj)} (R : RaisedN h₀ fs e X a h) (s : ∀ p ∈ b, p ∈ a) : RaisedN h₀ fs e X b h := let ⟨B, a0, hB, hl, hfl⟩ := R; ⟨B, a0, hB, fun q hq => hl q (s q hq), hfl⟩
theorem pack {a : Addr} {P : Addr → Prop} (h : P a) : ∃ b, b = a ∧ P b := ⟨a, rfl, h⟩
set_option maxHeartbeats 8000000 in
theorem match_walk : ∀ (w : World) (A₀ : Around) (base h₀ : Heap) (L : Addr) (m : Str → Option Value) (env e0 : Env) (E : Value → Shared → Prop) (s : Shared) (mean : ExcName → Option Value) (mg mb : Str → Option Value)
    (ln dl tl : Addr) (n2 : Nat) (g : Nat → Tok) (zs : List Z) (rest : List (Addr × Obj)) (Q : Value → Shared → Prop),
    Below A₀ base [e0] h₀ → Fr h₀ L s.heap m → (KF w.params).In h₀ → FzAt base 269 opS → FzAt base 271 clS → Top qv (looseW qv lz) mean mg mb h₀ → env.frame = some L → env.scope.kind = .function → 
    News h₀ L s.heap ((ln, instObj 525 dl) :: (dl, dictOf (lineE w g tl) 3) :: (tl, listOf ((ts zs).map Value.ref).toArray n2) :: (Led w zs ++ rest)) → NN ((ln, instObj 525 dl) :: (dl, dictOf (lineE w g tl) 3) :: (tl, listOf ((ts zs).map Value.ref).toArray n2) :: (Led w zs ++ rest)) →
    zs.length ≤ 10 → elB 0 zs → (∀ z ∈ zs, OkZ w z) → (∀ z ∈ zs, ∀ v, valueAt z.kv CB = some v → ∃ y ∈ zs, v = .ref y.x) →
    (∀ h' tk' zs' stk', run zs zs.length = some (zs', stk') → Fr h₀ L h' m → News h₀ L h' ((ln, instObj 525 dl) :: (dl, dictOf (lineE w g tl) 3) :: (tl, listOf ((ts zs).map Value.ref).toArray n2) :: (Led w zs' ++ rest)) →
      NN ((ln, instObj 525 dl) :: (dl, dictOf (lineE w g tl) 3) :: (tl, listOf ((ts zs).map Value.ref).toArray n2) :: (Led w zs' ++ rest)) → Q .none { s with heap := h', toks := tk' }) →
    (∀ h' tk' g' L' h1 m' e i zs' stk' name scope a cd, i < zs.length → run zs i = some (zs', stk') → mPre i zs' stk' = none → Fr h₀ L g' m → Fr g' L' h1 m' → Below ((callerA.deeper e0).deeper env) base [env, e0] g' → (KF w.params).In g' → Top qv (looseW qv lz) mean mg mb g' →
      News g' L' h1 ((ln, instObj 525 dl) :: (dl, dictOf (lineE w g tl) 3) :: (tl, listOf ((ts zs).map Value.ref).toArray n2) :: (Led w zs' ++ rest)) →
      NN ((ln, instObj 525 dl) :: (dl, dictOf (lineE w g tl) 3) :: (tl, listOf ((ts zs).map Value.ref).toArray n2) :: (Led w zs' ++ rest)) →
      Heap.NewExc h1 h' e "IndexError" → scope.kind = .function →
      wpAny (model PySem.Challenge.rw_bu5045_01.row.prog w) (((callerA.deeper e0).deeper env).deeper (envOf name scope L' a cd)) («leaving» (envOf name scope L' a cd) (.ref e)) (fun _ s'' => E (.ref e) s'') (fun e' s'' => E e' s'') { s with heap := h', toks := tk' }) →
    wpAny (model PySem.Challenge.rw_bu5045_01.row.prog w) ((callerA.deeper e0).deeper env) (call (.ref 278) [.ref ln]) Q E s := by
  k_fill
  intro w A₀ base h₀ L m env e0 E s mean mg mb ln dl tl n2 g zs rest Q B F X YO YC T hf hke N D hlen hel hok hcl hQ hE
  unfold lineE at N D
  refine wpAny_call ?_
  refine' code_def B F X N T ?kA hf hke ?k6 ?k7 ?k8 ?k9 ?kB ?_ ?c2 ?c3 ?c4 ?c5
  case kA => exact rfl
  case k6 => k_is
  case k7 => k_is
  case k8 => k_room
  case k9 => first | exact BindsTo.of_eq rfl | exact binds_K (by k_in) rfl (by k_is) rfl rfl rfl
  case kB => exact locs rfl
  case c2 => exact rfl
  case c3 => exact rfl
  case c4 => exact rfl
  case c5 => decide
  intro g' L' h' FG' F' N' B' X' T'
  k_steps
  have YO' := YO.keeps (Below.stays B')
  have YC' := YC.keeps (Below.stays B')
  rename Fr _ _ _ _ => lF
  rename News _ _ _ _ => lN
  rename _ ∧ _ ∧ _ ∧ AllLt _ _ => lA
  obtain ⟨bs, hbs, lA⟩ := pack (P := fun b => ln < b ∧ dl < b ∧ tl < b ∧ AllLt b (Led w zs ++ rest)) lA
  subst hbs
  have D0 := NN.consAll (o := listOf #[] 0) D lA
  have hst : ∀ i c, run zs i = some c → c.1.length = zs.length := fun i c h => by have := congrArg List.length (run_stat zs i c h); simpa using this
  refine it_list (σ := List Z × List Nat × Nat) (fun i c => run zs i = some (c.1, c.2.1))
    (fun c => (bs, listOf (c.2.1.map (tv zs)).toArray c.2.2) :: (ln, instObj 525 dl) :: (dl, dictOf (lineE w g tl) 3) :: (tl, listOf ((ts zs).map Value.ref).toArray n2) :: (Led w c.1 ++ rest))
    (fun _ => [("line", .ref ln), ("bracket_stack", .ref bs)]) (zs, [], 0) rfl (fun _ _ _ => .tail _ (.tail _ (.tail _ (.head _)))) lF lN D0 ?k1 rfl ?turn ?done
  case k1 => tbn_conj
  case turn =>
    intro i v c u h tk0 I oI hv hJ F1 N1 D1
    obtain ⟨zs1, stk, cap⟩ := c
    dsimp only at hJ F1 N1 D1
    have hstat := run_stat zs i _ hJ
    have hlen1 := hst i _ hJ
    obtain ⟨hsl, hsn⟩ := run_stk zs i _ hJ
    have helb := run_elB zs hel i _ hJ
    dsimp only at hstat hlen1 hsl hsn helb
    have hi : i < zs.length := by
      have := (List.getElem?_eq_some_iff.mp hv).1
      simpa [ts] using this
    obtain ⟨z, hz⟩ : ∃ z, zs1[i]? = some z := ⟨_, List.getElem?_eq_getElem (by omega)⟩
    have hts : ts zs = ts zs1 := by rw [ts_stat, ts_stat, hstat]
    have hvz : v = .ref z.t := by
      rw [hts] at hv
      simpa [ts, hz] using hv.symm
    subst hvz
    have htv : ∀ j y, zs1[j]? = some y → tv zs j = .ref y.t := fun j y hy => by
      have h1 : (ts zs)[j]? = some y.t := by rw [hts]; simp [ts, hy]
      unfold tv
      cases hq : zs[j]? with
      | none => simp [ts, hq] at h1
      | some q => simp only [ts, List.getElem?_map, hq, Option.map_some, Option.some.injEq] at h1; exact congrArg Value.ref h1
    have hslen : (stk.map (tv zs)).length ≤ 10 := by simp; omega
    refine cut (Mid := fun s' => ∃ zs2 stk2 cap2 h' tk', s' = { s with heap := h', toks := tk' } ∧ mPre i zs1 stk = some (zs2, stk2) ∧ Fr g' L' h' (fun y => if y = "token" then some (.ref z.t) else kstB u [("line", .ref ln), ("bracket_stack", .ref bs)] y) ∧
      News g' L' h' ((I, oI) :: (bs, listOf (stk2.map (tv zs)).toArray cap2) :: (ln, instObj 525 dl) :: (dl, dictOf (lineE w g tl) 3) :: (tl, listOf ((ts zs).map Value.ref).toArray n2) :: (Led w zs2 ++ rest)) ∧
      NN ((I, oI) :: (bs, listOf (stk2.map (tv zs)).toArray cap2) :: (ln, instObj 525 dl) :: (dl, dictOf (lineE w g tl) 3) :: (tl, listOf ((ts zs).map Value.ref).toArray n2) :: (Led w zs2 ++ rest))) ?_ ?_
    · by_cases hop : z.v ∈ opS
      · have hop' : decide (z.v ∈ opS) = true := decide_eq_true hop
        obtain ⟨R, p1, _⟩ := led1 w zs1 i z hz
        have pp : ((I, oI) :: (bs, listOf (stk.map (tv zs)).toArray cap) :: (ln, instObj 525 dl) :: (dl, dictOf (lineE w g tl) 3) :: (tl, listOf ((ts zs).map Value.ref).toArray n2) :: (Led w zs1 ++ rest)).Perm
          ((bs, listOf (stk.map (tv zs)).toArray cap) :: (Mine.tk w z ++ ((I, oI) :: (ln, instObj 525 dl) :: (dl, dictOf (lineE w g tl) 3) :: (tl, listOf ((ts zs).map Value.ref).toArray n2) :: (R ++ rest)))) := permOf fun x => by
            have := cnt_perm p1 x
            simp only [cnt_cons, cnt_app] at this ⊢; omega
        have N2 := News.perm N1 pp
        have D2 := D1.perm pp
        simp only [Mine.tk, List.cons_append, List.nil_append] at N2 D2
        clear N1
        k_steps
        rename Fr _ _ _ _ => F3
        rename News _ _ _ _ => N3
        have D3 := NN.same (b := (bs, listOf (stk.map (tv zs) ++ [Value.ref z.t]).toArray (cap + 1)) :: _) D2 rfl
        have pq : ((bs, listOf (stk.map (tv zs) ++ [Value.ref z.t]).toArray (cap + 1)) :: (Mine.tk w z ++ ((I, oI) :: (ln, instObj 525 dl) :: (dl, dictOf (lineE w g tl) 3) :: (tl, listOf ((ts zs).map Value.ref).toArray n2) :: (R ++ rest)))).Perm
          ((I, oI) :: (bs, listOf (stk.map (tv zs) ++ [Value.ref z.t]).toArray (cap + 1)) :: (ln, instObj 525 dl) :: (dl, dictOf (lineE w g tl) 3) :: (tl, listOf ((ts zs).map Value.ref).toArray n2) :: (Led w zs1 ++ rest)) := permOf fun x => by
            have := cnt_perm p1 x
            simp only [cnt_cons, cnt_app] at this ⊢; omega
        have em : (stk ++ [i]).map (tv zs) = stk.map (tv zs) ++ [Value.ref z.t] := by rw [List.map_append, List.map_singleton, htv i z hz]
        refine ⟨rfl, zs1, stk ++ [i], cap + 1, _, _, rfl, ?_, F3, ?_, ?_⟩
        · unfold mPre; rw [hz]; dsimp only; rw [if_pos hop]
        · rw [em]; exact News.perm N3 pq
        · rw [em]; exact NN.perm D3 pq
      · have hop' : decide (z.v ∈ opS) = false := decide_eq_false hop
        by_cases hcs : z.v ∈ clS
        · have hcs' : decide (z.v ∈ clS) = true := decide_eq_true hcs
          rcases List.eq_nil_or_concat stk with hnil | ⟨p, j, hpj⟩
          · subst hnil
            obtain ⟨R, p1, _⟩ := led1 w zs1 i z hz
            have pp : ((I, oI) :: (bs, listOf (([] : List Nat).map (tv zs)).toArray cap) :: (ln, instObj 525 dl) :: (dl, dictOf (lineE w g tl) 3) :: (tl, listOf ((ts zs).map Value.ref).toArray n2) :: (Led w zs1 ++ rest)).Perm
              ((bs, listOf (List.toArray []) cap) :: (Mine.tk w z ++ ((I, oI) :: (ln, instObj 525 dl) :: (dl, dictOf (lineE w g tl) 3) :: (tl, listOf ((ts zs).map Value.ref).toArray n2) :: (R ++ rest)))) := permOf fun x => by
                have := cnt_perm p1 x
                simp only [cnt_cons, cnt_app, List.map_nil] at this ⊢; omega
            have N2 := News.perm N1 pp
            have D2 := D1.perm pp
            simp only [Mine.tk, List.cons_append, List.nil_append] at N2 D2
            clear N1
            k_steps
            intro h4 tk4 e4 x4
            rename Fr g' _ _ _ => F4
            rename News g' _ _ _ => N4
            refine hE h4 tk4 g' L' _ _ e4 i zs1 [] _ _ _ _ hi hJ ?_ FG' F4 B' X' T' (News.sub (News.perm N4 pp.symm) (by kqd_sub)) D1.tail.tail x4 rfl
            unfold mPre; rw [hz]; dsimp only; rw [if_neg hop, if_pos hcs]; rfl
          · rw [List.concat_eq_append] at hpj
            subst hpj
            have hji : j < i := hsl j (by simp)
            obtain ⟨y, hy⟩ : ∃ y, zs1[j]? = some y := ⟨_, List.getElem?_eq_getElem (by omega)⟩
            have hpl : (p.map (tv zs)).length ≤ 10 := by
              rw [List.length_append, List.length_singleton] at hsn
              rw [List.length_map]; omega
            have em : (p ++ [j]).map (tv zs) = p.map (tv zs) ++ [Value.ref y.t] := by rw [List.map_append, List.map_singleton, htv j y hy]
            rw [em] at N1 D1 hslen
            obtain ⟨R, p1, p2⟩ := led2 w zs1 i j z y (by omega) hz hy
            have pp : ((I, oI) :: (bs, listOf (p.map (tv zs) ++ [Value.ref y.t]).toArray cap) :: (ln, instObj 525 dl) :: (dl, dictOf (lineE w g tl) 3) :: (tl, listOf ((ts zs).map Value.ref).toArray n2) :: (Led w zs1 ++ rest)).Perm
              ((bs, listOf (p.map (tv zs) ++ [Value.ref y.t]).toArray cap) :: (Mine.tk w z ++ (Mine.tk w y ++ ((I, oI) :: (ln, instObj 525 dl) :: (dl, dictOf (lineE w g tl) 3) :: (tl, listOf ((ts zs).map Value.ref).toArray n2) :: (R ++ rest))))) := permOf fun x => by
                have := cnt_perm p1 x
                simp only [cnt_cons, cnt_app] at this ⊢; omega
            have N2 := News.perm N1 pp
            have D2 := D1.perm pp
            simp only [Mine.tk, List.cons_append, List.nil_append] at N2 D2
            clear N1
            k_steps
            rename Fr _ _ _ _ => F3
            rename News _ _ _ _ => N3
            have D3 := NN.same (b := (bs, listOf (p.map (tv zs)).toArray (cap + 1)) :: (Mine.tk w (z.setM (.ref y.t)) ++ (Mine.tk w (y.setM (.ref z.t)) ++ ((I, oI) :: (ln, instObj 525 dl) :: (dl, dictOf (lineE w g tl) 3) :: (tl, listOf ((ts zs).map Value.ref).toArray n2) :: (R ++ rest))))) D2 rfl
            have p2' := p2 (fun q => q.setM (.ref y.t)) (fun q => q.setM (.ref z.t))
            have pq : ((bs, listOf (p.map (tv zs)).toArray (cap + 1)) :: (Mine.tk w (z.setM (.ref y.t)) ++ (Mine.tk w (y.setM (.ref z.t)) ++ ((I, oI) :: (ln, instObj 525 dl) :: (dl, dictOf (lineE w g tl) 3) :: (tl, listOf ((ts zs).map Value.ref).toArray n2) :: (R ++ rest))))).Perm
              ((I, oI) :: (bs, listOf (p.map (tv zs)).toArray (cap + 1)) :: (ln, instObj 525 dl) :: (dl, dictOf (lineE w g tl) 3) :: (tl, listOf ((ts zs).map Value.ref).toArray n2) :: (Led w (up (fun q => q.setM (.ref y.t)) i (up (fun q => q.setM (.ref z.t)) j zs1)) ++ rest)) := permOf fun x => by
                have := cnt_perm p2' x
                simp only [cnt_cons, cnt_app] at this ⊢; omega
            refine ⟨rfl, _, p, cap + 1, _, _, rfl, ?_, F3, News.perm N3 pq, NN.perm D3 pq⟩
            unfold mPre; rw [hz]; dsimp only; rw [if_neg hop, if_pos hcs]
            simp only [List.getLast?_append, List.getLast?_singleton, Option.some_or, hy, List.dropLast_concat]
        · have hcs' : decide (z.v ∈ clS) = false := decide_eq_false hcs
          obtain ⟨R, p1, _⟩ := led1 w zs1 i z hz
          have pp : ((I, oI) :: (bs, listOf (stk.map (tv zs)).toArray cap) :: (ln, instObj 525 dl) :: (dl, dictOf (lineE w g tl) 3) :: (tl, listOf ((ts zs).map Value.ref).toArray n2) :: (Led w zs1 ++ rest)).Perm
            ((bs, listOf (stk.map (tv zs)).toArray cap) :: (Mine.tk w z ++ ((I, oI) :: (ln, instObj 525 dl) :: (dl, dictOf (lineE w g tl) 3) :: (tl, listOf ((ts zs).map Value.ref).toArray n2) :: (R ++ rest)))) := permOf fun x => by
              have := cnt_perm p1 x
              simp only [cnt_cons, cnt_app] at this ⊢; omega
          have N2 := News.perm N1 pp
          have D2 := D1.perm pp
          simp only [Mine.tk, List.cons_append, List.nil_append] at N2 D2
          clear N1
          k_steps
          rename Fr _ _ _ _ => F3
          rename News _ _ _ _ => N3
          refine ⟨rfl, zs1, stk, cap, _, _, rfl, ?_, F3, News.perm N3 pp.symm, D1⟩
          unfold mPre; rw [hz]; dsimp only; rw [if_neg hop, if_neg hcs]
    · rintro s' ⟨zs2, stk2, cap2, h2, tk2, rfl, hpre, F2, N2, D2⟩
      have hstat2 : zs2.map Z.stat = zs.map Z.stat := (mPre_stat hpre).trans hstat
      have hsl2 := mPre_stk hpre hsl
      have hsn2 := mPre_len hpre
      have hel2 : elB 110 zs2 := (mPre_elB hpre helb).mono (by
        have h1 : i * (i + 1) ≤ 10 * 11 := Nat.mul_le_mul (by omega) (by omega)
        omega)
      k_steps
      clear F1 N1 D1
      rename Fr _ _ _ _ => F3
      rename News _ _ _ _ => N3
      refine it_list (σ := List Z) (vs := stk2.map (tv zs)) (nn := cap2) (fun k zs3 => zs3 = mIn i (stk2.take k) zs2)
        (fun zs3 => (I, oI) :: (bs, listOf (stk2.map (tv zs)).toArray cap2) :: (ln, instObj 525 dl) :: (dl, dictOf (lineE w g tl) 3) :: (tl, listOf ((ts zs).map Value.ref).toArray n2) :: (Led w zs3 ++ rest))
        (fun _ => [("line", .ref ln), ("bracket_stack", .ref bs), ("token", .ref z.t)]) zs2 rfl (fun _ _ _ => .tail _ (.head _)) F3 N3 D2 ?ka rfl ?turnB ?doneB
      case ka => tbn_conj
      case turnB =>
        intro k v zs3 u3 h3 tk3 I3 oI3 hv3 hJ3 F4 N4 D4
        have hstat3 : zs3.map Z.stat = zs.map Z.stat := by rw [hJ3]; exact (mIn_stat i _ zs2).trans hstat2
        obtain ⟨j, hj⟩ : ∃ j, stk2[k]? = some j := by
          rw [List.getElem?_map, Option.map_eq_some_iff] at hv3
          exact ⟨_, hv3.choose_spec.1⟩
        have hvj : tv zs j = v := by simpa [hj] using hv3
        have hji : j ≤ i := hsl2 j (List.mem_of_getElem? hj)
        have hl3 : zs3.length = zs.length := by have := congrArg List.length hstat3; simpa using this
        obtain ⟨z', hz'⟩ : ∃ z', zs3[i]? = some z' := ⟨_, List.getElem?_eq_getElem (by omega)⟩
        obtain ⟨y, hy⟩ : ∃ y, zs3[j]? = some y := ⟨_, List.getElem?_eq_getElem (by omega)⟩
        have hzt : z.t = z'.t := by
          obtain ⟨a, ha, ea⟩ := stat_get hstat hz
          obtain ⟨b, hb, eb⟩ := stat_get hstat3 hz'
          rw [ha] at hb; cases hb
          exact (stat_t ea).symm.trans (stat_t eb)
        have hvy : v = .ref y.t := by
          obtain ⟨b, hb, eb⟩ := stat_get hstat3 hy
          rw [← hvj]; unfold tv; rw [hb]; exact congrArg Value.ref (stat_t eb)
        subst hvy
        rw [hzt] at F4
        have hel3 : elB 130 zs3 := by
          rw [hJ3]
          refine (mIn_elB i _ zs2 hel2).mono ?_
          have : (stk2.take k).length ≤ stk2.length := by rw [List.length_take]; omega
          omega
        have hely : y.el.length ≤ 130 := hel3 y (List.mem_of_getElem? hy)
        have hnext : mIn i (stk2.take (k + 1)) zs2 = inn i j zs3 := by
          rw [List.take_add_one, hj, Option.toList_some, mIn_app, ← hJ3]; rfl
        obtain ⟨hok1, hok2, hok3⟩ : OkZ w z' := by
          obtain ⟨b, hb, eb⟩ := stat_mem hstat3 (List.mem_of_getElem? hz')
          exact (hok b hb).stat eb
        by_cases hcb : cbIs z' y = true
        · have hval := cbIs_val hcb
          have hin : inn i j zs3 = up (fun q => q.setC (.ref y.t)) i (up (fun q => q.addE (.ref z'.t)) j zs3) := by unfold inn; rw [hz', hy]; dsimp only; rw [if_pos hcb]
          by_cases hij : i = j
          · subst hij
            rw [hz'] at hy
            cases hy
            obtain ⟨R, p1, p2⟩ := led1 w zs3 i z' hz'
            have pp : ((I3, oI3) :: (I, oI) :: (bs, listOf (stk2.map (tv zs)).toArray cap2) :: (ln, instObj 525 dl) :: (dl, dictOf (lineE w g tl) 3) :: (tl, listOf ((ts zs).map Value.ref).toArray n2) :: (Led w zs3 ++ rest)).Perm (Mine.tk w z' ++ ((I3, oI3) :: (I, oI) :: (bs, listOf (stk2.map (tv zs)).toArray cap2) :: (ln, instObj 525 dl) :: (dl, dictOf (lineE w g tl) 3) :: (tl, listOf ((ts zs).map Value.ref).toArray n2) :: (R ++ rest))) := permOf fun x => by
                have := cnt_perm p1 x
                simp only [cnt_cons, cnt_app] at this ⊢; omega
            have N5 := News.perm N4 pp
            have D5 := D4.perm pp
            simp only [Mine.tk, List.cons_append, List.nil_append] at N5 D5
            clear N4
            have htt : decide (z'.x = z'.x) = true := decide_eq_true rfl
            k_steps
            rename Fr _ _ _ _ => F6
            rename News _ _ _ _ => N6
            have D6 := NN.same (b := Mine.tk w ((z'.addE (.ref z'.t)).setC (.ref z'.t)) ++ ((I3, oI3) :: (I, oI) :: (bs, listOf (stk2.map (tv zs)).toArray cap2) :: (ln, instObj 525 dl) :: (dl, dictOf (lineE w g tl) 3) :: (tl, listOf ((ts zs).map Value.ref).toArray n2) :: (R ++ rest))) D5 rfl
            have p2' := p2 (fun q => (q.addE (.ref z'.t)).setC (.ref z'.t))
            have pq : (Mine.tk w ((z'.addE (.ref z'.t)).setC (.ref z'.t)) ++ ((I3, oI3) :: (I, oI) :: (bs, listOf (stk2.map (tv zs)).toArray cap2) :: (ln, instObj 525 dl) :: (dl, dictOf (lineE w g tl) 3) :: (tl, listOf ((ts zs).map Value.ref).toArray n2) :: (R ++ rest))).Perm ((I3, oI3) :: (I, oI) :: (bs, listOf (stk2.map (tv zs)).toArray cap2) :: (ln, instObj 525 dl) :: (dl, dictOf (lineE w g tl) 3) :: (tl, listOf ((ts zs).map Value.ref).toArray n2) :: (Led w (up (fun q => (q.addE (.ref z'.t)).setC (.ref z'.t)) i zs3) ++ rest)) := permOf fun x => by
                have := cnt_perm p2' x
                simp only [cnt_cons, cnt_app] at this ⊢; omega
            refine Turn.next _ F6 (News.perm N6 pq) (NN.perm D6 pq) ?_ (by rw [hnext, hin, up_up])
            rw [hzt]; tbn_conj
          · obtain ⟨R, p1, p2⟩ := led2 w zs3 i j z' y hij hz' hy
            have pp : ((I3, oI3) :: (I, oI) :: (bs, listOf (stk2.map (tv zs)).toArray cap2) :: (ln, instObj 525 dl) :: (dl, dictOf (lineE w g tl) 3) :: (tl, listOf ((ts zs).map Value.ref).toArray n2) :: (Led w zs3 ++ rest)).Perm (Mine.tk w z' ++ (Mine.tk w y ++ ((I3, oI3) :: (I, oI) :: (bs, listOf (stk2.map (tv zs)).toArray cap2) :: (ln, instObj 525 dl) :: (dl, dictOf (lineE w g tl) 3) :: (tl, listOf ((ts zs).map Value.ref).toArray n2) :: (R ++ rest)))) := permOf fun x => by
                have := cnt_perm p1 x
                simp only [cnt_cons, cnt_app] at this ⊢; omega
            have N5 := News.perm N4 pp
            have D5 := D4.perm pp
            simp only [Mine.tk, List.cons_append, List.nil_append] at N5 D5
            clear N4
            have htt : decide (y.x = y.x) = true := decide_eq_true rfl
            k_steps
            rename Fr _ _ _ _ => F6
            rename News _ _ _ _ => N6
            have D6 := NN.same (b := Mine.tk w (z'.setC (.ref y.t)) ++ (Mine.tk w (y.addE (.ref z'.t)) ++ ((I3, oI3) :: (I, oI) :: (bs, listOf (stk2.map (tv zs)).toArray cap2) :: (ln, instObj 525 dl) :: (dl, dictOf (lineE w g tl) 3) :: (tl, listOf ((ts zs).map Value.ref).toArray n2) :: (R ++ rest)))) D5 rfl
            have p2' := p2 (fun q => q.setC (.ref y.t)) (fun q => q.addE (.ref z'.t))
            have pq : (Mine.tk w (z'.setC (.ref y.t)) ++ (Mine.tk w (y.addE (.ref z'.t)) ++ ((I3, oI3) :: (I, oI) :: (bs, listOf (stk2.map (tv zs)).toArray cap2) :: (ln, instObj 525 dl) :: (dl, dictOf (lineE w g tl) 3) :: (tl, listOf ((ts zs).map Value.ref).toArray n2) :: (R ++ rest)))).Perm ((I3, oI3) :: (I, oI) :: (bs, listOf (stk2.map (tv zs)).toArray cap2) :: (ln, instObj 525 dl) :: (dl, dictOf (lineE w g tl) 3) :: (tl, listOf ((ts zs).map Value.ref).toArray n2) :: (Led w (up (fun q => q.setC (.ref y.t)) i (up (fun q => q.addE (.ref z'.t)) j zs3)) ++ rest)) := permOf fun x => by
                have := cnt_perm p2' x
                simp only [cnt_cons, cnt_app] at this ⊢; omega
            refine Turn.next _ F6 (News.perm N6 pq) (NN.perm D6 pq) ?_ (by rw [hnext, hin])
            rw [hzt]; tbn_conj
        · have hin : inn i j zs3 = zs3 := by unfold inn; rw [hz', hy]; dsimp only; rw [if_neg hcb]
          have hmz : ∀ p ∈ Mine.tk w z', p ∈ Led w zs3 := fun p hp => Led_mem (List.mem_of_getElem? hz') hp
          have hmy : ∀ p ∈ Mine.tk w y, p ∈ Led w zs3 := fun p hp => Led_mem (List.mem_of_getElem? hy) hp
          rcases hval : valueAt z'.kv CB with _ | vv
          · have N5 : News g' L' h3 ((Mine.tk w z' ++ Mine.tk w y) ++ ((I3, oI3) :: (I, oI) :: (bs, listOf (stk2.map (tv zs)).toArray cap2) :: (ln, instObj 525 dl) :: (dl, dictOf (lineE w g tl) 3) :: (tl, listOf ((ts zs).map Value.ref).toArray n2) :: (Led w zs3 ++ rest))) := by
              intro p hp
              rcases List.mem_append.mp hp with hp | hp
              · rcases List.mem_append.mp hp with hp | hp
                · exact N4 p (.tail _ (.tail _ (.tail _ (.tail _ (.tail _ (.tail _ (List.mem_append_left _ (hmz p hp))))))))
                · exact N4 p (.tail _ (.tail _ (.tail _ (.tail _ (.tail _ (.tail _ (List.mem_append_left _ (hmy p hp))))))))
              · exact N4 p hp
            simp only [Mine.tk, List.cons_append, List.nil_append] at N5
            clear N4
            k_steps
            rename Fr _ _ _ _ => F6
            rename News _ _ _ _ => N6
            refine Turn.next zs3 F6 (News.sub N6 (by kqd_sub)) D4 ?_ (by rw [hnext, hin])
            rw [hzt]; tbn_conj
          · obtain ⟨y0, hy0, hvv⟩ : ∃ y0 ∈ zs3, vv = .ref y0.x := by
              obtain ⟨b, hb, eb⟩ := stat_mem hstat3 (List.mem_of_getElem? hz')
              obtain ⟨c0, hc0, ec0⟩ := hcl b hb vv (by rw [stat_kv eb]; exact hval)
              obtain ⟨y0, hy0, ey0⟩ := stat_mem hstat3.symm hc0
              exact ⟨y0, hy0, by rw [ec0, stat_x ey0]⟩
            subst hvv
            have hne : ¬ y0.x = y.x := fun e => hcb (by unfold cbIs; rw [hval]; exact beq_iff_eq.mpr e)
            have hne' : decide (y0.x = y.x) = false := decide_eq_false hne
            have N5 : News g' L' h3 ((Mine.tk w z' ++ Mine.tk w y) ++ ((y0.x, instObj 214 y0.d) :: ((I3, oI3) :: (I, oI) :: (bs, listOf (stk2.map (tv zs)).toArray cap2) :: (ln, instObj 525 dl) :: (dl, dictOf (lineE w g tl) 3) :: (tl, listOf ((ts zs).map Value.ref).toArray n2) :: (Led w zs3 ++ rest)))) := by
              intro p hp
              rcases List.mem_append.mp hp with hp | hp
              · rcases List.mem_append.mp hp with hp | hp
                · exact N4 p (.tail _ (.tail _ (.tail _ (.tail _ (.tail _ (.tail _ (List.mem_append_left _ (hmz p hp))))))))
                · exact N4 p (.tail _ (.tail _ (.tail _ (.tail _ (.tail _ (.tail _ (List.mem_append_left _ (hmy p hp))))))))
              · rcases List.mem_cons.mp hp with hp | hp
                · rw [hp]
                  exact N4 _ (.tail _ (.tail _ (.tail _ (.tail _ (.tail _ (.tail _ (List.mem_append_left _ (Led_mem hy0 (by simp [Mine.tk])))))))))
                · exact N4 p hp
            simp only [Mine.tk, List.cons_append, List.nil_append] at N5
            clear N4
            k_steps
            rename Fr _ _ _ _ => F6
            rename News _ _ _ _ => N6
            refine Turn.next zs3 F6 (News.sub N6 (by kqd_sub)) D4 ?_ (by rw [hnext, hin])
            rw [hzt]; tbn_conj
      case doneB =>
        intro zs3 u3 h3 tk3 hJ3 F4 N4 D4
        rw [List.length_map, List.take_length] at hJ3
        k_steps
        rename Fr _ _ _ _ => F6
        rename News _ _ _ _ => N6
        refine Turn.next (zs3, stk2, cap2) F6 N6 D4 (by tbn_conj) ?_
        show run zs (i + 1) = some (zs3, stk2)
        unfold run; rw [hJ]; dsimp only; rw [hpre]; dsimp only; rw [hJ3]
  case done =>
    intro c u h tk hJ F1 N1 D1
    rw [show ((ts zs).map Value.ref).length = zs.length from by simp [ts]] at hJ
    k_steps
    exact hQ _ _ c.1 c.2.1 hJ (by assumption) (News.sub (by assumption) (by kqd_sub)) D1.tail
end Mine
end
/- W10 -/
section
open PySem PySem.W PyProof.Rows PySem.Calls
set_option maxRecDepth 100000
set_option linter.unusedVariables false
namespace Mine
local macro_rules | `(tactic| k_all) => `(tactic| assumption)
local macro_rules | `(tactic| k_mem) => `(tactic| assumption)
local macro_rules | `(tactic| tbn_conj) => `(tactic| first | exact List.forall_mem_nil _ | (refine List.forall_mem_cons.mpr ⟨?_, ?_⟩; (focus (with_unfolding_all rfl)); tbn_conj))
local macro_rules | `(tactic| kqd_sub) => `(tactic| first | exact List.Sublist.refl _ | (refine List.Sublist.cons_cons _ ?_; kqd_sub) | (refine List.Sublist.cons _ ?_; kqd_sub))
local macro_rules | `(tactic| kd_addW) => `(tactic| first | exact UpdW.head | (refine' UpdW.tail ?b; (case b => kd_addW)))
local macro_rules | `(tactic| kd_addB) => `(tactic| first | exact UpdWF.head | (refine' UpdWF.tail ?b; (case b => kd_addB)))
local macro_rules | `(tactic| k_upd) => `(tactic| ((with_reducible rename NN _ => dN); exact updNN dN rfl (by kd_addW)))
local macro_rules | `(tactic| k_updF) => `(tactic| ((with_reducible rename NN _ => dN); exact updFNN dN rfl (by kd_addB)))
local macro_rules | `(tactic| w_means) => `(tactic| (refine permOf fun x => ?_; (try simp only [cnt_app, cnt_cons, cnt_nil]); omega))
theorem fill10 : ∀ (w : World) (h : Heap), (KF w.params).In h → PySem.Challenge.rw_bu5045_01.row.prog = PySem.Challenge.rw_bu5045_01.row.prog := by
  k_fill; intros; rfl
section
variable {prog : Program} {w : World} {A A₀ : Around} {s : Shared} {K : Frag} {base h₀ : Heap} {L : Addr} {m : Str → Option Value} {news : List (Addr × Obj)} {p : Program} {loose : List Str} {mean : ExcName → Option Value} {mg mb : Str → Option Value}
theorem code_defS0g {env : Env} {R : Result → Shared → Prop} {name qual : Str} {params : Arguments} {body : List Stmt} {scope : Scope} {dV kV doc pm cdv ct oc : Value} {an od : Option Addr} {osl : Array (Option Value)} {f : Addr} {args : Args} {binds : List (Str × Value)}
    (B : Below A₀ base [] h₀) (F : Fr h₀ L s.heap m) (X₀ : K.In h₀) (N : News h₀ L s.heap news) (T : Top p loose mean mg mb h₀) (hA : A.frames = some [env]) (hf : env.frame = some L) (hke : env.scope.kind = .function)
    (ho : K.lookup f = some ⟨oc, od, .func (fnOf name qual params body scope dV kV doc pm an cdv ct), osl⟩) (hcd : codeIn K cdv qual = true) (hroom : A.depth < recursionLimit)
    (hbind : BindsTo s (fnOf name qual params body scope dV kV doc pm an cdv ct) args binds) (hloc : ∀ y ∈ binds, scope.names.lookup y.1 = some .local)
    (h : ∀ g L' h₁, Fr h₀ L g m → Fr g L' h₁ (fun y => binds.reverse.lookup y) → News g L' h₁ news → Below A base [env] g → K.In g → Top p loose mean mg mb g → KtsDicts ([env].filterMap (·.frame)) g →
      wpAny (model prog w) (A.deeper (envOf qual scope L' f cdv)) (execs body (envOf qual scope L' f cdv))
        (fun fl s' => LeaveS0 ([env].filterMap (·.frame)) h₀ L m g R (match fl with | .ret v => v | _ => .none) s')
        (fun e s' => wpAny (model prog w) (A.deeper (envOf qual scope L' f cdv)) («leaving» (envOf qual scope L' f cdv) e) (fun _ s'' => R (.error e) s'') (fun e' s'' => R (.error e') s'') s')
        { s with heap := h₁, toks := s.toks + binds.length })
    (hco : scope.isCoroutine = false) (hgen : scope.isGenerator = false) (hk : scope.kind = .function)
    (hcell : ∀ x ∈ scope.names, x.2 ≠ .cell) : codeAny (model prog w) A (.call (.ref f) args) R s := by
  have X := X₀.keeps F.keep
  have hfm : [env].filterMap (·.frame) = [L] := by simp [hf]
  refine codeAny_call_def (fd := fnOf name qual params body scope dV kV doc pm an cdv ct) (body := body) (binds := binds) hroom (X _ _ ho) rfl (T.nolimit.keeps F.keep) (codeRec_of X hcd) rfl hbind hcell hloc (fun h₁ hns hk₁ => ?_) hco hgen hk
  obtain ⟨FG, BG, st, lv⟩ := groundX (R := R) B F N hA hf hke
  obtain ⟨oL, es, ep, hLg, hLd, hLk, hLf⟩ := FG.ns
  refine wpAny_mono (h _ s.heap.objs.size h₁ FG ⟨hns, fun b o e => hk₁ b o (of_hideAll _ e), Nat.le_of_eq (hideAll_size _ _)⟩
    (fun p hp => ⟨hk₁ _ _ (N p hp).1, Nat.ne_of_lt (Heap.lt_size (N p hp).1), hideAll_none _ (List.mem_map_of_mem hp)⟩) BG (X₀.keeps st) (T.keeps st) (fun b hb => by
      rw [hfm] at hb
      rw [List.mem_singleton.mp hb]
      exact ⟨oL, es, ep, hLg, hLd⟩)) (fun fl s' hl => ?_) fun _ _ y => y
  obtain ⟨g', L', m', news', T', F', N', k⟩ := hl
  have nL₀ : h₀.get? L = none := kts_self F
  obtain ⟨sl, hs⟩ := T'.up hLg
  refine k ⟨⟨_, es, ep, F'.keep _ _ hs, hLd, hLk, hLf⟩, fun b o e => F'.keep b o (T'.other b o (st b o e) (fun q => by
    rw [hfm] at q
    rw [List.mem_singleton.mp q, nL₀] at e
    cases e)), F.above⟩ fun p hp => ⟨(N' p hp).1, fun q => ?_, ?_⟩
  · have := (N' p hp).2.2; rw [q, hs] at this; cases this
  · cases q : h₀.get? p.1 with
    | none => rfl
    | some o =>
      obtain ⟨sl', hs'⟩ := T'.up (st _ _ q)
      have := (N' p hp).2.2
      rw [hs'] at this
      cases this
end
end Mine
end
/- W11 -/
section
open PySem PySem.W PyProof.Rows PySem.Calls
set_option maxRecDepth 100000
set_option linter.unusedVariables false
namespace Mine
local macro_rules | `(tactic| k_all) => `(tactic| assumption)
local macro_rules | `(tactic| k_mem) => `(tactic| assumption)
local macro_rules | `(tactic| tbn_conj) => `(tactic| first | exact List.forall_mem_nil _ | (refine List.forall_mem_cons.mpr ⟨?_, ?_⟩; (focus (with_unfolding_all rfl)); tbn_conj))
local macro_rules | `(tactic| kqd_sub) => `(tactic| first | exact List.Sublist.refl _ | (refine List.Sublist.cons_cons _ ?_; kqd_sub) | (refine List.Sublist.cons _ ?_; kqd_sub))
local macro_rules | `(tactic| kd_addW) => `(tactic| first | exact UpdW.head | (refine' UpdW.tail ?b; (case b => kd_addW)))
local macro_rules | `(tactic| kd_addB) => `(tactic| first | exact UpdWF.head | (refine' UpdWF.tail ?b; (case b => kd_addB)))
local macro_rules | `(tactic| k_upd) => `(tactic| ((with_reducible rename NN _ => dN); exact updNN dN rfl (by kd_addW)))
local macro_rules | `(tactic| k_updF) => `(tactic| ((with_reducible rename NN _ => dN); exact updFNN dN rfl (by kd_addB)))
local macro_rules | `(tactic| w_means) => `(tactic| (refine permOf fun x => ?_; (try simp only [cnt_app, cnt_cons, cnt_nil]); omega))
theorem fill11 : ∀ (w : World) (h : Heap), (KF w.params).In h → PySem.Challenge.rw_bu5045_01.row.prog = PySem.Challenge.rw_bu5045_01.row.prog := by
  k_fill; intros; rfl
local macro_rules | `(tactic| walk_at "call ref") => `(tactic| (k_here; (with_reducible show wpAny _ _ (call (Value.ref 278) [Value.ref _]) _ _ _); k_dflt (refine' match_walk _ _ _ _ _ _ _ _ _ _ _ _ _ _ _ _ _ _ _ _ _ ?B ?F ?X ?O ?C ?T ?f ?k ?N ?D ?l ?e ?ok ?cl ?q ?r; (case B => k_asm); (case F => k_asm); (case X => k_asm); (case O => assumption); (case C => assumption); (case T => k_asm); (case f => rfl); (case k => rfl); (case N => k_asm); (case D => assumption); (case l => assumption); (case e => assumption); (case ok => assumption); (case cl => assumption))))
set_option maxHeartbeats 8000000 in
theorem law_matched : ∀ (w : World) (A₀ : Around) (base h₀ : Heap) (L : Addr) (m : Str → Option Value) (env : Env) (E : Value → Shared → Prop) (s : Shared) (mean : ExcName → Option Value) (mg mb : Str → Option Value)
    (ln dl tl : Addr) (n2 : Nat) (g : Nat → Tok) (zs : List Z) (rest : List (Addr × Obj)) (Q : Value → Shared → Prop),
    Below A₀ base [] h₀ → Fr h₀ L s.heap m → (KF w.params).In h₀ → (KF w.params).In base → FzAt base 269 opS → FzAt base 271 clS → Top qv (looseW qv lz) mean mg mb h₀ → Top qv (looseW qv lz) mean mg mb base → env.frame = some L → env.scope.kind = .function →
    News h₀ L s.heap ((ln, instObj 525 dl) :: (dl, dictOf (lineE w g tl) 3) :: (tl, listOf ((ts zs).map Value.ref).toArray n2) :: (Led w zs ++ rest)) → NN ((ln, instObj 525 dl) :: (dl, dictOf (lineE w g tl) 3) :: (tl, listOf ((ts zs).map Value.ref).toArray n2) :: (Led w zs ++ rest)) →
    zs.length ≤ 10 → elB 0 zs → (∀ z ∈ zs, OkZ w z) → (∀ z ∈ zs, ∀ v, valueAt z.kv CB = some v → ∃ y ∈ zs, v = .ref y.x) →
    (∀ h' tk' zs' b, zs'.map Z.stat = zs.map Z.stat → ((b = true ∧ ∃ stk', run zs zs.length = some (zs', stk')) ∨ (b = false ∧ ∃ i stk', i < zs.length ∧ run zs i = some (zs', stk') ∧ mPre i zs' stk' = none)) → Fr h₀ L h' m → News h₀ L h' ((ln, instObj 525 dl) :: (dl, dictOf (lineE w g tl) 3) :: (tl, listOf ((ts zs).map Value.ref).toArray n2) :: (Led w zs' ++ rest)) → NN ((ln, instObj 525 dl) :: (dl, dictOf (lineE w g tl) 3) :: (tl, listOf ((ts zs).map Value.ref).toArray n2) :: (Led w zs' ++ rest)) → Q (.bool b) { s with heap := h', toks := tk' }) →
    wpAny (model PySem.Challenge.rw_bu5045_01.row.prog w) (callerA.deeper env) (call (.ref 557) [.ref ln]) Q E s := by
  k_fill
  intro w A₀ base h₀ L m env E s mean mg mb ln dl tl n2 g zs rest Q B F X XB YO YC T TB hf hke N D hlen hel hok hcl hQ
  refine wpAny_call ?_
  refine' code_defS0g B F X N T ?kA hf hke ?k6 ?k7 ?k8 ?k9 ?kB ?_ ?c2 ?c3 ?c4 ?c5
  case kA => exact rfl
  case k6 => k_is
  case k7 => k_is
  case k8 => k_room
  case k9 => first | exact BindsTo.of_eq rfl | exact binds_K (by k_in) rfl (by k_is) rfl rfl rfl
  case kB => exact locs rfl
  case c2 => exact rfl
  case c3 => exact rfl
  case c4 => exact rfl
  case c5 => decide
  intro g' L' h' FG' F' N' B' X' T' D'
  k_steps
  · rename run _ _ = _ => hr
    rename NN _ => D4
    refine hQ _ _ _ true (run_stat zs _ _ hr) (Or.inl ⟨rfl, _, hr⟩) (by assumption) (by assumption) D4
  · rename Heap.NewExc _ _ _ _ => x4
    rename Below _ _ _ _ => K4
    rename News _ _ _ _ => N4
    rename Fr _ _ _ _ => F4
    rename Scope.kind _ = ScopeKind.function => hk4
    rename run _ _ = _ => hr
    rename mPre _ _ _ = _ => hp
    rename _ < zs.length => hi
    rename NN _ => D4
    refine leave_newS K4 x4 F4 N4 (fun h5 RS RN U => ?_) hk4
    k_steps
    exact hQ _ _ _ false (run_stat zs _ _ hr) (Or.inr ⟨rfl, _, _, hi, hr, hp⟩) (by assumption) (by assumption) D4
end Mine
end
/- W12 -/
section
open PySem PySem.W PyProof.Rows PySem.Calls
set_option maxRecDepth 100000
set_option linter.unusedVariables false
namespace Mine
local macro_rules | `(tactic| k_all) => `(tactic| assumption)
local macro_rules | `(tactic| k_mem) => `(tactic| assumption)
local macro_rules | `(tactic| tbn_conj) => `(tactic| first | exact List.forall_mem_nil _ | (refine List.forall_mem_cons.mpr ⟨?_, ?_⟩; (focus (with_unfolding_all rfl)); tbn_conj))
local macro_rules | `(tactic| kqd_sub) => `(tactic| first | exact List.Sublist.refl _ | (refine List.Sublist.cons_cons _ ?_; kqd_sub) | (refine List.Sublist.cons _ ?_; kqd_sub))
local macro_rules | `(tactic| kd_addW) => `(tactic| first | exact UpdW.head | (refine' UpdW.tail ?b; (case b => kd_addW)))
local macro_rules | `(tactic| kd_addB) => `(tactic| first | exact UpdWF.head | (refine' UpdWF.tail ?b; (case b => kd_addB)))
local macro_rules | `(tactic| k_upd) => `(tactic| ((with_reducible rename NN _ => dN); exact updNN dN rfl (by kd_addW)))
local macro_rules | `(tactic| k_updF) => `(tactic| ((with_reducible rename NN _ => dN); exact updFNN dN rfl (by kd_addB)))
local macro_rules | `(tactic| w_means) => `(tactic| (refine permOf fun x => ?_; (try simp only [cnt_app, cnt_cons, cnt_nil]); omega))
theorem fill12 : ∀ (w : World) (h : Heap), (KF w.params).In h → PySem.Challenge.rw_bu5045_01.row.prog = PySem.Challenge.rw_bu5045_01.row.prog := by
  k_fill; intros; rfl
local macro_rules | `(tactic| walk_at "subscriptTail") => `(tactic| (k_here; (with_reducible show wpAny _ _ (subscriptTail _ _ (Value.ref _) (Value.int _ _)) _ _ _); (with_unfolding_all refine' item_at ?N ?m ?x ?k ?f ?_ ?s; (case N => k_asm); (case m => k_mem); (case x => assumption); (case k => first | rfl | omega); (case f => omega); (case s => with_unfolding_all rfl); k_whole)))
local macro_rules | `(tactic| walk_at "exec For Name Call cons nil") => `(tactic| (k_here; (rename Fr _ _ _ _ => lF'); (with_unfolding_all refine' For_invVF lF' ?k1 ?k2 ?_; (case k1 => exact rfl); (case k2 => exact rfl); k_whole)))
local macro_rules | `(tactic| walk_at "pyIter ref") => `(tactic| fail "own")
local macro_rules | `(tactic| walk_at "Turn ret") => `(tactic| (refine Turn.ret ?_; try dsimp only))
theorem pack2 {a b : Addr} {P : Addr → Addr → Prop} (h : P a b) : ∃ x y, x = a ∧ y = b ∧ P x y := ⟨a, b, rfl, rfl, h⟩
theorem packO {a : Obj} {P : Obj → Prop} (h : P a) : ∃ x, x = a ∧ P x := ⟨a, rfl, h⟩
theorem len_V {prog : Program} {w : World} {A : Around} {E : Value → Shared → Prop} {s : Shared} {h₀ : Heap} {L : Addr} {news : List (Addr × Obj)} {l : Addr} {vs : List Value} {nn : Nat} {Q : Value → Shared → Prop} (N : News h₀ L s.heap news) (hm : (l, listOf vs.toArray nn) ∈ news) (hz : vs.length ≤ 1000) (h : Q (.int vs.length (s.toks + 1)) { s with toks := s.toks + 1 + 1 }) :
    wpAny (model prog w) A (call (.builtin "len") [.ref l]) Q E s := by
  have e : vs.toArray.size = vs.length := by simp
  exact Calls.call_len_list (items := vs.toArray) ⟨_, (N _ hm).1, rfl, _, rfl⟩ (by rw [e]; omega) (by rw [e]; exact h)
abbrev LV : List Str := ["a", "(", "[", "{", ")", "]", "}", ","]
theorem occ_op : ∀ v ∈ LV, (Builtin.Str.occurrences (Str.ofString "([{") v 0 (Str.ofString "([{").length 1).isEmpty = !decide (v ∈ opS) := by decide +kernel
theorem occ_cl : ∀ v ∈ LV, (Builtin.Str.occurrences (Str.ofString ")]}") v 0 (Str.ofString ")]}").length 1).isEmpty = !decide (v ∈ clS) := by decide +kernel
local macro_rules | `(tactic| walk_at "call builtin:len") => `(tactic| (k_here; (with_reducible show wpAny _ _ (call (Value.builtin "len") [Value.ref _]) _ _ _); k_dflt (refine' len_V ?N ?m ?z ?_; (case N => k_asm); (case m => k_mem); (case z => first | assumption | omega); k_whole)))
local macro_rules | `(tactic| walk_at "call builtin:list.append") => `(tactic| (k_here; (with_reducible show wpAny _ _ (call (Value.builtin _) [Value.ref _, _]) _ _ _); k_dflt (refine' append_V ?k1 ?k2 ?k3 ?z ?_; (case k1 => k_asm); (case k2 => k_asm); (case k3 => k_upd); (case z => first | assumption | omega); k_whole); intro h' F' N'; (try k_sweep)))
local macro_rules | `(tactic| walk_at "call builtin:list.pop") => `(tactic| (k_here; (with_reducible show wpAny _ _ (call (Value.builtin _) [Value.ref _]) _ _ _); k_dflt (refine' pop_V ?k1 ?k2 ?k3 ?z ?_; (case k1 => k_asm); (case k2 => k_asm); (case k3 => k_upd); (case z => first | assumption | omega); k_whole); intro h' F' N'; (try k_sweep)))
local macro_rules | `(tactic| walk_at "setItem ref int") => `(tactic| (k_here; k_dflt (refine' kda_set (knd := PySem.intKind _ _) ?F ?N ?U ?d (intKind_is _ _ _ _) ?z ?_; (case F => k_asm); (case N => k_asm); (case U => k_updF); (case d => k_asm); (case z => assumption)); intro h' o' F' N' hd'; (try dsimp only at N')))
def ssOf (l : List (Nat × Tok)) : List Value := l.map fun p => .int (p.1 : Int) p.2
def kvOf (l : List (Nat × Nat × Tok)) : List (Int × Value) := l.map fun p => ((p.1 : Int), .int (p.2.1 : Int) p.2.2)
/-- a row of strs -/
def StrsIn (vals : List Value) (vs : List Str) : Prop := vals.length = vs.length ∧ ∀ (i : Nat) (v : Str), vs[i]? = some v → ∃ t, vals[i]? = some (.str v t)
set_option maxHeartbeats 8000000 in
theorem law_pairs : ∀ (w : World) (A₀ A : Around) (base h₀ : Heap) (L : Addr) (m : Str → Option Value) (env : Env) (outer : List Env) (E : Value → Shared → Prop) (s : Shared) (mean : ExcName → Option Value) (mg mb : Str → Option Value)
    (rl : Addr) (vals : List Value) (vs : List Str) (nn : Nat) (rest : List (Addr × Obj)) (Q : Value → Shared → Prop),
    Below A₀ base outer h₀ → Fr h₀ L s.heap m → (KF w.params).In h₀ → Top qv (looseW qv lz) mean mg mb h₀ → A.frames = some (env :: outer) → env.frame = some L → env.scope.kind = .function → A.depth < recursionLimit → A.handled = none →
    News h₀ L s.heap ((rl, listOf vals.toArray nn) :: rest) → NN ((rl, listOf vals.toArray nn) :: rest) → StrsIn vals vs → (∀ v ∈ vs, v ∈ LV) → vs.length ≤ 10 →
    (∀ h' tk, prun vs vs.length = none → Fr h₀ L h' m → News h₀ L h' ((rl, listOf vals.toArray nn) :: rest) → Q .none { s with heap := h', toks := tk }) →
    (∀ h' tk pd op kl stk, prun vs vs.length = some (kl.map (fun p => (p.1, p.2.1)), stk) → Obj.IsDictOf (intKind PySem.Challenge.rw_bu5045_01.row.prog w) op (kvOf kl) → (pd == sysModules) = false → Fr h₀ L h' m → News h₀ L h' ((pd, op) :: ((rl, listOf vals.toArray nn) :: rest)) → NN ((pd, op) :: ((rl, listOf vals.toArray nn) :: rest)) → Q (.ref pd) { s with heap := h', toks := tk }) →
    wpAny (model PySem.Challenge.rw_bu5045_01.row.prog w) A (call (.ref 550) [.ref rl]) Q E s := by
  k_fill
  intro w A₀ A base h₀ L m env outer E s mean mg mb rl vals vs nn rest Q B F X T hA hf hke hroom hhd N D hv hLV hlen hQ1 hQ2
  have hsz : (vals.toArray.size : Int) ≤ 10 := by simp only [List.size_toArray]; rw [hv.1]; omega
  refine wpAny_call ?_
  refine' code_def B F X N T hA hf hke ?k6 ?k7 ?k8 ?k9 ?kB ?_ ?c2 ?c3 ?c4 ?c5
  case k6 => k_is
  case k7 => k_is
  case k8 => exact hroom
  case k9 => first | exact BindsTo.of_eq rfl | exact binds_K (by k_in) rfl (by k_is) rfl rfl rfl
  case kB => exact locs rfl
  case c2 => exact rfl
  case c3 => exact rfl
  case c4 => exact rfl
  case c5 => decide
  intro g' L' h' FG' F' N' B' X' T'
  k_steps
  rename Fr _ _ _ _ => lF
  rename News _ _ _ _ => lN
  rename IsRange _ _ _ _ _ _ _ _ => lR
  rename _ ∧ _ ∧ AllLt _ _ => lA
  rename _ ∧ AllLt _ _ => lB
  rename Obj.IsDictOf (intKind _ _) _ _ => hdk
  rename (_ == sysModules) = false => hlo
  obtain ⟨bs, pd, hb1, hb2, lA⟩ := pack2 (P := fun b d => d < b ∧ rl < b ∧ AllLt b rest) lA
  subst hb1
  subst hb2
  obtain ⟨op, ho, hdk⟩ := packO (P := fun o => Obj.IsDictOf (intKind PySem.Challenge.rw_bu5045_01.row.prog w) o []) hdk
  subst ho
  have D0 := NN.consAll (o := listOf #[] 0) (NN.consAll (o := op) D lB) lA
  have hszn : vals.toArray.size = vs.length := by simp only [List.size_toArray]; exact hv.1
  rw [hszn] at lR
  refine it_range (σ := Obj × List (Nat × Nat × Tok) × List (Nat × Tok) × Nat) (n := vs.length) (fun i c => Obj.IsDictOf (intKind PySem.Challenge.rw_bu5045_01.row.prog w) c.1 (kvOf c.2.1) ∧ prun vs i = some (c.2.1.map (fun p => (p.1, p.2.1)), c.2.2.1.map (·.1)))
    (fun c => (bs, listOf (ssOf c.2.2.1).toArray c.2.2.2) :: (pd, c.1) :: (rl, listOf vals.toArray nn) :: rest)
    (fun _ => [("row", .ref rl), ("pairs", .ref pd), ("still", .ref bs)]) (op, [], [], 0) hhd lR (small_one (by omega) (by omega) (by omega) (by omega)) (by first | exact rangeSize_nat _ _ | rfl) lF lN D0 ?k1 ⟨hdk, rfl⟩ ?turn ?done
  case k1 => tbn_conj
  case turn =>
    intro i t c u h tk0 I oI hi hJ F1 N1 D1
    obtain ⟨op', kl, sl, cap⟩ := c
    dsimp only at hJ F1 N1 D1
    obtain ⟨v, hvi⟩ : ∃ v, vs[i]? = some v := ⟨_, List.getElem?_eq_getElem hi⟩
    obtain ⟨tv, hvt⟩ := hv.2 i v hvi
    have hi10 : (i : Int) < 10 := by omega
    rw [Int.zero_add] at F1
    have ho1 := occ_op v (hLV v (List.mem_of_getElem? hvi))
    have ho2 := occ_cl v (hLV v (List.mem_of_getElem? hvi))
    have hI := prun_inv vs i _ hJ.2
    dsimp only at hI
    obtain ⟨hdk', hrun⟩ := hJ
    have hlens := prun_len vs i _ hrun
    dsimp only at hlens
    rw [List.length_map, List.length_map] at hlens
    have hsl : (ssOf sl).length ≤ 1000 := by unfold ssOf; rw [List.length_map]; omega
    have hkl : (kvOf kl).length ≤ sizeLine := by unfold kvOf; rw [List.length_map, sizeLine_eq]; omega
    by_cases hop : v ∈ opS
    · rw [decide_eq_true hop, Bool.not_true] at ho1
      k_steps
      rename Fr g' _ _ _ => F3
      rename News g' _ _ _ => N3
      have es : ssOf (sl ++ [(i, t)]) = ssOf sl ++ [Value.int (i : Int) t] := by simp [ssOf]
      refine Turn.next (op', kl, sl ++ [(i, t)], cap + 1) F3 (by rw [es]; exact N3) (NN.same D1 rfl) (by tbn_conj) ⟨hdk', ?_⟩
      show prun vs (i + 1) = _
      unfold prun; rw [hrun]; dsimp only; rw [hvi]; dsimp only; rw [if_pos hop, List.map_append]; rfl
    · rw [decide_eq_false hop, Bool.not_false] at ho1
      by_cases hcs : v ∈ clS
      · rw [decide_eq_true hcs, Bool.not_true] at ho2
        rcases List.eq_nil_or_concat sl with hnil | ⟨q, jt, hpj⟩
        · subst hnil
          k_steps
          refine hQ1 _ _ ?_ (by assumption) (News.sub (by assumption) (by kqd_sub))
          have hnn : prun vs (i + 1) = none := by
            unfold prun; rw [hrun]; dsimp only; rw [hvi]; dsimp only; rw [if_neg hop, if_pos hcs]; rfl
          have := prun_none vs (vs.length - (i + 1)) (i + 1) hnn
          rwa [show i + 1 + (vs.length - (i + 1)) = vs.length from by omega] at this
        · rw [List.concat_eq_append] at hpj
          subst hpj
          obtain ⟨j, tj⟩ := jt
          have es : ssOf (q ++ [(j, tj)]) = ssOf q ++ [Value.int (j : Int) tj] := by simp [ssOf]
          rw [es] at N1 D1 hsl
          have hoff : (j : Int) ∉ (kvOf kl).map (·.1) := fun hm => by
            obtain ⟨a, ha, ea⟩ := List.mem_map.mp hm
            obtain ⟨b, hb, rfl⟩ := List.mem_map.mp ha
            have ej : b.1 = j := Int.ofNat.inj ea
            exact hI.off (b.1, b.2.1) (List.mem_map.mpr ⟨b, hb, rfl⟩) (by rw [ej]; simp)
          have hst := stored_absent (valueAt_none_of_not_mem hoff) (Value.int (i : Int) t)
          k_steps
          · exfalso
            rename _ = (0 : Int) => h0
            rw [List.length_append, List.length_singleton] at h0
            omega
          · rename Fr g' _ _ _ => F3
            rename News g' _ _ _ => N3
            rename Obj.IsDictOf (intKind _ _) _ _ => hd3
            rw [hst] at hd3
            have ek : kvOf (kl ++ [(j, i, t)]) = kvOf kl ++ [((j : Int), Value.int (i : Int) t)] := by simp [kvOf]
            refine Turn.next (_, kl ++ [(j, i, t)], q, cap + 1) F3 N3 (NN.same D1 rfl) (by tbn_conj) ⟨by rw [ek]; exact hd3, ?_⟩
            show prun vs (i + 1) = _
            unfold prun; rw [hrun]; dsimp only; rw [hvi]; dsimp only; rw [if_neg hop, if_pos hcs]
            simp only [List.map_append, List.map_cons, List.map_nil, List.getLast?_append, List.getLast?_singleton, Option.some_or, List.dropLast_concat]
      · rw [decide_eq_false hcs, Bool.not_false] at ho2
        k_steps
        rename Fr g' _ _ _ => F3
        rename News g' _ _ _ => N3
        refine Turn.next (op', kl, sl, cap) F3 N3 D1 (by tbn_conj) ⟨hdk', ?_⟩
        show prun vs (i + 1) = _
        unfold prun; rw [hrun]; dsimp only; rw [hvi]; dsimp only; rw [if_neg hop, if_neg hcs]
  case done =>
    intro c u h tk0 hJ F1 N1 D1
    k_steps
    refine hQ2 _ _ pd c.1 c.2.1 _ hJ.2 hJ.1 hlo (by assumption) (News.sub (by assumption) (by kqd_sub)) D1.tail
end Mine
end
/- W13 -/
section
open PySem PySem.W PyProof.Rows PySem.Calls
set_option maxRecDepth 100000
set_option linter.unusedVariables false
namespace Mine
section
variable {prog : Program} {w : World} {A : Around} {E : Value → Shared → Prop} {s : Shared} {env : Env} {h₀ : Heap} {body : List Stmt} {Q : Flow → Shared → Prop} {σ : Type}
/-- what a turn of a loop over an enumerate must leave -/
def Turn2 (h₀ : Heap) (L : Addr) (J : σ → Prop) (Led : σ → List (Addr × Obj)) (ps : σ → List (Str × Value)) (own : List (Addr × Obj)) (s₁ : Shared) (Q : Flow → Shared → Prop) (f : Flow) (s₂ : Shared) : Prop :=
  match f with
  | .ret v => Q (.ret v) s₂
  | .brk => Q .next s₂
  | _ => ∃ h' tk m' c', s₂ = { s₁ with heap := h', toks := tk } ∧ Fr h₀ L h' m' ∧ News h₀ L h' (own ++ Led c') ∧ NN (own ++ Led c') ∧ (∀ p ∈ ps c', m' p.1 = some p.2) ∧ J c'
theorem Turn2.next {L : Addr} {J : σ → Prop} {Led : σ → List (Addr × Obj)} {ps : σ → List (Str × Value)} {own : List (Addr × Obj)} {s₁ : Shared} {h' : Heap} {tk : Nat} {m' : Str → Option Value} (c' : σ)
    (F : Fr h₀ L h' m') (N : News h₀ L h' (own ++ Led c')) (D : NN (own ++ Led c')) (hk : ∀ p ∈ ps c', m' p.1 = some p.2) (hj : J c') : Turn2 h₀ L J Led ps own s₁ Q .next { s₁ with heap := h', toks := tk } := ⟨h', tk, m', c', rfl, F, N, D, hk, hj⟩
theorem it_enum {elts : List Expr} {k : Nat} {pos : Pos} {l : Addr} {vs : List Value} {nn : Nat} {m₀ : Str → Option Value} (J : Nat → σ → Prop) (Led : σ → List (Addr × Obj)) (ps : σ → List (Str × Value)) (c₀ : σ)
    (hh : A.handled = none) (hl : ∀ i c, J i c → (l, listOf vs.toArray nn) ∈ Led c) (F : Fr h₀ env.locals s.heap m₀) (N : News h₀ env.locals s.heap (Led c₀)) (D : NN (Led c₀)) (hk : ∀ p ∈ ps c₀, m₀ p.1 = some p.2) (hj : J 0 c₀)
    (turn : ∀ i x (c : σ) u h tk T t e I oe oI, vs[i]? = some x → J i c → IsTup h T #[.int (i : Int) t, x] → Fr h₀ env.locals h (kstB u (ps c)) → News h₀ env.locals h ((e, oe) :: (I, oI) :: Led c) → NN ((e, oe) :: (I, oI) :: Led c) →
      wpAny (model prog w) A (assign (.Tuple elts k pos) env (.ref T)) (fun _ s₃ => wpAny (model prog w) A (execs body env) (Turn2 h₀ env.locals (J (i + 1)) Led ps [(e, oe), (I, oI)] { s with heap := h, toks := tk } Q) E s₃) E { s with heap := h, toks := tk })
    (done : ∀ (c : σ) u h tk, J vs.length c → Fr h₀ env.locals h (kstB u (ps c)) → News h₀ env.locals h (Led c) → NN (Led c) → Q .next { s with heap := h, toks := tk }) :
    wpAny (model prog w) A (call (.type "enumerate") [.ref l]) (fun xv s₁ => wpAny (model prog w) A (pyIter xv) (fun it s₂ => TurnsAt prog w A h₀ env (.Tuple elts k pos) body Q E it s₂) E s₁) E s := by
  have hl₀ := hl 0 c₀ hj
  have hax := N _ hl₀
  have hls : s.heap.IsList l vs.toArray := ⟨_, hax.1, rfl, nn, rfl⟩
  have hlt : l < s.heap.objs.size := Heap.lt_size hax.1
  have hLs : env.locals < s.heap.objs.size := F.ns.lt
  refine call_enumerate_list hls fun h' hE hI hsz hk' => ?_
  refine wpAny_pyIter_enum hE ?_
  have W := KTurns.ofWalksU (elts := elts) (k := k) (pos := pos) (WalksT.enumerate (prog := prog) (w := w) hh (s.heap.objs.size + 1) s.heap.objs.size l (Nat.succ_ne_self _) (ktu_ne 1 hlt) (Nat.ne_of_lt hlt) vs.toArray).toU
  have hvl : vs.toArray.size = vs.length := by simp
  rw [hvl] at W
  have off2 : ∀ b, b < s.heap.objs.size → b ∉ [s.heap.objs.size + 1, s.heap.objs.size] := fun b hb hm => by
    simp only [List.mem_cons, List.not_mem_nil, or_false] at hm
    rcases hm with e | e <;> omega
  refine ⟨_, _, _, vs.length, _, _, _, m₀, Led c₀, (fun i m nx => ∃ c, nx = Led c ∧ NN ((s.heap.objs.size + 1, default) :: (s.heap.objs.size, default) :: Led c) ∧ (∀ p ∈ ps c, m p.1 = some p.2) ∧ J i c), rfl, W, ?_, ?_, ?_, ?_, F.keeps hk', N.grown hk', ⟨c₀, rfl, ?_, hk, hj⟩, ?_, ?_⟩
  · intro hm
    simp only [List.mem_cons, List.not_mem_nil, or_false] at hm
    rcases hm with e | e | e
    · exact ktu_ne 1 hLs e
    · exact Nat.ne_of_lt hLs e
    · exact hax.2.1 e.symm
  · intro b hb
    simp only [List.mem_cons, List.not_mem_nil, or_false] at hb
    rcases hb with rfl | rfl
    · exact ktu_new F (Nat.le_add_right _ _)
    · exact ktu_new F (Nat.le_refl _)
  · intro p hp; exact off2 _ (Heap.lt_size (N p hp).1)
  · exact ⟨⟨.none, hE⟩, hI, hls.at fun o e => hk' l o e⟩
  · refine (D.cons fun q hq => Nat.ne_of_lt (Heap.lt_size (N q hq).1)).cons fun q hq => ?_
    rcases List.mem_cons.mp hq with rfl | hq
    · exact Nat.ne_of_lt (Nat.lt_succ_self _)
    · exact Nat.ne_of_lt (Nat.lt_succ_of_lt (Heap.lt_size (N q hq).1))
  · rintro i v m₁ nx h₁ tk₁ own hi ⟨T, vals, rfl, ⟨t, x, hx, rfl⟩, hT⟩ ⟨c, rfl, Dc, hkc, hJ⟩ hoff hown hget hall hst₁ F₁ N₁
    obtain ⟨⟨old, he⟩, ⟨oi, hoi, hic, _⟩, _⟩ := hst₁
    have he' : ∃ oe : Obj, h₁.get? (s.heap.objs.size + 1) = some oe := ⟨_, he⟩
    obtain ⟨oe, hoe⟩ := he'
    have m1 : (s.heap.objs.size + 1, oe) ∈ own := hall _ (by simp) (ktu_new F (Nat.le_add_right _ _)) oe hoe
    have m2 : (s.heap.objs.size, oi) ∈ own := hall _ (by simp) (ktu_new F (Nat.le_refl _)) oi hoi
    have N₂ : News h₀ env.locals h₁ ((s.heap.objs.size + 1, oe) :: (s.heap.objs.size, oi) :: Led c) := fun p hp => by
      rcases List.mem_cons.mp hp with rfl | hp
      · exact N₁ _ (List.mem_append_left _ m1)
      · rcases List.mem_cons.mp hp with rfl | hp
        · exact N₁ _ (List.mem_append_left _ m2)
        · exact N₁ p (List.mem_append_right _ hp)
    have F₂ : Fr h₀ env.locals h₁ (kstB m₁ (ps c)) := by rw [kst_self hkc]; exact F₁
    refine wpAny_mono (turn i x c m₁ h₁ tk₁ T t _ _ oe oi (by simpa using hx) hJ hT F₂ N₂ (Dc.same rfl)) (fun _ s₃ h₃ => wpAny_mono h₃ (fun f s₂ p => ?_) fun _ _ e => e) fun _ _ e => e
    have fin : (∃ h' tk' m' c', s₂ = { s with heap := h', toks := tk' } ∧ Fr h₀ env.locals h' m' ∧ News h₀ env.locals h' ([(s.heap.objs.size + 1, oe), (s.heap.objs.size, oi)] ++ Led c') ∧ NN ([(s.heap.objs.size + 1, oe), (s.heap.objs.size, oi)] ++ Led c') ∧ (∀ p ∈ ps c', m' p.1 = some p.2) ∧ J (i + 1) c') →
        LoopStepU h₀ env.locals [s.heap.objs.size + 1, s.heap.objs.size] own (fun m nx => ∃ c, nx = Led c ∧ NN ((s.heap.objs.size + 1, default) :: (s.heap.objs.size, default) :: Led c) ∧ (∀ p ∈ ps c, m p.1 = some p.2) ∧ J (i + 1) c) { s with heap := h₁, toks := tk₁ } .next s₂ := by
      rintro ⟨h', tk', m', c', e, F', N', D', hk', hJ'⟩
      refine ⟨rfl, h', tk', m', Led c', e, F', fun p hp => ?_, fun p hp hb => ?_, c', rfl, D'.same rfl, hk', hJ'⟩
      · rcases List.mem_append.mp hp with hp | hp
        · have hg := hget p hp
          have hf := hown p hp
          simp only [List.mem_cons, List.not_mem_nil, or_false] at hf
          rcases hf with e1 | e1 | e1
          · have : p = (s.heap.objs.size + 1, oe) := Prod.ext e1 (by rw [e1] at hg; exact Option.some.inj (hg.symm.trans hoe))
            rw [this]; exact N' _ (.head _)
          · have : p = (s.heap.objs.size, oi) := Prod.ext e1 (by rw [e1] at hg; exact Option.some.inj (hg.symm.trans hoi))
            rw [this]; exact N' _ (.tail _ (.head _))
          · have h1 := (N₁ _ (List.mem_append_right _ (hl i c hJ))).1
            have : p = (l, listOf vs.toArray nn) := Prod.ext e1 (by rw [e1] at hg; exact Option.some.inj (hg.symm.trans h1))
            rw [this]; exact N' _ (.tail _ (.tail _ (hl _ c' hJ')))
        · exact N' p (.tail _ (.tail _ hp))
      · simp only [List.mem_cons, List.not_mem_nil, or_false] at hb
        rcases hb with e1 | e1
        · exact D'.off p (.tail _ hp) e1
        · exact (NN.tail D').off p hp e1
    cases f with
    | ret v => exact p
    | brk => exact p
    | next => exact fin p
    | cont => exact fin p
  · rintro h' tk m' nx F' N' _ ⟨c, rfl, D', hk', hJ'⟩
    exact done c m' h' tk hJ' (by rw [kst_self hk']; exact F') N' D'.tail.tail
end
end Mine
end
/- W14 -/
section
open PySem PySem.W PyProof.Rows PySem.Calls
set_option maxRecDepth 100000
set_option linter.unusedVariables false
namespace Mine
local macro_rules | `(tactic| k_all) => `(tactic| assumption)
local macro_rules | `(tactic| k_mem) => `(tactic| assumption)
local macro_rules | `(tactic| tbn_conj) => `(tactic| first | exact List.forall_mem_nil _ | (refine List.forall_mem_cons.mpr ⟨?_, ?_⟩; (focus (with_unfolding_all rfl)); tbn_conj))
local macro_rules | `(tactic| kqd_sub) => `(tactic| first | exact List.Sublist.refl _ | (refine List.Sublist.cons_cons _ ?_; kqd_sub) | (refine List.Sublist.cons _ ?_; kqd_sub))
local macro_rules | `(tactic| kd_addW) => `(tactic| first | exact UpdW.head | (refine' UpdW.tail ?b; (case b => kd_addW)))
local macro_rules | `(tactic| kd_addB) => `(tactic| first | exact UpdWF.head | (refine' UpdWF.tail ?b; (case b => kd_addB)))
local macro_rules | `(tactic| k_upd) => `(tactic| ((with_reducible rename NN _ => dN); exact updNN dN rfl (by kd_addW)))
local macro_rules | `(tactic| k_updF) => `(tactic| ((with_reducible rename NN _ => dN); exact updFNN dN rfl (by kd_addB)))
local macro_rules | `(tactic| w_means) => `(tactic| (refine permOf fun x => ?_; (try simp only [cnt_app, cnt_cons, cnt_nil]); omega))
theorem fill14 : ∀ (w : World) (h : Heap), (KF w.params).In h → PySem.Challenge.rw_bu5045_01.row.prog = PySem.Challenge.rw_bu5045_01.row.prog := by
  k_fill; intros; rfl
abbrev SP : Str := "_yapf_annotation_split_penalty"
theorem catSP : (Str.ofString "_yapf_annotation_" ++ Str.ofString "split_penalty") = SP := by decide +kernel
local macro_rules | `(tactic| walk_at "compareOp In str ref") => `(tactic| (k_here; (with_reducible show wpAny _ _ (compareOp CmpOp.In (Value.str _ _) (Value.ref _)) _ _ _); k_dflt (refine' in_fz ?F ?S ?_; (case F => k_asm); (case S => assumption); k_whole)))
local macro_rules | `(tactic| walk_at "exec For Tuple Call cons nil") => `(tactic| (k_here; (rename Fr _ _ _ _ => lF'); (with_unfolding_all refine' For_turns lF' ?_; k_whole)))
local macro_rules | `(tactic| walk_at "call type:enumerate") => `(tactic| fail "own")
def CutU (Mid : Shared → Prop) (_ : Unit) (s' : Shared) : Prop := Mid s'
/-- the level after n tokens -/
def lev (vs : List Str) : Nat → Int
  | 0 => 0
  | n + 1 => lev vs n + (match vs[n]? with | none => 0 | some v => if v ∈ opS then 1 else if v ∈ clS then -1 else 0)
/-- what _AdjustSplitPenalty does not change -/
def Z.stat2 (z : Z) : Z := { z with on := default, kv := [] }
def Z.setN (z : Z) (o : Obj) (kv : List (Str × Value)) : Z := { z with on := o, kv := kv }
def OkY (w : World) (z : Z) : Prop := z.on.IsDictOf (PySem.strKind PySem.Challenge.rw_bu5045_01.row.prog w) z.kv ∧ (z.nt == sysModules) = false
def Adj (w : World) (vs : List Str) (i : Nat) (zs zs' : List Z) : Prop := zs'.map Z.stat2 = zs.map Z.stat2 ∧ (∀ z ∈ zs', OkY w z) ∧ ∀ (j : Nat) (z z' : Z), zs[j]? = some z → zs'[j]? = some z' →
  if j < i ∧ j ≠ 0 ∧ lev vs j = 0 then ∃ t, z'.kv = stored z.kv SP (.int 1000000 t) else z'.kv = z.kv
theorem adj_same {w : World} {vs : List Str} {i : Nat} {zs zs' : List Z} (h : Adj w vs i zs zs') (c : ¬ (i ≠ 0 ∧ lev vs i = 0)) : Adj w vs (i + 1) zs zs' := by
  refine ⟨h.1, h.2.1, fun j z z' hz hz' => ?_⟩
  have := h.2.2 j z z' hz hz'
  by_cases e : j = i
  · subst e
    rw [if_neg (by omega)] at this
    rw [if_neg (fun q => c q.2)]; exact this
  · by_cases q : j < i ∧ j ≠ 0 ∧ lev vs j = 0
    · rw [if_pos q] at this; rw [if_pos ⟨Nat.lt_succ_of_lt q.1, q.2⟩]; exact this
    · rw [if_neg q] at this; rw [if_neg (fun r => q ⟨by omega, r.2⟩)]; exact this
theorem up_mem (f : Z → Z) : ∀ (i : Nat) (zs : List Z) (y : Z), y ∈ up f i zs → y ∈ zs ∨ ∃ z, zs[i]? = some z ∧ y = f z
  | _, [], y, h => by simp [up] at h
  | 0, z :: r, y, h => by
    rcases List.mem_cons.mp h with rfl | h
    · exact .inr ⟨z, rfl, rfl⟩
    · exact .inl (.tail _ h)
  | n + 1, z :: r, y, h => by
    rcases List.mem_cons.mp h with rfl | h
    · exact .inl (.head _)
    · rcases up_mem f n r y h with h | ⟨q, hq, e⟩
      · exact .inl (.tail _ h)
      · exact .inr ⟨q, by simpa using hq, e⟩
theorem up_map {α : Type} (g : Z → α) (f : Z → Z) (hf : ∀ z, g (f z) = g z) : ∀ (i : Nat) (zs : List Z), (up f i zs).map g = zs.map g
  | _, [] => by simp [up]
  | 0, z :: r => by simp only [up, List.map_cons, hf]
  | n + 1, z :: r => by simp only [up, List.map_cons, up_map g f hf n r]
theorem adj_set {w : World} {vs : List Str} {i : Nat} {zs zs' : List Z} {z : Z} {o : Obj} {t : Tok} (h : Adj w vs i zs zs') (hz : zs'[i]? = some z) (c : i ≠ 0 ∧ lev vs i = 0)
    (ho : o.IsDictOf (PySem.strKind PySem.Challenge.rw_bu5045_01.row.prog w) (stored z.kv SP (.int 1000000 t))) : Adj w vs (i + 1) zs (up (fun q => q.setN o (stored z.kv SP (.int 1000000 t))) i zs') := by
  refine ⟨(up_map Z.stat2 _ (fun q => by unfold Z.setN Z.stat2; rfl) i zs').trans h.1, fun y hy => ?_, fun j y y' hy hy' => ?_⟩
  · rcases up_mem _ _ _ _ hy with hy | ⟨q, hq, rfl⟩
    · exact h.2.1 y hy
    · rw [hz] at hq; cases hq
      exact ⟨ho, (h.2.1 z (List.mem_of_getElem? hz)).2⟩
  · rw [up_get] at hy'
    by_cases e : i = j
    · subst e
      rw [if_pos rfl, hz] at hy'
      cases hy'
      have := h.2.2 i y z hy hz
      rw [if_neg (by omega)] at this
      rw [if_pos ⟨Nat.lt_succ_self _, c⟩]
      exact ⟨t, by show stored z.kv SP _ = _; rw [this]⟩
    · rw [if_neg e] at hy'
      have := h.2.2 j y y' hy hy'
      by_cases q : j < i ∧ j ≠ 0 ∧ lev vs j = 0
      · rw [if_pos q] at this; rw [if_pos ⟨Nat.lt_succ_of_lt q.1, q.2⟩]; exact this
      · rw [if_neg q] at this; rw [if_neg (fun r => q ⟨by omega, r.2⟩)]; exact this
theorem lev_le (vs : List Str) : ∀ i : Nat, lev vs i ≤ i ∧ -(i : Int) ≤ lev vs i
  | 0 => ⟨Int.le_refl _, Int.le_refl _⟩
  | n + 1 => by
    have := lev_le vs n
    have e : lev vs (n + 1) = lev vs n + (match vs[n]? with | none => 0 | some v => if v ∈ opS then 1 else if v ∈ clS then -1 else 0) := rfl
    rw [e]
    split
    · omega
    · split
      · omega
      · split <;> omega
theorem lev_op {vs : List Str} {i : Nat} {v : Str} (h : vs[i]? = some v) (c : v ∈ opS) : lev vs (i + 1) = lev vs i + 1 := by unfold lev; rw [h]; dsimp only; rw [if_pos c]; cases i <;> rfl
theorem lev_cl {vs : List Str} {i : Nat} {v : Str} (h : vs[i]? = some v) (c : v ∉ opS) (d : v ∈ clS) : lev vs (i + 1) = lev vs i - 1 := by unfold lev; rw [h]; dsimp only; rw [if_neg c, if_pos d]; cases i <;> rfl
theorem lev_no {vs : List Str} {i : Nat} {v : Str} (h : vs[i]? = some v) (c : v ∉ opS) (d : v ∉ clS) : lev vs (i + 1) = lev vs i := by
  have e : lev vs (i + 1) = lev vs i + (match vs[i]? with | none => 0 | some v => if v ∈ opS then 1 else if v ∈ clS then -1 else 0) := rfl
  rw [e, h]; dsimp only; rw [if_neg c, if_neg d]; omega
local macro_rules | `(tactic| walk_at "setItem ref str") => `(tactic| (k_here; (simp only [catSP]); k_dflt (refine' kda_set (knd := PySem.strKind _ _) ?F ?N ?U ?d (strKind_is _ _ _ _) ?z ?_; (case F => k_asm); (case N => k_asm); (case U => k_updF); (case d => k_asm); (case z => assumption)); intro h' o' F' N' hd'; (try dsimp only at N')))
set_option maxHeartbeats 8000000 in
theorem adjust : ∀ (w : World) (A₀ : Around) (base h₀ : Heap) (L : Addr) (m : Str → Option Value) (env : Env) (E : Value → Shared → Prop) (s : Shared) (mean : ExcName → Option Value) (mg mb : Str → Option Value)
    (ln dl tl : Addr) (n2 : Nat) (g : Nat → Tok) (zs : List Z) (rest : List (Addr × Obj)) (Q : Value → Shared → Prop),
    Below A₀ base [] h₀ → Fr h₀ L s.heap m → (KF w.params).In h₀ → FzAt base 269 opS → FzAt base 271 clS → Top qv (looseW qv lz) mean mg mb h₀ → env.frame = some L → env.scope.kind = .function →
    News h₀ L s.heap ((ln, instObj 525 dl) :: (dl, dictOf (lineE w g tl) 3) :: (tl, listOf ((ts zs).map Value.ref).toArray n2) :: (Led w zs ++ rest)) → NN ((ln, instObj 525 dl) :: (dl, dictOf (lineE w g tl) 3) :: (tl, listOf ((ts zs).map Value.ref).toArray n2) :: (Led w zs ++ rest)) →
    zs.length ≤ 10 → (∀ z ∈ zs, OkZ w z) →
    (∀ h' tk' zs', Adj w (zs.map (·.v)) zs.length zs zs' → Fr h₀ L h' m → News h₀ L h' ((ln, instObj 525 dl) :: (dl, dictOf (lineE w g tl) 3) :: (tl, listOf ((ts zs).map Value.ref).toArray n2) :: (Led w zs' ++ rest)) → NN ((ln, instObj 525 dl) :: (dl, dictOf (lineE w g tl) 3) :: (tl, listOf ((ts zs).map Value.ref).toArray n2) :: (Led w zs' ++ rest)) → Q .none { s with heap := h', toks := tk' }) →
    wpAny (model PySem.Challenge.rw_bu5045_01.row.prog w) (callerA.deeper env) (call (.ref 285) [.ref ln]) Q E s := by
  k_fill
  intro w A₀ base h₀ L m env E s mean mg mb ln dl tl n2 g zs rest Q B F X YO YC T hf hke N D hlen hok hQ
  refine wpAny_call ?_
  refine' code_def B F X N T ?kA hf hke ?k6 ?k7 ?k8 ?k9 ?kB ?_ ?c2 ?c3 ?c4 ?c5
  case kA => exact rfl
  case k6 => k_is
  case k7 => k_is
  case k8 => k_room
  case k9 => first | exact BindsTo.of_eq rfl | exact binds_K (by k_in) rfl (by k_is) rfl rfl rfl
  case kB => exact locs rfl
  case c2 => exact rfl
  case c3 => exact rfl
  case c4 => exact rfl
  case c5 => decide
  intro g' L' h' FG' F' N' B' X' T'
  have YO' := YO.keeps (Below.stays B')
  have YC' := YC.keeps (Below.stays B')
  k_steps
  rename Fr _ _ _ _ => lF
  rename News _ _ _ _ => lN

  refine it_enum (σ := List Z × Int × Tok) (vs := (ts zs).map Value.ref) (nn := n2) (fun i c => Adj w (zs.map (·.v)) i zs c.1 ∧ c.2.1 = lev (zs.map (·.v)) i)
    (fun c => (ln, instObj 525 dl) :: (dl, dictOf (lineE w g tl) 3) :: (tl, listOf ((ts zs).map Value.ref).toArray n2) :: (Led w c.1 ++ rest))
    (fun c => [("line", .ref ln), ("bracket_level", .int c.2.1 c.2.2)]) (zs, 0, ?tt) rfl (fun _ _ _ => .tail _ (.tail _ (.head _))) lF lN D ?k1 ?k2 ?turn ?done
  case k1 => tbn_conj
  case k2 => exact ⟨⟨rfl, fun z hz => ⟨(hok z hz).1, (hok z hz).2.1⟩, fun j z z' hz hz' => by rw [hz] at hz'; cases hz'; rw [if_neg (by omega)]⟩, rfl⟩
  case turn =>
    intro i x c u h tk0 T0 t0 I1 I2 o1 o2 hx hJ hT F1 N1 D1
    obtain ⟨zs1, bl, tb⟩ := c
    dsimp only at hJ F1 N1 D1
    obtain ⟨⟨hst2, hok1, hkv⟩, hbl⟩ := hJ
    have hi : i < zs.length := by
      have := (List.getElem?_eq_some_iff.mp hx).1
      simpa [ts] using this
    have hl1 : zs1.length = zs.length := by have := congrArg List.length hst2; simpa using this
    obtain ⟨z, hz⟩ : ∃ z, zs1[i]? = some z := ⟨_, List.getElem?_eq_getElem (by omega)⟩
    have hts : ts zs1 = ts zs := by
      have e : ∀ l : List Z, ts l = (l.map Z.stat2).map (·.t) := fun l => by simp only [ts, List.map_map]; rfl
      rw [e, e, hst2]
    have hxz : x = .ref z.t := by
      rw [← hts] at hx
      simpa [ts, hz] using hx.symm
    subst hxz
    obtain ⟨z0, hz0⟩ : ∃ z0, zs[i]? = some z0 := ⟨_, List.getElem?_eq_getElem hi⟩
    have hkv0 : z.kv = z0.kv := by
      have := hkv i z0 z hz0 hz
      rwa [if_neg (by omega)] at this
    have hv0 : z.v = z0.v := by
      have e : (zs1.map Z.stat2)[i]? = (zs.map Z.stat2)[i]? := by rw [hst2]
      rw [List.getElem?_map, List.getElem?_map, hz, hz0] at e
      exact (congrArg Z.v (Option.some.inj e : z.stat2 = z0.stat2) : z.stat2.v = z0.stat2.v)
    have hvi : (zs.map (·.v))[i]? = some z.v := by rw [List.getElem?_map, hz0, hv0]; rfl
    obtain ⟨hz1, hz2⟩ := hok1 z (List.mem_of_getElem? hz)
    have hz3 := (hok z0 (List.mem_of_getElem? hz0)).2.2
    obtain ⟨R, p1, p2⟩ := led1 w zs1 i z hz
    have pp : ((I1, o1) :: (I2, o2) :: (ln, instObj 525 dl) :: (dl, dictOf (lineE w g tl) 3) :: (tl, listOf ((ts zs).map Value.ref).toArray n2) :: (Led w zs1 ++ rest)).Perm
      (Mine.tk w z ++ ((I1, o1) :: (I2, o2) :: (ln, instObj 525 dl) :: (dl, dictOf (lineE w g tl) 3) :: (tl, listOf ((ts zs).map Value.ref).toArray n2) :: (R ++ rest))) := permOf fun x => by
        have := cnt_perm p1 x
        simp only [cnt_cons, cnt_app] at this ⊢; omega
    have N2 := News.perm N1 pp
    have D2 := D1.perm pp
    simp only [Mine.tk, List.cons_append, List.nil_append] at N2 D2
    clear N1
    have hkz : z.kv.length ≤ sizeLine := by rw [sizeLine_eq, hkv0]; omega
    refine wpAny_mono (Q := CutU fun s₃ => ∃ h3 tk3, s₃ = { s with heap := h3, toks := tk3 } ∧ Fr g' L' h3 (fun y => if y = "token" then some (.ref z.t) else if y = "index" then some (.int (i : Int) t0) else kstB u [("line", .ref ln), ("bracket_level", .int bl tb)] y) ∧
      News g' L' h3 ((z.c, listOf z.el.toArray z.en) :: (z.t, instObj 410 z.dt) :: (z.dt, dictOf (tokE w z.f z.x z.v z.kd z.nx z.pv z.M z.pa z.C z.c z.sb) 21) :: (z.nt, z.on) :: (z.x, instObj 214 z.d) :: (z.d, dictOf (leafE w z.fl z.v z.kd z.nt z.fx) 4) :: (I1, o1) :: (I2, o2) :: (ln, instObj 525 dl) :: (dl, dictOf (lineE w g tl) 3) :: (tl, listOf ((ts zs).map Value.ref).toArray n2) :: (R ++ rest))) ?_ ?_ (fun _ _ e => e)
    · k_steps
      exact ⟨_, _, rfl, by assumption, by assumption⟩
    rintro _ _ ⟨h3, tk3, rfl, F3, N3⟩
    clear F1 N2
    refine cut (Mid := fun s' => ∃ zs2 h' tk', s' = { s with heap := h', toks := tk' } ∧ Adj w (zs.map (·.v)) (i + 1) zs zs2 ∧ (∃ z2, zs2[i]? = some z2 ∧ z2.t = z.t ∧ z2.v = z.v) ∧ Fr g' L' h' (fun y => if y = "token" then some (.ref z.t) else if y = "index" then some (.int (i : Int) t0) else kstB u [("line", .ref ln), ("bracket_level", .int bl tb)] y) ∧
      News g' L' h' ((I1, o1) :: (I2, o2) :: (ln, instObj 525 dl) :: (dl, dictOf (lineE w g tl) 3) :: (tl, listOf ((ts zs).map Value.ref).toArray n2) :: (Led w zs2 ++ rest)) ∧
      NN ((I1, o1) :: (I2, o2) :: (ln, instObj 525 dl) :: (dl, dictOf (lineE w g tl) 3) :: (tl, listOf ((ts zs).map Value.ref).toArray n2) :: (Led w zs2 ++ rest))) ?_ ?_
    · k_steps
      all_goals rename Fr g' _ _ _ => F4
      all_goals rename News g' _ _ _ => N4
      all_goals first
        | exact ⟨rfl, zs1, _, _, rfl, adj_same ⟨hst2, hok1, hkv⟩ (by omega), ⟨z, hz, rfl, rfl⟩, F4, News.perm N4 pp.symm, D1⟩
        | skip
      rename Obj.IsDictOf _ _ (stored _ _ _) => hdo
      obtain ⟨o4, t9, hdo', N5⟩ : ∃ o4 t9, Obj.IsDictOf (PySem.strKind PySem.Challenge.rw_bu5045_01.row.prog w) o4 (stored z.kv SP (.int 1000000 t9)) ∧ News g' L' _ (Mine.tk w (z.setN o4 (stored z.kv SP (.int 1000000 t9))) ++ ((I1, o1) :: (I2, o2) :: (ln, instObj 525 dl) :: (dl, dictOf (lineE w g tl) 3) :: (tl, listOf ((ts zs).map Value.ref).toArray n2) :: (R ++ rest))) := ⟨_, _, hdo, N4⟩
      have pq : (Mine.tk w (z.setN o4 (stored z.kv SP (.int 1000000 t9))) ++ ((I1, o1) :: (I2, o2) :: (ln, instObj 525 dl) :: (dl, dictOf (lineE w g tl) 3) :: (tl, listOf ((ts zs).map Value.ref).toArray n2) :: (R ++ rest))).Perm
        ((I1, o1) :: (I2, o2) :: (ln, instObj 525 dl) :: (dl, dictOf (lineE w g tl) 3) :: (tl, listOf ((ts zs).map Value.ref).toArray n2) :: (Led w (up (fun q => q.setN o4 (stored z.kv SP (.int 1000000 t9))) i zs1) ++ rest)) := permOf fun x => by
          have := cnt_perm (p2 (fun q => q.setN o4 (stored z.kv SP (.int 1000000 t9)))) x
          simp only [cnt_cons, cnt_app] at this ⊢; omega
      have D5 := NN.same (b := Mine.tk w (z.setN o4 (stored z.kv SP (.int 1000000 t9))) ++ ((I1, o1) :: (I2, o2) :: (ln, instObj 525 dl) :: (dl, dictOf (lineE w g tl) 3) :: (tl, listOf ((ts zs).map Value.ref).toArray n2) :: (R ++ rest))) D2 rfl
      refine ⟨rfl, _, _, _, rfl, adj_set ⟨hst2, hok1, hkv⟩ hz (by omega) hdo', ⟨z.setN o4 (stored z.kv SP (.int 1000000 t9)), by rw [up_get, if_pos rfl, hz]; rfl, rfl, rfl⟩, F4, News.perm N5 pq, D5.perm pq⟩
    · rintro s' ⟨zs2, h4, tk4, rfl, hadj, ⟨z2, hz2', et, ev⟩, F4, N4, D4⟩
      rw [← et] at F4
      obtain ⟨R', p3, _⟩ := led1 w zs2 i z2 hz2'
      have pp' : ((I1, o1) :: (I2, o2) :: (ln, instObj 525 dl) :: (dl, dictOf (lineE w g tl) 3) :: (tl, listOf ((ts zs).map Value.ref).toArray n2) :: (Led w zs2 ++ rest)).Perm
        (Mine.tk w z2 ++ ((I1, o1) :: (I2, o2) :: (ln, instObj 525 dl) :: (dl, dictOf (lineE w g tl) 3) :: (tl, listOf ((ts zs).map Value.ref).toArray n2) :: (R' ++ rest))) := permOf fun x => by
          have := cnt_perm p3 x
          simp only [cnt_cons, cnt_app] at this ⊢; omega
      have N5 := News.perm N4 pp'
      have D5 := D4.perm pp'
      simp only [Mine.tk, List.cons_append, List.nil_append] at N5 D5
      clear N4 F3 N3 D2
      have hbb : bl < 100 ∧ -100 < bl := by have := lev_le (zs.map (·.v)) i; omega
      k_steps
      all_goals rename Fr g' _ _ _ => F6
      all_goals rename News g' _ _ _ => N6
      · rename z2.v ∈ opS => hop
        exact Turn2.next (zs2, bl + 1, _) F6 (News.perm N6 pp'.symm) D4 (by tbn_conj) ⟨hadj, by rw [lev_op hvi (ev ▸ hop), hbl]⟩
      · rename ¬ z2.v ∈ opS => hop
        rename z2.v ∈ clS => hcs
        exact Turn2.next (zs2, bl - 1, _) F6 (News.perm N6 pp'.symm) D4 (by tbn_conj) ⟨hadj, by rw [lev_cl hvi (ev ▸ hop) (ev ▸ hcs), hbl]⟩
      · rename ¬ z2.v ∈ opS => hop
        rename ¬ z2.v ∈ clS => hcs
        exact Turn2.next (zs2, bl, tb) F6 (News.perm N6 pp'.symm) D4 (by tbn_conj) ⟨hadj, by rw [lev_no hvi (ev ▸ hop) (ev ▸ hcs), hbl]⟩
  case done =>
    intro c u h tk0 hJ F1 N1 D1
    rw [show ((ts zs).map Value.ref).length = zs.length from by simp [ts]] at hJ
    k_steps
    exact hQ _ _ c.1 hJ.1 (by assumption) (by assumption) D1
end Mine
end
/- W15 -/
section
open PySem PySem.W PyProof.Rows PySem.Calls
set_option maxRecDepth 100000
set_option linter.unusedVariables false
namespace Mine
local macro_rules | `(tactic| k_all) => `(tactic| assumption)
local macro_rules | `(tactic| k_mem) => `(tactic| assumption)
local macro_rules | `(tactic| tbn_conj) => `(tactic| first | exact List.forall_mem_nil _ | (refine List.forall_mem_cons.mpr ⟨?_, ?_⟩; (focus (with_unfolding_all rfl)); tbn_conj))
local macro_rules | `(tactic| kqd_sub) => `(tactic| first | exact List.Sublist.refl _ | (refine List.Sublist.cons_cons _ ?_; kqd_sub) | (refine List.Sublist.cons _ ?_; kqd_sub))
local macro_rules | `(tactic| kd_addW) => `(tactic| first | exact UpdW.head | (refine' UpdW.tail ?b; (case b => kd_addW)))
local macro_rules | `(tactic| kd_addB) => `(tactic| first | exact UpdWF.head | (refine' UpdWF.tail ?b; (case b => kd_addB)))
local macro_rules | `(tactic| k_upd) => `(tactic| ((with_reducible rename NN _ => dN); exact updNN dN rfl (by kd_addW)))
local macro_rules | `(tactic| k_updF) => `(tactic| ((with_reducible rename NN _ => dN); exact updFNN dN rfl (by kd_addB)))
local macro_rules | `(tactic| w_means) => `(tactic| (refine permOf fun x => ?_; (try simp only [cnt_app, cnt_cons, cnt_nil]); omega))
theorem fill15 : ∀ (w : World) (h : Heap), (KF w.params).In h → PySem.Challenge.rw_bu5045_01.row.prog = PySem.Challenge.rw_bu5045_01.row.prog := by
  k_fill; intros; rfl
local macro_rules | `(tactic| walk_at "exec For Tuple Call cons nil") => `(tactic| (k_here; (rename Fr _ _ _ _ => lF'); (with_unfolding_all refine' For_turns lF' ?_; k_whole)))
local macro_rules | `(tactic| walk_at "call type:enumerate") => `(tactic| fail "own")
theorem truthy_V {prog : Program} {w : World} {A : Around} {E : Value → Shared → Prop} {s : Shared} {h₀ : Heap} {L : Addr} {news : List (Addr × Obj)} {l : Addr} {vs : List Value} {nn : Nat} {b : Bool} {Q : Bool → Shared → Prop} (N : News h₀ L s.heap news) (hm : (l, listOf vs.toArray nn) ∈ news) (hz : vs.length ≤ 1000) (hb : vs.isEmpty = !b) (h : Q b { s with toks := s.toks + 1 + 1 }) :
    wpAny (model prog w) A (truthy (.ref l)) Q E s := by
  have e : vs.toArray.size = vs.length := by simp
  refine wpAny_truthy_list (items := vs.toArray) ⟨_, (N _ hm).1, rfl, _, rfl⟩ (by rw [e]; omega) ?_
  rw [List.isEmpty_toArray, hb, Bool.not_not]; exact h
theorem pick1 (a : Value) (l : List Value) : kms_pick (List.toArray (a :: l)).toList (some 1) none = l := by
  show ((a :: l).drop (min 1 (l.length + 1))).take ((l.length + 1) - min 1 (l.length + 1)) = l
  rw [Nat.min_eq_left (by omega)]
  show l.take (l.length + 1 - 1) = l
  rw [Nat.add_sub_cancel]; exact List.take_length
local macro_rules | `(tactic| walk_at "truthy ref") => `(tactic| (k_here; (with_reducible show wpAny _ _ (truthy (Value.ref _)) _ _ _); k_dflt (refine' truthy_V ?N ?m ?z ?b ?_; (case N => k_asm); (case m => k_mem); (case z => first | assumption | omega | exact Nat.zero_le _); (case b => first | assumption | rfl); k_whole)))
local macro_rules | `(tactic| walk_at "subscriptTail") => `(tactic| (k_here; (with_reducible show wpAny _ _ (subscriptTail _ _ (Value.ref _) (Value.int _ _)) _ _ _); (with_unfolding_all refine' item_at ?N ?m ?x ?k ?f ?_ ?s; (case N => k_asm); (case m => k_mem); (case x => assumption); (case k => first | rfl | omega); (case f => omega); (case s => with_unfolding_all rfl); k_whole)))
theorem fits1000 {vs : List Value} (h : vs.length ≤ 1000) : vs.toArray.size ≤ sizeLine := by rw [sizeLine_eq, List.size_toArray]; omega
local macro_rules | `(tactic| walk_at "subscriptTail Name Slice ref ref") => `(tactic| (k_here; (with_reducible show wpAny _ _ (subscriptTail _ (PySem.Expr.Slice _ _ none _) (Value.ref _) (Value.ref _)) _ _ _); k_dflt (refine' kms_slice_lit ?F ?N ?l ?p ?q ?e ?_ ?s ?t ?z; (case F => k_asm); (case N => k_asm); (case l => kmk_list); (case p => kmk_part); (case q => kmk_part); (case e => exact pick1 _ _); (case s => with_unfolding_all rfl); (case t => kmk_pure); (case z => exact fits1000 (by assumption))); intro D' h' F' N' l1; (replace l1 := allLt_of l1); (try k_sweep)))
/-- what LogicalLine does not change -/
def Z.stat3 (z : Z) : Z := { z with nx := .none, pv := .none }
set_option maxHeartbeats 8000000 in
theorem mk_line : ∀ (w : World) (A₀ : Around) (base h₀ : Heap) (L : Addr) (m : Str → Option Value) (env : Env) (E : Value → Shared → Prop) (s : Shared) (mean : ExcName → Option Value) (mg mb : Str → Option Value)
    (tl : Addr) (n2 : Nat) (tk : Tok) (zs : List Z) (rest : List (Addr × Obj)) (Q : Value → Shared → Prop),
    At w A₀ base h₀ L m env [] mean mg mb s.heap → News h₀ L s.heap ((tl, listOf ((ts zs).map Value.ref).toArray n2) :: (Led w zs ++ rest)) → NN ((tl, listOf ((ts zs).map Value.ref).toArray n2) :: (Led w zs ++ rest)) → zs.length ≤ 10 →
    (∀ h' tk' ln dl tl' n2' zs' g, zs'.map Z.stat3 = zs.map Z.stat3 → Fr h₀ L h' m → News h₀ L h' ((ln, instObj 525 dl) :: (dl, dictOf (lineE w g tl') 3) :: (tl', listOf ((ts zs).map Value.ref).toArray n2') :: (Led w zs' ++ rest)) → NN ((ln, instObj 525 dl) :: (dl, dictOf (lineE w g tl') 3) :: (tl', listOf ((ts zs).map Value.ref).toArray n2') :: (Led w zs' ++ rest)) → Q (.ref ln) { s with heap := h', toks := tk' }) →
    wpAny (model PySem.Challenge.rw_bu5045_01.row.prog w) (callerA.deeper env) (call (.ref 525) [.int 0 tk, .ref tl]) Q E s := by
  intro w A₀ base h₀ L m env E s mean mg mb tl n2 tk zs rest Q C N D hlen hQ
  obtain ⟨B, F, X, T, hf, hke⟩ := C
  refine' call_cls F X N ?k4 ?k5 ?k6 ?_
  case k4 => k_is
  case k5 => k_is
  case k6 => k_is
  intro x' d' h' F' N' l1 l2
  have D1 := NN.consAll (a := x') (o := instObj 525 d') (NN.consAll (a := d') (o := dictOf [] 0) D (allLt_of l1)) (AllLt.two l2 (allLt_of l1))
  replace l1 := allLt_of l1
  k_lt2 l2
  k_sweep
  refine' code_def B F' X N' T ?kA hf hke ?k6 ?k7 ?k8 ?k9 ?kB ?_ ?c2 ?c3 ?c4 ?c5
  case kA => exact rfl
  case k6 => k_is
  case k7 => k_is
  case k8 => k_room
  case k9 => first | exact BindsTo.of_eq rfl | exact binds_K (by k_in) rfl (by k_is) rfl rfl rfl
  case kB => exact locs rfl
  case c2 => exact rfl
  case c3 => exact rfl
  case c4 => exact rfl
  case c5 => decide
  intro g' L' h' FG' F' N' B' X' T'
  have hts : ts zs = zs.map (·.t) := rfl
  obtain ⟨vs, hvs⟩ : ∃ vs, vs = (ts zs).map Value.ref := ⟨_, rfl⟩
  rw [← hvs] at N' D1 hQ
  have hvl : vs.length = zs.length := by rw [hvs]; simp [ts]
  rcases vs with _ | ⟨v0, vr⟩
  · have he : ([] : List Value).isEmpty = !false := rfl
    k_steps
    rename Fr h₀ _ _ _ => F9
    rename News h₀ _ _ _ => N9
    rename _ ∧ _ ∧ _ ∧ AllLt _ _ => lA
    obtain ⟨sl, gg, hA, F9, N9⟩ : ∃ sl gg, (x' < sl ∧ d' < sl ∧ tl < sl ∧ AllLt sl (Led w zs ++ rest)) ∧ Fr h₀ L _ m ∧ News h₀ L _ ((sl, listOf #[] 0) :: (x', instObj 525 d') :: (d', dictOf (lineE w gg sl) 3) :: (tl, listOf #[] n2) :: (Led w zs ++ rest)) := ⟨_, pk6 _ _ _ _ 0 0, lA, F9, N9⟩
    have D9 := NN.consAll (o := listOf #[] 0) D1 hA
    have pq : ((sl, listOf #[] 0) :: (x', instObj 525 d') :: (d', dictOf [] 0) :: (tl, listOf #[] n2) :: (Led w zs ++ rest)).Perm ((tl, listOf #[] n2) :: (x', instObj 525 d') :: (d', dictOf [] 0) :: (sl, listOf #[] 0) :: (Led w zs ++ rest)) := permOf fun x => by
      simp only [cnt_cons, cnt_app]; omega
    exact hQ _ _ x' d' sl 0 zs gg rfl F9 (News.sub (News.perm N9 (permOf fun x => by simp only [cnt_cons, cnt_app]; omega)) (List.sublist_cons_self (tl, listOf #[] n2) ((x', instObj 525 d') :: (d', dictOf (lineE w gg sl) 3) :: (sl, listOf #[] 0) :: (Led w zs ++ rest)))) (NN.same (D9.perm pq).tail rfl)
  · have he : (v0 :: vr).isEmpty = !true := rfl
    have hz10 : (v0 :: vr).length ≤ 1000 := by omega
    k_steps
    rename Fr g' _ _ _ => F9
    rename News g' _ _ _ => N9
    rename AllLt _ (_ :: _ :: _ :: _) => lA
    obtain ⟨sl, gg, hA, N9', esl⟩ : ∃ sl gg, AllLt sl ((x', instObj 525 d') :: (d', dictOf (lineE w gg tl) 3) :: (tl, listOf (List.toArray (v0 :: vr)) n2) :: (Led w zs ++ rest)) ∧ News g' L' _ ((sl, listOf vr.toArray 0) :: (x', instObj 525 d') :: (d', dictOf (lineE w gg tl) 3) :: (tl, listOf (List.toArray (v0 :: vr)) n2) :: (Led w zs ++ rest)) ∧ sl = _ := ⟨_, pk6 _ _ _ _ 0 0, lA, N9, rfl⟩
    subst esl
    have D9 := NN.consAll (o := listOf vr.toArray 0) (NN.same (b := (x', instObj 525 d') :: (d', dictOf (lineE w gg tl) 3) :: (tl, listOf (List.toArray (v0 :: vr)) n2) :: (Led w zs ++ rest)) D1 rfl) hA
    clear N9 lA D1
    refine it_enum (σ := List Z) (vs := vr) (nn := 0) (fun i c => c.map Z.stat3 = zs.map Z.stat3)
      (fun c => (sl, listOf vr.toArray 0) :: (x', instObj 525 d') :: (d', dictOf (lineE w gg tl) 3) :: (tl, listOf (List.toArray (v0 :: vr)) n2) :: (Led w c ++ rest))
      (fun c => [("self", .ref x')]) zs rfl (fun _ _ _ => .head _) F9 N9' D9 ?k1 rfl ?turn ?done
    case k1 => tbn_conj
    case turn =>
      intro i x c u h tk0 T0 t0 I1 I2 o1 o2 hx hJ hT F1 N1 D1
      have hl1 : c.length = zs.length := by have := congrArg List.length hJ; simpa using this
      have hi1 : i + 1 < zs.length := by
        have := (List.getElem?_eq_some_iff.mp hx).1
        rw [← hvl, List.length_cons]; omega
      obtain ⟨z, hz⟩ : ∃ z, c[i + 1]? = some z := ⟨_, List.getElem?_eq_getElem (by omega)⟩
      obtain ⟨y, hy⟩ : ∃ y, c[i]? = some y := ⟨_, List.getElem?_eq_getElem (by omega)⟩
      have htc : ts c = ts zs := by
        have e : ∀ l : List Z, ts l = (l.map Z.stat3).map (·.t) := fun l => by simp only [ts, List.map_map]; rfl
        rw [e, e, hJ]
      rw [← htc] at hvs
      have hxz : x = .ref z.t := by
        have : (v0 :: vr)[i + 1]? = some x := by simpa using hx
        rw [hvs] at this
        simpa [ts, hz] using this.symm
      subst hxz
      have hyv : (v0 :: vr)[i]? = some (.ref y.t) := by rw [hvs]; simp [ts, hy]
      have hi10 : (i : Int) < 10 := by omega
      obtain ⟨R, p1, p2⟩ := led2 w c (i + 1) i z y (by omega) hz hy
      have pp : ((I1, o1) :: (I2, o2) :: (sl, listOf vr.toArray 0) :: (x', instObj 525 d') :: (d', dictOf (lineE w gg tl) 3) :: (tl, listOf (List.toArray (v0 :: vr)) n2) :: (Led w c ++ rest)).Perm
        (Mine.tk w z ++ (Mine.tk w y ++ ((I1, o1) :: (I2, o2) :: (sl, listOf vr.toArray 0) :: (x', instObj 525 d') :: (d', dictOf (lineE w gg tl) 3) :: (tl, listOf (List.toArray (v0 :: vr)) n2) :: (R ++ rest)))) := permOf fun x => by
          have := cnt_perm p1 x
          simp only [cnt_cons, cnt_app] at this ⊢; omega
      have N2 := News.perm N1 pp
      have D2 := D1.perm pp
      simp only [Mine.tk, List.cons_append, List.nil_append] at N2 D2
      clear N1 F9 N9'
      k_steps
      rename Fr g' _ _ _ => F6
      rename News g' _ _ _ => N6
      have D6 := NN.same (b := Mine.tk w { z with pv := .ref y.t } ++ (Mine.tk w { y with nx := .ref z.t } ++ ((I1, o1) :: (I2, o2) :: (sl, listOf vr.toArray 0) :: (x', instObj 525 d') :: (d', dictOf (lineE w gg tl) 3) :: (tl, listOf (List.toArray (v0 :: vr)) n2) :: (R ++ rest)))) D2 rfl
      have pq : (Mine.tk w { z with pv := .ref y.t } ++ (Mine.tk w { y with nx := .ref z.t } ++ ((I1, o1) :: (I2, o2) :: (sl, listOf vr.toArray 0) :: (x', instObj 525 d') :: (d', dictOf (lineE w gg tl) 3) :: (tl, listOf (List.toArray (v0 :: vr)) n2) :: (R ++ rest)))).Perm
        ((I1, o1) :: (I2, o2) :: (sl, listOf vr.toArray 0) :: (x', instObj 525 d') :: (d', dictOf (lineE w gg tl) 3) :: (tl, listOf (List.toArray (v0 :: vr)) n2) :: (Led w (up (fun q => { q with pv := .ref y.t }) (i + 1) (up (fun q => { q with nx := .ref z.t }) i c)) ++ rest)) := permOf fun x => by
          have := cnt_perm (p2 (fun q => { q with pv := .ref y.t }) (fun q => { q with nx := .ref z.t })) x
          simp only [cnt_cons, cnt_app] at this ⊢; omega
      refine Turn2.next (up (fun q => { q with pv := .ref y.t }) (i + 1) (up (fun q => { q with nx := .ref z.t }) i c)) F6 (News.perm N6 pq) (D6.perm pq) (by tbn_conj) ?_
      exact (up_map Z.stat3 _ (fun q => by unfold Z.stat3; rfl) _ _).trans ((up_map Z.stat3 _ (fun q => by unfold Z.stat3; rfl) _ _).trans hJ)
    case done =>
      intro c u h tk0 hJ F1 N1 D1
      k_steps
      rename Fr h₀ _ _ _ => F5
      rename News h₀ _ _ _ => N5
      exact hQ _ _ x' d' tl n2 c gg hJ F5 (News.sub N5 (by kqd_sub)) D1.tail
end Mine
end
/- W20 -/
section
open PySem PySem.W PyProof.Rows PySem.Calls
set_option maxRecDepth 100000
set_option linter.unusedVariables false
namespace Mine
def bodyOf : Stmt → List Stmt
  | .FunctionDef _ _ b .. => b
  | _ => []
def scopeOf : Stmt → Option Scope
  | .FunctionDef _ _ _ _ _ _ sc .. => some sc
  | _ => none
/-- the law's own statements and names -/
def lawB : List Stmt := bodyOf (PySem.Challenge.rw_bu5045_01.row.prog.main.body.getD 33 (.Pass ⟨0,0,0,0⟩))
def lawS : Scope := (scopeOf (PySem.Challenge.rw_bu5045_01.row.prog.main.body.getD 33 (.Pass ⟨0,0,0,0⟩))).getD ⟨.function, [], false, false, []⟩
abbrev lawE (L fa : Addr) (cd : Value) (c1 c2 c3 c4 c5 c6 : Addr) : Env := envX "law" lawS L fa cd [("pairs", c6), ("within", c5), ("opening", c4), ("k", c3), ("row", c2), ("tokens", c1)]
theorem lawE_is (L fa : Addr) (cd : Value) : envOfC "law" lawS L fa cd = lawE L fa cd (L+1) (L+1+1) (L+1+1+1) (L+1+1+1+1) (L+1+1+1+1+1) (L+1+1+1+1+1+1) := by rfl
/-- the ground of a piece of the law's own frame -/
structure Gd (w : World) (A₀ : Around) (h₀ : Heap) (mean : ExcName → Option Value) (mg mb : Str → Option Value) : Prop where
  B : Below A₀ h₀ [] h₀
  X : (KF w.params).In h₀
  T : Top qv (looseW qv lz) mean mg mb h₀
  O : FzAt h₀ 269 opS
  C : FzAt h₀ 271 clS
/-- what stands at a place of the law's own frame: the map, the ledger, no address twice -/
structure Pl (h₀ : Heap) (L : Addr) (h : Heap) (ps : List (Str × Value)) (led : List (Addr × Obj)) : Prop where
  F : ∃ m, Fr h₀ L h m ∧ ∀ p ∈ ps, m p.1 = some p.2
  N : News h₀ L h led
  D : NN led
/-- the six cells -/
structure Cells (v1 v2 v3 v4 v5 v6 : Option Value) (o1 o2 o3 o4 o5 o6 : Obj) : Prop where
  d1 : o1.data = .cell v1
  d2 : o2.data = .cell v2
  d3 : o3.data = .cell v3
  d4 : o4.data = .cell v4
  d5 : o5.data = .cell v5
  d6 : o6.data = .cell v6
abbrev cellL (c1 c2 c3 c4 c5 c6 : Addr) (o1 o2 o3 o4 o5 o6 : Obj) : List (Addr × Obj) := [(c1, o1), (c2, o2), (c3, o3), (c4, o4), (c5, o5), (c6, o6)]
/-- the walk stops here -/
structure Stop (P : Prop) : Prop where
  go : P
theorem For_own {prog : Program} {w : World} {A : Around} {E : Value → Shared → Prop} {s : Shared} {h₀ : Heap} {env : Env} {x : Str} {body : List Stmt} {Q : Flow → Shared → Prop} {m : Str → Option Value} {px pos : Pos} {iter : Expr} (F : Fr h₀ env.locals s.heap m) (hx : env.kindOf x = some .local)
    (hp : (env.scope.kind == .class || (env.scope.kind == .module && env.locals != env.globals)) = false)
    (h : wpAny (model prog w) A (eval iter env) (fun xv s₁ => Stop (wpAny (model prog w) A (pyIter xv) (fun it s₂ => LoopAtV prog w A h₀ env x body Q E it s₂) E s₁)) E s)
    (hs : ∀ x, foldedSetIterable iter env x = pure x := by intro _; rfl)
    (hE : PassesOwn (model prog w) A env E := by passes_own) :
    wpAny (model prog w) A (exec (.For (.Name x px) iter body [] pos) env) Q E s :=
  For_invVF F hx hp (wpAny_mono h (fun _ _ q => q.go) fun _ _ e => e) hs
end Mine
end
/- W21 -/
section
open PySem PySem.W PyProof.Rows PySem.Calls
set_option maxRecDepth 100000
set_option linter.unusedVariables false
namespace Mine
local macro_rules | `(tactic| k_all) => `(tactic| assumption)
local macro_rules | `(tactic| k_mem) => `(tactic| assumption)
local macro_rules | `(tactic| tbn_conj) => `(tactic| first | exact List.forall_mem_nil _ | (refine List.forall_mem_cons.mpr ⟨?_, ?_⟩; (focus (with_unfolding_all rfl)); tbn_conj))
local macro_rules | `(tactic| kqd_sub) => `(tactic| first | exact List.Sublist.refl _ | (refine List.Sublist.cons_cons _ ?_; kqd_sub) | (refine List.Sublist.cons _ ?_; kqd_sub))
local macro_rules | `(tactic| kd_addW) => `(tactic| first | exact UpdW.head | (refine' UpdW.tail ?b; (case b => kd_addW)))
local macro_rules | `(tactic| kd_addB) => `(tactic| first | exact UpdWF.head | (refine' UpdWF.tail ?b; (case b => kd_addB)))
local macro_rules | `(tactic| k_upd) => `(tactic| ((with_reducible rename NN _ => dN); exact updNN dN rfl (by kd_addW)))
local macro_rules | `(tactic| k_updF) => `(tactic| ((with_reducible rename NN _ => dN); exact updFNN dN rfl (by kd_addB)))
local macro_rules | `(tactic| w_means) => `(tactic| (refine permOf fun x => ?_; (try simp only [cnt_app, cnt_cons, cnt_nil]); omega))
theorem fill21 : ∀ (w : World) (h : Heap), (KF w.params).In h → PySem.Challenge.rw_bu5045_01.row.prog = PySem.Challenge.rw_bu5045_01.row.prog := by
  k_fill; intros; rfl
theorem law_nextU {w : World} {A₀ A : Around} {base h₀ : Heap} {L : Addr} {m : Str → Option Value} {env : Env} {outer : List Env} {E : Value → Shared → Prop} {s : Shared} {mean : ExcName → Option Value} {mg mb : Str → Option Value}
    {st sl : Addr} {vs : List Value} {ns : List Int} {i lim : Int} {ti tl : Tok} {n1 n2 : Nat} {led : List (Addr × Obj)} {g : Obj → List (Addr × Obj)} {Q : Value → Shared → Prop}
    (B : Below A₀ base outer h₀) (F : Fr h₀ L s.heap m) (X : (KF w.params).In h₀) (T : Top qv (looseW qv lz) mean mg mb h₀) (hA : A.frames = some (env :: outer)) (hf : env.frame = some L) (hke : env.scope.kind = .function) (hroom : A.depth < recursionLimit)
    (N : News h₀ L s.heap led) (D : NN led) (U : UpdF st (listOf [.ref sl, .int i ti].toArray n1) led g) (hm : (sl, listOf vs.toArray n2) ∈ led) (hne : sl ≠ st) (hI : IntsAre vs ns) (hlen : ns.length ≤ 60) (hi0 : 0 ≤ i) (hi1 : i ≤ 1000) (hl0 : 0 < lim) (hl1 : lim ≤ 16)
    (hQ : ∀ e te h' tk t2, 0 ≤ e → e < lim → Fr h₀ L h' m → News h₀ L h' (g (listOf [.ref sl, .int (i + 1) t2].toArray n1)) → Q (.int e te) { s with heap := h', toks := tk }) :
    wpAny (model PySem.Challenge.rw_bu5045_01.row.prog w) A (call (.ref 543) [.ref st, .int lim tl]) Q E s := by
  obtain ⟨own, rest, rfl, hg, h1, h2⟩ := U.split
  have hm' : (sl, listOf vs.toArray n2) ∈ own ++ rest := by
    rcases List.mem_append.mp hm with h | h
    · exact List.mem_append_left _ h
    · rcases List.mem_cons.mp h with h | h
      · exact absurd (congrArg Prod.fst h) hne
      · exact List.mem_append_right _ h
  obtain ⟨R, hR⟩ : ∃ R, (own ++ rest).Perm ((sl, listOf vs.toArray n2) :: R) := by
    obtain ⟨a, b, e⟩ := List.append_of_mem hm'
    exact ⟨a ++ b, by rw [e]; exact List.perm_middle⟩
  have p1 : ∀ o, (own ++ (st, o) :: rest).Perm ((st, o) :: (sl, listOf vs.toArray n2) :: R) := fun o => List.perm_middle.trans (List.Perm.cons _ hR)
  have D' := D.perm (p1 _)
  refine law_next w A₀ A base h₀ L m env outer E s mean mg mb st sl vs ns i lim ti tl n1 n2 R Q B F X T hA hf hke hroom (News.perm N (p1 _)) hI hlen hi0 hi1 hl0 hl1 (fun e => hne e.symm)
    (fun p hp => D'.off p (.tail _ hp)) (fun p hp => D'.tail.off p hp) fun e te h' tk he0 he1 F' ⟨t2, N'⟩ => hQ e te h' tk t2 he0 he1 F' ?_
  rw [hg]
  exact News.perm N' (p1 _).symm
local macro_rules | `(tactic| walk_at "call ref") => `(tactic| (k_here; (with_reducible show wpAny _ _ (call (Value.ref 543) [Value.ref _, Value.int _ _]) _ _ _); k_dflt (refine' law_nextU ?B ?F ?X ?T ?A ?f ?k ?r ?N ?D ?U ?m ?n ?I ?l ?i ?j ?a ?b ?_; (case B => k_asm); (case F => k_asm); (case X => k_asm); (case T => k_asm); (case A => rfl); (case f => rfl); (case k => rfl); (case r => k_room); (case N => k_asm); (case U => k_updF); (case D => (with_reducible rename NN _ => dN); exact NN.same dN rfl); (case m => k_mem); (case n => assumption); (case I => assumption); (case l => omega); (case i => omega); (case j => omega); (case a => decide); (case b => decide); k_whole); intro e' te' h' tk' t2' hlo' hhi' F' N'; (try dsimp only at N'); (try k_sweep)))
set_option maxHeartbeats 8000000 in
theorem seg1 : ∀ (w : World) (A₀ : Around) (h₀ : Heap) (L fa : Addr) (cd : Value) (c1 c2 c3 c4 c5 c6 : Addr) (o1 o2 o3 o4 o5 o6 : Obj) (s : Shared) (mean : ExcName → Option Value) (mg mb : Str → Option Value)
    (sl : Addr) (vals : List Value) (ns : List Int) (Q : Flow → Shared → Prop) (rest : List Stmt),
    Gd w A₀ h₀ mean mg mb → Pl h₀ L s.heap [("script", .ref sl)] (cellL c1 c2 c3 c4 c5 c6 o1 o2 o3 o4 o5 o6) → Cells none none none none none none o1 o2 o3 o4 o5 o6 → h₀.IsList sl vals.toArray → IntsAre vals ns → ns.length ≤ 63 →
    (∀ h' tk td tl st sl' t2 ws ns' o1', Pl h₀ L h' [("told", .ref td), ("state", .ref st)] ((td, listOf (List.toArray []) 0) :: (tl, listOf (List.toArray []) 0) :: (st, listOf [.ref sl', .int 0 t2].toArray 0) :: (sl', listOf ws.toArray 0) :: cellL c1 c2 c3 c4 c5 c6 o1' o2 o3 o4 o5 o6) →
      Cells (some (.ref tl)) none none none none none o1' o2 o3 o4 o5 o6 → IntsAre ws ns' → ns'.length ≤ 60 → wpAny (model PySem.Challenge.rw_bu5045_01.row.prog w) (callerA.deeper (lawE L fa cd c1 c2 c3 c4 c5 c6)) (execs rest (lawE L fa cd c1 c2 c3 c4 c5 c6)) Q (fun _ _ => False) { s with heap := h', toks := tk }) →
    wpAny (model PySem.Challenge.rw_bu5045_01.row.prog w) (callerA.deeper (lawE L fa cd c1 c2 c3 c4 c5 c6)) (execs (lawB.take 3 ++ rest) (lawE L fa cd c1 c2 c3 c4 c5 c6)) Q (fun _ _ => False) s := by
  k_fill
  intro w A₀ h₀ L fa cd c1 c2 c3 c4 c5 c6 o1 o2 o3 o4 o5 o6 s mean mg mb sl vals ns Q rest ⟨B, X, T, _, _⟩ ⟨⟨m, F, hm⟩, N, D⟩ ⟨d1, d2, d3, d4, d5, d6⟩ hsl hI hlen hQ
  rw [← kst_self hm] at F
  have hB := @id (lawB.take 3 = _ :: _ :: _ :: []) rfl
  rw [hB]
  simp only [List.cons_append, List.nil_append]
  clear hB
  unfold cellL at *
  k_steps
  rename News h₀ _ _ _ => N9
  rename Fr h₀ _ _ _ => F9
  rename IntsAre _ (List.take _ _) => hI9
  rename Obj.data _ = Data.cell (some _) => d9
  rename _ < _ ∧ _ < _ ∧ _ < _ ∧ _ < _ ∧ _ < _ ∧ _ < _ => l1
  rename _ < _ ∧ _ < _ ∧ _ < _ ∧ _ < _ ∧ _ < _ ∧ _ < _ ∧ _ < _ => l2
  rename _ < _ ∧ _ < _ ∧ _ < _ ∧ _ < _ ∧ _ < _ ∧ _ < _ ∧ _ < _ ∧ _ < _ => l3
  rename _ < _ ∧ _ < _ ∧ _ < _ ∧ _ < _ ∧ _ < _ ∧ _ < _ ∧ _ < _ ∧ _ < _ ∧ _ < _ => l4
  refine hQ _ _ _ _ _ _ _ _ _ _ ⟨⟨_, F9, by tbn_conj⟩, N9, ?_⟩ ⟨d9, d2, d3, d4, d5, d6⟩ hI9 (by rw [List.length_take]; omega)
  refine NN.consAll (NN.consAll (NN.consAll (NN.consAll (NN.same D rfl) ?_) ?_) ?_) ?_ <;> (simp only [AllLt, and_true]; omega)
end Mine
end
/- W22 -/
section
open PySem PySem.W PyProof.Rows PySem.Calls
set_option maxRecDepth 100000
set_option linter.unusedVariables false
namespace Mine
local macro_rules | `(tactic| k_all) => `(tactic| assumption)
local macro_rules | `(tactic| k_mem) => `(tactic| assumption)
local macro_rules | `(tactic| tbn_conj) => `(tactic| first | exact List.forall_mem_nil _ | (refine List.forall_mem_cons.mpr ⟨?_, ?_⟩; (focus (with_unfolding_all rfl)); tbn_conj))
local macro_rules | `(tactic| kqd_sub) => `(tactic| first | exact List.Sublist.refl _ | (refine List.Sublist.cons_cons _ ?_; kqd_sub) | (refine List.Sublist.cons _ ?_; kqd_sub))
local macro_rules | `(tactic| kd_addW) => `(tactic| first | exact UpdW.head | (refine' UpdW.tail ?b; (case b => kd_addW)))
local macro_rules | `(tactic| kd_addB) => `(tactic| first | exact UpdWF.head | (refine' UpdWF.tail ?b; (case b => kd_addB)))
local macro_rules | `(tactic| k_upd) => `(tactic| ((with_reducible rename NN _ => dN); exact updNN dN rfl (by kd_addW)))
local macro_rules | `(tactic| k_updF) => `(tactic| ((with_reducible rename NN _ => dN); exact updFNN dN rfl (by kd_addB)))
local macro_rules | `(tactic| w_means) => `(tactic| (refine permOf fun x => ?_; (try simp only [cnt_app, cnt_cons, cnt_nil]); omega))
theorem fill22 : ∀ (w : World) (h : Heap), (KF w.params).In h → PySem.Challenge.rw_bu5045_01.row.prog = PySem.Challenge.rw_bu5045_01.row.prog := by
  k_fill; intros; rfl
def tupO (a : Str) (t : Tok) (k : Int) (u : Tok) : Obj := { cls := .type "tuple", data := .seq #[.str a t, .int k u] }
/-- the menu -/
def Menu (vals : List Value) (tups : List (Addr × Obj)) : Prop := vals.length = 8 ∧ ∀ (i : Nat) (v : Value), vals[i]? = some v → ∃ T a t k u, v = .ref T ∧ (T, tupO a t k u) ∈ tups ∧ a ∈ LV ∧ 0 ≤ k ∧ k < 50
theorem menu_nil : ∀ (i : Nat) (v : Value) (tups : List (Addr × Obj)), ([] : List Value)[i]? = some v → ∃ T a t k u, v = .ref T ∧ (T, tupO a t k u) ∈ tups ∧ a ∈ LV ∧ 0 ≤ k ∧ k < 50 := fun i v _ h => by simp at h
theorem menu_cons {vals : List Value} {tups : List (Addr × Obj)} {T : Addr} {a : Str} {t : Tok} {k : Int} {u : Tok} (h0 : (T, tupO a t k u) ∈ tups) (ha : a ∈ LV) (hk : 0 ≤ k ∧ k < 50) (h : ∀ (i : Nat) (v : Value), vals[i]? = some v → ∃ T a t k u, v = .ref T ∧ (T, tupO a t k u) ∈ tups ∧ a ∈ LV ∧ 0 ≤ k ∧ k < 50) :
    ∀ (i : Nat) (v : Value), (Value.ref T :: vals)[i]? = some v → ∃ T a t k u, v = .ref T ∧ (T, tupO a t k u) ∈ tups ∧ a ∈ LV ∧ 0 ≤ k ∧ k < 50
  | 0, v, e => by cases e; exact ⟨T, a, t, k, u, rfl, h0, ha, hk.1, hk.2⟩
  | i + 1, v, e => h i v (by simpa using e)
set_option maxHeartbeats 8000000 in
theorem law_values : ∀ (w : World) (A₀ : Around) (base h₀ : Heap) (L : Addr) (m : Str → Option Value) (env : Env) (E : Value → Shared → Prop) (s : Shared) (mean : ExcName → Option Value) (mg mb : Str → Option Value)
    (led : List (Addr × Obj)) (Q : Value → Shared → Prop),
    At w A₀ base h₀ L m env [] mean mg mb s.heap → News h₀ L s.heap led → NN led →
    (∀ h' tk V vals tups, Menu vals tups → Fr h₀ L h' m → News h₀ L h' ((V, listOf (List.toArray vals) 0) :: (led ++ tups)) → NN ((V, listOf (List.toArray vals) 0) :: (led ++ tups)) → Q (.ref V) { s with heap := h', toks := tk }) →
    wpAny (model PySem.Challenge.rw_bu5045_01.row.prog w) (callerA.deeper env) (call (.ref 536) []) Q E s := by
  k_fill
  intro w A₀ base h₀ L m env E s mean mg mb led Q ⟨B, F, X, T, hf, hke⟩ N D hQ
  refine wpAny_call ?_
  refine' code_def B F X N T ?kA hf hke ?k6 ?k7 ?k8 ?k9 ?kB ?_ ?c2 ?c3 ?c4 ?c5
  case kA => exact rfl
  case k6 => k_is
  case k7 => k_is
  case k8 => k_room
  case k9 => first | exact BindsTo.of_eq rfl | exact binds_K (by k_in) rfl (by k_is) rfl rfl rfl
  case kB => exact locs rfl
  case c2 => exact rfl
  case c3 => exact rfl
  case c4 => exact rfl
  case c5 => decide
  intro g' L' h' FG' F' N' B' X' T'
  k_steps
  rename Fr h₀ _ _ _ => F9
  rename News h₀ _ _ _ => N9
  rename ∀ p ∈ led, p.1 < _ => m0
  rename _ < _ ∧ AllLt _ _ => m1
  rename _ < _ ∧ _ < _ ∧ AllLt _ _ => m2
  rename _ < _ ∧ _ < _ ∧ _ < _ ∧ AllLt _ _ => m3
  rename _ < _ ∧ _ < _ ∧ _ < _ ∧ _ < _ ∧ AllLt _ _ => m4
  rename _ < _ ∧ _ < _ ∧ _ < _ ∧ _ < _ ∧ _ < _ ∧ AllLt _ _ => m5
  rename _ < _ ∧ _ < _ ∧ _ < _ ∧ _ < _ ∧ _ < _ ∧ _ < _ ∧ AllLt _ _ => m6
  rename _ < _ ∧ _ < _ ∧ _ < _ ∧ _ < _ ∧ _ < _ ∧ _ < _ ∧ _ < _ ∧ AllLt _ _ => m7
  rename _ < _ ∧ _ < _ ∧ _ < _ ∧ _ < _ ∧ _ < _ ∧ _ < _ ∧ _ < _ ∧ _ < _ ∧ AllLt _ _ => m8
  have D9 := NN.consAll (o := default) (NN.consAll (o := default) (NN.consAll (o := default) (NN.consAll (o := default) (NN.consAll (o := default) (NN.consAll (o := default) (NN.consAll (o := default) (NN.consAll (o := default) (NN.consAll (o := default) D (allLt_of m0)) m1) m2) m3) m4) m5) m6) m7) m8
  have pp : ∀ (v a1 a2 a3 a4 a5 a6 a7 a8 : Addr × Obj), (v :: a1 :: a2 :: a3 :: a4 :: a5 :: a6 :: a7 :: a8 :: led).Perm (v :: (led ++ [a1, a2, a3, a4, a5, a6, a7, a8])) := fun v a1 a2 a3 a4 a5 a6 a7 a8 =>
    List.Perm.cons v (List.perm_append_comm (l₁ := [a1, a2, a3, a4, a5, a6, a7, a8]) (l₂ := led))
  have N10 := News.perm N9 (pp _ _ _ _ _ _ _ _ _)
  refine hQ _ _ _ [_, _, _, _, _, _, _, _] _ ⟨rfl, ?_⟩ F9 N10 (NN.same (D9.perm (pp _ _ _ _ _ _ _ _ _)) (by simp only [List.map_cons, List.map_append, List.map_nil]))
  refine menu_cons (List.Mem.tail _ (List.Mem.tail _ (List.Mem.tail _ (List.Mem.tail _ (List.Mem.tail _ (List.Mem.tail _ (List.Mem.tail _ (List.Mem.head _)))))))) (by decide) (by decide) ?_
  refine menu_cons (List.Mem.tail _ (List.Mem.tail _ (List.Mem.tail _ (List.Mem.tail _ (List.Mem.tail _ (List.Mem.tail _ (List.Mem.head _))))))) (by decide) (by decide) ?_
  refine menu_cons (List.Mem.tail _ (List.Mem.tail _ (List.Mem.tail _ (List.Mem.tail _ (List.Mem.tail _ (List.Mem.head _)))))) (by decide) (by decide) ?_
  refine menu_cons (List.Mem.tail _ (List.Mem.tail _ (List.Mem.tail _ (List.Mem.tail _ (List.Mem.head _))))) (by decide) (by decide) ?_
  refine menu_cons (List.Mem.tail _ (List.Mem.tail _ (List.Mem.tail _ (List.Mem.head _)))) (by decide) (by decide) ?_
  refine menu_cons (List.Mem.tail _ (List.Mem.tail _ (List.Mem.head _))) (by decide) (by decide) ?_
  refine menu_cons (List.Mem.tail _ (List.Mem.head _)) (by decide) (by decide) ?_
  refine menu_cons (List.Mem.head _) (by decide) (by decide) ?_
  exact fun i v => menu_nil i v _
end Mine
end
/- W23 -/
section
open PySem PySem.W PyProof.Rows PySem.Calls
set_option maxRecDepth 100000
set_option linter.unusedVariables false
namespace Mine
local macro_rules | `(tactic| k_all) => `(tactic| assumption)
local macro_rules | `(tactic| k_mem) => `(tactic| assumption)
local macro_rules | `(tactic| tbn_conj) => `(tactic| first | exact List.forall_mem_nil _ | (refine List.forall_mem_cons.mpr ⟨?_, ?_⟩; (focus (with_unfolding_all rfl)); tbn_conj))
local macro_rules | `(tactic| kqd_sub) => `(tactic| first | exact List.Sublist.refl _ | (refine List.Sublist.cons_cons _ ?_; kqd_sub) | (refine List.Sublist.cons _ ?_; kqd_sub))
local macro_rules | `(tactic| kd_addW) => `(tactic| first | exact UpdW.head | (refine' UpdW.tail ?b; (case b => kd_addW)))
local macro_rules | `(tactic| kd_addB) => `(tactic| first | exact UpdWF.head | (refine' UpdWF.tail ?b; (case b => kd_addB)))
local macro_rules | `(tactic| k_upd) => `(tactic| ((with_reducible rename NN _ => dN); exact updNN dN rfl (by kd_addW)))
local macro_rules | `(tactic| k_updF) => `(tactic| ((with_reducible rename NN _ => dN); exact updFNN dN rfl (by kd_addB)))
local macro_rules | `(tactic| w_means) => `(tactic| (refine permOf fun x => ?_; (try simp only [cnt_app, cnt_cons, cnt_nil]); omega))
theorem fill23 : ∀ (w : World) (h : Heap), (KF w.params).In h → PySem.Challenge.rw_bu5045_01.row.prog = PySem.Challenge.rw_bu5045_01.row.prog := by
  k_fill; intros; rfl
theorem item_menu {prog : Program} {w : World} {A : Around} {E : Value → Shared → Prop} {s : Shared} {h₀ : Heap} {L : Addr} {value slice : PySem.Expr} {V : Addr} {vals : List Value} {tups led : List (Addr × Obj)} {k : Int} {u : Tok} {Q : Value → Shared → Prop} (N : News h₀ L s.heap led) (hm : (V, listOf vals.toArray 0) ∈ led) (M : Menu vals tups) (hsub : ∀ p ∈ tups, p ∈ led) (h0 : 0 ≤ k) (h8 : k < 8)
    (h : ∀ T a t kd u', a ∈ LV → 0 ≤ kd → kd < 50 → News h₀ L s.heap ((T, tupO a t kd u') :: led) → Q (.ref T) s)
    (hs : subscripted slice false (.ref V) (.int k u) = operate [.ref V, .int k u] (getItem (.ref V) (.int k u)) := by with_unfolding_all rfl) :
    wpAny (model prog w) A (subscriptTail value slice (.ref V) (.int k u)) Q E s := by
  obtain ⟨v, hv⟩ : ∃ v, vals[k.toNat]? = some v := ⟨_, List.getElem?_eq_getElem (by rw [M.1]; omega)⟩
  obtain ⟨T, a, t, kd, u', rfl, hT, ha, hk0, hk1⟩ := M.2 _ _ hv
  refine item_at N hm hv (by omega) (by omega) (h T a t kd u' ha hk0 hk1 fun p hp => ?_) hs
  rcases List.mem_cons.mp hp with rfl | hp
  · exact N _ (hsub _ hT)
  · exact N p hp
local macro_rules | `(tactic| walk_at "call ref") => `(tactic| (k_here; (with_reducible show wpAny _ _ (call (Value.ref 543) [Value.ref _, Value.int _ _]) _ _ _); k_dflt (refine' law_nextU ?B ?F ?X ?T ?A ?f ?k ?r ?N ?D ?U ?m ?n ?I ?l ?i ?j ?a ?b ?_; (case B => k_asm); (case F => k_asm); (case X => k_asm); (case T => k_asm); (case A => rfl); (case f => rfl); (case k => rfl); (case r => k_room); (case N => k_asm); (case U => k_updF); (case D => (with_reducible rename NN _ => dN); exact NN.same dN rfl); (case m => k_mem); (case n => assumption); (case I => assumption); (case l => omega); (case i => omega); (case j => omega); (case a => decide); (case b => decide); k_whole); intro e' te' h' tk' t2' hlo' hhi' F' N'; (try dsimp only at N'); (try k_sweep)))
local macro_rules | `(tactic| walk_at "call ref") => `(tactic| (k_here; (with_reducible show wpAny _ _ (call (Value.ref 536) _) _ _ _); k_dflt (refine' law_values _ _ _ _ _ _ _ _ _ _ _ _ _ _ ?C ?N ?D ?_; (case C => exact ⟨by k_asm, by k_asm, by k_asm, by k_asm, rfl, rfl⟩); (case N => k_asm); (case D => (with_reducible rename NN _ => dN); exact NN.same dN rfl); k_whole); intro h' tk' V' vals' tups' hM' F' N' D'; (simp only [List.cons_append] at N' D'); (try k_sweep)))
local macro_rules | `(tactic| walk_at "subscriptTail") => `(tactic| (k_here; (with_reducible show wpAny _ _ (subscriptTail _ _ (Value.ref _) (Value.int _ _)) _ _ _); (with_unfolding_all refine' item_menu ?N ?m ?M ?u ?i ?j ?_ ?s; (case N => k_asm); (case M => assumption); (case m => k_mem); (case u => (intro p' hp'; repeat (first | exact List.mem_append_right _ hp' | apply List.Mem.tail))); (case i => assumption); (case j => assumption); (case s => with_unfolding_all rfl); k_whole); intro T' a' t' kd' u' ha' hk0' hk1' N'; (simp only [tupO] at N'); (try k_sweep)))
local macro_rules | `(tactic| walk_at "call ref") => `(tactic| (k_here; (with_reducible show wpAny _ _ (call (Value.ref 214) [Value.int _ _, Value.str _ _]) _ _ _); k_dflt (refine' mk_leaf _ _ _ _ _ _ _ _ _ _ _ _ _ _ _ _ _ _ ?C ?N ?D ?a ?b ?_; (case C => exact ⟨by k_asm, by k_asm, by k_asm, by k_asm, rfl, rfl⟩); (case N => k_asm); (case D => (with_reducible rename NN _ => dN); exact NN.same dN rfl); (case a => assumption); (case b => assumption); k_whole); intro h' tk' x' d' nt' fx' on' f' F' hs' ho' N' D'; (try k_sweep)))
local macro_rules | `(tactic| walk_at "call ref") => `(tactic| (k_here; (with_reducible show wpAny _ _ (call (Value.ref 410) [Value.ref _, Value.str _ _]) _ _ _); k_dflt (refine' mk_ft _ _ _ _ _ _ _ _ _ _ _ _ _ _ _ _ _ _ _ _ _ _ _ ?C ?N ?D ?o ?p ?l ?a ?b ?_; (case C => exact ⟨by k_asm, by k_asm, by k_asm, by k_asm, rfl, rfl⟩); (case N => k_asm); (case D => assumption); (case o => assumption); (case p => constructor); (case l => assumption); (case a => omega); (case b => omega); k_whole); intro h' tk' t' dt' c' pa' sb' f' F' N' D'; (try k_sweep)))
local macro_rules | `(tactic| walk_at "call builtin:list.append") => `(tactic| (k_here; (with_reducible show wpAny _ _ (call (Value.builtin _) [Value.ref _, _]) _ _ _); k_dflt (refine' append_V ?k1 ?k2 ?k3 ?z ?_; (case k1 => k_asm); (case k2 => k_asm); (case k3 => k_upd); (case z => first | assumption | omega); k_whole); intro h' F' N'; (try k_sweep)))
local macro_rules | `(tactic| walk_at "exec For Name Call cons nil") => `(tactic| (k_here; (rename Fr _ _ _ _ => lF'); (with_unfolding_all refine' For_own lF' ?k1 ?k2 ?_; (case k1 => exact rfl); (case k2 => exact rfl); k_whole)))
local macro_rules | `(tactic| walk_at "Turn ret") => `(tactic| (refine Turn.ret ?_; try dsimp only))
local macro_rules | `(tactic| kqd_sub) => `(tactic| exact List.sublist_append_left _ _)
theorem Led_snoc (w : World) (zs : List Z) (z : Z) : Led w (zs ++ [z]) = Led w zs ++ Mine.tk w z := by unfold Led; rw [List.flatMap_append, List.flatMap_singleton]
/-- a token just made -/
structure FreshZ (w : World) (z : Z) : Prop where
  v : z.v ∈ LV
  on : z.on.IsDictOf (PySem.strKind PySem.Challenge.rw_bu5045_01.row.prog w) z.kv
  kv : z.kv = []
  nt : (z.nt == sysModules) = false
  el : z.el = []
  M : z.M = .none
  C : z.C = .none
set_option maxHeartbeats 8000000 in
theorem seg2 : ∀ (w : World) (A₀ : Around) (h₀ : Heap) (L fa : Addr) (cd : Value) (c1 c2 c3 c4 c5 c6 : Addr) (o1 o2 o3 o4 o5 o6 : Obj) (s : Shared) (mean : ExcName → Option Value) (mg mb : Str → Option Value)
    (td tl st sl : Addr) (t2 : Tok) (ws : List Value) (ns : List Int) (Q : Flow → Shared → Prop) (rest : List Stmt),
    Gd w A₀ h₀ mean mg mb → Pl h₀ L s.heap [("told", .ref td), ("state", .ref st)] ((td, listOf (List.toArray []) 0) :: (tl, listOf (List.toArray []) 0) :: (st, listOf [.ref sl, .int 0 t2].toArray 0) :: (sl, listOf ws.toArray 0) :: cellL c1 c2 c3 c4 c5 c6 o1 o2 o3 o4 o5 o6) →
    Cells (some (.ref tl)) none none none none none o1 o2 o3 o4 o5 o6 → IntsAre ws ns → ns.length ≤ 60 →
    (∀ h' tk zs tv tn n1 n2, (∀ z ∈ zs, FreshZ w z) → IntsAre tv tn → tn.length = zs.length → zs.length ≤ 10 → (∀ t ∈ tn, 0 ≤ t ∧ t < 16) →
      Pl h₀ L h' [("told", .ref td)] ((td, listOf tv.toArray n2) :: (tl, listOf ((ts zs).map Value.ref).toArray n1) :: (cellL c1 c2 c3 c4 c5 c6 o1 o2 o3 o4 o5 o6 ++ Led w zs)) →
      wpAny (model PySem.Challenge.rw_bu5045_01.row.prog w) (callerA.deeper (lawE L fa cd c1 c2 c3 c4 c5 c6)) (execs rest (lawE L fa cd c1 c2 c3 c4 c5 c6)) Q (fun _ _ => False) { s with heap := h', toks := tk }) →
    wpAny (model PySem.Challenge.rw_bu5045_01.row.prog w) (callerA.deeper (lawE L fa cd c1 c2 c3 c4 c5 c6)) (execs ((lawB.drop 3).take 1 ++ rest) (lawE L fa cd c1 c2 c3 c4 c5 c6)) Q (fun _ _ => False) s := by
  k_fill
  intro w A₀ h₀ L fa cd c1 c2 c3 c4 c5 c6 o1 o2 o3 o4 o5 o6 s mean mg mb td tl st sl t2 ws ns Q rest ⟨B, X, T, _, _⟩ ⟨⟨m, F, hm⟩, N, D⟩ ⟨d1, d2, d3, d4, d5, d6⟩ hI hlen hQ
  rw [← kst_self hm] at F
  have hB := @id ((lawB.drop 3).take 1 = _ :: []) rfl
  rw [hB]
  simp only [List.cons_append, List.nil_append]
  clear hB
  unfold cellL at *
  have hne : sl ≠ st := fun e => D.tail.tail.off _ (.head _) e
  k_steps
  rename Fr h₀ _ _ _ => lF
  rename News h₀ _ _ _ => lN
  rename IsRange _ _ _ _ _ _ _ _ => lR
  rename (_ : Int) < 11 => he11
  rename 0 ≤ (_ : Int) => he0
  refine ⟨?_⟩
  obtain ⟨n, hn⟩ := Int.eq_ofNat_of_zero_le he0
  rw [hn] at lR
  rw [show (0 + 1 : Int) = 1 + 2 * (([] : List Z).length : Int) from rfl] at lN
  refine it_range (σ := List Z × List Value × List Int × Tok × Nat × Nat) (n := n) (fun i c => c.1.length = i ∧ (∀ z ∈ c.1, FreshZ w z) ∧ IntsAre c.2.1 c.2.2.1 ∧ c.2.2.1.length = i ∧ (∀ t ∈ c.2.2.1, 0 ≤ t ∧ t < 16))
    (fun c => (td, listOf c.2.1.toArray c.2.2.2.2.2) :: (tl, listOf ((ts c.1).map Value.ref).toArray c.2.2.2.2.1) :: (st, listOf (List.toArray [Value.ref sl, Value.int (1 + 2 * (c.1.length : Int)) c.2.2.2.1]) 0) :: (sl, listOf ws.toArray 0) :: (c1, o1) :: (c2, o2) :: (c3, o3) :: (c4, o4) :: (c5, o5) :: (c6, o6) :: Led w c.1)
    (fun _ => [("told", .ref td), ("state", .ref st)]) ([], [], [], _, 0, 0) rfl lR (small_one (by omega) (by omega) (by omega) (by omega)) (by first | exact rangeSize_nat _ _ | rfl) lF lN (NN.same D rfl) ?k1 ⟨rfl, (fun z hz => nomatch hz), .nil, rfl, (fun t ht => nomatch ht)⟩ ?turn ?done
  case k1 => tbn_conj
  case turn =>
    intro i t c u h tk0 I oI hi hJ F1 N1 D1
    obtain ⟨zs, tv, tn, ti, n1, n2⟩ := c
    dsimp only at hJ F1 N1 D1
    obtain ⟨hz, hfr, hti, htl, ht16⟩ := hJ
    have hzl : (zs.length : Int) ≤ 10 := by omega
    have hA1 : ((ts zs).map Value.ref).length ≤ 1000 := by simp only [ts, List.length_map]; omega
    have hA2 : tv.length ≤ 1000 := by have := hti.length; omega
    refine cut (Mid := fun s' => ∃ a ta kd tk t2 h' tk', s' = { s with heap := h', toks := tk' } ∧ a ∈ LV ∧ 0 ≤ kd ∧ kd < 50 ∧ Fr h₀ L h' (fun y => if y = "kind" then some (.int kd tk) else if y = "value" then some (.str a ta) else if y = "turn" then some (.int (0 + (i : Int)) t) else kstB u [("told", .ref td), ("state", .ref st)] y) ∧
      News h₀ L h' ((I, oI) :: (td, listOf tv.toArray n2) :: (tl, listOf ((ts zs).map Value.ref).toArray n1) :: (st, listOf (List.toArray [Value.ref sl, Value.int (1 + 2 * (zs.length : Int) + 1) t2]) 0) :: (sl, listOf ws.toArray 0) :: (c1, o1) :: (c2, o2) :: (c3, o3) :: (c4, o4) :: (c5, o5) :: (c6, o6) :: Led w zs)) ?_ ?_
    · k_steps
      rename Fr h₀ _ _ _ => F2
      rename News h₀ _ _ _ => N2
      rename _ ∈ LV => ha
      rename (_ : Int) < 50 => hk1
      rename 0 ≤ (_ : Int) => hk0
      exact ⟨rfl, _, _, _, _, _, _, _, rfl, ha, hk0, hk1, F2, News.sub N2 (by kqd_sub)⟩
    · rintro s' ⟨a, ta, kd, tk, t2, h', tk', rfl, ha, hk0, hk1, F2, N2⟩
      clear F1 N1
      k_steps
      rename Fr h₀ _ _ _ => F3
      rename News h₀ _ _ _ => N3
      rename NN _ => D3
      rename (_ : Int) < 16 => he1
      rename 0 ≤ (_ : Int) => he0
      rename Obj.IsDictOf _ _ _ => ho3
      rename (_ == sysModules) = false => hs3
      obtain ⟨z, e, te, t3, hz3, he0, he1, N4, D4⟩ : ∃ z e te t3, FreshZ w z ∧ 0 ≤ e ∧ e < 16 ∧ News h₀ L _ (Mine.tk w z ++ ((I, oI) :: (td, listOf (tv ++ [Value.int e te]).toArray (n2 + 1)) :: (tl, listOf ((ts zs).map Value.ref ++ [Value.ref z.t]).toArray (n1 + 1)) :: (st, listOf (List.toArray [Value.ref sl, Value.int (1 + 2 * (zs.length : Int) + 1 + 1) t3]) 0) :: (sl, listOf ws.toArray 0) :: (c1, o1) :: (c2, o2) :: (c3, o3) :: (c4, o4) :: (c5, o5) :: (c6, o6) :: Led w zs)) ∧
          NN (Mine.tk w z ++ ((I, oI) :: (td, listOf (tv ++ [Value.int e te]).toArray (n2 + 1)) :: (tl, listOf ((ts zs).map Value.ref ++ [Value.ref z.t]).toArray (n1 + 1)) :: (st, listOf (List.toArray [Value.ref sl, Value.int (1 + 2 * (zs.length : Int) + 1 + 1) t3]) 0) :: (sl, listOf ws.toArray 0) :: (c1, o1) :: (c2, o2) :: (c3, o3) :: (c4, o4) :: (c5, o5) :: (c6, o6) :: Led w zs)) :=
        ⟨⟨_, _, _, _, _, _, _, _, _, _, _, _, _, .none, .none, .none, .none, _, [], [], 0⟩, _, _, _, ⟨ha, ho3, rfl, hs3, rfl, rfl, rfl⟩, he0, he1, N3, NN.same D3 rfl⟩
      have el : (1 + 2 * (zs.length : Int) + 1 + 1) = 1 + 2 * ((zs ++ [z]).length : Int) := by rw [List.length_append, List.length_singleton]; omega
      have et : (ts zs).map Value.ref ++ [Value.ref z.t] = (ts (zs ++ [z])).map Value.ref := by simp [ts]
      rw [el, et] at N4 D4
      have pp : (Mine.tk w z ++ ((I, oI) :: (td, listOf (tv ++ [Value.int e te]).toArray (n2 + 1)) :: (tl, listOf ((ts (zs ++ [z])).map Value.ref).toArray (n1 + 1)) :: (st, listOf (List.toArray [Value.ref sl, Value.int (1 + 2 * ((zs ++ [z]).length : Int)) t3]) 0) :: (sl, listOf ws.toArray 0) :: (c1, o1) :: (c2, o2) :: (c3, o3) :: (c4, o4) :: (c5, o5) :: (c6, o6) :: Led w zs)).Perm
        ((I, oI) :: (td, listOf (tv ++ [Value.int e te]).toArray (n2 + 1)) :: (tl, listOf ((ts (zs ++ [z])).map Value.ref).toArray (n1 + 1)) :: (st, listOf (List.toArray [Value.ref sl, Value.int (1 + 2 * ((zs ++ [z]).length : Int)) t3]) 0) :: (sl, listOf ws.toArray 0) :: (c1, o1) :: (c2, o2) :: (c3, o3) :: (c4, o4) :: (c5, o5) :: (c6, o6) :: Led w (zs ++ [z])) := by
          rw [Led_snoc]
          refine permOf fun x => ?_
          simp only [cnt_cons, cnt_app]; omega
      refine Turn.next (zs ++ [z], tv ++ [Value.int e te], tn ++ [e], t3, n1 + 1, n2 + 1) F3 (News.perm N4 pp) (D4.perm pp) (by tbn_conj) ⟨?_, ?_, ksk_snoc hti, ?_, ?_⟩
      · show (zs ++ [z]).length = i + 1
        rw [List.length_append, hz, List.length_singleton]
      · intro y hy
        rcases List.mem_append.mp hy with hy | hy
        · exact hfr y hy
        · rw [List.mem_singleton.mp hy]; exact hz3
      · show (tn ++ [e]).length = i + 1
        rw [List.length_append, htl, List.length_singleton]
      · intro y hy
        rcases List.mem_append.mp hy with hy | hy
        · exact ht16 y hy
        · rw [List.mem_singleton.mp hy]; exact ⟨he0, he1⟩
  case done =>
    intro c u h tk hJ F1 N1 D1
    obtain ⟨zs, tv, tn, ti, n1, n2⟩ := c
    dsimp only at hJ F1 N1 D1
    obtain ⟨hz, hfr, hti, htl, ht16⟩ := hJ
    show wpAny _ _ (execs rest _) _ _ _
    refine hQ h tk zs tv tn n1 n2 hfr hti (by omega) (by omega) ht16 ⟨⟨_, F1, by tbn_conj⟩, News.sub N1 (by kqd_sub), NN.sub D1 (by kqd_sub)⟩
end Mine
end
/- W24 -/
section
open PySem PySem.W PyProof.Rows PySem.Calls
set_option maxRecDepth 100000
set_option linter.unusedVariables false
namespace Mine
/-- what the element of a comprehension must leave -/
def EltQ (h₀ : Heap) (L : Addr) (m : Str → Option Value) (s₀ : Shared) (led : List (Addr × Obj)) (J : List Value → Prop) (ys : List Value) (y : Value) (s' : Shared) : Prop :=
  ∃ h' tk', s' = { s₀ with heap := h', toks := tk' } ∧ Fr h₀ L h' m ∧ News h₀ L h' led ∧ J (ys ++ [y])
def SkipQ (h₀ : Heap) (L : Addr) (m : Str → Option Value) (s₀ : Shared) (led : List (Addr × Obj)) (J : List Value → Prop) (ys : List Value) (s' : Shared) : Prop :=
  ∃ h' tk', s' = { s₀ with heap := h', toks := tk' } ∧ Fr h₀ L h' m ∧ News h₀ L h' led ∧ J ys
theorem EltQ.intro {h₀ : Heap} {L : Addr} {m : Str → Option Value} {s₀ : Shared} {led : List (Addr × Obj)} {J : List Value → Prop} {ys : List Value} {y : Value} {h' : Heap} {tk' : Nat} (F : Fr h₀ L h' m) (N : News h₀ L h' led) (hj : J (ys ++ [y])) : EltQ h₀ L m s₀ led J ys y { s₀ with heap := h', toks := tk' } := ⟨h', tk', rfl, F, N, hj⟩
theorem SkipQ.intro {h₀ : Heap} {L : Addr} {m : Str → Option Value} {s₀ : Shared} {led : List (Addr × Obj)} {J : List Value → Prop} {ys : List Value} {h' : Heap} {tk' : Nat} (F : Fr h₀ L h' m) (N : News h₀ L h' led) (hj : J ys) : SkipQ h₀ L m s₀ led J ys { s₀ with heap := h', toks := tk' } := ⟨h', tk', rfl, F, N, hj⟩
theorem off3NN {I C D : Addr} {oI oC oD : Obj} {news : List (Addr × Obj)} (o : LCg.Off3 I C D news) (n : (@Ne Nat I C) ∧ (@Ne Nat I D) ∧ (@Ne Nat C D)) (d : NN news) : NN ((I, oI) :: (C, oC) :: (D, oD) :: news) := by
  refine NN.cons (NN.cons (NN.cons d fun p hp => (o.mem p hp).2.2) fun p hp => ?_) fun p hp => ?_
  · rcases List.mem_cons.mp hp with rfl | hp
    · exact n.2.2.symm
    · exact (o.mem p hp).2.1
  · rcases List.mem_cons.mp hp with rfl | hp
    · exact n.1.symm
    · rcases List.mem_cons.mp hp with rfl | hp
      · exact n.2.1.symm
      · exact (o.mem p hp).1
section
variable {prog : Program} {w : World} {A : Around} {E : Value → Shared → Prop} {s : Shared} {h₀ : Heap} {L : Addr} {m : Str → Option Value} {env : Env}
theorem comp_from {elt : Expr} {x : Str} {scope : Scope} {cl : List (Str × Addr)} {S : List (Addr × Obj) → Prop} {P : Nat → Value → Prop} {Fin : List Value → List (Addr × Obj) → Prop} {news : List (Addr × Obj)} (n : Nat) (J : Nat → List Value → Prop) (hS : S news) (hD : NN news)
    (turn : ∀ i v ys I oI C oC D m₂ h tk (E' : Value → Shared → Prop), i < n → P i v → J i ys → LCg.NsObj oC m₂ → m₂ x = some v → Fr h₀ L h m → News h₀ L h ((I, oI) :: (C, oC) :: (D, LCg.lst ys) :: news) → NN ((I, oI) :: (C, oC) :: (D, LCg.lst ys) :: news) →
      wpAny (model prog w) A (eval elt (compEnvC scope cl C env)) (EltQ h₀ L m s ((I, oI) :: (C, oC) :: (D, LCg.lst ys) :: news) (J (i + 1)) ys) E' { s with heap := h, toks := tk })
    (done : ∀ ys, J n ys → Fin ys news) : ∀ (k i : Nat) (ys : List Value), i + k = n → J i ys → LCg.CompRest prog w A h₀ L m env elt x scope cl s S P Fin k i ys news
  | 0, i, ys, e, hj => LCg.CompRest.zero (done ys (by rw [Nat.add_zero] at e; rw [← e]; exact hj))
  | k + 1, i, ys, e, hj => LCg.CompRest.succ fun v I oI C oC D m₂ h tk E' hv hC hx F N off ne =>
    wpAny_mono (turn i v ys I oI C oC D m₂ h tk E' (by omega) hv hj hC hx F N (off3NN off ne hD)) (fun y s' ⟨h', tk', e', F', N', j'⟩ => by
      subst e'
      exact LCg.CompEnd.intro F' N' news (fun _ hp => hp) off hS (comp_from n J hS hD turn done k (i + 1) (ys ++ [y]) (by omega) j')) fun _ _ e => e
theorem comp_inv {elt : Expr} {x : Str} {scope : Scope} {cl : List (Str × Addr)} {S : List (Addr × Obj) → Prop} {P : Nat → Value → Prop} {Fin : List Value → List (Addr × Obj) → Prop} {news : List (Addr × Obj)} {n : Nat} (J : Nat → List Value → Prop) (hS : S news) (hD : NN news) (h0 : J 0 [])
    (turn : ∀ i v ys I oI C oC D m₂ h tk (E' : Value → Shared → Prop), i < n → P i v → J i ys → LCg.NsObj oC m₂ → m₂ x = some v → Fr h₀ L h m → News h₀ L h ((I, oI) :: (C, oC) :: (D, LCg.lst ys) :: news) → NN ((I, oI) :: (C, oC) :: (D, LCg.lst ys) :: news) →
      wpAny (model prog w) A (eval elt (compEnvC scope cl C env)) (EltQ h₀ L m s ((I, oI) :: (C, oC) :: (D, LCg.lst ys) :: news) (J (i + 1)) ys) E' { s with heap := h, toks := tk })
    (done : ∀ ys, J n ys → Fin ys news) : LCg.CompRest prog w A h₀ L m env elt x scope cl s S P Fin n 0 [] news := comp_from n J hS hD turn done n 0 [] (Nat.zero_add n) h0
theorem comp_fromT {ct elt : Expr} {x : Str} {scope : Scope} {cl : List (Str × Addr)} {S : List (Addr × Obj) → Prop} {P : Nat → Value → Prop} {Fin : List Value → List (Addr × Obj) → Prop} {news : List (Addr × Obj)} (n : Nat) (J : Nat → List Value → Prop) (hS : S news) (hD : NN news)
    (turn : ∀ i v ys I oI C oC D m₂ h tk (E' : Value → Shared → Prop), i < n → P i v → J i ys → LCg.NsObj oC m₂ → m₂ x = some v → Fr h₀ L h m → News h₀ L h ((I, oI) :: (C, oC) :: (D, LCg.lst ys) :: news) → NN ((I, oI) :: (C, oC) :: (D, LCg.lst ys) :: news) →
      wpAny (model prog w) A (isTrue ct (compEnvC scope cl C env) (eval ct (compEnvC scope cl C env))) (fun ok s' => if ok = true then
        wpAny (model prog w) A (eval elt (compEnvC scope cl C env)) (EltQ h₀ L m s ((I, oI) :: (C, oC) :: (D, LCg.lst ys) :: news) (J (i + 1)) ys) E' s'
        else SkipQ h₀ L m s ((I, oI) :: (C, oC) :: (D, LCg.lst ys) :: news) (J (i + 1)) ys s') E' { s with heap := h, toks := tk })
    (done : ∀ ys, J n ys → Fin ys news) : ∀ (k i : Nat) (ys : List Value), i + k = n → J i ys → LCt.CompRestT prog w A h₀ L m env ct elt x scope cl s S P Fin k i ys news
  | 0, i, ys, e, hj => LCt.CompRestT.zero (done ys (by rw [Nat.add_zero] at e; rw [← e]; exact hj))
  | k + 1, i, ys, e, hj => LCt.CompRestT.succ fun v I oI C oC D m₂ h tk E' hv hC hx F N off ne =>
    wpAny_mono (turn i v ys I oI C oC D m₂ h tk E' (by omega) hv hj hC hx F N (off3NN off ne hD)) (fun ok s' hs' => by
      cases ok with
      | true =>
        simp only [if_true] at hs' ⊢
        refine wpAny_mono hs' (fun y s' ⟨h', tk', e', F', N', j'⟩ => ?_) fun _ _ e => e
        subst e'
        exact LCg.CompEnd.intro F' N' news (fun _ hp => hp) off hS (comp_fromT n J hS hD turn done k (i + 1) (ys ++ [y]) (by omega) j')
      | false =>
        simp only [Bool.false_eq_true, if_false] at hs' ⊢
        obtain ⟨h', tk', e', F', N', j'⟩ := hs'
        subst e'
        exact LCg.CompEnd.intro F' N' news (fun _ hp => hp) off hS (comp_fromT n J hS hD turn done k (i + 1) ys (by omega) j')) fun _ _ e => e
theorem comp_invT {ct elt : Expr} {x : Str} {scope : Scope} {cl : List (Str × Addr)} {S : List (Addr × Obj) → Prop} {P : Nat → Value → Prop} {Fin : List Value → List (Addr × Obj) → Prop} {news : List (Addr × Obj)} {n : Nat} (J : Nat → List Value → Prop) (hS : S news) (hD : NN news) (h0 : J 0 [])
    (turn : ∀ i v ys I oI C oC D m₂ h tk (E' : Value → Shared → Prop), i < n → P i v → J i ys → LCg.NsObj oC m₂ → m₂ x = some v → Fr h₀ L h m → News h₀ L h ((I, oI) :: (C, oC) :: (D, LCg.lst ys) :: news) → NN ((I, oI) :: (C, oC) :: (D, LCg.lst ys) :: news) →
      wpAny (model prog w) A (isTrue ct (compEnvC scope cl C env) (eval ct (compEnvC scope cl C env))) (fun ok s' => if ok = true then
        wpAny (model prog w) A (eval elt (compEnvC scope cl C env)) (EltQ h₀ L m s ((I, oI) :: (C, oC) :: (D, LCg.lst ys) :: news) (J (i + 1)) ys) E' s'
        else SkipQ h₀ L m s ((I, oI) :: (C, oC) :: (D, LCg.lst ys) :: news) (J (i + 1)) ys s') E' { s with heap := h, toks := tk })
    (done : ∀ ys, J n ys → Fin ys news) : LCt.CompRestT prog w A h₀ L m env ct elt x scope cl s S P Fin n 0 [] news := comp_fromT n J hS hD turn done n 0 [] (Nat.zero_add n) h0
theorem LC_U {elt iter : Expr} {x : Str} {px : Pos} {scope : Scope} {cl : List (Str × Addr)} {pos : Pos} {Q : Value → Shared → Prop} (F₀ : Fr h₀ L s.heap m)
    (hclos : closureFor scope env = pure cl) (hcell : ∀ y ∈ scope.names, y.2 ≠ .cell) (hkind : scope.kind = .function)
    (hnames : ∀ y ∈ scope.names, y.2 = .local → scope.names.lookup y.1 = some .local) (hx : scope.names.lookup x = some .local)
    (h : wpAny (model prog w) A (eval iter env) (fun xv s₁ => Stop (LCg.CompSrc prog w A h₀ L m env elt x scope cl (fun s₂ => LCg.FinE h₀ L m s₂ Q) xv s₁)) E s)
    (hs : ∀ x, foldedSetIterable iter env x = pure x := by intro _; rfl) :
    wpAny (model prog w) A (eval (.ListComp elt [⟨.Name x px, iter, [], 0⟩] scope pos) env) Q E s :=
  LCg.ListComp_U F₀ hclos hcell hkind hnames hx (wpAny_mono h (fun _ _ q => q.go) fun _ _ e => e) hs
theorem LC_T {ct elt iter : Expr} {x : Str} {px : Pos} {scope : Scope} {cl : List (Str × Addr)} {pos : Pos} {Q : Value → Shared → Prop} (F₀ : Fr h₀ L s.heap m)
    (hclos : closureFor scope env = pure cl) (hcell : ∀ y ∈ scope.names, y.2 ≠ .cell) (hkind : scope.kind = .function)
    (hnames : ∀ y ∈ scope.names, y.2 = .local → scope.names.lookup y.1 = some .local) (hx : scope.names.lookup x = some .local)
    (h : wpAny (model prog w) A (eval iter env) (fun xv s₁ => Stop (LCt.CompSrcT prog w A h₀ L m env ct elt x scope cl (fun s₂ => LCg.FinE h₀ L m s₂ Q) xv s₁)) E s)
    (hs : ∀ x, foldedSetIterable iter env x = pure x := by intro _; rfl) :
    wpAny (model prog w) A (eval (.ListComp elt [⟨.Name x px, iter, [ct], 0⟩] scope pos) env) Q E s :=
  LCt.ListComp_T F₀ hclos hcell hkind hnames hx (wpAny_mono h (fun _ _ q => q.go) fun _ _ e => e) hs
theorem walks_weak {I : Addr} {fp wr : List Addr} {n : Nat} {P P' : Nat → Value → Prop} {St : Nat → Heap → Prop} (W : Walks prog w A I fp wr n P St) (hP : ∀ i v, P i v → P' i v) : Walks prog w A I fp wr n P' St :=
  { sub := W.sub, frame := W.frame, done := W.done, self := W.self, item := fun i s Q E hi st hQ => W.item i s Q E hi st fun v h' tk hp => hQ v h' tk (hP i v hp) }
/-- the same over a dict's keys -/
theorem LC_D {ct elt iter : Expr} {x : Str} {px : Pos} {scope : Scope} {cl : List (Str × Addr)} {pos : Pos} {Q : Value → Shared → Prop} (F₀ : Fr h₀ L s.heap m)
    (hclos : closureFor scope env = pure cl) (hcell : ∀ y ∈ scope.names, y.2 ≠ .cell) (hkind : scope.kind = .function)
    (hnames : ∀ y ∈ scope.names, y.2 = .local → scope.names.lookup y.1 = some .local) (hx : scope.names.lookup x = some .local)
    (h : wpAny (model prog w) A (eval iter env) (fun xv s₁ => Stop (∃ d o kvs news, xv = .ref d ∧ A.handled = none ∧ Fr h₀ L s₁.heap m ∧ News h₀ L s₁.heap news ∧ (d, o) ∈ news ∧ o.IsDictOf (intKind prog w) kvs ∧ (d == sysModules) = false ∧ kvs.length ≤ sizeLine ∧
      ∀ s₂ : Shared, (∃ h, s₂ = { s₁ with heap := h }) → LCt.CompRestT prog w A h₀ L m env ct elt x scope cl s₂ (fun nw => (d, o) ∈ nw) (fun i v => ∃ k t y, kvs[i]? = some (k, y) ∧ v = .int k t) (LCg.FinE h₀ L m s₂ Q) kvs.length 0 [] news)) E s)
    (hs : ∀ x, foldedSetIterable iter env x = pure x := by intro _; rfl) :
    wpAny (model prog w) A (eval (.ListComp elt [⟨.Name x px, iter, [ct], 0⟩] scope pos) env) Q E s := by
  rw [eval_ListComp]
  refine wpAny_comprehension_free (use := none) rfl hs hclos hkind hnames (wpAny_mono h (fun xv s₁ h₁ => ?_) fun _ _ e => e)
  obtain ⟨d, o, kvs, news, rfl, hh, F, N, hm, hd, lo, hsz, R⟩ := h₁.go
  obtain ⟨ep, ha⟩ := KdkAt.of hd
  have hat := ha.dictAt (N _ hm).1
  have hlt : d < s₁.heap.objs.size := Heap.lt_size (N _ hm).1
  refine wpAny_pyIter_dict lo hat ?_
  have up : ∀ b o, s₁.heap.get? b = some o → (s₁.heap.push { cls := .type "dict_keyiterator", data := .fields #[.ref d, .int 0 0, .int kvs.length 0, .int ep 0] }).get? b = some o := fun b o e => Heap.get?_push_of_some _ e
  have W := walks_weak (Walks.dictKeys (prog := prog) (w := w) (knd := intKind prog w) hh s₁.heap.objs.size d (Nat.ne_of_lt hlt) kvs ep) (P' := fun i v => ∃ k t y, kvs[i]? = some (k, y) ∧ v = .int k t) (fun i v ⟨k, y, e, hk⟩ => by
    obtain ⟨t, e'⟩ := Value.isInt_shape hk
    exact ⟨k, t, y, e, e'⟩)
  refine LCt.block_T W hsz (fun i h st => by obtain ⟨o, e, _⟩ := st.1; exact ⟨o, e⟩) (fun i h h' o' nw st e e' _ N' S => ⟨by obtain ⟨o₂, q, r⟩ := st.1; rw [e] at q; cases q; exact ⟨_, e', r⟩, ha.dictAt (N' _ S).1⟩) hcell hkind hx ⟨⟨_, Heap.get?_push_size _ rfl, rfl, rfl⟩, hat.push _⟩ (fun b hb => ?_)
    (F.keeps up) (N.grown up) (Nat.ne_of_lt F.ns.lt) (next_is_new F) (fun p hp => Nat.ne_of_lt (Heap.lt_size (N p hp).1)) hm (R _ ⟨_, rfl⟩) ?_
  · show b < (s₁.heap.push _).objs.size
    rw [Heap.size_push]
    rcases List.mem_cons.mp hb with rfl | hb
    · exact Nat.lt_succ_self _
    · rw [List.mem_singleton.mp hb]; exact Nat.lt_succ_of_lt hlt
  · intro D C h tk m' ys news' F' N' o1 hn hC₀ hD₀ hCL hDL hCD offC fin
    refine ⟨m', hn, fun h'' hs'' => fin D h'' tk (F'.change hs'' hCL hC₀) (fun p hp => ?_) o1⟩
    refine ⟨hs''.extBut _ _ ?_ (N' p hp).1, (N' p hp).2⟩
    rcases List.mem_cons.mp hp with rfl | hp
    · exact Ne.symm hCD
    · exact offC p hp
end
end Mine
end
/- W25 -/
section
open PySem PySem.W PyProof.Rows PySem.Calls
set_option maxRecDepth 100000
set_option linter.unusedVariables false
namespace Mine
local macro_rules | `(tactic| k_all) => `(tactic| assumption)
local macro_rules | `(tactic| k_mem) => `(tactic| assumption)
local macro_rules | `(tactic| tbn_conj) => `(tactic| first | exact List.forall_mem_nil _ | (refine List.forall_mem_cons.mpr ⟨?_, ?_⟩; (focus (with_unfolding_all rfl)); tbn_conj))
local macro_rules | `(tactic| kqd_sub) => `(tactic| first | exact List.Sublist.refl _ | (refine List.Sublist.cons_cons _ ?_; kqd_sub) | (refine List.Sublist.cons _ ?_; kqd_sub))
local macro_rules | `(tactic| kd_addW) => `(tactic| first | exact UpdW.head | (refine' UpdW.tail ?b; (case b => kd_addW)))
local macro_rules | `(tactic| kd_addB) => `(tactic| first | exact UpdWF.head | (refine' UpdWF.tail ?b; (case b => kd_addB)))
local macro_rules | `(tactic| k_upd) => `(tactic| ((with_reducible rename NN _ => dN); exact updNN dN rfl (by kd_addW)))
local macro_rules | `(tactic| k_updF) => `(tactic| ((with_reducible rename NN _ => dN); exact updFNN dN rfl (by kd_addB)))
local macro_rules | `(tactic| w_means) => `(tactic| (refine permOf fun x => ?_; (try simp only [cnt_app, cnt_cons, cnt_nil]); omega))
theorem fill25 : ∀ (w : World) (h : Heap), (KF w.params).In h → PySem.Challenge.rw_bu5045_01.row.prog = PySem.Challenge.rw_bu5045_01.row.prog := by
  k_fill; intros; rfl
local macro_rules | `(tactic| kqd_sub) => `(tactic| exact List.sublist_append_left _ _)
local macro_rules | `(tactic| walk_at "eval ListComp") => `(tactic| (k_here; k_dflt (first | refine LC_U (F₀ := by k_asm) (by with_unfolding_all rfl) (by decide) (by rfl) (by decide) (by rfl) ?_ | refine LC_T (F₀ := by k_asm) (by with_unfolding_all rfl) (by decide) (by rfl) (by decide) (by rfl) ?_)))
def rowV (zs : List Z) : List Value := zs.map fun z => .str z.v (z.f 25)
theorem rowV_in (zs : List Z) : StrsIn (rowV zs) (zs.map (·.v)) := ⟨by simp [rowV], fun i v h => by
  rw [List.getElem?_map, Option.map_eq_some_iff] at h
  obtain ⟨z, hz, rfl⟩ := h
  exact ⟨z.f 25, by simp [rowV, hz]⟩⟩
theorem off1NN {D : Addr} {o : Obj} {news : List (Addr × Obj)} (h : LCg.Off1 D news) (d : NN news) : NN ((D, o) :: news) := by
  refine d.cons fun p hp => ?_
  induction news with
  | nil => cases hp
  | cons q r ih =>
    rcases List.mem_cons.mp hp with rfl | hp
    · exact h.1
    · exact ih h.2 d.tail hp
set_option maxHeartbeats 8000000 in
theorem seg3 : ∀ (w : World) (A₀ : Around) (h₀ : Heap) (L fa : Addr) (cd : Value) (c1 c2 c3 c4 c5 c6 : Addr) (o1 o2 o3 o4 o5 o6 : Obj) (s : Shared) (mean : ExcName → Option Value) (mg mb : Str → Option Value)
    (td tl : Addr) (zs : List Z) (tv : List Value) (n1 n2 : Nat) (Q : Flow → Shared → Prop) (rest : List Stmt),
    Gd w A₀ h₀ mean mg mb → Pl h₀ L s.heap [("told", .ref td)] ((td, listOf tv.toArray n2) :: (tl, listOf ((ts zs).map Value.ref).toArray n1) :: (cellL c1 c2 c3 c4 c5 c6 o1 o2 o3 o4 o5 o6 ++ Led w zs)) →
    Cells (some (.ref tl)) none none none none none o1 o2 o3 o4 o5 o6 → zs.length ≤ 10 →
    (∀ h' tk rl o2', Pl h₀ L h' [("told", .ref td)] ((rl, listOf (rowV zs).toArray zs.length) :: (td, listOf tv.toArray n2) :: (tl, listOf ((ts zs).map Value.ref).toArray n1) :: (cellL c1 c2 c3 c4 c5 c6 o1 o2' o3 o4 o5 o6 ++ Led w zs)) →
      Cells (some (.ref tl)) (some (.ref rl)) none none none none o1 o2' o3 o4 o5 o6 →
      wpAny (model PySem.Challenge.rw_bu5045_01.row.prog w) (callerA.deeper (lawE L fa cd c1 c2 c3 c4 c5 c6)) (execs rest (lawE L fa cd c1 c2 c3 c4 c5 c6)) Q (fun _ _ => False) { s with heap := h', toks := tk }) →
    wpAny (model PySem.Challenge.rw_bu5045_01.row.prog w) (callerA.deeper (lawE L fa cd c1 c2 c3 c4 c5 c6)) (execs ((lawB.drop 4).take 1 ++ rest) (lawE L fa cd c1 c2 c3 c4 c5 c6)) Q (fun _ _ => False) s := by
  k_fill
  intro w A₀ h₀ L fa cd c1 c2 c3 c4 c5 c6 o1 o2 o3 o4 o5 o6 s mean mg mb td tl zs tv n1 n2 Q rest ⟨B, X, T, _, _⟩ ⟨⟨m, F, hm⟩, N, D⟩ ⟨d1, d2, d3, d4, d5, d6⟩ hlen hQ
  rw [← kst_self hm] at F
  have hB := @id ((lawB.drop 4).take 1 = _ :: []) rfl
  rw [hB]
  simp only [List.cons_append, List.nil_append]
  clear hB
  unfold cellL at *
  simp only [List.cons_append, List.nil_append] at N D
  have hlz : ((ts zs).map Value.ref).length = zs.length := by simp [ts]
  k_steps
  refine ⟨LCg.CompSrc.ledger rfl F N (by k_mem) (fits1000 (by omega)) fun g => comp_inv (fun i ys => ys = rowV (zs.take i)) (.inr ⟨_, by k_mem, rfl, _, rfl⟩) D rfl ?turn ?done⟩
  case turn =>
    intro i v ys I oI C oC D' m₂ h tk E' hi hv hJ hC hx F1 N1 D1
    have hi' : i < zs.length := by rw [List.size_toArray, hlz] at hi; exact hi
    obtain ⟨z, hz⟩ : ∃ z, zs[i]? = some z := ⟨_, List.getElem?_eq_getElem hi'⟩
    have hvz : v = .ref z.t := by
      have h1 : ((ts zs).map Value.ref)[i]? = some v := by simpa using hv
      simpa [ts, hz] using h1.symm
    subst hvz
    have hmz : ∀ p ∈ Mine.tk w z, p ∈ Led w zs := fun p hp => Led_mem (List.mem_of_getElem? hz) hp
    have N5 : News h₀ L h (Mine.tk w z ++ ((I, oI) :: (C, oC) :: (D', LCg.lst ys) :: (td, listOf tv.toArray n2) :: (tl, listOf ((ts zs).map Value.ref).toArray n1) :: (c1, o1) :: (c2, o2) :: (c3, o3) :: (c4, o4) :: (c5, o5) :: (c6, o6) :: Led w zs)) := by
      intro p hp
      rcases List.mem_append.mp hp with hp | hp
      · exact N1 p (List.mem_append_right [(I, oI), (C, oC), (D', LCg.lst ys), (td, listOf tv.toArray n2), (tl, listOf ((ts zs).map Value.ref).toArray n1), (c1, o1), (c2, o2), (c3, o3), (c4, o4), (c5, o5), (c6, o6)] (hmz p hp))
      · exact N1 p hp
    simp only [Mine.tk, List.cons_append, List.nil_append] at N5
    clear N1
    k_steps
    rename Fr h₀ _ _ _ => F6
    rename News h₀ _ _ _ => N6
    refine EltQ.intro F6 (News.sub N6 (by kqd_sub)) ?_
    rw [hJ, List.take_add_one, hz]
    simp [rowV]
  case done =>
    intro ys hys D' h' tk' F1 N1 o1'
    have D2 := off1NN (o := LCg.lst ys) o1' D
    have hys' : ys = rowV zs := by
      rw [hys, List.size_toArray, hlz, List.take_length]
    subst hys'
    k_steps
    rename Fr h₀ _ _ _ => F6
    rename News h₀ _ _ _ => N6
    rename Obj.data _ = Data.cell (some (Value.ref D')) => d9
    have e : (rowV zs).length = zs.length := by simp [rowV]
    refine hQ _ _ D' _ ⟨⟨_, F6, by tbn_conj⟩, ?_, ?_⟩ ⟨d1, d9, d3, d4, d5, d6⟩
    · rw [← e]; exact N6
    · exact NN.same D2 rfl
end Mine
end
/- W26 -/
section
open PySem PySem.W PyProof.Rows PySem.Calls
set_option maxRecDepth 100000
set_option linter.unusedVariables false
namespace Mine
local macro_rules | `(tactic| k_all) => `(tactic| assumption)
local macro_rules | `(tactic| k_mem) => `(tactic| assumption)
local macro_rules | `(tactic| tbn_conj) => `(tactic| first | exact List.forall_mem_nil _ | (refine List.forall_mem_cons.mpr ⟨?_, ?_⟩; (focus (with_unfolding_all rfl)); tbn_conj))
local macro_rules | `(tactic| kqd_sub) => `(tactic| first | exact List.Sublist.refl _ | (refine List.Sublist.cons_cons _ ?_; kqd_sub) | (refine List.Sublist.cons _ ?_; kqd_sub))
local macro_rules | `(tactic| kd_addW) => `(tactic| first | exact UpdW.head | (refine' UpdW.tail ?b; (case b => kd_addW)))
local macro_rules | `(tactic| kd_addB) => `(tactic| first | exact UpdWF.head | (refine' UpdWF.tail ?b; (case b => kd_addB)))
local macro_rules | `(tactic| k_upd) => `(tactic| ((with_reducible rename NN _ => dN); exact updNN dN rfl (by kd_addW)))
local macro_rules | `(tactic| k_updF) => `(tactic| ((with_reducible rename NN _ => dN); exact updFNN dN rfl (by kd_addB)))
local macro_rules | `(tactic| w_means) => `(tactic| (refine permOf fun x => ?_; (try simp only [cnt_app, cnt_cons, cnt_nil]); omega))
theorem fill26 : ∀ (w : World) (h : Heap), (KF w.params).In h → PySem.Challenge.rw_bu5045_01.row.prog = PySem.Challenge.rw_bu5045_01.row.prog := by
  k_fill; intros; rfl
local macro_rules | `(tactic| kqd_sub) => `(tactic| exact List.sublist_append_left _ _)
local macro_rules | `(tactic| walk_at "eval ListComp") => `(tactic| (k_here; (with_reducible show wpAny _ _ (eval (PySem.Expr.ListComp _ [Comprehension.mk _ _ [_] _] _ _) _) _ _ _); k_dflt (refine LC_T (F₀ := by k_asm) (by with_unfolding_all rfl) (by decide) (by rfl) (by decide) (by rfl) ?_)))
local macro_rules | `(tactic| walk_at "call builtin:len") => `(tactic| (k_here; (with_reducible show wpAny _ _ (call (Value.builtin "len") [Value.ref _]) _ _ _); k_dflt (refine' len_V ?N ?m ?z ?_; (case N => k_asm); (case m => k_mem); (case z => first | assumption | omega); k_whole)))
local macro_rules | `(tactic| walk_at "subscriptTail") => `(tactic| (k_here; (with_reducible show wpAny _ _ (subscriptTail _ _ (Value.ref _) (Value.int _ _)) _ _ _); (with_unfolding_all refine' item_at ?N ?m ?x ?k ?f ?_ ?s; (case N => k_asm); (case m => k_mem); (case x => assumption); (case k => first | rfl | omega); (case f => omega); (case s => with_unfolding_all rfl); k_whole)))
/-- is it an opening one -/
def isOp (vs : List Str) (k : Nat) : Bool := match vs[k]? with | some v => decide (v ∈ opS) | none => false
/-- the opening ones among the first n -/
def opn (vs : List Str) (n : Nat) : List Nat := (List.range n).filter (isOp vs)
theorem opn_succ (vs : List Str) (n : Nat) : opn vs (n + 1) = opn vs n ++ (if isOp vs n then [n] else []) := by
  unfold opn
  rw [List.range_succ, List.filter_append]
  by_cases h : isOp vs n = true
  · rw [if_pos h, List.filter_cons_of_pos h]; rfl
  · rw [if_neg h, List.filter_cons_of_neg h]; rfl
def natI (ks : List Nat) : List Int := ks.map fun (k : Nat) => (k : Int)
theorem natI_snoc (ks : List Nat) (k : Nat) : natI (ks ++ [k]) = natI ks ++ [(k : Int)] := by simp [natI]
theorem natI_len (ks : List Nat) : (natI ks).length = ks.length := by simp [natI]
set_option maxHeartbeats 8000000 in
theorem seg4 : ∀ (w : World) (A₀ : Around) (h₀ : Heap) (L fa : Addr) (cd : Value) (c1 c2 c3 c4 c5 c6 : Addr) (o1 o2 o3 o4 o5 o6 : Obj) (s : Shared) (mean : ExcName → Option Value) (mg mb : Str → Option Value)
    (td tl rl : Addr) (zs : List Z) (tv : List Value) (n1 n2 n3 : Nat) (Q : Flow → Shared → Prop) (rest : List Stmt),
    Gd w A₀ h₀ mean mg mb → Pl h₀ L s.heap [("told", .ref td)] ((rl, listOf (rowV zs).toArray n3) :: (td, listOf tv.toArray n2) :: (tl, listOf ((ts zs).map Value.ref).toArray n1) :: (cellL c1 c2 c3 c4 c5 c6 o1 o2 o3 o4 o5 o6 ++ Led w zs)) →
    Cells (some (.ref tl)) (some (.ref rl)) none none none none o1 o2 o3 o4 o5 o6 → zs.length ≤ 10 → (∀ z ∈ zs, z.v ∈ LV) →
    (∀ h' tk ol ov n4 o4', IntsAre ov (natI (opn (zs.map (·.v)) zs.length)) → Pl h₀ L h' [("told", .ref td)] ((ol, listOf ov.toArray n4) :: (rl, listOf (rowV zs).toArray n3) :: (td, listOf tv.toArray n2) :: (tl, listOf ((ts zs).map Value.ref).toArray n1) :: (cellL c1 c2 c3 c4 c5 c6 o1 o2 o3 o4' o5 o6 ++ Led w zs)) →
      Cells (some (.ref tl)) (some (.ref rl)) none (some (.ref ol)) none none o1 o2 o3 o4' o5 o6 →
      wpAny (model PySem.Challenge.rw_bu5045_01.row.prog w) (callerA.deeper (lawE L fa cd c1 c2 c3 c4 c5 c6)) (execs rest (lawE L fa cd c1 c2 c3 c4 c5 c6)) Q (fun _ _ => False) { s with heap := h', toks := tk }) →
    wpAny (model PySem.Challenge.rw_bu5045_01.row.prog w) (callerA.deeper (lawE L fa cd c1 c2 c3 c4 c5 c6)) (execs ((lawB.drop 5).take 1 ++ rest) (lawE L fa cd c1 c2 c3 c4 c5 c6)) Q (fun _ _ => False) s := by
  k_fill
  intro w A₀ h₀ L fa cd c1 c2 c3 c4 c5 c6 o1 o2 o3 o4 o5 o6 s mean mg mb td tl rl zs tv n1 n2 n3 Q rest ⟨B, X, T, _, _⟩ ⟨⟨m, F, hm⟩, N, D⟩ ⟨d1, d2, d3, d4, d5, d6⟩ hlen hLV hQ
  rw [← kst_self hm] at F
  have hB := @id ((lawB.drop 5).take 1 = _ :: []) rfl
  rw [hB]
  simp only [List.cons_append, List.nil_append]
  clear hB
  unfold cellL at *
  simp only [List.cons_append, List.nil_append] at N D
  have hlz : (rowV zs).length = zs.length := by simp [rowV]
  have hl1000 : (rowV zs).length ≤ 1000 := by omega
  k_steps
  rename IsRange _ _ _ _ _ _ _ _ => lR
  rename Fr h₀ _ _ _ => lF
  rename News h₀ _ _ _ => lN
  refine ⟨LCt.CompSrcT.range rfl lF lN lR (small_one (by omega) (by omega) (by omega) (by omega)) (by first | exact rangeSize_nat _ _ | rfl) (by rw [sizeLine_eq]; omega) fun g => comp_invT (fun i ys => IntsAre ys (natI (opn (zs.map (·.v)) i))) trivial D .nil ?turn ?done⟩
  case turn =>
    intro i v ys I oI C oC D' m₂ h tk E' hi hv hJ hC hx F1 N1 D1
    obtain ⟨t, rfl⟩ := hv
    rw [Int.zero_add] at hx
    have hi' : i < zs.length := by omega
    obtain ⟨z, hz⟩ : ∃ z, zs[i]? = some z := ⟨_, List.getElem?_eq_getElem hi'⟩
    have hvt : (rowV zs)[i]? = some (.str z.v (z.f 25)) := by simp [rowV, hz]
    have hi10 : (i : Int) < 10 := by omega
    have hvi : (zs.map (·.v))[i]? = some z.v := by rw [List.getElem?_map, hz]; rfl
    have ho1 := occ_op z.v (hLV z (List.mem_of_getElem? hz))
    by_cases hop : z.v ∈ opS
    · rw [decide_eq_true hop, Bool.not_true] at ho1
      k_steps
      rename Fr h₀ _ _ _ => F6
      rename News h₀ _ _ _ => N6
      refine EltQ.intro F6 N6 ?_
      have hio : isOp (zs.map (·.v)) i = true := by unfold isOp; rw [hvi]; exact decide_eq_true hop
      rw [opn_succ, if_pos hio, natI_snoc]
      exact ksk_snoc hJ
    · rw [decide_eq_false hop, Bool.not_false] at ho1
      k_steps
      rename Fr h₀ _ _ _ => F6
      rename News h₀ _ _ _ => N6
      refine SkipQ.intro F6 N6 ?_
      have hio : ¬ isOp (zs.map (·.v)) i = true := by unfold isOp; rw [hvi]; simpa using hop
      rw [opn_succ, if_neg hio, List.append_nil]
      exact hJ
  case done =>
    intro ys hys D' h' tk' F1 N1 o1'
    have D2 := off1NN (o := LCg.lst ys) o1' D
    rw [hlz] at hys
    k_steps
    rename Fr h₀ _ _ _ => F6
    rename News h₀ _ _ _ => N6
    rename Obj.data _ = Data.cell (some (Value.ref D')) => d9
    exact hQ _ _ D' ys _ _ hys ⟨⟨_, F6, by tbn_conj⟩, N6, NN.same D2 rfl⟩ ⟨d1, d2, d3, d9, d5, d6⟩
end Mine
end
/- W27 -/
section
local macro_rules | `(tactic| walk_at "partW27 no0") => `(tactic| fail "none")
open PySem PySem.W PyProof.Rows PySem.Calls
set_option maxRecDepth 100000
set_option linter.unusedVariables false
namespace Mine
local macro_rules | `(tactic| k_all) => `(tactic| assumption)
local macro_rules | `(tactic| k_mem) => `(tactic| assumption)
local macro_rules | `(tactic| tbn_conj) => `(tactic| first | exact List.forall_mem_nil _ | (refine List.forall_mem_cons.mpr ⟨?_, ?_⟩; (focus (with_unfolding_all rfl)); tbn_conj))
local macro_rules | `(tactic| kqd_sub) => `(tactic| first | exact List.Sublist.refl _ | (refine List.Sublist.cons_cons _ ?_; kqd_sub) | (refine List.Sublist.cons _ ?_; kqd_sub))
local macro_rules | `(tactic| kd_addW) => `(tactic| first | exact UpdW.head | (refine' UpdW.tail ?b; (case b => kd_addW)))
local macro_rules | `(tactic| kd_addB) => `(tactic| first | exact UpdWF.head | (refine' UpdWF.tail ?b; (case b => kd_addB)))
local macro_rules | `(tactic| k_upd) => `(tactic| ((with_reducible rename NN _ => dN); exact updNN dN rfl (by kd_addW)))
local macro_rules | `(tactic| k_updF) => `(tactic| ((with_reducible rename NN _ => dN); exact updFNN dN rfl (by kd_addB)))
local macro_rules | `(tactic| w_means) => `(tactic| (refine permOf fun x => ?_; (try simp only [cnt_app, cnt_cons, cnt_nil]); omega))
theorem fill27 : ∀ (w : World) (h : Heap), (KF w.params).In h → PySem.Challenge.rw_bu5045_01.row.prog = PySem.Challenge.rw_bu5045_01.row.prog := by
  k_fill; intros; rfl
local macro_rules | `(tactic| kqd_sub) => `(tactic| exact List.sublist_append_left _ _)
local macro_rules | `(tactic| walk_at "eval ListComp") => `(tactic| (k_here; (with_reducible show wpAny _ _ (eval (PySem.Expr.ListComp _ [Comprehension.mk _ _ [] _] _ _) _) _ _ _); k_dflt (refine LC_U (F₀ := by k_asm) (by with_unfolding_all rfl) (by decide) (by rfl) (by decide) (by rfl) ?_)))
local macro_rules | `(tactic| walk_at "call builtin:len") => `(tactic| (k_here; (with_reducible show wpAny _ _ (call (Value.builtin "len") [Value.ref _]) _ _ _); k_dflt (refine' len_V ?N ?m ?z ?_; (case N => k_asm); (case m => k_mem); (case z => first | assumption | omega); k_whole)))
local macro_rules | `(tactic| walk_at "subscriptTail") => `(tactic| (k_here; (with_reducible show wpAny _ _ (subscriptTail _ _ (Value.ref _) (Value.int _ _)) _ _ _); (with_unfolding_all refine' item_at ?N ?m ?x ?k ?f ?_ ?s; (case N => k_asm); (case m => k_mem); (case x => assumption); (case k => first | rfl | omega); (case f => omega); (case s => with_unfolding_all rfl); k_whole)))
def OptIs (v : Value) : Option Nat → Prop
  | none => v = .none
  | some k => ∃ t, v = .int (k : Int) t
/-- a row of places or None -/
def OptsIn (ys : List Value) (os : List (Option Nat)) : Prop := ys.length = os.length ∧ ∀ (i : Nat) (o : Option Nat), os[i]? = some o → ∃ v, ys[i]? = some v ∧ OptIs v o
theorem OptsIn.nil : OptsIn [] [] := ⟨rfl, fun i o h => by simp at h⟩
theorem OptsIn.snoc {ys : List Value} {os : List (Option Nat)} {v : Value} {o : Option Nat} (h : OptsIn ys os) (hv : OptIs v o) : OptsIn (ys ++ [v]) (os ++ [o]) := by
  refine ⟨by rw [List.length_append, List.length_append, h.1]; rfl, fun i o' e => ?_⟩
  rcases Nat.lt_or_ge i os.length with hi | hi
  · rw [List.getElem?_append_left hi] at e
    obtain ⟨u, hu, hr⟩ := h.2 i o' e
    exact ⟨u, by rw [List.getElem?_append_left (by rw [h.1]; exact hi)]; exact hu, hr⟩
  · rw [List.getElem?_append_right hi] at e
    have e0 : i - os.length = 0 := by
      rcases Nat.eq_zero_or_pos (i - os.length) with z | z
      · exact z
      · have : ([o] : List (Option Nat))[i - os.length]? = none := List.getElem?_eq_none (by simp only [List.length_singleton]; omega)
        rw [this] at e; cases e
    rw [e0] at e
    cases e
    exact ⟨v, by rw [List.getElem?_append_right (by rw [h.1]; exact hi), h.1, e0]; rfl, hv⟩
def wOf (os : List Nat) (p : Int) : Option Nat := if 0 < p ∧ p ≤ (os.length : Int) then os[(p - 1).toNat]? else none
def wiL (vs : List Str) (tn : List Int) : List (Option Nat) := tn.map (wOf (opn vs vs.length))
set_option maxHeartbeats 2000000 in
theorem seg5 : ∀ (w : World) (A₀ : Around) (h₀ : Heap) (L fa : Addr) (cd : Value) (c1 c2 c3 c4 c5 c6 : Addr) (o1 o2 o3 o4 o5 o6 : Obj) (s : Shared) (mean : ExcName → Option Value) (mg mb : Str → Option Value)
    (td tl rl ol : Addr) (zs : List Z) (tv ov : List Value) (tn : List Int) (n1 n2 n3 n4 : Nat) (Q : Flow → Shared → Prop) (rest : List Stmt),
    Gd w A₀ h₀ mean mg mb → Pl h₀ L s.heap [("told", .ref td)] ((ol, listOf ov.toArray n4) :: (rl, listOf (rowV zs).toArray n3) :: (td, listOf tv.toArray n2) :: (tl, listOf ((ts zs).map Value.ref).toArray n1) :: (cellL c1 c2 c3 c4 c5 c6 o1 o2 o3 o4 o5 o6 ++ Led w zs)) →
    Cells (some (.ref tl)) (some (.ref rl)) none (some (.ref ol)) none none o1 o2 o3 o4 o5 o6 → zs.length ≤ 10 → IntsAre ov (natI (opn (zs.map (·.v)) zs.length)) → IntsAre tv tn → tn.length = zs.length → (∀ t ∈ tn, 0 ≤ t ∧ t < 16) →
    (∀ h' tk wl wv n5 o5', OptsIn wv (wiL (zs.map (·.v)) tn) → Pl h₀ L h' [] ((wl, listOf wv.toArray n5) :: (ol, listOf ov.toArray n4) :: (rl, listOf (rowV zs).toArray n3) :: (tl, listOf ((ts zs).map Value.ref).toArray n1) :: (cellL c1 c2 c3 c4 c5 c6 o1 o2 o3 o4 o5' o6 ++ Led w zs)) →
      Cells (some (.ref tl)) (some (.ref rl)) none (some (.ref ol)) (some (.ref wl)) none o1 o2 o3 o4 o5' o6 →
      wpAny (model PySem.Challenge.rw_bu5045_01.row.prog w) (callerA.deeper (lawE L fa cd c1 c2 c3 c4 c5 c6)) (execs rest (lawE L fa cd c1 c2 c3 c4 c5 c6)) Q (fun _ _ => False) { s with heap := h', toks := tk }) →
    wpAny (model PySem.Challenge.rw_bu5045_01.row.prog w) (callerA.deeper (lawE L fa cd c1 c2 c3 c4 c5 c6)) (execs ((lawB.drop 6).take 1 ++ rest) (lawE L fa cd c1 c2 c3 c4 c5 c6)) Q (fun _ _ => False) s := by
  k_fill
  intro w A₀ h₀ L fa cd c1 c2 c3 c4 c5 c6 o1 o2 o3 o4 o5 o6 s mean mg mb td tl rl ol zs tv ov tn n1 n2 n3 n4 Q rest ⟨B, X, T, _, _⟩ ⟨⟨m, F, hm⟩, N, D⟩ ⟨d1, d2, d3, d4, d5, d6⟩ hlen hov htv htl h16 hQ
  rw [← kst_self hm] at F
  have hB := @id ((lawB.drop 6).take 1 = _ :: []) rfl
  rw [hB]
  simp only [List.cons_append, List.nil_append]
  clear hB
  unfold cellL at *
  simp only [List.cons_append, List.nil_append] at N D
  have hol := hov.length
  rw [natI_len] at hol
  have hol2 : (opn (zs.map (·.v)) zs.length).length ≤ zs.length := by
    have := List.length_filter_le (isOp (zs.map (·.v))) (List.range zs.length)
    simpa [opn] using this
  have htvl := htv.length
  have hov1000 : ov.length ≤ 1000 := by omega
  have htv1000 : tv.length ≤ 1000 := by omega
  have evl : (zs.map (·.v)).length = zs.length := by simp
  k_steps
  refine ⟨LCg.CompSrc.ledger rfl F N (by k_mem) (fits1000 (by omega)) fun g => comp_inv (fun i ys => OptsIn ys ((wiL (zs.map (·.v)) tn).take i)) (.inr ⟨_, by k_mem, rfl, _, rfl⟩) D .nil ?turn ?done⟩
  case turn =>
    intro i v ys I oI C oC D' m₂ h tk E' hi hv hJ hC hx F1 N1 D1
    obtain ⟨p, t, rfl, hp⟩ := htv.at i v (by simpa using hv)
    obtain ⟨hp0, hp1⟩ := h16 p (List.mem_of_getElem? hp)
    have hnext : (wiL (zs.map (·.v)) tn).take (i + 1) = (wiL (zs.map (·.v)) tn).take i ++ [wOf (opn (zs.map (·.v)) zs.length) p] := by
      rw [List.take_add_one, wiL, List.getElem?_map, hp, evl]; rfl
    by_cases h0 : 0 < p
    · by_cases h1 : p ≤ (ov.length : Int)
      · obtain ⟨o, ho⟩ : ∃ o, (opn (zs.map (·.v)) zs.length)[(p - 1).toNat]? = some o := ⟨_, List.getElem?_eq_getElem (by omega)⟩
        obtain ⟨to, hto⟩ := hov.get (p - 1).toNat (o : Int) (by unfold natI; rw [List.getElem?_map, ho]; rfl)
        have hw : wOf (opn (zs.map (·.v)) zs.length) p = some o := by unfold wOf; rw [if_pos ⟨h0, by omega⟩, ho]
        rw [hw] at hnext
        k_steps
        rename Fr h₀ _ _ _ => F6
        rename News h₀ _ _ _ => N6
        exact EltQ.intro F6 N6 (by show OptsIn _ ((wiL (zs.map (·.v)) tn).take (i + 1)); rw [hnext]; exact hJ.snoc ⟨_, rfl⟩)
      · have hw : wOf (opn (zs.map (·.v)) zs.length) p = none := by unfold wOf; rw [if_neg (by omega)]
        rw [hw] at hnext
        k_steps
        rename Fr h₀ _ _ _ => F6
        rename News h₀ _ _ _ => N6
        exact EltQ.intro F6 N6 (by show OptsIn _ ((wiL (zs.map (·.v)) tn).take (i + 1)); rw [hnext]; exact hJ.snoc rfl)
    · have hw : wOf (opn (zs.map (·.v)) zs.length) p = none := by unfold wOf; rw [if_neg (by omega)]
      rw [hw] at hnext
      k_steps
      rename Fr h₀ _ _ _ => F6
      rename News h₀ _ _ _ => N6
      exact EltQ.intro F6 N6 (by show OptsIn _ ((wiL (zs.map (·.v)) tn).take (i + 1)); rw [hnext]; exact hJ.snoc rfl)
  case done =>
    intro ys hys D' h' tk' F1 N1 o1'
    have D2 := off1NN (o := LCg.lst ys) o1' D
    have ewl : (wiL (zs.map (·.v)) tn).length = tv.length := by simp [wiL]; omega
    rw [List.size_toArray, ← ewl, List.take_length] at hys
    k_steps
    rename Fr h₀ _ _ _ => F6
    rename News h₀ _ _ _ => N6
    rename Obj.data _ = Data.cell (some (Value.ref D')) => d9
    have D3 := NN.sub D2 (a := (D', LCg.lst ys) :: (ol, listOf ov.toArray n4) :: (rl, listOf (rowV zs).toArray n3) :: (tl, listOf ((ts zs).map Value.ref).toArray n1) :: (c1, o1) :: (c2, o2) :: (c3, o3) :: (c4, o4) :: (c5, o5) :: (c6, o6) :: Led w zs) (by kqd_sub)
    obtain ⟨o5', d9', N7⟩ : ∃ o5' : Obj, o5'.data = Data.cell (some (Value.ref D')) ∧ News h₀ L _ ((D', LCg.lst ys) :: (ol, listOf ov.toArray n4) :: (rl, listOf (rowV zs).toArray n3) :: (td, listOf tv.toArray n2) :: (tl, listOf ((ts zs).map Value.ref).toArray n1) :: (c1, o1) :: (c2, o2) :: (c3, o3) :: (c4, o4) :: (c5, o5') :: (c6, o6) :: Led w zs) := ⟨_, d9, N6⟩
    exact hQ _ _ D' ys _ o5' hys ⟨⟨_, F6, by tbn_conj⟩, News.sub N7 (by kqd_sub), NN.same D3 rfl⟩ ⟨d1, d2, d3, d4, d9', d6⟩
end Mine
end
/- W28 -/
section
open PySem PySem.W PyProof.Rows PySem.Calls
set_option maxRecDepth 100000
set_option linter.unusedVariables false
namespace Mine
section
variable {prog : Program} {w : World} {A : Around} {E : Value → Shared → Prop} {s : Shared} {env : Env} {h₀ : Heap} {body : List Stmt} {Q : Flow → Shared → Prop} {σ : Type}
theorem For_ownT {target iter : Expr} {pos : Pos} {m : Str → Option Value} (F : Fr h₀ env.locals s.heap m)
    (h : wpAny (model prog w) A (eval iter env) (fun xv s₁ => Stop (wpAny (model prog w) A (pyIter xv) (fun it s₂ => TurnsAt prog w A h₀ env target body Q E it s₂) E s₁)) E s)
    (hs : ∀ x, foldedSetIterable iter env x = pure x := by intro _; rfl)
    (hE : PassesOwn (model prog w) A env E := by passes_own) :
    wpAny (model prog w) A (exec (.For target iter body [] pos) env) Q E s :=
  For_turns F (wpAny_mono h (fun _ _ q => q.go) fun _ _ e => e) hs hE
/-- a loop over a range whose target is a cell's name -/
theorem it_rangeC {x : Str} {px : Pos} {r : Addr} {a₀ b₀ : Int} {t₀ u₀ v₀ : Tok} {n : Nat} {m₀ : Str → Option Value} (J : Nat → σ → Prop) (Led : σ → List (Addr × Obj)) (ps : σ → List (Str × Value)) (c₀ : σ)
    (hh : A.handled = none) (hr : IsRange s.heap r a₀ b₀ 1 t₀ u₀ v₀) (hsmall : Builtin.Range.small a₀ b₀ 1 = true) (hn : Builtin.Range.rangeSize a₀ b₀ 1 = (n : Int)) (F : Fr h₀ env.locals s.heap m₀) (N : News h₀ env.locals s.heap (Led c₀)) (D : NN (Led c₀)) (hk : ∀ p ∈ ps c₀, m₀ p.1 = some p.2) (hj : J 0 c₀)
    (turn : ∀ i t (c : σ) u h tk I oI, i < n → J i c → Fr h₀ env.locals h (kstB u (ps c)) → News h₀ env.locals h ((I, oI) :: Led c) → NN ((I, oI) :: Led c) →
      wpAny (model prog w) A (assign (.Name x px) env (.int (a₀ + (i : Nat)) t)) (fun _ s₃ => wpAny (model prog w) A (execs body env) (Turn2 h₀ env.locals (J (i + 1)) Led ps [(I, oI)] { s with heap := h, toks := tk } Q) E s₃) E { s with heap := h, toks := tk })
    (done : ∀ (c : σ) u h tk, J n c → Fr h₀ env.locals h (kstB u (ps c)) → News h₀ env.locals h (Led c) → NN (Led c) → Q .next { s with heap := h, toks := tk }) :
    wpAny (model prog w) A (pyIter (.ref r)) (fun it s₂ => TurnsAt prog w A h₀ env (.Name x px) body Q E it s₂) E s := by
  refine wpAny_pyIter_range hr hsmall ?_
  have hLs : env.locals < s.heap.objs.size := F.ns.lt
  have W0 : Walks prog w A s.heap.objs.size [s.heap.objs.size] [s.heap.objs.size] n (fun i v => i < n ∧ ∃ t, v = .int (a₀ + i * 1) t)
      (fun i h => IsRangeIter h s.heap.objs.size (a₀ + (i : Nat) * 1) ((n : Int) - (i : Nat)) 1) := (Walks.range hh _ a₀ 1 n).bound
  have W := KTurns.ofWalks (target := Expr.Name x px) W0 (fun i v s Q E _ h => wpAny_pure h)
  refine ⟨_, _, _, n, _, _, _, m₀, Led c₀, (fun i m nx => ∃ c, nx = Led c ∧ NN ((s.heap.objs.size, default) :: Led c) ∧ (∀ p ∈ ps c, m p.1 = some p.2) ∧ J i c), rfl, W, ?_, ?_, ?_, ?_, F.push _, (fun p hp => ⟨Heap.get?_push_of_some _ (N p hp).1, (N p hp).2⟩), ⟨c₀, rfl, ?_, hk, hj⟩, ?_, ?_⟩
  · intro hm
    exact Nat.ne_of_lt hLs (List.mem_singleton.mp hm)
  · intro b hb; rw [List.mem_singleton.mp hb]; exact next_is_new F
  · intro p hp hb; exact Nat.ne_of_lt (Heap.lt_size (N p hp).1) (List.mem_singleton.mp hb)
  · show IsRangeIter _ _ _ _ _; rw [hn]; simpa using Heap.get?_push_size _ rfl
  · exact D.cons fun q hq => Nat.ne_of_lt (Heap.lt_size (N q hq).1)
  · rintro i v m₁ nx h₁ tk₁ own hi ⟨_, t, rfl⟩ ⟨c, rfl, Dc, hkc, hJ⟩ hoff hown hget hall hst₁ F₁ N₁
    obtain ⟨oI, hoI⟩ : ∃ oI : Obj, h₁.get? s.heap.objs.size = some oI := ⟨_, hst₁⟩
    have m1 : (s.heap.objs.size, oI) ∈ own := hall _ (by simp) (next_is_new F) oI hoI
    have N₂ : News h₀ env.locals h₁ ((s.heap.objs.size, oI) :: Led c) := fun p hp => by
      rcases List.mem_cons.mp hp with rfl | hp
      · exact N₁ _ (List.mem_append_left _ m1)
      · exact N₁ p (List.mem_append_right _ hp)
    have F₂ : Fr h₀ env.locals h₁ (kstB m₁ (ps c)) := by rw [kst_self hkc]; exact F₁
    have e1 : a₀ + (i : Int) * 1 = a₀ + (i : Int) := by omega
    rw [e1]
    refine wpAny_mono (turn i t c m₁ h₁ tk₁ _ oI hi hJ F₂ N₂ (Dc.same rfl)) (fun _ s₃ h₃ => wpAny_mono h₃ (fun f s₂ p => ?_) fun _ _ e => e) fun _ _ e => e
    have fin : (∃ h' tk' m' c', s₂ = { s with heap := h', toks := tk' } ∧ Fr h₀ env.locals h' m' ∧ News h₀ env.locals h' ([(s.heap.objs.size, oI)] ++ Led c') ∧ NN ([(s.heap.objs.size, oI)] ++ Led c') ∧ (∀ p ∈ ps c', m' p.1 = some p.2) ∧ J (i + 1) c') →
        LoopStepU h₀ env.locals [s.heap.objs.size] own (fun m nx => ∃ c, nx = Led c ∧ NN ((s.heap.objs.size, default) :: Led c) ∧ (∀ p ∈ ps c, m p.1 = some p.2) ∧ J (i + 1) c) { s with heap := h₁, toks := tk₁ } .next s₂ := by
      rintro ⟨h', tk', m', c', e, F', N', D', hk', hJ'⟩
      refine ⟨rfl, h', tk', m', Led c', e, F', fun p hp => ?_, fun p hp hb => ?_, c', rfl, D'.same rfl, hk', hJ'⟩
      · rcases List.mem_append.mp hp with hp | hp
        · have hg := hget p hp
          have e1 := List.mem_singleton.mp (hown p hp)
          have : p = (s.heap.objs.size, oI) := Prod.ext e1 (by rw [e1] at hg; exact Option.some.inj (hg.symm.trans hoI))
          rw [this]; exact N' _ (.head _)
        · exact N' p (.tail _ hp)
      · exact D'.off p hp (List.mem_singleton.mp hb)
    cases f with
    | ret v => exact p
    | brk => exact p
    | next => exact fin p
    | cont => exact fin p
  · rintro h' tk m' nx F' N' _ ⟨c, rfl, D', hk', hJ'⟩
    exact done c m' h' tk hJ' (by rw [kst_self hk']; exact F') N' D'.tail
end
end Mine
end
/- W29 -/
section
local macro_rules | `(tactic| walk_at "partW29 no0") => `(tactic| fail "none")
open PySem PySem.W PyProof.Rows PySem.Calls
set_option maxRecDepth 100000
set_option linter.unusedVariables false
namespace Mine
local macro_rules | `(tactic| k_all) => `(tactic| assumption)
local macro_rules | `(tactic| k_mem) => `(tactic| assumption)
local macro_rules | `(tactic| tbn_conj) => `(tactic| first | exact List.forall_mem_nil _ | (refine List.forall_mem_cons.mpr ⟨?_, ?_⟩; (focus (with_unfolding_all rfl)); tbn_conj))
local macro_rules | `(tactic| kqd_sub) => `(tactic| first | exact List.Sublist.refl _ | (refine List.Sublist.cons_cons _ ?_; kqd_sub) | (refine List.Sublist.cons _ ?_; kqd_sub))
local macro_rules | `(tactic| kd_addW) => `(tactic| first | exact UpdW.head | (refine' UpdW.tail ?b; (case b => kd_addW)))
local macro_rules | `(tactic| kd_addB) => `(tactic| first | exact UpdWF.head | (refine' UpdWF.tail ?b; (case b => kd_addB)))
local macro_rules | `(tactic| k_upd) => `(tactic| ((with_reducible rename NN _ => dN); exact updNN dN rfl (by kd_addW)))
local macro_rules | `(tactic| k_updF) => `(tactic| ((with_reducible rename NN _ => dN); exact updFNN dN rfl (by kd_addB)))
local macro_rules | `(tactic| w_means) => `(tactic| (refine permOf fun x => ?_; (try simp only [cnt_app, cnt_cons, cnt_nil]); omega))
theorem fill29 : ∀ (w : World) (h : Heap), (KF w.params).In h → PySem.Challenge.rw_bu5045_01.row.prog = PySem.Challenge.rw_bu5045_01.row.prog := by
  k_fill; intros; rfl
local macro_rules | `(tactic| kqd_sub) => `(tactic| exact List.sublist_append_left _ _)
local macro_rules | `(tactic| walk_at "call builtin:len") => `(tactic| (k_here; (with_reducible show wpAny _ _ (call (Value.builtin "len") [Value.ref _]) _ _ _); k_dflt (refine' len_V ?N ?m ?z ?_; (case N => k_asm); (case m => k_mem); (case z => first | assumption | omega); k_whole)))
local macro_rules | `(tactic| walk_at "subscriptTail") => `(tactic| (k_here; (with_reducible show wpAny _ _ (subscriptTail _ _ (Value.ref _) (Value.int _ _)) _ _ _); (with_unfolding_all refine' item_at ?N ?m ?x ?k ?f ?_ ?s; (case N => k_asm); (case m => k_mem); (first | ((case k => exact rfl); (case x => assumption)) | ((case x => assumption); (case k => omega))); (case f => omega); (case s => with_unfolding_all rfl); k_whole)))
local macro_rules | `(tactic| walk_at "exec For Name Call cons nil") => `(tactic| (k_here; (rename Fr _ _ _ _ => lF'); (with_unfolding_all refine' For_ownT lF' ?_; k_whole)))
theorem catCB2 : (Str.ofString "_yapf_annotation_" ++ Str.ofString "container_bracket") = CB := by decide +kernel
local macro_rules | `(tactic| walk_at "setItem ref str") => `(tactic| (k_here; (simp only [catCB2]); k_dflt (refine' kda_set (knd := PySem.strKind _ _) ?F ?N ?U ?d (strKind_is _ _ _ _) ?z ?_; (case F => k_asm); (case N => k_asm); (case U => k_updF); (case d => k_asm); (case z => assumption)); intro h' o' F' N' hd'; (try dsimp only at N')))
/-- what a token told to lie in a bracket holds -/
def cbKV (zs : List Z) : Option Nat → List (Str × Value)
  | none => []
  | some q => match zs[q]? with | some y => [(CB, .ref y.x)] | none => []
def Told2 (w : World) (wi : List (Option Nat)) (i : Nat) (zs zs' : List Z) : Prop := zs'.map Z.stat2 = zs.map Z.stat2 ∧ (∀ z ∈ zs', OkY w z) ∧ ∀ (j : Nat) (z' : Z), zs'[j]? = some z' →
  z'.kv = if j < i then cbKV zs ((wi[j]?).getD none) else []
theorem told_none {w : World} {wi : List (Option Nat)} {i : Nat} {zs zs' : List Z} (h : Told2 w wi i zs zs') (e : wi[i]? = some none) : Told2 w wi (i + 1) zs zs' := by
  refine ⟨h.1, h.2.1, fun j z' hz' => ?_⟩
  have := h.2.2 j z' hz'
  by_cases e' : j = i
  · subst e'
    rw [if_neg (by omega)] at this
    rw [if_pos (by omega), e, this]; rfl
  · by_cases q : j < i
    · rw [if_pos q] at this; rw [if_pos (by omega)]; exact this
    · rw [if_neg q] at this; rw [if_neg (by omega)]; exact this
theorem told_some {w : World} {wi : List (Option Nat)} {i q : Nat} {zs zs' : List Z} {z y : Z} {o : Obj} (h : Told2 w wi i zs zs') (e : wi[i]? = some (some q)) (hz : zs'[i]? = some z) (hy : zs[q]? = some y)
    (ho : o.IsDictOf (PySem.strKind PySem.Challenge.rw_bu5045_01.row.prog w) [(CB, .ref y.x)]) : Told2 w wi (i + 1) zs (up (fun a => a.setN o [(CB, .ref y.x)]) i zs') := by
  refine ⟨(up_map Z.stat2 _ (fun q => by unfold Z.setN Z.stat2; rfl) i zs').trans h.1, fun a ha => ?_, fun j z' hz' => ?_⟩
  · rcases up_mem _ _ _ _ ha with ha | ⟨b, hb, rfl⟩
    · exact h.2.1 a ha
    · rw [hz] at hb; cases hb
      exact ⟨ho, (h.2.1 z (List.mem_of_getElem? hz)).2⟩
  · rw [up_get] at hz'
    by_cases e' : i = j
    · subst e'
      rw [if_pos rfl, hz] at hz'
      cases hz'
      rw [if_pos (Nat.lt_succ_self _), e]
      show _ = cbKV zs (some q)
      unfold cbKV; dsimp only; rw [hy]; rfl
    · rw [if_neg e'] at hz'
      have := h.2.2 j z' hz'
      by_cases q : j < i
      · rw [if_pos q] at this; rw [if_pos (by omega)]; exact this
      · rw [if_neg q] at this; rw [if_neg (by omega)]; exact this
theorem up_id : ∀ (i : Nat) (zs : List Z), up id i zs = zs
  | _, [] => by simp [up]
  | 0, _ :: _ => rfl
  | n + 1, z :: r => by simp only [up, up_id n r]
theorem stored_nil (v : Value) : stored ([] : List (Str × Value)) CB v = [(CB, v)] := by rw [stored_absent (by rfl)]; rfl
set_option maxHeartbeats 4000000 in
theorem seg6 : ∀ (w : World) (A₀ : Around) (h₀ : Heap) (L fa : Addr) (cd : Value) (c1 c2 c3 c4 c5 c6 : Addr) (o1 o2 o3 o4 o5 o6 : Obj) (s : Shared) (mean : ExcName → Option Value) (mg mb : Str → Option Value)
    (tl rl ol wl : Addr) (zs : List Z) (ov wv : List Value) (wi : List (Option Nat)) (n1 n3 n4 n5 : Nat) (Q : Flow → Shared → Prop) (rest : List Stmt),
    Gd w A₀ h₀ mean mg mb → Pl h₀ L s.heap [] ((wl, listOf wv.toArray n5) :: (ol, listOf ov.toArray n4) :: (rl, listOf (rowV zs).toArray n3) :: (tl, listOf ((ts zs).map Value.ref).toArray n1) :: (cellL c1 c2 c3 c4 c5 c6 o1 o2 o3 o4 o5 o6 ++ Led w zs)) →
    Cells (some (.ref tl)) (some (.ref rl)) none (some (.ref ol)) (some (.ref wl)) none o1 o2 o3 o4 o5 o6 → zs.length ≤ 10 → OptsIn wv wi → wi.length = zs.length → (∀ q, some q ∈ wi → q < zs.length) → (∀ z ∈ zs, FreshZ w z) →
    (∀ h' tk zs' o3' v3, Told2 w wi zs.length zs zs' → Pl h₀ L h' [] ((wl, listOf wv.toArray n5) :: (ol, listOf ov.toArray n4) :: (rl, listOf (rowV zs).toArray n3) :: (tl, listOf ((ts zs).map Value.ref).toArray n1) :: (cellL c1 c2 c3 c4 c5 c6 o1 o2 o3' o4 o5 o6 ++ Led w zs')) →
      Cells (some (.ref tl)) (some (.ref rl)) v3 (some (.ref ol)) (some (.ref wl)) none o1 o2 o3' o4 o5 o6 →
      wpAny (model PySem.Challenge.rw_bu5045_01.row.prog w) (callerA.deeper (lawE L fa cd c1 c2 c3 c4 c5 c6)) (execs rest (lawE L fa cd c1 c2 c3 c4 c5 c6)) Q (fun _ _ => False) { s with heap := h', toks := tk }) →
    wpAny (model PySem.Challenge.rw_bu5045_01.row.prog w) (callerA.deeper (lawE L fa cd c1 c2 c3 c4 c5 c6)) (execs ((lawB.drop 7).take 1 ++ rest) (lawE L fa cd c1 c2 c3 c4 c5 c6)) Q (fun _ _ => False) s := by
  k_fill
  intro w A₀ h₀ L fa cd c1 c2 c3 c4 c5 c6 o1 o2 o3 o4 o5 o6 s mean mg mb tl rl ol wl zs ov wv wi n1 n3 n4 n5 Q rest ⟨B, X, T, _, _⟩ ⟨⟨m, F, hm⟩, N, D⟩ ⟨d1, d2, d3, d4, d5, d6⟩ hlen hwv hwl hwq hfr hQ
  rw [← kst_self hm] at F
  have hB := @id ((lawB.drop 7).take 1 = _ :: []) rfl
  rw [hB]
  simp only [List.cons_append, List.nil_append]
  clear hB
  unfold cellL at *
  simp only [List.cons_append, List.nil_append] at N D
  have hlz : (rowV zs).length = zs.length := by simp [rowV]
  have hl1000 : (rowV zs).length ≤ 1000 := by omega
  k_steps
  rename IsRange _ _ _ _ _ _ _ _ => lR
  rename Fr h₀ _ _ _ => lF
  rename News h₀ _ _ _ => lN
  rw [hlz] at lR
  refine ⟨?_⟩
  refine it_rangeC (σ := List Z × Obj) (n := zs.length) (fun i c => Told2 w wi i zs c.1 ∧ ∃ v0, c.2.data = .cell v0)
    (fun c => (wl, listOf wv.toArray n5) :: (ol, listOf ov.toArray n4) :: (rl, listOf (rowV zs).toArray n3) :: (tl, listOf ((ts zs).map Value.ref).toArray n1) :: (c1, o1) :: (c2, o2) :: (c3, c.2) :: (c4, o4) :: (c5, o5) :: (c6, o6) :: Led w c.1)
    (fun _ => []) (zs, o3) rfl lR (small_one (by omega) (by omega) (by omega) (by omega)) (by first | exact rangeSize_nat _ _ | rfl) lF lN D (by tbn_conj) ⟨⟨rfl, fun z hz => ⟨(hfr z hz).on, (hfr z hz).nt⟩, fun j z' hz' => by rw [if_neg (by omega)]; exact (hfr z' (List.mem_of_getElem? hz')).kv⟩, _, d3⟩ ?turn ?done
  case turn =>
    intro i t c u h tk0 I oI hi hJ F1 N1 D1
    obtain ⟨zs1, o3'⟩ := c
    dsimp only at hJ F1 N1 D1
    obtain ⟨⟨hst2, hok1, hkv⟩, v0, d3'⟩ := hJ
    have hl1 : zs1.length = zs.length := by have := congrArg List.length hst2; simpa using this
    obtain ⟨z, hz⟩ : ∃ z, zs1[i]? = some z := ⟨_, List.getElem?_eq_getElem (by omega)⟩
    obtain ⟨o, ho⟩ : ∃ o, wi[i]? = some o := ⟨_, List.getElem?_eq_getElem (by omega)⟩
    obtain ⟨v, hv, hvo⟩ := hwv.2 i o ho
    have hi10 : (i : Int) < 10 := by omega
    have e0 : (0 + (i : Int)) = (i : Int) := by omega
    rw [e0]
    rcases o with _ | q
    · have hv' : v = .none := hvo
      subst hv'
      k_steps
      rename Fr h₀ _ _ _ => F6
      rename News h₀ _ _ _ => N6
      rename Obj.data _ = Data.cell (some (Value.int _ _)) => d9
      exact Turn2.next (zs1, _) F6 N6 (NN.same D1 rfl) (by tbn_conj) ⟨told_none ⟨hst2, hok1, hkv⟩ ho, _, d9⟩
    · obtain ⟨tq, hv'⟩ := hvo
      subst hv'
      have hq : q < zs.length := hwq q (List.mem_of_getElem? ho)
      obtain ⟨y, hy⟩ : ∃ y, zs1[q]? = some y := ⟨_, List.getElem?_eq_getElem (by omega)⟩
      obtain ⟨y0, hy0⟩ : ∃ y0, zs[q]? = some y0 := ⟨_, List.getElem?_eq_getElem hq⟩
      have hst1 : ∀ (j : Nat) (a b : Z), zs1[j]? = some a → zs[j]? = some b → a.stat2 = b.stat2 := fun j a b ha hb => by
        have e : (zs1.map Z.stat2)[j]? = (zs.map Z.stat2)[j]? := by rw [hst2]
        rw [List.getElem?_map, List.getElem?_map, ha, hb] at e
        exact (Option.some.inj e : a.stat2 = b.stat2)
      have hyx : y.x = y0.x := (congrArg Z.x (hst1 q y y0 hy hy0) : y.stat2.x = y0.stat2.x)
      have hts : ts zs1 = ts zs := by
        have e : ∀ l : List Z, ts l = (l.map Z.stat2).map (·.t) := fun l => by simp only [ts, List.map_map]; rfl
        rw [e, e, hst2]
      have hti : ((ts zs).map Value.ref)[i]? = some (.ref z.t) := by rw [← hts]; simp [ts, hz]
      have htq : ((ts zs).map Value.ref)[q]? = some (.ref y.t) := by rw [← hts]; simp [ts, hy]
      have hq10 : (q : Int) < 10 := by omega
      obtain ⟨hz1, hz2⟩ := hok1 z (List.mem_of_getElem? hz)
      have hzk : z.kv = [] := by have := hkv i z hz; rwa [if_neg (by omega)] at this
      rw [hzk] at hz1
      have hkz : ([] : List (Str × Value)).length ≤ sizeLine := by rw [sizeLine_eq]; exact Nat.zero_le _
      by_cases hiq : i = q
      · subst hiq
        rw [hz] at hy; cases hy
        obtain ⟨R, p1, p2⟩ := led1 w zs1 i z hz
        have pp : ((I, oI) :: (wl, listOf wv.toArray n5) :: (ol, listOf ov.toArray n4) :: (rl, listOf (rowV zs).toArray n3) :: (tl, listOf ((ts zs).map Value.ref).toArray n1) :: (c1, o1) :: (c2, o2) :: (c3, o3') :: (c4, o4) :: (c5, o5) :: (c6, o6) :: Led w zs1).Perm (Mine.tk w z ++ ((I, oI) :: (wl, listOf wv.toArray n5) :: (ol, listOf ov.toArray n4) :: (rl, listOf (rowV zs).toArray n3) :: (tl, listOf ((ts zs).map Value.ref).toArray n1) :: (c1, o1) :: (c2, o2) :: (c3, o3') :: (c4, o4) :: (c5, o5) :: (c6, o6) :: R)) := permOf fun x => by
            have := cnt_perm p1 x
            simp only [cnt_cons, cnt_app] at this ⊢; omega
        have N2 := News.perm N1 pp
        have D2 := D1.perm pp
        simp only [Mine.tk, List.cons_append, List.nil_append] at N2 D2
        clear N1
        k_steps
        rename Fr h₀ _ _ _ => F6
        rename News h₀ _ _ _ => N6
        rename Obj.data _ = Data.cell (some (Value.int _ _)) => d9
        rename Obj.IsDictOf _ _ (stored _ _ _) => hdo
        rw [stored_nil] at hdo
        obtain ⟨oc, on, d9, hdo, N7⟩ : ∃ oc on : Obj, oc.data = Data.cell (some (Value.int (i : Int) t)) ∧ on.IsDictOf (PySem.strKind PySem.Challenge.rw_bu5045_01.row.prog w) [(CB, .ref z.x)] ∧ News h₀ L _ (Mine.tk w (z.setN on [(CB, .ref z.x)]) ++ ((I, oI) :: (wl, listOf wv.toArray n5) :: (ol, listOf ov.toArray n4) :: (rl, listOf (rowV zs).toArray n3) :: (tl, listOf ((ts zs).map Value.ref).toArray n1) :: (c1, o1) :: (c2, o2) :: (c3, oc) :: (c4, o4) :: (c5, o5) :: (c6, o6) :: R)) := ⟨_, _, d9, hdo, N6⟩
        have D7 := NN.same (b := Mine.tk w (z.setN on [(CB, .ref z.x)]) ++ ((I, oI) :: (wl, listOf wv.toArray n5) :: (ol, listOf ov.toArray n4) :: (rl, listOf (rowV zs).toArray n3) :: (tl, listOf ((ts zs).map Value.ref).toArray n1) :: (c1, o1) :: (c2, o2) :: (c3, oc) :: (c4, o4) :: (c5, o5) :: (c6, o6) :: R)) D2 rfl
        have pq : (Mine.tk w (z.setN on [(CB, .ref z.x)]) ++ ((I, oI) :: (wl, listOf wv.toArray n5) :: (ol, listOf ov.toArray n4) :: (rl, listOf (rowV zs).toArray n3) :: (tl, listOf ((ts zs).map Value.ref).toArray n1) :: (c1, o1) :: (c2, o2) :: (c3, oc) :: (c4, o4) :: (c5, o5) :: (c6, o6) :: R)).Perm ((I, oI) :: (wl, listOf wv.toArray n5) :: (ol, listOf ov.toArray n4) :: (rl, listOf (rowV zs).toArray n3) :: (tl, listOf ((ts zs).map Value.ref).toArray n1) :: (c1, o1) :: (c2, o2) :: (c3, oc) :: (c4, o4) :: (c5, o5) :: (c6, o6) :: Led w (up (fun a => a.setN on [(CB, .ref z.x)]) i zs1)) := permOf fun x => by
            have := cnt_perm (p2 (fun a => a.setN on [(CB, .ref z.x)])) x
            simp only [cnt_cons, cnt_app] at this ⊢; omega
        refine Turn2.next (up (fun a => a.setN on [(CB, .ref z.x)]) i zs1, oc) F6 (News.perm N7 pq) (D7.perm pq) (by tbn_conj) ⟨?_, _, d9⟩
        have := told_some (o := on) ⟨hst2, hok1, hkv⟩ ho hz hy0 (by rw [← hyx]; exact hdo)
        rw [← hyx] at this
        exact this
      · obtain ⟨R, p1, p2⟩ := led2 w zs1 i q z y hiq hz hy
        have pp : ((I, oI) :: (wl, listOf wv.toArray n5) :: (ol, listOf ov.toArray n4) :: (rl, listOf (rowV zs).toArray n3) :: (tl, listOf ((ts zs).map Value.ref).toArray n1) :: (c1, o1) :: (c2, o2) :: (c3, o3') :: (c4, o4) :: (c5, o5) :: (c6, o6) :: Led w zs1).Perm
          (Mine.tk w z ++ (Mine.tk w y ++ ((I, oI) :: (wl, listOf wv.toArray n5) :: (ol, listOf ov.toArray n4) :: (rl, listOf (rowV zs).toArray n3) :: (tl, listOf ((ts zs).map Value.ref).toArray n1) :: (c1, o1) :: (c2, o2) :: (c3, o3') :: (c4, o4) :: (c5, o5) :: (c6, o6) :: R))) := permOf fun x => by
            have := cnt_perm p1 x
            simp only [cnt_cons, cnt_app] at this ⊢; omega
        have N2 := News.perm N1 pp
        have D2 := D1.perm pp
        simp only [Mine.tk, List.cons_append, List.nil_append] at N2 D2
        clear N1
        k_steps
        rename Fr h₀ _ _ _ => F6
        rename News h₀ _ _ _ => N6
        rename Obj.data _ = Data.cell (some (Value.int _ _)) => d9
        rename Obj.IsDictOf _ _ (stored _ _ _) => hdo
        rw [stored_nil] at hdo
        obtain ⟨oc, on, d9, hdo, N7⟩ : ∃ oc on : Obj, oc.data = Data.cell (some (Value.int (i : Int) t)) ∧ on.IsDictOf (PySem.strKind PySem.Challenge.rw_bu5045_01.row.prog w) [(CB, .ref y.x)] ∧ News h₀ L _ (Mine.tk w (z.setN on [(CB, .ref y.x)]) ++ (Mine.tk w y ++ ((I, oI) :: (wl, listOf wv.toArray n5) :: (ol, listOf ov.toArray n4) :: (rl, listOf (rowV zs).toArray n3) :: (tl, listOf ((ts zs).map Value.ref).toArray n1) :: (c1, o1) :: (c2, o2) :: (c3, oc) :: (c4, o4) :: (c5, o5) :: (c6, o6) :: R))) := ⟨_, _, d9, hdo, N6⟩
        have D7 := NN.same (b := Mine.tk w (z.setN on [(CB, .ref y.x)]) ++ (Mine.tk w y ++ ((I, oI) :: (wl, listOf wv.toArray n5) :: (ol, listOf ov.toArray n4) :: (rl, listOf (rowV zs).toArray n3) :: (tl, listOf ((ts zs).map Value.ref).toArray n1) :: (c1, o1) :: (c2, o2) :: (c3, oc) :: (c4, o4) :: (c5, o5) :: (c6, o6) :: R))) D2 rfl
        have pq : (Mine.tk w (z.setN on [(CB, .ref y.x)]) ++ (Mine.tk w y ++ ((I, oI) :: (wl, listOf wv.toArray n5) :: (ol, listOf ov.toArray n4) :: (rl, listOf (rowV zs).toArray n3) :: (tl, listOf ((ts zs).map Value.ref).toArray n1) :: (c1, o1) :: (c2, o2) :: (c3, oc) :: (c4, o4) :: (c5, o5) :: (c6, o6) :: R))).Perm ((I, oI) :: (wl, listOf wv.toArray n5) :: (ol, listOf ov.toArray n4) :: (rl, listOf (rowV zs).toArray n3) :: (tl, listOf ((ts zs).map Value.ref).toArray n1) :: (c1, o1) :: (c2, o2) :: (c3, oc) :: (c4, o4) :: (c5, o5) :: (c6, o6) :: Led w (up (fun a => a.setN on [(CB, .ref y.x)]) i zs1)) := permOf fun x => by
            have := cnt_perm (p2 (fun a => a.setN on [(CB, .ref y.x)]) id) x
            rw [up_id] at this
            simp only [cnt_cons, cnt_app, id] at this ⊢; omega
        refine Turn2.next (up (fun a => a.setN on [(CB, .ref y.x)]) i zs1, oc) F6 (News.perm N7 pq) (D7.perm pq) (by tbn_conj) ⟨?_, _, d9⟩
        have := told_some (o := on) ⟨hst2, hok1, hkv⟩ ho hz hy0 (by rw [← hyx]; exact hdo)
        rw [← hyx] at this
        exact this
  case done =>
    intro c u h tk hJ F1 N1 D1
    obtain ⟨zs1, o3'⟩ := c
    dsimp only at hJ F1 N1 D1
    obtain ⟨hT, v0, d3'⟩ := hJ
    exact hQ h tk zs1 o3' v0 hT ⟨⟨_, F1, by tbn_conj⟩, N1, D1⟩ ⟨d1, d2, d3', d4, d5, d6⟩
end Mine
end
/- W30 -/
section
open PySem PySem.W PyProof.Rows PySem.Calls
set_option maxRecDepth 100000
set_option linter.unusedVariables false
namespace Mine
local macro_rules | `(tactic| k_all) => `(tactic| assumption)
local macro_rules | `(tactic| k_mem) => `(tactic| assumption)
local macro_rules | `(tactic| tbn_conj) => `(tactic| first | exact List.forall_mem_nil _ | (refine List.forall_mem_cons.mpr ⟨?_, ?_⟩; (focus (with_unfolding_all rfl)); tbn_conj))
local macro_rules | `(tactic| kqd_sub) => `(tactic| first | exact List.Sublist.refl _ | (refine List.Sublist.cons_cons _ ?_; kqd_sub) | (refine List.Sublist.cons _ ?_; kqd_sub))
local macro_rules | `(tactic| kd_addW) => `(tactic| first | exact UpdW.head | (refine' UpdW.tail ?b; (case b => kd_addW)))
local macro_rules | `(tactic| kd_addB) => `(tactic| first | exact UpdWF.head | (refine' UpdWF.tail ?b; (case b => kd_addB)))
local macro_rules | `(tactic| k_upd) => `(tactic| ((with_reducible rename NN _ => dN); exact updNN dN rfl (by kd_addW)))
local macro_rules | `(tactic| k_updF) => `(tactic| ((with_reducible rename NN _ => dN); exact updFNN dN rfl (by kd_addB)))
local macro_rules | `(tactic| w_means) => `(tactic| (refine permOf fun x => ?_; (try simp only [cnt_app, cnt_cons, cnt_nil]); omega))
theorem fill30 : ∀ (w : World) (h : Heap), (KF w.params).In h → PySem.Challenge.rw_bu5045_01.row.prog = PySem.Challenge.rw_bu5045_01.row.prog := by
  k_fill; intros; rfl
local macro_rules | `(tactic| kqd_sub) => `(tactic| exact List.sublist_append_left _ _)
local macro_rules | `(tactic| walk_at "eval ListComp") => `(tactic| (k_here; (with_reducible show wpAny _ _ (eval (PySem.Expr.ListComp _ [Comprehension.mk _ _ [] _] _ _) _) _ _ _); k_dflt (refine LC_U (F₀ := by k_asm) (by with_unfolding_all rfl) (by decide) (by rfl) (by decide) (by rfl) ?_)))
local macro_rules | `(tactic| walk_at "call ref") => `(tactic| (k_here; (with_reducible show wpAny _ _ (call (Value.ref 525) _) _ _ _); (refine Stop.go ?_)))
set_option maxHeartbeats 4000000 in
theorem seg7 : ∀ (w : World) (A₀ : Around) (h₀ : Heap) (L fa : Addr) (cd : Value) (c1 c2 c3 c4 c5 c6 : Addr) (o1 o2 o3 o4 o5 o6 : Obj) (v1 v2 v3 v4 v5 v6 : Option Value) (s : Shared) (mean : ExcName → Option Value) (mg mb : Str → Option Value)
    (tl rl ol wl : Addr) (zs : List Z) (rv ov wv : List Value) (n1 n3 n4 n5 : Nat) (Q : Flow → Shared → Prop) (rest : List Stmt),
    Gd w A₀ h₀ mean mg mb → Pl h₀ L s.heap [] ((wl, listOf wv.toArray n5) :: (ol, listOf ov.toArray n4) :: (rl, listOf rv.toArray n3) :: (tl, listOf ((ts zs).map Value.ref).toArray n1) :: (cellL c1 c2 c3 c4 c5 c6 o1 o2 o3 o4 o5 o6 ++ Led w zs)) →
    Cells (some (.ref tl)) v2 v3 v4 v5 v6 o1 o2 o3 o4 o5 o6 → zs.length ≤ 10 →
    (∀ h' tk zs' ln dl tl2 n6 g, zs'.map Z.stat3 = zs.map Z.stat3 → Pl h₀ L h' [("line", .ref ln)] ((ln, instObj 525 dl) :: (dl, dictOf (lineE w g tl2) 3) :: (tl2, listOf ((ts zs').map Value.ref).toArray n6) :: (wl, listOf wv.toArray n5) :: (ol, listOf ov.toArray n4) :: (rl, listOf rv.toArray n3) :: (tl, listOf ((ts zs').map Value.ref).toArray n1) :: (cellL c1 c2 c3 c4 c5 c6 o1 o2 o3 o4 o5 o6 ++ Led w zs')) →
      wpAny (model PySem.Challenge.rw_bu5045_01.row.prog w) (callerA.deeper (lawE L fa cd c1 c2 c3 c4 c5 c6)) (execs rest (lawE L fa cd c1 c2 c3 c4 c5 c6)) Q (fun _ _ => False) { s with heap := h', toks := tk }) →
    wpAny (model PySem.Challenge.rw_bu5045_01.row.prog w) (callerA.deeper (lawE L fa cd c1 c2 c3 c4 c5 c6)) (execs ((lawB.drop 8).take 1 ++ rest) (lawE L fa cd c1 c2 c3 c4 c5 c6)) Q (fun _ _ => False) s := by
  k_fill
  intro w A₀ h₀ L fa cd c1 c2 c3 c4 c5 c6 o1 o2 o3 o4 o5 o6 v1 v2 v3 v4 v5 v6 s mean mg mb tl rl ol wl zs rv ov wv n1 n3 n4 n5 Q rest ⟨B, X, T, _, _⟩ ⟨⟨m, F, hm⟩, N, D⟩ ⟨d1, d2, d3, d4, d5, d6⟩ hlen hQ
  rw [← kst_self hm] at F
  have hB := @id ((lawB.drop 8).take 1 = _ :: []) rfl
  rw [hB]
  simp only [List.cons_append, List.nil_append]
  clear hB
  unfold cellL at *
  simp only [List.cons_append, List.nil_append] at N D
  have hlz : ((ts zs).map Value.ref).length = zs.length := by simp [ts]
  k_steps
  refine ⟨LCg.CompSrc.ledger rfl F N (by k_mem) (fits1000 (by omega)) fun g => comp_inv (fun i ys => ys = ((ts zs).map Value.ref).take i) (.inr ⟨_, by k_mem, rfl, _, rfl⟩) D rfl ?turn ?done⟩
  case turn =>
    intro i v ys I oI C oC D' m₂ h tk E' hi hv hJ hC hx F1 N1 D1
    k_steps
    rename Fr h₀ _ _ _ => F6
    rename News h₀ _ _ _ => N6
    refine EltQ.intro F6 N6 ?_
    have hv' : ((ts zs).map Value.ref)[i]? = some v := by simpa using hv
    rw [hJ, List.take_add_one, hv']; rfl
  case done =>
    intro ys hys D' h' tk' F1 N1 o1'
    have D2 := off1NN (o := LCg.lst ys) o1' D
    rw [List.size_toArray, List.take_length] at hys
    subst hys
    k_steps
    have pp : ∀ (a : Addr × Obj), (a :: (wl, listOf wv.toArray n5) :: (ol, listOf ov.toArray n4) :: (rl, listOf rv.toArray n3) :: (tl, listOf ((ts zs).map Value.ref).toArray n1) :: (c1, o1) :: (c2, o2) :: (c3, o3) :: (c4, o4) :: (c5, o5) :: (c6, o6) :: Led w zs).Perm (a :: (Led w zs ++ ((wl, listOf wv.toArray n5) :: (ol, listOf ov.toArray n4) :: (rl, listOf rv.toArray n3) :: (tl, listOf ((ts zs).map Value.ref).toArray n1) :: (c1, o1) :: (c2, o2) :: (c3, o3) :: (c4, o4) :: (c5, o5) :: (c6, o6) :: []))) := fun a => permOf fun x => by
      simp only [cnt_cons, cnt_app, cnt_nil]; omega
    refine ⟨mk_line w A₀ h₀ h₀ L (kstB m []) _ _ _ mean mg mb D' ((ts zs).map Value.ref).length _ zs ((wl, listOf wv.toArray n5) :: (ol, listOf ov.toArray n4) :: (rl, listOf rv.toArray n3) :: (tl, listOf ((ts zs).map Value.ref).toArray n1) :: (c1, o1) :: (c2, o2) :: (c3, o3) :: (c4, o4) :: (c5, o5) :: (c6, o6) :: []) _ ⟨B, F1, X, T, rfl, rfl⟩ (News.perm N1 (pp _)) (NN.perm D2 (pp _)) hlen ?_⟩
    intro h2 tk2 ln dl tl2 n6 zs' g2 hst3 F3 N3 D3
    have hts : ts zs' = ts zs := by
      have e : ∀ l : List Z, ts l = (l.map Z.stat3).map (·.t) := fun l => by simp only [ts, List.map_map]; rfl
      rw [e, e, hst3]
    rw [← hts] at N3 D3
    have pq : ∀ (a b c : Addr × Obj), (a :: b :: c :: (Led w zs' ++ ((wl, listOf wv.toArray n5) :: (ol, listOf ov.toArray n4) :: (rl, listOf rv.toArray n3) :: (tl, listOf ((ts zs').map Value.ref).toArray n1) :: (c1, o1) :: (c2, o2) :: (c3, o3) :: (c4, o4) :: (c5, o5) :: (c6, o6) :: []))).Perm (a :: b :: c :: (wl, listOf wv.toArray n5) :: (ol, listOf ov.toArray n4) :: (rl, listOf rv.toArray n3) :: (tl, listOf ((ts zs').map Value.ref).toArray n1) :: (c1, o1) :: (c2, o2) :: (c3, o3) :: (c4, o4) :: (c5, o5) :: (c6, o6) :: Led w zs') := fun a b c => permOf fun x => by
      simp only [cnt_cons, cnt_app, cnt_nil]; omega
    have N4 := News.perm N3 (pq _ _ _)
    have D4 := D3.perm (pq _ _ _)
    k_steps
    rename Fr h₀ _ _ _ => F6
    rename News h₀ _ _ _ => N6
    exact hQ _ _ zs' ln dl tl2 n6 g2 hst3 ⟨⟨_, F6, by tbn_conj⟩, N6, D4⟩
end Mine
end
/- P1 -/
section
open PySem PySem.W PyProof.Rows PySem.Calls
set_option linter.unusedVariables false
namespace Mine
theorem stat_at {zs zs' : List Z} (h : zs'.map Z.stat = zs.map Z.stat) {i : Nat} {z : Z} (hz : zs[i]? = some z) : ∃ z', zs'[i]? = some z' ∧ z'.stat = z.stat := by
  have e : (zs'.map Z.stat)[i]? = (zs.map Z.stat)[i]? := by rw [h]
  rw [List.getElem?_map, List.getElem?_map, hz] at e
  cases q : zs'[i]? with
  | none => rw [q] at e; cases e
  | some z' => rw [q] at e; exact ⟨z', rfl, Option.some.inj e⟩
/-- the two readings go together -/
theorem run_prun (zs : List Z) : ∀ (i : Nat), i ≤ zs.length → (∀ c, run zs i = some c → ∃ ps, prun (zs.map (·.v)) i = some (ps, c.2)) ∧ (run zs i = none → prun (zs.map (·.v)) i = none)
  | 0, _ => ⟨fun c h => (by cases h; exact ⟨[], rfl⟩), fun h => (by cases h)⟩
  | i + 1, hi => by
    obtain ⟨I1, I2⟩ := run_prun zs i (by omega)
    cases hr : run zs i with
    | none =>
      have hp := I2 hr
      have e1 : run zs (i + 1) = none := by unfold run; rw [hr]
      have e2 : prun (zs.map (·.v)) (i + 1) = none := by unfold prun; rw [hp]
      exact ⟨fun c h => (by rw [e1] at h; cases h), fun _ => e2⟩
    | some c =>
      obtain ⟨ps, hp⟩ := I1 c hr
      have hst := run_stat zs i c hr
      obtain ⟨z0, hz0⟩ : ∃ z0, zs[i]? = some z0 := ⟨_, List.getElem?_eq_getElem (by omega)⟩
      obtain ⟨z, hz, ez⟩ := stat_at hst hz0
      have hlen : c.1.length = zs.length := by have := congrArg List.length hst; simpa using this
      have hvi : (zs.map (·.v))[i]? = some z.v := by rw [List.getElem?_map, hz0]; exact congrArg some (stat_v ez).symm
      have hs := (run_stk zs i c hr).1
      have ep : prun (zs.map (·.v)) (i + 1) = if z.v ∈ opS then some (ps, c.2 ++ [i]) else if z.v ∈ clS then (match c.2.getLast? with | none => none | some j => some (ps ++ [(j, i)], c.2.dropLast)) else some (ps, c.2) := by
        show (match prun (zs.map (·.v)) i with | none => none | some c => _) = _
        rw [hp]; dsimp only; rw [hvi]; try rfl
      have er : run zs (i + 1) = match mPre i c.1 c.2 with | none => none | some b => some (mIn i b.2 b.1, b.2) := by
        show (match run zs i with | none => none | some c => _) = _
        rw [hr]; try rfl
      have em : mPre i c.1 c.2 = if z.v ∈ opS then some (c.1, c.2 ++ [i]) else if z.v ∈ clS then (match c.2.getLast? with | none => none | some j => (match c.1[j]? with | none => none | some y => some (up (fun q => q.setM (.ref y.t)) i (up (fun q => q.setM (.ref z.t)) j c.1), c.2.dropLast))) else some (c.1, c.2) := by
        unfold mPre; rw [hz]; try rfl
      rw [ep, er, em]
      by_cases h1 : z.v ∈ opS
      · simp only [if_pos h1]
        exact ⟨fun c' h => (by cases h; exact ⟨ps, rfl⟩), fun h => (by cases h)⟩
      · by_cases h2 : z.v ∈ clS
        · simp only [if_neg h1, if_pos h2]
          cases hl : c.2.getLast? with
          | none => exact ⟨fun c' h => (by cases h), fun _ => rfl⟩
          | some j =>
            have hj : j < i := hs j (by rw [getLast_split hl]; simp)
            obtain ⟨y, hy⟩ : ∃ y, c.1[j]? = some y := ⟨_, List.getElem?_eq_getElem (by omega)⟩
            simp only [hy]
            exact ⟨fun c' h => (by cases h; exact ⟨_, rfl⟩), fun h => (by cases h)⟩
        · simp only [if_neg h1, if_neg h2]
          exact ⟨fun c' h => (by cases h; exact ⟨ps, rfl⟩), fun h => (by cases h)⟩
theorem prun_none_of {zs zs' : List Z} {stk : List Nat} {i : Nat} (hi : i < zs.length) (hr : run zs i = some (zs', stk)) (hm : mPre i zs' stk = none) : prun (zs.map (·.v)) zs.length = none := by
  have e : run zs (i + 1) = none := by
    show (match run zs i with | none => none | some c => _) = _
    rw [hr]; dsimp only; rw [hm]
  have := (run_prun zs (i + 1) hi).2 e
  have h := prun_none (zs.map (·.v)) (zs.length - (i + 1)) (i + 1) this
  rwa [show i + 1 + (zs.length - (i + 1)) = zs.length from by omega] at h
end Mine
end
/- W31 -/
section
open PySem PySem.W PyProof.Rows PySem.Calls
set_option maxRecDepth 100000
set_option linter.unusedVariables false
namespace Mine
local macro_rules | `(tactic| k_all) => `(tactic| assumption)
local macro_rules | `(tactic| k_mem) => `(tactic| assumption)
local macro_rules | `(tactic| tbn_conj) => `(tactic| first | exact List.forall_mem_nil _ | (refine List.forall_mem_cons.mpr ⟨?_, ?_⟩; (focus (with_unfolding_all rfl)); tbn_conj))
local macro_rules | `(tactic| kqd_sub) => `(tactic| first | exact List.Sublist.refl _ | (refine List.Sublist.cons_cons _ ?_; kqd_sub) | (refine List.Sublist.cons _ ?_; kqd_sub))
local macro_rules | `(tactic| kd_addW) => `(tactic| first | exact UpdW.head | (refine' UpdW.tail ?b; (case b => kd_addW)))
local macro_rules | `(tactic| kd_addB) => `(tactic| first | exact UpdWF.head | (refine' UpdWF.tail ?b; (case b => kd_addB)))
local macro_rules | `(tactic| k_upd) => `(tactic| ((with_reducible rename NN _ => dN); exact updNN dN rfl (by kd_addW)))
local macro_rules | `(tactic| k_updF) => `(tactic| ((with_reducible rename NN _ => dN); exact updFNN dN rfl (by kd_addB)))
local macro_rules | `(tactic| w_means) => `(tactic| (refine permOf fun x => ?_; (try simp only [cnt_app, cnt_cons, cnt_nil]); omega))
theorem fill31 : ∀ (w : World) (h : Heap), (KF w.params).In h → PySem.Challenge.rw_bu5045_01.row.prog = PySem.Challenge.rw_bu5045_01.row.prog := by
  k_fill; intros; rfl
local macro_rules | `(tactic| kqd_sub) => `(tactic| exact List.sublist_append_left _ _)
local macro_rules | `(tactic| walk_at "call ref") => `(tactic| (k_here; (with_reducible show wpAny _ _ (call (Value.ref 550) _) _ _ _); (refine Stop.go ?_)))
set_option maxHeartbeats 4000000 in
theorem seg8 : ∀ (w : World) (A₀ : Around) (h₀ : Heap) (L fa : Addr) (cd : Value) (c1 c2 c3 c4 c5 c6 : Addr) (o1 o2 o3 o4 o5 o6 : Obj) (v1 v3 v4 v5 v6 : Option Value) (s : Shared) (mean : ExcName → Option Value) (mg mb : Str → Option Value)
    (ln rl : Addr) (rv : List Value) (vs : List Str) (n3 : Nat) (led : List (Addr × Obj)) (Q : Flow → Shared → Prop) (rest : List Stmt),
    Gd w A₀ h₀ mean mg mb → Pl h₀ L s.heap [("line", .ref ln)] ((rl, listOf rv.toArray n3) :: (cellL c1 c2 c3 c4 c5 c6 o1 o2 o3 o4 o5 o6 ++ led)) →
    Cells v1 (some (.ref rl)) v3 v4 v5 v6 o1 o2 o3 o4 o5 o6 → StrsIn rv vs → (∀ v ∈ vs, v ∈ LV) → vs.length ≤ 10 →
    (∀ h' tk o6', prun vs vs.length = none → Pl h₀ L h' [("line", .ref ln)] ((rl, listOf rv.toArray n3) :: (cellL c1 c2 c3 c4 c5 c6 o1 o2 o3 o4 o5 o6' ++ led)) → Cells v1 (some (.ref rl)) v3 v4 v5 (some .none) o1 o2 o3 o4 o5 o6' →
      wpAny (model PySem.Challenge.rw_bu5045_01.row.prog w) (callerA.deeper (lawE L fa cd c1 c2 c3 c4 c5 c6)) (execs rest (lawE L fa cd c1 c2 c3 c4 c5 c6)) Q (fun _ _ => False) { s with heap := h', toks := tk }) →
    (∀ h' tk o6' pd op kl stk, prun vs vs.length = some (kl.map (fun p => (p.1, p.2.1)), stk) → Obj.IsDictOf (intKind PySem.Challenge.rw_bu5045_01.row.prog w) op (kvOf kl) → (pd == sysModules) = false →
      Pl h₀ L h' [("line", .ref ln)] ((pd, op) :: (rl, listOf rv.toArray n3) :: (cellL c1 c2 c3 c4 c5 c6 o1 o2 o3 o4 o5 o6' ++ led)) → Cells v1 (some (.ref rl)) v3 v4 v5 (some (.ref pd)) o1 o2 o3 o4 o5 o6' →
      wpAny (model PySem.Challenge.rw_bu5045_01.row.prog w) (callerA.deeper (lawE L fa cd c1 c2 c3 c4 c5 c6)) (execs rest (lawE L fa cd c1 c2 c3 c4 c5 c6)) Q (fun _ _ => False) { s with heap := h', toks := tk }) →
    wpAny (model PySem.Challenge.rw_bu5045_01.row.prog w) (callerA.deeper (lawE L fa cd c1 c2 c3 c4 c5 c6)) (execs ((lawB.drop 9).take 1 ++ rest) (lawE L fa cd c1 c2 c3 c4 c5 c6)) Q (fun _ _ => False) s := by
  k_fill
  intro w A₀ h₀ L fa cd c1 c2 c3 c4 c5 c6 o1 o2 o3 o4 o5 o6 v1 v3 v4 v5 v6 s mean mg mb ln rl rv vs n3 led Q rest ⟨B, X, T, _, _⟩ ⟨⟨m, F, hm⟩, N, D⟩ ⟨d1, d2, d3, d4, d5, d6⟩ hrv hLV hlen hQ1 hQ2
  rw [← kst_self hm] at F
  have hB := @id ((lawB.drop 9).take 1 = _ :: []) rfl
  rw [hB]
  simp only [List.cons_append, List.nil_append]
  clear hB
  unfold cellL at *
  simp only [List.cons_append, List.nil_append] at N D
  k_steps
  refine ⟨law_pairs w A₀ _ h₀ h₀ L (kstB m [("line", .ref ln)]) (lawE L fa cd c1 c2 c3 c4 c5 c6) [] _ _ mean mg mb rl rv vs n3 _ _ B F X T rfl rfl rfl (by k_room) rfl N D hrv hLV hlen ?_ ?_⟩
  · intro h2 tk2 hp F3 N3
    k_steps
    rename Fr h₀ _ _ _ => F6
    rename News h₀ _ _ _ => N6
    rename Obj.data _ = Data.cell (some Value.none) => d9
    exact hQ1 _ _ _ hp ⟨⟨_, F6, by tbn_conj⟩, N6, NN.same D rfl⟩ ⟨d1, d2, d3, d4, d5, d9⟩
  · intro h2 tk2 pd op kl stk hp hop hlo F3 N3 D3
    k_steps
    rename Fr h₀ _ _ _ => F6
    rename News h₀ _ _ _ => N6
    rename Obj.data _ = Data.cell (some (Value.ref pd)) => d9
    exact hQ2 _ _ _ pd op kl stk hp hop hlo ⟨⟨_, F6, by tbn_conj⟩, N6, NN.same D3 rfl⟩ ⟨d1, d2, d3, d4, d5, d9⟩
end Mine
end
/- W32 -/
section
local macro_rules | `(tactic| walk_at "partW32 no0") => `(tactic| fail "none")
open PySem PySem.W PyProof.Rows PySem.Calls
set_option maxRecDepth 100000
set_option linter.unusedVariables false
namespace Mine
local macro_rules | `(tactic| k_all) => `(tactic| assumption)
local macro_rules | `(tactic| k_mem) => `(tactic| assumption)
local macro_rules | `(tactic| tbn_conj) => `(tactic| first | exact List.forall_mem_nil _ | (refine List.forall_mem_cons.mpr ⟨?_, ?_⟩; (focus (with_unfolding_all rfl)); tbn_conj))
local macro_rules | `(tactic| kqd_sub) => `(tactic| first | exact List.Sublist.refl _ | (refine List.Sublist.cons_cons _ ?_; kqd_sub) | (refine List.Sublist.cons _ ?_; kqd_sub))
local macro_rules | `(tactic| kd_addW) => `(tactic| first | exact UpdW.head | (refine' UpdW.tail ?b; (case b => kd_addW)))
local macro_rules | `(tactic| kd_addB) => `(tactic| first | exact UpdWF.head | (refine' UpdWF.tail ?b; (case b => kd_addB)))
local macro_rules | `(tactic| k_upd) => `(tactic| ((with_reducible rename NN _ => dN); exact updNN dN rfl (by kd_addW)))
local macro_rules | `(tactic| k_updF) => `(tactic| ((with_reducible rename NN _ => dN); exact updFNN dN rfl (by kd_addB)))
local macro_rules | `(tactic| w_means) => `(tactic| (refine permOf fun x => ?_; (try simp only [cnt_app, cnt_cons, cnt_nil]); omega))
theorem fill32 : ∀ (w : World) (h : Heap), (KF w.params).In h → PySem.Challenge.rw_bu5045_01.row.prog = PySem.Challenge.rw_bu5045_01.row.prog := by
  k_fill; intros; rfl
local macro_rules | `(tactic| kqd_sub) => `(tactic| exact List.sublist_append_left _ _)
local macro_rules | `(tactic| walk_at "call ref") => `(tactic| (k_here; (with_reducible show wpAny _ _ (call (Value.ref 557) _) _ _ _); (refine Stop.go ?_)))
set_option maxHeartbeats 4000000 in
theorem seg9 : ∀ (w : World) (A₀ : Around) (h₀ : Heap) (L fa : Addr) (cd : Value) (c1 c2 c3 c4 c5 c6 : Addr) (o1 o2 o3 o4 o5 o6 : Obj) (v1 v2 v3 v4 v5 : Option Value) (p6 : Option Addr) (s : Shared) (mean : ExcName → Option Value) (mg mb : Str → Option Value)
    (ln dl tl2 : Addr) (n6 : Nat) (g : Nat → Tok) (zs : List Z) (oth : List (Addr × Obj)) (Q : Flow → Shared → Prop) (rest : List Stmt),
    Gd w A₀ h₀ mean mg mb → Pl h₀ L s.heap [("line", .ref ln)] ((ln, instObj 525 dl) :: (dl, dictOf (lineE w g tl2) 3) :: (tl2, listOf ((ts zs).map Value.ref).toArray n6) :: (cellL c1 c2 c3 c4 c5 c6 o1 o2 o3 o4 o5 o6 ++ (Led w zs ++ oth))) →
    Cells v1 v2 v3 v4 v5 (some (match p6 with | none => .none | some pd => .ref pd)) o1 o2 o3 o4 o5 o6 → zs.length ≤ 10 → elB 0 zs → (∀ z ∈ zs, OkZ w z) → (∀ z ∈ zs, ∀ v, valueAt z.kv CB = some v → ∃ y ∈ zs, v = .ref y.x) →
    (p6 = none ↔ prun (zs.map (·.v)) zs.length = none) →
    (∀ h' tk zs', zs'.map Z.stat = zs.map Z.stat → (p6 ≠ none → ∃ stk', run zs zs.length = some (zs', stk')) → Pl h₀ L h' [("line", .ref ln)] ((ln, instObj 525 dl) :: (dl, dictOf (lineE w g tl2) 3) :: (tl2, listOf ((ts zs').map Value.ref).toArray n6) :: (cellL c1 c2 c3 c4 c5 c6 o1 o2 o3 o4 o5 o6 ++ (Led w zs' ++ oth))) →
      wpAny (model PySem.Challenge.rw_bu5045_01.row.prog w) (callerA.deeper (lawE L fa cd c1 c2 c3 c4 c5 c6)) (execs rest (lawE L fa cd c1 c2 c3 c4 c5 c6)) Q (fun _ _ => False) { s with heap := h', toks := tk }) →
    wpAny (model PySem.Challenge.rw_bu5045_01.row.prog w) (callerA.deeper (lawE L fa cd c1 c2 c3 c4 c5 c6)) (execs ((lawB.drop 10).take 1 ++ rest) (lawE L fa cd c1 c2 c3 c4 c5 c6)) Q (fun _ _ => False) s := by
  k_fill
  intro w A₀ h₀ L fa cd c1 c2 c3 c4 c5 c6 o1 o2 o3 o4 o5 o6 v1 v2 v3 v4 v5 p6 s mean mg mb ln dl tl2 n6 g zs oth Q rest ⟨B, X, T, YO, YC⟩ ⟨⟨m, F, hm⟩, N, D⟩ ⟨d1, d2, d3, d4, d5, d6⟩ hlen hel hok hcl hp6 hQ
  rw [← kst_self hm] at F
  have hB := @id ((lawB.drop 10).take 1 = _ :: []) rfl
  rw [hB]
  simp only [List.cons_append, List.nil_append]
  clear hB
  have pp : ∀ (zs' : List Z) (a b c : Addr × Obj), (a :: b :: c :: (cellL c1 c2 c3 c4 c5 c6 o1 o2 o3 o4 o5 o6 ++ (Led w zs' ++ oth))).Perm (a :: b :: c :: (Led w zs' ++ (cellL c1 c2 c3 c4 c5 c6 o1 o2 o3 o4 o5 o6 ++ oth))) := fun zs' a b c => permOf fun x => by
    simp only [cnt_cons, cnt_app]; omega
  have N0 := News.perm N (pp _ _ _ _)
  have D0 := D.perm (pp _ _ _ _)
  unfold cellL at *
  simp only [List.cons_append, List.nil_append] at N D
  k_steps
  refine ⟨law_matched w A₀ h₀ h₀ L (kstB m [("line", .ref ln)]) (lawE L fa cd c1 c2 c3 c4 c5 c6) _ _ mean mg mb ln dl tl2 n6 g zs ([(c1, o1), (c2, o2), (c3, o3), (c4, o4), (c5, o5), (c6, o6)] ++ oth) _ B F X X YO YC T T rfl rfl N0 D0 hlen hel hok hcl ?_⟩
  intro h2 tk2 zs' b hst hb F3 N3 D3
  have hts : ts zs' = ts zs := by rw [ts_stat, ts_stat, hst]
  rw [← hts] at N3 D3
  have N4 := News.perm N3 (pp zs' _ _ _).symm
  have D4 := D3.perm (pp zs' _ _ _).symm
  unfold cellL at N4 D4
  simp only [List.cons_append, List.nil_append] at N4 D4
  rcases p6 with _ | pd
  · have hno := hp6.mp rfl
    have hbf : b = false := by
      rcases hb with ⟨_, stk', hr⟩ | ⟨h, _⟩
      · obtain ⟨ps, hps⟩ := (run_prun zs zs.length (Nat.le_refl _)).1 _ hr
        rw [hno] at hps; cases hps
      · exact h
    subst hbf
    dsimp only at d6
    k_steps
    rename Fr h₀ _ _ _ => F6
    rename News h₀ _ _ _ => N6
    exact hQ _ _ zs' hst (fun h => absurd rfl h) ⟨⟨_, F6, by tbn_conj⟩, N6, D4⟩
  · have hbt : b = true ∧ ∃ stk', run zs zs.length = some (zs', stk') := by
      rcases hb with h | ⟨_, i, stk', hi, hr, hmp⟩
      · exact h
      · have := hp6.mpr (prun_none_of hi hr hmp)
        cases this
    obtain ⟨rfl, hrun⟩ := hbt
    dsimp only at d6
    k_steps
    rename Fr h₀ _ _ _ => F6
    rename News h₀ _ _ _ => N6
    exact hQ _ _ zs' hst (fun _ => hrun) ⟨⟨_, F6, by tbn_conj⟩, N6, D4⟩
end Mine
end
/- W33 -/
section
open PySem PySem.W PyProof.Rows PySem.Calls
set_option maxRecDepth 100000
set_option linter.unusedVariables false
namespace Mine
local macro_rules | `(tactic| k_all) => `(tactic| assumption)
local macro_rules | `(tactic| k_mem) => `(tactic| assumption)
local macro_rules | `(tactic| tbn_conj) => `(tactic| first | exact List.forall_mem_nil _ | (refine List.forall_mem_cons.mpr ⟨?_, ?_⟩; (focus (with_unfolding_all rfl)); tbn_conj))
local macro_rules | `(tactic| kqd_sub) => `(tactic| first | exact List.Sublist.refl _ | (refine List.Sublist.cons_cons _ ?_; kqd_sub) | (refine List.Sublist.cons _ ?_; kqd_sub))
local macro_rules | `(tactic| kd_addW) => `(tactic| first | exact UpdW.head | (refine' UpdW.tail ?b; (case b => kd_addW)))
local macro_rules | `(tactic| kd_addB) => `(tactic| first | exact UpdWF.head | (refine' UpdWF.tail ?b; (case b => kd_addB)))
local macro_rules | `(tactic| k_upd) => `(tactic| ((with_reducible rename NN _ => dN); exact updNN dN rfl (by kd_addW)))
local macro_rules | `(tactic| k_updF) => `(tactic| ((with_reducible rename NN _ => dN); exact updFNN dN rfl (by kd_addB)))
local macro_rules | `(tactic| w_means) => `(tactic| (refine permOf fun x => ?_; (try simp only [cnt_app, cnt_cons, cnt_nil]); omega))
theorem fill33 : ∀ (w : World) (h : Heap), (KF w.params).In h → PySem.Challenge.rw_bu5045_01.row.prog = PySem.Challenge.rw_bu5045_01.row.prog := by
  k_fill; intros; rfl
local macro_rules | `(tactic| kqd_sub) => `(tactic| exact List.sublist_append_left _ _)
local macro_rules | `(tactic| walk_at "call ref") => `(tactic| (k_here; (with_reducible show wpAny _ _ (call (Value.ref 285) _) _ _ _); (refine Stop.go ?_)))
set_option maxHeartbeats 4000000 in
theorem seg12 : ∀ (w : World) (A₀ : Around) (h₀ : Heap) (L fa : Addr) (cd : Value) (c1 c2 c3 c4 c5 c6 : Addr) (cl : List (Addr × Obj)) (s : Shared) (mean : ExcName → Option Value) (mg mb : Str → Option Value)
    (ln dl tl2 : Addr) (n6 : Nat) (g : Nat → Tok) (zs : List Z) (oth : List (Addr × Obj)) (Q : Flow → Shared → Prop) (rest : List Stmt),
    Gd w A₀ h₀ mean mg mb → Pl h₀ L s.heap [("line", .ref ln)] ((ln, instObj 525 dl) :: (dl, dictOf (lineE w g tl2) 3) :: (tl2, listOf ((ts zs).map Value.ref).toArray n6) :: (cl ++ (Led w zs ++ oth))) →
    zs.length ≤ 10 → (∀ z ∈ zs, OkZ w z) →
    (∀ h' tk zs', Adj w (zs.map (·.v)) zs.length zs zs' → Pl h₀ L h' [] (cl ++ (Led w zs' ++ oth)) →
      wpAny (model PySem.Challenge.rw_bu5045_01.row.prog w) (callerA.deeper (lawE L fa cd c1 c2 c3 c4 c5 c6)) (execs rest (lawE L fa cd c1 c2 c3 c4 c5 c6)) Q (fun _ _ => False) { s with heap := h', toks := tk }) →
    wpAny (model PySem.Challenge.rw_bu5045_01.row.prog w) (callerA.deeper (lawE L fa cd c1 c2 c3 c4 c5 c6)) (execs ((lawB.drop 12).take 1 ++ rest) (lawE L fa cd c1 c2 c3 c4 c5 c6)) Q (fun _ _ => False) s := by
  k_fill
  intro w A₀ h₀ L fa cd c1 c2 c3 c4 c5 c6 cl s mean mg mb ln dl tl2 n6 g zs oth Q rest ⟨B, X, T, YO, YC⟩ ⟨⟨m, F, hm⟩, N, D⟩ hlen hok hQ
  rw [← kst_self hm] at F
  have hB := @id ((lawB.drop 12).take 1 = _ :: []) rfl
  rw [hB]
  simp only [List.cons_append, List.nil_append]
  clear hB
  have pp : ∀ (zs' : List Z) (a b c : Addr × Obj), (a :: b :: c :: (cl ++ (Led w zs' ++ oth))).Perm (a :: b :: c :: (Led w zs' ++ (cl ++ oth))) := fun zs' a b c => permOf fun x => by
    simp only [cnt_cons, cnt_app]; omega
  k_steps
  refine ⟨adjust w A₀ h₀ h₀ L (kstB m [("line", .ref ln)]) (lawE L fa cd c1 c2 c3 c4 c5 c6) _ _ mean mg mb ln dl tl2 n6 g zs (cl ++ oth) _ B F X YO YC T rfl rfl (News.perm N (pp _ _ _ _)) (D.perm (pp _ _ _ _)) hlen hok ?_⟩
  intro h2 tk2 zs' hadj F3 N3 D3
  have N4 := (News.perm N3 (pp zs' _ _ _).symm)
  have D4 := D3.perm (pp zs' _ _ _).symm
  k_steps
  rename Fr h₀ _ _ _ => F6
  rename News h₀ _ _ _ => N6
  exact hQ _ _ zs' hadj ⟨⟨_, F6, by tbn_conj⟩, fun p hp => N6 p (.tail _ (.tail _ (.tail _ hp))), D4.tail.tail.tail⟩
end Mine
end
/- P2 -/
section
open PySem PySem.W PyProof.Rows PySem.Calls
set_option linter.unusedVariables false
namespace Mine
def psOf (kl : List (Nat × Nat × Tok)) : List (Nat × Nat) := kl.map fun p => (p.1, p.2.1)
/-- the place that match names -/
def mP (ps : List (Nat × Nat)) (k : Nat) : Option Nat := match (ps.filter fun q => q.2 == k).head? with | some q => some q.1 | none => ps.lookup k
/-- where the bracket j is closed, or n -/
def endP (ps : List (Nat × Nat)) (n j : Nat) : Nat := (ps.lookup j).getD n
def dueL (ps : List (Nat × Nat)) (wi : List (Option Nat)) (n k : Nat) : List Nat := (List.range n).filter fun p => wi[p]? == some (some k) && (decide (k ≤ p) && decide (p < endP ps n k))
def heldP (ps : List (Nat × Nat)) (wi : List (Option Nat)) (n k : Nat) : Option Nat := match wi[k]? with | some (some j) => if j ≤ k ∧ k < endP ps n j then some j else none | _ => none
theorem lookup_kl : ∀ (kl : List (Nat × Nat × Tok)) (k : Nat), (∃ (c : Nat) (t : Tok), valueAt (kvOf kl) (k : Int) = some (.int (c : Int) t) ∧ (psOf kl).lookup k = some c) ∨ (valueAt (kvOf kl) (k : Int) = none ∧ (psOf kl).lookup k = none)
  | [], k => .inr ⟨rfl, rfl⟩
  | p :: r, k => by
    by_cases e : p.1 = k
    · refine .inl ⟨p.2.1, p.2.2, ?_, ?_⟩
      · unfold valueAt kvOf
        simp [e]
      · simp [psOf, e]
    · have e1 : ¬ ((p.1 : Int) = (k : Int)) := fun h => e (Int.ofNat.inj h)
      have e2 : (k == p.1) = false := by simpa using fun h => e h.symm
      have h1 : valueAt (kvOf (p :: r)) (k : Int) = valueAt (kvOf r) (k : Int) := by
        unfold valueAt kvOf
        simp [e1]
      have h2 : (psOf (p :: r)).lookup k = (psOf r).lookup k := by
        unfold psOf
        rw [List.map_cons, List.lookup_cons, e2]
      rw [h1, h2]
      exact lookup_kl r k
theorem valueAt_mem {kl : List (Nat × Nat × Tok)} (hnd : (kl.map (·.1)).Nodup) {i : Nat} {p : Nat × Nat × Tok} (h : kl[i]? = some p) : valueAt (kvOf kl) (p.1 : Int) = some (.int (p.2.1 : Int) p.2.2) := by
  induction kl generalizing i with
  | nil => simp at h
  | cons q r ih =>
    rw [List.map_cons, List.nodup_cons] at hnd
    cases i with
    | zero =>
      have : q = p := by simpa using h
      subst this
      unfold valueAt kvOf; simp
    | succ i =>
      have h' : r[i]? = some p := by simpa using h
      have hne : ¬ ((q.1 : Int) = (p.1 : Int)) := fun e => hnd.1 (by
        rw [Int.ofNat.inj e]
        exact List.mem_map_of_mem (List.mem_of_getElem? h'))
      have := ih hnd.2 h'
      rw [← this]
      unfold valueAt kvOf
      simp [hne]
end Mine
end
/- W34 -/
section
open PySem PySem.W PyProof.Rows PySem.Calls
set_option maxRecDepth 100000
set_option linter.unusedVariables false
namespace Mine
local macro_rules | `(tactic| k_all) => `(tactic| assumption)
local macro_rules | `(tactic| k_mem) => `(tactic| assumption)
local macro_rules | `(tactic| tbn_conj) => `(tactic| first | exact List.forall_mem_nil _ | (refine List.forall_mem_cons.mpr ⟨?_, ?_⟩; (focus (with_unfolding_all rfl)); tbn_conj))
local macro_rules | `(tactic| kqd_sub) => `(tactic| first | exact List.Sublist.refl _ | (refine List.Sublist.cons_cons _ ?_; kqd_sub) | (refine List.Sublist.cons _ ?_; kqd_sub))
local macro_rules | `(tactic| kd_addW) => `(tactic| first | exact UpdW.head | (refine' UpdW.tail ?b; (case b => kd_addW)))
local macro_rules | `(tactic| kd_addB) => `(tactic| first | exact UpdWF.head | (refine' UpdWF.tail ?b; (case b => kd_addB)))
local macro_rules | `(tactic| k_upd) => `(tactic| ((with_reducible rename NN _ => dN); exact updNN dN rfl (by kd_addW)))
local macro_rules | `(tactic| k_updF) => `(tactic| ((with_reducible rename NN _ => dN); exact updFNN dN rfl (by kd_addB)))
local macro_rules | `(tactic| w_means) => `(tactic| (refine permOf fun x => ?_; (try simp only [cnt_app, cnt_cons, cnt_nil]); omega))
theorem fill34 : ∀ (w : World) (h : Heap), (KF w.params).In h → PySem.Challenge.rw_bu5045_01.row.prog = PySem.Challenge.rw_bu5045_01.row.prog := by
  k_fill; intros; rfl
local macro_rules | `(tactic| kqd_sub) => `(tactic| exact List.sublist_append_left _ _)
local macro_rules | `(tactic| walk_at "call builtin:len") => `(tactic| (k_here; (with_reducible show wpAny _ _ (call (Value.builtin "len") [Value.ref _]) _ _ _); k_dflt (refine' len_V ?N ?m ?z ?_; (case N => k_asm); (case m => k_mem); (case z => first | assumption | omega); k_whole)))
local macro_rules | `(tactic| walk_at "subscriptTail") => `(tactic| (k_here; (with_reducible show wpAny _ _ (subscriptTail _ _ (Value.ref _) (Value.int _ _)) _ _ _); (with_unfolding_all refine' item_at ?N ?m ?x ?k ?f ?_ ?s; (case N => k_asm); (case m => k_mem); (first | ((case k => exact rfl); (case x => assumption)) | ((case x => assumption); (case k => omega))); (case f => omega); (case s => with_unfolding_all rfl); k_whole)))
local macro_rules | `(tactic| walk_at "exec For Name Call cons nil") => `(tactic| (k_here; (rename Fr _ _ _ _ => lF'); (with_unfolding_all refine' For_ownT lF' ?_; k_whole)))
theorem get_pen {prog : Program} {w : World} {A : Around} {E : Value → Shared → Prop} {s : Shared} {h₀ : Heap} {L d : Addr} {news : List (Addr × Obj)} {o : Obj} {kvs : List (Str × Value)} {k : Str} {n e : Int} {t tn : Tok} {Q : Value → Shared → Prop} (N : News h₀ L s.heap news) (hp : (d, o) ∈ news) (hd : o.IsDictOf (PySem.strKind prog w) kvs) (lo : (d == sysModules) = false)
    (he : ∀ tn : Tok, ∃ te : Tok, (valueAt kvs k).getD (.int n tn) = .int e te) (h : ∀ te, Q (.int e te) { s with toks := s.toks + 1 }) : wpAny (model prog w) A (call (.builtin "dict.get") [.ref d, .str k t, .int n tn]) Q E s := by
  refine kdg_get2 N hp hd lo (strKind_is _ _ _ _) _ rfl ?_
  obtain ⟨te, e1⟩ := he tn
  rw [e1]; exact h te
local macro_rules | `(tactic| walk_at "call builtin:dict.get") => `(tactic| (k_here; (try simp only [catSP]); (with_reducible show wpAny _ _ (call (Value.builtin _) [Value.ref _, Value.str _ _, _]) _ _ _); k_dflt (refine' get_pen ?N ?m ?d ?l ?x ?_; (case N => k_asm); (case m => k_mem); (case d => assumption); (case l => assumption); (case x => assumption); k_whole); intro te'))
theorem op_not_cl : ∀ v ∈ opS, v ∉ clS := by decide
/-- the penalty of a place -/
def PenAt (w : World) (vs : List Str) (k : Nat) (z : Z) : Prop := OkY w z ∧ if k ≠ 0 ∧ lev vs k = 0 then ∃ t, valueAt z.kv SP = some (.int 1000000 t) else valueAt z.kv SP = none
set_option maxHeartbeats 4000000 in
theorem seg13 : ∀ (w : World) (A₀ : Around) (h₀ : Heap) (L fa : Addr) (cd : Value) (c1 c2 c3 c4 c5 c6 : Addr) (o1 o2 o3 o4 o5 o6 : Obj) (v3 v4 v5 v6 : Option Value) (s : Shared) (mean : ExcName → Option Value) (mg mb : Str → Option Value)
    (tl rl : Addr) (tv0 rv : List Value) (vs : List Str) (n1 n3 : Nat) (zs : List Z) (oth : List (Addr × Obj)) (Q : Flow → Shared → Prop),
    Gd w A₀ h₀ mean mg mb → Pl h₀ L s.heap [] ((tl, listOf tv0.toArray n1) :: (rl, listOf rv.toArray n3) :: (cellL c1 c2 c3 c4 c5 c6 o1 o2 o3 o4 o5 o6 ++ (Led w zs ++ oth))) →
    Cells (some (.ref tl)) (some (.ref rl)) v3 v4 v5 v6 o1 o2 o3 o4 o5 o6 → tv0 = (ts zs).map Value.ref → StrsIn rv vs → (∀ v ∈ vs, v ∈ LV) → vs.length = zs.length → zs.length ≤ 10 →
    (∀ k z, zs[k]? = some z → PenAt w vs k z) →
    (∀ h' tk m', Fr h₀ L h' m' → Q (.ret (.bool true)) { s with heap := h', toks := tk }) →
    wpAny (model PySem.Challenge.rw_bu5045_01.row.prog w) (callerA.deeper (lawE L fa cd c1 c2 c3 c4 c5 c6)) (execs (lawB.drop 13) (lawE L fa cd c1 c2 c3 c4 c5 c6)) Q (fun _ _ => False) s := by
  k_fill
  intro w A₀ h₀ L fa cd c1 c2 c3 c4 c5 c6 o1 o2 o3 o4 o5 o6 v3 v4 v5 v6 s mean mg mb tl rl tv0 rv vs n1 n3 zs oth Q ⟨B, X, T, YO, YC⟩ ⟨⟨m, F, hm⟩, N, D⟩ ⟨d1, d2, d3, d4, d5, d6⟩ htv hrv hLV hvl hlen hpen hQ
  rw [← kst_self hm] at F
  have hB := @id (lawB.drop 13 = _ :: _ :: _ :: []) rfl
  rw [hB]
  clear hB
  unfold cellL at *
  simp only [List.cons_append, List.nil_append] at N D
  have hrl : rv.length = zs.length := by rw [hrv.1, hvl]
  have hr1000 : rv.length ≤ 1000 := by omega
  k_steps
  rename IsRange _ _ _ _ _ _ _ _ => lR
  rename Fr h₀ _ _ _ => lF
  rename News h₀ _ _ _ => lN
  rw [hrl] at lR
  refine ⟨?_⟩
  refine it_rangeC (σ := Obj × Int × Tok) (n := zs.length) (fun i c => (∃ v0, c.1.data = .cell v0) ∧ c.2.1 = lev vs i)
    (fun c => (tl, listOf tv0.toArray n1) :: (rl, listOf rv.toArray n3) :: (c1, o1) :: (c2, o2) :: (c3, c.1) :: (c4, o4) :: (c5, o5) :: (c6, o6) :: (Led w zs ++ oth))
    (fun c => [("level", .int c.2.1 c.2.2)]) (o3, 0, _) rfl lR (small_one (by omega) (by omega) (by omega) (by omega)) (by first | exact rangeSize_nat _ _ | rfl) lF lN D (by tbn_conj) ⟨⟨_, d3⟩, rfl⟩ ?turn ?done
  case turn =>
    intro i t c u h tk0 I oI hi hJ F1 N1 D1
    obtain ⟨o3', lv, tlv⟩ := c
    dsimp only at hJ F1 N1 D1
    obtain ⟨⟨v0, d3'⟩, hlv⟩ := hJ
    obtain ⟨z, hz⟩ : ∃ z, zs[i]? = some z := ⟨_, List.getElem?_eq_getElem hi⟩
    have hi10 : (i : Int) < 10 := by omega
    have e0 : (0 + (i : Int)) = (i : Int) := by omega
    rw [e0]
    have hti : tv0[i]? = some (.ref z.t) := by rw [htv]; simp [ts, hz]
    obtain ⟨v, hvi⟩ : ∃ v, vs[i]? = some v := ⟨_, List.getElem?_eq_getElem (by omega)⟩
    obtain ⟨tv, hvt⟩ := hrv.2 i v hvi
    have ho1 := occ_op v (hLV v (List.mem_of_getElem? hvi))
    have ho2 := occ_cl v (hLV v (List.mem_of_getElem? hvi))
    obtain ⟨⟨hz1, hz2⟩, hpz⟩ := hpen i z hz
    have hmz : ∀ p ∈ Mine.tk w z, p ∈ Led w zs := fun p hp => Led_mem (List.mem_of_getElem? hz) hp
    have hlb : lv < 100 ∧ -100 < lv := by have := lev_le vs i; omega
    obtain ⟨R, p1, p2⟩ := led1 w zs i z hz
    have pp : ∀ o3' : Obj, ((I, oI) :: (tl, listOf tv0.toArray n1) :: (rl, listOf rv.toArray n3) :: (c1, o1) :: (c2, o2) :: (c3, o3') :: (c4, o4) :: (c5, o5) :: (c6, o6) :: (Led w zs ++ oth)).Perm (Mine.tk w z ++ ((I, oI) :: (tl, listOf tv0.toArray n1) :: (rl, listOf rv.toArray n3) :: (c1, o1) :: (c2, o2) :: (c3, o3') :: (c4, o4) :: (c5, o5) :: (c6, o6) :: (R ++ oth))) := fun o3' => permOf fun x => by
      have := cnt_perm p1 x
      simp only [cnt_cons, cnt_app] at this ⊢; omega
    have N2 := News.perm N1 (pp _)
    have D2 := D1.perm (pp _)
    simp only [Mine.tk, List.cons_append, List.nil_append] at N2 D2
    clear N1
    refine wpAny_mono (Q := CutU fun s₃ => ∃ h3 tk3 o3'', s₃ = { s with heap := h3, toks := tk3 } ∧ o3''.data = Data.cell (some (Value.int (i : Int) t)) ∧ Fr h₀ L h3 (kstB u [("level", .int lv tlv)]) ∧
      News h₀ L h3 (Mine.tk w z ++ ((I, oI) :: (tl, listOf tv0.toArray n1) :: (rl, listOf rv.toArray n3) :: (c1, o1) :: (c2, o2) :: (c3, o3'') :: (c4, o4) :: (c5, o5) :: (c6, o6) :: (R ++ oth)))) ?_ ?_ (fun _ _ e => e)
    · k_steps
      exact ⟨_, _, _, rfl, by assumption, by assumption, by assumption⟩
    rintro _ _ ⟨h3, tk3, o3'', rfl, d3'', F3, N3⟩
    have D3 := NN.same (b := (I, oI) :: (tl, listOf tv0.toArray n1) :: (rl, listOf rv.toArray n3) :: (c1, o1) :: (c2, o2) :: (c3, o3'') :: (c4, o4) :: (c5, o5) :: (c6, o6) :: (Led w zs ++ oth)) D1 rfl
    simp only [Mine.tk, List.cons_append, List.nil_append] at N3
    clear N2 F1 D2
    refine cut (Mid := fun s' => ∃ h' tk', s' = { s with heap := h', toks := tk' } ∧ Fr h₀ L h' (kstB u [("level", .int lv tlv)]) ∧
      News h₀ L h' ((I, oI) :: (tl, listOf tv0.toArray n1) :: (rl, listOf rv.toArray n3) :: (c1, o1) :: (c2, o2) :: (c3, o3'') :: (c4, o4) :: (c5, o5) :: (c6, o6) :: (Led w zs ++ oth))) ?_ ?_
    · obtain ⟨P, hP1, hP2, hget⟩ : ∃ P : Int, ((i ≠ 0 ∧ lv = 0) → P = 1000000) ∧ (¬ (i ≠ 0 ∧ lv = 0) → P = 0) ∧ ∀ tn : Tok, ∃ te : Tok, (valueAt z.kv SP).getD (.int 0 tn) = .int P te := by
        by_cases hcond : i ≠ 0 ∧ lev vs i = 0
        · rw [if_pos hcond] at hpz
          obtain ⟨t9, hpz⟩ := hpz
          exact ⟨1000000, fun _ => rfl, fun h => absurd ⟨hcond.1, by omega⟩ h, fun tn => ⟨t9, by rw [hpz]; rfl⟩⟩
        · rw [if_neg hcond] at hpz
          exact ⟨0, fun h => absurd ⟨h.1, by omega⟩ hcond, fun _ => rfl, fun tn => ⟨tn, by rw [hpz]; rfl⟩⟩
      k_steps
      all_goals first
        | (exfalso; omega)
        | (rename Fr h₀ _ _ _ => F6; rename News h₀ _ _ _ => N6; exact ⟨rfl, _, _, rfl, F6, News.perm N6 (pp o3'').symm⟩)
        | trace_state
    · rintro s' ⟨h4, tk4, rfl, F4, N4⟩
      clear N3 F3
      by_cases hop : v ∈ opS
      · have hcs : v ∉ clS := op_not_cl v hop
        rw [decide_eq_true hop, Bool.not_true] at ho1
        rw [decide_eq_false hcs, Bool.not_false] at ho2
        k_steps
        rename Fr h₀ _ _ _ => F6
        rename News h₀ _ _ _ => N6
        refine Turn2.next (o3'', lv + 1 - 0, _) F6 N6 D3 (by tbn_conj) ⟨⟨_, d3''⟩, ?_⟩
        show lv + 1 - 0 = lev vs (i + 1)
        rw [lev_op hvi hop, hlv]; omega
      · rw [decide_eq_false hop, Bool.not_false] at ho1
        by_cases hcs : v ∈ clS
        · rw [decide_eq_true hcs, Bool.not_true] at ho2
          k_steps
          rename Fr h₀ _ _ _ => F6
          rename News h₀ _ _ _ => N6
          refine Turn2.next (o3'', lv + 0 - 1, _) F6 N6 D3 (by tbn_conj) ⟨⟨_, d3''⟩, ?_⟩
          show lv + 0 - 1 = lev vs (i + 1)
          rw [lev_cl hvi hop hcs, hlv]; omega
        · rw [decide_eq_false hcs, Bool.not_false] at ho2
          k_steps
          rename Fr h₀ _ _ _ => F6
          rename News h₀ _ _ _ => N6
          refine Turn2.next (o3'', lv + 0 - 0, _) F6 N6 D3 (by tbn_conj) ⟨⟨_, d3''⟩, ?_⟩
          show lv + 0 - 0 = lev vs (i + 1)
          rw [lev_no hvi hop hcs, hlv]; omega
  case done =>
    intro c u h tk hJ F1 N1 D1
    obtain ⟨o3', lv, tlv⟩ := c
    dsimp only at hJ F1 N1 D1
    k_steps
    exact hQ _ _ _ F1
end Mine
end
/- W35 -/
section
open PySem PySem.W PyProof.Rows PySem.Calls
set_option maxRecDepth 100000
set_option linter.unusedVariables false
namespace Mine
local macro_rules | `(tactic| k_all) => `(tactic| assumption)
local macro_rules | `(tactic| k_mem) => `(tactic| assumption)
local macro_rules | `(tactic| tbn_conj) => `(tactic| first | exact List.forall_mem_nil _ | (refine List.forall_mem_cons.mpr ⟨?_, ?_⟩; (focus (with_unfolding_all rfl)); tbn_conj))
local macro_rules | `(tactic| kqd_sub) => `(tactic| first | exact List.Sublist.refl _ | (refine List.Sublist.cons_cons _ ?_; kqd_sub) | (refine List.Sublist.cons _ ?_; kqd_sub))
local macro_rules | `(tactic| kd_addW) => `(tactic| first | exact UpdW.head | (refine' UpdW.tail ?b; (case b => kd_addW)))
local macro_rules | `(tactic| kd_addB) => `(tactic| first | exact UpdWF.head | (refine' UpdWF.tail ?b; (case b => kd_addB)))
local macro_rules | `(tactic| k_upd) => `(tactic| ((with_reducible rename NN _ => dN); exact updNN dN rfl (by kd_addW)))
local macro_rules | `(tactic| k_updF) => `(tactic| ((with_reducible rename NN _ => dN); exact updFNN dN rfl (by kd_addB)))
local macro_rules | `(tactic| w_means) => `(tactic| (refine permOf fun x => ?_; (try simp only [cnt_app, cnt_cons, cnt_nil]); omega))
theorem fill35 : ∀ (w : World) (h : Heap), (KF w.params).In h → PySem.Challenge.rw_bu5045_01.row.prog = PySem.Challenge.rw_bu5045_01.row.prog := by
  k_fill; intros; rfl
local macro_rules | `(tactic| kqd_sub) => `(tactic| exact List.sublist_append_left _ _)
local macro_rules | `(tactic| walk_at "call builtin:len") => `(tactic| (k_here; (with_reducible show wpAny _ _ (call (Value.builtin "len") [Value.ref _]) _ _ _); k_dflt (refine' len_V ?N ?m ?z ?_; (case N => k_asm); (case m => k_mem); (case z => first | assumption | omega); k_whole)))
local macro_rules | `(tactic| walk_at "subscriptTail") => `(tactic| (k_here; (with_reducible show wpAny _ _ (subscriptTail _ _ (Value.ref _) (Value.int _ _)) _ _ _); (with_unfolding_all refine' item_at ?N ?m ?x ?k ?f ?_ ?s; (case N => k_asm); (case m => k_mem); (first | ((case k => exact rfl); (case x => assumption)) | ((case x => assumption); (case k => omega))); (case f => omega); (case s => with_unfolding_all rfl); k_whole)))
local macro_rules | `(tactic| walk_at "call builtin:dict.get") => `(tactic| (k_here; (with_reducible show wpAny _ _ (call (Value.builtin _) [Value.ref _, Value.int _ _]) _ _ _); k_dflt (refine' kdg_get1 (knd := PySem.intKind _ _) ?N ?m ?d ?l (intKind_is _ _ _ _) _ ?x ?_; (case N => k_asm); (case m => k_mem); (case d => assumption); (case l => assumption); (case x => assumption); k_whole); (try dsimp only [Option.getD])))
local macro_rules | `(tactic| walk_at "call builtin:dict.get") => `(tactic| (k_here; (with_reducible show wpAny _ _ (call (Value.builtin _) [Value.ref _, Value.int _ _, _]) _ _ _); k_dflt (refine' kdg_get2 (knd := PySem.intKind _ _) ?N ?m ?d ?l (intKind_is _ _ _ _) _ ?x ?_; (case N => k_asm); (case m => k_mem); (case d => assumption); (case l => assumption); (case x => assumption); k_whole); (try dsimp only [Option.getD])))
def ifB : Stmt → List Stmt
  | .If _ b _ _ => b
  | _ => []
def forB : Stmt → List Stmt
  | .For _ _ b .. => b
  | _ => []
/-- the body of the checking loop -/
def lpB : List Stmt := forB ((ifB (lawB.getD 11 (.Pass ⟨0,0,0,0⟩))).getD 0 (.Pass ⟨0,0,0,0⟩))
theorem list_values_V {prog : Program} {w : World} {A : Around} {E : Value → Shared → Prop} {s : Shared} {h₀ : Heap} {L d v : Addr} {m : Str → Option Value} {news : List (Addr × Obj)} {Q : Value → Shared → Prop} {o : Obj} {kvs : List (Int × Value)} (hh : A.handled = none) (F : Fr h₀ L s.heap m) (N : News h₀ L s.heap news)
    (hv : (v, ({ cls := .type "dict_values", data := .fields #[.ref d] } : Obj)) ∈ news) (hp : (d, o) ∈ news) (hd : o.IsDictOf (intKind prog w) kvs) (hn : kvs.length ≤ 16777216)
    (h : ∀ (B : Addr) c h' tk, Fr h₀ L h' m → News h₀ L h' ((B, listOf (kvs.map (·.2)).toArray c) :: news) → (∀ q ∈ news, q.1 < B) → Q (.ref B) { s with heap := h', toks := tk }) :
    wpAny (model prog w) A (call (.type "list") [.ref v]) Q E s := by
  obtain ⟨ep, hat⟩ := (kda_dict N hp hd).dictAt
  refine kdl_N (kdl_values (knd := intKind prog w) (kvs := kvs) (ep := ep)) hh F N ⟨⟨_, (N _ hv).1, rfl, rfl⟩, hat⟩ (kdl_size hn) fun B c h' tk vs F' N' l1 hl hv => ?_
  have e := kdl_vals_eq vs hl hv
  subst e
  exact h B c h' tk F' N' l1
theorem kf_ints_of : ∀ {vs : List Value} {ns : List Int}, IntsAre vs ns → kf_ints vs = true
  | _, _, .nil => rfl
  | _, _, .cons (vs := vs) n t h => by
    show kf_ints vs = true
    exact kf_ints_of h
theorem any_of : ∀ {vs : List Value} {ns : List Int} (k : Int), IntsAre vs ns → vs.any (isInt k) = decide (k ∈ ns)
  | _, _, k, .nil => by simp
  | _, _, k, .cons n t h => by
    rw [List.any_cons, any_of k h]
    by_cases e : k = n
    · subst e; simp [isInt]
    · simp [isInt, e, Ne.symm e]
theorem in_V {prog : Program} {w : World} {A : Around} {E : Value → Shared → Prop} {s : Shared} {h₀ : Heap} {L D : Addr} {news : List (Addr × Obj)} {Q : Value → Shared → Prop} {vs : List Value} {ns : List Int} {n : Nat} {k : Int} {t : Tok} {b : Bool} (N : News h₀ L s.heap news) (hm : (D, listOf vs.toArray n) ∈ news) (hi : IntsAre vs ns) (e : decide (k ∈ ns) = b) (h : Q (.bool b) s) :
    wpAny (model prog w) A (compareOp .In (.int k t) (.ref D)) Q E s := by
  refine kf_in (b := b) N hm ?_ ?_ h
  · rw [List.toList_toArray]; exact kf_ints_of hi
  · rw [List.toList_toArray, any_of k hi]; exact e
local macro_rules | `(tactic| walk_at "compareOp In int ref") => `(tactic| (k_here; (with_reducible show wpAny _ _ (compareOp CmpOp.In (Value.int _ _) (Value.ref _)) _ _ _); k_dflt (refine' in_V ?N ?m ?i ?e ?_; (case N => k_asm); (case m => k_mem); (case i => assumption); (case e => assumption); k_whole)))
set_option maxHeartbeats 4000000 in
theorem t1 : ∀ (w : World) (A₀ : Around) (h₀ : Heap) (L fa : Addr) (cd : Value) (c1 c2 c3 c4 c5 c6 : Addr) (o1 o2 o3 o4 o5 o6 : Obj) (s : Shared) (mean : ExcName → Option Value) (mg mb : Str → Option Value)
    (ln tl rl ol wl pd : Addr) (op : Obj) (zs : List Z) (tv0 rv ov wv : List Value) (wi : List (Option Nat)) (kl : List (Nat × Nat × Tok)) (n1 n3 n4 n5 k : Nat) (tk0 : Tok) (oth : List (Addr × Obj)) (Q : Flow → Shared → Prop) (rest : List Stmt) ,
    Gd w A₀ h₀ mean mg mb → Pl h₀ L s.heap [("line", .ref ln)] ((pd, op) :: (tl, listOf tv0.toArray n1) :: (rl, listOf rv.toArray n3) :: (ol, listOf ov.toArray n4) :: (wl, listOf wv.toArray n5) :: (cellL c1 c2 c3 c4 c5 c6 o1 o2 o3 o4 o5 o6 ++ (Led w zs ++ oth))) →
    Cells (some (.ref tl)) (some (.ref rl)) (some (.int (k : Int) tk0)) (some (.ref ol)) (some (.ref wl)) (some (.ref pd)) o1 o2 o3 o4 o5 o6 → k < zs.length → zs.length ≤ 10 → op.IsDictOf (intKind PySem.Challenge.rw_bu5045_01.row.prog w) (kvOf kl) → (pd == sysModules) = false →
    (∀ h' tk mv, OptIs mv ((psOf kl).lookup k) → Pl h₀ L h' [("line", .ref ln), ("match", mv)] ((pd, op) :: (tl, listOf tv0.toArray n1) :: (rl, listOf rv.toArray n3) :: (ol, listOf ov.toArray n4) :: (wl, listOf wv.toArray n5) :: (cellL c1 c2 c3 c4 c5 c6 o1 o2 o3 o4 o5 o6 ++ (Led w zs ++ oth))) → wpAny (model PySem.Challenge.rw_bu5045_01.row.prog w) (callerA.deeper (lawE L fa cd c1 c2 c3 c4 c5 c6)) (execs rest (lawE L fa cd c1 c2 c3 c4 c5 c6)) Q (fun _ _ => False) { s with heap := h', toks := tk }) →
    wpAny (model PySem.Challenge.rw_bu5045_01.row.prog w) (callerA.deeper (lawE L fa cd c1 c2 c3 c4 c5 c6)) (execs ((lpB.drop 0).take 1 ++ rest) (lawE L fa cd c1 c2 c3 c4 c5 c6)) Q (fun _ _ => False) s := by
  k_fill
  intro w A₀ h₀ L fa cd c1 c2 c3 c4 c5 c6 o1 o2 o3 o4 o5 o6 s mean mg mb ln tl rl ol wl pd op zs tv0 rv ov wv wi kl n1 n3 n4 n5 k tk0 oth Q rest  ⟨B, X, T, YO, YC⟩ ⟨⟨m, F, hm⟩, N, D⟩ ⟨d1, d2, d3, d4, d5, d6⟩ hk hlen hop hlo hQ
  rw [← kst_self hm] at F
  have hB := @id ((lpB.drop 0).take 1 = _ :: []) rfl
  rw [hB]
  simp only [List.cons_append, List.nil_append]
  clear hB
  unfold cellL at *
  simp only [List.cons_append, List.nil_append] at N D
  have hk10 : (k : Int) < 10 := by omega
  rcases lookup_kl kl k with ⟨c, tc, hv, hl⟩ | ⟨hv, hl⟩
  · k_steps
    rename Fr h₀ _ _ _ => F6
    rename News h₀ _ _ _ => N6
    exact hQ _ _ _ (by rw [hl]; exact ⟨tc, rfl⟩) ⟨⟨_, F6, by tbn_conj⟩, N6, D⟩
  · k_steps
    rename Fr h₀ _ _ _ => F6
    rename News h₀ _ _ _ => N6
    exact hQ _ _ _ (by rw [hl]; exact rfl) ⟨⟨_, F6, by tbn_conj⟩, N6, D⟩
local macro_rules | `(tactic| walk_at "subscriptTail") => `(tactic| (k_here; (with_reducible show wpAny _ _ (subscriptTail _ _ (Value.ref _) (Value.int _ _)) _ _ _); (with_unfolding_all refine' kda_item (knd := PySem.intKind _ _) ?N ?m ?d (intKind_is _ _ _ _) ?x ?_ ?s; (case N => k_asm); (case m => k_mem); (case d => assumption); (case x => assumption); (case s => with_unfolding_all rfl); k_whole)))
local macro_rules | `(tactic| walk_at "subscriptTail") => `(tactic| (k_here; (with_reducible show wpAny _ _ (subscriptTail _ _ (Value.ref _) (Value.int 0 _)) _ _ _); (with_unfolding_all refine' item_at (i := 0) ?N ?m ?x rfl (by decide) ?_ ?s; (case N => k_asm); (case m => k_mem); (case x => assumption); (case s => with_unfolding_all rfl); k_whole)))
theorem kv_len (kl : List (Nat × Nat × Tok)) : (kvOf kl).length = kl.length := by simp [kvOf]
def valsI (kl : List (Nat × Nat × Tok)) : List Int := kl.map fun p => (p.2.1 : Int)
theorem vals_are : ∀ kl : List (Nat × Nat × Tok), IntsAre ((kvOf kl).map (·.2)) (valsI kl)
  | [] => .nil
  | p :: r => .cons _ _ (vals_are r)
/-- the keys that are closed at k, among the first i pairs -/
def keysAt (kl : List (Nat × Nat × Tok)) (k i : Nat) : List Nat := (((psOf kl).take i).filter fun q => q.2 == k).map (·.1)
theorem keysAt_succ {kl : List (Nat × Nat × Tok)} {k i : Nat} {p : Nat × Nat × Tok} (h : kl[i]? = some p) : keysAt kl k (i + 1) = keysAt kl k i ++ (if p.2.1 = k then [p.1] else []) := by
  unfold keysAt
  have e : (psOf kl)[i]? = some (p.1, p.2.1) := by unfold psOf; rw [List.getElem?_map, h]; rfl
  rw [List.take_add_one, e, Option.toList_some, List.filter_append, List.map_append]
  by_cases c : p.2.1 = k
  · rw [if_pos c, List.filter_cons_of_pos (by simpa using c)]; rfl
  · rw [if_neg c, List.filter_cons_of_neg (by simpa using c)]; rfl
local macro_rules | `(tactic| walk_at "call type:list") => `(tactic| (k_here; (with_reducible show wpAny _ _ (call (Value.type _) [Value.ref _]) _ _ _); k_dflt (refine' list_values_V ?hh ?F ?N ?v ?p ?d ?n ?_; (case hh => rfl); (case F => k_asm); (case N => k_asm); (case v => k_mem); (case p => k_mem); (case d => assumption); (case n => assumption); k_whole); intro B' c' h' tk' F' N' l1))
local macro_rules | `(tactic| walk_at "eval ListComp") => `(tactic| (k_here; k_dflt (refine LC_D (F₀ := by k_asm) (by with_unfolding_all rfl) (by decide) (by rfl) (by decide) (by rfl) ?_)))
set_option maxHeartbeats 4000000 in
theorem t2 : ∀ (w : World) (A₀ : Around) (h₀ : Heap) (L fa : Addr) (cd : Value) (c1 c2 c3 c4 c5 c6 : Addr) (o1 o2 o3 o4 o5 o6 : Obj) (s : Shared) (mean : ExcName → Option Value) (mg mb : Str → Option Value)
    (ln tl rl ol wl pd : Addr) (op : Obj) (zs : List Z) (tv0 rv ov wv : List Value) (wi : List (Option Nat)) (kl : List (Nat × Nat × Tok)) (n1 n3 n4 n5 k : Nat) (tk0 : Tok) (oth : List (Addr × Obj)) (Q : Flow → Shared → Prop) (rest : List Stmt) (mv : Value),
    Gd w A₀ h₀ mean mg mb → Pl h₀ L s.heap [("line", .ref ln), ("match", mv)] ((pd, op) :: (tl, listOf tv0.toArray n1) :: (rl, listOf rv.toArray n3) :: (ol, listOf ov.toArray n4) :: (wl, listOf wv.toArray n5) :: (cellL c1 c2 c3 c4 c5 c6 o1 o2 o3 o4 o5 o6 ++ (Led w zs ++ oth))) →
    Cells (some (.ref tl)) (some (.ref rl)) (some (.int (k : Int) tk0)) (some (.ref ol)) (some (.ref wl)) (some (.ref pd)) o1 o2 o3 o4 o5 o6 → k < zs.length → zs.length ≤ 10 → op.IsDictOf (intKind PySem.Challenge.rw_bu5045_01.row.prog w) (kvOf kl) → (pd == sysModules) = false → kl.length ≤ 1000 → (kl.map (·.1)).Nodup → OptIs mv ((psOf kl).lookup k) →
    (∀ h' tk mv, OptIs mv (mP (psOf kl) k) → Pl h₀ L h' [("line", .ref ln), ("match", mv)] ((pd, op) :: (tl, listOf tv0.toArray n1) :: (rl, listOf rv.toArray n3) :: (ol, listOf ov.toArray n4) :: (wl, listOf wv.toArray n5) :: (cellL c1 c2 c3 c4 c5 c6 o1 o2 o3 o4 o5 o6 ++ (Led w zs ++ oth))) → wpAny (model PySem.Challenge.rw_bu5045_01.row.prog w) (callerA.deeper (lawE L fa cd c1 c2 c3 c4 c5 c6)) (execs rest (lawE L fa cd c1 c2 c3 c4 c5 c6)) Q (fun _ _ => False) { s with heap := h', toks := tk }) →
    wpAny (model PySem.Challenge.rw_bu5045_01.row.prog w) (callerA.deeper (lawE L fa cd c1 c2 c3 c4 c5 c6)) (execs ((lpB.drop 1).take 1 ++ rest) (lawE L fa cd c1 c2 c3 c4 c5 c6)) Q (fun _ _ => False) s := by
  k_fill
  intro w A₀ h₀ L fa cd c1 c2 c3 c4 c5 c6 o1 o2 o3 o4 o5 o6 s mean mg mb ln tl rl ol wl pd op zs tv0 rv ov wv wi kl n1 n3 n4 n5 k tk0 oth Q rest mv ⟨B, X, T, YO, YC⟩ ⟨⟨m, F, hm⟩, N, D⟩ ⟨d1, d2, d3, d4, d5, d6⟩ hk hlen hop hlo hkl hnd hmv hQ
  rw [← kst_self hm] at F
  have hB := @id ((lpB.drop 1).take 1 = _ :: []) rfl
  rw [hB]
  simp only [List.cons_append, List.nil_append]
  clear hB
  unfold cellL at *
  simp only [List.cons_append, List.nil_append] at N D
  have hk10 : (k : Int) < 10 := by omega
  have hkv : (kvOf kl).length ≤ 16777216 := by rw [kv_len]; omega
  have hvi := vals_are kl
  by_cases hin : (k : Int) ∈ valsI kl
  · have hin' : decide ((k : Int) ∈ valsI kl) = true := decide_eq_true hin
    k_steps
    rename Fr h₀ _ _ _ => F6
    rename News h₀ _ _ _ => N6
    refine ⟨pd, op, kvOf kl, ((pd, op) :: (tl, listOf tv0.toArray n1) :: (rl, listOf rv.toArray n3) :: (ol, listOf ov.toArray n4) :: (wl, listOf wv.toArray n5) :: (c1, o1) :: (c2, o2) :: (c3, o3) :: (c4, o4) :: (c5, o5) :: (c6, o6) :: (Led w zs ++ oth)), rfl, rfl, F6, News.sub N6 (by kqd_sub), .head _, hop, hlo, by rw [sizeLine_eq]; exact hkv, ?_⟩
    rintro _ ⟨g, rfl⟩
    refine comp_invT (fun i ys => IntsAre ys (natI (keysAt kl k i))) (.head _) D .nil ?turn ?done
    case turn =>
      intro i v ys I oI C oC D' m₂ h tk E' hi hv hJ hC hx F1 N1 D1
      obtain ⟨kk, t, y, hkvi, rfl⟩ := hv
      obtain ⟨p, hp⟩ : ∃ p, kl[i]? = some p := ⟨_, List.getElem?_eq_getElem (by rw [kv_len] at hi; exact hi)⟩
      have hkk : kk = (p.1 : Int) := by
        have e : (kvOf kl)[i]? = some ((p.1 : Int), .int (p.2.1 : Int) p.2.2) := by unfold kvOf; rw [List.getElem?_map, hp]; rfl
        rw [e] at hkvi
        exact (congrArg Prod.fst (Option.some.inj hkvi)).symm
      subst hkk
      have hval := valueAt_mem hnd hp
      clear N6 F6
      have hnx := keysAt_succ (k := k) hp
      k_steps
      · rename (p.2.1 : Int) = (k : Int) => hc
        rename Fr h₀ _ _ _ => F8
        rename News h₀ _ _ _ => N8
        rw [if_pos (Int.ofNat.inj hc)] at hnx
        exact EltQ.intro F8 N8 (by show IntsAre _ (natI (keysAt kl k (i + 1))); rw [hnx, natI_snoc]; exact ksk_snoc hJ)
      · rename ¬ (p.2.1 : Int) = (k : Int) => hc
        rename Fr h₀ _ _ _ => F8
        rename News h₀ _ _ _ => N8
        rw [if_neg (fun e => hc (congrArg Int.ofNat e)), List.append_nil] at hnx
        exact SkipQ.intro F8 N8 (by show IntsAre _ (natI (keysAt kl k (i + 1))); rw [hnx]; exact hJ)
    case done =>
      intro ys hys D' h tk F1 N1 o1'
      obtain ⟨j, hj, hmj⟩ : ∃ j, (keysAt kl k (kvOf kl).length)[0]? = some j ∧ mP (psOf kl) k = some j := by
        obtain ⟨p, hp, ep⟩ := List.mem_map.mp hin
        have hq : (p.1, p.2.1) ∈ (psOf kl).filter fun q => q.2 == k := List.mem_filter.mpr ⟨List.mem_map.mpr ⟨p, hp, rfl⟩, by simpa using Int.ofNat.inj ep⟩
        have hl : (psOf kl).take (kvOf kl).length = psOf kl := List.take_of_length_le (by rw [kv_len]; simp [psOf])
        unfold keysAt mP
        rw [hl]
        cases hf : (psOf kl).filter fun q => q.2 == k with
        | nil => rw [hf] at hq; cases hq
        | cons a r => exact ⟨a.1, rfl, rfl⟩
      obtain ⟨t0, hy0⟩ := hys.get 0 (j : Int) (by unfold natI; rw [List.getElem?_map, hj]; rfl)
      clear N6 F6
      k_steps
      rename Fr h₀ _ _ _ => F8
      rename News h₀ _ _ _ => N8
      exact hQ _ _ (.int (j : Int) t0) (by rw [hmj]; exact ⟨t0, rfl⟩) ⟨⟨_, F8, by tbn_conj⟩, News.sub N8 (by kqd_sub), D⟩
  · have hin' : decide ((k : Int) ∈ valsI kl) = false := decide_eq_false hin
    k_steps
    rename Fr h₀ _ _ _ => F6
    rename News h₀ _ _ _ => N6
    have hm0 : mP (psOf kl) k = (psOf kl).lookup k := by
      unfold mP
      rw [List.filter_eq_nil_iff.mpr fun q hq => ?_]
      · rfl
      · obtain ⟨p, hp, rfl⟩ := List.mem_map.mp hq
        intro e
        exact hin (List.mem_map.mpr ⟨p, hp, by rw [show p.2.1 = k from by simpa using e]⟩)
    exact hQ _ _ mv (by rw [hm0]; exact hmv) ⟨⟨_, F6, by tbn_conj⟩, News.sub N6 (by kqd_sub), D⟩
end Mine
end
/- W36 -/
section
open PySem PySem.W PyProof.Rows PySem.Calls
set_option maxRecDepth 100000
set_option linter.unusedVariables false
namespace Mine
local macro_rules | `(tactic| k_all) => `(tactic| assumption)
local macro_rules | `(tactic| k_mem) => `(tactic| assumption)
local macro_rules | `(tactic| tbn_conj) => `(tactic| first | exact List.forall_mem_nil _ | (refine List.forall_mem_cons.mpr ⟨?_, ?_⟩; (focus (with_unfolding_all rfl)); tbn_conj))
local macro_rules | `(tactic| kqd_sub) => `(tactic| first | exact List.Sublist.refl _ | (refine List.Sublist.cons_cons _ ?_; kqd_sub) | (refine List.Sublist.cons _ ?_; kqd_sub))
local macro_rules | `(tactic| kd_addW) => `(tactic| first | exact UpdW.head | (refine' UpdW.tail ?b; (case b => kd_addW)))
local macro_rules | `(tactic| kd_addB) => `(tactic| first | exact UpdWF.head | (refine' UpdWF.tail ?b; (case b => kd_addB)))
local macro_rules | `(tactic| k_upd) => `(tactic| ((with_reducible rename NN _ => dN); exact updNN dN rfl (by kd_addW)))
local macro_rules | `(tactic| k_updF) => `(tactic| ((with_reducible rename NN _ => dN); exact updFNN dN rfl (by kd_addB)))
local macro_rules | `(tactic| w_means) => `(tactic| (refine permOf fun x => ?_; (try simp only [cnt_app, cnt_cons, cnt_nil]); omega))
theorem fill36 : ∀ (w : World) (h : Heap), (KF w.params).In h → PySem.Challenge.rw_bu5045_01.row.prog = PySem.Challenge.rw_bu5045_01.row.prog := by
  k_fill; intros; rfl
local macro_rules | `(tactic| kqd_sub) => `(tactic| exact List.sublist_append_left _ _)
local macro_rules | `(tactic| walk_at "subscriptTail") => `(tactic| (k_here; (with_reducible show wpAny _ _ (subscriptTail _ _ (Value.ref _) (Value.int _ _)) _ _ _); (with_unfolding_all refine' item_at ?N ?m ?x ?k ?f ?_ ?s; (case N => k_asm); (case m => k_mem); (first | ((case k => exact rfl); (case x => assumption)) | ((case x => assumption); (case k => omega))); (case f => omega); (case s => with_unfolding_all rfl); k_whole)))
local macro_rules | `(tactic| walk_at "call ref") => `(tactic| (k_here; (with_reducible show wpAny _ _ (call (Value.ref 564) _) _ _ _); (refine Stop.go ?_)))
theorem ts_nodup {w : World} {zs : List Z} {l : List (Addr × Obj)} (d : NN l) (hs : ∃ r, l.Perm (Led w zs ++ r)) : (ts zs).Nodup := by
  obtain ⟨r, p⟩ := hs
  have h := d.perm p
  unfold NN at h
  rw [List.map_append] at h
  have h1 := (List.nodup_append.mp h).1
  clear h p d
  induction zs with
  | nil => exact List.nodup_nil
  | cons z r ih =>
    rw [Led_cons, List.map_append] at h1
    obtain ⟨h2, h3, h4⟩ := List.nodup_append.mp h1
    refine List.nodup_cons.mpr ⟨fun hm => ?_, ih h3⟩
    obtain ⟨y, hy, e⟩ := List.mem_map.mp hm
    refine h4 z.t (by simp [Mine.tk]) z.t ?_ rfl
    exact List.mem_map.mpr ⟨(y.t, instObj 410 y.dt), Led_mem hy (by simp [Mine.tk]), e⟩
theorem placeU {w : World} {A₀ A : Around} {base h₀ : Heap} {L : Addr} {m : Str → Option Value} {env : Env} {outer : List Env} {E : Value → Shared → Prop} {s : Shared} {mean : ExcName → Option Value} {mg mb : Str → Option Value}
    {tl : Addr} {zs : List Z} {nn : Nat} {o : Option Nat} {led oth : List (Addr × Obj)} {v : Value} {Q : Value → Shared → Prop}
    (B : Below A₀ base outer h₀) (F : Fr h₀ L s.heap m) (X : (KF w.params).In h₀) (T : Top qv (looseW qv lz) mean mg mb h₀) (hA : A.frames = some (env :: outer)) (hf : env.frame = some L) (hke : env.scope.kind = .function) (hroom : A.depth < recursionLimit) (hhd : A.handled = none)
    (N : News h₀ L s.heap led) (D : NN led) (hp : led.Perm ((tl, listOf ((ts zs).map Value.ref).toArray nn) :: (Led w zs ++ oth))) (hlen : zs.length ≤ 10) (ho : ∀ j, o = some j → j < zs.length) (hv : v = valOf (ts zs) o)
    (hQ : ∀ h' tk u, Fr h₀ L h' m → News h₀ L h' led → OptIs u o → Q u { s with heap := h', toks := tk }) :
    wpAny (model PySem.Challenge.rw_bu5045_01.row.prog w) A (call (.ref 564) [.ref tl, v]) Q E s := by
  subst hv
  have hl : (ts zs).length = zs.length := by simp [ts]
  refine law_place w A₀ A base h₀ L m env outer E s mean mg mb tl (ts zs) nn o (Led w zs ++ oth) Q B F X T hA hf hke hroom hhd (News.perm N hp) (D.perm hp) (by rw [hl]; exact hlen) (ts_nodup (D.perm hp).tail ⟨oth, List.Perm.refl _⟩) (fun a ha => ?_) (fun j hj => by rw [hl]; exact ho j hj) fun h' tk u F' N' hu => hQ h' tk u F' (News.perm N' hp.symm) ?_
  · obtain ⟨z, hz, rfl⟩ := List.mem_map.mp ha
    exact ⟨z.dt, List.mem_append_left _ (Led_mem hz (by simp [Mine.tk]))⟩
  · cases o <;> exact hu
theorem valOf_z {zs : List Z} {j : Nat} {y : Z} (h : zs[j]? = some y) : valOf (ts zs) (some j) = .ref y.t := by
  unfold valOf ts; simp [h]
set_option maxHeartbeats 4000000 in
theorem t3 : ∀ (w : World) (A₀ : Around) (h₀ : Heap) (L fa : Addr) (cd : Value) (c1 c2 c3 c4 c5 c6 : Addr) (o1 o2 o3 o4 o5 o6 : Obj) (s : Shared) (mean : ExcName → Option Value) (mg mb : Str → Option Value)
    (ln tl rl ol wl pd : Addr) (op : Obj) (zs : List Z) (tv0 rv ov wv : List Value) (wi : List (Option Nat)) (kl : List (Nat × Nat × Tok)) (n1 n3 n4 n5 k : Nat) (tk0 : Tok) (oth : List (Addr × Obj)) (Q : Flow → Shared → Prop) (rest : List Stmt) (mv : Value) (z : Z),
    Gd w A₀ h₀ mean mg mb → Pl h₀ L s.heap [("line", .ref ln), ("match", mv)] ((pd, op) :: (tl, listOf tv0.toArray n1) :: (rl, listOf rv.toArray n3) :: (ol, listOf ov.toArray n4) :: (wl, listOf wv.toArray n5) :: (cellL c1 c2 c3 c4 c5 c6 o1 o2 o3 o4 o5 o6 ++ (Led w zs ++ oth))) →
    Cells (some (.ref tl)) (some (.ref rl)) (some (.int (k : Int) tk0)) (some (.ref ol)) (some (.ref wl)) (some (.ref pd)) o1 o2 o3 o4 o5 o6 → k < zs.length → zs.length ≤ 10 → tv0 = (ts zs).map Value.ref → zs[k]? = some z → OptIs mv (mP (psOf kl) k) → (∀ j, mP (psOf kl) k = some j → j < zs.length) → z.M = valOf (ts zs) (mP (psOf kl) k) →
    (∀ h' tk , Pl h₀ L h' [("line", .ref ln)] ((pd, op) :: (tl, listOf tv0.toArray n1) :: (rl, listOf rv.toArray n3) :: (ol, listOf ov.toArray n4) :: (wl, listOf wv.toArray n5) :: (cellL c1 c2 c3 c4 c5 c6 o1 o2 o3 o4 o5 o6 ++ (Led w zs ++ oth))) → wpAny (model PySem.Challenge.rw_bu5045_01.row.prog w) (callerA.deeper (lawE L fa cd c1 c2 c3 c4 c5 c6)) (execs rest (lawE L fa cd c1 c2 c3 c4 c5 c6)) Q (fun _ _ => False) { s with heap := h', toks := tk }) →
    wpAny (model PySem.Challenge.rw_bu5045_01.row.prog w) (callerA.deeper (lawE L fa cd c1 c2 c3 c4 c5 c6)) (execs ((lpB.drop 2).take 1 ++ rest) (lawE L fa cd c1 c2 c3 c4 c5 c6)) Q (fun _ _ => False) s := by
  k_fill
  intro w A₀ h₀ L fa cd c1 c2 c3 c4 c5 c6 o1 o2 o3 o4 o5 o6 s mean mg mb ln tl rl ol wl pd op zs tv0 rv ov wv wi kl n1 n3 n4 n5 k tk0 oth Q rest mv z ⟨B, X, T, YO, YC⟩ ⟨⟨m, F, hm⟩, N, D⟩ ⟨d1, d2, d3, d4, d5, d6⟩ hk hlen htv hz hmv hlt hM hQ
  rw [← kst_self hm] at F
  have hB := @id ((lpB.drop 2).take 1 = _ :: []) rfl
  rw [hB]
  simp only [List.cons_append, List.nil_append]
  clear hB
  unfold cellL at *
  simp only [List.cons_append, List.nil_append] at N D
  have hk10 : (k : Int) < 10 := by omega
  subst htv
  generalize mP (psOf kl) k = o at hmv hlt hM
  have htz : ((ts zs).map Value.ref)[k]? = some (.ref z.t) := by simp [ts, hz]
  obtain ⟨R, p1, p2⟩ := led1 w zs k z hz
  have pp : (((pd, op) :: (tl, listOf ((ts zs).map Value.ref).toArray n1) :: (rl, listOf rv.toArray n3) :: (ol, listOf ov.toArray n4) :: (wl, listOf wv.toArray n5) :: (c1, o1) :: (c2, o2) :: (c3, o3) :: (c4, o4) :: (c5, o5) :: (c6, o6) :: (Led w zs ++ oth))).Perm (Mine.tk w z ++ (((pd, op) :: (tl, listOf ((ts zs).map Value.ref).toArray n1) :: (rl, listOf rv.toArray n3) :: (ol, listOf ov.toArray n4) :: (wl, listOf wv.toArray n5) :: (c1, o1) :: (c2, o2) :: (c3, o3) :: (c4, o4) :: (c5, o5) :: (c6, o6) :: (R ++ oth)))) := permOf fun x => by
    have := cnt_perm p1 x
    simp only [cnt_cons, cnt_app] at this ⊢; omega
  have pl : (Mine.tk w z ++ (((pd, op) :: (tl, listOf ((ts zs).map Value.ref).toArray n1) :: (rl, listOf rv.toArray n3) :: (ol, listOf ov.toArray n4) :: (wl, listOf wv.toArray n5) :: (c1, o1) :: (c2, o2) :: (c3, o3) :: (c4, o4) :: (c5, o5) :: (c6, o6) :: (R ++ oth)))).Perm ((tl, listOf ((ts zs).map Value.ref).toArray n1) :: (Led w zs ++ ((pd, op) :: (rl, listOf rv.toArray n3) :: (ol, listOf ov.toArray n4) :: (wl, listOf wv.toArray n5) :: (c1, o1) :: (c2, o2) :: (c3, o3) :: (c4, o4) :: (c5, o5) :: (c6, o6) :: oth))) := permOf fun x => by
    have := cnt_perm p1 x
    simp only [cnt_cons, cnt_app] at this ⊢; omega
  have N2 := News.perm N pp
  have D2 := D.perm pp
  simp only [Mine.tk, List.cons_append, List.nil_append] at N2 D2
  clear N
  rcases o with _ | j
  · have hM' : z.M = .none := hM
    have hmv' : mv = .none := hmv
    subst hmv'
    have N3 := N2
    rw [hM'] at N3
    clear N2
    k_steps
    refine ⟨placeU B F X T rfl rfl rfl (by k_room) rfl (N := by have := N3; rw [← hM'] at this; exact this) D2 pl hlen hlt (o := none) rfl ?_⟩
    intro h2 tk2 u F3 N4 hu
    have hu' : u = .none := hu
    subst hu'
    k_steps
    rename Fr h₀ _ _ _ => F8
    rename News h₀ _ _ _ => N8
    exact hQ _ _ ⟨⟨_, F8, by tbn_conj⟩, News.perm N8 pp.symm, D⟩
  · obtain ⟨y, hy⟩ : ∃ y, zs[j]? = some y := ⟨_, List.getElem?_eq_getElem (hlt j rfl)⟩
    have hM' : z.M = .ref y.t := by rw [hM, valOf_z hy]
    obtain ⟨tm, hmv'⟩ := hmv
    subst hmv'
    have N3 := N2
    rw [hM'] at N3
    clear N2
    k_steps
    refine ⟨placeU B F X T rfl rfl rfl (by k_room) rfl (N := by have := N3; rw [← hM'] at this; exact this) D2 pl hlen hlt (o := some j) (valOf_z hy).symm ?_⟩
    intro h2 tk2 u F3 N4 hu
    obtain ⟨tu, hu'⟩ := hu
    subst hu'
    k_steps
    all_goals first
      | (exfalso; omega)
      | (rename Fr h₀ _ _ _ => F8; rename News h₀ _ _ _ => N8; exact hQ _ _ ⟨⟨_, F8, by tbn_conj⟩, News.perm N8 pp.symm, D⟩)
set_option maxHeartbeats 4000000 in
theorem t8 : ∀ (w : World) (A₀ : Around) (h₀ : Heap) (L fa : Addr) (cd : Value) (c1 c2 c3 c4 c5 c6 : Addr) (o1 o2 o3 o4 o5 o6 : Obj) (s : Shared) (mean : ExcName → Option Value) (mg mb : Str → Option Value)
    (ln tl rl ol wl pd : Addr) (op : Obj) (zs : List Z) (tv0 rv ov wv : List Value) (wi : List (Option Nat)) (kl : List (Nat × Nat × Tok)) (n1 n3 n4 n5 k : Nat) (tk0 : Tok) (oth : List (Addr × Obj)) (Q : Flow → Shared → Prop) (rest : List Stmt) (mv : Value) (z : Z),
    Gd w A₀ h₀ mean mg mb → Pl h₀ L s.heap [("line", .ref ln), ("held", mv)] ((pd, op) :: (tl, listOf tv0.toArray n1) :: (rl, listOf rv.toArray n3) :: (ol, listOf ov.toArray n4) :: (wl, listOf wv.toArray n5) :: (cellL c1 c2 c3 c4 c5 c6 o1 o2 o3 o4 o5 o6 ++ (Led w zs ++ oth))) →
    Cells (some (.ref tl)) (some (.ref rl)) (some (.int (k : Int) tk0)) (some (.ref ol)) (some (.ref wl)) (some (.ref pd)) o1 o2 o3 o4 o5 o6 → k < zs.length → zs.length ≤ 10 → tv0 = (ts zs).map Value.ref → zs[k]? = some z → OptIs mv (heldP (psOf kl) wi zs.length k) → (∀ j, heldP (psOf kl) wi zs.length k = some j → j < zs.length) → z.C = valOf (ts zs) (heldP (psOf kl) wi zs.length k) →
    (∀ h' tk , Pl h₀ L h' [("line", .ref ln)] ((pd, op) :: (tl, listOf tv0.toArray n1) :: (rl, listOf rv.toArray n3) :: (ol, listOf ov.toArray n4) :: (wl, listOf wv.toArray n5) :: (cellL c1 c2 c3 c4 c5 c6 o1 o2 o3 o4 o5 o6 ++ (Led w zs ++ oth))) → wpAny (model PySem.Challenge.rw_bu5045_01.row.prog w) (callerA.deeper (lawE L fa cd c1 c2 c3 c4 c5 c6)) (execs rest (lawE L fa cd c1 c2 c3 c4 c5 c6)) Q (fun _ _ => False) { s with heap := h', toks := tk }) →
    wpAny (model PySem.Challenge.rw_bu5045_01.row.prog w) (callerA.deeper (lawE L fa cd c1 c2 c3 c4 c5 c6)) (execs ((lpB.drop 7).take 1 ++ rest) (lawE L fa cd c1 c2 c3 c4 c5 c6)) Q (fun _ _ => False) s := by
  k_fill
  intro w A₀ h₀ L fa cd c1 c2 c3 c4 c5 c6 o1 o2 o3 o4 o5 o6 s mean mg mb ln tl rl ol wl pd op zs tv0 rv ov wv wi kl n1 n3 n4 n5 k tk0 oth Q rest mv z ⟨B, X, T, YO, YC⟩ ⟨⟨m, F, hm⟩, N, D⟩ ⟨d1, d2, d3, d4, d5, d6⟩ hk hlen htv hz hmv hlt hM hQ
  rw [← kst_self hm] at F
  have hB := @id ((lpB.drop 7).take 1 = _ :: []) rfl
  rw [hB]
  simp only [List.cons_append, List.nil_append]
  clear hB
  unfold cellL at *
  simp only [List.cons_append, List.nil_append] at N D
  have hk10 : (k : Int) < 10 := by omega
  subst htv
  generalize heldP (psOf kl) wi zs.length k = o at hmv hlt hM
  have htz : ((ts zs).map Value.ref)[k]? = some (.ref z.t) := by simp [ts, hz]
  obtain ⟨R, p1, p2⟩ := led1 w zs k z hz
  have pp : (((pd, op) :: (tl, listOf ((ts zs).map Value.ref).toArray n1) :: (rl, listOf rv.toArray n3) :: (ol, listOf ov.toArray n4) :: (wl, listOf wv.toArray n5) :: (c1, o1) :: (c2, o2) :: (c3, o3) :: (c4, o4) :: (c5, o5) :: (c6, o6) :: (Led w zs ++ oth))).Perm (Mine.tk w z ++ (((pd, op) :: (tl, listOf ((ts zs).map Value.ref).toArray n1) :: (rl, listOf rv.toArray n3) :: (ol, listOf ov.toArray n4) :: (wl, listOf wv.toArray n5) :: (c1, o1) :: (c2, o2) :: (c3, o3) :: (c4, o4) :: (c5, o5) :: (c6, o6) :: (R ++ oth)))) := permOf fun x => by
    have := cnt_perm p1 x
    simp only [cnt_cons, cnt_app] at this ⊢; omega
  have pl : (Mine.tk w z ++ (((pd, op) :: (tl, listOf ((ts zs).map Value.ref).toArray n1) :: (rl, listOf rv.toArray n3) :: (ol, listOf ov.toArray n4) :: (wl, listOf wv.toArray n5) :: (c1, o1) :: (c2, o2) :: (c3, o3) :: (c4, o4) :: (c5, o5) :: (c6, o6) :: (R ++ oth)))).Perm ((tl, listOf ((ts zs).map Value.ref).toArray n1) :: (Led w zs ++ ((pd, op) :: (rl, listOf rv.toArray n3) :: (ol, listOf ov.toArray n4) :: (wl, listOf wv.toArray n5) :: (c1, o1) :: (c2, o2) :: (c3, o3) :: (c4, o4) :: (c5, o5) :: (c6, o6) :: oth))) := permOf fun x => by
    have := cnt_perm p1 x
    simp only [cnt_cons, cnt_app] at this ⊢; omega
  have N2 := News.perm N pp
  have D2 := D.perm pp
  simp only [Mine.tk, List.cons_append, List.nil_append] at N2 D2
  clear N
  rcases o with _ | j
  · have hM' : z.C = .none := hM
    have hmv' : mv = .none := hmv
    subst hmv'
    have N3 := N2
    rw [hM'] at N3
    clear N2
    k_steps
    refine ⟨placeU B F X T rfl rfl rfl (by k_room) rfl (N := by have := N3; rw [← hM'] at this; exact this) D2 pl hlen hlt (o := none) rfl ?_⟩
    intro h2 tk2 u F3 N4 hu
    have hu' : u = .none := hu
    subst hu'
    k_steps
    rename Fr h₀ _ _ _ => F8
    rename News h₀ _ _ _ => N8
    exact hQ _ _ ⟨⟨_, F8, by tbn_conj⟩, News.perm N8 pp.symm, D⟩
  · obtain ⟨y, hy⟩ : ∃ y, zs[j]? = some y := ⟨_, List.getElem?_eq_getElem (hlt j rfl)⟩
    have hM' : z.C = .ref y.t := by rw [hM, valOf_z hy]
    obtain ⟨tm, hmv'⟩ := hmv
    subst hmv'
    have N3 := N2
    rw [hM'] at N3
    clear N2
    k_steps
    refine ⟨placeU B F X T rfl rfl rfl (by k_room) rfl (N := by have := N3; rw [← hM'] at this; exact this) D2 pl hlen hlt (o := some j) (valOf_z hy).symm ?_⟩
    intro h2 tk2 u F3 N4 hu
    obtain ⟨tu, hu'⟩ := hu
    subst hu'
    k_steps
    all_goals first
      | (exfalso; omega)
      | (rename Fr h₀ _ _ _ => F8; rename News h₀ _ _ _ => N8; exact hQ _ _ ⟨⟨_, F8, by tbn_conj⟩, News.perm N8 pp.symm, D⟩)
end Mine
end
/- P3 -/
section
open PySem PySem.W PyProof.Rows PySem.Calls
set_option linter.unusedVariables false
namespace Mine
theorem range_cut (f : Nat → Bool) {n k e : Nat} (h1 : k ≤ e) (h2 : e ≤ n) : (List.range n).filter (fun p => f p && (decide (k ≤ p) && decide (p < e))) = (List.range' k (e - k)).filter f := by
  have e1 : List.range n = List.range' 0 k ++ (List.range' k (e - k) ++ List.range' e (n - e)) := by
    have a1 : List.range' k (e - k) ++ List.range' e (n - e) = List.range' k (n - k) := by
      have := @List.range'_append k (e - k) (n - e) 1
      rw [show k + 1 * (e - k) = e from by omega, show (e - k) + (n - e) = n - k from by omega] at this
      exact this
    rw [a1, List.range_eq_range']
    have := @List.range'_append 0 k (n - k) 1
    rw [show 0 + 1 * k = k from by omega, show k + (n - k) = n from by omega] at this
    exact this.symm
  rw [e1, List.filter_append, List.filter_append]
  have z1 : (List.range' 0 k).filter (fun p => f p && (decide (k ≤ p) && decide (p < e))) = [] := List.filter_eq_nil_iff.mpr fun p hp => by
    have := (List.mem_range'_1.mp hp).2
    have h : ¬ k ≤ p := by omega
    simp [h]
  have z3 : (List.range' e (n - e)).filter (fun p => f p && (decide (k ≤ p) && decide (p < e))) = [] := List.filter_eq_nil_iff.mpr fun p hp => by
    have := (List.mem_range'_1.mp hp).1
    have h : ¬ p < e := by omega
    simp [h]
  have z2 : (List.range' k (e - k)).filter (fun p => f p && (decide (k ≤ p) && decide (p < e))) = (List.range' k (e - k)).filter f := List.filter_congr fun p hp => by
    have := List.mem_range'_1.mp hp
    have h1 : k ≤ p := by omega
    have h2 : p < e := by omega
    simp [h1, h2]
  rw [z1, z2, z3, List.append_nil, List.nil_append]
theorem range_step (f : Nat → Bool) (k i : Nat) : (List.range' k (i + 1)).filter f = (List.range' k i).filter f ++ (if f (k + i) then [k + i] else []) := by
  rw [List.range'_concat, List.filter_append, Nat.one_mul]
  by_cases c : f (k + i) = true
  · rw [if_pos c, List.filter_cons_of_pos c]; rfl
  · rw [if_neg c, List.filter_cons_of_neg c]; rfl
end Mine
end
/- W37 -/
section
open PySem PySem.W PyProof.Rows PySem.Calls
set_option maxRecDepth 100000
set_option linter.unusedVariables false
namespace Mine
local macro_rules | `(tactic| k_all) => `(tactic| assumption)
local macro_rules | `(tactic| k_mem) => `(tactic| assumption)
local macro_rules | `(tactic| tbn_conj) => `(tactic| first | exact List.forall_mem_nil _ | (refine List.forall_mem_cons.mpr ⟨?_, ?_⟩; (focus (with_unfolding_all rfl)); tbn_conj))
local macro_rules | `(tactic| kqd_sub) => `(tactic| first | exact List.Sublist.refl _ | (refine List.Sublist.cons_cons _ ?_; kqd_sub) | (refine List.Sublist.cons _ ?_; kqd_sub))
local macro_rules | `(tactic| kd_addW) => `(tactic| first | exact UpdW.head | (refine' UpdW.tail ?b; (case b => kd_addW)))
local macro_rules | `(tactic| kd_addB) => `(tactic| first | exact UpdWF.head | (refine' UpdWF.tail ?b; (case b => kd_addB)))
local macro_rules | `(tactic| k_upd) => `(tactic| ((with_reducible rename NN _ => dN); exact updNN dN rfl (by kd_addW)))
local macro_rules | `(tactic| k_updF) => `(tactic| ((with_reducible rename NN _ => dN); exact updFNN dN rfl (by kd_addB)))
local macro_rules | `(tactic| w_means) => `(tactic| (refine permOf fun x => ?_; (try simp only [cnt_app, cnt_cons, cnt_nil]); omega))
theorem fill37 : ∀ (w : World) (h : Heap), (KF w.params).In h → PySem.Challenge.rw_bu5045_01.row.prog = PySem.Challenge.rw_bu5045_01.row.prog := by
  k_fill; intros; rfl
local macro_rules | `(tactic| kqd_sub) => `(tactic| exact List.sublist_append_left _ _)
local macro_rules | `(tactic| walk_at "call builtin:len") => `(tactic| (k_here; (with_reducible show wpAny _ _ (call (Value.builtin "len") [Value.ref _]) _ _ _); k_dflt (refine' len_V ?N ?m ?z ?_; (case N => k_asm); (case m => k_mem); (case z => first | assumption | omega); k_whole)))
local macro_rules | `(tactic| walk_at "subscriptTail") => `(tactic| (k_here; (with_reducible show wpAny _ _ (subscriptTail _ _ (Value.ref _) (Value.int _ _)) _ _ _); (with_unfolding_all refine' item_at ?N ?m ?x ?k ?f ?_ ?s; (case N => k_asm); (case m => k_mem); (first | ((case k => exact rfl); (case x => assumption)) | ((case x => assumption); (case k => omega))); (case f => omega); (case s => with_unfolding_all rfl); k_whole)))
local macro_rules | `(tactic| walk_at "call builtin:dict.get") => `(tactic| (k_here; (with_reducible show wpAny _ _ (call (Value.builtin _) [Value.ref _, Value.int _ _]) _ _ _); k_dflt (refine' kdg_get1 (knd := PySem.intKind _ _) ?N ?m ?d ?l (intKind_is _ _ _ _) _ ?x ?_; (case N => k_asm); (case m => k_mem); (case d => assumption); (case l => assumption); (case x => assumption); k_whole); (try dsimp only [Option.getD])))
local macro_rules | `(tactic| walk_at "call builtin:dict.get") => `(tactic| (k_here; (with_reducible show wpAny _ _ (call (Value.builtin _) [Value.ref _, Value.int _ _, _]) _ _ _); k_dflt (refine' kdg_get2 (knd := PySem.intKind _ _) ?N ?m ?d ?l (intKind_is _ _ _ _) _ ?x ?_; (case N => k_asm); (case m => k_mem); (case d => assumption); (case l => assumption); (case x => assumption); k_whole); (try dsimp only [Option.getD])))
theorem get_end {prog : Program} {w : World} {A : Around} {E : Value → Shared → Prop} {s : Shared} {h₀ : Heap} {L d : Addr} {news : List (Addr × Obj)} {o : Obj} {kvs : List (Int × Value)} {k n e : Int} {t tn : Tok} {Q : Value → Shared → Prop} (N : News h₀ L s.heap news) (hp : (d, o) ∈ news) (hd : o.IsDictOf (intKind prog w) kvs) (lo : (d == sysModules) = false)
    (he : ∀ tn : Tok, ∃ te : Tok, (valueAt kvs k).getD (.int n tn) = .int e te) (h : ∀ te, Q (.int e te) { s with toks := s.toks + 1 }) : wpAny (model prog w) A (call (.builtin "dict.get") [.ref d, .int k t, .int n tn]) Q E s := by
  refine kdg_get2 N hp hd lo (intKind_is _ _ _ _) _ rfl ?_
  obtain ⟨te, e1⟩ := he tn
  rw [e1]; exact h te
local macro_rules | `(tactic| walk_at "call builtin:dict.get") => `(tactic| (k_here; (with_reducible show wpAny _ _ (call (Value.builtin _) [Value.ref _, Value.int _ _, _]) _ _ _); k_dflt (refine' get_end ?N ?m ?d ?l ?x ?_; (case N => k_asm); (case m => k_mem); (case d => assumption); (case l => assumption); (case x => assumption); k_whole); intro te'))
local macro_rules | `(tactic| walk_at "compareOp In int ref") => `(tactic| (k_here; (with_reducible show wpAny _ _ (compareOp CmpOp.In (Value.int _ _) (Value.ref _)) _ _ _); k_dflt (refine' in_V ?N ?m ?i ?e ?_; (case N => k_asm); (case m => k_mem); (case i => assumption); (case e => assumption); k_whole)))
local macro_rules | `(tactic| walk_at "eval ListComp") => `(tactic| (k_here; (with_reducible show wpAny _ _ (eval (PySem.Expr.ListComp _ [Comprehension.mk _ _ [_] _] _ _) _) _ _ _); k_dflt (refine LC_T (F₀ := by k_asm) (by with_unfolding_all rfl) (by decide) (by rfl) (by decide) (by rfl) ?_)))
def isW (wi : List (Option Nat)) (k p : Nat) : Bool := wi[p]? == some (some k)
theorem due_none {ps : List (Nat × Nat)} {wi : List (Option Nat)} {n k : Nat} (h : ∀ p : Nat, wi[p]? ≠ some (some k)) : dueL ps wi n k = [] := List.filter_eq_nil_iff.mpr fun p _ => by
  have := h p
  simp [this]
theorem natI_mem {ks : List Nat} {k : Nat} : (k : Int) ∈ natI ks ↔ k ∈ ks := by
  unfold natI
  constructor
  · intro h
    obtain ⟨a, ha, e⟩ := List.mem_map.mp h
    exact Int.ofNat.inj e ▸ ha
  · intro h; exact List.mem_map_of_mem h
set_option maxHeartbeats 4000000 in
theorem t4 : ∀ (w : World) (A₀ : Around) (h₀ : Heap) (L fa : Addr) (cd : Value) (c1 c2 c3 c4 c5 c6 : Addr) (o1 o2 o3 o4 o5 o6 : Obj) (s : Shared) (mean : ExcName → Option Value) (mg mb : Str → Option Value)
    (ln tl rl ol wl pd : Addr) (op : Obj) (zs : List Z) (tv0 rv ov wv : List Value) (wi : List (Option Nat)) (kl : List (Nat × Nat × Tok)) (n1 n3 n4 n5 k : Nat) (tk0 : Tok) (oth : List (Addr × Obj)) (Q : Flow → Shared → Prop) (rest : List Stmt) (vs : List Str),
    Gd w A₀ h₀ mean mg mb → Pl h₀ L s.heap [("line", .ref ln)] ((pd, op) :: (tl, listOf tv0.toArray n1) :: (rl, listOf rv.toArray n3) :: (ol, listOf ov.toArray n4) :: (wl, listOf wv.toArray n5) :: (cellL c1 c2 c3 c4 c5 c6 o1 o2 o3 o4 o5 o6 ++ (Led w zs ++ oth))) →
    Cells (some (.ref tl)) (some (.ref rl)) (some (.int (k : Int) tk0)) (some (.ref ol)) (some (.ref wl)) (some (.ref pd)) o1 o2 o3 o4 o5 o6 → k < zs.length → zs.length ≤ 10 → op.IsDictOf (intKind PySem.Challenge.rw_bu5045_01.row.prog w) (kvOf kl) → (pd == sysModules) = false → rv.length = zs.length → IntsAre ov (natI (opn vs zs.length)) → OptsIn wv wi → wi.length = zs.length → (∀ p q : Nat, wi[p]? = some (some q) → q ∈ opn vs zs.length) → (∀ j c : Nat, (psOf kl).lookup j = some c → j < c ∧ c < zs.length) →
    (∀ h' tk dl dv nd, IntsAre dv (natI (dueL (psOf kl) wi zs.length k)) → Pl h₀ L h' [("line", .ref ln), ("due", .ref dl)] ((dl, listOf (List.toArray dv) nd) :: (pd, op) :: (tl, listOf tv0.toArray n1) :: (rl, listOf rv.toArray n3) :: (ol, listOf ov.toArray n4) :: (wl, listOf wv.toArray n5) :: (cellL c1 c2 c3 c4 c5 c6 o1 o2 o3 o4 o5 o6 ++ (Led w zs ++ oth))) → wpAny (model PySem.Challenge.rw_bu5045_01.row.prog w) (callerA.deeper (lawE L fa cd c1 c2 c3 c4 c5 c6)) (execs rest (lawE L fa cd c1 c2 c3 c4 c5 c6)) Q (fun _ _ => False) { s with heap := h', toks := tk }) →
    wpAny (model PySem.Challenge.rw_bu5045_01.row.prog w) (callerA.deeper (lawE L fa cd c1 c2 c3 c4 c5 c6)) (execs ((lpB.drop 3).take 1 ++ rest) (lawE L fa cd c1 c2 c3 c4 c5 c6)) Q (fun _ _ => False) s := by
  k_fill
  intro w A₀ h₀ L fa cd c1 c2 c3 c4 c5 c6 o1 o2 o3 o4 o5 o6 s mean mg mb ln tl rl ol wl pd op zs tv0 rv ov wv wi kl n1 n3 n4 n5 k tk0 oth Q rest vs ⟨B, X, T, YO, YC⟩ ⟨⟨m, F, hm⟩, N, D⟩ ⟨d1, d2, d3, d4, d5, d6⟩ hk hlen hop hlo hrl hov hwv hwl hkw hend hQ
  rw [← kst_self hm] at F
  have hB := @id ((lpB.drop 3).take 1 = _ :: []) rfl
  rw [hB]
  simp only [List.cons_append, List.nil_append]
  clear hB
  unfold cellL at *
  simp only [List.cons_append, List.nil_append] at N D
  have hk10 : (k : Int) < 10 := by omega
  have hr1000 : rv.length ≤ 1000 := by omega
  by_cases hin : k ∈ opn vs zs.length
  · have hin' : decide ((k : Int) ∈ natI (opn vs zs.length)) = true := decide_eq_true (natI_mem.mpr hin)
    obtain ⟨e, he1, he2, hee, hget⟩ : ∃ e : Nat, k < e ∧ e ≤ zs.length ∧ endP (psOf kl) zs.length k = e ∧ (∀ tn : Tok, ∃ te : Tok, (valueAt (kvOf kl) (k : Int)).getD (.int (rv.length : Int) tn) = .int (e : Int) te) := by
      rcases lookup_kl kl k with ⟨c, tc, hv, hl⟩ | ⟨hv, hl⟩
      · obtain ⟨h1, h2⟩ := hend k c hl
        exact ⟨c, h1, by omega, by unfold endP; rw [hl]; rfl, fun tn => ⟨tc, by rw [hv]; rfl⟩⟩
      · exact ⟨zs.length, hk, Nat.le_refl _, by unfold endP; rw [hl]; rfl, fun tn => ⟨tn, by rw [hv, hrl]; rfl⟩⟩
    have hen : ((e : Int) - (k : Int)).toNat = e - k := by omega
    k_steps
    rename IsRange _ _ _ _ _ _ _ _ => lR
    rename Fr h₀ _ _ _ => lF
    rename News h₀ _ _ _ => lN
    refine ⟨LCt.CompSrcT.range rfl lF lN lR (small_one (by omega) (by omega) (by omega) (by omega)) (n := e - k) (by rw [rangeSize_nat, hen]) (by rw [sizeLine_eq]; omega) fun g => comp_invT (fun i ys => IntsAre ys (natI ((List.range' k i).filter (isW wi k)))) trivial D .nil ?turn ?done⟩
    case turn =>
      intro i v ys I oI C oC D' m₂ h tk E' hi hv hJ hC hx F1 N1 D1
      obtain ⟨t, rfl⟩ := hv
      rw [show (k : Int) + (i : Int) = ((k + i : Nat) : Int) from by omega] at hx
      have hi' : k + i < zs.length := by omega
      have hki : ((k + i : Nat) : Int) < 10 := by omega
      obtain ⟨o, ho⟩ : ∃ o, wi[k + i]? = some o := ⟨_, List.getElem?_eq_getElem (by omega)⟩
      obtain ⟨v, hv, hvo⟩ := hwv.2 _ o ho
      have hnx := range_step (isW wi k) k i
      rcases o with _ | q
      · have hv' : v = .none := hvo
        subst hv'
        have hw : ¬ isW wi k (k + i) = true := by unfold isW; rw [ho]; simp
        rw [if_neg hw, List.append_nil] at hnx
        k_steps
        rename Fr h₀ _ _ _ => F8
        rename News h₀ _ _ _ => N8
        exact SkipQ.intro F8 N8 (by show IntsAre _ (natI ((List.range' k (i + 1)).filter (isW wi k))); rw [hnx]; exact hJ)
      · obtain ⟨tq, hv'⟩ := hvo
        subst hv'
        k_steps
        · rename (q : Int) = (k : Int) => hc
          rename Fr h₀ _ _ _ => F8
          rename News h₀ _ _ _ => N8
          have hw : isW wi k (k + i) = true := by unfold isW; rw [ho, Int.ofNat.inj hc]; simp
          rw [if_pos hw] at hnx
          exact EltQ.intro F8 N8 (by show IntsAre _ (natI ((List.range' k (i + 1)).filter (isW wi k))); rw [hnx, natI_snoc]; exact ksk_snoc hJ)
        · rename ¬ (q : Int) = (k : Int) => hc
          rename Fr h₀ _ _ _ => F8
          rename News h₀ _ _ _ => N8
          have hw : ¬ isW wi k (k + i) = true := by
            unfold isW; rw [ho]
            intro h
            have : q = k := by simpa using h
            exact hc (congrArg Int.ofNat this)
          rw [if_neg hw, List.append_nil] at hnx
          exact SkipQ.intro F8 N8 (by show IntsAre _ (natI ((List.range' k (i + 1)).filter (isW wi k))); rw [hnx]; exact hJ)
    case done =>
      intro ys hys D' h tk F1 N1 o1'
      have D2 := off1NN (o := LCg.lst ys) o1' D
      k_steps
      rename Fr h₀ _ _ _ => F8
      rename News h₀ _ _ _ => N8
      refine hQ _ _ D' ys _ ?_ ⟨⟨_, F8, by tbn_conj⟩, N8, D2⟩
      unfold dueL
      rw [hee]
      have := range_cut (isW wi k) (Nat.le_of_lt he1) he2
      unfold isW at this hys
      rw [this]
      exact hys
  · have hin' : decide ((k : Int) ∈ natI (opn vs zs.length)) = false := decide_eq_false fun h => hin (natI_mem.mp h)
    k_steps
    rename Fr h₀ _ _ _ => F8
    rename News h₀ _ _ _ => N8
    have hd0 : dueL (psOf kl) wi zs.length k = [] := due_none fun p h => hin (hkw p k h)
    rename _ ∧ _ ∧ _ ∧ _ ∧ _ ∧ _ ∧ _ ∧ _ ∧ _ ∧ _ ∧ _ ∧ _ => lA
    exact hQ _ _ _ [] 0 (by rw [hd0]; exact .nil) ⟨⟨_, F8, by tbn_conj⟩, N8, NN.consAll D lA⟩
end Mine
end
/- W38 -/
section
open PySem PySem.W PyProof.Rows PySem.Calls
set_option maxRecDepth 100000
set_option linter.unusedVariables false
namespace Mine
local macro_rules | `(tactic| k_all) => `(tactic| assumption)
local macro_rules | `(tactic| k_mem) => `(tactic| assumption)
local macro_rules | `(tactic| tbn_conj) => `(tactic| first | exact List.forall_mem_nil _ | (refine List.forall_mem_cons.mpr ⟨?_, ?_⟩; (focus (with_unfolding_all rfl)); tbn_conj))
local macro_rules | `(tactic| kqd_sub) => `(tactic| first | exact List.Sublist.refl _ | (refine List.Sublist.cons_cons _ ?_; kqd_sub) | (refine List.Sublist.cons _ ?_; kqd_sub))
local macro_rules | `(tactic| kd_addW) => `(tactic| first | exact UpdW.head | (refine' UpdW.tail ?b; (case b => kd_addW)))
local macro_rules | `(tactic| kd_addB) => `(tactic| first | exact UpdWF.head | (refine' UpdWF.tail ?b; (case b => kd_addB)))
local macro_rules | `(tactic| k_upd) => `(tactic| ((with_reducible rename NN _ => dN); exact updNN dN rfl (by kd_addW)))
local macro_rules | `(tactic| k_updF) => `(tactic| ((with_reducible rename NN _ => dN); exact updFNN dN rfl (by kd_addB)))
local macro_rules | `(tactic| w_means) => `(tactic| (refine permOf fun x => ?_; (try simp only [cnt_app, cnt_cons, cnt_nil]); omega))
theorem fill38 : ∀ (w : World) (h : Heap), (KF w.params).In h → PySem.Challenge.rw_bu5045_01.row.prog = PySem.Challenge.rw_bu5045_01.row.prog := by
  k_fill; intros; rfl
local macro_rules | `(tactic| kqd_sub) => `(tactic| exact List.sublist_append_left _ _)
local macro_rules | `(tactic| walk_at "subscriptTail") => `(tactic| (k_here; (with_reducible show wpAny _ _ (subscriptTail _ _ (Value.ref _) (Value.int _ _)) _ _ _); (with_unfolding_all refine' item_at ?N ?m ?x ?k ?f ?_ ?s; (case N => k_asm); (case m => k_mem); (first | ((case k => exact rfl); (case x => assumption)) | ((case x => assumption); (case k => omega))); (case f => omega); (case s => with_unfolding_all rfl); k_whole)))
local macro_rules | `(tactic| walk_at "call ref") => `(tactic| (k_here; (with_reducible show wpAny _ _ (call (Value.ref 564) _) _ _ _); (refine Stop.go ?_)))
local macro_rules | `(tactic| walk_at "eval ListComp") => `(tactic| (k_here; (with_reducible show wpAny _ _ (eval (PySem.Expr.ListComp _ [Comprehension.mk _ _ [] _] _ _) _) _ _ _); k_dflt (refine LC_U (F₀ := by k_asm) (by with_unfolding_all rfl) (by decide) (by rfl) (by decide) (by rfl) ?_)))
set_option maxHeartbeats 4000000 in
theorem t5 : ∀ (w : World) (A₀ : Around) (h₀ : Heap) (L fa : Addr) (cd : Value) (c1 c2 c3 c4 c5 c6 : Addr) (o1 o2 o3 o4 o5 o6 : Obj) (s : Shared) (mean : ExcName → Option Value) (mg mb : Str → Option Value)
    (ln tl rl ol wl pd : Addr) (op : Obj) (zs : List Z) (tv0 rv ov wv : List Value) (wi : List (Option Nat)) (kl : List (Nat × Nat × Tok)) (n1 n3 n4 n5 k : Nat) (tk0 : Tok) (oth : List (Addr × Obj)) (Q : Flow → Shared → Prop) (rest : List Stmt) (dl : Addr) (dv : List Value) (nd : Nat) (z : Z),
    Gd w A₀ h₀ mean mg mb → Pl h₀ L s.heap [("line", .ref ln), ("due", .ref dl)] ((dl, listOf (List.toArray dv) nd) :: (pd, op) :: (tl, listOf tv0.toArray n1) :: (rl, listOf rv.toArray n3) :: (ol, listOf ov.toArray n4) :: (wl, listOf wv.toArray n5) :: (cellL c1 c2 c3 c4 c5 c6 o1 o2 o3 o4 o5 o6 ++ (Led w zs ++ oth))) →
    Cells (some (.ref tl)) (some (.ref rl)) (some (.int (k : Int) tk0)) (some (.ref ol)) (some (.ref wl)) (some (.ref pd)) o1 o2 o3 o4 o5 o6 → k < zs.length → zs.length ≤ 10 → tv0 = (ts zs).map Value.ref → zs[k]? = some z → IntsAre dv (natI (dueL (psOf kl) wi zs.length k)) → z.el = (dueL (psOf kl) wi zs.length k).map (fun q => valOf (ts zs) (some q)) →
    (∀ h' tk , Pl h₀ L h' [("line", .ref ln)] ((pd, op) :: (tl, listOf tv0.toArray n1) :: (rl, listOf rv.toArray n3) :: (ol, listOf ov.toArray n4) :: (wl, listOf wv.toArray n5) :: (cellL c1 c2 c3 c4 c5 c6 o1 o2 o3 o4 o5 o6 ++ (Led w zs ++ oth))) → wpAny (model PySem.Challenge.rw_bu5045_01.row.prog w) (callerA.deeper (lawE L fa cd c1 c2 c3 c4 c5 c6)) (execs rest (lawE L fa cd c1 c2 c3 c4 c5 c6)) Q (fun _ _ => False) { s with heap := h', toks := tk }) →
    wpAny (model PySem.Challenge.rw_bu5045_01.row.prog w) (callerA.deeper (lawE L fa cd c1 c2 c3 c4 c5 c6)) (execs ((lpB.drop 4).take 1 ++ rest) (lawE L fa cd c1 c2 c3 c4 c5 c6)) Q (fun _ _ => False) s := by
  k_fill
  intro w A₀ h₀ L fa cd c1 c2 c3 c4 c5 c6 o1 o2 o3 o4 o5 o6 s mean mg mb ln tl rl ol wl pd op zs tv0 rv ov wv wi kl n1 n3 n4 n5 k tk0 oth Q rest dl dv nd z ⟨B, X, T, YO, YC⟩ ⟨⟨m, F, hm⟩, N, D⟩ ⟨d1, d2, d3, d4, d5, d6⟩ hk hlen htv hz hdv hel hQ
  rw [← kst_self hm] at F
  have hB := @id ((lpB.drop 4).take 1 = _ :: []) rfl
  rw [hB]
  simp only [List.cons_append, List.nil_append]
  clear hB
  unfold cellL at *
  simp only [List.cons_append, List.nil_append] at N D
  have hk10 : (k : Int) < 10 := by omega
  subst htv
  have hdl : ∀ q ∈ dueL (psOf kl) wi zs.length k, q < zs.length := fun q hq => by
    have := (List.mem_filter.mp hq).1
    exact List.mem_range.mp this
  have hdul : (dueL (psOf kl) wi zs.length k).length ≤ 1000 := by
    have := List.length_filter_le (fun p => wi[p]? == some (some k) && (decide (k ≤ p) && decide (p < endP (psOf kl) zs.length k))) (List.range zs.length)
    unfold dueL
    rw [List.length_range] at this
    omega
  generalize dueL (psOf kl) wi zs.length k = du at hdv hel hdl hdul
  have htz : ((ts zs).map Value.ref)[k]? = some (.ref z.t) := by simp [ts, hz]
  obtain ⟨R, p1, p2⟩ := led1 w zs k z hz
  have pp : ((dl, listOf (List.toArray dv) nd) :: (pd, op) :: (tl, listOf ((ts zs).map Value.ref).toArray n1) :: (rl, listOf rv.toArray n3) :: (ol, listOf ov.toArray n4) :: (wl, listOf wv.toArray n5) :: (c1, o1) :: (c2, o2) :: (c3, o3) :: (c4, o4) :: (c5, o5) :: (c6, o6) :: (Led w zs ++ oth)).Perm (Mine.tk w z ++ ((dl, listOf (List.toArray dv) nd) :: (pd, op) :: (tl, listOf ((ts zs).map Value.ref).toArray n1) :: (rl, listOf rv.toArray n3) :: (ol, listOf ov.toArray n4) :: (wl, listOf wv.toArray n5) :: (c1, o1) :: (c2, o2) :: (c3, o3) :: (c4, o4) :: (c5, o5) :: (c6, o6) :: (R ++ oth))) := permOf fun x => by
    have := cnt_perm p1 x
    simp only [cnt_cons, cnt_app] at this ⊢; omega
  have pl : ∀ a b c : Addr × Obj, (a :: b :: c :: (Mine.tk w z ++ ((dl, listOf (List.toArray dv) nd) :: (pd, op) :: (tl, listOf ((ts zs).map Value.ref).toArray n1) :: (rl, listOf rv.toArray n3) :: (ol, listOf ov.toArray n4) :: (wl, listOf wv.toArray n5) :: (c1, o1) :: (c2, o2) :: (c3, o3) :: (c4, o4) :: (c5, o5) :: (c6, o6) :: (R ++ oth)))).Perm ((tl, listOf ((ts zs).map Value.ref).toArray n1) :: (Led w zs ++ (a :: b :: c :: (dl, listOf (List.toArray dv) nd) :: (pd, op) :: (rl, listOf rv.toArray n3) :: (ol, listOf ov.toArray n4) :: (wl, listOf wv.toArray n5) :: (c1, o1) :: (c2, o2) :: (c3, o3) :: (c4, o4) :: (c5, o5) :: (c6, o6) :: oth))) := fun a b c => permOf fun x => by
    have := cnt_perm p1 x
    simp only [cnt_cons, cnt_app] at this ⊢; omega
  have N2 := News.perm N pp
  have D2 := D.perm pp
  simp only [Mine.tk, List.cons_append, List.nil_append] at N2 D2
  clear N
  have hzl : z.el.length = du.length := by rw [hel]; simp
  have hze : z.el.length ≤ 1000 := by omega
  k_steps
  rename Fr h₀ _ _ _ => F5
  rename News h₀ _ _ _ => N5
  refine ⟨LCg.CompSrc.ledger rfl F5 N5 (.head _) (fits1000 hze) fun g => comp_inv (fun i ys => IntsAre ys (natI (du.take i))) (.inr ⟨_, .head _, rfl, _, rfl⟩) D2 .nil ?turn ?done⟩
  case turn =>
    intro i v ys I oI C oC D' m₂ h tk E' hi hv hJ hC hx F1 N1 D1
    have hi' : i < du.length := by rw [List.size_toArray, hzl] at hi; exact hi
    obtain ⟨q, hq⟩ : ∃ q, du[i]? = some q := ⟨_, List.getElem?_eq_getElem hi'⟩
    have hqn := hdl q (List.mem_of_getElem? hq)
    obtain ⟨y, hy⟩ : ∃ y, zs[q]? = some y := ⟨_, List.getElem?_eq_getElem hqn⟩
    have hvy : v = .ref y.t := by
      have h1 : z.el[i]? = some v := by simpa using hv
      rw [hel, List.getElem?_map, hq] at h1
      have h2 : valOf (ts zs) (some q) = v := Option.some.inj h1
      rw [← h2, valOf_z hy]
    subst hvy
    k_steps
    refine ⟨placeU B F1 X T rfl rfl rfl (by k_room) rfl (N := N1) D1 (pl _ _ _) hlen (o := some q) (fun j hj => (Option.some.inj hj) ▸ hqn) (valOf_z hy).symm ?_⟩
    intro h2 tk2 u F3 N3 hu
    obtain ⟨tu, hu'⟩ := hu
    subst hu'
    refine EltQ.intro F3 N3 ?_
    show IntsAre _ (natI (du.take (i + 1)))
    rw [List.take_add_one, hq, Option.toList_some, natI_snoc]
    exact ksk_snoc hJ
  case done =>
    intro ys hys D' h tk F1 N1 o1'
    have D3 := off1NN (o := LCg.lst ys) o1' D2
    rw [List.size_toArray, hzl, List.take_length] at hys
    clear N5 F5
    k_steps
    rename Fr h₀ _ _ _ => F8
    rename News h₀ _ _ _ => N8
    exact hQ _ _ ⟨⟨_, F8, by tbn_conj⟩, fun p hp => News.perm (fun p hp => N8 p (.tail _ hp)) pp.symm p (.tail _ hp), D.tail⟩
end Mine
end
/- W39 -/
section
local macro_rules | `(tactic| walk_at "partW39 no0") => `(tactic| fail "none")
open PySem PySem.W PyProof.Rows PySem.Calls
set_option maxRecDepth 100000
set_option linter.unusedVariables false
namespace Mine
local macro_rules | `(tactic| k_all) => `(tactic| assumption)
local macro_rules | `(tactic| k_mem) => `(tactic| assumption)
local macro_rules | `(tactic| tbn_conj) => `(tactic| first | exact List.forall_mem_nil _ | (refine List.forall_mem_cons.mpr ⟨?_, ?_⟩; (focus (with_unfolding_all rfl)); tbn_conj))
local macro_rules | `(tactic| kqd_sub) => `(tactic| first | exact List.Sublist.refl _ | (refine List.Sublist.cons_cons _ ?_; kqd_sub) | (refine List.Sublist.cons _ ?_; kqd_sub))
local macro_rules | `(tactic| kd_addW) => `(tactic| first | exact UpdW.head | (refine' UpdW.tail ?b; (case b => kd_addW)))
local macro_rules | `(tactic| kd_addB) => `(tactic| first | exact UpdWF.head | (refine' UpdWF.tail ?b; (case b => kd_addB)))
local macro_rules | `(tactic| k_upd) => `(tactic| ((with_reducible rename NN _ => dN); exact updNN dN rfl (by kd_addW)))
local macro_rules | `(tactic| k_updF) => `(tactic| ((with_reducible rename NN _ => dN); exact updFNN dN rfl (by kd_addB)))
local macro_rules | `(tactic| w_means) => `(tactic| (refine permOf fun x => ?_; (try simp only [cnt_app, cnt_cons, cnt_nil]); omega))
theorem fill39 : ∀ (w : World) (h : Heap), (KF w.params).In h → PySem.Challenge.rw_bu5045_01.row.prog = PySem.Challenge.rw_bu5045_01.row.prog := by
  k_fill; intros; rfl
local macro_rules | `(tactic| kqd_sub) => `(tactic| exact List.sublist_append_left _ _)
local macro_rules | `(tactic| walk_at "call builtin:len") => `(tactic| (k_here; (with_reducible show wpAny _ _ (call (Value.builtin "len") [Value.ref _]) _ _ _); k_dflt (refine' len_V ?N ?m ?z ?_; (case N => k_asm); (case m => k_mem); (case z => first | assumption | omega); k_whole)))
local macro_rules | `(tactic| walk_at "subscriptTail") => `(tactic| (k_here; (with_reducible show wpAny _ _ (subscriptTail _ _ (Value.ref _) (Value.int _ _)) _ _ _); (with_unfolding_all refine' item_at ?N ?m ?x ?k ?f ?_ ?s; (case N => k_asm); (case m => k_mem); (first | ((case k => exact rfl); (case x => assumption)) | ((case x => assumption); (case k => omega))); (case f => omega); (case s => with_unfolding_all rfl); k_whole)))
local macro_rules | `(tactic| walk_at "call builtin:dict.get") => `(tactic| (k_here; (with_reducible show wpAny _ _ (call (Value.builtin _) [Value.ref _, Value.int _ _, _]) _ _ _); k_dflt (refine' get_end ?N ?m ?d ?l ?x ?_; (case N => k_asm); (case m => k_mem); (case d => assumption); (case l => assumption); (case x => assumption); k_whole); intro te'))
set_option maxHeartbeats 4000000 in
theorem t6 : ∀ (w : World) (A₀ : Around) (h₀ : Heap) (L fa : Addr) (cd : Value) (c1 c2 c3 c4 c5 c6 : Addr) (o1 o2 o3 o4 o5 o6 : Obj) (s : Shared) (mean : ExcName → Option Value) (mg mb : Str → Option Value)
    (ln tl rl ol wl pd : Addr) (op : Obj) (zs : List Z) (tv0 rv ov wv : List Value) (wi : List (Option Nat)) (kl : List (Nat × Nat × Tok)) (n1 n3 n4 n5 k : Nat) (tk0 : Tok) (oth : List (Addr × Obj)) (Q : Flow → Shared → Prop) (rest : List Stmt) (o : Option Nat),
    Gd w A₀ h₀ mean mg mb → Pl h₀ L s.heap [("line", .ref ln)] ((pd, op) :: (tl, listOf tv0.toArray n1) :: (rl, listOf rv.toArray n3) :: (ol, listOf ov.toArray n4) :: (wl, listOf wv.toArray n5) :: (cellL c1 c2 c3 c4 c5 c6 o1 o2 o3 o4 o5 o6 ++ (Led w zs ++ oth))) →
    Cells (some (.ref tl)) (some (.ref rl)) (some (.int (k : Int) tk0)) (some (.ref ol)) (some (.ref wl)) (some (.ref pd)) o1 o2 o3 o4 o5 o6 → k < zs.length → zs.length ≤ 10 → OptsIn wv wi → wi[k]? = some o →
    (∀ h' tk hv, OptIs hv o → Pl h₀ L h' [("line", .ref ln), ("held", hv)] ((pd, op) :: (tl, listOf tv0.toArray n1) :: (rl, listOf rv.toArray n3) :: (ol, listOf ov.toArray n4) :: (wl, listOf wv.toArray n5) :: (cellL c1 c2 c3 c4 c5 c6 o1 o2 o3 o4 o5 o6 ++ (Led w zs ++ oth))) → wpAny (model PySem.Challenge.rw_bu5045_01.row.prog w) (callerA.deeper (lawE L fa cd c1 c2 c3 c4 c5 c6)) (execs rest (lawE L fa cd c1 c2 c3 c4 c5 c6)) Q (fun _ _ => False) { s with heap := h', toks := tk }) →
    wpAny (model PySem.Challenge.rw_bu5045_01.row.prog w) (callerA.deeper (lawE L fa cd c1 c2 c3 c4 c5 c6)) (execs ((lpB.drop 5).take 1 ++ rest) (lawE L fa cd c1 c2 c3 c4 c5 c6)) Q (fun _ _ => False) s := by
  k_fill
  intro w A₀ h₀ L fa cd c1 c2 c3 c4 c5 c6 o1 o2 o3 o4 o5 o6 s mean mg mb ln tl rl ol wl pd op zs tv0 rv ov wv wi kl n1 n3 n4 n5 k tk0 oth Q rest o ⟨B, X, T, YO, YC⟩ ⟨⟨m, F, hm⟩, N, D⟩ ⟨d1, d2, d3, d4, d5, d6⟩ hk hlen hwv ho hQ
  rw [← kst_self hm] at F
  have hB := @id ((lpB.drop 5).take 1 = _ :: []) rfl
  rw [hB]
  simp only [List.cons_append, List.nil_append]
  clear hB
  unfold cellL at *
  simp only [List.cons_append, List.nil_append] at N D
  have hk10 : (k : Int) < 10 := by omega
  obtain ⟨v, hv, hvo⟩ := hwv.2 _ o ho
  k_steps
  rename Fr h₀ _ _ _ => F8
  rename News h₀ _ _ _ => N8
  exact hQ _ _ v hvo ⟨⟨_, F8, by tbn_conj⟩, N8, D⟩
set_option maxHeartbeats 4000000 in
theorem t7 : ∀ (w : World) (A₀ : Around) (h₀ : Heap) (L fa : Addr) (cd : Value) (c1 c2 c3 c4 c5 c6 : Addr) (o1 o2 o3 o4 o5 o6 : Obj) (s : Shared) (mean : ExcName → Option Value) (mg mb : Str → Option Value)
    (ln tl rl ol wl pd : Addr) (op : Obj) (zs : List Z) (tv0 rv ov wv : List Value) (wi : List (Option Nat)) (kl : List (Nat × Nat × Tok)) (n1 n3 n4 n5 k : Nat) (tk0 : Tok) (oth : List (Addr × Obj)) (Q : Flow → Shared → Prop) (rest : List Stmt) (hv : Value) (o : Option Nat),
    Gd w A₀ h₀ mean mg mb → Pl h₀ L s.heap [("line", .ref ln), ("held", hv)] ((pd, op) :: (tl, listOf tv0.toArray n1) :: (rl, listOf rv.toArray n3) :: (ol, listOf ov.toArray n4) :: (wl, listOf wv.toArray n5) :: (cellL c1 c2 c3 c4 c5 c6 o1 o2 o3 o4 o5 o6 ++ (Led w zs ++ oth))) →
    Cells (some (.ref tl)) (some (.ref rl)) (some (.int (k : Int) tk0)) (some (.ref ol)) (some (.ref wl)) (some (.ref pd)) o1 o2 o3 o4 o5 o6 → k < zs.length → zs.length ≤ 10 → op.IsDictOf (intKind PySem.Challenge.rw_bu5045_01.row.prog w) (kvOf kl) → (pd == sysModules) = false → rv.length = zs.length → wi[k]? = some o → (∀ j, o = some j → j < zs.length) → (∀ j c : Nat, (psOf kl).lookup j = some c → j < c ∧ c < zs.length) → OptIs hv o →
    (∀ h' tk hv, OptIs hv (heldP (psOf kl) wi zs.length k) → Pl h₀ L h' [("line", .ref ln), ("held", hv)] ((pd, op) :: (tl, listOf tv0.toArray n1) :: (rl, listOf rv.toArray n3) :: (ol, listOf ov.toArray n4) :: (wl, listOf wv.toArray n5) :: (cellL c1 c2 c3 c4 c5 c6 o1 o2 o3 o4 o5 o6 ++ (Led w zs ++ oth))) → wpAny (model PySem.Challenge.rw_bu5045_01.row.prog w) (callerA.deeper (lawE L fa cd c1 c2 c3 c4 c5 c6)) (execs rest (lawE L fa cd c1 c2 c3 c4 c5 c6)) Q (fun _ _ => False) { s with heap := h', toks := tk }) →
    wpAny (model PySem.Challenge.rw_bu5045_01.row.prog w) (callerA.deeper (lawE L fa cd c1 c2 c3 c4 c5 c6)) (execs ((lpB.drop 6).take 1 ++ rest) (lawE L fa cd c1 c2 c3 c4 c5 c6)) Q (fun _ _ => False) s := by
  k_fill
  intro w A₀ h₀ L fa cd c1 c2 c3 c4 c5 c6 o1 o2 o3 o4 o5 o6 s mean mg mb ln tl rl ol wl pd op zs tv0 rv ov wv wi kl n1 n3 n4 n5 k tk0 oth Q rest hv o ⟨B, X, T, YO, YC⟩ ⟨⟨m, F, hm⟩, N, D⟩ ⟨d1, d2, d3, d4, d5, d6⟩ hk hlen hop hlo hrl ho hoj hend hvo hQ
  rw [← kst_self hm] at F
  have hB := @id ((lpB.drop 6).take 1 = _ :: []) rfl
  rw [hB]
  simp only [List.cons_append, List.nil_append]
  clear hB
  unfold cellL at *
  simp only [List.cons_append, List.nil_append] at N D
  have hk10 : (k : Int) < 10 := by omega
  have hr1000 : rv.length ≤ 1000 := by omega
  rcases o with _ | j
  · have hv' : hv = .none := hvo
    subst hv'
    have hh : heldP (psOf kl) wi zs.length k = none := by unfold heldP; rw [ho]
    k_steps
    rename Fr h₀ _ _ _ => F8
    rename News h₀ _ _ _ => N8
    exact hQ _ _ .none (by rw [hh]; exact rfl) ⟨⟨_, F8, by tbn_conj⟩, N8, D⟩
  · obtain ⟨tj, hv'⟩ := hvo
    subst hv'
    have hj10 : (j : Int) < 10 := by have := hoj j rfl; omega
    obtain ⟨e, hee, hget⟩ : ∃ e : Nat, endP (psOf kl) zs.length j = e ∧ (∀ tn : Tok, ∃ te : Tok, (valueAt (kvOf kl) (j : Int)).getD (.int (rv.length : Int) tn) = .int (e : Int) te) := by
      rcases lookup_kl kl j with ⟨c, tc, hv, hl⟩ | ⟨hv, hl⟩
      · exact ⟨c, by unfold endP; rw [hl]; rfl, fun tn => ⟨tc, by rw [hv]; rfl⟩⟩
      · exact ⟨zs.length, by unfold endP; rw [hl]; rfl, fun tn => ⟨tn, by rw [hv, hrl]; rfl⟩⟩
    by_cases hjk : j ≤ k ∧ k < e
    · have hh : heldP (psOf kl) wi zs.length k = some j := by unfold heldP; rw [ho]; dsimp only; rw [hee, if_pos hjk]
      have h1 : (j : Int) ≤ (k : Int) := by omega
      have h2 : (k : Int) < (e : Int) := by omega
      k_steps
      all_goals first
        | (exfalso; omega)
        | (rename Fr h₀ _ _ _ => F8; rename News h₀ _ _ _ => N8; exact hQ _ _ (.int (j : Int) tj) (by rw [hh]; exact ⟨tj, rfl⟩) ⟨⟨_, F8, by tbn_conj⟩, N8, D⟩)
        | trace_state
    · have hh : heldP (psOf kl) wi zs.length k = none := by unfold heldP; rw [ho]; dsimp only; rw [hee, if_neg hjk]
      k_steps
      all_goals first
        | (exfalso; omega)
        | (rename Fr h₀ _ _ _ => F8; rename News h₀ _ _ _ => N8; exact hQ _ _ .none (by rw [hh]; exact rfl) ⟨⟨_, F8, by tbn_conj⟩, N8, D⟩)
        | trace_state
end Mine
end
/- W40 -/
section
open PySem PySem.W PyProof.Rows PySem.Calls
set_option maxRecDepth 100000
set_option linter.unusedVariables false
namespace Mine
local macro_rules | `(tactic| k_all) => `(tactic| assumption)
local macro_rules | `(tactic| k_mem) => `(tactic| assumption)
local macro_rules | `(tactic| tbn_conj) => `(tactic| first | exact List.forall_mem_nil _ | (refine List.forall_mem_cons.mpr ⟨?_, ?_⟩; (focus (with_unfolding_all rfl)); tbn_conj))
local macro_rules | `(tactic| kqd_sub) => `(tactic| first | exact List.Sublist.refl _ | (refine List.Sublist.cons_cons _ ?_; kqd_sub) | (refine List.Sublist.cons _ ?_; kqd_sub))
local macro_rules | `(tactic| kd_addW) => `(tactic| first | exact UpdW.head | (refine' UpdW.tail ?b; (case b => kd_addW)))
local macro_rules | `(tactic| kd_addB) => `(tactic| first | exact UpdWF.head | (refine' UpdWF.tail ?b; (case b => kd_addB)))
local macro_rules | `(tactic| k_upd) => `(tactic| ((with_reducible rename NN _ => dN); exact updNN dN rfl (by kd_addW)))
local macro_rules | `(tactic| k_updF) => `(tactic| ((with_reducible rename NN _ => dN); exact updFNN dN rfl (by kd_addB)))
local macro_rules | `(tactic| w_means) => `(tactic| (refine permOf fun x => ?_; (try simp only [cnt_app, cnt_cons, cnt_nil]); omega))
theorem fill40 : ∀ (w : World) (h : Heap), (KF w.params).In h → PySem.Challenge.rw_bu5045_01.row.prog = PySem.Challenge.rw_bu5045_01.row.prog := by
  k_fill; intros; rfl
local macro_rules | `(tactic| kqd_sub) => `(tactic| exact List.sublist_append_left _ _)
local macro_rules | `(tactic| walk_at "call builtin:len") => `(tactic| (k_here; (with_reducible show wpAny _ _ (call (Value.builtin "len") [Value.ref _]) _ _ _); k_dflt (refine' len_V ?N ?m ?z ?_; (case N => k_asm); (case m => k_mem); (case z => first | assumption | omega); k_whole)))
local macro_rules | `(tactic| walk_at "exec For Name Call cons nil") => `(tactic| (k_here; (rename Fr _ _ _ _ => lF'); (with_unfolding_all refine' For_ownT lF' ?_; k_whole)))
theorem lp_split : lpB = (lpB.drop 0).take 1 ++ ((lpB.drop 1).take 1 ++ ((lpB.drop 2).take 1 ++ ((lpB.drop 3).take 1 ++ ((lpB.drop 4).take 1 ++ ((lpB.drop 5).take 1 ++ ((lpB.drop 6).take 1 ++ ((lpB.drop 7).take 1 ++ []))))))) := by rfl
/-- what a token holds at the end -/
structure FinZ (zs : List Z) (ps : List (Nat × Nat)) (wi : List (Option Nat)) (k : Nat) (z : Z) : Prop where
  M : z.M = valOf (ts zs) (mP ps k)
  el : z.el = (dueL ps wi zs.length k).map (fun q => valOf (ts zs) (some q))
  C : z.C = valOf (ts zs) (heldP ps wi zs.length k)
  ml : ∀ j, mP ps k = some j → j < zs.length
set_option maxHeartbeats 4000000 in
theorem seg11n : ∀ (w : World) (A₀ : Around) (h₀ : Heap) (L fa : Addr) (cd : Value) (c1 c2 c3 c4 c5 c6 : Addr) (o1 o2 o3 o4 o5 o6 : Obj) (v1 v2 v3 v4 v5 : Option Value) (s : Shared) (mean : ExcName → Option Value) (mg mb : Str → Option Value)
    (ln : Addr) (led : List (Addr × Obj)) (Q : Flow → Shared → Prop) (rest : List Stmt),
    Gd w A₀ h₀ mean mg mb → Pl h₀ L s.heap [("line", .ref ln)] (cellL c1 c2 c3 c4 c5 c6 o1 o2 o3 o4 o5 o6 ++ led) → Cells v1 v2 v3 v4 v5 (some .none) o1 o2 o3 o4 o5 o6 →
    (∀ h' tk, Pl h₀ L h' [("line", .ref ln)] (cellL c1 c2 c3 c4 c5 c6 o1 o2 o3 o4 o5 o6 ++ led) → wpAny (model PySem.Challenge.rw_bu5045_01.row.prog w) (callerA.deeper (lawE L fa cd c1 c2 c3 c4 c5 c6)) (execs rest (lawE L fa cd c1 c2 c3 c4 c5 c6)) Q (fun _ _ => False) { s with heap := h', toks := tk }) →
    wpAny (model PySem.Challenge.rw_bu5045_01.row.prog w) (callerA.deeper (lawE L fa cd c1 c2 c3 c4 c5 c6)) (execs ((lawB.drop 11).take 1 ++ rest) (lawE L fa cd c1 c2 c3 c4 c5 c6)) Q (fun _ _ => False) s := by
  k_fill
  intro w A₀ h₀ L fa cd c1 c2 c3 c4 c5 c6 o1 o2 o3 o4 o5 o6 v1 v2 v3 v4 v5 s mean mg mb ln led Q rest ⟨B, X, T, YO, YC⟩ ⟨⟨m, F, hm⟩, N, D⟩ ⟨d1, d2, d3, d4, d5, d6⟩ hQ
  rw [← kst_self hm] at F
  have hB := @id ((lawB.drop 11).take 1 = _ :: []) rfl
  rw [hB]
  simp only [List.cons_append, List.nil_append]
  clear hB
  unfold cellL at *
  simp only [List.cons_append, List.nil_append] at N D
  k_steps
  rename Fr h₀ _ _ _ => F8
  rename News h₀ _ _ _ => N8
  exact hQ _ _ ⟨⟨_, F8, by tbn_conj⟩, N8, D⟩
set_option maxHeartbeats 4000000 in
theorem seg11 : ∀ (w : World) (A₀ : Around) (h₀ : Heap) (L fa : Addr) (cd : Value) (c1 c2 c3 c4 c5 c6 : Addr) (o1 o2 o3 o4 o5 o6 : Obj) (v3 : Option Value) (s : Shared) (mean : ExcName → Option Value) (mg mb : Str → Option Value)
    (ln tl rl ol wl pd : Addr) (op : Obj) (zs : List Z) (tv0 rv ov wv : List Value) (vs : List Str) (wi : List (Option Nat)) (kl : List (Nat × Nat × Tok)) (n1 n3 n4 n5 : Nat) (oth : List (Addr × Obj)) (Q : Flow → Shared → Prop) (rest : List Stmt),
    Gd w A₀ h₀ mean mg mb → Pl h₀ L s.heap [("line", .ref ln)] ((pd, op) :: (tl, listOf tv0.toArray n1) :: (rl, listOf rv.toArray n3) :: (ol, listOf ov.toArray n4) :: (wl, listOf wv.toArray n5) :: (cellL c1 c2 c3 c4 c5 c6 o1 o2 o3 o4 o5 o6 ++ (Led w zs ++ oth))) → Cells (some (.ref tl)) (some (.ref rl)) v3 (some (.ref ol)) (some (.ref wl)) (some (.ref pd)) o1 o2 o3 o4 o5 o6 → zs.length ≤ 10 →
    tv0 = (ts zs).map Value.ref → rv.length = zs.length → IntsAre ov (natI (opn vs zs.length)) → OptsIn wv wi → wi.length = zs.length → (∀ p q : Nat, wi[p]? = some (some q) → q ∈ opn vs zs.length) →
    op.IsDictOf (intKind PySem.Challenge.rw_bu5045_01.row.prog w) (kvOf kl) → (pd == sysModules) = false → kl.length ≤ 1000 → (kl.map (·.1)).Nodup → (∀ j c : Nat, (psOf kl).lookup j = some c → j < c ∧ c < zs.length) →
    (∀ k z, zs[k]? = some z → FinZ zs (psOf kl) wi k z) →
    (∀ h' tk o3' v3', Cells (some (.ref tl)) (some (.ref rl)) v3' (some (.ref ol)) (some (.ref wl)) (some (.ref pd)) o1 o2 o3' o4 o5 o6 → Pl h₀ L h' [("line", .ref ln)] ((pd, op) :: (tl, listOf tv0.toArray n1) :: (rl, listOf rv.toArray n3) :: (ol, listOf ov.toArray n4) :: (wl, listOf wv.toArray n5) :: (cellL c1 c2 c3 c4 c5 c6 o1 o2 o3' o4 o5 o6 ++ (Led w zs ++ oth))) → wpAny (model PySem.Challenge.rw_bu5045_01.row.prog w) (callerA.deeper (lawE L fa cd c1 c2 c3 c4 c5 c6)) (execs rest (lawE L fa cd c1 c2 c3 c4 c5 c6)) Q (fun _ _ => False) { s with heap := h', toks := tk }) →
    wpAny (model PySem.Challenge.rw_bu5045_01.row.prog w) (callerA.deeper (lawE L fa cd c1 c2 c3 c4 c5 c6)) (execs ((lawB.drop 11).take 1 ++ rest) (lawE L fa cd c1 c2 c3 c4 c5 c6)) Q (fun _ _ => False) s := by
  k_fill
  intro w A₀ h₀ L fa cd c1 c2 c3 c4 c5 c6 o1 o2 o3 o4 o5 o6 v3 s mean mg mb ln tl rl ol wl pd op zs tv0 rv ov wv vs wi kl n1 n3 n4 n5 oth Q rest G ⟨⟨m, F, hm⟩, N, D⟩ ⟨d1, d2, d3, d4, d5, d6⟩ hlen htv hrl hov hwv hwl hkw hop hlo hkl hnd hend hfin hQ
  obtain ⟨B, X, T, YO, YC⟩ := id G
  rw [← kst_self hm] at F
  have hB := @id ((lawB.drop 11).take 1 = _ :: []) rfl
  rw [hB]
  simp only [List.cons_append, List.nil_append]
  clear hB
  unfold cellL at *
  simp only [List.cons_append, List.nil_append] at N D
  have hr1000 : rv.length ≤ 1000 := by omega
  k_steps
  rename IsRange _ _ _ _ _ _ _ _ => lR
  rename Fr h₀ _ _ _ => lF
  rename News h₀ _ _ _ => lN
  rw [hrl] at lR
  refine ⟨?_⟩
  refine it_rangeC (σ := Obj) (n := zs.length) (fun i c => ∃ v0, c.data = .cell v0)
    (fun c => (pd, op) :: (tl, listOf tv0.toArray n1) :: (rl, listOf rv.toArray n3) :: (ol, listOf ov.toArray n4) :: (wl, listOf wv.toArray n5) :: (c1, o1) :: (c2, o2) :: (c3, c) :: (c4, o4) :: (c5, o5) :: (c6, o6) :: (Led w zs ++ oth))
    (fun _ => [("line", .ref ln)]) o3 rfl lR (small_one (by omega) (by omega) (by omega) (by omega)) (by first | exact rangeSize_nat _ _ | rfl) lF lN D (by tbn_conj) ⟨_, d3⟩ ?turn ?done
  case turn =>
    intro i t c u h tk0 I oI hi hJ F1 N1 D1
    obtain ⟨v0, d3'⟩ := hJ
    obtain ⟨z, hz⟩ : ∃ z, zs[i]? = some z := ⟨_, List.getElem?_eq_getElem hi⟩
    obtain ⟨o, ho⟩ : ∃ o, wi[i]? = some o := ⟨_, List.getElem?_eq_getElem (by omega)⟩
    obtain ⟨fM, fel, fC, fml⟩ := hfin i z hz
    have e0 : (0 + (i : Int)) = (i : Int) := by omega
    rw [e0]
    refine wpAny_mono (Q := CutU fun s₃ => ∃ h3 tk3 o3'', s₃ = { s with heap := h3, toks := tk3 } ∧ o3''.data = Data.cell (some (Value.int (i : Int) t)) ∧ Fr h₀ L h3 (kstB u [("line", .ref ln)]) ∧
      News h₀ L h3 ((I, oI) :: (pd, op) :: (tl, listOf tv0.toArray n1) :: (rl, listOf rv.toArray n3) :: (ol, listOf ov.toArray n4) :: (wl, listOf wv.toArray n5) :: (c1, o1) :: (c2, o2) :: (c3, o3'') :: (c4, o4) :: (c5, o5) :: (c6, o6) :: (Led w zs ++ oth))) ?_ ?_ (fun _ _ e => e)
    · k_steps
      exact ⟨_, _, _, rfl, by assumption, by assumption, by assumption⟩
    rintro _ _ ⟨h3, tk3, o3'', rfl, d3'', F3, N3⟩
    have D3 := NN.same (b := (I, oI) :: (pd, op) :: (tl, listOf tv0.toArray n1) :: (rl, listOf rv.toArray n3) :: (ol, listOf ov.toArray n4) :: (wl, listOf wv.toArray n5) :: (c1, o1) :: (c2, o2) :: (c3, o3'') :: (c4, o4) :: (c5, o5) :: (c6, o6) :: (Led w zs ++ oth)) D1 rfl
    have pi : ((I, oI) :: (pd, op) :: (tl, listOf tv0.toArray n1) :: (rl, listOf rv.toArray n3) :: (ol, listOf ov.toArray n4) :: (wl, listOf wv.toArray n5) :: (c1, o1) :: (c2, o2) :: (c3, o3'') :: (c4, o4) :: (c5, o5) :: (c6, o6) :: (Led w zs ++ oth)).Perm ((pd, op) :: (tl, listOf tv0.toArray n1) :: (rl, listOf rv.toArray n3) :: (ol, listOf ov.toArray n4) :: (wl, listOf wv.toArray n5) :: (c1, o1) :: (c2, o2) :: (c3, o3'') :: (c4, o4) :: (c5, o5) :: (c6, o6) :: (Led w zs ++ ((I, oI) :: oth))) := permOf fun x => by
      simp only [cnt_cons, cnt_app]; omega
    have P3 : Pl h₀ L h3 [("line", .ref ln)] ((pd, op) :: (tl, listOf tv0.toArray n1) :: (rl, listOf rv.toArray n3) :: (ol, listOf ov.toArray n4) :: (wl, listOf wv.toArray n5) :: (cellL c1 c2 c3 c4 c5 c6 o1 o2 o3'' o4 o5 o6 ++ (Led w zs ++ ((I, oI) :: oth)))) := ⟨⟨_, F3, by tbn_conj⟩, News.perm N3 pi, D3.perm pi⟩
    have C3 : Cells (some (.ref tl)) (some (.ref rl)) (some (.int (i : Int) t)) (some (.ref ol)) (some (.ref wl)) (some (.ref pd)) o1 o2 o3'' o4 o5 o6 := ⟨d1, d2, d3'', d4, d5, d6⟩
    have hoj : ∀ j, o = some j → j < zs.length := fun j e => by
      subst e
      have := (List.mem_filter.mp (hkw i j ho)).1
      exact List.mem_range.mp this
    have hhl : ∀ j, heldP (psOf kl) wi zs.length i = some j → j < zs.length := fun j e => by
      unfold heldP at e
      rw [ho] at e
      cases o with
      | none => cases e
      | some q =>
        dsimp only at e
        split at e
        · cases e; exact hoj _ rfl
        · cases e
    show wpAny _ _ (execs lpB _) _ _ _
    rw [lp_split]
    refine t1 w A₀ h₀ L fa cd c1 c2 c3 c4 c5 c6 o1 o2 o3'' o4 o5 o6 _ mean mg mb ln tl rl ol wl pd op zs tv0 rv ov wv wi kl n1 n3 n4 n5 i t ((I, oI) :: oth) _ _ G P3 C3 hi hlen hop hlo fun h4 tk4 mv hmv P4 => ?_
    refine t2 w A₀ h₀ L fa cd c1 c2 c3 c4 c5 c6 o1 o2 o3'' o4 o5 o6 _ mean mg mb ln tl rl ol wl pd op zs tv0 rv ov wv wi kl n1 n3 n4 n5 i t ((I, oI) :: oth) _ _ mv G P4 C3 hi hlen hop hlo hkl hnd hmv fun h5 tk5 mv2 hmv2 P5 => ?_
    refine t3 w A₀ h₀ L fa cd c1 c2 c3 c4 c5 c6 o1 o2 o3'' o4 o5 o6 _ mean mg mb ln tl rl ol wl pd op zs tv0 rv ov wv wi kl n1 n3 n4 n5 i t ((I, oI) :: oth) _ _ mv2 z G P5 C3 hi hlen htv hz hmv2 fml fM fun h6 tk6 P6 => ?_
    refine t4 w A₀ h₀ L fa cd c1 c2 c3 c4 c5 c6 o1 o2 o3'' o4 o5 o6 _ mean mg mb ln tl rl ol wl pd op zs tv0 rv ov wv wi kl n1 n3 n4 n5 i t ((I, oI) :: oth) _ _ vs G P6 C3 hi hlen hop hlo hrl hov hwv hwl hkw hend fun h7 tk7 dl dv nd hdv P7 => ?_
    refine t5 w A₀ h₀ L fa cd c1 c2 c3 c4 c5 c6 o1 o2 o3'' o4 o5 o6 _ mean mg mb ln tl rl ol wl pd op zs tv0 rv ov wv wi kl n1 n3 n4 n5 i t ((I, oI) :: oth) _ _ dl dv nd z G P7 C3 hi hlen htv hz hdv fel fun h8 tk8 P8 => ?_
    refine t6 w A₀ h₀ L fa cd c1 c2 c3 c4 c5 c6 o1 o2 o3'' o4 o5 o6 _ mean mg mb ln tl rl ol wl pd op zs tv0 rv ov wv wi kl n1 n3 n4 n5 i t ((I, oI) :: oth) _ _ o G P8 C3 hi hlen hwv ho fun h9 tk9 hv hhv P9 => ?_
    refine t7 w A₀ h₀ L fa cd c1 c2 c3 c4 c5 c6 o1 o2 o3'' o4 o5 o6 _ mean mg mb ln tl rl ol wl pd op zs tv0 rv ov wv wi kl n1 n3 n4 n5 i t ((I, oI) :: oth) _ _ hv o G P9 C3 hi hlen hop hlo hrl ho hoj hend hhv fun h10 tk10 hv2 hhv2 P10 => ?_
    refine t8 w A₀ h₀ L fa cd c1 c2 c3 c4 c5 c6 o1 o2 o3'' o4 o5 o6 _ mean mg mb ln tl rl ol wl pd op zs tv0 rv ov wv wi kl n1 n3 n4 n5 i t ((I, oI) :: oth) _ _ hv2 z G P10 C3 hi hlen htv hz hhv2 hhl fC fun h11 tk11 P11 => ?_
    obtain ⟨⟨m11, F11, hm11⟩, N11, D11⟩ := P11
    refine wpAny_execs_nil ?_
    exact Turn2.next o3'' F11 (News.perm N11 pi.symm) (NN.perm D11 pi.symm) hm11 ⟨_, d3''⟩
  case done =>
    intro c u h tk hJ F1 N1 D1
    obtain ⟨v0, d3'⟩ := hJ
    k_steps
    exact hQ h tk c v0 ⟨d1, d2, d3', d4, d5, d6⟩ ⟨⟨_, F1, by tbn_conj⟩, N1, D1⟩
end Mine
end
/- P4 -/
section
open PySem PySem.W PyProof.Rows PySem.Calls
set_option linter.unusedVariables false
namespace Mine
/-- one step of the pairs -/
theorem prun_step {vs : List Str} {i : Nat} {c' : List (Nat × Nat) × List Nat} (h : prun vs (i + 1) = some c') (hi : i < vs.length) : ∃ c v, prun vs i = some c ∧ vs[i]? = some v ∧
    ((v ∈ opS ∧ c' = (c.1, c.2 ++ [i])) ∨ (v ∉ opS ∧ v ∈ clS ∧ ∃ j, c.2.getLast? = some j ∧ c' = (c.1 ++ [(j, i)], c.2.dropLast)) ∨ (v ∉ opS ∧ v ∉ clS ∧ c' = c)) := by
  obtain ⟨v, hv⟩ : ∃ v, vs[i]? = some v := ⟨_, List.getElem?_eq_getElem hi⟩
  unfold prun at h
  split at h
  · cases h
  · next c hc =>
    rw [hv] at h
    dsimp only at h
    refine ⟨c, v, hc, hv, ?_⟩
    split at h
    · next h1 => cases h; exact .inl ⟨h1, rfl⟩
    · next h1 =>
      split at h
      · next h2 =>
        split at h
        · cases h
        · next j hj => cases h; exact .inr (.inl ⟨h1, h2, j, hj, rfl⟩)
      · next h2 => cases h; exact .inr (.inr ⟨h1, h2, rfl⟩)
theorem lookup_none_of {ps : List (Nat × Nat)} {q : Nat} (h : ∀ p ∈ ps, p.1 ≠ q) : ps.lookup q = none := by
  induction ps with
  | nil => rfl
  | cons a r ih =>
    rw [List.lookup_cons]
    have : (q == a.1) = false := by simpa using (h a (.head _)).symm
    rw [this]
    exact ih fun p hp => h p (.tail _ hp)
theorem lookup_some_mem {ps : List (Nat × Nat)} {q c : Nat} (h : ps.lookup q = some c) : (q, c) ∈ ps := by
  induction ps with
  | nil => cases h
  | cons a r ih =>
    rw [List.lookup_cons] at h
    by_cases e : q = a.1
    · have : (q == a.1) = true := by simpa using e
      rw [this] at h
      cases h
      rw [e]; exact .head _
    · have : (q == a.1) = false := by simpa using e
      rw [this] at h
      exact .tail _ (ih h)
theorem lookup_snoc (ps : List (Nat × Nat)) (j i q : Nat) : (ps ++ [(j, i)]).lookup q = match ps.lookup q with | some c => some c | none => if q = j then some i else none := by
  induction ps with
  | nil =>
    show [(j, i)].lookup q = _
    rw [List.lookup_cons]
    by_cases e : q = j
    · have : (q == j) = true := by simpa using e
      simp [this, e]
    · have : (q == j) = false := by simpa using e
      simp [this, e]
  | cons a r ih =>
    rw [List.cons_append, List.lookup_cons, List.lookup_cons]
    by_cases e : q = a.1
    · have : (q == a.1) = true := by simpa using e
      simp [this]
    · have : (q == a.1) = false := by simpa using e
      simp only [this]
      exact ih
theorem isOp_of {vs : List Str} {q : Nat} {v : Str} (h : vs[q]? = some v) : isOp vs q = decide (v ∈ opS) := by unfold isOp; rw [h]
/-- the stack: the opening ones that are not paired -/
theorem stk_iff (vs : List Str) : ∀ (n : Nat) (c : List (Nat × Nat) × List Nat), n ≤ vs.length → prun vs n = some c → ∀ q, isOp vs q = true → (q ∈ c.2 ↔ q < n ∧ c.1.lookup q = none)
  | 0, c, _, h, q, _ => by cases h; simp
  | i + 1, c', hn, h, q, hq => by
    obtain ⟨c, v, hc, hv, hs⟩ := prun_step h hn
    have I := stk_iff vs i c (by omega) hc q hq
    have P := prun_inv vs i c hc
    rcases hs with ⟨h1, rfl⟩ | ⟨h1, h2, j, hj, rfl⟩ | ⟨h1, h2, rfl⟩
    · dsimp only
      rw [List.mem_append, List.mem_singleton, I]
      constructor
      · rintro (⟨a, b⟩ | rfl)
        · exact ⟨by omega, b⟩
        · refine ⟨by omega, lookup_none_of fun p hp e => ?_⟩
          have := P.klt p hp
          omega
      · rintro ⟨a, b⟩
        rcases Nat.lt_or_eq_of_le (Nat.le_of_lt_succ a) with a | a
        · exact .inl ⟨a, b⟩
        · exact .inr a
    · dsimp only
      rw [lookup_snoc]
      have hqi : q ≠ i := fun e => by
        rw [e, isOp_of hv] at hq
        exact h1 (of_decide_eq_true hq)
      have e := getLast_split hj
      have hnd : (c.2.dropLast ++ [j]).Nodup := e ▸ P.nd
      have hjd : j ∉ c.2.dropLast := fun hm => (List.nodup_append.mp hnd).2.2 j hm j (by simp) rfl
      have hmem : q ∈ c.2 ↔ q ∈ c.2.dropLast ∨ q = j := by
        constructor
        · intro hm; rw [e] at hm; simpa using hm
        · intro hm; rw [e]; simpa using hm
      constructor
      · intro hm
        have hl := I.mp (hmem.mpr (.inl hm))
        refine ⟨by omega, ?_⟩
        rw [hl.2]
        dsimp only
        rw [if_neg (fun e' : q = j => hjd (e' ▸ hm))]
      · rintro ⟨a, b⟩
        cases hl : c.1.lookup q with
        | some z => rw [hl] at b; cases b
        | none =>
          rw [hl] at b
          dsimp only at b
          split at b
          · cases b
          · next hne =>
            have := I.mpr ⟨by omega, hl⟩
            rcases hmem.mp this with h' | h'
            · exact h'
            · exact absurd h' hne
    · rw [I]
      have hqi : q ≠ i := fun e => by
        rw [e, isOp_of hv] at hq
        exact h1 (of_decide_eq_true hq)
      constructor
      · rintro ⟨a, b⟩; exact ⟨by omega, b⟩
      · rintro ⟨a, b⟩; exact ⟨by omega, b⟩
/-- the pairs at a step: the same, or one more -/
theorem end_step {vs : List Str} {i : Nat} {c c' : List (Nat × Nat) × List Nat} (h : prun vs i = some c) (hs : c'.1 = c.1 ∨ ∃ j, c'.1 = c.1 ++ [(j, i)] ∧ c.1.lookup j = none) {p k : Nat} (hp : p < i) : p < endP c.1 i k ↔ p < endP c'.1 (i + 1) k := by
  unfold endP
  rcases hs with e | ⟨j, e, hj⟩
  · rw [e]
    cases c.1.lookup k with
    | none => simp; omega
    | some z => simp
  · rw [e, lookup_snoc]
    cases hk : c.1.lookup k with
    | some z => simp
    | none =>
      dsimp only
      by_cases e : k = j
      · rw [if_pos e]; simp
      · rw [if_neg e]; simp; omega
end Mine
end
/- P5 -/
section
open PySem PySem.W PyProof.Rows PySem.Calls
set_option linter.unusedVariables false
namespace Mine
/-- what the row is ahead of _MatchBrackets -/
structure Init (zs : List Z) (wi : List (Option Nat)) : Prop where
  el : ∀ z ∈ zs, z.el = []
  M : ∀ z ∈ zs, z.M = .none
  C : ∀ z ∈ zs, z.C = .none
  xs : ∀ (i j : Nat) (z y : Z), zs[i]? = some z → zs[j]? = some y → z.x = y.x → i = j
  cb : ∀ (i : Nat) (z : Z), zs[i]? = some z → valueAt z.kv CB = match (wi[i]?).getD none with | some q => (match zs[q]? with | some y => some (.ref y.x) | none => none) | none => none
  wl : wi.length = zs.length
  op : ∀ p q : Nat, wi[p]? = some (some q) → isOp (zs.map (·.v)) q = true ∧ q < zs.length
abbrev tr (zs : List Z) (q : Nat) : Value := valOf (ts zs) (some q)
theorem tr_z {zs : List Z} {j : Nat} {y : Z} (h : zs[j]? = some y) : tr zs j = .ref y.t := by
  unfold tr valOf ts; simp [h]
theorem cb_iff {zs zs1 : List Z} {wi : List (Option Nat)} (I : Init zs wi) (hst : zs1.map Z.stat = zs.map Z.stat) {i j : Nat} {z y : Z} (hz : zs1[i]? = some z) (hy : zs1[j]? = some y) : cbIs z y = true ↔ wi[i]? = some (some j) := by
  obtain ⟨z0, hz0, ez⟩ := stat_at hst.symm hz
  obtain ⟨y0, hy0, ey⟩ := stat_at hst.symm hy
  have hi : i < wi.length := by rw [I.wl]; exact (List.getElem?_eq_some_iff.mp hz0).1
  obtain ⟨o, ho⟩ : ∃ o, wi[i]? = some o := ⟨_, List.getElem?_eq_getElem hi⟩
  have hc := I.cb i z0 hz0
  rw [ho] at hc ⊢
  have hkv : z.kv = z0.kv := stat_kv ez.symm
  have hyx : y.x = y0.x := stat_x ey.symm
  unfold cbIs
  rw [hkv]
  cases o with
  | none =>
    have hc' : valueAt z0.kv CB = none := hc
    rw [hc']; simp
  | some q =>
    obtain ⟨_, hq⟩ := I.op i q ho
    obtain ⟨w0, hw0⟩ : ∃ w0, zs[q]? = some w0 := ⟨_, List.getElem?_eq_getElem hq⟩
    have hc' : valueAt z0.kv CB = some (.ref w0.x) := by
      rw [hc]
      show (match zs[q]? with | some y => some (Value.ref y.x) | none => none) = _
      rw [hw0]
    rw [hc']
    dsimp only
    constructor
    · intro h
      have e : w0.x = y0.x := (eq_of_beq h).trans hyx
      rw [I.xs q j w0 y0 hw0 hy0 e]
    · intro h
      have e : q = j := by simpa using h
      subst e
      rw [hw0] at hy0; cases hy0
      rw [hyx]; exact beq_self_eq_true _
theorem mIn_eq {zs : List Z} {wi : List (Option Nat)} (I : Init zs wi) {i : Nat} (hi : i < zs.length) : ∀ (l : List Nat) (zs1 : List Z), zs1.map Z.stat = zs.map Z.stat → l.Nodup → (∀ j ∈ l, j < zs.length) →
    mIn i l zs1 = match wi[i]? with | some (some q) => if q ∈ l then up (fun a => a.setC (tr zs q)) i (up (fun a => a.addE (tr zs i)) q zs1) else zs1 | _ => zs1
  | [], zs1, _, _, _ => by
    show zs1 = _
    split
    · rw [if_neg (by simp)]
    · rfl
  | j :: r, zs1, hst, hnd, hl => by
    obtain ⟨hjr, hnr⟩ := List.nodup_cons.mp hnd
    have hlen : zs1.length = zs.length := by have := congrArg List.length hst; simpa using this
    obtain ⟨z, hz⟩ : ∃ z, zs1[i]? = some z := ⟨_, List.getElem?_eq_getElem (by omega)⟩
    obtain ⟨y, hy⟩ : ∃ y, zs1[j]? = some y := ⟨_, List.getElem?_eq_getElem (by have := hl j (.head _); omega)⟩
    obtain ⟨z0, hz0, ez⟩ := stat_at hst.symm hz
    obtain ⟨y0, hy0, ey⟩ := stat_at hst.symm hy
    have hcb := cb_iff I hst hz hy
    have ht : tr zs i = .ref z.t := by rw [tr_z hz0, stat_t ez]
    have hty : tr zs j = .ref y.t := by rw [tr_z hy0, stat_t ey]
    have hin : inn i j zs1 = if wi[i]? = some (some j) then up (fun a => a.setC (tr zs j)) i (up (fun a => a.addE (tr zs i)) j zs1) else zs1 := by
      unfold inn
      rw [hz, hy]
      dsimp only
      rw [ht, hty]
      by_cases c : wi[i]? = some (some j)
      · rw [if_pos c, if_pos (hcb.mpr c)]
      · rw [if_neg c, if_neg (fun h => c (hcb.mp h))]
    have hst2 : (inn i j zs1).map Z.stat = zs.map Z.stat := (inn_stat i j zs1).trans hst
    show mIn i r (inn i j zs1) = _
    rw [mIn_eq I hi r (inn i j zs1) hst2 hnr fun a ha => hl a (.tail _ ha)]
    obtain ⟨o, ho⟩ : ∃ o, wi[i]? = some o := ⟨_, List.getElem?_eq_getElem (by rw [I.wl]; exact hi)⟩
    rw [ho] at hin ⊢
    cases o with
    | none =>
      rw [if_neg (by simp)] at hin
      exact hin
    | some q =>
      dsimp only
      by_cases e : q = j
      · subst e
        rw [if_pos rfl] at hin
        rw [if_neg hjr, if_pos (.head _)]
        exact hin
      · rw [if_neg (fun h => e (by simpa using h))] at hin
        rw [hin]
        by_cases m : q ∈ r
        · rw [if_pos m, if_pos (.tail _ m)]
        · rw [if_neg m, if_neg (fun h => (List.mem_cons.mp h).elim e m)]
theorem in_stk {vs : List Str} {i k : Nat} {c : List (Nat × Nat) × List Nat} (hi : i + 1 ≤ vs.length) (h : prun vs (i + 1) = some c) (hk : isOp vs k = true) : (k ≤ i ∧ i < endP c.1 (i + 1) k) ↔ k ∈ c.2 := by
  rw [stk_iff vs (i + 1) c hi h k hk]
  unfold endP
  cases hl : c.1.lookup k with
  | none => simp; omega
  | some z =>
    have := (prun_inv vs (i + 1) c h).klt (k, z) (lookup_some_mem hl)
    simp at this ⊢
    omega
theorem due_step {vs : List Str} {wi : List (Option Nat)} {i k : Nat} {c c' : List (Nat × Nat) × List Nat} (hi : i + 1 ≤ vs.length) (h : prun vs i = some c) (h' : prun vs (i + 1) = some c') (hs : c'.1 = c.1 ∨ ∃ j, c'.1 = c.1 ++ [(j, i)] ∧ c.1.lookup j = none)
    (hop : wi[i]? = some (some k) → isOp vs k = true) : dueL c'.1 wi (i + 1) k = dueL c.1 wi i k ++ (if wi[i]? = some (some k) ∧ k ∈ c'.2 then [i] else []) := by
  unfold dueL
  rw [List.range_succ, List.filter_append]
  congr 1
  · refine List.filter_congr fun p hp => ?_
    have hp' := List.mem_range.mp hp
    have e := end_step (k := k) h hs hp'
    by_cases c1 : p < endP c.1 i k
    · rw [decide_eq_true c1, decide_eq_true (e.mp c1)]
    · rw [decide_eq_false c1, decide_eq_false (fun q => c1 (e.mpr q))]
  · by_cases hw : wi[i]? = some (some k)
    · have hk := in_stk hi h' (hop hw)
      by_cases m : k ∈ c'.2
      · obtain ⟨a, b⟩ := hk.mpr m
        rw [if_pos ⟨hw, m⟩, List.filter_cons_of_pos (by simp [hw, a, b])]; rfl
      · rw [if_neg (fun q => m q.2), List.filter_cons_of_neg]
        · rfl
        · intro q
          simp only [Bool.and_eq_true, decide_eq_true_eq] at q
          exact m (hk.mp q.2)
    · rw [if_neg (fun q => hw q.1), List.filter_cons_of_neg (by simp [hw])]; rfl
theorem held_old {vs : List Str} {wi : List (Option Nat)} {i k : Nat} {c c' : List (Nat × Nat) × List Nat} (h : prun vs i = some c) (hs : c'.1 = c.1 ∨ ∃ j, c'.1 = c.1 ++ [(j, i)] ∧ c.1.lookup j = none) (hk : k < i) :
    heldP c'.1 wi (i + 1) k = heldP c.1 wi i k := by
  unfold heldP
  split
  · next j hj =>
    have e := end_step (k := j) h hs hk
    by_cases c1 : j ≤ k ∧ k < endP c.1 i j
    · rw [if_pos c1, if_pos ⟨c1.1, e.mp c1.2⟩]
    · rw [if_neg c1, if_neg (fun q => c1 ⟨q.1, e.mpr q.2⟩)]
  · rfl
end Mine
end
/- P6 -/
section
open PySem PySem.W PyProof.Rows PySem.Calls
set_option linter.unusedVariables false
namespace Mine
theorem prun_op (vs : List Str) : ∀ (n : Nat) (c : List (Nat × Nat) × List Nat), n ≤ vs.length → prun vs n = some c → (∀ j ∈ c.2, isOp vs j = true) ∧ (∀ q ∈ c.1, isOp vs q.2 = false)
  | 0, c, _, h => by cases h; exact ⟨(fun j hj => nomatch hj), (fun q hq => nomatch hq)⟩
  | i + 1, c', hn, h => by
    obtain ⟨c, v, hc, hv, hs⟩ := prun_step h hn
    obtain ⟨I1, I2⟩ := prun_op vs i c (by omega) hc
    rcases hs with ⟨h1, rfl⟩ | ⟨h1, h2, j, hj, rfl⟩ | ⟨h1, h2, rfl⟩
    · refine ⟨fun j hj => ?_, I2⟩
      rcases List.mem_append.mp hj with h | h
      · exact I1 j h
      · rw [List.mem_singleton.mp h, isOp_of hv]; exact decide_eq_true h1
    · refine ⟨fun a ha => I1 a (List.dropLast_subset _ ha), fun q hq => ?_⟩
      rcases List.mem_append.mp hq with h | h
      · exact I2 q h
      · rw [List.mem_singleton.mp h]
        show isOp vs i = false
        rw [isOp_of hv]; exact decide_eq_false h1
    · exact ⟨I1, I2⟩
theorem mP_snoc {ps : List (Nat × Nat)} {j i k : Nat} (h2 : ∀ q ∈ ps, q.2 < i) (hj : ∀ q ∈ ps, q.2 ≠ j) (hl : ps.lookup j = none) (hji : j ≠ i) : mP (ps ++ [(j, i)]) k = if k = i then some j else if k = j then some i else mP ps k := by
  unfold mP
  rw [List.filter_append]
  by_cases e : k = i
  · subst e
    have e1 : ps.filter (fun q => q.2 == k) = [] := List.filter_eq_nil_iff.mpr fun q hq => by
      have := h2 q hq
      simp; omega
    rw [e1, if_pos rfl, List.filter_cons_of_pos (by simp)]
    rfl
  · have e1 : [(j, i)].filter (fun q => q.2 == k) = [] := List.filter_eq_nil_iff.mpr fun q hq => by
      rw [List.mem_singleton.mp hq]
      simp; omega
    rw [e1, List.append_nil, if_neg e, lookup_snoc]
    by_cases e' : k = j
    · subst e'
      have e2 : ps.filter (fun q => q.2 == k) = [] := List.filter_eq_nil_iff.mpr fun q hq => by
        have := hj q hq
        simpa using this
      rw [e2, if_pos rfl, hl]
      simp
    · simp only [if_neg e']
      cases (ps.filter fun q => q.2 == k).head? with
      | some q => rfl
      | none =>
        dsimp only
        cases ps.lookup k with
        | some c => rfl
        | none => rfl
/-- the row while _MatchBrackets goes -/
def Inv (zs : List Z) (wi : List (Option Nat)) (i : Nat) (ps : List (Nat × Nat)) (c : List Z) : Prop := ∀ (k : Nat) (z : Z), c[k]? = some z → z.M = valOf (ts zs) (mP ps k) ∧ z.el = (dueL ps wi i k).map (tr zs) ∧ z.C = if k < i then valOf (ts zs) (heldP ps wi i k) else .none
theorem run_inv {zs : List Z} {wi : List (Option Nat)} (I : Init zs wi) : ∀ (i : Nat), i ≤ zs.length → ∀ (c : List Z × List Nat) (p : List (Nat × Nat) × List Nat), run zs i = some c → prun (zs.map (·.v)) i = some p → Inv zs wi i p.1 c.1
  | 0, _, c, p, hr, hp => by
    cases hr
    cases hp
    intro k z hz
    have hm := List.mem_of_getElem? hz
    exact ⟨I.M z hm, by rw [I.el z hm]; rfl, by rw [if_neg (by omega)]; exact I.C z hm⟩
  | i + 1, hi, c', p', hr, hp => by
    have hvl : (zs.map (·.v)).length = zs.length := by simp
    obtain ⟨p, v, hpi, hv, hs⟩ := prun_step hp (by rw [hvl]; exact hi)
    unfold run at hr
    split at hr
    · cases hr
    · next c hc =>
      split at hr
      · cases hr
      · next b hb =>
        cases hr
        have J := run_inv I i (by omega) c p hc hpi
        have hst := run_stat zs i c hc
        have hlen : c.1.length = zs.length := by have := congrArg List.length hst; simpa using this
        obtain ⟨ps, hps⟩ := (run_prun zs i (by omega)).1 c hc
        have e2 : p = (ps, c.2) := by rw [hpi] at hps; exact Option.some.inj hps
        obtain ⟨z0, hz0⟩ : ∃ z0, zs[i]? = some z0 := ⟨_, List.getElem?_eq_getElem (by omega)⟩
        obtain ⟨zi, hzi, ezi⟩ := stat_at hst hz0
        have hvz : zi.v = v := by
          have : (zs.map (·.v))[i]? = some z0.v := by rw [List.getElem?_map, hz0]; rfl
          rw [hv] at this
          exact (stat_v ezi).trans (Option.some.inj this).symm
        have hstb : b.1.map Z.stat = zs.map Z.stat := (mPre_stat (zs' := b.1) (stk' := b.2) hb).trans hst
        have P := prun_inv (zs.map (·.v)) (i + 1) p' hp
        have P0 := prun_inv (zs.map (·.v)) i p hpi
        obtain ⟨O1, O2⟩ := prun_op (zs.map (·.v)) i p (by omega) hpi
        have hsz : p'.1 = p.1 ∨ ∃ j, p'.1 = p.1 ++ [(j, i)] ∧ p.1.lookup j = none := by
          rcases hs with ⟨_, rfl⟩ | ⟨_, _, j, hj, rfl⟩ | ⟨_, _, rfl⟩
          · exact .inl rfl
          · refine .inr ⟨j, rfl, ?_⟩
            have hjm : j ∈ p.2 := by rw [getLast_split hj]; simp
            exact ((stk_iff _ i p (by omega) hpi j (O1 j hjm)).mp hjm).2
          · exact .inl rfl
        -- the stack and the middle row
        have key : b.2 = p'.2 ∧ ∀ (k : Nat) (z : Z), b.1[k]? = some z → z.M = valOf (ts zs) (mP p'.1 k) ∧ z.el = (dueL p.1 wi i k).map (tr zs) ∧ z.C = if k < i then valOf (ts zs) (heldP p.1 wi i k) else .none := by
          unfold mPre at hb
          rw [hzi] at hb
          dsimp only at hb
          rw [hvz] at hb
          rcases hs with ⟨h1, rfl⟩ | ⟨h1, h2, j, hj, rfl⟩ | ⟨h1, h2, rfl⟩
          · rw [if_pos h1] at hb
            cases hb
            exact ⟨by rw [e2], J⟩
          · rw [if_neg h1, if_pos h2] at hb
            have hj' : c.2.getLast? = some j := by rw [e2] at hj; exact hj
            rw [hj'] at hb
            dsimp only at hb
            have hjm : j ∈ p.2 := by rw [getLast_split hj]; simp
            have hji : j < i := P0.lt j hjm
            obtain ⟨y0, hy0⟩ : ∃ y0, zs[j]? = some y0 := ⟨_, List.getElem?_eq_getElem (by omega)⟩
            obtain ⟨yj, hyj, eyj⟩ := stat_at hst hy0
            rw [hyj] at hb
            dsimp only at hb
            cases hb
            refine ⟨by rw [e2], fun k z hz => ?_⟩
            have hm := fun k => mP_snoc (k := k) (ps := p.1) (j := j) (i := i) (fun q hq => (P0.klt q hq).2) (fun q hq e => by
              have := O2 q hq
              rw [e, O1 j hjm] at this
              cases this) ((stk_iff _ i p (by omega) hpi j (O1 j hjm)).mp hjm).2 (by omega)
            rw [up_get, up_get] at hz
            dsimp only
            rw [hm k]
            by_cases ki : i = k
            · subst ki
              rw [if_pos rfl, if_neg (by omega), hzi] at hz
              cases hz
              obtain ⟨_, b2, b3⟩ := J i zi hzi
              refine ⟨?_, b2, b3⟩
              rw [if_pos rfl]
              show Value.ref yj.t = valOf (ts zs) (some j)
              have := tr_z hy0
              rw [stat_t eyj]; exact this.symm
            · rw [if_neg ki] at hz
              rw [if_neg (Ne.symm ki)]
              by_cases kj : j = k
              · subst kj
                rw [if_pos rfl, hyj] at hz
                cases hz
                obtain ⟨_, b2, b3⟩ := J j yj hyj
                refine ⟨?_, b2, b3⟩
                rw [if_pos rfl]
                show Value.ref zi.t = valOf (ts zs) (some i)
                have := tr_z hz0
                rw [stat_t ezi]; exact this.symm
              · rw [if_neg kj] at hz
                rw [if_neg (Ne.symm kj)]
                exact J k z hz
          · rw [if_neg h1, if_neg h2] at hb
            cases hb
            exact ⟨by rw [e2], J⟩
        obtain ⟨eb2, K⟩ := key
        have hnd : b.2.Nodup := by rw [eb2]; exact P.nd
        have hbl : ∀ j ∈ b.2, j < zs.length := fun j hj => by rw [eb2] at hj; have := P.lt j hj; omega
        show Inv zs wi (i + 1) p'.1 (mIn i b.2 b.1)
        rw [mIn_eq I (by omega) b.2 b.1 hstb hnd hbl]
        have D := fun k => due_step (wi := wi) (k := k) (by rw [hvl]; exact hi) hpi hp hsz (fun e => (I.op i k e).1)
        have hbase : ∀ (k : Nat) (z : Z), b.1[k]? = some z → (¬ (wi[i]? = some (some k) ∧ k ∈ b.2)) → z.el = (dueL p'.1 wi (i + 1) k).map (tr zs) := fun k z hz hn => by
          rw [D k, if_neg (by rw [← eb2]; exact hn), List.append_nil]
          exact (K k z hz).2.1
        have hold : ∀ (k : Nat) (z : Z), b.1[k]? = some z → k ≠ i → z.C = if k < i + 1 then valOf (ts zs) (heldP p'.1 wi (i + 1) k) else .none := fun k z hz hk => by
          have := (K k z hz).2.2
          by_cases c : k < i
          · rw [if_pos c] at this
            rw [if_pos (by omega), held_old hpi hsz c]; exact this
          · rw [if_neg c] at this
            rw [if_neg (by omega)]; exact this
        have hiC : ∀ (z : Z), b.1[i]? = some z → z.C = .none := fun z hz => by
          have := (K i z hz).2.2
          rwa [if_neg (by omega)] at this
        obtain ⟨o, ho⟩ : ∃ o, wi[i]? = some o := ⟨_, List.getElem?_eq_getElem (by rw [I.wl]; omega)⟩
        have hno : (∀ q, ¬ (o = some q ∧ q ∈ b.2)) → heldP p'.1 wi (i + 1) i = none := fun h => by
          unfold heldP
          rw [ho]
          cases o with
          | none => rfl
          | some q =>
            dsimp only
            have := in_stk (k := q) (by rw [hvl]; exact hi) hp (I.op i q ho).1
            rw [if_neg (fun c => h q ⟨rfl, by rw [eb2]; exact this.mp c⟩)]
        have plain : (∀ q, ¬ (o = some q ∧ q ∈ b.2)) → Inv zs wi (i + 1) p'.1 b.1 := fun h k z hz => by
          refine ⟨(K k z hz).1, hbase k z hz (fun q => h k ⟨by rw [ho] at q; exact Option.some.inj q.1, q.2⟩), ?_⟩
          by_cases e : k = i
          · subst e
            rw [if_pos (by omega), hno h, hiC z hz]; rfl
          · exact hold k z hz e
        rw [ho]
        cases o with
        | none => exact plain (fun q h => by cases h.1)
        | some q =>
          dsimp only
          by_cases m : q ∈ b.2
          · rw [if_pos m]
            intro k z hz
            have hq := in_stk (k := q) (by rw [hvl]; exact hi) hp (I.op i q ho).1
            have hheld : heldP p'.1 wi (i + 1) i = some q := by
              unfold heldP
              rw [ho]
              dsimp only
              rw [if_pos (hq.mpr (by rw [← eb2]; exact m))]
            have hq1 := I.op i q ho
            obtain ⟨yq0, hyq0⟩ : ∃ y, zs[q]? = some y := ⟨_, List.getElem?_eq_getElem hq1.2⟩
            rw [up_get, up_get] at hz
            -- the element ahead of both changes
            have el_q : ∀ (y : Z), b.1[q]? = some y → (y.addE (tr zs i)).el = (dueL p'.1 wi (i + 1) q).map (tr zs) := fun y hy => by
              rw [D q, if_pos ⟨ho, by rw [← eb2]; exact m⟩, List.map_append]
              show y.el ++ [tr zs i] = _
              rw [(K q y hy).2.1]; rfl
            by_cases ki : i = k
            · subst ki
              rw [if_pos rfl] at hz
              by_cases kq : q = i
              · subst kq
                rw [if_pos rfl] at hz
                obtain ⟨y, hy⟩ : ∃ y, b.1[q]? = some y := by
                  cases hb1 : b.1[q]? with
                  | none => rw [hb1] at hz; cases hz
                  | some y => exact ⟨y, rfl⟩
                rw [hy] at hz
                cases hz
                refine ⟨(K q y hy).1, el_q y hy, ?_⟩
                rw [if_pos (by omega), hheld]; rfl
              · rw [if_neg kq] at hz
                obtain ⟨y, hy⟩ : ∃ y, b.1[i]? = some y := by
                  cases hb1 : b.1[i]? with
                  | none => rw [hb1] at hz; cases hz
                  | some y => exact ⟨y, rfl⟩
                rw [hy] at hz
                cases hz
                refine ⟨(K i y hy).1, hbase i y hy (fun h => kq ?_), ?_⟩
                · have := h.1
                  rw [ho] at this
                  exact Option.some.inj (Option.some.inj this)
                · rw [if_pos (by omega), hheld]; rfl
            · rw [if_neg ki] at hz
              by_cases kq : q = k
              · subst kq
                rw [if_pos rfl] at hz
                obtain ⟨y, hy⟩ : ∃ y, b.1[q]? = some y := by
                  cases hb1 : b.1[q]? with
                  | none => rw [hb1] at hz; cases hz
                  | some y => exact ⟨y, rfl⟩
                rw [hy] at hz
                cases hz
                exact ⟨(K q y hy).1, el_q y hy, hold q y hy (Ne.symm ki)⟩
              · rw [if_neg kq] at hz
                refine ⟨(K k z hz).1, hbase k z hz (fun h => kq ?_), hold k z hz (Ne.symm ki)⟩
                have := h.1
                rw [ho] at this
                exact Option.some.inj (Option.some.inj this)
          · rw [if_neg m]
            exact plain (fun q' h => m (Option.some.inj h.1 ▸ h.2))
end Mine
end
/- W41 -/
section
open PySem PySem.W PyProof.Rows PySem.Calls
set_option maxRecDepth 100000
set_option linter.unusedVariables false
namespace Mine
theorem Pl.perm {h₀ h : Heap} {L : Addr} {ps : List (Str × Value)} {a b : List (Addr × Obj)} (P : Pl h₀ L h ps a) (p : a.Perm b) : Pl h₀ L h ps b := ⟨P.F, News.perm P.N p, P.D.perm p⟩
theorem xs_nodup {w : World} {zs : List Z} {l : List (Addr × Obj)} (d : NN l) (hs : ∃ r, l.Perm (Led w zs ++ r)) : (zs.map (·.x)).Nodup := by
  obtain ⟨r, p⟩ := hs
  have h := d.perm p
  unfold NN at h
  rw [List.map_append] at h
  have h1 := (List.nodup_append.mp h).1
  clear h p d
  induction zs with
  | nil => exact List.nodup_nil
  | cons z r ih =>
    rw [Led_cons, List.map_append] at h1
    obtain ⟨h2, h3, h4⟩ := List.nodup_append.mp h1
    refine List.nodup_cons.mpr ⟨fun hm => ?_, ih h3⟩
    obtain ⟨y, hy, e⟩ := List.mem_map.mp hm
    refine h4 z.x (by simp [Mine.tk]) z.x ?_ rfl
    exact List.mem_map.mpr ⟨(y.x, instObj 214 y.d), Led_mem hy (by simp [Mine.tk]), e⟩
theorem xs_inj {zs : List Z} (h : (zs.map (·.x)).Nodup) (i j : Nat) (z y : Z) (hz : zs[i]? = some z) (hy : zs[j]? = some y) (e : z.x = y.x) : i = j := by
  have h1 : (zs.map (·.x))[i]? = some z.x := by rw [List.getElem?_map, hz]; rfl
  have h2 : (zs.map (·.x))[j]? = some z.x := by rw [List.getElem?_map, hy, e]; rfl
  have hi : i < (zs.map (·.x)).length := (List.getElem?_eq_some_iff.mp h1).1
  exact (List.getElem?_inj hi h).mp (h1.trans h2.symm)
theorem map_at {α : Type} {g : Z → α} {zs zs' : List Z} (h : zs'.map g = zs.map g) {i : Nat} {z' : Z} (hz : zs'[i]? = some z') : ∃ z, zs[i]? = some z ∧ g z' = g z := by
  have e : (zs'.map g)[i]? = (zs.map g)[i]? := by rw [h]
  rw [List.getElem?_map, List.getElem?_map, hz] at e
  cases q : zs[i]? with
  | none => rw [q] at e; cases e
  | some z => rw [q] at e; exact ⟨z, rfl, Option.some.inj e⟩
theorem map_of {α β : Type} {g : Z → α} {f : Z → β} (k : ∀ z y, g z = g y → f z = f y) {zs zs' : List Z} (h : zs'.map g = zs.map g) : zs'.map f = zs.map f := by
  refine List.ext_getElem? fun i => ?_
  rw [List.getElem?_map, List.getElem?_map]
  cases q : zs'[i]? with
  | some z' =>
    obtain ⟨z, hz, e⟩ := map_at h q
    rw [hz]; exact congrArg some (k _ _ e)
  | none =>
    have hl : zs'.length = zs.length := by have := congrArg List.length h; simpa using this
    have : zs.length ≤ i := by rw [← hl]; exact List.getElem?_eq_none_iff.mp q
    rw [List.getElem?_eq_none this]
theorem s2_v (z y : Z) (h : z.stat2 = y.stat2) : z.v = y.v := (congrArg Z.v h : z.stat2.v = y.stat2.v)
theorem s2_t (z y : Z) (h : z.stat2 = y.stat2) : z.t = y.t := (congrArg Z.t h : z.stat2.t = y.stat2.t)
theorem s2_x (z y : Z) (h : z.stat2 = y.stat2) : z.x = y.x := (congrArg Z.x h : z.stat2.x = y.stat2.x)
theorem s2_el (z y : Z) (h : z.stat2 = y.stat2) : z.el = y.el := (congrArg Z.el h : z.stat2.el = y.stat2.el)
theorem s2_M (z y : Z) (h : z.stat2 = y.stat2) : z.M = y.M := (congrArg Z.M h : z.stat2.M = y.stat2.M)
theorem s2_C (z y : Z) (h : z.stat2 = y.stat2) : z.C = y.C := (congrArg Z.C h : z.stat2.C = y.stat2.C)
theorem s3_v (z y : Z) (h : z.stat3 = y.stat3) : z.v = y.v := (congrArg Z.v h : z.stat3.v = y.stat3.v)
theorem s3_t (z y : Z) (h : z.stat3 = y.stat3) : z.t = y.t := (congrArg Z.t h : z.stat3.t = y.stat3.t)
theorem s3_x (z y : Z) (h : z.stat3 = y.stat3) : z.x = y.x := (congrArg Z.x h : z.stat3.x = y.stat3.x)
theorem s3_el (z y : Z) (h : z.stat3 = y.stat3) : z.el = y.el := (congrArg Z.el h : z.stat3.el = y.stat3.el)
theorem s3_M (z y : Z) (h : z.stat3 = y.stat3) : z.M = y.M := (congrArg Z.M h : z.stat3.M = y.stat3.M)
theorem s3_C (z y : Z) (h : z.stat3 = y.stat3) : z.C = y.C := (congrArg Z.C h : z.stat3.C = y.stat3.C)
theorem s3_kv (z y : Z) (h : z.stat3 = y.stat3) : z.kv = y.kv := (congrArg Z.kv h : z.stat3.kv = y.stat3.kv)
theorem s3_on (z y : Z) (h : z.stat3 = y.stat3) : z.on = y.on := (congrArg Z.on h : z.stat3.on = y.stat3.on)
theorem s3_nt (z y : Z) (h : z.stat3 = y.stat3) : z.nt = y.nt := (congrArg Z.nt h : z.stat3.nt = y.stat3.nt)
theorem sp_ne_cb : SP ≠ CB := by decide
theorem cb_sp (zs : List Z) (o : Option Nat) : valueAt (cbKV zs o) SP = none := by
  unfold cbKV
  split
  · rfl
  · split
    · unfold valueAt; simp [Ne.symm sp_ne_cb]
    · rfl
theorem cb_cb (zs : List Z) (o : Option Nat) : valueAt (cbKV zs o) CB = match o with | some q => (match zs[q]? with | some y => some (.ref y.x) | none => none) | none => none := by
  unfold cbKV
  cases o with
  | none => rfl
  | some q =>
    dsimp only
    cases zs[q]? with
    | none => rfl
    | some y => unfold valueAt; simp
theorem cb_len (zs : List Z) (o : Option Nat) : (cbKV zs o).length ≤ 8 := by
  unfold cbKV
  split
  · exact Nat.zero_le _
  · split <;> simp
theorem stored_at (kvs : List (Str × Value)) (h : valueAt kvs SP = none) (v : Value) : valueAt (stored kvs SP v) SP = some v := by
  rw [stored_absent h]
  unfold valueAt at h ⊢
  rw [Option.map_eq_none_iff] at h
  rw [List.find?_append, h]
  simp
theorem wOf_mem {os : List Nat} {p : Int} {q : Nat} (h : wOf os p = some q) : q ∈ os := by
  unfold wOf at h
  split at h
  · exact List.mem_of_getElem? h
  · cases h
theorem wi_opn {vs : List Str} {tn : List Int} {p q : Nat} (h : (wiL vs tn)[p]? = some (some q)) : q ∈ opn vs vs.length := by
  unfold wiL at h
  rw [List.getElem?_map, Option.map_eq_some_iff] at h
  obtain ⟨t, _, e⟩ := h
  exact wOf_mem e
theorem opn_mem {vs : List Str} {n q : Nat} (h : q ∈ opn vs n) : isOp vs q = true ∧ q < n := by
  have := List.mem_filter.mp h
  exact ⟨this.2, List.mem_range.mp this.1⟩
theorem mP_lt {ps : List (Nat × Nat)} {n k j : Nat} (h : ∀ q ∈ ps, q.1 < q.2 ∧ q.2 < n) (e : mP ps k = some j) : j < n := by
  unfold mP at e
  split at e
  · next q hq =>
    have hm : q ∈ ps.filter fun q => q.2 == k := List.mem_of_mem_head? hq
    have := h q (List.mem_filter.mp hm).1
    cases e; omega
  · exact (h _ (lookup_some_mem e)).2
/-- what _MatchBrackets leaves is what the law asks -/
theorem fin_all {zs zs' : List Z} {wi : List (Option Nat)} {kl : List (Nat × Nat × Tok)} {stk stk' : List Nat} (I : Init zs wi) (hr : run zs zs.length = some (zs', stk')) (hp : prun (zs.map (·.v)) zs.length = some (psOf kl, stk)) (k : Nat) (z : Z) (hz : zs'[k]? = some z) : FinZ zs' (psOf kl) wi k z := by
  have hst := run_stat zs zs.length _ hr
  have hl : zs'.length = zs.length := by have := congrArg List.length hst; simpa using this
  have hts : ts zs' = ts zs := by rw [ts_stat, ts_stat, hst]
  obtain ⟨a, b, c⟩ := run_inv I zs.length (Nat.le_refl _) _ _ hr hp k z hz
  have hk : k < zs.length := by rw [← hl]; exact (List.getElem?_eq_some_iff.mp hz).1
  rw [if_pos hk] at c
  have P := prun_inv (zs.map (·.v)) zs.length _ hp
  refine ⟨by rw [hts]; exact a, by rw [hts, hl]; exact b, by rw [hts, hl]; exact c, fun j e => by rw [hl]; exact mP_lt P.klt e⟩
end Mine
end
/- W42 -/
section
open PySem PySem.W PyProof.Rows PySem.Calls
set_option maxRecDepth 100000
set_option linter.unusedVariables false
namespace Mine
theorem law_split : lawB = lawB.take 3 ++ ((lawB.drop 3).take 1 ++ ((lawB.drop 4).take 1 ++ ((lawB.drop 5).take 1 ++ ((lawB.drop 6).take 1 ++ ((lawB.drop 7).take 1 ++ ((lawB.drop 8).take 1 ++ ((lawB.drop 9).take 1 ++ ((lawB.drop 10).take 1 ++ ((lawB.drop 11).take 1 ++ ((lawB.drop 12).take 1 ++ lawB.drop 13)))))))))) := by rfl
theorem law_tail (w : World) (A₀ : Around) (h₀ : Heap) (L fa : Addr) (cd : Value) (c1 c2 c3 c4 c5 c6 : Addr) (o1 o2 o3 o4 o5 o6 : Obj) (v3 v4 v5 v6 : Option Value) (s : Shared) (mean : ExcName → Option Value) (mg mb : Str → Option Value)
    (ln dl tl2 tl rl : Addr) (n6 n1 n3 : Nat) (g : Nat → Tok) (zs : List Z) (tv0 rv : List Value) (oth : List (Addr × Obj)) (Q : Flow → Shared → Prop)
    (G : Gd w A₀ h₀ mean mg mb) (P : Pl h₀ L s.heap [("line", .ref ln)] ((ln, instObj 525 dl) :: (dl, dictOf (lineE w g tl2) 3) :: (tl2, listOf ((ts zs).map Value.ref).toArray n6) :: (cellL c1 c2 c3 c4 c5 c6 o1 o2 o3 o4 o5 o6 ++ (Led w zs ++ ((tl, listOf tv0.toArray n1) :: (rl, listOf rv.toArray n3) :: oth)))))
    (C : Cells (some (.ref tl)) (some (.ref rl)) v3 v4 v5 v6 o1 o2 o3 o4 o5 o6) (htv : tv0 = (ts zs).map Value.ref) (hrv : StrsIn rv (zs.map (·.v))) (hLV : ∀ v ∈ zs.map (·.v), v ∈ LV) (h10 : zs.length ≤ 10) (hok : ∀ z ∈ zs, OkZ w z ∧ valueAt z.kv SP = none)
    (hQ : ∀ h' tk m', Fr h₀ L h' m' → Q (.ret (.bool true)) { s with heap := h', toks := tk }) :
    wpAny (model PySem.Challenge.rw_bu5045_01.row.prog w) (callerA.deeper (lawE L fa cd c1 c2 c3 c4 c5 c6)) (execs ((lawB.drop 12).take 1 ++ lawB.drop 13) (lawE L fa cd c1 c2 c3 c4 c5 c6)) Q (fun _ _ => False) s := by
  refine seg12 w A₀ h₀ L fa cd c1 c2 c3 c4 c5 c6 (cellL c1 c2 c3 c4 c5 c6 o1 o2 o3 o4 o5 o6) s mean mg mb ln dl tl2 n6 g zs ((tl, listOf tv0.toArray n1) :: (rl, listOf rv.toArray n3) :: oth) Q _ G P h10 (fun z hz => (hok z hz).1) ?_
  intro h1 tk1 zs' hadj P'
  obtain ⟨a1, a2, a3⟩ := hadj
  have hl : zs'.length = zs.length := by have := congrArg List.length a1; simpa using this
  have hts : ts zs' = ts zs := map_of (f := (·.t)) s2_t a1
  have hp : (cellL c1 c2 c3 c4 c5 c6 o1 o2 o3 o4 o5 o6 ++ (Led w zs' ++ ((tl, listOf tv0.toArray n1) :: (rl, listOf rv.toArray n3) :: oth))).Perm ((tl, listOf tv0.toArray n1) :: (rl, listOf rv.toArray n3) :: (cellL c1 c2 c3 c4 c5 c6 o1 o2 o3 o4 o5 o6 ++ (Led w zs' ++ oth))) := permOf fun x => by
    simp only [cnt_cons, cnt_app]; omega
  refine seg13 w A₀ h₀ L fa cd c1 c2 c3 c4 c5 c6 o1 o2 o3 o4 o5 o6 v3 v4 v5 v6 _ mean mg mb tl rl tv0 rv (zs.map (·.v)) n1 n3 zs' oth Q G (P'.perm hp) C (by rw [hts]; exact htv) hrv hLV (by simp [hl]) (by omega) ?_ fun h' tk m' F => hQ h' tk m' F
  intro k z' hz'
  obtain ⟨z, hz, ez⟩ := map_at a1 hz'
  refine ⟨a2 z' (List.mem_of_getElem? hz'), ?_⟩
  have hk : k < zs.length := (List.getElem?_eq_some_iff.mp hz).1
  have h3 := a3 k z z' hz hz'
  have hsp := (hok z (List.mem_of_getElem? hz)).2
  by_cases c : k ≠ 0 ∧ lev (zs.map (·.v)) k = 0
  · rw [if_pos ⟨hk, c⟩] at h3
    rw [if_pos c]
    obtain ⟨t, ht⟩ := h3
    exact ⟨t, by rw [ht]; exact stored_at _ hsp _⟩
  · rw [if_neg (fun q => c q.2)] at h3
    rw [if_neg c, h3]; exact hsp
set_option maxHeartbeats 4000000 in
theorem law_body (w : World) (A₀ : Around) (h₀ : Heap) (L fa : Addr) (cd : Value) (c1 c2 c3 c4 c5 c6 : Addr) (o1 o2 o3 o4 o5 o6 : Obj) (s : Shared) (mean : ExcName → Option Value) (mg mb : Str → Option Value)
    (sl : Addr) (vals : List Value) (ns : List Int) (Q : Flow → Shared → Prop)
    (G : Gd w A₀ h₀ mean mg mb) (P : Pl h₀ L s.heap [("script", .ref sl)] (cellL c1 c2 c3 c4 c5 c6 o1 o2 o3 o4 o5 o6)) (C : Cells none none none none none none o1 o2 o3 o4 o5 o6) (hsl : h₀.IsList sl vals.toArray) (hI : IntsAre vals ns) (hlen : ns.length ≤ 63)
    (hQ : ∀ h' tk m', Fr h₀ L h' m' → Q (.ret (.bool true)) { s with heap := h', toks := tk }) :
    wpAny (model PySem.Challenge.rw_bu5045_01.row.prog w) (callerA.deeper (lawE L fa cd c1 c2 c3 c4 c5 c6)) (execs lawB (lawE L fa cd c1 c2 c3 c4 c5 c6)) Q (fun _ _ => False) s := by
  rw [law_split]
  refine seg1 w A₀ h₀ L fa cd c1 c2 c3 c4 c5 c6 o1 o2 o3 o4 o5 o6 s mean mg mb sl vals ns Q _ G P C hsl hI hlen ?_
  clear P C o1
  intro h1 tk1 td tl st sl' t2 ws ns' o1 P C hI' hlen'
  refine seg2 w A₀ h₀ L fa cd c1 c2 c3 c4 c5 c6 o1 o2 o3 o4 o5 o6 _ mean mg mb td tl st sl' t2 ws ns' Q _ G P C hI' hlen' ?_
  clear P
  intro h2 tk2 zs tv tn n1 n2 hfr htv htl h10 h16 P
  refine seg3 w A₀ h₀ L fa cd c1 c2 c3 c4 c5 c6 o1 o2 o3 o4 o5 o6 _ mean mg mb td tl zs tv n1 n2 Q _ G P C h10 ?_
  clear P C o2
  intro h3 tk3 rl o2 P C
  have hLV : ∀ z ∈ zs, z.v ∈ LV := fun z hz => (hfr z hz).v
  refine seg4 w A₀ h₀ L fa cd c1 c2 c3 c4 c5 c6 o1 o2 o3 o4 o5 o6 _ mean mg mb td tl rl zs tv n1 n2 zs.length Q _ G P C h10 hLV ?_
  clear P C o4
  intro h4 tk4 ol ov n4 o4 hov P C
  refine seg5 w A₀ h₀ L fa cd c1 c2 c3 c4 c5 c6 o1 o2 o3 o4 o5 o6 _ mean mg mb td tl rl ol zs tv ov tn n1 n2 zs.length n4 Q _ G P C h10 hov htv htl h16 ?_
  clear P C o5
  intro h5 tk5 wl wv n5 o5 hwv P C
  have evl : (zs.map (·.v)).length = zs.length := by simp
  generalize hwi : wiL (zs.map (·.v)) tn = wi at hwv
  have hwl : wi.length = zs.length := by rw [← hwi]; simp [wiL, htl]
  have hwo : ∀ p q : Nat, wi[p]? = some (some q) → q ∈ opn (zs.map (·.v)) zs.length := fun p q e => by
    rw [← hwi] at e
    have := wi_opn e
    rwa [evl] at this
  have hwq : ∀ q, some q ∈ wi → q < zs.length := fun q hq => by
    obtain ⟨p, hp⟩ := List.getElem?_of_mem hq
    exact (opn_mem (hwo p q hp)).2
  have hxs : (zs.map (·.x)).Nodup := xs_nodup (w := w) P.D ⟨_, by
    refine permOf (b := Led w zs ++ ((wl, listOf wv.toArray n5) :: (ol, listOf ov.toArray n4) :: (rl, listOf (rowV zs).toArray zs.length) :: (tl, listOf ((ts zs).map Value.ref).toArray n1) :: cellL c1 c2 c3 c4 c5 c6 o1 o2 o3 o4 o5 o6)) fun x => ?_
    simp only [cnt_cons, cnt_app]; omega⟩
  refine seg6 w A₀ h₀ L fa cd c1 c2 c3 c4 c5 c6 o1 o2 o3 o4 o5 o6 _ mean mg mb tl rl ol wl zs ov wv wi n1 zs.length n4 n5 Q _ G P C h10 hwv hwl hwq hfr ?_
  clear P C o3
  intro h6 tk6 zs1 o3 v3 hT P C
  obtain ⟨hs2, hok1, hkv1⟩ := hT
  have hl1 : zs1.length = zs.length := by have := congrArg List.length hs2; simpa using this
  have hts1 : ts zs1 = ts zs := map_of (f := (·.t)) s2_t hs2
  rw [← hts1] at P
  refine seg7 w A₀ h₀ L fa cd c1 c2 c3 c4 c5 c6 o1 o2 o3 o4 o5 o6 none _ v3 _ _ _ _ mean mg mb tl rl ol wl zs1 (rowV zs) ov wv n1 zs.length n4 n5 Q _ G P C (by omega) ?_
  clear P
  intro h7 tk7 zs2 ln dl tl2 n6 g hs3 P
  have hl2 : zs2.length = zs.length := by have := congrArg List.length hs3; simp only [List.length_map] at this; omega
  have hv2 : zs2.map (·.v) = zs.map (·.v) := (map_of (f := (·.v)) s3_v hs3).trans (map_of (f := (·.v)) s2_v hs2)
  have hx2 : zs2.map (·.x) = zs.map (·.x) := (map_of (f := (·.x)) s3_x hs3).trans (map_of (f := (·.x)) s2_x hs2)
  have hxq : ∀ q : Nat, (match zs[q]? with | some y => some (Value.ref y.x) | none => none) = (match zs2[q]? with | some y => some (Value.ref y.x) | none => none) := fun q => by
    have e : (zs2.map (·.x))[q]? = (zs.map (·.x))[q]? := by rw [hx2]
    rw [List.getElem?_map, List.getElem?_map] at e
    have f : ∀ o : Option Z, (match o with | some y => some (Value.ref y.x) | none => none) = (o.map (·.x)).map Value.ref := fun o => by cases o <;> rfl
    rw [f, f, e]
  have hkv2 : ∀ (i : Nat) (z : Z), zs2[i]? = some z → z.kv = cbKV zs ((wi[i]?).getD none) := fun i z hz => by
    obtain ⟨z1, hz1, e1⟩ := map_at hs3 hz
    rw [s3_kv z z1 e1]
    have := hkv1 i z1 hz1
    rwa [if_pos (by rw [← hl1]; exact (List.getElem?_eq_some_iff.mp hz1).1)] at this
  have hI2 : Init zs2 wi := by
    refine ⟨fun z hz => ?_, fun z hz => ?_, fun z hz => ?_, xs_inj (by rw [hx2]; exact hxs), fun i z hz => ?_, by rw [hwl, hl2], fun p q e => ?_⟩
    · obtain ⟨i, hi⟩ := List.getElem?_of_mem hz
      obtain ⟨z1, hz1, e1⟩ := map_at hs3 hi
      obtain ⟨z0, hz0, e0⟩ := map_at hs2 hz1
      rw [s3_el z z1 e1, s2_el z1 z0 e0]; exact (hfr z0 (List.mem_of_getElem? hz0)).el
    · obtain ⟨i, hi⟩ := List.getElem?_of_mem hz
      obtain ⟨z1, hz1, e1⟩ := map_at hs3 hi
      obtain ⟨z0, hz0, e0⟩ := map_at hs2 hz1
      rw [s3_M z z1 e1, s2_M z1 z0 e0]; exact (hfr z0 (List.mem_of_getElem? hz0)).M
    · obtain ⟨i, hi⟩ := List.getElem?_of_mem hz
      obtain ⟨z1, hz1, e1⟩ := map_at hs3 hi
      obtain ⟨z0, hz0, e0⟩ := map_at hs2 hz1
      rw [s3_C z z1 e1, s2_C z1 z0 e0]; exact (hfr z0 (List.mem_of_getElem? hz0)).C
    · rw [hkv2 i z hz, cb_cb]
      cases (wi[i]?).getD none with
      | none => rfl
      | some q => exact hxq q
    · have := opn_mem (hwo p q e)
      rw [hv2, hl2]; exact this
  have hok2 : ∀ z ∈ zs2, OkZ w z ∧ valueAt z.kv SP = none := fun z hz => by
    obtain ⟨i, hi⟩ := List.getElem?_of_mem hz
    obtain ⟨z1, hz1, e1⟩ := map_at hs3 hi
    obtain ⟨b1, b2⟩ := hok1 z1 (List.mem_of_getElem? hz1)
    refine ⟨⟨by rw [s3_on z z1 e1, s3_kv z z1 e1]; exact b1, by rw [s3_nt z z1 e1]; exact b2, ?_⟩, ?_⟩
    · rw [hkv2 i z hi]; exact cb_len _ _
    · rw [hkv2 i z hi]; exact cb_sp _ _
  have hcl2 : ∀ z ∈ zs2, ∀ v, valueAt z.kv CB = some v → ∃ y ∈ zs2, v = .ref y.x := fun z hz v hv => by
    obtain ⟨i, hi⟩ := List.getElem?_of_mem hz
    rw [hI2.cb i z hi] at hv
    cases hw : (wi[i]?).getD none with
    | none => rw [hw] at hv; cases hv
    | some q =>
      rw [hw] at hv
      dsimp only at hv
      cases hy : zs2[q]? with
      | none => rw [hy] at hv; cases hv
      | some y => rw [hy] at hv; cases hv; exact ⟨y, List.mem_of_getElem? hy, rfl⟩
  have hel2 : elB 0 zs2 := fun z hz => by rw [hI2.el z hz]; exact Nat.le_refl _
  have hrv : StrsIn (rowV zs) (zs2.map (·.v)) := by rw [hv2]; exact rowV_in zs
  have hLV2 : ∀ v ∈ zs2.map (·.v), v ∈ LV := fun v hv => by
    rw [hv2] at hv
    obtain ⟨z, hz, rfl⟩ := List.mem_map.mp hv
    exact hLV z hz
  have hvl2 : (zs2.map (·.v)).length = zs2.length := by simp
  have hp8 : ((ln, instObj 525 dl) :: (dl, dictOf (lineE w g tl2) 3) :: (tl2, listOf ((ts zs2).map Value.ref).toArray n6) :: (wl, listOf wv.toArray n5) :: (ol, listOf ov.toArray n4) :: (rl, listOf (rowV zs).toArray zs.length) :: (tl, listOf ((ts zs2).map Value.ref).toArray n1) :: (cellL c1 c2 c3 c4 c5 c6 o1 o2 o3 o4 o5 o6 ++ Led w zs2)).Perm ((rl, listOf (rowV zs).toArray zs.length) :: (cellL c1 c2 c3 c4 c5 c6 o1 o2 o3 o4 o5 o6 ++ (Led w zs2 ++ ((ln, instObj 525 dl) :: (dl, dictOf (lineE w g tl2) 3) :: (tl2, listOf ((ts zs2).map Value.ref).toArray n6) :: (wl, listOf wv.toArray n5) :: (ol, listOf ov.toArray n4) :: [(tl, listOf ((ts zs2).map Value.ref).toArray n1)])))) := permOf fun x => by
    simp only [cnt_cons, cnt_app, cnt_nil]; omega
  refine seg8 w A₀ h₀ L fa cd c1 c2 c3 c4 c5 c6 o1 o2 o3 o4 o5 o6 _ v3 _ _ _ _ mean mg mb ln rl (rowV zs) (zs2.map (·.v)) zs.length (Led w zs2 ++ ((ln, instObj 525 dl) :: (dl, dictOf (lineE w g tl2) 3) :: (tl2, listOf ((ts zs2).map Value.ref).toArray n6) :: (wl, listOf wv.toArray n5) :: (ol, listOf ov.toArray n4) :: [(tl, listOf ((ts zs2).map Value.ref).toArray n1)])) Q _ G (P.perm hp8) C hrv hLV2 (by omega) ?_ ?_
  · clear P C hp8 o6
    intro h8 tk8 o6 hpr P C
    rw [hvl2] at hpr
    have hp9 : ((rl, listOf (rowV zs).toArray zs.length) :: (cellL c1 c2 c3 c4 c5 c6 o1 o2 o3 o4 o5 o6 ++ (Led w zs2 ++ ((ln, instObj 525 dl) :: (dl, dictOf (lineE w g tl2) 3) :: (tl2, listOf ((ts zs2).map Value.ref).toArray n6) :: (wl, listOf wv.toArray n5) :: (ol, listOf ov.toArray n4) :: [(tl, listOf ((ts zs2).map Value.ref).toArray n1)])))).Perm ((ln, instObj 525 dl) :: (dl, dictOf (lineE w g tl2) 3) :: (tl2, listOf ((ts zs2).map Value.ref).toArray n6) :: (cellL c1 c2 c3 c4 c5 c6 o1 o2 o3 o4 o5 o6 ++ (Led w zs2 ++ ((tl, listOf ((ts zs2).map Value.ref).toArray n1) :: (rl, listOf (rowV zs).toArray zs.length) :: (wl, listOf wv.toArray n5) :: (ol, listOf ov.toArray n4) :: [])))) := permOf fun x => by
      simp only [cnt_cons, cnt_app, cnt_nil]; omega
    refine seg9 w A₀ h₀ L fa cd c1 c2 c3 c4 c5 c6 o1 o2 o3 o4 o5 o6 _ _ v3 _ _ none _ mean mg mb ln dl tl2 n6 g zs2 ((tl, listOf ((ts zs2).map Value.ref).toArray n1) :: (rl, listOf (rowV zs).toArray zs.length) :: (wl, listOf wv.toArray n5) :: (ol, listOf ov.toArray n4) :: []) Q _ G (P.perm hp9) C (by omega) hel2 (fun z hz => (hok2 z hz).1) hcl2 ⟨fun _ => hpr, fun _ => rfl⟩ ?_
    clear P
    intro h9 tk9 zs3 hst3 _ P
    have hl3 : zs3.length = zs2.length := by have := congrArg List.length hst3; simpa using this
    have hts3 : ts zs3 = ts zs2 := by rw [ts_stat, ts_stat, hst3]
    have hv3 : zs3.map (·.v) = zs2.map (·.v) := map_of (f := (·.v)) (fun z y h => stat_v h) hst3
    have hok3 : ∀ z ∈ zs3, OkZ w z ∧ valueAt z.kv SP = none := fun z hz => by
      obtain ⟨i, hi⟩ := List.getElem?_of_mem hz
      obtain ⟨z2, hz2, e⟩ := map_at hst3 hi
      obtain ⟨a, b⟩ := hok2 z2 (List.mem_of_getElem? hz2)
      exact ⟨a.stat e.symm, by rw [stat_kv e]; exact b⟩
    have hp11 : ((ln, instObj 525 dl) :: (dl, dictOf (lineE w g tl2) 3) :: (tl2, listOf ((ts zs3).map Value.ref).toArray n6) :: (cellL c1 c2 c3 c4 c5 c6 o1 o2 o3 o4 o5 o6 ++ (Led w zs3 ++ ((tl, listOf ((ts zs2).map Value.ref).toArray n1) :: (rl, listOf (rowV zs).toArray zs.length) :: (wl, listOf wv.toArray n5) :: (ol, listOf ov.toArray n4) :: [])))).Perm (cellL c1 c2 c3 c4 c5 c6 o1 o2 o3 o4 o5 o6 ++ ((ln, instObj 525 dl) :: (dl, dictOf (lineE w g tl2) 3) :: (tl2, listOf ((ts zs3).map Value.ref).toArray n6) :: (Led w zs3 ++ ((tl, listOf ((ts zs2).map Value.ref).toArray n1) :: (rl, listOf (rowV zs).toArray zs.length) :: (wl, listOf wv.toArray n5) :: (ol, listOf ov.toArray n4) :: [])))) := permOf fun x => by
      simp only [cnt_cons, cnt_app, cnt_nil]; omega
    refine seg11n w A₀ h₀ L fa cd c1 c2 c3 c4 c5 c6 o1 o2 o3 o4 o5 o6 _ _ v3 _ _ _ mean mg mb ln ((ln, instObj 525 dl) :: (dl, dictOf (lineE w g tl2) 3) :: (tl2, listOf ((ts zs3).map Value.ref).toArray n6) :: (Led w zs3 ++ ((tl, listOf ((ts zs2).map Value.ref).toArray n1) :: (rl, listOf (rowV zs).toArray zs.length) :: (wl, listOf wv.toArray n5) :: (ol, listOf ov.toArray n4) :: []))) Q _ G (P.perm hp11) C ?_
    clear P
    intro h10' tk10 P
    exact law_tail w A₀ h₀ L fa cd c1 c2 c3 c4 c5 c6 o1 o2 o3 o4 o5 o6 v3 _ _ _ _ mean mg mb ln dl tl2 tl rl n6 n1 zs.length g zs3 ((ts zs2).map Value.ref) (rowV zs) ((wl, listOf wv.toArray n5) :: (ol, listOf ov.toArray n4) :: []) Q G (P.perm hp11.symm) C (by rw [hts3]) (by rw [hv3]; exact hrv) (by rw [hv3]; exact hLV2) (by omega) hok3 fun h' tk m' F => hQ h' tk m' F
  · clear P C hp8 o6
    intro h8 tk8 o6 pd op kl stk hpr hop hlo P C
    rw [hvl2] at hpr
    have hp9 : ((pd, op) :: (rl, listOf (rowV zs).toArray zs.length) :: (cellL c1 c2 c3 c4 c5 c6 o1 o2 o3 o4 o5 o6 ++ (Led w zs2 ++ ((ln, instObj 525 dl) :: (dl, dictOf (lineE w g tl2) 3) :: (tl2, listOf ((ts zs2).map Value.ref).toArray n6) :: (wl, listOf wv.toArray n5) :: (ol, listOf ov.toArray n4) :: [(tl, listOf ((ts zs2).map Value.ref).toArray n1)])))).Perm ((ln, instObj 525 dl) :: (dl, dictOf (lineE w g tl2) 3) :: (tl2, listOf ((ts zs2).map Value.ref).toArray n6) :: (cellL c1 c2 c3 c4 c5 c6 o1 o2 o3 o4 o5 o6 ++ (Led w zs2 ++ ((tl, listOf ((ts zs2).map Value.ref).toArray n1) :: (rl, listOf (rowV zs).toArray zs.length) :: (pd, op) :: (wl, listOf wv.toArray n5) :: (ol, listOf ov.toArray n4) :: [])))) := permOf fun x => by
      simp only [cnt_cons, cnt_app, cnt_nil]; omega
    refine seg9 w A₀ h₀ L fa cd c1 c2 c3 c4 c5 c6 o1 o2 o3 o4 o5 o6 _ _ v3 _ _ (some pd) _ mean mg mb ln dl tl2 n6 g zs2 ((tl, listOf ((ts zs2).map Value.ref).toArray n1) :: (rl, listOf (rowV zs).toArray zs.length) :: (pd, op) :: (wl, listOf wv.toArray n5) :: (ol, listOf ov.toArray n4) :: []) Q _ G (P.perm hp9) C (by omega) hel2 (fun z hz => (hok2 z hz).1) hcl2 ⟨fun h => by (cases h), fun h => by (rw [hpr] at h; cases h)⟩ ?_
    clear P
    intro h9 tk9 zs3 hst3 hrun P
    obtain ⟨stk', hrun⟩ := hrun (by simp)
    have hl3 : zs3.length = zs2.length := by have := congrArg List.length hst3; simpa using this
    have hts3 : ts zs3 = ts zs2 := by rw [ts_stat, ts_stat, hst3]
    have hv3 : zs3.map (·.v) = zs2.map (·.v) := map_of (f := (·.v)) (fun z y h => stat_v h) hst3
    have hok3 : ∀ z ∈ zs3, OkZ w z ∧ valueAt z.kv SP = none := fun z hz => by
      obtain ⟨i, hi⟩ := List.getElem?_of_mem hz
      obtain ⟨z2, hz2, e⟩ := map_at hst3 hi
      obtain ⟨a, b⟩ := hok2 z2 (List.mem_of_getElem? hz2)
      exact ⟨a.stat e.symm, by rw [stat_kv e]; exact b⟩
    have hlen8 := prun_len (zs2.map (·.v)) zs2.length _ hpr
    have hinv8 := prun_inv (zs2.map (·.v)) zs2.length _ hpr
    have hkl : kl.length ≤ 1000 := by
      have e : (kl.map fun p => (p.1, p.2.1)).length = kl.length := by simp
      dsimp only at hlen8
      omega
    have hnd : (kl.map (·.1)).Nodup := by
      have := hinv8.knd
      rw [List.map_map] at this
      exact this
    have hend : ∀ j c : Nat, (psOf kl).lookup j = some c → j < c ∧ c < zs3.length := fun j c h => by
      have := hinv8.klt (j, c) (lookup_some_mem h)
      omega
    have hp11 : ((ln, instObj 525 dl) :: (dl, dictOf (lineE w g tl2) 3) :: (tl2, listOf ((ts zs3).map Value.ref).toArray n6) :: (cellL c1 c2 c3 c4 c5 c6 o1 o2 o3 o4 o5 o6 ++ (Led w zs3 ++ ((tl, listOf ((ts zs2).map Value.ref).toArray n1) :: (rl, listOf (rowV zs).toArray zs.length) :: (pd, op) :: (wl, listOf wv.toArray n5) :: (ol, listOf ov.toArray n4) :: [])))).Perm ((pd, op) :: (tl, listOf ((ts zs2).map Value.ref).toArray n1) :: (rl, listOf (rowV zs).toArray zs.length) :: (ol, listOf ov.toArray n4) :: (wl, listOf wv.toArray n5) :: (cellL c1 c2 c3 c4 c5 c6 o1 o2 o3 o4 o5 o6 ++ (Led w zs3 ++ ((ln, instObj 525 dl) :: (dl, dictOf (lineE w g tl2) 3) :: (tl2, listOf ((ts zs3).map Value.ref).toArray n6) :: [])))) := permOf fun x => by
      simp only [cnt_cons, cnt_app, cnt_nil]; omega
    have hl30 : zs3.length = zs.length := by omega
    refine seg11 w A₀ h₀ L fa cd c1 c2 c3 c4 c5 c6 o1 o2 o3 o4 o5 o6 v3 _ mean mg mb ln tl rl ol wl pd op zs3 ((ts zs2).map Value.ref) (rowV zs) ov wv (zs.map (·.v)) wi kl n1 zs.length n4 n5 ((ln, instObj 525 dl) :: (dl, dictOf (lineE w g tl2) 3) :: (tl2, listOf ((ts zs3).map Value.ref).toArray n6) :: []) Q _ G (P.perm hp11) C (by omega) (by rw [hts3]) (by rw [hl30]; simp [rowV]) (by rw [hl30]; exact hov) hwv (by rw [hl30]; exact hwl) (by rw [hl30]; exact hwo) hop hlo hkl hnd hend (fun k z hz => fin_all hI2 hrun hpr k z hz) ?_
    clear P C hp11 hp9 o3
    intro h10' tk10 o3 v3' C P
    have hp12 : ((pd, op) :: (tl, listOf ((ts zs2).map Value.ref).toArray n1) :: (rl, listOf (rowV zs).toArray zs.length) :: (ol, listOf ov.toArray n4) :: (wl, listOf wv.toArray n5) :: (cellL c1 c2 c3 c4 c5 c6 o1 o2 o3 o4 o5 o6 ++ (Led w zs3 ++ ((ln, instObj 525 dl) :: (dl, dictOf (lineE w g tl2) 3) :: (tl2, listOf ((ts zs3).map Value.ref).toArray n6) :: [])))).Perm ((ln, instObj 525 dl) :: (dl, dictOf (lineE w g tl2) 3) :: (tl2, listOf ((ts zs3).map Value.ref).toArray n6) :: (cellL c1 c2 c3 c4 c5 c6 o1 o2 o3 o4 o5 o6 ++ (Led w zs3 ++ ((tl, listOf ((ts zs2).map Value.ref).toArray n1) :: (rl, listOf (rowV zs).toArray zs.length) :: (pd, op) :: (wl, listOf wv.toArray n5) :: (ol, listOf ov.toArray n4) :: [])))) := permOf fun x => by
      simp only [cnt_cons, cnt_app, cnt_nil]; omega
    exact law_tail w A₀ h₀ L fa cd c1 c2 c3 c4 c5 c6 o1 o2 o3 o4 o5 o6 v3' _ _ _ _ mean mg mb ln dl tl2 tl rl n6 n1 zs.length g zs3 ((ts zs2).map Value.ref) (rowV zs) ((pd, op) :: (wl, listOf wv.toArray n5) :: (ol, listOf ov.toArray n4) :: []) Q G (P.perm hp12) C (by rw [hts3]) (by rw [hv3]; exact hrv) (by rw [hv3]; exact hLV2) (by omega) hok3 fun h' tk m' F => hQ h' tk m' F
end Mine
end
/- W43 -/
open PySem PySem.W PyProof.Rows PySem.Calls
namespace Mine
theorem cells6 {cm : Str → Option Value} {n1 n2 n3 n4 n5 n6 : Str} {c1 c2 c3 c4 c5 c6 : Addr} {o1 o2 o3 o4 o5 o6 : Obj} (x : CellsAre cm [(n1, c1), (n2, c2), (n3, c3), (n4, c4), (n5, c5), (n6, c6)] [(c1, o1), (c2, o2), (c3, o3), (c4, o4), (c5, o5), (c6, o6)]) :
    o1.data = .cell (cm n1) ∧ o2.data = .cell (cm n2) ∧ o3.data = .cell (cm n3) ∧ o4.data = .cell (cm n4) ∧ o5.data = .cell (cm n5) ∧ o6.data = .cell (cm n6) := by
  cases x with | cons h1 r => cases r with | cons h2 r => cases r with | cons h3 r => cases r with | cons h4 r => cases r with | cons h5 r => cases r with | cons h6 r => exact ⟨h1, h2, h3, h4, h5, h6⟩
theorem nn6 (L : Nat) {o1 o2 o3 o4 o5 o6 : Obj} : NN [((L + 1 : Nat), o1), ((L + 1 + 1 : Nat), o2), ((L + 1 + 1 + 1 : Nat), o3), ((L + 1 + 1 + 1 + 1 : Nat), o4), ((L + 1 + 1 + 1 + 1 + 1 : Nat), o5), ((L + 1 + 1 + 1 + 1 + 1 + 1 : Nat), o6)] := by
  have h := NN.consAll (a := (L + 1 + 1 + 1 + 1 + 1 + 1 : Nat)) (o := o6) (NN.consAll (a := (L + 1 + 1 + 1 + 1 + 1 : Nat)) (o := o5) (NN.consAll (a := (L + 1 + 1 + 1 + 1 : Nat)) (o := o4) (NN.consAll (a := (L + 1 + 1 + 1 : Nat)) (o := o3) (NN.consAll (a := (L + 1 + 1 : Nat)) (o := o2) (NN.consAll (a := (L + 1 : Nat)) (o := o1) NN.nil trivial)
    (by simp only [AllLt, and_true]; omega)) (by simp only [AllLt, and_true]; omega)) (by simp only [AllLt, and_true]; omega)) (by simp only [AllLt, and_true]; omega)) (by simp only [AllLt, and_true]; omega)
  exact h.perm (List.reverse_perm _).symm
end Mine
set_option maxRecDepth 100000 in
set_option maxHeartbeats 0 in
theorem PySem.Challenge.cw_bu5045_01_holds : PySem.Challenge.rw_bu5045_01.Holds := by
  w_on; o_law
  refine holds_open (r := PySem.Challenge.rw_bu5045_01.row) (q := Mine.qv) (loose := Mine.lz) (Xt := Mine.Xq) (XP := XL Mine.qv Mine.lvs) (Yf := Mine.Yq) (Ya := Mine.Yv) (YP := Mine.Says) (N := 8000) Mine.left Mine.says_of Mine.Says.keeps (fun s e => xl_of s (Bool.and_eq_true_iff.mp e).1) XL.keeps (by rfl) (by rfl) (by rfl) (fun s e => recFacts_of (Bool.and_eq_true_iff.mp e).2) (by rfl) (by first | assumption | decide +kernel) (by decide +kernel) ⟨rfl, rfl, rfl, rfl, rfl, by decide +kernel⟩ ?hw ?hc
  case hw => w_witness2
  case hc =>
    k_fill
    intro w s₀ s₁ mg mb G Y fa o pm cd doc dV kV ho hd hcd hD hmg hg args vals as hpre hlay hrd hwl hlo
    have KX := Y.k
    have YO := Y.o
    have YC := Y.c
    k_behind G ho hd hcd hD hmg hpre hlay hrd hwl hlo cd
    rename News _ _ _ _ => N0
    rename Fr _ _ _ _ => F0
    rename CellsAre _ _ _ => X0
    rename Below _ _ _ _ => B0
    rename Top _ _ _ _ _ _ => T0
    rename IntsAre _ _ => I0
    rename Heap.IsList _ _ _ => hL0
    rename ¬ _ < _ => hc0
    obtain ⟨e6, e5, e4, e3, e2, e1⟩ := Mine.cells6 X0
    have N1 := Mine.News.perm N0 (List.reverse_perm _).symm
    simp only [List.reverse_cons, List.reverse_nil, List.nil_append, List.cons_append] at N1
    refine wpAny_mono (Q := fun f s' => f = .ret (.bool true) ∧ ∃ h' tk m', s' = { s₁ with heap := h', toks := tk } ∧ Fr s₁.heap s₁.heap.objs.size h' m') (E := fun _ _ => False) ?main ?fin (fun _ _ h => h.elim)
    case main =>
      have key := fun cd tk => Mine.law_body w callerA s₁.heap s₁.heap.objs.size fa cd _ _ _ _ _ _ _ _ _ _ _ _ { s₁ with heap := _, toks := tk } _ mg mb _ _ _ (fun f s' => f = .ret (.bool true) ∧ ∃ h' tk m', s' = { s₁ with heap := h', toks := tk } ∧ Fr s₁.heap s₁.heap.objs.size h' m') ⟨B0, KX, T0, YO, YC⟩
        ⟨⟨_, F0, fun p hp => by rw [List.mem_singleton.mp hp]; with_unfolding_all rfl⟩, N1, Mine.nn6 _⟩ ⟨e1, e2, e3, e4, e5, e6⟩ hL0 I0 (by omega) (fun h' tk m' F => ⟨rfl, h', tk, m', rfl, F⟩)
      exact key _ _
    case fin =>
      rintro f s' ⟨rfl, h', tk, m', rfl, F9⟩
      clear hcd hD X0 F0 N0 N1
      show GoodW _ _ _ _ _ _ _
      k_steps
