import PyProof.Rows.All
import Wide.All
import OpenK.AllK
import Wide.FinOn
import PyProof.NeKinds
import PyProof.SetRoads
import PyProof.DictList
import Lean
import PySem.Challenge.RW_ik0207_01
set_option Elab.async false
set_option linter.all false
set_option maxRecDepth 1000000
set_option maxHeartbeats 0
set_option genInjectivity false
set_option genSizeOf false
open PySem PySem.W PySem.W.X PySem.Calls PyProof.Rows
namespace Mine
theorem gv {A : Prop} (h : ∀ G : Prop,(A → G) → G) : A := h A id
theorem yE1 {a1 : Sort _} {P : a1 → Prop} (x1 : a1) (p : P x1) : ∃ x1,P x1 := ⟨x1,p⟩
theorem yE2 {a1 a2 : Sort _} {P : a1 → a2 → Prop} (x1 : a1) (x2 : a2) (p : P x1 x2) : ∃ x1 x2,P x1 x2 := yE1 x1 (yE1 x2 p)
theorem yE3 {a1 a2 a3 : Sort _} {P : a1 → a2 → a3 → Prop} (x1 : a1) (x2 : a2) (x3 : a3) (p : P x1 x2 x3) : ∃ x1 x2 x3,P x1 x2 x3 := yE1 x1 (yE2 x2 x3 p)
theorem yE4 {a1 a2 a3 a4 : Sort _} {P : a1 → a2 → a3 → a4 → Prop} (x1 : a1) (x2 : a2) (x3 : a3) (x4 : a4) (p : P x1 x2 x3 x4) : ∃ x1 x2 x3 x4,P x1 x2 x3 x4 := yE1 x1 (yE3 x2 x3 x4 p)
theorem yE5 {a1 a2 a3 a4 a5 : Sort _} {P : a1 → a2 → a3 → a4 → a5 → Prop} (x1 : a1) (x2 : a2) (x3 : a3) (x4 : a4) (x5 : a5) (p : P x1 x2 x3 x4 x5) : ∃ x1 x2 x3 x4 x5,P x1 x2 x3 x4 x5 := yE1 x1 (yE4 x2 x3 x4 x5 p)
theorem yE6 {a1 a2 a3 a4 a5 a6 : Sort _} {P : a1 → a2 → a3 → a4 → a5 → a6 → Prop} (x1 : a1) (x2 : a2) (x3 : a3) (x4 : a4) (x5 : a5) (x6 : a6) (p : P x1 x2 x3 x4 x5 x6) : ∃ x1 x2 x3 x4 x5 x6,P x1 x2 x3 x4 x5 x6 := yE1 x1 (yE5 x2 x3 x4 x5 x6 p)
theorem yE7 {a1 a2 a3 a4 a5 a6 a7 : Sort _} {P : a1 → a2 → a3 → a4 → a5 → a6 → a7 → Prop} (x1 : a1) (x2 : a2) (x3 : a3) (x4 : a4) (x5 : a5) (x6 : a6) (x7 : a7) (p : P x1 x2 x3 x4 x5 x6 x7) : ∃ x1 x2 x3 x4 x5 x6 x7,P x1 x2 x3 x4 x5 x6 x7 := yE1 x1 (yE6 x2 x3 x4 x5 x6 x7 p)
theorem yE8 {a1 a2 a3 a4 a5 a6 a7 a8 : Sort _} {P : a1 → a2 → a3 → a4 → a5 → a6 → a7 → a8 → Prop} (x1 : a1) (x2 : a2) (x3 : a3) (x4 : a4) (x5 : a5) (x6 : a6) (x7 : a7) (x8 : a8) (p : P x1 x2 x3 x4 x5 x6 x7 x8) : ∃ x1 x2 x3 x4 x5 x6 x7 x8,P x1 x2 x3 x4 x5 x6 x7 x8 := yE1 x1 (yE7 x2 x3 x4 x5 x6 x7 x8 p)
theorem yE9 {a1 a2 a3 a4 a5 a6 a7 a8 a9 : Sort _} {P : a1 → a2 → a3 → a4 → a5 → a6 → a7 → a8 → a9 → Prop} (x1 : a1) (x2 : a2) (x3 : a3) (x4 : a4) (x5 : a5) (x6 : a6) (x7 : a7) (x8 : a8) (x9 : a9) (p : P x1 x2 x3 x4 x5 x6 x7 x8 x9) : ∃ x1 x2 x3 x4 x5 x6 x7 x8 x9,P x1 x2 x3 x4 x5 x6 x7 x8 x9 := yE1 x1 (yE8 x2 x3 x4 x5 x6 x7 x8 x9 p)
theorem yE10 {a1 a2 a3 a4 a5 a6 a7 a8 a9 a10 : Sort _} {P : a1 → a2 → a3 → a4 → a5 → a6 → a7 → a8 → a9 → a10 → Prop} (x1 : a1) (x2 : a2) (x3 : a3) (x4 : a4) (x5 : a5) (x6 : a6) (x7 : a7) (x8 : a8) (x9 : a9) (x10 : a10) (p : P x1 x2 x3 x4 x5 x6 x7 x8 x9 x10) : ∃ x1 x2 x3 x4 x5 x6 x7 x8 x9 x10,P x1 x2 x3 x4 x5 x6 x7 x8 x9 x10 := yE1 x1 (yE9 x2 x3 x4 x5 x6 x7 x8 x9 x10 p)
theorem yE11 {a1 a2 a3 a4 a5 a6 a7 a8 a9 a10 a11 : Sort _} {P : a1 → a2 → a3 → a4 → a5 → a6 → a7 → a8 → a9 → a10 → a11 → Prop} (x1 : a1) (x2 : a2) (x3 : a3) (x4 : a4) (x5 : a5) (x6 : a6) (x7 : a7) (x8 : a8) (x9 : a9) (x10 : a10) (x11 : a11) (p : P x1 x2 x3 x4 x5 x6 x7 x8 x9 x10 x11) : ∃ x1 x2 x3 x4 x5 x6 x7 x8 x9 x10 x11,P x1 x2 x3 x4 x5 x6 x7 x8 x9 x10 x11 := yE1 x1 (yE10 x2 x3 x4 x5 x6 x7 x8 x9 x10 x11 p)
theorem xA1 {P1 P2 G : Prop} (h : P1 ∧ P2) (k : P1 → P2 → G) : G := k h.1 h.2
theorem xA2 {P1 P2 P3 G : Prop} (h : P1 ∧ P2 ∧ P3) (k : P1 → P2 → P3 → G) : G := xA1 h fun p h => xA1 h (k p)
theorem xA3 {P1 P2 P3 P4 G : Prop} (h : P1 ∧ P2 ∧ P3 ∧ P4) (k : P1 → P2 → P3 → P4 → G) : G := xA1 h fun p h => xA2 h (k p)
theorem xA4 {P1 P2 P3 P4 P5 G : Prop} (h : P1 ∧ P2 ∧ P3 ∧ P4 ∧ P5) (k : P1 → P2 → P3 → P4 → P5 → G) : G := xA1 h fun p h => xA3 h (k p)
theorem xA5 {P1 P2 P3 P4 P5 P6 G : Prop} (h : P1 ∧ P2 ∧ P3 ∧ P4 ∧ P5 ∧ P6) (k : P1 → P2 → P3 → P4 → P5 → P6 → G) : G := xA1 h fun p h => xA4 h (k p)
theorem xA6 {P1 P2 P3 P4 P5 P6 P7 G : Prop} (h : P1 ∧ P2 ∧ P3 ∧ P4 ∧ P5 ∧ P6 ∧ P7) (k : P1 → P2 → P3 → P4 → P5 → P6 → P7 → G) : G := xA1 h fun p h => xA5 h (k p)
theorem xA7 {P1 P2 P3 P4 P5 P6 P7 P8 G : Prop} (h : P1 ∧ P2 ∧ P3 ∧ P4 ∧ P5 ∧ P6 ∧ P7 ∧ P8) (k : P1 → P2 → P3 → P4 → P5 → P6 → P7 → P8 → G) : G := xA1 h fun p h => xA6 h (k p)
theorem xA8 {P1 P2 P3 P4 P5 P6 P7 P8 P9 G : Prop} (h : P1 ∧ P2 ∧ P3 ∧ P4 ∧ P5 ∧ P6 ∧ P7 ∧ P8 ∧ P9) (k : P1 → P2 → P3 → P4 → P5 → P6 → P7 → P8 → P9 → G) : G := xA1 h fun p h => xA7 h (k p)
theorem xA9 {P1 P2 P3 P4 P5 P6 P7 P8 P9 P10 G : Prop} (h : P1 ∧ P2 ∧ P3 ∧ P4 ∧ P5 ∧ P6 ∧ P7 ∧ P8 ∧ P9 ∧ P10) (k : P1 → P2 → P3 → P4 → P5 → P6 → P7 → P8 → P9 → P10 → G) : G := xA1 h fun p h => xA8 h (k p)
theorem xA10 {P1 P2 P3 P4 P5 P6 P7 P8 P9 P10 P11 G : Prop} (h : P1 ∧ P2 ∧ P3 ∧ P4 ∧ P5 ∧ P6 ∧ P7 ∧ P8 ∧ P9 ∧ P10 ∧ P11) (k : P1 → P2 → P3 → P4 → P5 → P6 → P7 → P8 → P9 → P10 → P11 → G) : G := xA1 h fun p h => xA9 h (k p)
theorem xA11 {P1 P2 P3 P4 P5 P6 P7 P8 P9 P10 P11 P12 G : Prop} (h : P1 ∧ P2 ∧ P3 ∧ P4 ∧ P5 ∧ P6 ∧ P7 ∧ P8 ∧ P9 ∧ P10 ∧ P11 ∧ P12) (k : P1 → P2 → P3 → P4 → P5 → P6 → P7 → P8 → P9 → P10 → P11 → P12 → G) : G := xA1 h fun p h => xA10 h (k p)
theorem xE1 {a1 : Sort _} {P : a1 → Prop} {G : Prop} (h : ∃ x1,P x1) (k : ∀ x1,P x1 → G) : G := h.elim k
theorem xE2 {a1 a2 : Sort _} {P : a1 → a2 → Prop} {G : Prop} (h : ∃ x1 x2,P x1 x2) (k : ∀ x1 x2,P x1 x2 → G) : G := xE1 h fun x h => xE1 h (k x)
theorem xE3 {a1 a2 a3 : Sort _} {P : a1 → a2 → a3 → Prop} {G : Prop} (h : ∃ x1 x2 x3,P x1 x2 x3) (k : ∀ x1 x2 x3,P x1 x2 x3 → G) : G := xE1 h fun x h => xE2 h (k x)
theorem xE4 {a1 a2 a3 a4 : Sort _} {P : a1 → a2 → a3 → a4 → Prop} {G : Prop} (h : ∃ x1 x2 x3 x4,P x1 x2 x3 x4) (k : ∀ x1 x2 x3 x4,P x1 x2 x3 x4 → G) : G := xE1 h fun x h => xE3 h (k x)
theorem xE5 {a1 a2 a3 a4 a5 : Sort _} {P : a1 → a2 → a3 → a4 → a5 → Prop} {G : Prop} (h : ∃ x1 x2 x3 x4 x5,P x1 x2 x3 x4 x5) (k : ∀ x1 x2 x3 x4 x5,P x1 x2 x3 x4 x5 → G) : G := xE1 h fun x h => xE4 h (k x)
theorem xE6 {a1 a2 a3 a4 a5 a6 : Sort _} {P : a1 → a2 → a3 → a4 → a5 → a6 → Prop} {G : Prop} (h : ∃ x1 x2 x3 x4 x5 x6,P x1 x2 x3 x4 x5 x6) (k : ∀ x1 x2 x3 x4 x5 x6,P x1 x2 x3 x4 x5 x6 → G) : G := xE1 h fun x h => xE5 h (k x)
theorem xE7 {a1 a2 a3 a4 a5 a6 a7 : Sort _} {P : a1 → a2 → a3 → a4 → a5 → a6 → a7 → Prop} {G : Prop} (h : ∃ x1 x2 x3 x4 x5 x6 x7,P x1 x2 x3 x4 x5 x6 x7) (k : ∀ x1 x2 x3 x4 x5 x6 x7,P x1 x2 x3 x4 x5 x6 x7 → G) : G := xE1 h fun x h => xE6 h (k x)
theorem xE8 {a1 a2 a3 a4 a5 a6 a7 a8 : Sort _} {P : a1 → a2 → a3 → a4 → a5 → a6 → a7 → a8 → Prop} {G : Prop} (h : ∃ x1 x2 x3 x4 x5 x6 x7 x8,P x1 x2 x3 x4 x5 x6 x7 x8) (k : ∀ x1 x2 x3 x4 x5 x6 x7 x8,P x1 x2 x3 x4 x5 x6 x7 x8 → G) : G := xE1 h fun x h => xE7 h (k x)
theorem xE9 {a1 a2 a3 a4 a5 a6 a7 a8 a9 : Sort _} {P : a1 → a2 → a3 → a4 → a5 → a6 → a7 → a8 → a9 → Prop} {G : Prop} (h : ∃ x1 x2 x3 x4 x5 x6 x7 x8 x9,P x1 x2 x3 x4 x5 x6 x7 x8 x9) (k : ∀ x1 x2 x3 x4 x5 x6 x7 x8 x9,P x1 x2 x3 x4 x5 x6 x7 x8 x9 → G) : G := xE1 h fun x h => xE8 h (k x)
theorem xE10 {a1 a2 a3 a4 a5 a6 a7 a8 a9 a10 : Sort _} {P : a1 → a2 → a3 → a4 → a5 → a6 → a7 → a8 → a9 → a10 → Prop} {G : Prop} (h : ∃ x1 x2 x3 x4 x5 x6 x7 x8 x9 x10,P x1 x2 x3 x4 x5 x6 x7 x8 x9 x10) (k : ∀ x1 x2 x3 x4 x5 x6 x7 x8 x9 x10,P x1 x2 x3 x4 x5 x6 x7 x8 x9 x10 → G) : G := xE1 h fun x h => xE9 h (k x)
theorem xE11 {a1 a2 a3 a4 a5 a6 a7 a8 a9 a10 a11 : Sort _} {P : a1 → a2 → a3 → a4 → a5 → a6 → a7 → a8 → a9 → a10 → a11 → Prop} {G : Prop} (h : ∃ x1 x2 x3 x4 x5 x6 x7 x8 x9 x10 x11,P x1 x2 x3 x4 x5 x6 x7 x8 x9 x10 x11) (k : ∀ x1 x2 x3 x4 x5 x6 x7 x8 x9 x10 x11,P x1 x2 x3 x4 x5 x6 x7 x8 x9 x10 x11 → G) : G := xE1 h fun x h => xE10 h (k x)
theorem xE12 {a1 a2 a3 a4 a5 a6 a7 a8 a9 a10 a11 a12 : Sort _} {P : a1 → a2 → a3 → a4 → a5 → a6 → a7 → a8 → a9 → a10 → a11 → a12 → Prop} {G : Prop} (h : ∃ x1 x2 x3 x4 x5 x6 x7 x8 x9 x10 x11 x12,P x1 x2 x3 x4 x5 x6 x7 x8 x9 x10 x11 x12) (k : ∀ x1 x2 x3 x4 x5 x6 x7 x8 x9 x10 x11 x12,P x1 x2 x3 x4 x5 x6 x7 x8 x9 x10 x11 x12 → G) : G := xE1 h fun x h => xE11 h (k x)
theorem xE13 {a1 a2 a3 a4 a5 a6 a7 a8 a9 a10 a11 a12 a13 : Sort _} {P : a1 → a2 → a3 → a4 → a5 → a6 → a7 → a8 → a9 → a10 → a11 → a12 → a13 → Prop} {G : Prop} (h : ∃ x1 x2 x3 x4 x5 x6 x7 x8 x9 x10 x11 x12 x13,P x1 x2 x3 x4 x5 x6 x7 x8 x9 x10 x11 x12 x13) (k : ∀ x1 x2 x3 x4 x5 x6 x7 x8 x9 x10 x11 x12 x13,P x1 x2 x3 x4 x5 x6 x7 x8 x9 x10 x11 x12 x13 → G) : G := xE1 h fun x h => xE12 h (k x)
theorem xE14 {a1 a2 a3 a4 a5 a6 a7 a8 a9 a10 a11 a12 a13 a14 : Sort _} {P : a1 → a2 → a3 → a4 → a5 → a6 → a7 → a8 → a9 → a10 → a11 → a12 → a13 → a14 → Prop} {G : Prop} (h : ∃ x1 x2 x3 x4 x5 x6 x7 x8 x9 x10 x11 x12 x13 x14,P x1 x2 x3 x4 x5 x6 x7 x8 x9 x10 x11 x12 x13 x14) (k : ∀ x1 x2 x3 x4 x5 x6 x7 x8 x9 x10 x11 x12 x13 x14,P x1 x2 x3 x4 x5 x6 x7 x8 x9 x10 x11 x12 x13 x14 → G) : G := xE1 h fun x h => xE13 h (k x)
theorem xE15 {a1 a2 a3 a4 a5 a6 a7 a8 a9 a10 a11 a12 a13 a14 a15 : Sort _} {P : a1 → a2 → a3 → a4 → a5 → a6 → a7 → a8 → a9 → a10 → a11 → a12 → a13 → a14 → a15 → Prop} {G : Prop} (h : ∃ x1 x2 x3 x4 x5 x6 x7 x8 x9 x10 x11 x12 x13 x14 x15,P x1 x2 x3 x4 x5 x6 x7 x8 x9 x10 x11 x12 x13 x14 x15) (k : ∀ x1 x2 x3 x4 x5 x6 x7 x8 x9 x10 x11 x12 x13 x14 x15,P x1 x2 x3 x4 x5 x6 x7 x8 x9 x10 x11 x12 x13 x14 x15 → G) : G := xE1 h fun x h => xE14 h (k x)
noncomputable abbrev den : Code → Sem Fin := PySem.W.Fast.tw11892475500146522536 PySem.W.Fast.tw14364793385576792824
theorem den_eq : denote table = den := by
  rw [table_eq_tree,PySem.W.Fast.te11892475500146522536,PySem.W.Fast.te14364793385576792824]
noncomputable abbrev Md (w : World) : Model := model PySem.Challenge.pw_ik0207_01 w
theorem md_den (w : World) (c : Code) : (Md w).den c = den c := congrFun den_eq c
noncomputable def Good (w : World) (R : Result → Shared → Prop) (s : Shared) (t : Thread) : Prop :=
  ∃ n r s',(Md w).runN n s t = .halted (outcomeOf r) s' ∧ R r s'
theorem Good.back {w : World} {R : Result → Shared → Prop} {s s' : Shared} {t t' : Thread} (h : (Md w).step s t = .go s' t') (g : Good w R s' t') : Good w R s t := by
  refine xE3 g fun n r s'' hx => xA1 hx fun hn hR => ?_; clear hx; clear g
  refine ⟨n + 1,r,s'',?_,hR⟩
  show (match (Md w).step s t with | .go s' t' => (Md w).runN n s' t' | .halt o s' => .halted o s') = _
  rw [h]; exact hn
inductive TT where
  | nil
  | node (a : Nat) (o : Obj) (l r : TT)
namespace TT
noncomputable def get : TT → Nat → Option (Nat × Obj)
  | .nil,_ => none
  | .node a o l r,i => match Nat.beq i 0 with
    | true => some (a,o)
    | false => match Nat.beq (i % 2) 1 with
      | true => l.get (i / 2)
      | false => r.get (i / 2 - 1)
noncomputable def set : TT → Nat → (Obj → Obj) → TT
  | .nil,_,_ => .nil
  | .node a o l r,i,f => match Nat.beq i 0 with
    | true => .node a (f o) l r
    | false => match Nat.beq (i % 2) 1 with
      | true => .node a o (l.set (i / 2) f) r
      | false => .node a o l (r.set (i / 2 - 1) f)
noncomputable def ins : TT → Nat → Nat → Obj → TT
  | .nil,_,b,x => .node b x .nil .nil
  | .node a o l r,i,b,x => match Nat.beq i 0 with
    | true => .node b x l r
    | false => match Nat.beq (i % 2) 1 with
      | true => .node a o (l.ins (i / 2) b x) r
      | false => .node a o l (r.ins (i / 2 - 1) b x)
noncomputable def ofList : List (Nat × Obj) → TT := fun l => (l.foldl (fun (x : TT × Nat) p => (x.1.ins x.2 p.1 p.2,x.2 + 1)) (.nil,0)).1
theorem beq_eq (a b : Nat) : Nat.beq a b = decide (a = b) := BT.beq_eq a b
theorem get_node (a : Nat) (o : Obj) (l r : TT) (i : Nat) : (node a o l r).get i = if i = 0 then some (a,o) else if i % 2 = 1 then l.get (i / 2) else r.get (i / 2 - 1) := by
  show (match Nat.beq i 0 with | true => some (a,o) | false => match Nat.beq (i % 2) 1 with | true => l.get (i / 2) | false => r.get (i / 2 - 1)) = _
  rw [beq_eq,beq_eq]
  by_cases h : i = 0
  · simp [h]
  · by_cases q : i % 2 = 1 <;> simp [h,q]
theorem set_node (a : Nat) (o : Obj) (l r : TT) (i : Nat) (f : Obj → Obj) : (node a o l r).set i f = if i = 0 then node a (f o) l r else if i % 2 = 1 then node a o (l.set (i / 2) f) r else node a o l (r.set (i / 2 - 1) f) := by
  show (match Nat.beq i 0 with | true => node a (f o) l r | false => match Nat.beq (i % 2) 1 with | true => node a o (l.set (i / 2) f) r | false => node a o l (r.set (i / 2 - 1) f)) = _
  rw [beq_eq,beq_eq]
  by_cases h : i = 0
  · simp [h]
  · by_cases q : i % 2 = 1 <;> simp [h,q]
theorem ins_node (a : Nat) (o : Obj) (l r : TT) (i b : Nat) (x : Obj) : (node a o l r).ins i b x = if i = 0 then node b x l r else if i % 2 = 1 then node a o (l.ins (i / 2) b x) r else node a o l (r.ins (i / 2 - 1) b x) := by
  show (match Nat.beq i 0 with | true => node b x l r | false => match Nat.beq (i % 2) 1 with | true => node a o (l.ins (i / 2) b x) r | false => node a o l (r.ins (i / 2 - 1) b x)) = _
  rw [beq_eq,beq_eq]
  by_cases h : i = 0
  · simp [h]
  · by_cases q : i % 2 = 1 <;> simp [h,q]
theorem half_inj {i j : Nat} (hi : i ≠ 0) (hj : j ≠ 0) (p : (i % 2 = 1) ↔ (j % 2 = 1)) (h : if i % 2 = 1 then i / 2 = j / 2 else i / 2 - 1 = j / 2 - 1) : i = j := by
  by_cases q : i % 2 = 1
  · rw [if_pos q] at h; have := p.mp q; lia
  · rw [if_neg q] at h; have : ¬ j % 2 = 1 := fun z => q (p.mpr z); lia
theorem get_set (f : Obj → Obj) : ∀ (t : TT) (i j : Nat),(t.set i f).get j = if j = i then (t.get j).map fun x => (x.1,f x.2) else t.get j
  | .nil,i,j => by show TT.nil.get j = _; simp [get]
  | .node a o l r,i,j => by
    rw [set_node,get_node a o l r j]
    by_cases hi : i = 0
    · subst hi
      rw [if_pos rfl,get_node]
      by_cases hj : j = 0 <;> simp [hj]
    · rw [if_neg hi]
      by_cases p : i % 2 = 1
      · rw [if_pos p,get_node]
        by_cases hj : j = 0
        · subst hj; simp [Ne.symm hi]
        · rw [if_neg hj,if_neg hj]
          by_cases q : j % 2 = 1
          · rw [if_pos q,if_pos q,get_set f l (i / 2) (j / 2)]
            by_cases e : j = i
            · subst e; simp
            · rw [if_neg e,if_neg (fun z => e (by lia))]
          · rw [if_neg q,if_neg q,if_neg (fun e => q (by rw [e]; exact p))]
      · rw [if_neg p,get_node]
        by_cases hj : j = 0
        · subst hj; simp [Ne.symm hi]
        · rw [if_neg hj,if_neg hj]
          by_cases q : j % 2 = 1
          · rw [if_pos q,if_pos q,if_neg (fun e => p (by rw [← e]; exact q))]
          · rw [if_neg q,if_neg q,get_set f r (i / 2 - 1) (j / 2 - 1)]
            by_cases e : j = i
            · subst e; simp
            · rw [if_neg e,if_neg (fun z => e (by lia))]
theorem get_ins_self (b : Nat) (x : Obj) : ∀ (t : TT) (i : Nat) (y : Nat × Obj),(t.ins i b x).get i = some y → y = (b,x) ∨ ∃ k,t.get k = some y
  | .nil,i,y,h => by
    have : (TT.nil.ins i b x) = .node b x .nil .nil := rfl
    rw [this,get_node] at h
    by_cases hi : i = 0
    · rw [if_pos hi] at h; left; exact (Option.some.inj h).symm
    · rw [if_neg hi] at h; split at h <;> cases h
  | .node a o l r,i,y,h => by
    rw [ins_node] at h
    by_cases hi : i = 0
    · subst hi; rw [if_pos rfl,get_node,if_pos rfl] at h; left; exact (Option.some.inj h).symm
    · rw [if_neg hi] at h
      by_cases p : i % 2 = 1
      · rw [if_pos p,get_node,if_neg hi,if_pos p] at h
        rcases get_ins_self b x l _ y h with q | ⟨k,q⟩
        · exact .inl q
        · refine .inr ⟨2 * k + 1,?_⟩
          rw [get_node,if_neg (by lia),if_pos (by lia)]
          have : (2 * k + 1) / 2 = k := by lia
          rw [this]; exact q
      · rw [if_neg p,get_node,if_neg hi,if_neg p] at h
        rcases get_ins_self b x r _ y h with q | ⟨k,q⟩
        · exact .inl q
        · refine .inr ⟨2 * k + 2,?_⟩
          rw [get_node,if_neg (by lia),if_neg (by lia)]
          have : (2 * k + 2) / 2 - 1 = k := by lia
          rw [this]; exact q
theorem get_ins (b : Nat) (x : Obj) : ∀ (t : TT) (i : Nat),((t.ins i b x).get i).isSome = true → ∀ j,(t.ins i b x).get j = if j = i then some (b,x) else t.get j
  | .nil,i,h,j => by
    have e : (TT.nil.ins i b x) = .node b x .nil .nil := rfl
    rw [e,get_node] at h
    have hi : i = 0 := by
      by_cases hi : i = 0
      · exact hi
      · rw [if_neg hi] at h; split at h <;> cases h
    subst hi
    rw [e,get_node]
    by_cases hj : j = 0
    · simp [hj]
    · rw [if_neg hj,if_neg hj]; split <;> rfl
  | .node a o l r,i,h,j => by
    rw [ins_node] at h ⊢
    by_cases hi : i = 0
    · subst hi
      rw [if_pos rfl,get_node]
      by_cases hj : j = 0
      · simp [hj]
      · rw [if_neg hj,if_neg hj,get_node,if_neg hj]
    · rw [if_neg hi] at h ⊢
      by_cases p : i % 2 = 1
      · rw [if_pos p] at h ⊢
        rw [get_node,if_neg hi,if_pos p] at h
        rw [get_node]
        by_cases hj : j = 0
        · subst hj; rw [if_pos rfl,if_neg (Ne.symm hi),get_node,if_pos rfl]
        · rw [if_neg hj]
          by_cases q : j % 2 = 1
          · rw [if_pos q,get_ins b x l (i / 2) h (j / 2)]
            by_cases e : j = i
            · subst e; simp
            · rw [if_neg e,if_neg (fun z => e (by lia)),get_node,if_neg hj,if_pos q]
          · rw [if_neg q,if_neg (fun e => q (by rw [e]; exact p)),get_node,if_neg hj,if_neg q]
      · rw [if_neg p] at h ⊢
        rw [get_node,if_neg hi,if_neg p] at h
        rw [get_node]
        by_cases hj : j = 0
        · subst hj; rw [if_pos rfl,if_neg (Ne.symm hi),get_node,if_pos rfl]
        · rw [if_neg hj]
          by_cases q : j % 2 = 1
          · rw [if_pos q,if_neg (fun e => p (by rw [← e]; exact q)),get_node,if_neg hj,if_pos q]
          · rw [if_neg q,get_ins b x r (i / 2 - 1) h (j / 2 - 1)]
            by_cases e : j = i
            · subst e; simp
            · rw [if_neg e,if_neg (fun z => e (by lia)),get_node,if_neg hj,if_neg q]
end TT
inductive V0 where
  | none
  | b (x : Bool)
  | i (x : Int)
  | s (x : Str)
  | y (x : Array UInt8)
  | r (a : Nat)
  | t (n : String)
  | bi (n : String)
  | o
noncomputable def strip0 : Value → V0
  | .none => .none
  | .bool b => .b b
  | .int i _ => .i i
  | .str s _ => .s s
  | .bytes y _ => .y y
  | .ref a => .r a
  | .type n => .t n
  | .builtin n => .bi n
  | _ => .o
structure OE where
  id : Nat
  args : List V0
  need : List (Nat × Nat × Obj)
  sets : List Value → List (Nat × Nat × Obj)
  news : List Value → List Obj
  res : Nat → Nat → List Value → Value
  d : Nat
  alt : Option (List Value → Sem Fin)
structure Cf where
  t : Sem Fin
  c : Code
  p : Pos
  st : List Frame
  sw : List (Code × Pos)
  hd : List (Option Value)
  T : TT
  m : Nat
  sz : Nat
  tk : Nat
  gl : List (Nat × GenState)
  gz : Nat
  ch : Ch
  L : List Nat
  A : List Nat
  O : List (Nat × OE)
  e : Nat
  oa : List (Nat × Nat)
  oo : List (Obj × Obj)
  ot : List (Sem Fin × Sem Fin)
  ov : List ((Nat × List V0) × (Nat × List V0))
noncomputable def Cf.th (f : Cf) : Thread := ⟨f.t,f.c,f.p,f.st⟩
structure En where
  w : World
  kt : KT
  ro : Nat
  fs : Bool
noncomputable def rowIs (x : Nat) (b : Bool) (P : Params) : Params := { P with followText := fun r => bif Nat.beq (PySem.code r) x then b else P.followText r }
theorem rowIs_self (row : String) (P : Params) : rowIs (PySem.code row) (P.followText row) P = P := by
  have h : (fun r => bif Nat.beq (PySem.code r) (PySem.code row) then P.followText row else P.followText r) = P.followText := by
    funext r
    cases e : Nat.beq (PySem.code r) (PySem.code row) with
    | false => rfl
    | true => rw [PySem.code_inj _ _ (Nat.eq_of_beq_eq_true e)]; rfl
  unfold rowIs
  rw [h]
noncomputable abbrev rowSp : String := "special-get-raises"
noncomputable def codeSp : Nat := 10139888712337904147300001983332972444938612
theorem codeSp_is : PySem.code rowSp = codeSp := by decide +kernel
noncomputable abbrev rowFs : String := "fstring-hands-on-the-str"
noncomputable def codeFs : Nat := PySem.code rowFs
noncomputable def quickB (l : List UInt8) : Bool := match l with
  | [] => true
  | a :: l => match Nat.beq a.toNat 108 with
    | false => true
    | true => match l with
      | [] => true
      | b :: l => match Nat.beq b.toNat 105 with
        | false => true
        | true => match l with
          | [] => true
          | c :: _ => match Nat.beq c.toNat 102 with
            | false => true
            | true => false
theorem starts_bytes (s : String) (h : s.startsWith "lifetime." = true) : ∃ l,s.toByteArray.data.toList = 108 :: 105 :: 102 :: l := by
  rw [String.startsWith_string_iff] at h
  obtain ⟨t,ht⟩ := h
  have e : s = "lifetime." ++ String.ofList t := by
    rw [← String.ofList_toList (s := s),← ht,String.ofList_append,String.ofList_toList]
  have b : "lifetime.".toByteArray.data.toList = [108,105,102,101,116,105,109,101,46] := by decide +kernel
  refine ⟨[101,116,105,109,101,46] ++ (String.ofList t).toByteArray.data.toList,?_⟩
  rw [e,String.toByteArray_append]
  simp only [ByteArray.data_append,Array.toList_append,b]
  rfl
theorem quickB_ok {id : String} (h : quickB id.toByteArray.data.toList = true) : id.startsWith "lifetime." = false := by
  cases q : id.startsWith "lifetime." with
  | false => rfl
  | true =>
    obtain ⟨l,e⟩ := starts_bytes id q
    rw [e] at h
    have : quickB (108 :: 105 :: 102 :: l) = false := rfl
    rw [this] at h; cases h
noncomputable def quickC (c : Code) : Bool := match c with
  | .builtin id _ => quickB id.toByteArray.data.toList
  | _ => true
theorem quickC_ok {c : Code} (h : quickC c = true) : c.quiet = true := by
  cases c with
  | builtin id a => exact Code.quiet_builtin a (quickB_ok h)
  | _ => rfl
noncomputable def selfIter (o : Obj) : Bool := match o.cls with
  | .type n => Nat.beq (PySem.code n) (PySem.code "list_iterator") || Nat.beq (PySem.code n) (PySem.code "range_iterator") || Nat.beq (PySem.code n) (PySem.code "zip") || Nat.beq (PySem.code n) (PySem.code "dict_valueiterator")
  | _ => false
noncomputable def notAsync (e : PySem.Expr) (d : Nat) : Bool := !(((clausesOf e)[d]?).elim false (·.is_async != 0))
noncomputable def nthG : List (Nat × GenState) → Nat → Option (Nat × GenState)
  | [],_ => none
  | x :: l,i => match i with
    | 0 => some x
    | i + 1 => nthG l i
noncomputable def setG : List (Nat × GenState) → Nat → GenState → List (Nat × GenState)
  | [],_,_ => []
  | x :: l,i,g => match i with
    | 0 => (x.1,g) :: l
    | i + 1 => x :: setG l i g
noncomputable def dropL {α : Type} : Nat → List α → List α
  | 0,l => l
  | n + 1,l => match l with
    | [] => []
    | _ :: l => dropL n l
noncomputable def setAll (T : TT) : List (Nat × Nat × Obj) → TT
  | [] => T
  | x :: l => setAll (T.set x.1 (fun _ => x.2.2)) l
noncomputable def needAll (T : TT) (oa : List (Nat × Nat)) (oo : List (Obj × Obj)) : List (Nat × Nat × Obj) → Option (List (Nat × Nat) × List (Obj × Obj))
  | [] => some (oa,oo)
  | x :: l => match T.get x.1 with
    | some y => needAll T ((y.1,x.2.1) :: oa) ((y.2,x.2.2) :: oo) l
    | none => none
noncomputable def setsOk (T : TT) (ro : Nat) (oa : List (Nat × Nat)) : List (Nat × Nat × Obj) → Option (List (Nat × Nat))
  | [] => some oa
  | x :: l => match Nat.ble ro x.1 with
    | false => none
    | true => match x.2.2.isFreed with
      | true => none
      | false => match T.get x.1 with
        | some y => setsOk T ro ((y.1,x.2.1) :: oa) l
        | none => none
noncomputable def pushT (T : TT) (m sz : Nat) : List Obj → Option (TT × Nat × Nat)
  | [] => some (T,m,sz)
  | o :: l => match o.isFreed with
    | true => none
    | false => match (T.ins m sz o).get m with
      | some _ => pushT (T.ins m sz o) (m + 1) (sz + 1) l
      | none => none
noncomputable def mS : Monad PySem.Sem := PySem.W.Fast.tw12456147031677567982
noncomputable def wHt (env : Env) (x : Value) : Sem Unit := letI : Monad PySem.Sem := mS; do
  PySem.W.Fast.tw17872113653443481271 x env
  PySem.W.Fast.tw1623429502029203251 x
noncomputable def fG (c : Code) : Flow → Sem Fin
  | .next | .cont => PySem.W.Fast.tw12377390311714414960 c
  | .brk => @pure PySem.Sem mS.toPure _ (.done .next)
  | .ret v => @pure PySem.Sem mS.toPure _ (.done (.ret v))
noncomputable def consK (env : Env) : Flow → Sem Flow
  | .next => PySem.W.Fast.tw12563942051412417395 [] env
  | f => @pure PySem.Sem mS.toPure _ f
noncomputable def tryM (m : Sem Unit) (e : Value) (hs : List ExceptHandler) (env : Env) : Sem Flow := letI : Monad PySem.Sem := mS; do
  m
  match hs with
  | [] => Sem.raise e
  | _ => do
    PySem.W.Fast.tw5670386056902412789 e none
    PySem.W.Fast.tw14206642085496868694 e env hs
noncomputable def errM (c : Code) (e : Value) (m : Env → Sem Unit) : Sem Fin := match c with
  | .whileLoop _ [.Try _ hs _ _ _] _ env => PySem.W.R.onRaiseR (@bind PySem.Sem mS.toBind _ _ (@bind PySem.Sem mS.toBind _ _ (tryM (m env) e hs env) (consK env)) (fG c)) (wHt env)
  | _ => .unsupported "no try"
noncomputable def envsOf (sk : List (Code × Pos)) : List Env := List.filterMap (fun x => x.fst.env?) (PySem.W.R.filterR (fun x => x.fst.isFrame) sk)
noncomputable def nfB (e : Value) (l : List Env) (env : Env) : Sem Unit := letI : Monad PySem.Sem := mS; do
  let fr ← (do
    let fr ← PySem.W.Fast.tw10665104254819526710 l
    match fr with
    | some f => pure f
    | none => PySem.unsupported "internal:frame-not-on-the-stack")
  let pl ← PySem.W.Fast.tw17431863860829184973 (env.frame.getD 0) (Value.none != .none)
  let x ← PySem.W.Fast.tw7687323783571163205 .none fr .none (rawInt (env.frame.getD 0)) .none pl
  PySem.W.Fast.tw17858455048448223758 e 1 x
noncomputable def nfE (e : Value) (pl : List Value) (env : Env) : Sem Unit := letI : Monad PySem.Sem := mS; do
  let x ← PySem.W.Fast.tw7687323783571163205 .none (.ref (env.frame.getD 0)) .none (rawInt (env.frame.getD 0)) .none pl
  PySem.W.Fast.tw17858455048448223758 e 1 x
noncomputable def nfC (e : Value) (r : Option (Code × Pos)) (sk : List (Code × Pos)) (env : Env) : Sem Unit := letI : Monad PySem.Sem := mS; do
  let pl ← (match r with
    | some (_,pos) => pure (if (pos.line == 0) = true then [] else [rawInt pos.line,rawInt pos.endLine,rawInt pos.col,rawInt pos.endCol] ++ PySem.W.Fast.tw10967294825066124259 (env.frame.getD 0) (Value.none != .none) sk)
    | none => pure [])
  nfE e pl env
noncomputable def nfD (e : Value) (pos : Pos) (sk : List (Code × Pos)) (env : Env) : Sem Unit :=
  nfE e (if (pos.line == 0) = true then [] else [rawInt pos.line,rawInt pos.endLine,rawInt pos.col,rawInt pos.endCol] ++ [(PySem.W.Fast.tw10967294825066124259 (env.frame.getD 0) false sk).headD .none,.bool false]) env
noncomputable def fnd (env : Env) (sk : List (Code × Pos)) : Option (Code × Pos) := PySem.W.R.findR (fun x => match x with | (c,_) => (c.env?.bind fun x => x.frame) == env.frame) sk
theorem errM_congr {c : Code} {e : Value} {m m' : Env → Sem Unit} (h : ∀ env,c.env? = some env → m env = m' env) : errM c e m = errM c e m' := by
  unfold errM
  split
  · rw [h _ rfl]
  · rfl
noncomputable def swA (c : Code) (p : Pos) (sw : List (Code × Pos)) (e : Value) : Option ((Sem Fin × Sem Fin) × (Nat × Nat)) := match c.env? with
  | none => none
  | some env => match env.frame with
    | none => none
    | some b => match envsOf ((c,p) :: sw) with
      | [] => none
      | x :: l => match x.frame with
        | none => none
        | some a => some ((errM c e (fun env => nfB e (List.dropWhile (fun x => x.frame != env.frame) (envsOf ((c,p) :: sw))) env),errM c e (fun env => nfB e (envsOf ((c,p) :: sw)) env)),(a,b))
noncomputable def swB (c : Code) (p : Pos) (sw : List (Code × Pos)) (e : Value) : Sem Fin × Sem Fin :=
  (errM c e (fun env => nfC e (fnd env ((c,p) :: sw)) ((c,p) :: sw) env),errM c e (nfD e p ((c,p) :: sw)))
theorem swA_ok {c : Code} {p : Pos} {sw : List (Code × Pos)} {e : Value} {r : (Sem Fin × Sem Fin) × (Nat × Nat)} (h : swA c p sw e = some r) (q : r.2.1 = r.2.2) : r.1.1 = r.1.2 := by
  unfold swA at h
  split at h
  · cases h
  · rename_i env he
    split at h
    · cases h
    · rename_i b hb
      split at h
      · cases h
      · rename_i x l hl
        split at h
        · cases h
        · rename_i a ha
          cases h
          have q : a = b := q
          subst q
          refine errM_congr fun env' he' => ?_
          rw [he] at he'
          cases he'
          have : List.dropWhile (fun x => x.frame != env.frame) (envsOf ((c,p) :: sw)) = envsOf ((c,p) :: sw) := by
            rw [hl,List.dropWhile_cons,ha,hb]
            simp
          show nfB e (List.dropWhile (fun x => x.frame != env.frame) (envsOf ((c,p) :: sw))) env = _
          rw [this]
theorem swB_ok (c : Code) (p : Pos) (sw : List (Code × Pos)) (e : Value) : (swB c p sw e).1 = (swB c p sw e).2 := by
  refine errM_congr fun env he => ?_
  have h0 : ((c.env?.bind fun x => x.frame) == env.frame) = true := by rw [he]; exact beq_self_eq_true _
  have h1 : fnd env ((c,p) :: sw) = some (c,p) := by
    unfold fnd
    show @Bool.rec (fun _ => Option (Code × Pos)) _ (some (c,p)) ((c.env?.bind fun x => x.frame) == env.frame) = _
    rw [h0]
  have h2 : ∀ f sk,PySem.W.Fast.tw10967294825066124259 f false sk = [(PySem.W.Fast.tw10967294825066124259 f false sk).headD .none,.bool false] := by
    intro f sk
    unfold PySem.W.Fast.tw10967294825066124259
    split <;> rfl
  show nfC e (fnd env ((c,p) :: sw)) ((c,p) :: sw) env = nfD e p ((c,p) :: sw) env
  rw [h1]
  unfold nfD
  rw [← h2]
  rfl
section
variable (E : En)
noncomputable def enter (f : Cf) (c' : Code) : Option Cf := match f with
  | ⟨_,_,p,st,sw,hd,T,m,sz,tk,gl,gz,ch,L,A,O,e,oa,oo,ot,ov⟩ => match c' with
    | .builtin id args => match O with
      | [] => some ⟨den c',c',p,st,sw,hd,T,m,sz,tk,gl,gz,ch,L,A,[],e + 1,oa,oo,ot,ov⟩
      | x :: O' => match Nat.beq x.1 e with
        | false => some ⟨den c',c',p,st,sw,hd,T,m,sz,tk,gl,gz,ch,L,A,x :: O',e + 1,oa,oo,ot,ov⟩
        | true => match args with
          | ⟨pos,kw⟩ => match kw with
            | _ :: _ => none
            | [] => match x.2.alt with
             | some T' => match needAll T oa oo x.2.need with
               | none => none
               | some y => some ⟨T' pos,.builtin id ⟨pos,[]⟩,p,st,sw,hd,T,m,sz,tk,gl,gz,ch,L,A,O',e + 1,y.1,y.2,ot,((PySem.code id,pos.map strip0),(x.2.id,x.2.args)) :: ov⟩
             | none => match st with
              | [] => none
              | fr :: st' => match fr with
                | .gen .. => none
                | .ret k _ _ _ c0 p0 _ => match needAll T oa oo x.2.need with
                  | none => none
                  | some y => match setsOk T E.ro y.1 (x.2.sets pos) with
                    | none => none
                    | some oa' => match pushT (setAll T (x.2.sets pos)) m sz (x.2.news pos) with
                      | none => none
                      | some z => some ⟨k (.ok (.ret (x.2.res sz tk pos))),c0,p0,st',sw.tail,hd.tail,z.1,z.2.1,z.2.2,tk + x.2.d,gl,gz,ch,L,A,O',e + 1,oa',y.2,ot,((PySem.code id,pos.map strip0),(x.2.id,x.2.args)) :: ov⟩
    | .compStart ex d it acc env => match it with
      | .ref a => match L with
        | [] => none
        | i :: L' => match i with
          | 0 => none
          | i + 1 => match T.get i with
            | none => none
            | some y => match selfIter y.2 with
              | false => none
              | true => match notAsync ex d with
                | false => none
                | true => match den (.compLoop ex d it acc env) with
                  | .at p1 k => some ⟨k (),.compLoop ex d it acc env,p1,st,sw,hd,T,m,sz,tk,gl,gz,ch,L',A,O,e,(y.1,a) :: oa,oo,ot,ov⟩
                  | _ => none
      | _ => none
    | _ => some ⟨den c',c',p,st,sw,hd,T,m,sz,tk,gl,gz,ch,L,A,O,e,oa,oo,ot,ov⟩
noncomputable def give (f : Cf) (r : Result) : Option Cf := match f with
  | ⟨_,_,_,st,sw,hd,T,m,sz,tk,gl,gz,ch,L,A,O,e,oa,oo,ot,ov⟩ => match st with
    | [] => none
    | fr :: st' => match fr with
      | .ret k _ _ _ c' p' _ => some ⟨k r,c',p',st',sw.tail,hd.tail,T,m,sz,tk,gl,gz,ch,L,A,O,e,oa,oo,ot,ov⟩
      | .gen g k _ c' p' => match L with
        | [] => none
        | j :: L' => match nthG gl j with
          | none => none
          | some y => some ⟨k (End.ret r).result,c',p',st',sw.tail,hd.tail,T,m,sz,tk,setG gl j .finished,gz,ch,L',A,O,e,(y.1,g) :: oa,oo,ot,ov⟩
noncomputable def stp (f : Cf) : Option Cf := match f with
  | ⟨t,c,p,st,sw,hd,T,m,sz,tk,gl,gz,ch,L,A,O,e,oa,oo,ot,ov⟩ => match t with
    | .pure fin => match fin with
      | .done fl => give ⟨t,c,p,st,sw,hd,T,m,sz,tk,gl,gz,ch,L,A,O,e,oa,oo,ot,ov⟩ (.ok fl)
      | .again c' => match quickC c' with
        | true => enter E ⟨t,c,p,st,sw,hd,T,m,sz,tk,gl,gz,ch,L,A,O,e,oa,oo,ot,ov⟩ c'
        | false => none
    | .raise x => give ⟨t,c,p,st,sw,hd,T,m,sz,tk,gl,gz,ch,L,A,O,e,oa,oo,ot,ov⟩ (.error x)
    | .rule _ k => some ⟨k (),c,p,st,sw,hd,T,m,sz,tk,gl,gz,ch,L,A,O,e,oa,oo,ot,ov⟩
    | .at p' k => some ⟨k (),c,p',st,sw,hd,T,m,sz,tk,gl,gz,ch,L,A,O,e,oa,oo,ot,ov⟩
    | .point _ k => some ⟨k (),c,p,st,sw,hd,T,m,sz,tk,gl,gz,ch,L,A,O,e,oa,oo,ot,ov⟩
    | .ask k => match A with
      | [] => some ⟨k ⟨PySem.Challenge.pw_ik0207_01,E.w.params⟩,c,p,st,sw,hd,T,m,sz,tk,gl,gz,ch,L,A,O,e,oa,oo,ot,ov⟩
      | x :: A' => match x with
        | 0 => some ⟨k ⟨PySem.Challenge.pw_ik0207_01,E.w.params⟩,c,p,st,sw,hd,T,m,sz,tk,gl,gz,ch,L,A',O,e,oa,oo,ot,ov⟩
        | i + 1 => match i with
          | 0 => some ⟨k ⟨PySem.Challenge.pw_ik0207_01,rowIs codeSp false E.w.params⟩,c,p,st,sw,hd,T,m,sz,tk,gl,gz,ch,L,A',O,e,oa,oo,
            (k ⟨PySem.Challenge.pw_ik0207_01,rowIs codeSp true E.w.params⟩,k ⟨PySem.Challenge.pw_ik0207_01,rowIs codeSp false E.w.params⟩) :: ot,ov⟩
          | _ + 1 => some ⟨k ⟨PySem.Challenge.pw_ik0207_01,rowIs codeFs E.fs E.w.params⟩,c,p,st,sw,hd,T,m,sz,tk,gl,gz,ch,L,A',O,e,oa,oo,ot,ov⟩
    | .load a _ k => match L with
      | [] => none
      | i :: L' => match i with
        | 0 => match chLook ch a with
          | some vs => some ⟨k (tableObj vs),c,p,st,sw,hd,T,m,sz,tk,gl,gz,ch,L',A,O,e,oa,oo,ot,ov⟩
          | none => match Nat.blt a 268 with
            | false => none
            | true => match E.kt.get a with
              | some o => some ⟨k o,c,p,st,sw,hd,T,m,sz,tk,gl,gz,ch,L',A,O,e,oa,oo,ot,ov⟩
              | none => none
        | i + 1 => match T.get i with
          | some y => some ⟨k y.2,c,p,st,sw,hd,T,m,sz,tk,gl,gz,ch,L',A,O,e,(a,y.1) :: oa,oo,ot,ov⟩
          | none => none
    | .loadIfAlive a k => match L with
      | [] => none
      | i :: L' => match i with
        | 0 => match chLook ch a with
          | some vs => some ⟨k (some (tableObj vs)),c,p,st,sw,hd,T,m,sz,tk,gl,gz,ch,L',A,O,e,oa,oo,ot,ov⟩
          | none => match Nat.blt a 268 with
            | false => none
            | true => match E.kt.get a with
              | some o => some ⟨k (some o),c,p,st,sw,hd,T,m,sz,tk,gl,gz,ch,L',A,O,e,oa,oo,ot,ov⟩
              | none => none
        | i + 1 => match T.get i with
          | some y => some ⟨k (some y.2),c,p,st,sw,hd,T,m,sz,tk,gl,gz,ch,L',A,O,e,(a,y.1) :: oa,oo,ot,ov⟩
          | none => none
    | .alloc o k => match o.isFreed with
      | true => none
      | false => match (T.ins m sz o).get m with
        | some _ => some ⟨k sz,c,p,st,sw,hd,T.ins m sz o,m + 1,sz + 1,tk,gl,gz,ch,L,A,O,e,oa,oo,ot,ov⟩
        | none => none
    | .update a _ u k => match L with
      | [] => none
      | i :: L' => match i with
        | 0 => match chLook ch a with
          | some vs => match tabOf (u (tableObj vs)) with
            | some vs' => some ⟨k (),c,p,st,sw,hd,T,m,sz,tk,gl,gz,chPut ch a vs',L',A,O,e,oa,oo,ot,ov⟩
            | none => none
          | none => none
        | i + 1 => match Nat.ble E.ro i with
          | false => none
          | true => match T.get i with
            | some y => match (u y.2).isFreed with
              | true => none
              | false => some ⟨k (),c,p,st,sw,hd,T.set i u,m,sz,tk,gl,gz,ch,L',A,O,e,(a,y.1) :: oa,oo,ot,ov⟩
            | none => none
    | .fresh k => some ⟨k tk,c,p,st,sw,hd,T,m,sz,tk + 1,gl,gz,ch,L,A,O,e,oa,oo,ot,ov⟩
    | .handled own k => match own with
      | true => none
      | false => match hd with
        | [] => none
        | h :: _ => some ⟨k h,c,p,st,sw,hd,T,m,sz,tk,gl,gz,ch,L,A,O,e,oa,oo,ot,ov⟩
    | .stack k => match L with
      | [] => some ⟨k ((c,p) :: sw),c,p,st,sw,hd,T,m,sz,tk,gl,gz,ch,[],A,O,e,oa,oo,ot,ov⟩
      | i :: L' => match Nat.beq i 777777 with
        | true => match L' with
          | [] => none
          | j :: L2 => match T.get j with
            | none => none
            | some y => match swA c p sw (.ref y.1) with
              | none => none
              | some r => some ⟨r.1.2,c,p,st,sw,hd,T,m,sz,tk,gl,gz,ch,L2,A,O,e,r.2 :: oa,oo,(k ((c,p) :: sw),r.1.1) :: ot,ov⟩
        | false => match Nat.beq i 888888 with
          | true => match L' with
            | [] => none
            | j :: L2 => match T.get j with
              | none => none
              | some y => some ⟨(swB c p sw (.ref y.1)).2,c,p,st,sw,hd,T,m,sz,tk,gl,gz,ch,L2,A,O,e,oa,oo,(k ((c,p) :: sw),(swB c p sw (.ref y.1)).1) :: ot,ov⟩
          | false => some ⟨k ((c,p) :: sw),c,p,st,sw,hd,T,m,sz,tk,gl,gz,ch,i :: L',A,O,e,oa,oo,ot,ov⟩
    | .call c' h g l k => match h with
      | none => match hd with
        | [] => none
        | h0 :: _ => enter E ⟨t,c,p,.ret k none g l c p [] :: st,(c,p) :: sw,h0 :: hd,T,m,sz,tk,gl,gz,ch,L,A,O,e,oa,oo,ot,ov⟩ c'
      | some x => match x with
        | .ref a => enter E ⟨t,c,p,.ret k (some (.ref a)) g l c p [] :: st,(c,p) :: sw,some (.ref a) :: hd,T,m,sz,tk,gl,gz,ch,L,A,O,e,oa,oo,ot,ov⟩ c'
        | _ => none
    | .newGen c' k => some ⟨k gz,c,p,st,sw,hd,T,m,sz,tk,gl ++ [(gz,.fresh c')],gz + 1,ch,L,A,O,e,oa,oo,ot,ov⟩
    | .genState g k => match L with
      | [] => none
      | j :: L' => match nthG gl j with
        | none => none
        | some y => some ⟨k y.2.seen,c,p,st,sw,hd,T,m,sz,tk,gl,gz,ch,L',A,O,e,(y.1,g) :: oa,oo,ot,ov⟩
    | .resume g r l k => match L with
      | [] => none
      | j :: L' => match nthG gl j with
        | none => none
        | some y => match y.2 with
          | .fresh c₀ => match r with
            | .throw _ => none
            | .send v => match v with
              | .none => match hd with
                | [] => none
                | h0 :: _ => enter E ⟨t,c,p,.gen g k l c p :: st,(c,p) :: sw,h0 :: hd,T,m,sz,tk,setG gl j .running,gz,ch,L',A,O,e,(y.1,g) :: oa,oo,ot,ov⟩ c₀
              | _ => none
          | .suspended k₀ _ c₀ p₀ fs₀ _ => match fs₀ with
            | [] => match hd with
              | [] => none
              | h0 :: _ => some ⟨k₀ r,c₀,p₀,.gen g k l c p :: st,(c,p) :: sw,h0 :: hd,T,m,sz,tk,setG gl j .running,gz,ch,L',A,O,e,(y.1,g) :: oa,oo,ot,ov⟩
            | _ :: _ => none
          | .running => none
          | .finished => none
    | .yield v gd l kk => match gd with
      | true => none
      | false => match st with
        | [] => none
        | fr :: st' => match fr with
          | .gen g k _ c' p' => match L with
            | [] => none
            | j :: L' => match nthG gl j with
              | none => none
              | some y => some ⟨k (.yielded v),c',p',st',sw.tail,hd.tail,T,m,sz,tk,setG gl j (.suspended kk l c p [] false),gz,ch,L',A,O,e,(y.1,g) :: oa,oo,ot,ov⟩
          | .ret .. => none
    | .unsupported _ => none
    | .finish _ => none
    | .register .. => none
    | .choose .. => none
    | .os .. => none
    | .fork .. => none
    | .thread _ => none
    | .await .. => none
noncomputable def run : Nat → Cf → Option Cf
  | 0 => fun f => some f
  | n + 1 => fun f => match stp E f with
    | some f' => run n f'
    | none => none
end
structure Bs where
  h0 : Heap
  upd : Nat → Prop
  s0 : Shared
  t0 : Nat → Option (Array Value)
noncomputable def cleanG : GenState → Prop
  | .suspended _ _ _ _ _ c => c = false
  | _ => True
structure RH (E : En) (B : Bs) (T : TT) (m sz : Nat) (ch : Ch) (h : Heap) : Prop where
  kt : ∀ a o,a < 268 → E.kt.get a = some o → B.h0.get? a = some o
  hi : ∀ b,B.upd b → 268 ≤ b
  lo : 268 ≤ B.h0.objs.size
  size : h.objs.size = sz
  h0sz : B.h0.objs.size ≤ sz
  own : ∀ i y,T.get i = some y → i < m ∧ 268 ≤ y.1 ∧ y.1 < sz ∧ h.get? y.1 = some y.2
  new : ∀ i y,E.ro ≤ i → T.get i = some y → B.upd y.1 ∨ B.h0.objs.size ≤ y.1
  apart : ∀ i j y z,E.ro ≤ i → i ≠ j → T.get i = some y → T.get j = some z → y.1 ≠ z.1
  keep : ∀ b o,B.h0.get? b = some o → ¬ B.upd b → chLook ch b = none → h.get? b = some o
  tab : ∀ a vs,chLook ch a = some vs → a < 268 ∧ h.get? a = some (tableObj vs) ∧ E.kt.get a = none
  life : h.life = B.s0.heap.life
structure RG (gl : List (Nat × GenState)) (gz : Nat) (gens : Array GenState) : Prop where
  size : gens.size = gz
  own : ∀ j y,nthG gl j = some y → gens[y.1]? = some y.2
  apart : ∀ i j y z,i ≠ j → nthG gl i = some y → nthG gl j = some z → y.1 ≠ z.1
  clean : ∀ g st,gens[g]? = some st → (∀ j y,nthG gl j = some y → y.1 ≠ g) → cleanG st
noncomputable def HOk : List Frame → List (Option Value) → Prop
  | _,[] => True
  | st,h :: hs => topHandled st = h ∧ HOk st.tail hs
structure Rep (E : En) (B : Bs) (f : Cf) (s : Shared) : Prop where
  heap : RH E B f.T f.m f.sz f.ch s.heap
  gens : RG f.gl f.gz s.gens
  toks : s.toks = f.tk
  os : s.os = B.s0.os
  drawn : s.drawn = B.s0.drawn
  whr : f.st.map Frame.where_ = f.sw
  hnd : HOk f.st f.hd
structure Obl (f : Cf) : Prop where
  a : ∀ x ∈ f.oa,x.1 = x.2
  o : ∀ x ∈ f.oo,x.1 = x.2
  t : ∀ x ∈ f.ot,x.1 = x.2
  v : ∀ x ∈ f.ov,x.1 = x.2
noncomputable def OE.after (x : OE) (pos : List Value) (s : Shared) : Shared := { s with heap := (x.news pos).foldl Heap.push ((x.sets pos).foldl (fun h y => h.update y.2.1 fun _ => y.2.2) s.heap),toks := s.toks + x.d }
noncomputable def KtAt (kt : KT) (s : Shared) : Prop := ∀ a o,a < 268 → kt.get a = some o → s.heap.get? a = some o
noncomputable def OEok0 (w : World) (kt : KT) (x : OE) : Prop :=
  ∀ (s : Shared) (id : String) (pos : List Value) (p : Pos) (k : Result → Sem Fin) (h : Option Value) (g : Bool) (l : List Value) (c0 : Code) (p0 : Pos) (kp : List Value) (st : List Frame),
    KtAt kt s → PySem.code id = x.id → pos.map strip0 = x.args → (∀ y ∈ x.need,s.heap.get? y.2.1 = some y.2.2) → (∀ y ∈ x.sets pos,(s.heap.get? y.2.1).isSome = true) →
    ∀ R,Good w R (x.after pos s) ⟨k (.ok (.ret (x.res s.heap.objs.size s.toks pos))),c0,p0,st⟩ → Good w R s ⟨den (.builtin id ⟨pos,[]⟩),.builtin id ⟨pos,[]⟩,p,.ret k h g l c0 p0 kp :: st⟩
noncomputable def OEok (w : World) (kt : KT) (x : OE) : Prop := (x.alt = none → OEok0 w kt x) ∧ ∀ T,x.alt = some T → ∀ (s : Shared) (id : String) (pos : List Value) (p : Pos) (st : List Frame),PySem.code id = x.id → pos.map strip0 = x.args → (∀ y ∈ x.need,s.heap.get? y.2.1 = some y.2.2) →
    ∀ R,Good w R s ⟨T pos,.builtin id ⟨pos,[]⟩,p,st⟩ → Good w R s ⟨den (.builtin id ⟨pos,[]⟩),.builtin id ⟨pos,[]⟩,p,st⟩
theorem oeok_of0 {w : World} {kt : KT} {x : OE} (ha : x.alt = none) (h : OEok0 w kt x) : OEok w kt x := ⟨fun _ => h,fun T e => by rw [ha] at e; cases e⟩
noncomputable def CompOk (w : World) : Prop :=
  ∀ (ex : PySem.Expr) (d a : Nat) (acc : Value) (env : Env) (s : Shared) (p : Pos) (st : List Frame) (o : Obj),s.heap.get? a = some o → selfIter o = true → notAsync ex d = true →
    ∀ R,(∀ p',Good w R s ⟨den (.compLoop ex d (.ref a) acc env),.compLoop ex d (.ref a) acc env,p',st⟩) → Good w R s ⟨den (.compStart ex d (.ref a) acc env),.compStart ex d (.ref a) acc env,p,st⟩
structure EnvOk (E : En) : Prop where
  comp : CompOk E.w
  fs : E.w.params.followText rowFs = E.fs
section
variable {E : En} {B : Bs} {T : TT} {m sz : Nat} {ch : Ch} {h : Heap}
theorem RH.alloc (H : RH E B T m sz ch h) {o : Obj} (hf : o.isFreed = false) (hg : ((T.ins m sz o).get m).isSome = true) : RH E B (T.ins m sz o) (m + 1) (sz + 1) ch (h.push o) := by
  have hget := TT.get_ins sz o T m hg
  have hs : (h.push o).objs.size = sz + 1 := by rw [Heap.size_push,H.size]
  have lo := Nat.le_trans H.lo H.h0sz
  refine ⟨H.kt,H.hi,H.lo,hs,Nat.le_succ_of_le H.h0sz,fun i y e => ?_,fun i y hr e => ?_,fun i j y z hr hij ei ej => ?_,fun b o' e hu hc => Heap.get?_push_of_some _ (H.keep b o' e hu hc),fun a vs e => ?_,?_⟩
  · rw [hget] at e
    by_cases hi : i = m
    · rw [if_pos hi] at e; cases e
      refine ⟨by lia,lo,Nat.lt_succ_self _,?_⟩
      have := Heap.get?_push_size h hf
      rw [H.size] at this; exact this
    · rw [if_neg hi] at e
      refine xA3 (H.own i y e) fun a b c d => ?_
      exact ⟨Nat.lt_succ_of_lt a,b,Nat.lt_succ_of_lt c,Heap.get?_push_of_some _ d⟩
  · rw [hget] at e
    by_cases hi : i = m
    · rw [if_pos hi] at e; cases e; exact .inr H.h0sz
    · rw [if_neg hi] at e; exact H.new i y hr e
  · rw [hget] at ei ej
    by_cases hi : i = m
    · rw [if_pos hi] at ei; cases ei
      rw [if_neg (fun q => hij (hi.trans q.symm))] at ej
      have := (H.own j z ej).2.2.1
      exact Nat.ne_of_gt this
    · rw [if_neg hi] at ei
      by_cases hj : j = m
      · rw [if_pos hj] at ej; cases ej
        have := (H.own i y ei).2.2.1
        exact Nat.ne_of_lt this
      · rw [if_neg hj] at ej; exact H.apart i j y z hr hij ei ej
  · refine xA2 (H.tab a vs e) fun a1 a2 a3 => ?_
    exact ⟨a1,Heap.get?_push_of_some _ a2,a3⟩
  · rw [Heap.life_push]; exact H.life
theorem life_update (h : Heap) (a : Nat) (u : Obj → Obj) : (h.update a u).life = h.life := by cases h; rfl
theorem RH.update (H : RH E B T m sz ch h) {i : Nat} {y : Nat × Obj} {u : Obj → Obj} (hr : E.ro ≤ i) (e : T.get i = some y) (hf : (u y.2).isFreed = false) : RH E B (T.set i u) m sz ch (h.update y.1 u) := by
  refine xA3 (H.own i y e) fun o1 o2 o3 o4 => ?_
  have hs : Heap.SameBut y.1 h (h.update y.1 u) := Heap.SameBut.update ..
  have gs : (h.update y.1 u).get? y.1 = some (u y.2) := by first | exact Heap.get?_update_self u o4 hf | exact Heap.get?_update_self _ o4 hf
  refine ⟨H.kt,H.hi,H.lo,by rw [hs.1,H.size],H.h0sz,fun j z ej => ?_,fun j z hrj ej => ?_,fun j k z x hrj hjk ej ek => ?_,fun b o eb hu hc => ?_,fun a vs ea => ?_,(life_update ..).trans H.life⟩
  · rw [TT.get_set] at ej
    by_cases q : j = i
    · subst q
      rw [if_pos rfl,e] at ej; cases ej
      exact ⟨o1,o2,o3,gs⟩
    · rw [if_neg q] at ej
      refine xA3 (H.own j z ej) fun p1 p2 p3 p4 => ?_
      exact ⟨p1,p2,p3,(hs.2 _ (Ne.symm (H.apart i j y z hr (Ne.symm q) e ej))).trans p4⟩
  · rw [TT.get_set] at ej
    by_cases q : j = i
    · subst q; rw [if_pos rfl,e] at ej; cases ej; exact H.new _ y hr e
    · rw [if_neg q] at ej; exact H.new j z hrj ej
  · rw [TT.get_set] at ej ek
    have f1 : ∀ {j z},(if j = i then (T.get j).map (fun x => (x.1,u x.2)) else T.get j) = some z → ∃ z',T.get j = some z' ∧ z'.1 = z.1 := by
      intro j z ej
      by_cases q : j = i
      · subst q; rw [if_pos rfl,e] at ej; cases ej; exact ⟨y,e,rfl⟩
      · rw [if_neg q] at ej; exact ⟨z,ej,rfl⟩
    refine xE1 (f1 ej) fun z' hx => xA1 hx fun a1 a2 => ?_; clear hx
    refine xE1 (f1 ek) fun x' hx => xA1 hx fun b1 b2 => ?_; clear hx
    rw [← a2,← b2]; exact H.apart j k z' x' hrj hjk a1 b1
  · have hb : b ≠ y.1 := by
      intro q
      rcases H.new i y hr e with n | n
      · exact hu (q ▸ n)
      · exact absurd (Heap.lt_size eb) (Nat.not_lt.mpr (q ▸ n))
    exact (hs.2 b hb).trans (H.keep b o eb hu hc)
  · refine xA2 (H.tab a vs ea) fun a1 a2 a3 => ?_
    exact ⟨a1,(hs.2 a (Nat.ne_of_lt (Nat.lt_of_lt_of_le a1 o2))).trans a2,a3⟩
theorem RH.table (H : RH E B T m sz ch h) {a : Nat} {u : Obj → Obj} {vs vs' : Array Value} (e : chLook ch a = some vs) (hn : u (tableObj vs) = tableObj vs') :
    RH E B T m sz (chPut ch a vs') (h.update a u) := by
  refine xA2 (H.tab a vs e) fun a1 a2 a3 => ?_
  have hs : Heap.SameBut a h (h.update a u) := Heap.SameBut.update ..
  have hf : (u (tableObj vs)).isFreed = false := by rw [hn]; rfl
  have gs : (h.update a u).get? a = some (tableObj vs') := by
    have : (h.update a u).get? a = some (u (tableObj vs)) := by first | exact Heap.get?_update_self u a2 hf | exact Heap.get?_update_self _ a2 hf
    rw [this,hn]
  refine ⟨H.kt,H.hi,H.lo,by rw [hs.1,H.size],H.h0sz,fun j z ej => ?_,H.new,H.apart,fun b o eb hu hc => ?_,fun b ws eb => ?_,(life_update ..).trans H.life⟩
  · refine xA3 (H.own j z ej) fun p1 p2 p3 p4 => ?_
    exact ⟨p1,p2,p3,(hs.2 _ (Nat.ne_of_gt (Nat.lt_of_lt_of_le a1 p2))).trans p4⟩
  · rw [chPut_look] at hc
    by_cases q : a = b
    · rw [if_pos q] at hc; cases hc
    · rw [if_neg q] at hc; exact (hs.2 b (Ne.symm q)).trans (H.keep b o eb hu hc)
  · rw [chPut_look] at eb
    by_cases q : a = b
    · rw [if_pos q] at eb; cases eb; subst q
      exact ⟨a1,gs,a3⟩
    · rw [if_neg q] at eb
      refine xA2 (H.tab b ws eb) fun b1 b2 b3 => ?_
      exact ⟨b1,(hs.2 b (Ne.symm q)).trans b2,b3⟩
theorem RH.old (H : RH E B T m sz ch h) {a : Nat} {o : Obj} (hc : chLook ch a = none) (hb : Nat.blt a 268 = true) (e : E.kt.get a = some o) : h.get? a = some o := by
  have lt : a < 268 := Nat.le_of_ble_eq_true hb
  refine H.keep a o (H.kt a o lt e) (fun hu => ?_) hc
  have := H.hi a hu
  lia
end
section
variable {gl : List (Nat × GenState)} {gz : Nat} {gens : Array GenState}
theorem nth_setG : ∀ (gl : List (Nat × GenState)) (i : Nat) (x : GenState) (j : Nat),nthG (setG gl i x) j = if j = i then (nthG gl j).map fun y => (y.1,x) else nthG gl j
  | [],i,x,j => by simp [setG,nthG]
  | y :: l,0,x,j => by
    show nthG ((y.1,x) :: l) j = _
    cases j with
    | zero => simp [nthG]
    | succ j => simp [nthG]
  | y :: l,i + 1,x,j => by
    show nthG (y :: setG l i x) j = _
    cases j with
    | zero => simp [nthG]
    | succ j =>
      show nthG (setG l i x) j = _
      rw [nth_setG l i x j]
      simp [nthG]
theorem nth_append : ∀ (gl : List (Nat × GenState)) (y : Nat × GenState) (j : Nat) (z : Nat × GenState),nthG (gl ++ [y]) j = some z → nthG gl j = some z ∨ (z = y ∧ nthG gl j = none)
  | [],y,j,z,e => by
    cases j with
    | zero => right; exact ⟨(Option.some.inj e).symm,rfl⟩
    | succ j => cases e
  | x :: l,y,0,z,e => .inl e
  | x :: l,y,j + 1,z,e => nth_append l y j z e
theorem nth_append_idx : ∀ (gl : List (Nat × GenState)) (y : Nat × GenState) (i j : Nat) (z x : Nat × GenState),nthG (gl ++ [y]) i = some z → nthG gl i = none → nthG (gl ++ [y]) j = some x → nthG gl j = none → i = j
  | [],y,i,j,z,x,e1,_,e2,_ => by
    cases i <;> cases j <;> first | rfl | (simp [nthG] at e1; done) | (simp [nthG] at e2; done)
  | a :: l,y,0,j,z,x,e1,n1,e2,n2 => by cases n1
  | a :: l,y,i + 1,0,z,x,e1,n1,e2,n2 => by cases n2
  | a :: l,y,i + 1,j + 1,z,x,e1,n1,e2,n2 => congrArg (· + 1) (nth_append_idx l y i j z x e1 n1 e2 n2)
theorem RG.set (H : RG gl gz gens) {j : Nat} {y : Nat × GenState} (e : nthG gl j = some y) (x : GenState) : RG (setG gl j x) gz (gens.setIfInBounds y.1 x) := by
  have hy := H.own j y e
  have hlt : y.1 < gens.size := by
    rw [Array.getElem?_eq_some_iff] at hy; exact hy.1
  have look : ∀ {k z},nthG (setG gl j x) k = some z → ∃ z',nthG gl k = some z' ∧ z'.1 = z.1 ∧ (k = j → z = (y.1,x)) ∧ (k ≠ j → z' = z) := by
    intro k z ek
    rw [nth_setG] at ek
    by_cases q : k = j
    · subst q; rw [if_pos rfl,e] at ek; cases ek; exact ⟨y,e,rfl,fun _ => rfl,fun n => absurd rfl n⟩
    · rw [if_neg q] at ek; exact ⟨z,ek,rfl,fun n => absurd n q,fun _ => rfl⟩
  refine ⟨by rw [Array.size_setIfInBounds]; exact H.size,fun k z ek => ?_,fun i k z u hik ei ek => ?_,fun g st eg hn => ?_⟩
  · refine xE1 (look ek) fun z' hx => xA3 hx fun a1 a2 a3 a4 => ?_; clear hx
    by_cases q : k = j
    · rw [a3 q]; simp [hlt]
    · have := a4 q; subst this
      rw [Array.getElem?_setIfInBounds_ne (H.apart j k y z' (Ne.symm q) e a1)]
      exact H.own k _ a1
  · refine xE1 (look ei) fun z' hx => xA2 hx fun a1 a2 _ => ?_; clear hx
    refine xE1 (look ek) fun u' hx => xA2 hx fun b1 b2 _ => ?_; clear hx
    rw [← a2,← b2]; exact H.apart i k z' u' hik a1 b1
  · have hg : y.1 ≠ g := by
      refine hn j (y.1,x) ?_
      rw [nth_setG,if_pos rfl,e]; rfl
    rw [Array.getElem?_setIfInBounds_ne hg] at eg
    refine H.clean g st eg fun k z ek => ?_
    by_cases q : k = j
    · subst q; rw [e] at ek; cases ek; exact hg
    · exact hn k z (by rw [nth_setG,if_neg q]; exact ek)
theorem nth_app {y : Nat × GenState} : ∀ {gl : List (Nat × GenState)} {k : Nat} {z : Nat × GenState},nthG gl k = some z → nthG (gl ++ [y]) k = some z
  | [],_,_,e => by cases e
  | _ :: _,0,_,e => e
  | _ :: l,k + 1,_,e => nth_app (gl := l) (k := k) e
theorem RG.push (H : RG gl gz gens) (c : Code) : RG (gl ++ [(gz,.fresh c)]) (gz + 1) (gens.push (.fresh c)) := by
  have lt : ∀ j z,nthG gl j = some z → z.1 < gens.size := fun j z ez => by
    have := H.own j z ez
    rw [Array.getElem?_eq_some_iff] at this; exact this.1
  refine ⟨by rw [Array.size_push,H.size],fun k z ek => ?_,fun i k z u hik ei ek => ?_,fun g st eg hn => ?_⟩
  · rcases nth_append gl _ k z ek with q | ⟨q,_⟩
    · rw [Array.getElem?_push_lt (lt k z q)]
      have := H.own k z q
      rw [Array.getElem?_eq_some_iff] at this
      obtain ⟨h1,h2⟩ := this
      rw [h2]
    · subst q; rw [← H.size]; simp
  · rcases nth_append gl _ i z ei with q | ⟨q,n⟩
    · rcases nth_append gl _ k u ek with r | ⟨r,n'⟩
      · exact H.apart i k z u hik q r
      · subst r
        have := lt i z q
        show z.1 ≠ gz
        rw [← H.size]; exact Nat.ne_of_lt this
    · rcases nth_append gl _ k u ek with r | ⟨r,n'⟩
      · subst q
        have := lt k u r
        show gz ≠ u.1
        rw [← H.size]; exact Nat.ne_of_gt this
      · exact absurd (nth_append_idx gl _ i k z u ei n ek n') hik
  · by_cases q : g < gens.size
    · rw [Array.getElem?_push_lt q] at eg
      refine H.clean g st ?_ fun k z ek => hn k z ?_
      · rw [Array.getElem?_eq_some_iff]; exact ⟨q,Option.some.inj eg⟩
      · exact nth_app ek
    · have : g = gens.size := by
        rw [Array.getElem?_eq_some_iff] at eg
        obtain ⟨h1,_⟩ := eg
        rw [Array.size_push] at h1; lia
      subst this
      rw [Array.getElem?_push_size] at eg
      cases eg; trivial
end
section
variable {E : En} {B : Bs}
structure Mn (f x : Cf) : Prop where
  a : ∀ y ∈ f.oa,y ∈ x.oa
  o : ∀ y ∈ f.oo,y ∈ x.oo
  t : ∀ y ∈ f.ot,y ∈ x.ot
  v : ∀ y ∈ f.ov,y ∈ x.ov
  O : ∀ y ∈ x.O,y ∈ f.O
theorem Obl.mono {f g : Cf} (o : Obl g) (M : Mn f g) : Obl f :=
  ⟨fun x hx => o.a x (M.a x hx),fun x hx => o.o x (M.o x hx),fun x hx => o.t x (M.t x hx),fun x hx => o.v x (M.v x hx)⟩
theorem Mn.trans {f g h : Cf} (a : Mn f g) (b : Mn g h) : Mn f h :=
  ⟨fun y q => b.a y (a.a y q),fun y q => b.o y (a.o y q),fun y q => b.t y (a.t y q),fun y q => b.v y (a.v y q),fun y q => a.O y (b.O y q)⟩
theorem smL {α : Type} (l : List α) : ∀ y ∈ l,y ∈ l := fun _ h => h
theorem tlL {α : Type} (a : α) (l : List α) : ∀ y ∈ l,y ∈ a :: l := fun _ h => .tail _ h
noncomputable def Cf.five (f : Cf) := (f.oa,f.oo,f.ot,f.ov,f.O)
theorem Mn.eq {f x : Cf} (e : f.five = x.five) : Mn f x := by
  simp only [Cf.five,Prod.mk.injEq] at e
  refine xA4 e fun a b c d g => ?_; clear e
  exact ⟨a ▸ smL _,b ▸ smL _,c ▸ smL _,d ▸ smL _,g ▸ smL _⟩
theorem Mn.oa {f x : Cf} {y : Nat × Nat} (e : (y :: f.oa,f.oo,f.ot,f.ov,f.O) = x.five) : Mn f x := by
  simp only [Cf.five,Prod.mk.injEq] at e
  refine xA4 e fun a b c d g => ?_; clear e
  exact ⟨a ▸ tlL _ _,b ▸ smL _,c ▸ smL _,d ▸ smL _,g ▸ smL _⟩
theorem HOk.tail : ∀ {st : List Frame} {hd : List (Option Value)},HOk st hd → HOk st.tail hd.tail
  | [],[],_ => trivial
  | [],_ :: _,h => h.2
  | _ :: _,[],_ => trivial
  | _ :: _,_ :: _,h => h.2
theorem HOk.pushN {st : List Frame} {h : Option Value} {hd : List (Option Value)} (H : HOk st (h :: hd)) (k : Result → Sem Fin) (g : Bool) (l : List Value) (c : Code) (p : Pos) (kp : List Value) : HOk (.ret k none g l c p kp :: st) (h :: h :: hd) := ⟨H.1,H⟩
theorem HOk.pushG {st : List Frame} {h : Option Value} {hd : List (Option Value)} (H : HOk st (h :: hd)) (g : Nat) (k : GenResult → Sem Fin) (l : List Value) (c : Code) (p : Pos) : HOk (.gen g k l c p :: st) (h :: h :: hd) := ⟨H.1,H⟩
theorem needAll_spec {T : TT} : ∀ (l : List (Nat × Nat × Obj)) {oa : List (Nat × Nat)} {oo : List (Obj × Obj)} {y : List (Nat × Nat) × List (Obj × Obj)},needAll T oa oo l = some y →
    (∀ x ∈ oa,x ∈ y.1) ∧ (∀ x ∈ oo,x ∈ y.2) ∧ ∀ x ∈ l,∃ z,T.get x.1 = some z ∧ (z.1,x.2.1) ∈ y.1 ∧ (z.2,x.2.2) ∈ y.2
  | [],oa,oo,y,e => by cases e; exact ⟨fun _ h => h,fun _ h => h,fun _ h => by cases h⟩
  | x :: l,oa,oo,y,e => by
    unfold needAll at e
    split at e
    · rename_i z ez
      obtain ⟨a,b,c⟩ := needAll_spec l e
      refine ⟨fun q hq => a q (.tail _ hq),fun q hq => b q (.tail _ hq),fun q hq => ?_⟩
      rcases List.mem_cons.mp hq with rfl | hq
      · exact ⟨z,ez,a _ (.head _),b _ (.head _)⟩
      · exact c q hq
    · cases e
theorem setsOk_spec {T : TT} {ro : Nat} : ∀ (l : List (Nat × Nat × Obj)) {oa oa' : List (Nat × Nat)},setsOk T ro oa l = some oa' →
    (∀ x ∈ oa,x ∈ oa') ∧ ∀ x ∈ l,ro ≤ x.1 ∧ x.2.2.isFreed = false ∧ ∃ z,T.get x.1 = some z ∧ (z.1,x.2.1) ∈ oa'
  | [],oa,oa',e => by cases e; exact ⟨fun _ h => h,fun _ h => by cases h⟩
  | x :: l,oa,oa',e => by
    unfold setsOk at e
    split at e
    · cases e
    · rename_i hb
      split at e
      · cases e
      · rename_i hf
        split at e
        · rename_i z ez
          obtain ⟨a,c⟩ := setsOk_spec l e
          refine ⟨fun q hq => a q (.tail _ hq),fun q hq => ?_⟩
          rcases List.mem_cons.mp hq with rfl | hq
          · exact ⟨Nat.le_of_ble_eq_true hb,hf,z,ez,a _ (.head _)⟩
          · exact c q hq
        · cases e
theorem setAll_heap {m sz : Nat} {ch : Ch} : ∀ (l : List (Nat × Nat × Obj)) {T : TT} {h : Heap},RH E B T m sz ch h → (∀ x ∈ l,E.ro ≤ x.1 ∧ x.2.2.isFreed = false ∧ ∃ z,T.get x.1 = some z ∧ z.1 = x.2.1) →
    RH E B (setAll T l) m sz ch (l.foldl (fun h y => h.update y.2.1 fun _ => y.2.2) h)
  | [],T,h,H,_ => H
  | x :: l,T,h,H,hl => by
    refine xA2 (hl x (.head _)) fun a b hxx => xE1 hxx fun z hxx => xA1 hxx fun c d => ?_; clear hxx; clear hxx
    have H' := H.update (u := fun _ => x.2.2) a c b
    rw [d] at H'
    refine setAll_heap l H' fun q hq => ?_
    refine xA2 (hl q (.tail _ hq)) fun a' b' hxx => xE1 hxx fun z' hxx => xA1 hxx fun c' d' => ?_; clear hxx; clear hxx
    rw [TT.get_set]
    by_cases e : q.1 = x.1
    · rw [if_pos e,c']; exact ⟨a',b',_,rfl,d'⟩
    · rw [if_neg e]; exact ⟨a',b',z',c',d'⟩
theorem pushT_heap {ch : Ch} : ∀ (l : List Obj) {T : TT} {m sz : Nat} {h : Heap} {z : TT × Nat × Nat},RH E B T m sz ch h → pushT T m sz l = some z → RH E B z.1 z.2.1 z.2.2 ch (l.foldl Heap.push h)
  | [],T,m,sz,h,z,H,e => by cases e; exact H
  | o :: l,T,m,sz,h,z,H,e => by
    unfold pushT at e
    split at e
    · cases e
    · rename_i hf
      split at e
      · rename_i y hg
        exact pushT_heap l (H.alloc hf (by rw [hg]; rfl)) e
      · cases e
noncomputable def opB {α : Type} (o : Option α) (n : Option Cf) (k : α → Option Cf) : Option Cf := match o with | some y => k y | none => n
noncomputable def lsB {α : Type} (l : List α) (n : Option Cf) (k : α → List α → Option Cf) : Option Cf := match l with | [] => n | a :: r => k a r
noncomputable def naB (i : Nat) (z : Option Cf) (k : Nat → Option Cf) : Option Cf := match i with | 0 => z | j + 1 => k j
noncomputable def boB (b : Bool) (f t : Option Cf) : Option Cf := match b with | false => f | true => t
noncomputable def PO (K : Cf → Prop) (o : Option Cf) : Prop := ∀ x,o = some x → K x
section
variable {K : Cf → Prop} {α : Type}
theorem PO.no : PO K none := fun _ h => nomatch h
theorem PO.so {x : Cf} (h : K x) : PO K (some x) := fun _ e => by cases e; exact h
theorem PO.o {o : Option α} {n : Option Cf} {k : α → Option Cf} (h0 : o = none → PO K n) (h : ∀ y,o = some y → PO K (k y)) : PO K (opB o n k) := by
  cases o with
  | none => exact h0 rfl
  | some y => exact h y rfl
theorem PO.o0 {o : Option α} {k : α → Option Cf} (h : ∀ y,o = some y → PO K (k y)) : PO K (opB o none k) := PO.o (fun _ => PO.no) h
theorem PO.l {l : List α} {n : Option Cf} {k : α → List α → Option Cf} (h0 : PO K n) (h : ∀ y r,l = y :: r → PO K (k y r)) : PO K (lsB l n k) := by
  cases l with
  | nil => exact h0
  | cons y r => exact h y r rfl
theorem PO.l0 {l : List α} {k : α → List α → Option Cf} (h : ∀ y r,l = y :: r → PO K (k y r)) : PO K (lsB l none k) := PO.l PO.no h
theorem PO.n {i : Nat} {z : Option Cf} {k : Nat → Option Cf} (h0 : PO K z) (h : ∀ j,PO K (k j)) : PO K (naB i z k) := by
  cases i with
  | zero => exact h0
  | succ j => exact h j
theorem PO.b {b : Bool} {f t : Option Cf} (h0 : b = false → PO K f) (h : b = true → PO K t) : PO K (boB b f t) := by
  cases b with
  | false => exact h0 rfl
  | true => exact h rfl
end
namespace Cf
noncomputable def wt (f : Cf) (t : Sem Fin) : Cf := { f with t := t }
noncomputable def wc (f : Cf) (c : Code) : Cf := { f with c := c }
noncomputable def wp (f : Cf) (p : Pos) : Cf := { f with p := p }
noncomputable def fr (f : Cf) (t : Sem Fin) (c : Code) (p : Pos) (st : List Frame) : Cf := { f with t := t,c := c,p := p,st := st,sw := f.sw.tail,hd := f.hd.tail }
noncomputable def pu (f : Cf) (x : Frame) (h : Option Value) : Cf := { f with st := x :: f.st,sw := (f.c,f.p) :: f.sw,hd := h :: f.hd }
noncomputable def wL (f : Cf) (L : List Nat) : Cf := { f with L := L }
noncomputable def wA (f : Cf) (A : List Nat) : Cf := { f with A := A }
noncomputable def wO (f : Cf) (O : List (Nat × OE)) : Cf := { f with O := O,e := f.e + 1 }
noncomputable def wa (f : Cf) (x : List (Nat × Nat)) : Cf := { f with oa := x }
noncomputable def wo (f : Cf) (x : List (Obj × Obj)) : Cf := { f with oo := x }
noncomputable def wot (f : Cf) (x : Sem Fin × Sem Fin) : Cf := { f with ot := x :: f.ot }
noncomputable def wov (f : Cf) (x : (Nat × List V0) × (Nat × List V0)) : Cf := { f with ov := x :: f.ov }
noncomputable def wh (f : Cf) (T : TT) (m sz : Nat) : Cf := { f with T := T,m := m,sz := sz }
noncomputable def wk (f : Cf) (tk : Nat) : Cf := { f with tk := tk }
noncomputable def wg (f : Cf) (gl : List (Nat × GenState)) : Cf := { f with gl := gl }
noncomputable def wch (f : Cf) (ch : Ch) : Cf := { f with ch := ch }
noncomputable def wgz (f : Cf) : Cf := { f with gz := f.gz + 1 }
noncomputable def core (f : Cf) := (f.T,f.m,f.sz,f.ch,f.gl,f.gz,f.tk,f.st,f.sw,f.hd)
end Cf
theorem Rep.to {f x : Cf} {s : Shared} (R : Rep E B f s) (e : f.core = x.core) : Rep E B x s := by
  simp only [Cf.core,Prod.mk.injEq] at e
  refine xA9 e fun a b c d g h i j k l => ?_; clear e
  obtain ⟨r1,r2,r3,r4,r5,r6,r7⟩ := R
  rw [a,b,c,d] at r1
  rw [g,h] at r2
  exact ⟨r1,r2,r3.trans i,r4,r5,by rw [← j,← k]; exact r6,by rw [← j,← l]; exact r7⟩
structure SO (E : En) (B : Bs) (f : Cf) (th : Thread) (x : Cf) : Prop where
  m : Mn f x
  g : ∀ s,Rep E B f s → Obl x → ∃ s',Rep E B x s' ∧ ∀ Q,Good E.w Q s' x.th → Good E.w Q s th
section
variable {f x : Cf} {th : Thread}
theorem SO.zero (m : Mn f x) (e : f.core = x.core) (h : ∀ s,Rep E B f s → Obl x → ∀ Q,Good E.w Q s x.th → Good E.w Q s th) : SO E B f th x := ⟨m,fun s R o => ⟨s,R.to e,h s R o⟩⟩
theorem SO.same (m : Mn f x) (e : f.core = x.core) (h : ∀ s,Rep E B f s → Obl x → (Md E.w).step s th = .go s x.th) : SO E B f th x := ⟨m,fun s R o => ⟨s,R.to e,fun _ g => Good.back (h s R o) g⟩⟩
theorem SO.go (u : Shared → Shared) (m : Mn f x) (h : ∀ s,Rep E B f s → Obl x → Rep E B x (u s) ∧ (Md E.w).step s th = .go (u s) x.th) : SO E B f th x := ⟨m,fun s R o => ⟨u s,(h s R o).1,fun _ g => Good.back (h s R o).2 g⟩⟩
theorem Obl.a1 {y : Nat × Nat} {l : List (Nat × Nat)} (o : Obl x) (e : x.oa = y :: l) : y.1 = y.2 := o.a y (e ▸ .head _)
theorem Obl.t1 {y : Sem Fin × Sem Fin} {l : List (Sem Fin × Sem Fin)} (o : Obl x) (e : x.ot = y :: l) : y.1 = y.2 := o.t y (e ▸ .head _)
end
noncomputable def entB (E : En) (f : Cf) (id : String) (args : Args) : Option Cf :=
  lsB f.O (some (((f.wt (den (.builtin id args))).wc (.builtin id args)).wO [])) fun x O' =>
  boB (Nat.beq x.1 f.e) (some (((f.wt (den (.builtin id args))).wc (.builtin id args)).wO (x :: O'))) <|
  lsB args.kw (opB x.2.alt
    (lsB f.st none fun fr st' => match fr with
      | .gen .. => none
      | .ret k _ _ _ c0 p0 _ => opB (needAll f.T f.oa f.oo x.2.need) none fun y => opB (setsOk f.T E.ro y.1 (x.2.sets args.pos)) none fun oa' =>
        opB (pushT (setAll f.T (x.2.sets args.pos)) f.m f.sz (x.2.news args.pos)) none fun z =>
        some (((((((f.fr (k (.ok (.ret (x.2.res f.sz f.tk args.pos)))) c0 p0 st').wh z.1 z.2.1 z.2.2).wk (f.tk + x.2.d)).wO O').wa oa').wo y.2).wov ((PySem.code id,args.pos.map strip0),(x.2.id,x.2.args))))
    fun T' => opB (needAll f.T f.oa f.oo x.2.need) none fun y =>
      some ((((((f.wt (T' args.pos)).wc (.builtin id ⟨args.pos,[]⟩)).wO O').wa y.1).wo y.2).wov ((PySem.code id,args.pos.map strip0),(x.2.id,x.2.args)))) fun _ _ => none
noncomputable def entC (f : Cf) (ex : PySem.Expr) (d : Nat) (it : Value) (acc : Value) (env : Env) : Option Cf := match it with
  | .ref a => lsB f.L none fun i L' => naB i none fun i => opB (f.T.get i) none fun y => boB (selfIter y.2) none <| boB (notAsync ex d) none <| match den (.compLoop ex d (.ref a) acc env) with
    | .at p1 k => some (((((f.wt (k ())).wc (.compLoop ex d (.ref a) acc env)).wp p1).wL L').wa ((y.1,a) :: f.oa))
    | _ => none
  | _ => none
theorem entB_eq (f : Cf) (id : String) (args : Args) : enter E f (.builtin id args) = entB E f id args := by cases f; cases args; kernel_rfl
theorem entC_eq (f : Cf) (ex : PySem.Expr) (d : Nat) (it : Value) (acc : Value) (env : Env) : enter E f (.compStart ex d it acc env) = entC f ex d it acc env := by cases f; cases it <;> kernel_rfl
theorem need_ok {f : Cf} {s : Shared} (R : Rep E B f s) {l : List (Nat × Nat × Obj)} {y : List (Nat × Nat) × List (Obj × Obj)} (hy : needAll f.T f.oa f.oo l = some y) (a : ∀ q ∈ y.1,q.1 = q.2) (o : ∀ q ∈ y.2,q.1 = q.2) : ∀ q ∈ l,s.heap.get? q.2.1 = some q.2.2 := fun q hq => by
  obtain ⟨w,w1,w2,w3⟩ := (needAll_spec _ hy).2.2 q hq
  have := (R.heap.own _ _ w1).2.2.2
  exact (show w.1 = q.2.1 from a _ w2) ▸ (show w.2 = q.2.2 from o _ w3) ▸ this
section
variable {f : Cf} (hO : ∀ x ∈ f.O,OEok E.w E.kt x.2)
include hO in
theorem entB_ok (id : String) (args : Args) : PO (SO E B f ⟨den (.builtin id args),.builtin id args,f.p,f.st⟩) (entB E f id args) := by
  refine PO.l ?_ fun x O' eO => PO.b (fun _ => ?_) fun _ => ?_
  · exact PO.so (SO.zero ⟨smL _,smL _,smL _,smL _,fun _ h => nomatch h⟩ rfl fun _ _ _ _ g => g)
  · exact PO.so (SO.zero ⟨smL _,smL _,smL _,smL _,eO ▸ smL _⟩ rfl fun _ _ _ _ g => g)
  have hx := hO x (eO ▸ .head _)
  have hO' : ∀ y ∈ O',y ∈ f.O := eO ▸ tlL _ _
  clear eO hO
  obtain ⟨pos,kw⟩ := args
  cases kw with
  | cons _ _ => exact PO.no
  | nil =>
  refine PO.o (fun ha => PO.l0 fun fr st' es => ?_) fun T' hT => PO.o0 fun y hy => PO.so ⟨?_,?_⟩
  · cases fr with
    | gen => exact PO.no
    | ret k hh gg ll c0 p0 kp =>
      refine PO.o0 fun y hy => PO.o0 fun oa' hs => PO.o0 fun z hz => PO.so ⟨?_,?_⟩
      · exact ⟨fun q hq => (setsOk_spec _ hs).1 q ((needAll_spec _ hy).1 q hq),(needAll_spec _ hy).2.1,smL _,tlL _ _,hO'⟩
      · intro s R o
        have hset : ∀ q ∈ x.2.sets pos,E.ro ≤ q.1 ∧ q.2.2.isFreed = false ∧ ∃ w,f.T.get q.1 = some w ∧ w.1 = q.2.1 := fun q hq =>
          let ⟨a1,a2,w,w1,w2⟩ := (setsOk_spec _ hs).2 q hq
          ⟨a1,a2,w,w1,o.a _ w2⟩
        have hsome : ∀ q ∈ x.2.sets pos,(s.heap.get? q.2.1).isSome = true := fun q hq => by
          refine xA2 (hset q hq) fun _ _ hxx => xE1 hxx fun w hxx => xA1 hxx fun w1 w2 => ?_; clear hxx; clear hxx
          rw [← w2,(R.heap.own _ _ w1).2.2.2]; rfl
        have rw' := R.whr
        have rn := R.hnd
        rw [es] at rw' rn
        refine ⟨x.2.after pos s,⟨pushT_heap (x.2.news pos) (setAll_heap (x.2.sets pos) R.heap hset) hz,R.gens,congrArg (· + x.2.d) R.toks,R.os,R.drawn,congrArg List.tail rw',rn.tail⟩,fun Q g => ?_⟩
        have hkt : KtAt E.kt s := fun a o ha e => by
          cases ec : chLook f.ch a with
          | none => exact R.heap.old ec (by rw [Nat.blt_eq]; exact ha) e
          | some vs => rw [(R.heap.tab a vs ec).2.2] at e; cases e
        rw [es]
        refine hx.1 ha s id pos f.p k hh gg ll c0 p0 kp st' hkt (congrArg Prod.fst (o.v _ (.head _))) (congrArg Prod.snd (o.v _ (.head _))) (need_ok R hy (fun q hq => o.a q ((setsOk_spec _ hs).1 q hq)) o.o) hsome Q ?_
        rw [R.heap.size,R.toks]; exact g
  · exact ⟨(needAll_spec _ hy).1,(needAll_spec _ hy).2.1,smL _,tlL _ _,hO'⟩
  · exact fun s R o => ⟨s,R.to rfl,fun Q g => hx.2 T' hT s id pos f.p f.st (congrArg Prod.fst (o.v _ (.head _))) (congrArg Prod.snd (o.v _ (.head _))) (need_ok R hy o.a o.o) Q g⟩
theorem entC_ok (hC : EnvOk E) (ex : PySem.Expr) (d : Nat) (it : Value) (acc : Value) (env : Env) : PO (SO E B f ⟨den (.compStart ex d it acc env),.compStart ex d it acc env,f.p,f.st⟩) (entC f ex d it acc env) := by
  cases it with
  | ref a =>
    refine PO.l0 fun i L' _ => PO.n PO.no fun i => PO.o0 fun y hy => PO.b (fun _ => PO.no) fun hs => PO.b (fun _ => PO.no) fun ha => ?_
    have h : ∀ t,den (.compLoop ex d (.ref a) acc env) = t → PO (SO E B f ⟨den (.compStart ex d (.ref a) acc env),.compStart ex d (.ref a) acc env,f.p,f.st⟩) (match t with
      | .at p1 k => some (((((f.wt (k ())).wc (.compLoop ex d (.ref a) acc env)).wp p1).wL L').wa ((y.1,a) :: f.oa))
      | _ => none) := by
      intro t e
      cases t with
      | «at» p1 k =>
        refine PO.so (SO.zero (Mn.oa rfl) rfl fun s R o Q g => ?_)
        refine hC.comp ex d a acc env s f.p f.st y.2 ((show y.1 = a from o.a1 rfl) ▸ (R.heap.own _ _ hy).2.2.2) hs ha Q fun p' => ?_
        rw [e]
        exact Good.back (PySem.step_at (Md E.w) s _ p' f.st p1 k) g
      | _ => exact PO.no
    exact h _ rfl
  | _ => exact PO.no
include hO in
theorem enter_ok (hC : EnvOk E) (c' : Code) : PO (SO E B f ⟨den c',c',f.p,f.st⟩) (enter E f c') := by
  have h : enter E f c' = some ((f.wt (den c')).wc c') → PO (SO E B f ⟨den c',c',f.p,f.st⟩) (enter E f c') := fun e => e ▸ PO.so (SO.zero (Mn.eq rfl) rfl fun _ _ _ _ g => g)
  cases c' with
  | builtin id args => exact entB_eq f id args ▸ entB_ok hO id args
  | compStart ex d it acc env => exact entC_eq f ex d it acc env ▸ entC_ok hC ex d it acc env
  | _ => exact h (by cases f; rfl)
end
noncomputable def giveB (f : Cf) (r : Result) : Option Cf := lsB f.st none fun fr st' => match fr with
  | .ret k _ _ _ c' p' _ => some (f.fr (k r) c' p' st')
  | .gen g k _ c' p' => lsB f.L none fun j L' => opB (nthG f.gl j) none fun y => some ((((f.fr (k (End.ret r).result) c' p' st').wg (setG f.gl j .finished)).wL L').wa ((y.1,g) :: f.oa))
theorem giveB_eq (f : Cf) (r : Result) : give f r = giveB f r := by cases f; kernel_rfl
theorem Rep.fr {f : Cf} {s : Shared} (R : Rep E B f s) (t : Sem Fin) (c : Code) (p : Pos) {fr : Frame} {st' : List Frame} (es : f.st = fr :: st') : Rep E B (f.fr t c p st') s := by
  have a := R.whr
  have b := R.hnd
  rw [es] at a b
  exact ⟨R.heap,R.gens,R.toks,R.os,R.drawn,congrArg List.tail a,b.tail⟩
theorem Rep.gg {f : Cf} {s : Shared} (R : Rep E B f s) {j g : Nat} {y : Nat × GenState} (hy : nthG f.gl j = some y) (e : y.1 = g) (x : GenState) : Rep E B (f.wg (setG f.gl j x)) (s.setGen g x) :=
  ⟨R.heap,e ▸ R.gens.set hy x,R.toks,R.os,R.drawn,R.whr,R.hnd⟩
theorem give_ok (f : Cf) (r : Result) : PO (SO E B f ⟨leafOf r,f.c,f.p,f.st⟩) (give f r) := by
  rw [giveB_eq]
  refine PO.l0 fun fr st' es => ?_
  cases fr with
  | ret k hh gg ll c' p' kp => exact PO.so (SO.go id (Mn.eq rfl) fun s R _ => ⟨R.fr _ _ _ es,es ▸ PySem.step_leaf_ret (Md E.w) s f.c f.p st' r k hh gg ll c' p' kp⟩)
  | gen g k ll c' p' =>
    exact PO.l0 fun j L' _ => PO.o0 fun y hy => PO.so (SO.go (fun s => s.setGen g .finished) (Mn.oa rfl) fun s R o => ⟨((R.fr (k (End.ret r).result) c' p' es).gg hy (o.a1 rfl) _).to rfl,es ▸ PySem.step_leaf_gen (Md E.w) s f.c f.p st' r g k ll c' p'⟩)
end
section
variable {E : En} {B : Bs}
section
variable (E) (f : Cf)
noncomputable def sAsk (k : Setting → Sem Fin) : Option Cf := lsB f.A (some (f.wt (k ⟨PySem.Challenge.pw_ik0207_01,E.w.params⟩))) fun x A' => naB x (some ((f.wt (k ⟨PySem.Challenge.pw_ik0207_01,E.w.params⟩)).wA A')) fun i =>
  naB i (some (((f.wt (k ⟨PySem.Challenge.pw_ik0207_01,rowIs codeSp false E.w.params⟩)).wA A').wot (k ⟨PySem.Challenge.pw_ik0207_01,rowIs codeSp true E.w.params⟩,k ⟨PySem.Challenge.pw_ik0207_01,rowIs codeSp false E.w.params⟩))) fun _ =>
  some ((f.wt (k ⟨PySem.Challenge.pw_ik0207_01,rowIs codeFs E.fs E.w.params⟩)).wA A')
noncomputable def sLoad {α : Type} (g : Obj → α) (a : Nat) (k : α → Sem Fin) : Option Cf := lsB f.L none fun i L' => naB i
  (opB (chLook f.ch a) (boB (Nat.blt a 268) none (opB (E.kt.get a) none fun o => some ((f.wt (k (g o))).wL L'))) fun vs => some ((f.wt (k (g (tableObj vs)))).wL L')) fun i =>
  opB (f.T.get i) none fun y => some (((f.wt (k (g y.2))).wL L').wa ((a,y.1) :: f.oa))
noncomputable def sAlloc (o : Obj) (k : Addr → Sem Fin) : Option Cf := boB o.isFreed (opB ((f.T.ins f.m f.sz o).get f.m) none fun _ => some ((f.wt (k f.sz)).wh (f.T.ins f.m f.sz o) (f.m + 1) (f.sz + 1))) none
noncomputable def sUpd (a : Nat) (u : Obj → Obj) (k : Unit → Sem Fin) : Option Cf := lsB f.L none fun i L' => naB i
  (opB (chLook f.ch a) none fun vs => opB (tabOf (u (tableObj vs))) none fun vs' => some (((f.wt (k ())).wL L').wch (chPut f.ch a vs'))) fun i =>
  boB (Nat.ble E.ro i) none <| opB (f.T.get i) none fun y => boB (u y.2).isFreed (some ((((f.wt (k ())).wh (f.T.set i u) f.m f.sz).wL L').wa ((a,y.1) :: f.oa))) none
noncomputable def sHan (own : Bool) (k : Option Value → Sem Fin) : Option Cf := boB own (lsB f.hd none fun h _ => some (f.wt (k h))) none
noncomputable def sStk (k : List (Code × Pos) → Sem Fin) : Option Cf := lsB f.L (some ((f.wt (k ((f.c,f.p) :: f.sw))).wL [])) fun i L' => boB (Nat.beq i 777777)
  (boB (Nat.beq i 888888) (some ((f.wt (k ((f.c,f.p) :: f.sw))).wL (i :: L'))) <| lsB L' none fun j L2 => opB (f.T.get j) none fun y =>
    some (((f.wt (swB f.c f.p f.sw (.ref y.1)).2).wL L2).wot (k ((f.c,f.p) :: f.sw),(swB f.c f.p f.sw (.ref y.1)).1))) <|
  lsB L' none fun j L2 => opB (f.T.get j) none fun y => opB (swA f.c f.p f.sw (.ref y.1)) none fun r => some ((((f.wt r.1.2).wL L2).wa (r.2 :: f.oa)).wot (k ((f.c,f.p) :: f.sw),r.1.1))
noncomputable def sCall (c' : Code) (h : Option Value) (g : Bool) (l : List Value) (k : Result → Sem Fin) : Option Cf := match h with
  | none => lsB f.hd none fun h0 _ => enter E (f.pu (.ret k none g l f.c f.p []) h0) c'
  | some x => match x with
    | .ref a => enter E (f.pu (.ret k (some (.ref a)) g l f.c f.p []) (some (.ref a))) c'
    | _ => none
noncomputable def sGs (g : Nat) (k : GenStatus × Option (List (Code × Pos)) → Sem Fin) : Option Cf := lsB f.L none fun j L' => opB (nthG f.gl j) none fun y => some (((f.wt (k y.2.seen)).wL L').wa ((y.1,g) :: f.oa))
noncomputable def sRes (g : Nat) (r : Resume) (l : List Value) (k : GenResult → Sem Fin) : Option Cf := lsB f.L none fun j L' => opB (nthG f.gl j) none fun y => match y.2 with
  | .fresh c₀ => match r with
    | .throw _ => none
    | .send v => match v with
      | .none => lsB f.hd none fun h0 _ => enter E ((((f.pu (.gen g k l f.c f.p) h0).wg (setG f.gl j .running)).wL L').wa ((y.1,g) :: f.oa)) c₀
      | _ => none
  | .suspended k₀ _ c₀ p₀ fs₀ _ => lsB fs₀ (lsB f.hd none fun h0 _ => some (((((((f.pu (.gen g k l f.c f.p) h0).wt (k₀ r)).wc c₀).wp p₀).wg (setG f.gl j .running)).wL L').wa ((y.1,g) :: f.oa))) fun _ _ => none
  | .running => none
  | .finished => none
noncomputable def sYld (v : Value) (gd : Bool) (l : List Value) (kk : Resume → Sem Fin) : Option Cf := boB gd (lsB f.st none fun fr st' => match fr with
  | .gen g k _ c' p' => lsB f.L none fun j L' => opB (nthG f.gl j) none fun y => some ((((f.fr (k (.yielded v)) c' p' st').wg (setG f.gl j (.suspended kk l f.c f.p [] false))).wL L').wa ((y.1,g) :: f.oa))
  | .ret .. => none) none
noncomputable def stpT (t : Sem Fin) : Option Cf := match t with
  | .pure fin => match fin with
    | .done fl => give f (.ok fl)
    | .again c' => boB (quickC c') none (enter E f c')
  | .raise x => give f (.error x)
  | .rule _ k => some (f.wt (k ()))
  | .at p' k => some ((f.wt (k ())).wp p')
  | .point _ k => some (f.wt (k ()))
  | .ask k => sAsk E f k
  | .load a _ k => sLoad E f id a k
  | .loadIfAlive a k => sLoad E f some a k
  | .alloc o k => sAlloc f o k
  | .update a _ u k => sUpd E f a u k
  | .fresh k => some ((f.wt (k f.tk)).wk (f.tk + 1))
  | .handled own k => sHan f own k
  | .stack k => sStk f k
  | .call c' h g l k => sCall E f c' h g l k
  | .newGen c' k => some (((f.wt (k f.gz)).wg (f.gl ++ [(f.gz,.fresh c')])).wgz)
  | .genState g k => sGs f g k
  | .resume g r l k => sRes E f g r l k
  | .yield v gd l kk => sYld f v gd l kk
  | .unsupported _ => none
  | .finish _ => none
  | .register .. => none
  | .choose .. => none
  | .os .. => none
  | .fork .. => none
  | .thread _ => none
  | .await .. => none
end
theorem stp_eq (f : Cf) : stp E f = stpT E f f.t := by
  obtain ⟨t,_⟩ := f
  cases t <;> kernel_rfl
section
variable {f : Cf} (hO : ∀ x ∈ f.O,OEok E.w E.kt x.2) (hC : EnvOk E)
include hC in
theorem sAsk_ok (k : Setting → Sem Fin) : PO (SO E B f ⟨.ask k,f.c,f.p,f.st⟩) (sAsk E f k) := by
  have st := fun s => PySem.step_ask (Md E.w) s f.c f.p f.st k
  refine PO.l (PO.so (SO.same (Mn.eq rfl) rfl fun s _ _ => st s)) fun x A' _ => PO.n (PO.so (SO.same (Mn.eq rfl) rfl fun s _ _ => st s)) fun i => PO.n (PO.so ?_) fun _ => PO.so ?_
  · refine SO.same ⟨smL _,smL _,tlL _ _,smL _,smL _⟩ rfl fun s R o => ?_
    have he : k ⟨PySem.Challenge.pw_ik0207_01,rowIs codeSp true E.w.params⟩ = k ⟨PySem.Challenge.pw_ik0207_01,rowIs codeSp false E.w.params⟩ := o.t1 rfl
    have hP := rowIs_self rowSp E.w.params
    rw [codeSp_is] at hP
    have key : k ⟨PySem.Challenge.pw_ik0207_01,E.w.params⟩ = k ⟨PySem.Challenge.pw_ik0207_01,rowIs codeSp false E.w.params⟩ := by
      cases hb : E.w.params.followText rowSp with
      | false => rw [hb] at hP; exact congrArg (fun P => k ⟨PySem.Challenge.pw_ik0207_01,P⟩) hP.symm
      | true => rw [hb] at hP; exact (congrArg (fun P => k ⟨PySem.Challenge.pw_ik0207_01,P⟩) hP.symm).trans he
    exact key ▸ st s
  · refine SO.same (Mn.eq rfl) rfl fun s R o => ?_
    have hP := rowIs_self rowFs E.w.params
    rw [hC.fs] at hP
    exact (congrArg (fun P => k ⟨PySem.Challenge.pw_ik0207_01,P⟩) hP.symm : k ⟨PySem.Challenge.pw_ik0207_01,E.w.params⟩ = k ⟨PySem.Challenge.pw_ik0207_01,rowIs codeFs E.fs E.w.params⟩) ▸ st s
theorem sLoad_ok {α : Type} (g : Obj → α) (a : Nat) (k : α → Sem Fin) {t : Sem Fin} (st : ∀ s {o},s.heap.get? a = some o → (Md E.w).step s ⟨t,f.c,f.p,f.st⟩ = .go s ⟨k (g o),f.c,f.p,f.st⟩) : PO (SO E B f ⟨t,f.c,f.p,f.st⟩) (sLoad E f g a k) := by
  refine PO.l0 fun i L' _ => PO.n (PO.o (fun hv => PO.b (fun _ => PO.no) fun hb => PO.o0 fun o hk => ?_) fun vs hv => ?_) fun i => PO.o0 fun y hy => ?_
  · exact PO.so (SO.same (Mn.eq rfl) rfl fun s R _ => st s (R.heap.old hv hb hk))
  · exact PO.so (SO.same (Mn.eq rfl) rfl fun s R _ => st s (R.heap.tab a vs hv).2.1)
  · exact PO.so (SO.same (Mn.oa rfl) rfl fun s R o => st s ((show a = y.1 from o.a1 rfl) ▸ (R.heap.own _ _ hy).2.2.2))
theorem sAlloc_ok (o : Obj) (k : Addr → Sem Fin) : PO (SO E B f ⟨.alloc o k,f.c,f.p,f.st⟩) (sAlloc f o k) := by
  refine PO.b (fun hf => PO.o0 fun y hg => PO.so (SO.go (fun s => { s with heap := s.heap.push o }) (Mn.eq rfl) fun s R _ => ⟨⟨R.heap.alloc hf (by rw [hg]; rfl),R.gens,R.toks,R.os,R.drawn,R.whr,R.hnd⟩,?_⟩)) fun _ => PO.no
  exact R.heap.size ▸ PySem.step_alloc (Md E.w) s f.c f.p f.st o k
theorem sUpd_ok (a : Nat) (q : Option Value) (u : Obj → Obj) (k : Unit → Sem Fin) : PO (SO E B f ⟨.update a q u k,f.c,f.p,f.st⟩) (sUpd E f a u k) := by
  have st := fun s h => PySem.step_update (Md E.w) s f.c f.p f.st (a := a) q u k h
  refine PO.l0 fun i L' _ => PO.n (PO.o0 fun vs hv => PO.o0 fun vs' hn => PO.so ?_) fun i => PO.b (fun _ => PO.no) fun hr => PO.o0 fun y hy => PO.b (fun hf => PO.so ?_) fun _ => PO.no
  · exact SO.go (fun s => { s with heap := s.heap.update a u }) (Mn.eq rfl) fun s R _ => ⟨⟨R.heap.table hv (tabOf_eq hn),R.gens,R.toks,R.os,R.drawn,R.whr,R.hnd⟩,st s (by rw [(R.heap.tab a vs hv).2.1]; rfl)⟩
  · refine SO.go (fun s => { s with heap := s.heap.update a u }) (Mn.oa rfl) fun s R o => ?_
    have ea : y.1 = a := ((show a = y.1 from o.a1 rfl)).symm
    exact ⟨⟨ea ▸ R.heap.update (Nat.le_of_ble_eq_true hr) hy hf,R.gens,R.toks,R.os,R.drawn,R.whr,R.hnd⟩,st s (by rw [← ea,(R.heap.own _ _ hy).2.2.2]; rfl)⟩
theorem sHan_ok (own : Bool) (k : Option Value → Sem Fin) : PO (SO E B f ⟨.handled own k,f.c,f.p,f.st⟩) (sHan f own k) := by
  cases own with
  | true => exact PO.no
  | false =>
    refine PO.l0 fun h l e => PO.so (SO.same (Mn.eq rfl) rfl fun s R _ => ?_)
    have hn := R.hnd
    rw [e] at hn
    exact (show topHandled f.st = h from hn.1) ▸ PySem.step_handled (Md E.w) s f.c f.p f.st false k
theorem sStk_ok (k : List (Code × Pos) → Sem Fin) : PO (SO E B f ⟨.stack k,f.c,f.p,f.st⟩) (sStk f k) := by
  have st : ∀ s,Rep E B f s → (Md E.w).step s ⟨.stack k,f.c,f.p,f.st⟩ = .go s ⟨k ((f.c,f.p) :: f.sw),f.c,f.p,f.st⟩ := fun s R => R.whr ▸ PySem.step_stack (Md E.w) s f.c f.p f.st k
  refine PO.l (PO.so (SO.same (Mn.eq rfl) rfl fun s R _ => st s R)) fun i L' _ => PO.b (fun _ => PO.b (fun _ => PO.so (SO.same (Mn.eq rfl) rfl fun s R _ => st s R)) fun _ => PO.l0 fun j L2 _ => PO.o0 fun y _ => PO.so ?_) fun _ => PO.l0 fun j L2 _ => PO.o0 fun y _ => PO.o0 fun r hr => PO.so ?_
  · refine SO.same ⟨smL _,smL _,tlL _ _,smL _,smL _⟩ rfl fun s R o => ?_
    have e1 : k ((f.c,f.p) :: f.sw) = (swB f.c f.p f.sw (.ref y.1)).1 := o.t1 rfl
    rw [st s R,e1,swB_ok]; rfl
  · refine SO.same ⟨tlL _ _,smL _,tlL _ _,smL _,smL _⟩ rfl fun s R o => ?_
    have e1 : k ((f.c,f.p) :: f.sw) = r.1.1 := o.t1 rfl
    rw [st s R,e1,swA_ok hr (o.a1 rfl)]; rfl
theorem SO.via {g : Cf} {th th' : Thread} {o : Option Cf} (m : Mn f g) (h : PO (SO E B g th') o) (u : Shared → Shared) (k : ∀ s,Rep E B f s → Obl g → Rep E B g (u s) ∧ (Md E.w).step s th = .go (u s) th') : PO (SO E B f th) o := fun x ex =>
  ⟨m.trans (h x ex).m,fun s R ob =>
    let ⟨R1,e⟩ := k s R (ob.mono (h x ex).m)
    let ⟨s',R',G⟩ := (h x ex).g _ R1 ob
    ⟨s',R',fun Q gg => Good.back e (G Q gg)⟩⟩
theorem Rep.pu {s : Shared} (R : Rep E B f s) {x : Frame} {h : Option Value} (e : x.where_ = (f.c,f.p)) (hh : HOk (x :: f.st) (h :: f.hd)) : Rep E B (f.pu x h) s :=
  ⟨R.heap,R.gens,R.toks,R.os,R.drawn,by show x.where_ :: _ = _; rw [e,R.whr]; rfl,hh⟩
include hO hC in
theorem sCall_ok (c' : Code) (h : Option Value) (g : Bool) (l : List Value) (k : Result → Sem Fin) : PO (SO E B f ⟨.call c' h g l k,f.c,f.p,f.st⟩) (sCall E f c' h g l k) := by
  have fin : ∀ h0,(∀ s,Rep E B f s → HOk (.ret k h g l f.c f.p [] :: f.st) (h0 :: f.hd)) → PO (SO E B f ⟨.call c' h g l k,f.c,f.p,f.st⟩) (enter E (f.pu (.ret k h g l f.c f.p []) h0) c') := fun h0 hn =>
    SO.via (g := f.pu (.ret k h g l f.c f.p []) h0) (Mn.eq rfl) (enter_ok (f := f.pu (.ret k h g l f.c f.p []) h0) hO hC c') id fun s R _ => ⟨R.pu rfl (hn s R),md_den E.w c' ▸ PySem.step_call (Md E.w) s f.c f.p f.st c' h g l k⟩
  cases h with
  | none =>
    refine PO.l0 fun h0 hs e => fin h0 fun s R => ?_
    have hn := R.hnd
    rw [e] at hn ⊢
    exact hn.pushN ..
  | some v =>
    cases v with
    | ref a => exact fin _ fun s R => ⟨rfl,R.hnd⟩
    | _ => exact PO.no
theorem sGs_ok (g : Nat) (k : GenStatus × Option (List (Code × Pos)) → Sem Fin) : PO (SO E B f ⟨.genState g k,f.c,f.p,f.st⟩) (sGs f g k) :=
  PO.l0 fun _ _ _ => PO.o0 fun y hy => PO.so (SO.same (Mn.oa rfl) rfl fun s R o => PySem.step_genState (Md E.w) s f.c f.p f.st k ((show y.1 = g from o.a1 rfl) ▸ R.gens.own _ _ hy))
include hO hC in
theorem sRes_ok (g : Nat) (r : Resume) (l : List Value) (k : GenResult → Sem Fin) : PO (SO E B f ⟨.resume g r l k,f.c,f.p,f.st⟩) (sRes E f g r l k) := by
  refine PO.l0 fun j L' _ => PO.o0 fun y hy => ?_
  have hn : ∀ {h0 hs},f.hd = h0 :: hs → ∀ s,Rep E B f s → y.1 = g → Rep E B ((f.pu (.gen g k l f.c f.p) h0).wg (setG f.gl j .running)) (s.setGen g .running) := fun e s R eg => by
    refine (R.pu rfl ?_).gg hy eg _
    have hn := R.hnd
    rw [e] at hn ⊢
    exact hn.pushG ..
  obtain ⟨y1,y2⟩ := y
  cases y2 with
  | fresh c₀ =>
    cases r with
    | throw => exact PO.no
    | send v =>
      cases v with
      | none =>
        refine PO.l0 fun h0 hs e => SO.via (g := (((f.pu (.gen g k l f.c f.p) h0).wg (setG f.gl j .running)).wL L').wa ((y1,g) :: f.oa)) (Mn.oa rfl) (enter_ok (f := (((f.pu (.gen g k l f.c f.p) h0).wg (setG f.gl j .running)).wL L').wa ((y1,g) :: f.oa)) hO hC c₀) (fun s => s.setGen g .running) fun s R o => ⟨(hn e s R (o.a1 rfl)).to rfl,?_⟩
        exact md_den E.w c₀ ▸ PySem.step_resume_fresh (Md E.w) s f.c f.p f.st l k ((show y1 = g from o.a1 rfl) ▸ R.gens.own _ _ hy)
      | _ => exact PO.no
  | suspended k₀ l₀ c₀ p₀ fs₀ cl =>
    cases fs₀ with
    | cons => exact PO.no
    | nil => exact PO.l0 fun h0 hs e => PO.so (SO.go (fun s => s.setGen g .running) (Mn.oa rfl) fun s R o => ⟨(hn e s R (o.a1 rfl)).to rfl,PySem.step_resume_suspended (Md E.w) s f.c f.p f.st r l k ((show y1 = g from o.a1 rfl) ▸ R.gens.own _ _ hy)⟩)
  | _ => exact PO.no
theorem sYld_ok (v : Value) (gd : Bool) (l : List Value) (kk : Resume → Sem Fin) : PO (SO E B f ⟨.yield v gd l kk,f.c,f.p,f.st⟩) (sYld f v gd l kk) := by
  cases gd with
  | true => exact PO.no
  | false =>
    refine PO.l0 fun fr st' es => ?_
    cases fr with
    | ret => exact PO.no
    | gen g k l' c' p' =>
      exact PO.l0 fun j L' _ => PO.o0 fun y hy => PO.so (SO.go (fun s => s.setGen g (.suspended kk l f.c f.p [] false)) (Mn.oa rfl) fun s R o => ⟨((R.fr (k (.yielded v)) c' p' es).gg hy (o.a1 rfl) _).to rfl,es ▸ PySem.step_yield (Md E.w) s f.c f.p (.gen g k l' c' p' :: st') v false l kk rfl rfl⟩)
include hO hC in
theorem stp_ok : PO (SO E B f f.th) (stp E f) := by
  rw [stp_eq]
  have h : ∀ t,PO (SO E B f ⟨t,f.c,f.p,f.st⟩) (stpT E f t) := fun t => by
    cases t with
    | pure fin =>
      cases fin with
      | done fl => exact give_ok f (.ok fl)
      | again c' => exact PO.b (fun _ => PO.no) fun hq => SO.via (Mn.eq rfl) (enter_ok hO hC c') id fun s R _ => ⟨R,md_den E.w c' ▸ PySem.step_again (Md E.w) s f.c f.p f.st c' (quickC_ok hq)⟩
    | raise x => exact give_ok f (.error x)
    | rule tag k => exact PO.so (SO.same (Mn.eq rfl) rfl fun s _ _ => PySem.step_rule (Md E.w) s f.c f.p f.st tag k)
    | «at» q k => exact PO.so (SO.same (Mn.eq rfl) rfl fun s _ _ => PySem.step_at (Md E.w) s f.c f.p f.st q k)
    | point l k => exact PO.so (SO.same (Mn.eq rfl) rfl fun s _ _ => PySem.step_point (Md E.w) s f.c f.p f.st l k)
    | fresh k => exact PO.so (SO.go (fun s => { s with toks := s.toks + 1 }) (Mn.eq rfl) fun s R _ => ⟨⟨R.heap,R.gens,congrArg (· + 1) R.toks,R.os,R.drawn,R.whr,R.hnd⟩,R.toks ▸ PySem.step_fresh (Md E.w) s f.c f.p f.st k⟩)
    | newGen c' k => exact PO.so (SO.go (fun s => { s with gens := s.gens.push (.fresh c') }) (Mn.eq rfl) fun s R _ => ⟨⟨R.heap,R.gens.push c',R.toks,R.os,R.drawn,R.whr,R.hnd⟩,R.gens.size ▸ PySem.step_newGen (Md E.w) s f.c f.p f.st c' k⟩)
    | stack k => exact sStk_ok k
    | ask k => exact sAsk_ok hC k
    | handled own k => exact sHan_ok own k
    | load a q k => exact sLoad_ok id a k fun s _ e => PySem.step_load (Md E.w) s f.c f.p f.st q k e
    | loadIfAlive a k => exact sLoad_ok some a k fun s _ e => e ▸ PySem.step_loadIfAlive (Md E.w) s f.c f.p f.st a k
    | alloc o k => exact sAlloc_ok o k
    | update a q u k => exact sUpd_ok a q u k
    | call c' hh g l k => exact sCall_ok hO hC c' hh g l k
    | genState g k => exact sGs_ok g k
    | resume g r l k => exact sRes_ok hO hC g r l k
    | yield v gd l kk => exact sYld_ok v gd l kk
    | _ => exact PO.no
  exact h f.t
end
theorem run_ok (hC : EnvOk E) : ∀ (n : Nat) {f : Cf},(∀ x ∈ f.O,OEok E.w E.kt x.2) → PO (SO E B f f.th) (run E n f)
  | 0,f,_ => PO.so ⟨Mn.eq rfl,fun s R _ => ⟨s,R,fun _ g => g⟩⟩
  | n + 1,f,hO => by
    intro x h
    have h' : (match stp E f with | some f' => run E n f' | none => none) = some x := h
    have ok := stp_ok (B := B) hO hC
    cases hs : stp E f with
    | none => rw [hs] at h'; cases h'
    | some g =>
      rw [hs] at h'
      have a := ok g hs
      have b := run_ok hC n (f := g) (fun y q => hO y (a.m.O y q)) x h'
      refine ⟨a.m.trans b.m,fun s R o => ?_⟩
      obtain ⟨s1,R1,g1⟩ := a.g s R (o.mono b.m)
      obtain ⟨s2,R2,g2⟩ := b.g s1 R1 o
      exact ⟨s2,R2,fun Q gg => g1 Q (g2 Q gg)⟩
theorem run_mn (hC : EnvOk E) (n : Nat) {f f' : Cf} (h : run E n f = some f') (hO : ∀ x ∈ f.O,OEok E.w E.kt x.2) : Mn f f' := (run_ok (B := ⟨{},fun _ => False,{},fun _ => none⟩) hC n hO f' h).m
theorem run_sound (hC : EnvOk E) (n : Nat) {f f' : Cf} (h : run E n f = some f') (ho : Obl f') (hO : ∀ x ∈ f.O,OEok E.w E.kt x.2) {s : Shared} (R : Rep E B f s) :
    ∃ s',Rep E B f' s' ∧ ∀ Q,Good E.w Q s' f'.th → Good E.w Q s f.th := (run_ok hC n hO f' h).g s R ho
end
abbrev rr : OpenRow := PySem.Challenge.rw_ik0207_01.row
noncomputable def callT (vs : List Value) : Thread := ⟨do match ← nsGet mainNs rr.name with
      | some f => do ret (← PySem.call f vs)
      | none => unsupported "claim.caller:no-such-global",.builtin "claim.caller" {},default,[]⟩
noncomputable def CallM {α : Type} (Yf : Shared → α) (Ya : World → α) : Prop :=
  ∀ (w : World) (s₀ : Shared),Yf s₀ = Ya w → s₀.gens = #[] → ∀ (ns : List Int) (vs : List Value) (tk : Nat),ns.length ≤ 2 ^ 20 → vs.map strip0 = ns.map V0.i → s₀.toks ≤ tk →
    Good w (fun r s' => r = .ok (.ret (.bool true)) ∧ OldK (s₀.heap.push { cls := .type "list",data := .seq vs.toArray }) s'.heap ∧ s'.os = s₀.os ∧ AllBare s'.gens ∧ leftWithCleanup s'.gens = false)
      { s₀ with heap := s₀.heap.push { cls := .type "list",data := .seq vs.toArray },toks := tk } (callT [.ref s₀.heap.objs.size])
theorem lay_ints_all {R : WRecords} {cl : Str → Option Addr} {P : Params} {ord : List DictEntry → List DictEntry} : ∀ (ns : List Int) (s : Shared) (r : List Value × Shared),layAllW R cl P ord (ofPys (ns.map PyData.int)) s = some r →
    r.1.map strip0 = ns.map V0.i ∧ r.2 = { s with toks := s.toks + ns.length }
  | [],s,r,e => by
    have : layAllW R cl P ord (ofPys (List.map PyData.int [])) s = some ([],s) := by simp [ofPys,layAllW]
    rw [this] at e
    cases e; exact ⟨rfl,rfl⟩
  | n :: ns,s,r,e => by
    simp only [List.map_cons,ofPys,ofPy,layAllW,layW] at e
    cases q : layAllW R cl P ord (ofPys (List.map PyData.int ns)) { s with toks := s.toks + 1 } with
    | none => rw [q] at e; cases e
    | some r' =>
      rw [q] at e
      cases e
      have z := lay_ints_all ns { s with toks := s.toks + 1 } r' q
      refine ⟨by simp only [List.map_cons,z.1]; rfl,?_⟩
      rw [z.2]
      simp only [List.length_cons]
      congr 1
      lia
theorem lay_script {R : WRecords} {cl : Str → Option Addr} {P : Params} {ord : List DictEntry → List DictEntry} {ns : List Int} {s s₁ : Shared} {vs : List Value}
    (e : layAllW R cl P ord [ofPy (PyData.list (ns.map PyData.int))] s = some (vs,s₁)) :
    ∃ xs : List Value,xs.map strip0 = ns.map V0.i ∧ vs = [.ref s.heap.objs.size] ∧ s₁ = { s with heap := s.heap.push { cls := .type "list",data := .seq xs.toArray },toks := s.toks + ns.length } := by
  simp only [ofPy,layAllW,layW] at e
  cases q : layAllW R cl P ord (ofPys (List.map PyData.int ns)) s with
  | none => rw [q] at e; cases e
  | some r =>
    rw [q] at e
    obtain ⟨h1,h2⟩ := lay_ints_all ns s r q
    simp only [Option.some.injEq,Prod.mk.injEq] at e
    obtain ⟨e1,e2⟩ := e
    refine ⟨r.1,h1,?_,?_⟩
    · rw [← e1,h2]
    · rw [← e2,h2]
theorem PySem.W.holds_open {q : Program} {loose : List Str} {Xt : Shared → Bool} {XP : (Str → Option Value) → Heap → Prop} {α : Type} {Yf : Shared → α} {Ya : World → α} {YP : World → Heap → Prop} {d : DefRec} {kwd : List (Str × PySem.Expr)} {N : Nat}
    (left : LeftO rr.prog q loose Xt Yf Ya N) (_hY : ∀ w s,Yf s = Ya w → YP w s.heap) (_hYk : ∀ w h h',YP w h → (∀ b o,h.get? b = some o → h'.get? b = some o) → YP w h')
    (hX : ∀ s,Xt s = true → XP (s.heap.nsMap mainGlobals) s.heap) (_hXk : ∀ mg h h',XP mg h → (∀ b o,h.get? b = some o → h'.get? b = some o) → XP mg h')
    (hdef : defOf q rr.name = some (d,kwd)) (hp : rr.prog.theDef rr.name = some (d.params,d.body,d.scope)) (hk : kwWritten? d.params.kwonlyargs d.params.kw_defaults = some kwd) (_hRf : ∀ s,Xt s = true → RecFacts rr.records s.heap) (_hwr : (!rr.writes || rr.records.isEmpty) = true)
    (k1 : rr.wellSaid = true) (ok : (chainsOk q && opensWell rr.prog && (frees rr.toRowW && rr.within.isEmpty)) = true) (hb : rr.prog.bare) (hw : rr.toRowW.promised)
    (call : CallM Yf Ya) : rr.Holds := by
  obtain ⟨ok,k5⟩ := Bool.and_eq_true_iff.mp ok
  obtain ⟨hch,o1⟩ := Bool.and_eq_true_iff.mp ok
  obtain ⟨k5,k6⟩ := Bool.and_eq_true_iff.mp k5
  refine xA4 (frees_parts k5) fun hsame hu ha hap hm => ?_
  refine ⟨k1,hw,⟨hb,o1,rfl⟩,hw.witness,fun w => ⟨(left.behind hX hch w).1,fun s' hs' => ?_⟩⟩
  refine xE1 ((left.behind hX hch w).2 s' hs') fun s₀ hxx => xA2 hxx fun hf hg0 hxx => xE1 hxx fun s hxx => xA5 hxx fun hT hz hgens hg G00 y => ?_; clear hxx; clear hxx; clear hxx
  have hgens : s.gens = #[] := Array.eq_empty_of_size_eq_zero (beq_iff_eq.mp hgens)
  refine ⟨s₀,hf,hg0,s,hT,fun n hn => ?_,fun x hx => (nomatch hx),fun x hx => (nomatch hx),?_⟩
  · obtain rfl : n = rr.name := by split at hn <;> simp_all
    exact pinned_of_view hg G00 hdef hp hk
  intro args hpre hlay ord hord
  refine gv fun GG hGG => ?_
  have G : Ground q loose rr.records XP w s (s.heap.nsMap mainGlobals) (s.heap.nsMap builtinsNs) s.heap := G00
  obtain ⟨⟨vs,s₁⟩,hlaid⟩ := Option.isSome_iff_exists.mp (layAllW_isSome (P := w.params) (ord := ord) G.has args rr.args s (pre_splitW hpre).1)
  have keeps := layAllW_keeps _ _ _ hlaid
  have hal := layAllW_rest _ _ _ hlaid
  refine xE1 (reads_layAllW hord _ _ _ hlaid hlay s₁.heap (fun _ _ e => e)) fun as hxx => xA2 hxx fun hrd hin hold => ?_; clear hxx
  have L : Laid rr.records w s s₁ args vs as := ⟨⟨ord,hord,hlaid⟩,hrd,hin,hold,keeps,hal.1.trans hgens,hal.2.2.1⟩
  have hi := ident_freeW hu ha hap
  have hwi : rr.claim.within = [] := List.isEmpty_iff.mp k6
  have hlo := L.low G.low
  have hrd := L.reads
  have hwl := L.well
  have hlaid0 := hlaid
  have hpre0 := hpre
  wrow_args hpre hlay hrd hwl hlo
  refine xE1 (lay_script hlaid0) fun xs hxx => xA2 hxx fun hx hv hs1 => ?_; clear hxx
  rename List Int => ns
  have hlen : ¬ ((63 : Int) < ns.length) := by assumption
  have hlen : ns.length ≤ 63 := by lia
  subst hs1
  refine xE3 (call w s y hgens ns xs (s.toks + ns.length) (by lia) hx (Nat.le_add_right ..)) fun n r s2 hxx => xA5 hxx fun hn hr hold2 hos2 hb2 hl2 => ?_; clear hxx
  subst hr
  have hz1 : (⟨s.heap.push { cls := .type "list",data := .seq xs.toArray },s.gens,s.drawn,s.toks + ns.length,s.os⟩ : Shared).asleep := Shared.asleep_of_life hal.2.2.2 hz
  refine xE1 (runNI_full (denote table) rr.prog w hn rfl hz1) fun s'' hxx => xA2 hxx fun hsch hrun hfo => ?_; clear hxx
  refine xA4 (Shared.forget_eq hfo) fun eh _ _ eo eg => ?_
  have g2 : GoodWG rr.claim (classAt s.heap) (ExcName.means s.heap) [ofPy (PyData.list (ns.map PyData.int))] ⟨s.heap.push { cls := .type "list",data := .seq xs.toArray },s.gens,s.drawn,s.toks + ns.length,s.os⟩ (.ok (.ret (.bool true))) s2 := by
    refine ⟨.inl ⟨.bool true,.bool true,[],rfl,fun cls => rfl,.bool true,?_,fun _ => ⟨List.nodup_nil,fun a ha => (nomatch ha)⟩⟩,hold2,hos2,hb2⟩
    exact postW_of (r := rr.toRowW) (X := true) rfl (by exact w_eq_bool (k := true) (l := true) (w_res (by rfl)) w_lit) rfl
  have z := g2.laid (c := rr.claim) hsame hwi hi L
  have hcase := z.1.congr eh
  have hlife : s''.heap.life = s.heap.life := (runN_life _ _ _ hrun).trans hal.2.2.2
  injection hv with hv
  refine hGG ⟨_,_,hlaid0,n,_,s'',(by rw [hv]; exact hsch),?_,(fun _ i x hx => by rw [hgens] at hx; simp at hx),(fun q => nomatch q),by rw [hlife],Shared.rest_eq (eo.trans z.2.1)⟩
  rcases hcase with ⟨v,hr,d1,d2,d3,d4,d5⟩ | ⟨e,ob,cls,hr,d1,d2,d3,d4,d5⟩
  · cases hr
    exact .inl ⟨_,rfl,d1,d2,d3,fun b o y _ => d4 b o y,d5⟩
  · cases hr
noncomputable abbrev pwF : Program := PySem.Challenge.pw_ik0207_01
noncomputable def nthS : List Stmt → Nat → Stmt
  | [],_ => .Pass ⟨0,0,0,0⟩
  | s :: l,i => match i with
    | 0 => s
    | i + 1 => nthS l i
noncomputable def defAt (l : List Stmt) (i : Nat) : Stmt := nthS l i
noncomputable def clsAt (l : List Stmt) (i : Nat) : List Stmt := match nthS l i with
  | .ClassDef _ _ _ b _ _ _ _ _ _ _ => b
  | _ => []
noncomputable def fnO (st : Stmt) (nm qn : Str) (dv kv doc pm code ct : Value) (g b : Nat) (an : Option Nat) : FuncData := match st with
  | .FunctionDef _ args body _ _ _ scope _ _ _ => { name := nm,qualname := qn,params := args,body := .stmts body,scope := scope,globals := g,closure := [],defaults := dv,kwdefaults := kv,doc := doc,pyModule := pm,annotations := an,code := code,closureTuple := ct,builtins := b }
  | _ => default
noncomputable def o0 (P : Params) : Obj := ⟨.type PySem.W.SL.s14018661285674007319x4,none,(.dict ⟨[⟨PyData.keyHash P ⟨⟨[95,95,110,97,109,101,95,95]⟩⟩,.str ⟨⟨[95,95,110,97,109,101,95,95]⟩⟩ 1,.str ⟨⟨[98,117,105,108,116,105,110,115]⟩⟩ 160⟩,⟨PyData.keyHash P ⟨⟨[95,95,100,111,99,95,95]⟩⟩,.str ⟨⟨[95,95,100,111,99,95,95]⟩⟩ 2,.builtin "builtins.__doc__:str#opaque"⟩,⟨PyData.keyHash P ⟨⟨[95,95,112,97,99,107,97,103,101,95,95]⟩⟩,.str ⟨⟨[95,95,112,97,99,107,97,103,101,95,95]⟩⟩ 3,.builtin "builtins.__package__:str#opaque"⟩,⟨PyData.keyHash P ⟨⟨[95,95,108,111,97,100,101,114,95,95]⟩⟩,.str ⟨⟨[95,95,108,111,97,100,101,114,95,95]⟩⟩ 4,.builtin "builtins.__loader__:shared#opaque"⟩,⟨PyData.keyHash P ⟨⟨[95,95,115,112,101,99,95,95]⟩⟩,.str ⟨⟨[95,95,115,112,101,99,95,95]⟩⟩ 5,.builtin PySem.W.SL.s11665532747177232413x24⟩,⟨PyData.keyHash P ⟨⟨[95,95,98,117,105,108,100,95,99,108,97,115,115,95,95]⟩⟩,.str ⟨⟨[95,95,98,117,105,108,100,95,99,108,97,115,115,95,95]⟩⟩ 6,.builtin PySem.W.SL.s15183661809925369436x15⟩,⟨PyData.keyHash P ⟨⟨[95,95,105,109,112,111,114,116,95,95]⟩⟩,.str ⟨⟨[95,95,105,109,112,111,114,116,95,95]⟩⟩ 7,.builtin PySem.W.SL.s13915890719876406383x10⟩,⟨PyData.keyHash P ⟨⟨[97,98,115]⟩⟩,.str ⟨⟨[97,98,115]⟩⟩ 8,.builtin PySem.W.SL.s13459172003223722735x3⟩,⟨PyData.keyHash P ⟨⟨[97,108,108]⟩⟩,.str ⟨⟨[97,108,108]⟩⟩ 9,.builtin PySem.W.SL.s10557405761357834076x3⟩,⟨PyData.keyHash P ⟨⟨[97,110,121]⟩⟩,.str ⟨⟨[97,110,121]⟩⟩ 10,.builtin PySem.W.SL.s4233737765568776869x3⟩,⟨PyData.keyHash P ⟨⟨[97,115,99,105,105]⟩⟩,.str ⟨⟨[97,115,99,105,105]⟩⟩ 11,.builtin PySem.W.SL.s2508922471967985374x5⟩,⟨PyData.keyHash P ⟨⟨[98,105,110]⟩⟩,.str ⟨⟨[98,105,110]⟩⟩ 12,.builtin PySem.W.SL.s15574269061696679450x3⟩,⟨PyData.keyHash P ⟨⟨[98,114,101,97,107,112,111,105,110,116]⟩⟩,.str ⟨⟨[98,114,101,97,107,112,111,105,110,116]⟩⟩ 13,.builtin PySem.W.SL.s6016482663378992977x10⟩,⟨PyData.keyHash P ⟨⟨[99,97,108,108,97,98,108,101]⟩⟩,.str ⟨⟨[99,97,108,108,97,98,108,101]⟩⟩ 14,.builtin PySem.W.SL.s5596568736180474577x8⟩,⟨PyData.keyHash P ⟨⟨[99,104,114]⟩⟩,.str ⟨⟨[99,104,114]⟩⟩ 15,.builtin PySem.W.SL.s2839554839881490554x3⟩,⟨PyData.keyHash P ⟨⟨[99,111,109,112,105,108,101]⟩⟩,.str ⟨⟨[99,111,109,112,105,108,101]⟩⟩ 16,.builtin PySem.W.SL.s725004073602090463x7⟩,⟨PyData.keyHash P ⟨⟨[100,101,108,97,116,116,114]⟩⟩,.str ⟨⟨[100,101,108,97,116,116,114]⟩⟩ 17,.builtin PySem.W.SL.s9436932552931045734x7⟩,⟨PyData.keyHash P ⟨⟨[100,105,114]⟩⟩,.str ⟨⟨[100,105,114]⟩⟩ 18,.builtin PySem.W.SL.s2754603736356183583x3⟩,⟨PyData.keyHash P ⟨⟨[100,105,118,109,111,100]⟩⟩,.str ⟨⟨[100,105,118,109,111,100]⟩⟩ 19,.builtin PySem.W.SL.s15185746759980889043x6⟩,⟨PyData.keyHash P ⟨⟨[101,118,97,108]⟩⟩,.str ⟨⟨[101,118,97,108]⟩⟩ 20,.builtin PySem.W.SL.s8192189862530294059x4⟩,⟨PyData.keyHash P ⟨⟨[101,120,101,99]⟩⟩,.str ⟨⟨[101,120,101,99]⟩⟩ 21,.builtin PySem.W.SL.s7038307821325472102x4⟩,⟨PyData.keyHash P ⟨⟨[102,111,114,109,97,116]⟩⟩,.str ⟨⟨[102,111,114,109,97,116]⟩⟩ 22,.builtin PySem.W.SL.s5662562618415449548x6⟩,⟨PyData.keyHash P ⟨⟨[103,101,116,97,116,116,114]⟩⟩,.str ⟨⟨[103,101,116,97,116,116,114]⟩⟩ 23,.builtin PySem.W.SL.s15281542589158584767x7⟩,⟨PyData.keyHash P ⟨⟨[103,108,111,98,97,108,115]⟩⟩,.str ⟨⟨[103,108,111,98,97,108,115]⟩⟩ 24,.builtin PySem.W.SL.s17651547275483570877x7⟩,⟨PyData.keyHash P ⟨⟨[104,97,115,97,116,116,114]⟩⟩,.str ⟨⟨[104,97,115,97,116,116,114]⟩⟩ 25,.builtin PySem.W.SL.s4036449017235975746x7⟩,⟨PyData.keyHash P ⟨⟨[104,97,115,104]⟩⟩,.str ⟨⟨[104,97,115,104]⟩⟩ 26,.builtin PySem.W.SL.s8879979712987360175x4⟩,⟨PyData.keyHash P ⟨⟨[104,101,120]⟩⟩,.str ⟨⟨[104,101,120]⟩⟩ 27,.builtin PySem.W.SL.s1801250619170735830x3⟩,⟨PyData.keyHash P ⟨⟨[105,100]⟩⟩,.str ⟨⟨[105,100]⟩⟩ 28,.builtin PySem.W.SL.s17659931425627118568x2⟩,⟨PyData.keyHash P ⟨⟨[105,110,112,117,116]⟩⟩,.str ⟨⟨[105,110,112,117,116]⟩⟩ 29,.builtin PySem.W.SL.s6063217899685152688x5⟩,⟨PyData.keyHash P ⟨⟨[105,115,105,110,115,116,97,110,99,101]⟩⟩,.str ⟨⟨[105,115,105,110,115,116,97,110,99,101]⟩⟩ 30,.builtin PySem.W.SL.s8008927332132565319x10⟩,⟨PyData.keyHash P ⟨⟨[105,115,115,117,98,99,108,97,115,115]⟩⟩,.str ⟨⟨[105,115,115,117,98,99,108,97,115,115]⟩⟩ 31,.builtin PySem.W.SL.s3544116645089599534x10⟩,⟨PyData.keyHash P ⟨⟨[105,116,101,114]⟩⟩,.str ⟨⟨[105,116,101,114]⟩⟩ 32,.builtin PySem.W.SL.s13761710972054866084x4⟩,⟨PyData.keyHash P ⟨⟨[97,105,116,101,114]⟩⟩,.str ⟨⟨[97,105,116,101,114]⟩⟩ 33,.builtin PySem.W.SL.s12896375587409280029x5⟩,⟨PyData.keyHash P ⟨⟨[108,101,110]⟩⟩,.str ⟨⟨[108,101,110]⟩⟩ 34,.builtin PySem.W.SL.s13014049009108672802x3⟩,⟨PyData.keyHash P ⟨⟨[108,111,99,97,108,115]⟩⟩,.str ⟨⟨[108,111,99,97,108,115]⟩⟩ 35,.builtin PySem.W.SL.s13935586738268321596x6⟩,⟨PyData.keyHash P ⟨⟨[109,97,120]⟩⟩,.str ⟨⟨[109,97,120]⟩⟩ 36,.builtin PySem.W.SL.s8200498257699607233x3⟩,⟨PyData.keyHash P ⟨⟨[109,105,110]⟩⟩,.str ⟨⟨[109,105,110]⟩⟩ 37,.builtin PySem.W.SL.s14114244577727609259x3⟩,⟨PyData.keyHash P ⟨⟨[110,101,120,116]⟩⟩,.str ⟨⟨[110,101,120,116]⟩⟩ 38,.builtin PySem.W.SL.s1499430450269397089x4⟩,⟨PyData.keyHash P ⟨⟨[97,110,101,120,116]⟩⟩,.str ⟨⟨[97,110,101,120,116]⟩⟩ 39,.builtin PySem.W.SL.s8755793994789770505x5⟩,⟨PyData.keyHash P ⟨⟨[111,99,116]⟩⟩,.str ⟨⟨[111,99,116]⟩⟩ 40,.builtin PySem.W.SL.s15725212667919936108x3⟩,⟨PyData.keyHash P ⟨⟨[111,114,100]⟩⟩,.str ⟨⟨[111,114,100]⟩⟩ 41,.builtin PySem.W.SL.s15791221867095933363x3⟩,⟨PyData.keyHash P ⟨⟨[112,111,119]⟩⟩,.str ⟨⟨[112,111,119]⟩⟩ 42,.builtin PySem.W.SL.s81309575031448614x3⟩,⟨PyData.keyHash P ⟨⟨[112,114,105,110,116]⟩⟩,.str ⟨⟨[112,114,105,110,116]⟩⟩ 43,.builtin PySem.W.SL.s8069831620301644142x5⟩,⟨PyData.keyHash P ⟨⟨[114,101,112,114]⟩⟩,.str ⟨⟨[114,101,112,114]⟩⟩ 44,.builtin PySem.W.SL.s10061844253413749634x4⟩,⟨PyData.keyHash P ⟨⟨[114,111,117,110,100]⟩⟩,.str ⟨⟨[114,111,117,110,100]⟩⟩ 45,.builtin PySem.W.SL.s9496514870978017513x5⟩,⟨PyData.keyHash P ⟨⟨[115,101,116,97,116,116,114]⟩⟩,.str ⟨⟨[115,101,116,97,116,116,114]⟩⟩ 46,.builtin PySem.W.SL.s8899691144933366716x7⟩,⟨PyData.keyHash P ⟨⟨[115,111,114,116,101,100]⟩⟩,.str ⟨⟨[115,111,114,116,101,100]⟩⟩ 47,.builtin PySem.W.SL.s15201008993051130160x6⟩,⟨PyData.keyHash P ⟨⟨[115,117,109]⟩⟩,.str ⟨⟨[115,117,109]⟩⟩ 48,.builtin PySem.W.SL.s741896355592496720x3⟩,⟨PyData.keyHash P ⟨⟨[118,97,114,115]⟩⟩,.str ⟨⟨[118,97,114,115]⟩⟩ 49,.builtin PySem.W.SL.s17925004256654032244x4⟩,⟨PyData.keyHash P ⟨⟨[78,111,110,101]⟩⟩,.str ⟨⟨[78,111,110,101]⟩⟩ 50,.none⟩,⟨PyData.keyHash P ⟨⟨[69,108,108,105,112,115,105,115]⟩⟩,.str ⟨⟨[69,108,108,105,112,115,105,115]⟩⟩ 51,.ellipsis⟩,⟨PyData.keyHash P ⟨⟨[78,111,116,73,109,112,108,101,109,101,110,116,101,100]⟩⟩,.str ⟨⟨[78,111,116,73,109,112,108,101,109,101,110,116,101,100]⟩⟩ 52,.notImplemented⟩,⟨PyData.keyHash P ⟨⟨[70,97,108,115,101]⟩⟩,.str ⟨⟨[70,97,108,115,101]⟩⟩ 53,.bool false⟩,⟨PyData.keyHash P ⟨⟨[84,114,117,101]⟩⟩,.str ⟨⟨[84,114,117,101]⟩⟩ 54,.bool true⟩,⟨PyData.keyHash P ⟨⟨[98,111,111,108]⟩⟩,.str ⟨⟨[98,111,111,108]⟩⟩ 55,.type PySem.W.SL.s11695548795398191787x4⟩,⟨PyData.keyHash P ⟨⟨[109,101,109,111,114,121,118,105,101,119]⟩⟩,.str ⟨⟨[109,101,109,111,114,121,118,105,101,119]⟩⟩ 56,.type PySem.W.SL.s4156966113859768872x10⟩,⟨PyData.keyHash P ⟨⟨[98,121,116,101,97,114,114,97,121]⟩⟩,.str ⟨⟨[98,121,116,101,97,114,114,97,121]⟩⟩ 57,.type PySem.W.SL.s9501651726347032510x9⟩,⟨PyData.keyHash P ⟨⟨[98,121,116,101,115]⟩⟩,.str ⟨⟨[98,121,116,101,115]⟩⟩ 58,.type PySem.W.SL.s15722918466584999320x5⟩,⟨PyData.keyHash P ⟨⟨[99,108,97,115,115,109,101,116,104,111,100]⟩⟩,.str ⟨⟨[99,108,97,115,115,109,101,116,104,111,100]⟩⟩ 59,.type PySem.W.SL.s591115383303110208x11⟩,⟨PyData.keyHash P ⟨⟨[99,111,109,112,108,101,120]⟩⟩,.str ⟨⟨[99,111,109,112,108,101,120]⟩⟩ 60,.type PySem.W.SL.s15721156781594690315x7⟩,⟨PyData.keyHash P ⟨⟨[100,105,99,116]⟩⟩,.str ⟨⟨[100,105,99,116]⟩⟩ 61,.type PySem.W.SL.s14018661285674007319x4⟩,⟨PyData.keyHash P ⟨⟨[101,110,117,109,101,114,97,116,101]⟩⟩,.str ⟨⟨[101,110,117,109,101,114,97,116,101]⟩⟩ 62,.type PySem.W.SL.s14340494229221121180x9⟩,⟨PyData.keyHash P ⟨⟨[102,105,108,116,101,114]⟩⟩,.str ⟨⟨[102,105,108,116,101,114]⟩⟩ 63,.type PySem.W.SL.s13429844117177748173x6⟩,⟨PyData.keyHash P ⟨⟨[102,108,111,97,116]⟩⟩,.str ⟨⟨[102,108,111,97,116]⟩⟩ 64,.type PySem.W.SL.s16463266125957815391x5⟩,⟨PyData.keyHash P ⟨⟨[102,114,111,122,101,110,115,101,116]⟩⟩,.str ⟨⟨[102,114,111,122,101,110,115,101,116]⟩⟩ 65,.type PySem.W.SL.s4922535414793169389x9⟩,⟨PyData.keyHash P ⟨⟨[112,114,111,112,101,114,116,121]⟩⟩,.str ⟨⟨[112,114,111,112,101,114,116,121]⟩⟩ 66,.type PySem.W.SL.s8101838861749082086x8⟩,⟨PyData.keyHash P ⟨⟨[105,110,116]⟩⟩,.str ⟨⟨[105,110,116]⟩⟩ 67,.type PySem.W.SL.s7066276694103001551x3⟩,⟨PyData.keyHash P ⟨⟨[108,105,115,116]⟩⟩,.str ⟨⟨[108,105,115,116]⟩⟩ 68,.type PySem.W.SL.s9222952809800978799x4⟩,⟨PyData.keyHash P ⟨⟨[109,97,112]⟩⟩,.str ⟨⟨[109,97,112]⟩⟩ 69,.type PySem.W.SL.s462964344163437139x3⟩,⟨PyData.keyHash P ⟨⟨[111,98,106,101,99,116]⟩⟩,.str ⟨⟨[111,98,106,101,99,116]⟩⟩ 70,.type PySem.W.SL.s2742458400755230247x6⟩,⟨PyData.keyHash P ⟨⟨[114,97,110,103,101]⟩⟩,.str ⟨⟨[114,97,110,103,101]⟩⟩ 71,.type PySem.W.SL.s1438033511350832697x5⟩,⟨PyData.keyHash P ⟨⟨[114,101,118,101,114,115,101,100]⟩⟩,.str ⟨⟨[114,101,118,101,114,115,101,100]⟩⟩ 72,.type PySem.W.SL.s14365286008749172514x8⟩,⟨PyData.keyHash P ⟨⟨[115,101,116]⟩⟩,.str ⟨⟨[115,101,116]⟩⟩ 73,.type PySem.W.SL.s3642769012341782148x3⟩,⟨PyData.keyHash P ⟨⟨[115,108,105,99,101]⟩⟩,.str ⟨⟨[115,108,105,99,101]⟩⟩ 74,.type PySem.W.SL.s4674234679698826739x5⟩,⟨PyData.keyHash P ⟨⟨[115,116,97,116,105,99,109,101,116,104,111,100]⟩⟩,.str ⟨⟨[115,116,97,116,105,99,109,101,116,104,111,100]⟩⟩ 75,.type PySem.W.SL.s16656946322747308186x12⟩,⟨PyData.keyHash P ⟨⟨[115,116,114]⟩⟩,.str ⟨⟨[115,116,114]⟩⟩ 76,.type PySem.W.SL.s10796804682411823810x3⟩,⟨PyData.keyHash P ⟨⟨[115,117,112,101,114]⟩⟩,.str ⟨⟨[115,117,112,101,114]⟩⟩ 77,.type PySem.W.SL.s4290257624100764138x5⟩,⟨PyData.keyHash P ⟨⟨[116,117,112,108,101]⟩⟩,.str ⟨⟨[116,117,112,108,101]⟩⟩ 78,.type PySem.W.SL.s2766695959194262286x5⟩,⟨PyData.keyHash P ⟨⟨[116,121,112,101]⟩⟩,.str ⟨⟨[116,121,112,101]⟩⟩ 79,.type PySem.W.SL.s17162191345867700912x4⟩,⟨PyData.keyHash P ⟨⟨[122,105,112]⟩⟩,.str ⟨⟨[122,105,112]⟩⟩ 80,.type PySem.W.SL.s14339709457334898076x3⟩,⟨PyData.keyHash P ⟨⟨[95,95,100,101,98,117,103,95,95]⟩⟩,.str ⟨⟨[95,95,100,101,98,117,103,95,95]⟩⟩ 81,.bool true⟩,⟨PyData.keyHash P ⟨⟨[66,97,115,101,69,120,99,101,112,116,105,111,110]⟩⟩,.str ⟨⟨[66,97,115,101,69,120,99,101,112,116,105,111,110]⟩⟩ 82,.type PySem.W.SL.s4278001404047624695x13⟩,⟨PyData.keyHash P ⟨⟨[66,97,115,101,69,120,99,101,112,116,105,111,110,71,114,111,117,112]⟩⟩,.str ⟨⟨[66,97,115,101,69,120,99,101,112,116,105,111,110,71,114,111,117,112]⟩⟩ 83,.type PySem.W.SL.s6585700554429387442x18⟩,⟨PyData.keyHash P ⟨⟨[69,120,99,101,112,116,105,111,110]⟩⟩,.str ⟨⟨[69,120,99,101,112,116,105,111,110]⟩⟩ 84,.type PySem.W.SL.s5946037652744460706x9⟩,⟨PyData.keyHash P ⟨⟨[71,101,110,101,114,97,116,111,114,69,120,105,116]⟩⟩,.str ⟨⟨[71,101,110,101,114,97,116,111,114,69,120,105,116]⟩⟩ 85,.type PySem.W.SL.s7410770068591931388x13⟩,⟨PyData.keyHash P ⟨⟨[75,101,121,98,111,97,114,100,73,110,116,101,114,114,117,112,116]⟩⟩,.str ⟨⟨[75,101,121,98,111,97,114,100,73,110,116,101,114,114,117,112,116]⟩⟩ 86,.type PySem.W.SL.s11817881795495490833x17⟩,⟨PyData.keyHash P ⟨⟨[83,121,115,116,101,109,69,120,105,116]⟩⟩,.str ⟨⟨[83,121,115,116,101,109,69,120,105,116]⟩⟩ 87,.type PySem.W.SL.s15679963881808890155x10⟩,⟨PyData.keyHash P ⟨⟨[65,114,105,116,104,109,101,116,105,99,69,114,114,111,114]⟩⟩,.str ⟨⟨[65,114,105,116,104,109,101,116,105,99,69,114,114,111,114]⟩⟩ 88,.type PySem.W.SL.s3871700062485845797x15⟩,⟨PyData.keyHash P ⟨⟨[65,115,115,101,114,116,105,111,110,69,114,114,111,114]⟩⟩,.str ⟨⟨[65,115,115,101,114,116,105,111,110,69,114,114,111,114]⟩⟩ 89,.type PySem.W.SL.s7689518266570723881x14⟩,⟨PyData.keyHash P ⟨⟨[65,116,116,114,105,98,117,116,101,69,114,114,111,114]⟩⟩,.str ⟨⟨[65,116,116,114,105,98,117,116,101,69,114,114,111,114]⟩⟩ 90,.type PySem.W.SL.s9001593270443806431x14⟩,⟨PyData.keyHash P ⟨⟨[66,117,102,102,101,114,69,114,114,111,114]⟩⟩,.str ⟨⟨[66,117,102,102,101,114,69,114,114,111,114]⟩⟩ 91,.type PySem.W.SL.s6882542574934516792x11⟩,⟨PyData.keyHash P ⟨⟨[69,79,70,69,114,114,111,114]⟩⟩,.str ⟨⟨[69,79,70,69,114,114,111,114]⟩⟩ 92,.type PySem.W.SL.s14403400214490484960x8⟩,⟨PyData.keyHash P ⟨⟨[73,109,112,111,114,116,69,114,114,111,114]⟩⟩,.str ⟨⟨[73,109,112,111,114,116,69,114,114,111,114]⟩⟩ 93,.type PySem.W.SL.s14457978657717015782x11⟩,⟨PyData.keyHash P ⟨⟨[76,111,111,107,117,112,69,114,114,111,114]⟩⟩,.str ⟨⟨[76,111,111,107,117,112,69,114,114,111,114]⟩⟩ 94,.type PySem.W.SL.s1753610191782819921x11⟩,⟨PyData.keyHash P ⟨⟨[77,101,109,111,114,121,69,114,114,111,114]⟩⟩,.str ⟨⟨[77,101,109,111,114,121,69,114,114,111,114]⟩⟩ 95,.type PySem.W.SL.s14119380538032626715x11⟩,⟨PyData.keyHash P ⟨⟨[78,97,109,101,69,114,114,111,114]⟩⟩,.str ⟨⟨[78,97,109,101,69,114,114,111,114]⟩⟩ 96,.type PySem.W.SL.s11437920000406562045x9⟩,⟨PyData.keyHash P ⟨⟨[79,83,69,114,114,111,114]⟩⟩,.str ⟨⟨[79,83,69,114,114,111,114]⟩⟩ 97,.type PySem.W.SL.s10852414792293593619x7⟩,⟨PyData.keyHash P ⟨⟨[82,101,102,101,114,101,110,99,101,69,114,114,111,114]⟩⟩,.str ⟨⟨[82,101,102,101,114,101,110,99,101,69,114,114,111,114]⟩⟩ 98,.type PySem.W.SL.s14816307405966870543x14⟩,⟨PyData.keyHash P ⟨⟨[82,117,110,116,105,109,101,69,114,114,111,114]⟩⟩,.str ⟨⟨[82,117,110,116,105,109,101,69,114,114,111,114]⟩⟩ 99,.type PySem.W.SL.s8682627914449686677x12⟩,⟨PyData.keyHash P ⟨⟨[83,116,111,112,65,115,121,110,99,73,116,101,114,97,116,105,111,110]⟩⟩,.str ⟨⟨[83,116,111,112,65,115,121,110,99,73,116,101,114,97,116,105,111,110]⟩⟩ 100,.type PySem.W.SL.s4428170145600203450x18⟩,⟨PyData.keyHash P ⟨⟨[83,116,111,112,73,116,101,114,97,116,105,111,110]⟩⟩,.str ⟨⟨[83,116,111,112,73,116,101,114,97,116,105,111,110]⟩⟩ 101,.type PySem.W.SL.s5991306692159431302x13⟩,⟨PyData.keyHash P ⟨⟨[83,121,110,116,97,120,69,114,114,111,114]⟩⟩,.str ⟨⟨[83,121,110,116,97,120,69,114,114,111,114]⟩⟩ 102,.type PySem.W.SL.s16067994140765818257x11⟩,⟨PyData.keyHash P ⟨⟨[83,121,115,116,101,109,69,114,114,111,114]⟩⟩,.str ⟨⟨[83,121,115,116,101,109,69,114,114,111,114]⟩⟩ 103,.type PySem.W.SL.s2327743974964600596x11⟩,⟨PyData.keyHash P ⟨⟨[84,121,112,101,69,114,114,111,114]⟩⟩,.str ⟨⟨[84,121,112,101,69,114,114,111,114]⟩⟩ 104,.type PySem.W.SL.s2804747833354056582x9⟩,⟨PyData.keyHash P ⟨⟨[86,97,108,117,101,69,114,114,111,114]⟩⟩,.str ⟨⟨[86,97,108,117,101,69,114,114,111,114]⟩⟩ 105,.type PySem.W.SL.s6070975301684473832x10⟩,⟨PyData.keyHash P ⟨⟨[87,97,114,110,105,110,103]⟩⟩,.str ⟨⟨[87,97,114,110,105,110,103]⟩⟩ 106,.type PySem.W.SL.s14270485950484850486x7⟩,⟨PyData.keyHash P ⟨⟨[70,108,111,97,116,105,110,103,80,111,105,110,116,69,114,114,111,114]⟩⟩,.str ⟨⟨[70,108,111,97,116,105,110,103,80,111,105,110,116,69,114,114,111,114]⟩⟩ 107,.type PySem.W.SL.s12041534306414923332x18⟩,⟨PyData.keyHash P ⟨⟨[79,118,101,114,102,108,111,119,69,114,114,111,114]⟩⟩,.str ⟨⟨[79,118,101,114,102,108,111,119,69,114,114,111,114]⟩⟩ 108,.type PySem.W.SL.s2531307568338490285x13⟩,⟨PyData.keyHash P ⟨⟨[90,101,114,111,68,105,118,105,115,105,111,110,69,114,114,111,114]⟩⟩,.str ⟨⟨[90,101,114,111,68,105,118,105,115,105,111,110,69,114,114,111,114]⟩⟩ 109,.type PySem.W.SL.s631175304937289666x17⟩,⟨PyData.keyHash P ⟨⟨[66,121,116,101,115,87,97,114,110,105,110,103]⟩⟩,.str ⟨⟨[66,121,116,101,115,87,97,114,110,105,110,103]⟩⟩ 110,.type PySem.W.SL.s5144983644357021410x12⟩,⟨PyData.keyHash P ⟨⟨[68,101,112,114,101,99,97,116,105,111,110,87,97,114,110,105,110,103]⟩⟩,.str ⟨⟨[68,101,112,114,101,99,97,116,105,111,110,87,97,114,110,105,110,103]⟩⟩ 111,.type PySem.W.SL.s18039099521571816885x18⟩,⟨PyData.keyHash P ⟨⟨[69,110,99,111,100,105,110,103,87,97,114,110,105,110,103]⟩⟩,.str ⟨⟨[69,110,99,111,100,105,110,103,87,97,114,110,105,110,103]⟩⟩ 112,.type PySem.W.SL.s6011586214260557989x15⟩,⟨PyData.keyHash P ⟨⟨[70,117,116,117,114,101,87,97,114,110,105,110,103]⟩⟩,.str ⟨⟨[70,117,116,117,114,101,87,97,114,110,105,110,103]⟩⟩ 113,.type PySem.W.SL.s5430567037509283100x13⟩,⟨PyData.keyHash P ⟨⟨[73,109,112,111,114,116,87,97,114,110,105,110,103]⟩⟩,.str ⟨⟨[73,109,112,111,114,116,87,97,114,110,105,110,103]⟩⟩ 114,.type PySem.W.SL.s8117915138073963741x13⟩,⟨PyData.keyHash P ⟨⟨[80,101,110,100,105,110,103,68,101,112,114,101,99,97,116,105,111,110,87,97,114,110,105,110,103]⟩⟩,.str ⟨⟨[80,101,110,100,105,110,103,68,101,112,114,101,99,97,116,105,111,110,87,97,114,110,105,110,103]⟩⟩ 115,.type PySem.W.SL.s3423317712779056401x25⟩,⟨PyData.keyHash P ⟨⟨[82,101,115,111,117,114,99,101,87,97,114,110,105,110,103]⟩⟩,.str ⟨⟨[82,101,115,111,117,114,99,101,87,97,114,110,105,110,103]⟩⟩ 116,.type PySem.W.SL.s2007317383269046180x15⟩,⟨PyData.keyHash P ⟨⟨[82,117,110,116,105,109,101,87,97,114,110,105,110,103]⟩⟩,.str ⟨⟨[82,117,110,116,105,109,101,87,97,114,110,105,110,103]⟩⟩ 117,.type PySem.W.SL.s17481586968713580700x14⟩,⟨PyData.keyHash P ⟨⟨[83,121,110,116,97,120,87,97,114,110,105,110,103]⟩⟩,.str ⟨⟨[83,121,110,116,97,120,87,97,114,110,105,110,103]⟩⟩ 118,.type PySem.W.SL.s2450899226349176912x13⟩,⟨PyData.keyHash P ⟨⟨[85,110,105,99,111,100,101,87,97,114,110,105,110,103]⟩⟩,.str ⟨⟨[85,110,105,99,111,100,101,87,97,114,110,105,110,103]⟩⟩ 119,.type PySem.W.SL.s16626165730633575011x14⟩,⟨PyData.keyHash P ⟨⟨[85,115,101,114,87,97,114,110,105,110,103]⟩⟩,.str ⟨⟨[85,115,101,114,87,97,114,110,105,110,103]⟩⟩ 120,.type PySem.W.SL.s14288496050688921416x11⟩,⟨PyData.keyHash P ⟨⟨[66,108,111,99,107,105,110,103,73,79,69,114,114,111,114]⟩⟩,.str ⟨⟨[66,108,111,99,107,105,110,103,73,79,69,114,114,111,114]⟩⟩ 121,.type PySem.W.SL.s5735081916595925998x15⟩,⟨PyData.keyHash P ⟨⟨[67,104,105,108,100,80,114,111,99,101,115,115,69,114,114,111,114]⟩⟩,.str ⟨⟨[67,104,105,108,100,80,114,111,99,101,115,115,69,114,114,111,114]⟩⟩ 122,.type PySem.W.SL.s3865607918536308442x17⟩,⟨PyData.keyHash P ⟨⟨[67,111,110,110,101,99,116,105,111,110,69,114,114,111,114]⟩⟩,.str ⟨⟨[67,111,110,110,101,99,116,105,111,110,69,114,114,111,114]⟩⟩ 123,.type PySem.W.SL.s13337502604062700212x15⟩,⟨PyData.keyHash P ⟨⟨[70,105,108,101,69,120,105,115,116,115,69,114,114,111,114]⟩⟩,.str ⟨⟨[70,105,108,101,69,120,105,115,116,115,69,114,114,111,114]⟩⟩ 124,.type PySem.W.SL.s13114017843053701147x15⟩,⟨PyData.keyHash P ⟨⟨[70,105,108,101,78,111,116,70,111,117,110,100,69,114,114,111,114]⟩⟩,.str ⟨⟨[70,105,108,101,78,111,116,70,111,117,110,100,69,114,114,111,114]⟩⟩ 125,.type PySem.W.SL.s17467278006356818441x17⟩,⟨PyData.keyHash P ⟨⟨[73,110,116,101,114,114,117,112,116,101,100,69,114,114,111,114]⟩⟩,.str ⟨⟨[73,110,116,101,114,114,117,112,116,101,100,69,114,114,111,114]⟩⟩ 126,.type PySem.W.SL.s17722149559621369488x16⟩,⟨PyData.keyHash P ⟨⟨[73,115,65,68,105,114,101,99,116,111,114,121,69,114,114,111,114]⟩⟩,.str ⟨⟨[73,115,65,68,105,114,101,99,116,111,114,121,69,114,114,111,114]⟩⟩ 127,.type PySem.W.SL.s7855274175708717672x17⟩,⟨PyData.keyHash P ⟨⟨[78,111,116,65,68,105,114,101,99,116,111,114,121,69,114,114,111,114]⟩⟩,.str ⟨⟨[78,111,116,65,68,105,114,101,99,116,111,114,121,69,114,114,111,114]⟩⟩ 128,.type PySem.W.SL.s13351283678309829046x18⟩,⟨PyData.keyHash P ⟨⟨[80,101,114,109,105,115,115,105,111,110,69,114,114,111,114]⟩⟩,.str ⟨⟨[80,101,114,109,105,115,115,105,111,110,69,114,114,111,114]⟩⟩ 129,.type PySem.W.SL.s6668348653404991179x15⟩,⟨PyData.keyHash P ⟨⟨[80,114,111,99,101,115,115,76,111,111,107,117,112,69,114,114,111,114]⟩⟩,.str ⟨⟨[80,114,111,99,101,115,115,76,111,111,107,117,112,69,114,114,111,114]⟩⟩ 130,.type PySem.W.SL.s12913350958174193794x18⟩,⟨PyData.keyHash P ⟨⟨[84,105,109,101,111,117,116,69,114,114,111,114]⟩⟩,.str ⟨⟨[84,105,109,101,111,117,116,69,114,114,111,114]⟩⟩ 131,.type PySem.W.SL.s16115879512475548326x12⟩,⟨PyData.keyHash P ⟨⟨[73,110,100,101,110,116,97,116,105,111,110,69,114,114,111,114]⟩⟩,.str ⟨⟨[73,110,100,101,110,116,97,116,105,111,110,69,114,114,111,114]⟩⟩ 132,.type PySem.W.SL.s15920661018069861047x16⟩,⟨PyData.keyHash P ⟨⟨[95,73,110,99,111,109,112,108,101,116,101,73,110,112,117,116,69,114,114,111,114]⟩⟩,.str ⟨⟨[95,73,110,99,111,109,112,108,101,116,101,73,110,112,117,116,69,114,114,111,114]⟩⟩ 133,.type PySem.W.SL.s10779130036587390575x21⟩,⟨PyData.keyHash P ⟨⟨[73,110,100,101,120,69,114,114,111,114]⟩⟩,.str ⟨⟨[73,110,100,101,120,69,114,114,111,114]⟩⟩ 134,.type PySem.W.SL.s7801419657504700863x10⟩,⟨PyData.keyHash P ⟨⟨[75,101,121,69,114,114,111,114]⟩⟩,.str ⟨⟨[75,101,121,69,114,114,111,114]⟩⟩ 135,.type PySem.W.SL.s1688129525768580628x8⟩,⟨PyData.keyHash P ⟨⟨[77,111,100,117,108,101,78,111,116,70,111,117,110,100,69,114,114,111,114]⟩⟩,.str ⟨⟨[77,111,100,117,108,101,78,111,116,70,111,117,110,100,69,114,114,111,114]⟩⟩ 136,.type PySem.W.SL.s1031832959479892071x19⟩,⟨PyData.keyHash P ⟨⟨[78,111,116,73,109,112,108,101,109,101,110,116,101,100,69,114,114,111,114]⟩⟩,.str ⟨⟨[78,111,116,73,109,112,108,101,109,101,110,116,101,100,69,114,114,111,114]⟩⟩ 137,.type PySem.W.SL.s8991790508128307865x19⟩,⟨PyData.keyHash P ⟨⟨[80,121,116,104,111,110,70,105,110,97,108,105,122,97,116,105,111,110,69,114,114,111,114]⟩⟩,.str ⟨⟨[80,121,116,104,111,110,70,105,110,97,108,105,122,97,116,105,111,110,69,114,114,111,114]⟩⟩ 138,.type PySem.W.SL.s14539662485746970245x23⟩,⟨PyData.keyHash P ⟨⟨[82,101,99,117,114,115,105,111,110,69,114,114,111,114]⟩⟩,.str ⟨⟨[82,101,99,117,114,115,105,111,110,69,114,114,111,114]⟩⟩ 139,.type PySem.W.SL.s11643622729373238714x14⟩,⟨PyData.keyHash P ⟨⟨[85,110,98,111,117,110,100,76,111,99,97,108,69,114,114,111,114]⟩⟩,.str ⟨⟨[85,110,98,111,117,110,100,76,111,99,97,108,69,114,114,111,114]⟩⟩ 140,.type PySem.W.SL.s3386828779285465597x17⟩,⟨PyData.keyHash P ⟨⟨[85,110,105,99,111,100,101,69,114,114,111,114]⟩⟩,.str ⟨⟨[85,110,105,99,111,100,101,69,114,114,111,114]⟩⟩ 141,.type PySem.W.SL.s13042696260734638735x12⟩,⟨PyData.keyHash P ⟨⟨[66,114,111,107,101,110,80,105,112,101,69,114,114,111,114]⟩⟩,.str ⟨⟨[66,114,111,107,101,110,80,105,112,101,69,114,114,111,114]⟩⟩ 142,.type PySem.W.SL.s18239426817015966623x15⟩,⟨PyData.keyHash P ⟨⟨[67,111,110,110,101,99,116,105,111,110,65,98,111,114,116,101,100,69,114,114,111,114]⟩⟩,.str ⟨⟨[67,111,110,110,101,99,116,105,111,110,65,98,111,114,116,101,100,69,114,114,111,114]⟩⟩ 143,.type PySem.W.SL.s1270395311379034370x22⟩,⟨PyData.keyHash P ⟨⟨[67,111,110,110,101,99,116,105,111,110,82,101,102,117,115,101,100,69,114,114,111,114]⟩⟩,.str ⟨⟨[67,111,110,110,101,99,116,105,111,110,82,101,102,117,115,101,100,69,114,114,111,114]⟩⟩ 144,.type PySem.W.SL.s10696252587037064777x22⟩,⟨PyData.keyHash P ⟨⟨[67,111,110,110,101,99,116,105,111,110,82,101,115,101,116,69,114,114,111,114]⟩⟩,.str ⟨⟨[67,111,110,110,101,99,116,105,111,110,82,101,115,101,116,69,114,114,111,114]⟩⟩ 145,.type PySem.W.SL.s7852717498200857586x20⟩,⟨PyData.keyHash P ⟨⟨[84,97,98,69,114,114,111,114]⟩⟩,.str ⟨⟨[84,97,98,69,114,114,111,114]⟩⟩ 146,.type PySem.W.SL.s6377248116197321094x8⟩,⟨PyData.keyHash P ⟨⟨[85,110,105,99,111,100,101,68,101,99,111,100,101,69,114,114,111,114]⟩⟩,.str ⟨⟨[85,110,105,99,111,100,101,68,101,99,111,100,101,69,114,114,111,114]⟩⟩ 147,.type PySem.W.SL.s3834378056692298002x18⟩,⟨PyData.keyHash P ⟨⟨[85,110,105,99,111,100,101,69,110,99,111,100,101,69,114,114,111,114]⟩⟩,.str ⟨⟨[85,110,105,99,111,100,101,69,110,99,111,100,101,69,114,114,111,114]⟩⟩ 148,.type PySem.W.SL.s17586630440231065808x18⟩,⟨PyData.keyHash P ⟨⟨[85,110,105,99,111,100,101,84,114,97,110,115,108,97,116,101,69,114,114,111,114]⟩⟩,.str ⟨⟨[85,110,105,99,111,100,101,84,114,97,110,115,108,97,116,101,69,114,114,111,114]⟩⟩ 149,.type PySem.W.SL.s15234114252648025395x21⟩,⟨PyData.keyHash P ⟨⟨[69,120,99,101,112,116,105,111,110,71,114,111,117,112]⟩⟩,.str ⟨⟨[69,120,99,101,112,116,105,111,110,71,114,111,117,112]⟩⟩ 150,.type PySem.W.SL.s8496462677383758984x14⟩,⟨PyData.keyHash P ⟨⟨[69,110,118,105,114,111,110,109,101,110,116,69,114,114,111,114]⟩⟩,.str ⟨⟨[69,110,118,105,114,111,110,109,101,110,116,69,114,114,111,114]⟩⟩ 151,.type PySem.W.SL.s10852414792293593619x7⟩,⟨PyData.keyHash P ⟨⟨[73,79,69,114,114,111,114]⟩⟩,.str ⟨⟨[73,79,69,114,114,111,114]⟩⟩ 152,.type PySem.W.SL.s10852414792293593619x7⟩,⟨PyData.keyHash P ⟨⟨[111,112,101,110]⟩⟩,.str ⟨⟨[111,112,101,110]⟩⟩ 153,.builtin PySem.W.SL.s16789243406116112673x4⟩,⟨PyData.keyHash P ⟨⟨[113,117,105,116]⟩⟩,.str ⟨⟨[113,117,105,116]⟩⟩ 154,.builtin PySem.W.SL.s14400166428656793546x20⟩,⟨PyData.keyHash P ⟨⟨[101,120,105,116]⟩⟩,.str ⟨⟨[101,120,105,116]⟩⟩ 155,.builtin PySem.W.SL.s5857708277339239366x20⟩,⟨PyData.keyHash P ⟨⟨[99,111,112,121,114,105,103,104,116]⟩⟩,.str ⟨⟨[99,111,112,121,114,105,103,104,116]⟩⟩ 156,.builtin "builtins.copyright#opaque"⟩,⟨PyData.keyHash P ⟨⟨[99,114,101,100,105,116,115]⟩⟩,.str ⟨⟨[99,114,101,100,105,116,115]⟩⟩ 157,.builtin "builtins.credits#opaque"⟩,⟨PyData.keyHash P ⟨⟨[108,105,99,101,110,115,101]⟩⟩,.str ⟨⟨[108,105,99,101,110,115,101]⟩⟩ 158,.builtin "builtins.license#opaque"⟩,⟨PyData.keyHash P ⟨⟨[104,101,108,112]⟩⟩,.str ⟨⟨[104,101,108,112]⟩⟩ 159,.builtin PySem.W.SL.s7804999707787243718x20⟩]⟩ 159),⟨[]⟩⟩
noncomputable def o2 (P : Params) : Obj := ⟨.none,none,(.dict ⟨[⟨PyData.keyHash P ⟨⟨[105,109,112,111,114,116,46,108,111,97,100,101,100,46,95,115,114,101]⟩⟩,.str ⟨⟨[105,109,112,111,114,116,46,108,111,97,100,101,100,46,95,115,114,101]⟩⟩ 183,.bool true⟩,⟨PyData.keyHash P ⟨⟨[99,108,97,115,115,46,95,102,114,111,122,101,110,95,105,109,112,111,114,116,108,105,98,46,66,117,105,108,116,105,110,73,109,112,111,114,116,101,114]⟩⟩,.str ⟨⟨[99,108,97,115,115,46,95,102,114,111,122,101,110,95,105,109,112,111,114,116,108,105,98,46,66,117,105,108,116,105,110,73,109,112,111,114,116,101,114]⟩⟩ 185,.ref 14⟩,⟨PyData.keyHash P ⟨⟨[119,97,116,99,104,101,100,46,105,109,112,111,114,116]⟩⟩,.str ⟨⟨[119,97,116,99,104,101,100,46,105,109,112,111,114,116]⟩⟩ 206,.ref 18⟩,⟨PyData.keyHash P ⟨⟨[99,108,97,115,115,46,95,102,114,111,122,101,110,95,105,109,112,111,114,116,108,105,98,46,77,111,100,117,108,101,83,112,101,99]⟩⟩,.str ⟨⟨[99,108,97,115,115,46,95,102,114,111,122,101,110,95,105,109,112,111,114,116,108,105,98,46,77,111,100,117,108,101,83,112,101,99]⟩⟩ 216,.ref 22⟩,⟨PyData.keyHash P ⟨⟨[115,121,115,46,109,111,100,117,108,101,115,46,98,111,111,107,101,100,45,101,112,111,99,104]⟩⟩,.str ⟨⟨[115,121,115,46,109,111,100,117,108,101,115,46,98,111,111,107,101,100,45,101,112,111,99,104]⟩⟩ 245,.int (3) 0⟩,⟨PyData.keyHash P ⟨⟨[105,109,112,111,114,116,46,108,97,116,101,114,45,108,97,105,100,46,95,115,114,101]⟩⟩,.str ⟨⟨[105,109,112,111,114,116,46,108,97,116,101,114,45,108,97,105,100,46,95,115,114,101]⟩⟩ 270,.bool true⟩,⟨PyData.keyHash P ⟨⟨[119,97,116,99,104,101,100,46,108,105,98,114,97,114,121]⟩⟩,.str ⟨⟨[119,97,116,99,104,101,100,46,108,105,98,114,97,114,121]⟩⟩ 272,.ref 27⟩,⟨PyData.keyHash P ⟨⟨[119,97,116,99,104,101,100,46,108,105,98,114,97,114,121,45,111,98,106,101,99,116,115]⟩⟩,.str ⟨⟨[119,97,116,99,104,101,100,46,108,105,98,114,97,114,121,45,111,98,106,101,99,116,115]⟩⟩ 0,.str ⟨⟨[12]⟩⟩ 0⟩,⟨PyData.keyHash P ⟨⟨[119,97,116,99,104,101,100,46,108,105,98,114,97,114,121,45,100,101,101,112,46,95,115,114,101]⟩⟩,.str ⟨⟨[119,97,116,99,104,101,100,46,108,105,98,114,97,114,121,45,100,101,101,112,46,95,115,114,101]⟩⟩ 273,.str ⟨⟨[4,0,0,11,4,0,0,11,4,0,0,3,4,0,0,11,8,4,100,105,99,116,2]⟩⟩ 0⟩]⟩ 9),⟨[]⟩⟩
noncomputable def o3 (P : Params) : Obj := ⟨.type PySem.W.SL.s14018661285674007319x4,none,(.dict ⟨[⟨PyData.keyHash P ⟨⟨[95,95,110,97,109,101,95,95]⟩⟩,.str ⟨⟨[95,95,110,97,109,101,95,95]⟩⟩ 165,.str ⟨⟨[108,97,119,95,105,107,48,50,48,55,95,48,49]⟩⟩ 739⟩,⟨PyData.keyHash P ⟨⟨[95,95,100,111,99,95,95]⟩⟩,.str ⟨⟨[95,95,100,111,99,95,95]⟩⟩ 166,.none⟩,⟨PyData.keyHash P ⟨⟨[95,95,112,97,99,107,97,103,101,95,95]⟩⟩,.str ⟨⟨[95,95,112,97,99,107,97,103,101,95,95]⟩⟩ 167,.none⟩,⟨PyData.keyHash P ⟨⟨[95,95,108,111,97,100,101,114,95,95]⟩⟩,.str ⟨⟨[95,95,108,111,97,100,101,114,95,95]⟩⟩ 168,.builtin PySem.W.SL.s7097527257260152453x26⟩,⟨PyData.keyHash P ⟨⟨[95,95,115,112,101,99,95,95]⟩⟩,.str ⟨⟨[95,95,115,112,101,99,95,95]⟩⟩ 169,.none⟩,⟨PyData.keyHash P ⟨⟨[95,95,97,110,110,111,116,97,116,105,111,110,115,95,95]⟩⟩,.str ⟨⟨[95,95,97,110,110,111,116,97,116,105,111,110,115,95,95]⟩⟩ 170,.ref 6⟩,⟨PyData.keyHash P ⟨⟨[95,95,98,117,105,108,116,105,110,115,95,95]⟩⟩,.str ⟨⟨[95,95,98,117,105,108,116,105,110,115,95,95]⟩⟩ 171,.ref 4⟩,⟨PyData.keyHash P ⟨⟨[95,95,102,105,108,101,95,95]⟩⟩,.str ⟨⟨[95,95,102,105,108,101,95,95]⟩⟩ 173,.str ⟨⟨[47,99,108,97,105,109,47,99,117,116,46,112,121]⟩⟩ 172⟩,⟨PyData.keyHash P ⟨⟨[95,95,99,97,99,104,101,100,95,95]⟩⟩,.str ⟨⟨[95,95,99,97,99,104,101,100,95,95]⟩⟩ 174,.none⟩,⟨PyData.keyHash P ⟨⟨[95,115,114,101]⟩⟩,.str ⟨⟨[95,115,114,101]⟩⟩ 275,.ref 12⟩,⟨PyData.keyHash P ⟨⟨[95,119,97,108,108]⟩⟩,.str ⟨⟨[95,119,97,108,108]⟩⟩ 288,.ref 38⟩,⟨PyData.keyHash P ⟨⟨[114,101,97,100,95,117,105,110,116,49]⟩⟩,.str ⟨⟨[114,101,97,100,95,117,105,110,116,49]⟩⟩ 298,.ref 45⟩,⟨PyData.keyHash P ⟨⟨[100,101,99,111,100,101,95,108,111,110,103]⟩⟩,.str ⟨⟨[100,101,99,111,100,101,95,108,111,110,103]⟩⟩ 307,.ref 52⟩,⟨PyData.keyHash P ⟨⟨[114,101,97,100,95,108,111,110,103,49]⟩⟩,.str ⟨⟨[114,101,97,100,95,108,111,110,103,49]⟩⟩ 318,.ref 59⟩,⟨PyData.keyHash P ⟨⟨[95,116,119,105,110,95,114,101,95,49]⟩⟩,.str ⟨⟨[95,116,119,105,110,95,114,101,95,49]⟩⟩ 358,.ref 64⟩,⟨PyData.keyHash P ⟨⟨[116,114,97,110,115,108,97,116,101]⟩⟩,.str ⟨⟨[116,114,97,110,115,108,97,116,101]⟩⟩ 367,.ref 71⟩,⟨PyData.keyHash P ⟨⟨[95,115,112,101,99,105,97,108,95,99,104,97,114,115,95,109,97,112]⟩⟩,.str ⟨⟨[95,115,112,101,99,105,97,108,95,99,104,97,114,115,95,109,97,112]⟩⟩ 515,.ref 73⟩,⟨PyData.keyHash P ⟨⟨[101,115,99,97,112,101]⟩⟩,.str ⟨⟨[101,115,99,97,112,101]⟩⟩ 522,.ref 83⟩,⟨PyData.keyHash P ⟨⟨[95,116,114,97,110,115,108,97,116,101]⟩⟩,.str ⟨⟨[95,116,114,97,110,115,108,97,116,101]⟩⟩ 543,.ref 90⟩,⟨PyData.keyHash P ⟨⟨[95,106,111,105,110,95,116,114,97,110,115,108,97,116,101,100,95,112,97,114,116,115]⟩⟩,.str ⟨⟨[95,106,111,105,110,95,116,114,97,110,115,108,97,116,101,100,95,112,97,114,116,115]⟩⟩ 556,.ref 97⟩,⟨PyData.keyHash P ⟨⟨[95,78,79,68,69,95,79,85,84]⟩⟩,.str ⟨⟨[95,78,79,68,69,95,79,85,84]⟩⟩ 561,.int (-1) 560⟩,⟨PyData.keyHash P ⟨⟨[95,78,79,68,69,95,68,79,78,69]⟩⟩,.str ⟨⟨[95,78,79,68,69,95,68,79,78,69]⟩⟩ 564,.int (-2) 563⟩,⟨PyData.keyHash P ⟨⟨[95,78,111,100,101,73,110,102,111]⟩⟩,.str ⟨⟨[95,78,111,100,101,73,110,102,111]⟩⟩ 601,.ref 116⟩,⟨PyData.keyHash P ⟨⟨[67,121,99,108,101,69,114,114,111,114]⟩⟩,.str ⟨⟨[67,121,99,108,101,69,114,114,111,114]⟩⟩ 619,.ref 131⟩,⟨PyData.keyHash P ⟨⟨[84,111,112,111,108,111,103,105,99,97,108,83,111,114,116,101,114]⟩⟩,.str ⟨⟨[84,111,112,111,108,111,103,105,99,97,108,83,111,114,116,101,114]⟩⟩ 738,.ref 213⟩,⟨PyData.keyHash P ⟨⟨[95,108,97,119,95,115,116,114,101,97,109]⟩⟩,.str ⟨⟨[95,108,97,119,95,115,116,114,101,97,109]⟩⟩ 751,.ref 224⟩,⟨PyData.keyHash P ⟨⟨[95,108,97,119,95,110,117,109,98,101,114]⟩⟩,.str ⟨⟨[95,108,97,119,95,110,117,109,98,101,114]⟩⟩ 760,.ref 231⟩,⟨PyData.keyHash P ⟨⟨[95,108,97,119,95,112,105,101,99,101]⟩⟩,.str ⟨⟨[95,108,97,119,95,112,105,101,99,101]⟩⟩ 769,.ref 238⟩,⟨PyData.keyHash P ⟨⟨[95,108,97,119,95,112,97,116,116,101,114,110]⟩⟩,.str ⟨⟨[95,108,97,119,95,112,97,116,116,101,114,110]⟩⟩ 781,.ref 245⟩,⟨PyData.keyHash P ⟨⟨[95,108,97,119,95,119,111,114,100]⟩⟩,.str ⟨⟨[95,108,97,119,95,119,111,114,100]⟩⟩ 787,.ref 250⟩,⟨PyData.keyHash P ⟨⟨[95,108,97,119,95,105,116,101,109,115]⟩⟩,.str ⟨⟨[95,108,97,119,95,105,116,101,109,115]⟩⟩ 798,.ref 257⟩,⟨PyData.keyHash P ⟨⟨[95,108,97,119,95,116,97,107,101,115]⟩⟩,.str ⟨⟨[95,108,97,119,95,116,97,107,101,115]⟩⟩ 804,.ref 262⟩,⟨PyData.keyHash P ⟨⟨[108,97,119]⟩⟩,.str ⟨⟨[108,97,119]⟩⟩ 810,.ref 267⟩]⟩ 33),⟨[]⟩⟩
noncomputable def o4 (P : Params) : Obj := ⟨.type PySem.W.SL.s6658869562736209489x6,(some (0)),.plain,⟨[]⟩⟩
noncomputable def o44 (P : Params) : Obj := ⟨.type PySem.W.SL.s5856160107412720595x4,none,(.fields ⟨[.str ⟨⟨[114,101,97,100,95,117,105,110,116,49]⟩⟩ 291,.str ⟨⟨[114,101,97,100,95,117,105,110,116,49]⟩⟩ 292,.str ⟨⟨[47,99,108,97,105,109,47,99,117,116,46,112,121]⟩⟩ 293,.int (6) 0,.int (1) 0,.int (0) 0,.int (0) 0,.int (3) 0,.ref 39,.bool true,.int (276) 0,.ref 40,.none,.ref 41,.ref 42,.ref 43,.int (296) 0,.int (6) 0,.str ⟨⟨[47,99,108,97,105,109,47,99,117,116,46,112,121]⟩⟩ 297]⟩),⟨[]⟩⟩
noncomputable def o45 (P : Params) : Obj := ⟨.type PySem.W.SL.s7174869446012820540x8,none,(.func (fnO (defAt pwF.main.body 3) ⟨⟨[114,101,97,100,95,117,105,110,116,49]⟩⟩ ⟨⟨[114,101,97,100,95,117,105,110,116,49]⟩⟩ (.none) (.none) (.none) (.str ⟨⟨[99,112,121,51,49,51,46,112,105,99,107,108,101,116,111,111,108,115]⟩⟩ 289) (.ref 44) (.none) 3 0 none)),⟨[]⟩⟩
noncomputable def o51 (P : Params) : Obj := ⟨.type PySem.W.SL.s5856160107412720595x4,none,(.fields ⟨[.str ⟨⟨[100,101,99,111,100,101,95,108,111,110,103]⟩⟩ 301,.str ⟨⟨[100,101,99,111,100,101,95,108,111,110,103]⟩⟩ 302,.str ⟨⟨[47,99,108,97,105,109,47,99,117,116,46,112,121]⟩⟩ 303,.int (12) 0,.int (1) 0,.int (0) 0,.int (0) 0,.int (3) 0,.ref 46,.bool true,.int (276) 0,.ref 47,.none,.ref 48,.ref 49,.ref 50,.int (305) 0,.int (12) 0,.str ⟨⟨[47,99,108,97,105,109,47,99,117,116,46,112,121]⟩⟩ 306]⟩),⟨[]⟩⟩
noncomputable def o52 (P : Params) : Obj := ⟨.type PySem.W.SL.s7174869446012820540x8,none,(.func (fnO (defAt pwF.main.body 5) ⟨⟨[100,101,99,111,100,101,95,108,111,110,103]⟩⟩ ⟨⟨[100,101,99,111,100,101,95,108,111,110,103]⟩⟩ (.none) (.none) (.none) (.str ⟨⟨[112,105,99,107,108,101]⟩⟩ 299) (.ref 51) (.none) 3 0 none)),⟨[]⟩⟩
noncomputable def o58 (P : Params) : Obj := ⟨.type PySem.W.SL.s5856160107412720595x4,none,(.fields ⟨[.str ⟨⟨[114,101,97,100,95,108,111,110,103,49]⟩⟩ 310,.str ⟨⟨[114,101,97,100,95,108,111,110,103,49]⟩⟩ 311,.str ⟨⟨[47,99,108,97,105,109,47,99,117,116,46,112,121]⟩⟩ 312,.int (15) 0,.int (1) 0,.int (0) 0,.int (0) 0,.int (3) 0,.ref 53,.bool true,.int (276) 0,.ref 54,.none,.ref 55,.ref 56,.ref 57,.int (316) 0,.int (15) 0,.str ⟨⟨[47,99,108,97,105,109,47,99,117,116,46,112,121]⟩⟩ 317]⟩),⟨[]⟩⟩
noncomputable def o59 (P : Params) : Obj := ⟨.type PySem.W.SL.s7174869446012820540x8,none,(.func (fnO (defAt pwF.main.body 7) ⟨⟨[114,101,97,100,95,108,111,110,103,49]⟩⟩ ⟨⟨[114,101,97,100,95,108,111,110,103,49]⟩⟩ (.none) (.none) (.none) (.str ⟨⟨[99,112,121,51,49,51,46,112,105,99,107,108,101,116,111,111,108,115]⟩⟩ 308) (.ref 58) (.none) 3 0 none)),⟨[]⟩⟩
noncomputable def o63 (P : Params) : Obj := ⟨.type PySem.W.SL.s2766695959194262286x5,none,(.seq ⟨[.int (14) 0,.int (14) 0,.int (4) 0,.int (1) 0,.int (1) 0,.int (9) 0,.int (0) 0,.int (64) 0,.int (0) 0,.int (1342177280) 0,.int (0) 0,.int (0) 0,.int (0) 0,.int (0) 0,.int (0) 0,.int (17) 0,.int (0) 0,.int (13) 0,.int (11) 0,.int (9) 0,.int (0) 0,.int (64) 0,.int (0) 0,.int (1342177280) 0,.int (0) 0,.int (0) 0,.int (0) 0,.int (0) 0,.int (0) 0,.int (17) 0,.int (1) 0,.int (1) 0]⟩ 0),⟨[]⟩⟩
noncomputable def o64 (P : Params) : Obj := ⟨.type PySem.W.SL.s12171344214640291687x10,none,(.fields ⟨[.str ⟨⟨[40,91,38,126,124,93,41]⟩⟩ 322,.int (32) 357,.int (1) 0,.none,.none,.ref 63,.int (0) 0]⟩),⟨[]⟩⟩
noncomputable def o70 (P : Params) : Obj := ⟨.type PySem.W.SL.s5856160107412720595x4,none,(.fields ⟨[.str ⟨⟨[116,114,97,110,115,108,97,116,101]⟩⟩ 359,.str ⟨⟨[116,114,97,110,115,108,97,116,101]⟩⟩ 360,.str ⟨⟨[47,99,108,97,105,109,47,99,117,116,46,112,121]⟩⟩ 361,.int (23) 0,.int (1) 0,.int (0) 0,.int (0) 0,.int (3) 0,.ref 65,.bool true,.int (276) 0,.ref 66,.none,.ref 67,.ref 68,.ref 69,.int (365) 0,.int (23) 0,.str ⟨⟨[47,99,108,97,105,109,47,99,117,116,46,112,121]⟩⟩ 366]⟩),⟨[]⟩⟩
noncomputable def o71 (P : Params) : Obj := ⟨.type PySem.W.SL.s7174869446012820540x8,none,(.func (fnO (defAt pwF.main.body 10) ⟨⟨[116,114,97,110,115,108,97,116,101]⟩⟩ ⟨⟨[116,114,97,110,115,108,97,116,101]⟩⟩ (.none) (.none) (.none) (.str ⟨⟨[99,112,121,51,49,51,46,102,110,109,97,116,99,104]⟩⟩ 319) (.ref 70) (.none) 3 0 none)),⟨[]⟩⟩
noncomputable def o73 (P : Params) : Obj := ⟨.type PySem.W.SL.s14018661285674007319x4,none,(.dict ⟨[⟨40,.int (40) 371,.str ⟨⟨[92,40]⟩⟩ 375⟩,⟨41,.int (41) 377,.str ⟨⟨[92,41]⟩⟩ 381⟩,⟨91,.int (91) 383,.str ⟨⟨[92,91]⟩⟩ 387⟩,⟨93,.int (93) 389,.str ⟨⟨[92,93]⟩⟩ 393⟩,⟨123,.int (123) 395,.str ⟨⟨[92,123]⟩⟩ 399⟩,⟨125,.int (125) 401,.str ⟨⟨[92,125]⟩⟩ 405⟩,⟨63,.int (63) 407,.str ⟨⟨[92,63]⟩⟩ 411⟩,⟨42,.int (42) 413,.str ⟨⟨[92,42]⟩⟩ 417⟩,⟨43,.int (43) 419,.str ⟨⟨[92,43]⟩⟩ 423⟩,⟨45,.int (45) 425,.str ⟨⟨[92,45]⟩⟩ 429⟩,⟨124,.int (124) 431,.str ⟨⟨[92,124]⟩⟩ 435⟩,⟨94,.int (94) 437,.str ⟨⟨[92,94]⟩⟩ 441⟩,⟨36,.int (36) 443,.str ⟨⟨[92,36]⟩⟩ 447⟩,⟨92,.int (92) 449,.str ⟨⟨[92,92]⟩⟩ 453⟩,⟨46,.int (46) 455,.str ⟨⟨[92,46]⟩⟩ 459⟩,⟨38,.int (38) 461,.str ⟨⟨[92,38]⟩⟩ 465⟩,⟨126,.int (126) 467,.str ⟨⟨[92,126]⟩⟩ 471⟩,⟨35,.int (35) 473,.str ⟨⟨[92,35]⟩⟩ 477⟩,⟨32,.int (32) 479,.str ⟨⟨[92,32]⟩⟩ 483⟩,⟨9,.int (9) 485,.str ⟨⟨[92,9]⟩⟩ 489⟩,⟨10,.int (10) 491,.str ⟨⟨[92,10]⟩⟩ 495⟩,⟨13,.int (13) 497,.str ⟨⟨[92,13]⟩⟩ 501⟩,⟨11,.int (11) 503,.str ⟨⟨[92,11]⟩⟩ 507⟩,⟨12,.int (12) 509,.str ⟨⟨[92,12]⟩⟩ 513⟩]⟩ 24),⟨[]⟩⟩
noncomputable def o82 (P : Params) : Obj := ⟨.type PySem.W.SL.s5856160107412720595x4,none,(.fields ⟨[.str ⟨⟨[101,115,99,97,112,101]⟩⟩ 516,.str ⟨⟨[101,115,99,97,112,101]⟩⟩ 517,.str ⟨⟨[47,99,108,97,105,109,47,99,117,116,46,112,121]⟩⟩ 518,.int (29) 0,.int (1) 0,.int (0) 0,.int (0) 0,.int (3) 0,.ref 77,.bool true,.int (276) 0,.ref 78,.none,.ref 79,.ref 80,.ref 81,.int (520) 0,.int (29) 0,.str ⟨⟨[47,99,108,97,105,109,47,99,117,116,46,112,121]⟩⟩ 521]⟩),⟨[]⟩⟩
noncomputable def o83 (P : Params) : Obj := ⟨.type PySem.W.SL.s7174869446012820540x8,none,(.func (fnO (defAt pwF.main.body 13) ⟨⟨[101,115,99,97,112,101]⟩⟩ ⟨⟨[101,115,99,97,112,101]⟩⟩ (.none) (.none) (.none) (.str ⟨⟨[114,101]⟩⟩ 368) (.ref 82) (.none) 3 0 none)),⟨[]⟩⟩
noncomputable def o85 (P : Params) : Obj := ⟨.none,none,(.fields ⟨[]⟩),⟨[]⟩⟩
noncomputable def o89 (P : Params) : Obj := ⟨.type PySem.W.SL.s5856160107412720595x4,none,(.fields ⟨[.str ⟨⟨[95,116,114,97,110,115,108,97,116,101]⟩⟩ 525,.str ⟨⟨[95,116,114,97,110,115,108,97,116,101]⟩⟩ 526,.str ⟨⟨[47,99,108,97,105,109,47,99,117,116,46,112,121]⟩⟩ 527,.int (36) 0,.int (3) 0,.int (0) 0,.int (0) 0,.int (3) 0,.ref 84,.bool true,.int (276) 0,.ref 85,.none,.ref 86,.ref 87,.ref 88,.int (541) 0,.int (36) 0,.str ⟨⟨[47,99,108,97,105,109,47,99,117,116,46,112,121]⟩⟩ 542]⟩),⟨[]⟩⟩
noncomputable def o90 (P : Params) : Obj := ⟨.type PySem.W.SL.s7174869446012820540x8,none,(.func (fnO (defAt pwF.main.body 15) ⟨⟨[95,116,114,97,110,115,108,97,116,101]⟩⟩ ⟨⟨[95,116,114,97,110,115,108,97,116,101]⟩⟩ (.none) (.none) (.none) (.str ⟨⟨[99,112,121,51,49,51,46,102,110,109,97,116,99,104]⟩⟩ 523) (.ref 89) (.none) 3 0 none)),⟨[]⟩⟩
noncomputable def o96 (P : Params) : Obj := ⟨.type PySem.W.SL.s5856160107412720595x4,none,(.fields ⟨[.str ⟨⟨[95,106,111,105,110,95,116,114,97,110,115,108,97,116,101,100,95,112,97,114,116,115]⟩⟩ 544,.str ⟨⟨[95,106,111,105,110,95,116,114,97,110,115,108,97,116,101,100,95,112,97,114,116,115]⟩⟩ 545,.str ⟨⟨[47,99,108,97,105,109,47,99,117,116,46,112,121]⟩⟩ 546,.int (98) 0,.int (2) 0,.int (0) 0,.int (0) 0,.int (3) 0,.ref 91,.bool true,.int (276) 0,.ref 92,.none,.ref 93,.ref 94,.ref 95,.int (554) 0,.int (98) 0,.str ⟨⟨[47,99,108,97,105,109,47,99,117,116,46,112,121]⟩⟩ 555]⟩),⟨[]⟩⟩
noncomputable def o97 (P : Params) : Obj := ⟨.type PySem.W.SL.s7174869446012820540x8,none,(.func (fnO (defAt pwF.main.body 16) ⟨⟨[95,106,111,105,110,95,116,114,97,110,115,108,97,116,101,100,95,112,97,114,116,115]⟩⟩ ⟨⟨[95,106,111,105,110,95,116,114,97,110,115,108,97,116,101,100,95,112,97,114,116,115]⟩⟩ (.none) (.none) (.none) (.str ⟨⟨[99,112,121,51,49,51,46,102,110,109,97,116,99,104]⟩⟩ 523) (.ref 96) (.none) 3 0 none)),⟨[]⟩⟩
noncomputable def o111 (P : Params) : Obj := ⟨.type PySem.W.SL.s5856160107412720595x4,none,(.fields ⟨[.str ⟨⟨[95,95,105,110,105,116,95,95]⟩⟩ 581,.str ⟨⟨[95,78,111,100,101,73,110,102,111,46,95,95,105,110,105,116,95,95]⟩⟩ 582,.str ⟨⟨[47,99,108,97,105,109,47,99,117,116,46,112,121]⟩⟩ 583,.int (131) 0,.int (2) 0,.int (0) 0,.int (0) 0,.int (3) 0,.ref 106,.bool true,.int (276) 0,.ref 107,.none,.ref 108,.ref 109,.ref 110,.int (586) 0,.int (131) 0,.str ⟨⟨[47,99,108,97,105,109,47,99,117,116,46,112,121]⟩⟩ 587]⟩),⟨[]⟩⟩
noncomputable def o112 (P : Params) : Obj := ⟨.type PySem.W.SL.s7174869446012820540x8,none,(.func (fnO (defAt (clsAt pwF.main.body 20) 1) ⟨⟨[95,95,105,110,105,116,95,95]⟩⟩ ⟨⟨[95,78,111,100,101,73,110,102,111,46,95,95,105,110,105,116,95,95]⟩⟩ (.none) (.none) (.none) (.str ⟨⟨[99,112,121,51,49,51,46,103,114,97,112,104,108,105,98]⟩⟩ 557) (.ref 111) (.none) 3 0 none)),⟨[]⟩⟩
noncomputable def o115 (P : Params) : Obj := ⟨.type PySem.W.SL.s14018661285674007319x4,none,(.dict ⟨[⟨PyData.keyHash P ⟨⟨[95,95,109,111,100,117,108,101,95,95]⟩⟩,.str ⟨⟨[95,95,109,111,100,117,108,101,95,95]⟩⟩ 572,.str ⟨⟨[99,112,121,51,49,51,46,103,114,97,112,104,108,105,98]⟩⟩ 557⟩,⟨PyData.keyHash P ⟨⟨[95,95,102,105,114,115,116,108,105,110,101,110,111,95,95]⟩⟩,.str ⟨⟨[95,95,102,105,114,115,116,108,105,110,101,110,111,95,95]⟩⟩ 576,.int (128) 575⟩,⟨PyData.keyHash P ⟨⟨[95,95,115,108,111,116,115,95,95]⟩⟩,.str ⟨⟨[95,95,115,108,111,116,115,95,95]⟩⟩ 580,.ref 105⟩,⟨PyData.keyHash P ⟨⟨[95,95,105,110,105,116,95,95]⟩⟩,.str ⟨⟨[95,95,105,110,105,116,95,95]⟩⟩ 588,.ref 112⟩,⟨PyData.keyHash P ⟨⟨[95,95,115,116,97,116,105,99,95,97,116,116,114,105,98,117,116,101,115,95,95]⟩⟩,.str ⟨⟨[95,95,115,116,97,116,105,99,95,97,116,116,114,105,98,117,116,101,115,95,95]⟩⟩ 592,.ref 113⟩,⟨PyData.keyHash P ⟨⟨[110,111,100,101]⟩⟩,.str ⟨⟨[110,111,100,101]⟩⟩ 594,.ref 117⟩,⟨PyData.keyHash P ⟨⟨[110,112,114,101,100,101,99,101,115,115,111,114,115]⟩⟩,.str ⟨⟨[110,112,114,101,100,101,99,101,115,115,111,114,115]⟩⟩ 596,.ref 118⟩,⟨PyData.keyHash P ⟨⟨[115,117,99,99,101,115,115,111,114,115]⟩⟩,.str ⟨⟨[115,117,99,99,101,115,115,111,114,115]⟩⟩ 598,.ref 119⟩,⟨PyData.keyHash P ⟨⟨[95,95,100,111,99,95,95]⟩⟩,.str ⟨⟨[95,95,100,111,99,95,95]⟩⟩ 599,.none⟩]⟩ 5),⟨[]⟩⟩
noncomputable def o116 (P : Params) : Obj := ⟨.type PySem.W.SL.s17162191345867700912x4,none,(.cls { name := ⟨⟨[95,78,111,100,101,73,110,102,111]⟩⟩,bases := [.type PySem.W.SL.s2742458400755230247x6],mro := [.ref 116,.type PySem.W.SL.s2742458400755230247x6],ns := 115,qualname := ⟨⟨[95,78,111,100,101,73,110,102,111]⟩⟩,hasDict := false,slotNames := [⟨⟨[110,111,100,101]⟩⟩,⟨⟨[110,112,114,101,100,101,99,101,115,115,111,114,115]⟩⟩,⟨⟨[115,117,99,99,101,115,115,111,114,115]⟩⟩],subclasses := [],abstract := false,collection := none,hasDel := false }),⟨[none,none,(some (.str ⟨⟨[95,78,111,100,101,73,110,102,111]⟩⟩ 565)),(some (.str ⟨⟨[95,78,111,100,101,73,110,102,111]⟩⟩ 573)),(some (.builtin PySem.W.SL.s11443829558043349243x14)),(some (.bool false))]⟩⟩
noncomputable def o117 (P : Params) : Obj := ⟨.type PySem.W.SL.s5699418376593618685x17,none,(.fields ⟨[.str ⟨⟨[110,111,100,101]⟩⟩ 593,.ref 116,.builtin PySem.W.SL.s6779124196712981104x10,.builtin PySem.W.SL.s2924395122027826103x14,.int (2) 0]⟩),⟨[]⟩⟩
noncomputable def o118 (P : Params) : Obj := ⟨.type PySem.W.SL.s5699418376593618685x17,none,(.fields ⟨[.str ⟨⟨[110,112,114,101,100,101,99,101,115,115,111,114,115]⟩⟩ 595,.ref 116,.builtin PySem.W.SL.s6779124196712981104x10,.builtin PySem.W.SL.s2924395122027826103x14,.int (1) 0]⟩),⟨[]⟩⟩
noncomputable def o119 (P : Params) : Obj := ⟨.type PySem.W.SL.s5699418376593618685x17,none,(.fields ⟨[.str ⟨⟨[115,117,99,99,101,115,115,111,114,115]⟩⟩ 597,.ref 116,.builtin PySem.W.SL.s6779124196712981104x10,.builtin PySem.W.SL.s2924395122027826103x14,.int (0) 0]⟩),⟨[]⟩⟩
noncomputable def o142 (P : Params) : Obj := ⟨.type PySem.W.SL.s2766695959194262286x5,none,(.seq ⟨[.none]⟩ 0),⟨[]⟩⟩
noncomputable def o148 (P : Params) : Obj := ⟨.type PySem.W.SL.s5856160107412720595x4,none,(.fields ⟨[.str ⟨⟨[95,95,105,110,105,116,95,95]⟩⟩ 632,.str ⟨⟨[84,111,112,111,108,111,103,105,99,97,108,83,111,114,116,101,114,46,95,95,105,110,105,116,95,95]⟩⟩ 633,.str ⟨⟨[47,99,108,97,105,109,47,99,117,116,46,112,121]⟩⟩ 634,.int (139) 0,.int (2) 0,.int (0) 0,.int (0) 0,.int (3) 0,.ref 143,.bool true,.int (276) 0,.ref 144,.none,.ref 145,.ref 146,.ref 147,.int (639) 0,.int (139) 0,.str ⟨⟨[47,99,108,97,105,109,47,99,117,116,46,112,121]⟩⟩ 640]⟩),⟨[]⟩⟩
noncomputable def o149 (P : Params) : Obj := ⟨.type PySem.W.SL.s7174869446012820540x8,none,(.func (fnO (defAt (clsAt pwF.main.body 22) 0) ⟨⟨[95,95,105,110,105,116,95,95]⟩⟩ ⟨⟨[84,111,112,111,108,111,103,105,99,97,108,83,111,114,116,101,114,46,95,95,105,110,105,116,95,95]⟩⟩ (.ref 142) (.none) (.none) (.str ⟨⟨[99,112,121,51,49,51,46,103,114,97,112,104,108,105,98]⟩⟩ 557) (.ref 148) (.none) 3 0 none)),⟨[]⟩⟩
noncomputable def o155 (P : Params) : Obj := ⟨.type PySem.W.SL.s5856160107412720595x4,none,(.fields ⟨[.str ⟨⟨[95,103,101,116,95,110,111,100,101,105,110,102,111]⟩⟩ 642,.str ⟨⟨[84,111,112,111,108,111,103,105,99,97,108,83,111,114,116,101,114,46,95,103,101,116,95,110,111,100,101,105,110,102,111]⟩⟩ 643,.str ⟨⟨[47,99,108,97,105,109,47,99,117,116,46,112,121]⟩⟩ 644,.int (148) 0,.int (2) 0,.int (0) 0,.int (0) 0,.int (3) 0,.ref 150,.bool true,.int (276) 0,.ref 151,.none,.ref 152,.ref 153,.ref 154,.int (648) 0,.int (148) 0,.str ⟨⟨[47,99,108,97,105,109,47,99,117,116,46,112,121]⟩⟩ 649]⟩),⟨[]⟩⟩
noncomputable def o156 (P : Params) : Obj := ⟨.type PySem.W.SL.s7174869446012820540x8,none,(.func (fnO (defAt (clsAt pwF.main.body 22) 1) ⟨⟨[95,103,101,116,95,110,111,100,101,105,110,102,111]⟩⟩ ⟨⟨[84,111,112,111,108,111,103,105,99,97,108,83,111,114,116,101,114,46,95,103,101,116,95,110,111,100,101,105,110,102,111]⟩⟩ (.none) (.none) (.none) (.str ⟨⟨[99,112,121,51,49,51,46,103,114,97,112,104,108,105,98]⟩⟩ 557) (.ref 155) (.none) 3 0 none)),⟨[]⟩⟩
noncomputable def o162 (P : Params) : Obj := ⟨.type PySem.W.SL.s5856160107412720595x4,none,(.fields ⟨[.str ⟨⟨[97,100,100]⟩⟩ 651,.str ⟨⟨[84,111,112,111,108,111,103,105,99,97,108,83,111,114,116,101,114,46,97,100,100]⟩⟩ 652,.str ⟨⟨[47,99,108,97,105,109,47,99,117,116,46,112,121]⟩⟩ 653,.int (153) 0,.int (2) 0,.int (0) 0,.int (0) 0,.int (7) 0,.ref 157,.bool true,.int (276) 0,.ref 158,.none,.ref 159,.ref 160,.ref 161,.int (660) 0,.int (153) 0,.str ⟨⟨[47,99,108,97,105,109,47,99,117,116,46,112,121]⟩⟩ 661]⟩),⟨[]⟩⟩
noncomputable def o163 (P : Params) : Obj := ⟨.type PySem.W.SL.s7174869446012820540x8,none,(.func (fnO (defAt (clsAt pwF.main.body 22) 2) ⟨⟨[97,100,100]⟩⟩ ⟨⟨[84,111,112,111,108,111,103,105,99,97,108,83,111,114,116,101,114,46,97,100,100]⟩⟩ (.none) (.none) (.none) (.str ⟨⟨[99,112,121,51,49,51,46,103,114,97,112,104,108,105,98]⟩⟩ 557) (.ref 162) (.none) 3 0 none)),⟨[]⟩⟩
noncomputable def o167 (P : Params) : Obj := ⟨.type PySem.W.SL.s5856160107412720595x4,none,(.fields ⟨[.str ⟨⟨[112,114,101,112,97,114,101]⟩⟩ 663,.str ⟨⟨[84,111,112,111,108,111,103,105,99,97,108,83,111,114,116,101,114,46,112,114,101,112,97,114,101]⟩⟩ 664,.str ⟨⟨[47,99,108,97,105,109,47,99,117,116,46,112,121]⟩⟩ 665,.int (162) 0,.int (1) 0,.int (0) 0,.int (0) 0,.int (3) 0,.ref 164,.bool true,.int (276) 0,.ref 165,.none,.none,.none,.ref 166,.int (666) 0,.int (162) 0,.str ⟨⟨[47,99,108,97,105,109,47,99,117,116,46,112,121]⟩⟩ 667]⟩),⟨[]⟩⟩
noncomputable def o168 (P : Params) : Obj := ⟨.type PySem.W.SL.s7174869446012820540x8,none,(.func (fnO (defAt (clsAt pwF.main.body 22) 3) ⟨⟨[112,114,101,112,97,114,101]⟩⟩ ⟨⟨[84,111,112,111,108,111,103,105,99,97,108,83,111,114,116,101,114,46,112,114,101,112,97,114,101]⟩⟩ (.none) (.none) (.none) (.str ⟨⟨[99,112,121,51,49,51,46,103,114,97,112,104,108,105,98]⟩⟩ 557) (.ref 167) (.none) 3 0 none)),⟨[]⟩⟩
noncomputable def o174 (P : Params) : Obj := ⟨.type PySem.W.SL.s5856160107412720595x4,none,(.fields ⟨[.str ⟨⟨[103,101,116,95,114,101,97,100,121]⟩⟩ 669,.str ⟨⟨[84,111,112,111,108,111,103,105,99,97,108,83,111,114,116,101,114,46,103,101,116,95,114,101,97,100,121]⟩⟩ 670,.str ⟨⟨[47,99,108,97,105,109,47,99,117,116,46,112,121]⟩⟩ 671,.int (170) 0,.int (1) 0,.int (0) 0,.int (0) 0,.int (3) 0,.ref 169,.bool true,.int (276) 0,.ref 170,.none,.ref 171,.ref 172,.ref 173,.int (676) 0,.int (170) 0,.str ⟨⟨[47,99,108,97,105,109,47,99,117,116,46,112,121]⟩⟩ 677]⟩),⟨[]⟩⟩
noncomputable def o175 (P : Params) : Obj := ⟨.type PySem.W.SL.s7174869446012820540x8,none,(.func (fnO (defAt (clsAt pwF.main.body 22) 4) ⟨⟨[103,101,116,95,114,101,97,100,121]⟩⟩ ⟨⟨[84,111,112,111,108,111,103,105,99,97,108,83,111,114,116,101,114,46,103,101,116,95,114,101,97,100,121]⟩⟩ (.none) (.none) (.none) (.str ⟨⟨[99,112,121,51,49,51,46,103,114,97,112,104,108,105,98]⟩⟩ 557) (.ref 174) (.none) 3 0 none)),⟨[]⟩⟩
noncomputable def o181 (P : Params) : Obj := ⟨.type PySem.W.SL.s5856160107412720595x4,none,(.fields ⟨[.str ⟨⟨[105,115,95,97,99,116,105,118,101]⟩⟩ 679,.str ⟨⟨[84,111,112,111,108,111,103,105,99,97,108,83,111,114,116,101,114,46,105,115,95,97,99,116,105,118,101]⟩⟩ 680,.str ⟨⟨[47,99,108,97,105,109,47,99,117,116,46,112,121]⟩⟩ 681,.int (181) 0,.int (1) 0,.int (0) 0,.int (0) 0,.int (3) 0,.ref 176,.bool true,.int (276) 0,.ref 177,.none,.ref 178,.ref 179,.ref 180,.int (683) 0,.int (181) 0,.str ⟨⟨[47,99,108,97,105,109,47,99,117,116,46,112,121]⟩⟩ 684]⟩),⟨[]⟩⟩
noncomputable def o182 (P : Params) : Obj := ⟨.type PySem.W.SL.s7174869446012820540x8,none,(.func (fnO (defAt (clsAt pwF.main.body 22) 5) ⟨⟨[105,115,95,97,99,116,105,118,101]⟩⟩ ⟨⟨[84,111,112,111,108,111,103,105,99,97,108,83,111,114,116,101,114,46,105,115,95,97,99,116,105,118,101]⟩⟩ (.none) (.none) (.none) (.str ⟨⟨[99,112,121,51,49,51,46,103,114,97,112,104,108,105,98]⟩⟩ 557) (.ref 181) (.none) 3 0 none)),⟨[]⟩⟩
noncomputable def o195 (P : Params) : Obj := ⟨.type PySem.W.SL.s5856160107412720595x4,none,(.fields ⟨[.str ⟨⟨[100,111,110,101]⟩⟩ 693,.str ⟨⟨[84,111,112,111,108,111,103,105,99,97,108,83,111,114,116,101,114,46,100,111,110,101]⟩⟩ 694,.str ⟨⟨[47,99,108,97,105,109,47,99,117,116,46,112,121]⟩⟩ 695,.int (189) 0,.int (1) 0,.int (0) 0,.int (0) 0,.int (7) 0,.ref 190,.bool true,.int (276) 0,.ref 191,.none,.ref 192,.ref 193,.ref 194,.int (704) 0,.int (189) 0,.str ⟨⟨[47,99,108,97,105,109,47,99,117,116,46,112,121]⟩⟩ 705]⟩),⟨[]⟩⟩
noncomputable def o196 (P : Params) : Obj := ⟨.type PySem.W.SL.s7174869446012820540x8,none,(.func (fnO (defAt (clsAt pwF.main.body 22) 7) ⟨⟨[100,111,110,101]⟩⟩ ⟨⟨[84,111,112,111,108,111,103,105,99,97,108,83,111,114,116,101,114,46,100,111,110,101]⟩⟩ (.none) (.none) (.none) (.str ⟨⟨[99,112,121,51,49,51,46,103,114,97,112,104,108,105,98]⟩⟩ 557) (.ref 195) (.none) 3 0 none)),⟨[]⟩⟩
noncomputable def o202 (P : Params) : Obj := ⟨.type PySem.W.SL.s5856160107412720595x4,none,(.fields ⟨[.str ⟨⟨[95,102,105,110,100,95,99,121,99,108,101]⟩⟩ 707,.str ⟨⟨[84,111,112,111,108,111,103,105,99,97,108,83,111,114,116,101,114,46,95,102,105,110,100,95,99,121,99,108,101]⟩⟩ 708,.str ⟨⟨[47,99,108,97,105,109,47,99,117,116,46,112,121]⟩⟩ 709,.int (212) 0,.int (1) 0,.int (0) 0,.int (0) 0,.int (3) 0,.ref 197,.bool true,.int (276) 0,.ref 198,.none,.ref 199,.ref 200,.ref 201,.int (717) 0,.int (212) 0,.str ⟨⟨[47,99,108,97,105,109,47,99,117,116,46,112,121]⟩⟩ 718]⟩),⟨[]⟩⟩
noncomputable def o203 (P : Params) : Obj := ⟨.type PySem.W.SL.s7174869446012820540x8,none,(.func (fnO (defAt (clsAt pwF.main.body 22) 8) ⟨⟨[95,102,105,110,100,95,99,121,99,108,101]⟩⟩ ⟨⟨[84,111,112,111,108,111,103,105,99,97,108,83,111,114,116,101,114,46,95,102,105,110,100,95,99,121,99,108,101]⟩⟩ (.none) (.none) (.none) (.str ⟨⟨[99,112,121,51,49,51,46,103,114,97,112,104,108,105,98]⟩⟩ 557) (.ref 202) (.none) 3 0 none)),⟨[]⟩⟩
noncomputable def o212 (P : Params) : Obj := ⟨.type PySem.W.SL.s14018661285674007319x4,none,(.dict ⟨[⟨PyData.keyHash P ⟨⟨[95,95,109,111,100,117,108,101,95,95]⟩⟩,.str ⟨⟨[95,95,109,111,100,117,108,101,95,95]⟩⟩ 627,.str ⟨⟨[99,112,121,51,49,51,46,103,114,97,112,104,108,105,98]⟩⟩ 557⟩,⟨PyData.keyHash P ⟨⟨[95,95,102,105,114,115,116,108,105,110,101,110,111,95,95]⟩⟩,.str ⟨⟨[95,95,102,105,114,115,116,108,105,110,101,110,111,95,95]⟩⟩ 631,.int (137) 630⟩,⟨PyData.keyHash P ⟨⟨[95,95,105,110,105,116,95,95]⟩⟩,.str ⟨⟨[95,95,105,110,105,116,95,95]⟩⟩ 641,.ref 149⟩,⟨PyData.keyHash P ⟨⟨[95,103,101,116,95,110,111,100,101,105,110,102,111]⟩⟩,.str ⟨⟨[95,103,101,116,95,110,111,100,101,105,110,102,111]⟩⟩ 650,.ref 156⟩,⟨PyData.keyHash P ⟨⟨[97,100,100]⟩⟩,.str ⟨⟨[97,100,100]⟩⟩ 662,.ref 163⟩,⟨PyData.keyHash P ⟨⟨[112,114,101,112,97,114,101]⟩⟩,.str ⟨⟨[112,114,101,112,97,114,101]⟩⟩ 668,.ref 168⟩,⟨PyData.keyHash P ⟨⟨[103,101,116,95,114,101,97,100,121]⟩⟩,.str ⟨⟨[103,101,116,95,114,101,97,100,121]⟩⟩ 678,.ref 175⟩,⟨PyData.keyHash P ⟨⟨[105,115,95,97,99,116,105,118,101]⟩⟩,.str ⟨⟨[105,115,95,97,99,116,105,118,101]⟩⟩ 685,.ref 182⟩,⟨PyData.keyHash P ⟨⟨[95,95,98,111,111,108,95,95]⟩⟩,.str ⟨⟨[95,95,98,111,111,108,95,95]⟩⟩ 692,.ref 189⟩,⟨PyData.keyHash P ⟨⟨[100,111,110,101]⟩⟩,.str ⟨⟨[100,111,110,101]⟩⟩ 706,.ref 196⟩,⟨PyData.keyHash P ⟨⟨[95,102,105,110,100,95,99,121,99,108,101]⟩⟩,.str ⟨⟨[95,102,105,110,100,95,99,121,99,108,101]⟩⟩ 719,.ref 203⟩,⟨PyData.keyHash P ⟨⟨[115,116,97,116,105,99,95,111,114,100,101,114]⟩⟩,.str ⟨⟨[115,116,97,116,105,99,95,111,114,100,101,114]⟩⟩ 726,.ref 210⟩,⟨PyData.keyHash P ⟨⟨[95,95,115,116,97,116,105,99,95,97,116,116,114,105,98,117,116,101,115,95,95]⟩⟩,.str ⟨⟨[95,95,115,116,97,116,105,99,95,97,116,116,114,105,98,117,116,101,115,95,95]⟩⟩ 731,.ref 211⟩,⟨PyData.keyHash P ⟨⟨[95,95,100,105,99,116,95,95]⟩⟩,.str ⟨⟨[95,95,100,105,99,116,95,95]⟩⟩ 733,.ref 214⟩,⟨PyData.keyHash P ⟨⟨[95,95,119,101,97,107,114,101,102,95,95]⟩⟩,.str ⟨⟨[95,95,119,101,97,107,114,101,102,95,95]⟩⟩ 735,.ref 215⟩,⟨PyData.keyHash P ⟨⟨[95,95,100,111,99,95,95]⟩⟩,.str ⟨⟨[95,95,100,111,99,95,95]⟩⟩ 736,.none⟩]⟩ 4),⟨[]⟩⟩
noncomputable def o213 (P : Params) : Obj := ⟨.type PySem.W.SL.s17162191345867700912x4,none,(.cls { name := ⟨⟨[84,111,112,111,108,111,103,105,99,97,108,83,111,114,116,101,114]⟩⟩,bases := [.type PySem.W.SL.s2742458400755230247x6],mro := [.ref 213,.type PySem.W.SL.s2742458400755230247x6],ns := 212,qualname := ⟨⟨[84,111,112,111,108,111,103,105,99,97,108,83,111,114,116,101,114]⟩⟩,hasDict := true,slotNames := [],subclasses := [],abstract := false,collection := none,hasDel := false }),⟨[none,none,(some (.str ⟨⟨[84,111,112,111,108,111,103,105,99,97,108,83,111,114,116,101,114]⟩⟩ 620)),(some (.str ⟨⟨[84,111,112,111,108,111,103,105,99,97,108,83,111,114,116,101,114]⟩⟩ 628)),(some (.builtin PySem.W.SL.s11443829558043349243x14)),(some (.bool true))]⟩⟩
noncomputable def o219 (P : Params) : Obj := ⟨.none,none,(.fields ⟨[]⟩),⟨[]⟩⟩
noncomputable def o223 (P : Params) : Obj := ⟨.type PySem.W.SL.s5856160107412720595x4,none,(.fields ⟨[.str ⟨⟨[95,108,97,119,95,115,116,114,101,97,109]⟩⟩ 741,.str ⟨⟨[95,108,97,119,95,115,116,114,101,97,109]⟩⟩ 742,.str ⟨⟨[47,99,108,97,105,109,47,99,117,116,46,112,121]⟩⟩ 743,.int (244) 0,.int (1) 0,.int (0) 0,.int (0) 0,.int (3) 0,.ref 218,.bool true,.int (276) 0,.ref 219,.none,.ref 220,.ref 221,.ref 222,.int (749) 0,.int (244) 0,.str ⟨⟨[47,99,108,97,105,109,47,99,117,116,46,112,121]⟩⟩ 750]⟩),⟨[]⟩⟩
noncomputable def o224 (P : Params) : Obj := ⟨.type PySem.W.SL.s7174869446012820540x8,none,(.func (fnO (defAt pwF.main.body 24) ⟨⟨[95,108,97,119,95,115,116,114,101,97,109]⟩⟩ ⟨⟨[95,108,97,119,95,115,116,114,101,97,109]⟩⟩ (.none) (.none) (.none) (.str ⟨⟨[108,97,119,95,105,107,48,50,48,55,95,48,49]⟩⟩ 739) (.ref 223) (.none) 3 0 none)),⟨[]⟩⟩
noncomputable def o230 (P : Params) : Obj := ⟨.type PySem.W.SL.s5856160107412720595x4,none,(.fields ⟨[.str ⟨⟨[95,108,97,119,95,110,117,109,98,101,114]⟩⟩ 752,.str ⟨⟨[95,108,97,119,95,110,117,109,98,101,114]⟩⟩ 753,.str ⟨⟨[47,99,108,97,105,109,47,99,117,116,46,112,121]⟩⟩ 754,.int (253) 0,.int (1) 0,.int (0) 0,.int (0) 0,.int (3) 0,.ref 225,.bool true,.int (276) 0,.ref 226,.none,.ref 227,.ref 228,.ref 229,.int (758) 0,.int (253) 0,.str ⟨⟨[47,99,108,97,105,109,47,99,117,116,46,112,121]⟩⟩ 759]⟩),⟨[]⟩⟩
noncomputable def o231 (P : Params) : Obj := ⟨.type PySem.W.SL.s7174869446012820540x8,none,(.func (fnO (defAt pwF.main.body 25) ⟨⟨[95,108,97,119,95,110,117,109,98,101,114]⟩⟩ ⟨⟨[95,108,97,119,95,110,117,109,98,101,114]⟩⟩ (.none) (.none) (.none) (.str ⟨⟨[108,97,119,95,105,107,48,50,48,55,95,48,49]⟩⟩ 739) (.ref 230) (.none) 3 0 none)),⟨[]⟩⟩
noncomputable def o237 (P : Params) : Obj := ⟨.type PySem.W.SL.s5856160107412720595x4,none,(.fields ⟨[.str ⟨⟨[95,108,97,119,95,112,105,101,99,101]⟩⟩ 761,.str ⟨⟨[95,108,97,119,95,112,105,101,99,101]⟩⟩ 762,.str ⟨⟨[47,99,108,97,105,109,47,99,117,116,46,112,121]⟩⟩ 763,.int (258) 0,.int (3) 0,.int (0) 0,.int (0) 0,.int (3) 0,.ref 232,.bool true,.int (276) 0,.ref 233,.none,.ref 234,.ref 235,.ref 236,.int (767) 0,.int (258) 0,.str ⟨⟨[47,99,108,97,105,109,47,99,117,116,46,112,121]⟩⟩ 768]⟩),⟨[]⟩⟩
noncomputable def o238 (P : Params) : Obj := ⟨.type PySem.W.SL.s7174869446012820540x8,none,(.func (fnO (defAt pwF.main.body 26) ⟨⟨[95,108,97,119,95,112,105,101,99,101]⟩⟩ ⟨⟨[95,108,97,119,95,112,105,101,99,101]⟩⟩ (.none) (.none) (.none) (.str ⟨⟨[108,97,119,95,105,107,48,50,48,55,95,48,49]⟩⟩ 739) (.ref 237) (.none) 3 0 none)),⟨[]⟩⟩
noncomputable def o244 (P : Params) : Obj := ⟨.type PySem.W.SL.s5856160107412720595x4,none,(.fields ⟨[.str ⟨⟨[95,108,97,119,95,112,97,116,116,101,114,110]⟩⟩ 770,.str ⟨⟨[95,108,97,119,95,112,97,116,116,101,114,110]⟩⟩ 771,.str ⟨⟨[47,99,108,97,105,109,47,99,117,116,46,112,121]⟩⟩ 772,.int (266) 0,.int (4) 0,.int (0) 0,.int (0) 0,.int (3) 0,.ref 239,.bool true,.int (276) 0,.ref 240,.none,.ref 241,.ref 242,.ref 243,.int (779) 0,.int (266) 0,.str ⟨⟨[47,99,108,97,105,109,47,99,117,116,46,112,121]⟩⟩ 780]⟩),⟨[]⟩⟩
noncomputable def o245 (P : Params) : Obj := ⟨.type PySem.W.SL.s7174869446012820540x8,none,(.func (fnO (defAt pwF.main.body 27) ⟨⟨[95,108,97,119,95,112,97,116,116,101,114,110]⟩⟩ ⟨⟨[95,108,97,119,95,112,97,116,116,101,114,110]⟩⟩ (.none) (.none) (.none) (.str ⟨⟨[108,97,119,95,105,107,48,50,48,55,95,48,49]⟩⟩ 739) (.ref 244) (.none) 3 0 none)),⟨[]⟩⟩
noncomputable def o249 (P : Params) : Obj := ⟨.type PySem.W.SL.s5856160107412720595x4,none,(.fields ⟨[.str ⟨⟨[95,108,97,119,95,119,111,114,100]⟩⟩ 782,.str ⟨⟨[95,108,97,119,95,119,111,114,100]⟩⟩ 783,.str ⟨⟨[47,99,108,97,105,109,47,99,117,116,46,112,121]⟩⟩ 784,.int (273) 0,.int (3) 0,.int (0) 0,.int (0) 0,.int (3) 0,.ref 246,.bool true,.int (276) 0,.ref 247,.none,.none,.none,.ref 248,.int (785) 0,.int (273) 0,.str ⟨⟨[47,99,108,97,105,109,47,99,117,116,46,112,121]⟩⟩ 786]⟩),⟨[]⟩⟩
noncomputable def o250 (P : Params) : Obj := ⟨.type PySem.W.SL.s7174869446012820540x8,none,(.func (fnO (defAt pwF.main.body 28) ⟨⟨[95,108,97,119,95,119,111,114,100]⟩⟩ ⟨⟨[95,108,97,119,95,119,111,114,100]⟩⟩ (.none) (.none) (.none) (.str ⟨⟨[108,97,119,95,105,107,48,50,48,55,95,48,49]⟩⟩ 739) (.ref 249) (.none) 3 0 none)),⟨[]⟩⟩
noncomputable def o256 (P : Params) : Obj := ⟨.type PySem.W.SL.s5856160107412720595x4,none,(.fields ⟨[.str ⟨⟨[95,108,97,119,95,105,116,101,109,115]⟩⟩ 788,.str ⟨⟨[95,108,97,119,95,105,116,101,109,115]⟩⟩ 789,.str ⟨⟨[47,99,108,97,105,109,47,99,117,116,46,112,121]⟩⟩ 790,.int (275) 0,.int (1) 0,.int (0) 0,.int (0) 0,.int (3) 0,.ref 251,.bool true,.int (276) 0,.ref 252,.none,.ref 253,.ref 254,.ref 255,.int (796) 0,.int (275) 0,.str ⟨⟨[47,99,108,97,105,109,47,99,117,116,46,112,121]⟩⟩ 797]⟩),⟨[]⟩⟩
noncomputable def o257 (P : Params) : Obj := ⟨.type PySem.W.SL.s7174869446012820540x8,none,(.func (fnO (defAt pwF.main.body 29) ⟨⟨[95,108,97,119,95,105,116,101,109,115]⟩⟩ ⟨⟨[95,108,97,119,95,105,116,101,109,115]⟩⟩ (.none) (.none) (.none) (.str ⟨⟨[108,97,119,95,105,107,48,50,48,55,95,48,49]⟩⟩ 739) (.ref 256) (.none) 3 0 none)),⟨[]⟩⟩
noncomputable def o261 (P : Params) : Obj := ⟨.type PySem.W.SL.s5856160107412720595x4,none,(.fields ⟨[.str ⟨⟨[95,108,97,119,95,116,97,107,101,115]⟩⟩ 799,.str ⟨⟨[95,108,97,119,95,116,97,107,101,115]⟩⟩ 800,.str ⟨⟨[47,99,108,97,105,109,47,99,117,116,46,112,121]⟩⟩ 801,.int (288) 0,.int (3) 0,.int (0) 0,.int (0) 0,.int (3) 0,.ref 258,.bool true,.int (276) 0,.ref 259,.none,.none,.none,.ref 260,.int (802) 0,.int (288) 0,.str ⟨⟨[47,99,108,97,105,109,47,99,117,116,46,112,121]⟩⟩ 803]⟩),⟨[]⟩⟩
noncomputable def o262 (P : Params) : Obj := ⟨.type PySem.W.SL.s7174869446012820540x8,none,(.func (fnO (defAt pwF.main.body 30) ⟨⟨[95,108,97,119,95,116,97,107,101,115]⟩⟩ ⟨⟨[95,108,97,119,95,116,97,107,101,115]⟩⟩ (.none) (.none) (.none) (.str ⟨⟨[108,97,119,95,105,107,48,50,48,55,95,48,49]⟩⟩ 739) (.ref 261) (.none) 3 0 none)),⟨[]⟩⟩
noncomputable def o266 (P : Params) : Obj := ⟨.type PySem.W.SL.s5856160107412720595x4,none,(.fields ⟨[.str ⟨⟨[108,97,119]⟩⟩ 805,.str ⟨⟨[108,97,119]⟩⟩ 806,.str ⟨⟨[47,99,108,97,105,109,47,99,117,116,46,112,121]⟩⟩ 807,.int (292) 0,.int (1) 0,.int (0) 0,.int (0) 0,.int (3) 0,.ref 263,.bool true,.int (276) 0,.ref 264,.none,.none,.none,.ref 265,.int (808) 0,.int (292) 0,.str ⟨⟨[47,99,108,97,105,109,47,99,117,116,46,112,121]⟩⟩ 809]⟩),⟨[]⟩⟩
noncomputable def o267 (P : Params) : Obj := ⟨.type PySem.W.SL.s7174869446012820540x8,none,(.func (fnO (defAt pwF.main.body 31) ⟨⟨[108,97,119]⟩⟩ ⟨⟨[108,97,119]⟩⟩ (.none) (.none) (.none) (.str ⟨⟨[108,97,119,95,105,107,48,50,48,55,95,48,49]⟩⟩ 739) (.ref 266) (.none) 3 0 none)),⟨[]⟩⟩
noncomputable def kt0 (P : Params) : KT := (.node (some (o0 P)) (.node none (.node (some (o3 P)) (.node none (.node none (.node none (.node (some (o63 P)) .nil .nil) (.node none .nil (.node (some (o223 P)) .nil .nil))) (.node none .nil (.node (some (o111 P)) (.node (some (o175 P)) .nil .nil) .nil))) (.node none (.node none (.node (some (o71 P)) .nil .nil) (.node none (.node (some (o167 P)) .nil .nil) (.node (some (o231 P)) .nil .nil))) (.node none .nil (.node (some (o119 P)) .nil .nil)))) (.node none (.node none (.node none (.node none .nil (.node (some (o195 P)) .nil .nil)) (.node none (.node (some (o163 P)) .nil .nil) .nil)) (.node (some (o51 P)) (.node (some (o83 P)) .nil .nil) (.node (some (o115 P)) .nil .nil))) (.node none (.node none (.node none (.node none (.node (some (o267 P)) .nil .nil) .nil) (.node (some (o203 P)) .nil .nil)) .nil) (.node (some (o59 P)) (.node none (.node (some (o155 P)) .nil .nil) .nil) .nil)))) (.node none (.node none (.node none (.node none (.node none (.node none (.node (some (o257 P)) .nil .nil) .nil) .nil) (.node (some (o97 P)) .nil .nil)) .nil) (.node none (.node none (.node (some (o73 P)) .nil .nil) .nil) (.node none (.node (some (o89 P)) .nil .nil) (.node none .nil (.node (some (o249 P)) .nil .nil))))) (.node none (.node none (.node none (.node none (.node none (.node (some (o261 P)) .nil .nil) .nil) .nil) .nil) (.node none (.node none (.node (some (o149 P)) .nil .nil) (.node (some (o213 P)) .nil .nil)) (.node (some (o117 P)) (.node (some (o181 P)) .nil .nil) (.node (some (o245 P)) .nil .nil)))) (.node none (.node (some (o45 P)) .nil (.node none .nil (.node (some (o237 P)) .nil .nil))) .nil)))) (.node (some (o2 P)) (.node (some (o4 P)) (.node none (.node none (.node none (.node (some (o64 P)) (.node none (.node (some (o256 P)) .nil .nil) .nil) .nil) (.node (some (o96 P)) .nil (.node (some (o224 P)) .nil .nil))) (.node none .nil (.node (some (o112 P)) .nil .nil))) (.node none (.node none .nil (.node none (.node (some (o168 P)) .nil .nil) .nil)) .nil)) (.node none (.node none (.node none (.node none .nil (.node (some (o196 P)) .nil .nil)) .nil) (.node (some (o52 P)) (.node none (.node (some (o148 P)) .nil .nil) (.node (some (o212 P)) .nil .nil)) (.node (some (o116 P)) .nil (.node (some (o244 P)) .nil .nil)))) (.node none (.node (some (o44 P)) .nil .nil) (.node none (.node none (.node (some (o156 P)) .nil .nil) .nil) .nil)))) (.node none (.node none (.node none (.node none .nil (.node none (.node (some (o162 P)) .nil .nil) .nil)) (.node none (.node (some (o82 P)) .nil .nil) .nil)) (.node none (.node none (.node none (.node none (.node (some (o266 P)) .nil .nil) .nil) (.node (some (o202 P)) .nil .nil)) .nil) (.node (some (o58 P)) (.node (some (o90 P)) .nil .nil) (.node none .nil (.node (some (o250 P)) .nil .nil))))) (.node none (.node none (.node none (.node (some (o70 P)) (.node none (.node (some (o262 P)) .nil .nil) .nil) .nil) (.node none .nil (.node (some (o230 P)) .nil .nil))) (.node none .nil (.node (some (o118 P)) (.node (some (o182 P)) .nil .nil) .nil))) (.node none (.node none (.node none (.node (some (o142 P)) .nil .nil) .nil) (.node none (.node (some (o174 P)) .nil .nil) (.node (some (o238 P)) .nil .nil))) .nil)))))
noncomputable def olds : List Nat := [0,2,3,4,44,45,51,52,58,59,63,64,70,71,73,82,83,85,89,90,96,97,111,112,115,116,117,118,119,142,148,149,155,156,162,163,167,168,174,175,181,182,195,196,202,203,212,213,219,223,224,230,231,237,238,244,245,249,250,256,257,261,262,266,267]
noncomputable def oldObjs (P : Params) : List (Option Obj) := [some (o0 P),some (o2 P),some (o3 P),some (o4 P),some (o44 P),some (o45 P),some (o51 P),some (o52 P),some (o58 P),some (o59 P),some (o63 P),some (o64 P),some (o70 P),some (o71 P),some (o73 P),some (o82 P),some (o83 P),some (o85 P),some (o89 P),some (o90 P),some (o96 P),some (o97 P),some (o111 P),some (o112 P),some (o115 P),some (o116 P),some (o117 P),some (o118 P),some (o119 P),some (o142 P),some (o148 P),some (o149 P),some (o155 P),some (o156 P),some (o162 P),some (o163 P),some (o167 P),some (o168 P),some (o174 P),some (o175 P),some (o181 P),some (o182 P),some (o195 P),some (o196 P),some (o202 P),some (o203 P),some (o212 P),some (o213 P),some (o219 P),some (o223 P),some (o224 P),some (o230 P),some (o231 P),some (o237 P),some (o238 P),some (o244 P),some (o245 P),some (o249 P),some (o250 P),some (o256 P),some (o257 P),some (o261 P),some (o262 P),some (o266 P),some (o267 P)]
noncomputable def topHook : Hook := { α := List (Option Obj) × Nat × Nat,obs := fun s => (olds.map s.heap.get?,s.heap.objs.size,s.toks),val := fun w => (oldObjs w.params,268,811),says := fun _ _ => True,of := fun _ _ _ => trivial,keeps := fun _ _ _ _ _ => trivial }
noncomputable def fstL {α β : Type} : List (α × β) → List α
  | [] => []
  | x :: l => x.1 :: fstL l
noncomputable def sndL {α β : Type} : List (α × β) → List β
  | [] => []
  | x :: l => x.2 :: sndL l
theorem pair_eq {α : Type} : ∀ {l : List (α × α)},fstL l = sndL l → ∀ x ∈ l,x.1 = x.2
  | x :: l,e,y,h => by
    injection e with e1 e2
    rcases List.mem_cons.mp h with rfl | h
    · exact e1
    · exact pair_eq e2 y h
structure Left where
  a : List Nat
  o : List Obj
  t : List (Sem Fin)
  v : List (Nat × List V0)
noncomputable def lhsL (f : Cf) : Left := ⟨fstL f.oa,fstL f.oo,fstL f.ot,fstL f.ov⟩
noncomputable def rhsL (f : Cf) : Left := ⟨sndL f.oa,sndL f.oo,sndL f.ot,sndL f.ov⟩
theorem obl_of {f : Cf} (h : lhsL f = rhsL f) : Obl f := by
  injection h with a b c d
  exact ⟨pair_eq a,pair_eq b,pair_eq c,pair_eq d⟩
noncomputable def out (E : En) (n : Nat) (f : Cf) : Cf := match run E n f with
  | some g => g
  | none => f
noncomputable def isS {α : Type} : Option α → Bool
  | some _ => true
  | none => false
theorem out_eq {E : En} {n : Nat} {f : Cf} (h : isS (run E n f) = true) : run E n f = some (out E n f) := by
  unfold out
  cases e : run E n f with
  | none => rw [e] at h; cases h
  | some g => rfl
theorem walk {E : En} {B : Bs} (hC : EnvOk E) (n : Nat) {f : Cf} (h : (isS (run E n f),lhsL (out E n f)) = (true,rhsL (out E n f))) (hO : ∀ x ∈ f.O,OEok E.w E.kt x.2) {s : Shared} (R : Rep E B f s) :
    ∃ s',Rep E B (out E n f) s' ∧ ∀ Q,Good E.w Q s' (out E n f).th → Good E.w Q s f.th := by
  injection h with h1 h2
  exact run_sound hC n (out_eq h1) (obl_of h2) hO R
noncomputable def mapR {α : Type u} {β : Type v} (g : α → β) : List α → List β
  | [] => []
  | a :: l => g a :: mapR g l
theorem all_of {α : Type u} {β : Type v} {f g : α → β} : ∀ {l : List α},l.map f = mapR g l → ∀ c ∈ l,f c = g c
  | _ :: _,h,c,hc => by
    injection h with h1 h2
    rcases List.mem_cons.1 hc with rfl | hc
    · exact h1
    · exact all_of h2 c hc
noncomputable def map2 {α : Type u} {β : Type v} {γ : Type w} (f : α → β → γ) : List (α × β) → List γ
  | [] => []
  | (a,b) :: l => f a b :: map2 f l
noncomputable def mapS {α : Type u} {β : Type v} {γ : Type w} (f : α → β → γ) : List (α × β) → List γ
  | [] => []
  | (a,b) :: l => f a b :: mapS f l
theorem all2 {α : Type u} {β : Type v} {γ : Type w} {f g : α → β → γ} : ∀ {l : List (α × β)},map2 f l = mapS g l → ∀ a b,(a,b) ∈ l → f a b = g a b
  | (x,y) :: _,h,a,b,hc => by
    injection h with h1 h2
    rcases List.mem_cons.1 hc with e | hc
    · cases e; exact h1
    · exact all2 h2 a b hc
noncomputable def map3 {α : Type u} {β : Type v} {δ : Type x} {γ : Type w} (f : α → β → δ → γ) : List (α × β × δ) → List γ
  | [] => []
  | (a,b,c) :: l => f a b c :: map3 f l
noncomputable def mapT {α : Type u} {β : Type v} {δ : Type x} {γ : Type w} (f : α → β → δ → γ) : List (α × β × δ) → List γ
  | [] => []
  | (a,b,c) :: l => f a b c :: mapT f l
theorem all3 {α : Type u} {β : Type v} {δ : Type x} {γ : Type w} {f g : α → β → δ → γ} : ∀ {l : List (α × β × δ)},map3 f l = mapT g l → ∀ a b c,(a,b,c) ∈ l → f a b c = g a b c
  | (x,y,z) :: _,h,a,b,c,hc => by
    injection h with h1 h2
    rcases List.mem_cons.1 hc with e | hc
    · cases e; exact h1
    · exact all3 h2 a b c hc
noncomputable def trb {α : Type u} {β : Type v} : List (α × β) → List (α × β × Bool)
  | [] => []
  | (a,b) :: l => (a,b,false) :: (a,b,true) :: trb l
theorem mem_trb {α : Type u} {β : Type v} {a : α} {b : β} (c : Bool) : ∀ {l : List (α × β)},(a,b) ∈ l → (a,b,c) ∈ trb l
  | (x,y) :: l,h => by
    rcases List.mem_cons.1 h with e | h
    · cases e; cases c <;> simp [trb]
    · exact .tail _ (.tail _ (mem_trb c h))
noncomputable def lpr {α : Type u} {β : Type v} (l : List α) (r : List β) : List (α × β) := l.flatMap fun a => r.map fun b => (a,b)
theorem mem_lpr {α : Type u} {β : Type v} {l : List α} {r : List β} {a : α} {b : β} (h : a ∈ l) (k : b ∈ r) : (a,b) ∈ lpr l r := List.mem_flatMap.2 ⟨a,h,List.mem_map.2 ⟨b,k,rfl⟩⟩
noncomputable def kmL : List (Nat × Nat) := (List.range 8).flatMap fun m => (List.range m).map fun k => (k,m)
theorem mem_km {k m : Nat} (h : k < m) (hm : m < 8) : (k,m) ∈ kmL := List.mem_flatMap.2 ⟨m,List.mem_range.2 hm,List.mem_map.2 ⟨k,List.mem_range.2 h,rfl⟩⟩
noncomputable def pmL : List (Nat × Nat) := lpr [2,3,5,7] (List.range 8)
theorem mem_pm {p m : Nat} (hp : p = 2 ∨ p = 3 ∨ p = 5 ∨ p = 7) (hm : m < 8) : (p,m) ∈ pmL := mem_lpr (by simpa using hp) (List.mem_range.2 hm)
theorem mem_ft (b : Bool) : b ∈ [false,true] := by cases b <;> decide
theorem mem_2 {a b x : Nat} (h : x = a ∨ x = b) : x ∈ [a,b] := List.mem_cons.2 (h.imp_right List.mem_singleton.2)
namespace TT
noncomputable def Full (t : TT) (n : Nat) : Prop := ∀ i,(t.get i).isSome = true ↔ i < n
theorem full_nil : Full .nil 0 := fun i => by simp [get]
theorem full_sub {a : Nat} {o : Obj} {l r : TT} {n : Nat} (h : Full (.node a o l r) n) : Full l (n / 2) ∧ Full r ((n - 1) / 2) := by
  constructor
  · intro i
    have := h (2 * i + 1)
    rw [get_node,if_neg (by lia),if_pos (by lia)] at this
    have e : (2 * i + 1) / 2 = i := by lia
    rw [e] at this
    rw [this]; lia
  · intro i
    have := h (2 * i + 2)
    rw [get_node,if_neg (by lia),if_neg (by lia)] at this
    have e : (2 * i + 2) / 2 - 1 = i := by lia
    rw [e] at this
    rw [this]; lia
theorem full_ins (b : Nat) (x : Obj) : ∀ (t : TT) (n : Nat),Full t n → (t.ins n b x).get n = some (b,x)
  | .nil,n,h => by
    have e : (TT.nil.ins n b x) = .node b x .nil .nil := rfl
    have h0 : n = 0 := by
      by_cases hn : n = 0
      · exact hn
      · have := (h 0).mpr (by lia)
        simp [get] at this
    subst h0
    rw [e,get_node,if_pos rfl]
  | .node a o l r,n,h => by
    have h0 : n ≠ 0 := by
      intro e
      have := (h 0).mp (by rw [get_node,if_pos rfl]; rfl)
      lia
    obtain ⟨hl,hr⟩ := full_sub h
    rw [ins_node,if_neg h0]
    by_cases p : n % 2 = 1
    · rw [if_pos p,get_node,if_neg h0,if_pos p]
      exact full_ins b x l (n / 2) hl
    · rw [if_neg p,get_node,if_neg h0,if_neg p]
      have e : (n - 1) / 2 = n / 2 - 1 := by lia
      rw [e] at hr
      exact full_ins b x r _ hr
theorem full_succ {b : Nat} {x : Obj} {t : TT} {n : Nat} (h : Full t n) : Full (t.ins n b x) (n + 1) := by
  intro i
  rw [get_ins b x t n (by rw [full_ins b x t n h]; rfl) i]
  by_cases e : i = n
  · rw [if_pos e]; simp; lia
  · rw [if_neg e,h i]; lia
theorem ofList_go : ∀ (l : List (Nat × Obj)) (t : TT) (n : Nat),Full t n →
    let z := l.foldl (fun (x : TT × Nat) p => (x.1.ins x.2 p.1 p.2,x.2 + 1)) (t,n)
    Full z.1 (n + l.length) ∧ (∀ i,i < n → z.1.get i = t.get i) ∧ ∀ i,n ≤ i → z.1.get i = l[i - n]?
  | [],t,n,h => by
    refine ⟨h,fun _ _ => rfl,fun i hi => ?_⟩
    have := h i
    show t.get i = _
    cases e : t.get i with
    | none => simp
    | some y => rw [e] at this; have := this.mp rfl; lia
  | p :: l,t,n,h => by
    refine xA2 (ofList_go l (t.ins n p.1 p.2) (n + 1) (full_succ h)) fun a b c => ?_
    refine ⟨by simp only [List.length_cons]; rw [Nat.add_comm l.length 1,← Nat.add_assoc]; exact a,fun i hi => ?_,fun i hi => ?_⟩
    · exact (b i (by lia)).trans (by rw [get_ins p.1 p.2 t n (by rw [full_ins _ _ t n h]; rfl) i,if_neg (by lia)])
    · by_cases e : i = n
      · subst e
        have := (b i (by lia)).trans (full_ins p.1 p.2 t i h)
        simp only [Nat.sub_self,List.getElem?_cons_zero]
        exact this
      · have := c i (by lia)
        have e2 : i - n = (i - (n + 1)) + 1 := by lia
        rw [e2,List.getElem?_cons_succ]
        exact this
theorem get_ofList (l : List (Nat × Obj)) (i : Nat) : (ofList l).get i = l[i]? := by
  refine xA2 (ofList_go l .nil 0 full_nil) fun _ _ c => ?_
  have := c i (Nat.zero_le _)
  rw [Nat.sub_zero] at this
  exact this
end TT
structure Inv (w : World) (s : Shared) : Prop where
  kt : ∀ a o,a < 268 → (kt0 w.params).get a = some o → s.heap.get? a = some o
  lo : 268 ≤ s.heap.objs.size
  gens : ∀ (g : Nat) st,s.gens[g]? = some st → cleanG st
structure Ext (upd : Nat → Prop) (s s' : Shared) : Prop where
  keep : ∀ b o,s.heap.get? b = some o → ¬ upd b → s'.heap.get? b = some o
  size : s.heap.objs.size ≤ s'.heap.objs.size
  gens : ∀ (g : Nat) st,s'.gens[g]? = some st → cleanG st
  os : s'.os = s.os
  drawn : s'.drawn = s.drawn
  life : s'.heap.life = s.heap.life
theorem Ext.inv {w : World} {upd : Nat → Prop} {s s' : Shared} (X : Ext upd s s') (I : Inv w s) (h : ∀ b,upd b → 268 ≤ b ∨ b = 85 ∨ b = 219) : Inv w s' := by
  refine ⟨fun a o ha e => X.keep a o (I.kt a o ha e) (fun hu => ?_),Nat.le_trans I.lo X.size,X.gens⟩
  rcases h a hu with q | q | q
  · lia
  · subst q
    have : (kt0 w.params).get 85 = none := rfl
    rw [this] at e; cases e
  · subst q
    have : (kt0 w.params).get 219 = none := rfl
    rw [this] at e; cases e
theorem Ext.trans {u v : Nat → Prop} {s s' s'' : Shared} (X : Ext u s s') (Y : Ext v s' s'') : Ext (fun b => u b ∨ v b) s s'' :=
  ⟨fun b o e h => Y.keep b o (X.keep b o e fun q => h (.inl q)) fun q => h (.inr q),Nat.le_trans X.size Y.size,Y.gens,Y.os.trans X.os,Y.drawn.trans X.drawn,Y.life.trans X.life⟩
theorem Ext.mono {u v : Nat → Prop} {s s' : Shared} (X : Ext u s s') (h : ∀ b,u b → v b) : Ext v s s' :=
  ⟨fun b o e q => X.keep b o e fun z => q (h b z),X.size,X.gens,X.os,X.drawn,X.life⟩
noncomputable def En0 (w : World) (ro : Nat) : En := ⟨w,kt0 w.params,ro,w.params.followText rowFs⟩
noncomputable abbrev OEk (w : World) (x : OE) : Prop := OEok w (kt0 w.params) x
noncomputable def updOf (ro : Nat) (l : List (Nat × Obj)) (b : Nat) : Prop := ∃ i y,ro ≤ i ∧ l[i]? = some y ∧ y.1 = b
structure OwnL (ro : Nat) (l : List (Nat × Obj)) (h : Heap) : Prop where
  get : ∀ y ∈ l,268 ≤ y.1 ∧ h.get? y.1 = some y.2
  apart : ∀ i j y z,ro ≤ i → i ≠ j → l[i]? = some y → l[j]? = some z → y.1 ≠ z.1
theorem rep_start {w : World} {ro : Nat} {s : Shared} (I : Inv w s) (l : List (Nat × Obj)) (O : OwnL ro l s.heap) (f : Cf) (t0 : Nat → Option (Array Value))
    (hT : f.T = TT.ofList l) (hm : f.m = l.length) (hsz : f.sz = s.heap.objs.size) (htk : f.tk = s.toks) (hgl : f.gl = []) (hgz : f.gz = s.gens.size)
    (htab : ∀ a vs,chLook f.ch a = some vs → a < 268 ∧ s.heap.get? a = some (tableObj vs) ∧ (kt0 w.params).get a = none)
    (hw : f.st.map Frame.where_ = f.sw) (hh : HOk f.st f.hd) : Rep (En0 w ro) ⟨s.heap,updOf ro l,s,t0⟩ f s := by
  obtain ⟨t,c,p,st,sw,hd,T,m,sz,tk,gl,gz,ch,L,A,OO,e,oa,oo,ot,ov⟩ := f
  dsimp only at hT hm hsz htk hgl hgz htab hw hh
  subst hT hm hsz htk hgl hgz
  have mem : ∀ {i : Nat} {y : Nat × Obj},l[i]? = some y → y ∈ l := fun h => List.mem_of_getElem? h
  refine ⟨⟨fun a o ha e => I.kt a o ha e,?_,I.lo,rfl,Nat.le_refl _,?_,?_,?_,?_,htab,rfl⟩,⟨rfl,fun j y e => (nomatch e),fun i j y z _ e => (nomatch e),fun g st eg _ => I.gens g st eg⟩,rfl,rfl,rfl,hw,hh⟩
  · rintro b ⟨i,y,_,h1,rfl⟩
    exact (O.get y (mem h1)).1
  · intro i y e
    rw [TT.get_ofList] at e
    obtain ⟨a,b⟩ := O.get y (mem e)
    refine ⟨(List.getElem?_eq_some_iff.mp e).1,a,Heap.lt_size b,b⟩
  · intro i y hr e
    rw [TT.get_ofList] at e
    exact .inl ⟨i,y,hr,e,rfl⟩
  · intro i j y z hr hij ei ej
    rw [TT.get_ofList] at ei ej
    exact O.apart i j y z hr hij ei ej
  · intro b o e _ _
    exact e
theorem rep_ext {w : World} {ro : Nat} {s s' : Shared} {l : List (Nat × Obj)} {t0 : Nat → Option (Array Value)} {f : Cf} (R : Rep (En0 w ro) ⟨s.heap,updOf ro l,s,t0⟩ f s')
    (hg : ∀ j y,nthG f.gl j = some y → cleanG y.2) (tb : Nat → Prop) (ht : ∀ b,¬ tb b → chLook f.ch b = none) : Ext (fun b => updOf ro l b ∨ tb b) s s' := by
  refine ⟨fun b o e h => R.heap.keep b o e (fun q => h (.inl q)) (ht b fun q => h (.inr q)),by have := R.heap.h0sz; rw [R.heap.size]; exact this,fun g st eg => ?_,R.os,R.drawn,R.heap.life⟩
  by_cases q : ∀ j y,nthG f.gl j = some y → y.1 ≠ g
  · exact R.gens.clean g st eg q
  · have : ∃ j y,nthG f.gl j = some y ∧ y.1 = g := by
      apply Classical.byContradiction
      intro n
      exact q fun j y e h => n ⟨j,y,e,h⟩
    refine xE2 this fun j y hx => xA1 hx fun e q3 => ?_; clear hx; clear this; obtain rfl := q3
    rw [R.gens.own j y e] at eg
    cases eg
    exact hg j y e
theorem Good.pre {w : World} {R : Result → Shared → Prop} : ∀ {n : Nat} {s s' : Shared} {t t' : Thread},(Md w).runN n s t = .running s' t' → Good w R s' t' → Good w R s t
  | 0,s,s',t,t',h,g => by
    have h' : Run.running s t = .running s' t' := h
    injection h' with h1 h2
    subst h1 h2
    exact g
  | n + 1,s,s',t,t',h,g => by
    rw [runN_succ] at h
    cases hs : (Md w).step s t with
    | go s₁ t₁ => rw [hs] at h; exact Good.back hs (Good.pre h g)
    | halt o s₁ => rw [hs] at h; cases h
noncomputable def arOf (st : List Frame) : Around := ⟨topHandled st,frameCount (st.map Frame.where_),none,none,unitsOf (st.map Frame.where_)⟩
theorem below_of (c : Code) (st : List Frame) : (Ctx.of c st).Below (arOf st) :=
  ⟨rfl,Nat.le_refl _,fun _ h => (nomatch h),fun _ h => (nomatch h),Nat.le_refl _⟩
theorem in_of (c : Code) (st : List Frame) : (Ctx.of c st).In ((arOf st).under c) := (below_of c st).in
theorem good_of_codeAny {w : World} {Q : Result → Shared → Prop} {c : Code} {st : List Frame} {s : Shared} {R : Result → Shared → Prop}
    (h : codeAny (Md w) (arOf st) c R s) (hR : ∀ r s' c' p',R r s' → Good w Q s' ⟨leafOf r,c',p',st⟩) (p : Pos) : Good w Q s ⟨den c,c,p,st⟩ := by
  have := h (Ctx.of c st) p rfl (below_of c st)
  rw [wpCode_iff_wp] at this
  refine xE5 (wp_runN (base := st) (c := c) this) fun n r s' c' p' hx => xA1 hx fun hn hr => ?_; clear hx
  have e : (Md w).den (Ctx.of c st).code = den c := md_den w c
  rw [e] at hn
  exact Good.pre hn (hR r s' c' p' hr)
theorem good_iff {w : World} {Q : Result → Shared → Prop} {s : Shared} {t : Sem Fin} {c : Code} {p : Pos} {st : List Frame} :
    Good w Q s ⟨t,c,p,st⟩ ↔ ∃ r s',Runs (Md w) ⟨c,none,none,[],none⟩ p t st s (.ret r) s' ∧ leftWithCleanup s'.gens = false ∧ Q r s' := by
  constructor
  · rintro ⟨n,r,s',h,q⟩
    obtain ⟨a,b⟩ := halts_iff.mp ⟨n,h⟩
    exact ⟨r,s',a,b,q⟩
  · rintro ⟨r,s',a,b,q⟩
    obtain ⟨n,h⟩ := halts_iff.mpr ⟨a,b⟩
    exact ⟨n,r,s',h,q⟩
theorem good_of_wp {w : World} {Q : Result → Shared → Prop} {s : Shared} {t : Sem Fin} {c : Code} {p : Pos} {st : List Frame}
    (h : Sem.wp (Md w) (Ctx.of c st) t (fun fin p' s' => Good w Q s' ⟨.pure fin,c,p',st⟩) (fun e p' s' => Good w Q s' ⟨.raise e,c,p',st⟩) p s) :
    Good w Q s ⟨t,c,p,st⟩ := by
  have e : Ctx.of c st = (⟨c,none,none,[],none⟩ : Ctx).over st := by
    have := Ctx.of_append c st []
    rw [List.append_nil] at this
    exact this
  rw [e] at h
  have := runs_wrap_of_wp (fs := st) (Φ := fun e s' => ∃ r,e = .ret r ∧ leftWithCleanup s'.gens = false ∧ Q r s') .pure .raise id id t h
    (fun a p' s' g => by obtain ⟨r,s'',x,y⟩ := good_iff.mp g; exact ⟨_,s'',x,r,rfl,y⟩)
    (fun a p' s' g => by obtain ⟨r,s'',x,y⟩ := good_iff.mp g; exact ⟨_,s'',x,r,rfl,y⟩)
  have e2 : t.wrap .pure .raise id id = t := by rw [← Sem.bind_eq_wrap]; exact Sem.bind_pure t
  rw [e2] at this
  refine xE2 this fun _ s'' hx => xA1 hx fun x hx => xE1 hx fun r hx => xA1 hx fun q4 y => ?_; clear hx; clear hx; clear hx; clear this; obtain rfl := q4
  exact good_iff.mpr ⟨r,s'',x,y⟩
theorem good_of_wpAny {w : World} {Q : Result → Shared → Prop} {s : Shared} {t : Sem Fin} {c : Code} {st : List Frame}
    (h : wpAny (Md w) ((arOf st).under c) t (fun fin s' => ∀ p',Good w Q s' ⟨.pure fin,c,p',st⟩) (fun e s' => ∀ p',Good w Q s' ⟨.raise e,c,p',st⟩) s) (p : Pos) :
    Good w Q s ⟨t,c,p,st⟩ :=
  good_of_wp (Sem.wp_mono _ _ _ (fun fin p' s' q => q p') (fun e p' s' q => q p') p s (h (Ctx.of c st) p (in_of c st)))
theorem good_again {w : World} {Q : Result → Shared → Prop} {s : Shared} {c c' : Code} {p : Pos} {st : List Frame} (hq : c'.quiet = true)
    (h : Good w Q s ⟨den c',c',p,st⟩) : Good w Q s ⟨.pure (.again c'),c,p,st⟩ := by
  refine Good.back (s' := s) (t' := ⟨den c',c',p,st⟩) ?_ h
  rw [PySem.step_again (Md w) s c p st c' hq,md_den]
theorem selfIter_cls {o : Obj} (h : selfIter o = true) : o.cls = .type "list_iterator" ∨ o.cls = .type "range_iterator" ∨ o.cls = .type "zip" ∨ o.cls = .type "dict_valueiterator" := by
  unfold selfIter at h
  split at h
  · rename_i n e
    simp only [Bool.or_eq_true] at h
    rw [e]
    rcases h with ((h | h) | h) | h
    · exact .inl (congrArg _ (PySem.code_inj _ _ (Nat.eq_of_beq_eq_true h)))
    · exact .inr (.inl (congrArg _ (PySem.code_inj _ _ (Nat.eq_of_beq_eq_true h))))
    · exact .inr (.inr (.inl (congrArg _ (PySem.code_inj _ _ (Nat.eq_of_beq_eq_true h)))))
    · exact .inr (.inr (.inr (congrArg _ (PySem.code_inj _ _ (Nat.eq_of_beq_eq_true h)))))
  · cases h
theorem wpAny_pyIter_self {w : World} {A : Around} {E : Value → Shared → Prop} {s : Shared} {a : Nat} {o : Obj} (ho : s.heap.get? a = some o) (h : selfIter o = true) {Q : Value → Shared → Prop} (q : Q (.ref a) s) :
    wpAny (Md w) A (pyIter (.ref a)) Q E s := by
  rcases selfIter_cls h with e | e | e | e
  · have hT : s.TypeIs (.ref a) "list_iterator" := ⟨o,ho,e⟩
    refine wpAny_pyIter_slot hT slot_listiter_iter (wpAny_call_entry slot_listiter_iter hT entry_listiter_iter ?_ (args_listiter_iter _))
    show wpAny _ _ (ret (.ref a)) _ _ s
    exact wpAny_pure ⟨_,rfl,"list_iterator",_,hT,slot_listiter_next.lookup,q⟩
  · have hT : s.TypeIs (.ref a) "range_iterator" := ⟨o,ho,e⟩
    refine wpAny_pyIter_slot hT F.slot_range_iterator_iter (wpAny_call_entry F.slot_range_iterator_iter hT F.entry_range_iterator_iter ?_ (F.args_range_iterator_iter_1 _))
    show wpAny _ _ (ret (.ref a)) _ _ s
    exact wpAny_pure ⟨_,rfl,"range_iterator",_,hT,F.slot_range_iterator_next.lookup,q⟩
  · have hT : s.TypeIs (.ref a) "zip" := ⟨o,ho,e⟩
    refine wpAny_pyIter_slot hT F.slot_zip_iter (wpAny_call_entry F.slot_zip_iter hT F.entry_zip_iter ?_ (F.args_zip_iter_1 _))
    show wpAny _ _ (ret (.ref a)) _ _ s
    exact wpAny_pure ⟨_,rfl,"zip",_,hT,F.slot_zip_next.lookup,q⟩
  · have hT : s.TypeIs (.ref a) "dict_valueiterator" := ⟨o,ho,e⟩
    refine wpAny_pyIter_slot hT F.slot_dict_valueiterator_iter (wpAny_call_entry F.slot_dict_valueiterator_iter hT entry_dict_valueiterator_iter ?_ (F.args_dict_valueiterator_iter_1 _))
    show wpAny _ _ (ret (.ref a)) _ _ s
    exact wpAny_pure ⟨_,rfl,"dict_valueiterator",_,hT,F.slot_dict_valueiterator_next.lookup,q⟩
theorem compOk (w : World) : CompOk w := by
  intro ex d a acc env s p st o ho hs hn R g
  have fin : ∀ p',Good w R s ⟨.pure (.again (.compLoop ex d (.ref a) acc env)),.compStart ex d (.ref a) acc env,p',st⟩ := fun p' => good_again rfl (g p')
  have body : ∀ A (E : Value → Shared → Prop),wpAny (Md w) A (PySem.compStart ex d (.ref a) acc env) (fun fin s' => ∀ p',Good w R s' ⟨.pure fin,.compStart ex d (.ref a) acc env,p',st⟩) E s := by
    intro A E
    unfold PySem.compStart
    have hn' : ((clausesOf ex)[d]?).elim false (·.is_async != 0) = false := by
      unfold notAsync at hn
      simpa using hn
    rw [hn']
    simp only [Bool.false_eq_true,if_false,pure_bind]
    refine wpAny_bind (wpAny_askSetting ?_)
    split
    · exact wpAny_pure fin
    · refine wpAny_bind (wpAny_rule ?_)
      have last : wpAny (Md w) A (pyIter (.ref a) >>= fun x => again (.compLoop ex d x acc env)) (fun fin s' => ∀ p',Good w R s' ⟨.pure fin,.compStart ex d (.ref a) acc env,p',st⟩) E s :=
        wpAny_bind (wpAny_pyIter_self ho hs (wpAny_pure fin))
      split
      · exact wpAny_bind (wpAny_standAt last)
      · exact last
  refine good_of_wpAny ?_ p
  have e : den (.compStart ex d (.ref a) acc env) = denote table (.compStart ex d (.ref a) acc env) := (congrFun den_eq _).symm
  rw [e]
  show wpAny _ _ (if (Code.compStart ex d (.ref a) acc env).isFrame then (PySem.compStart ex d (.ref a) acc env).onRaise (leaving env) else (PySem.compStart ex d (.ref a) acc env).onRaise (fun x => do noteFrame x env; standAt theWindowsPlace)) _ _ s
  split
  · exact wpAny_onRaise (body _ _)
  · exact wpAny_onRaise (body _ _)
theorem envOk (w : World) (ro : Nat) : EnvOk (En0 w ro) := ⟨compOk w,rfl⟩
noncomputable def oeP (name : String) (args : List V0) (res : Nat → Value) (d : Nat) : OE := ⟨PySem.code name,args,[],fun _ => [],fun _ => [],fun _ tk _ => res tk,d,none⟩
theorem oe_of {w : World} {x : OE} {name : String} {b : Builtin} (hn : x.id = PySem.code name) (hb : entryFor table name = some b)
    (h : ∀ A (E : Value → Shared → Prop) s pos,pos.map strip0 = x.args → (∀ y ∈ x.need,s.heap.get? y.2.1 = some y.2.2) → (∀ y ∈ x.sets pos,(s.heap.get? y.2.1).isSome = true) →
      wpAny (Md w) A (b ⟨pos,[]⟩) (fun fin s' => ∃ v,fin = .done (.ret v) ∧ v = x.res s.heap.objs.size s.toks pos ∧ s' = x.after pos s) E s) (ha : x.alt = none := by rfl) : OEk w x := by
  refine oeok_of0 ha ?_
  intro s id pos p k hd g l c0 p0 kp st hkt hid hpos hneed hsets R good
  have : id = name := PySem.code_inj _ _ (hid.trans hn)
  subst this
  refine good_of_codeAny (R := fun r s' => r = .ok (.ret (x.res s.heap.objs.size s.toks pos)) ∧ s' = x.after pos s) ?_ ?_ p
  · refine codeAny_builtin hb (wpAny_mono (h _ _ s pos hpos hneed hsets) (fun fin s' q => ?_) fun _ _ q => q)
    obtain ⟨v,rfl,rfl,rfl⟩ := q
    exact ⟨rfl,rfl⟩
  · rintro r s' c' p' ⟨rfl,rfl⟩
    exact Good.back (s' := x.after pos s) (step_leaf_ret ..) good
theorem args0 {pos : List Value} (h : pos.map strip0 = []) : pos = [] := List.map_eq_nil_iff.mp h
theorem args' {pos : List Value} {a : V0} {l : List V0} (h : pos.map strip0 = a :: l) : ∃ x r,pos = x :: r ∧ strip0 x = a ∧ r.map strip0 = l := by
  cases pos with
  | nil => cases h
  | cons x r => exact ⟨x,r,rfl,(List.cons.inj h).1,(List.cons.inj h).2⟩
theorem args1 {pos : List Value} {a : V0} (h : pos.map strip0 = [a]) : ∃ x,pos = [x] ∧ strip0 x = a :=
  let ⟨x,_,e,h1,h⟩ := args' h
  ⟨x,e.trans (congrArg _ (args0 h)),h1⟩
theorem args2 {pos : List Value} {a b : V0} (h : pos.map strip0 = [a,b]) : ∃ x y,pos = [x,y] ∧ strip0 x = a ∧ strip0 y = b :=
  let ⟨x,_,e,h1,h⟩ := args' h
  let ⟨y,e2,h2⟩ := args1 h
  ⟨x,y,e.trans (congrArg _ e2),h1,h2⟩
theorem args3 {pos : List Value} {a b c : V0} (h : pos.map strip0 = [a,b,c]) : ∃ x y z,pos = [x,y,z] ∧ strip0 x = a ∧ strip0 y = b ∧ strip0 z = c :=
  let ⟨x,_,e,h1,h⟩ := args' h
  let ⟨y,z,e2,h2,h3⟩ := args2 h
  ⟨x,y,z,e.trans (congrArg _ e2),h1,h2,h3⟩
theorem args4 {pos : List Value} {a b c d : V0} (h : pos.map strip0 = [a,b,c,d]) : ∃ x y z u,pos = [x,y,z,u] ∧ strip0 x = a ∧ strip0 y = b ∧ strip0 z = c ∧ strip0 u = d :=
  let ⟨x,_,e,h1,h⟩ := args' h
  let ⟨y,z,u,e2,h2,h3,h4⟩ := args3 h
  ⟨x,y,z,u,e.trans (congrArg _ e2),h1,h2,h3,h4⟩
theorem strip_i {v : Value} {i : Int} (h : strip0 v = .i i) : ∃ t,v = .int i t := by cases v <;> first | (injection h with h; subst h; exact ⟨_,rfl⟩) | cases h
theorem strip_s {v : Value} {i : Str} (h : strip0 v = .s i) : ∃ t,v = .str i t := by cases v <;> first | (injection h with h; subst h; exact ⟨_,rfl⟩) | cases h
theorem strip_r {v : Value} {i : Nat} (h : strip0 v = .r i) : v = .ref i := by cases v <;> first | (injection h with h; subst h; rfl) | cases h
theorem strip_b {v : Value} {i : Bool} (h : strip0 v = .b i) : v = .bool i := by cases v <;> first | (injection h with h; subst h; rfl) | cases h
noncomputable abbrev Gv (w : World) (t : Sem Fin) (res : Nat → Value) (d : Nat) : Prop := ∀ A (E : Value → Shared → Prop) s,wpAny (Md w) A t (fun fin s' => ∃ v,fin = .done (.ret v) ∧ v = res s.toks ∧ s' = { s with toks := s.toks + d }) E s
section
variable {w : World} {name : String} {b : Builtin} {res : Nat → Value} {d : Nat}
theorem oe_ii {x y : Int} (hb : entryFor table name = some b) (h : ∀ t u,Gv w (b ⟨[.int x t,.int y u],[]⟩) res d) : OEk w (oeP name [.i x,.i y] res d) := by
  refine oe_of rfl hb fun A E s pos hp _ _ => ?_
  refine xE2 (args2 hp) fun p q hx => xA2 hx fun q2 h1 h2 => ?_; clear hx; obtain rfl := q2
  obtain ⟨t,rfl⟩ := strip_i h1
  obtain ⟨u,rfl⟩ := strip_i h2
  exact h t u A E s
end
section
variable {w : World} {a b : Int} {r : Bool}
theorem oeEq (h : (a == b) = r) : OEk w (oeP "int.__eq__" [.i a,.i b] (fun _ => .bool r) 0) :=
  oe_ii (b := Builtin.«int.__eq__») (entryFor_of_tree (by kernel_rfl)) fun t u A E s => by subst h; obtain ⟨hp,g,d,tk,os⟩ := s; wp_walk; exact ⟨_,rfl,rfl,rfl⟩
theorem oeNe (h : (a != b) = r) : OEk w (oeP "int.__ne__" [.i a,.i b] (fun _ => .bool r) 0) :=
  oe_ii (b := Builtin.«int.__ne__») (entryFor_of_tree (by kernel_rfl)) fun t u A E s => by subst h; obtain ⟨hp,g,d,tk,os⟩ := s; wp_walk; exact ⟨_,rfl,rfl,rfl⟩
theorem oeLt (h : decide (a < b) = r) : OEk w (oeP "int.__lt__" [.i a,.i b] (fun _ => .bool r) 0) :=
  oe_ii (b := Builtin.«int.__lt__») (entryFor_of_tree (by kernel_rfl)) fun t u A E s => by subst h; obtain ⟨hp,g,d,tk,os⟩ := s; wp_walk; exact ⟨_,rfl,rfl,rfl⟩
theorem oeGt (h : decide (a > b) = r) : OEk w (oeP "int.__gt__" [.i a,.i b] (fun _ => .bool r) 0) :=
  oe_ii (b := Builtin.«int.__gt__») (entryFor_of_tree (by kernel_rfl)) fun t u A E s => by subst h; obtain ⟨hp,g,d,tk,os⟩ := s; wp_walk; exact ⟨_,rfl,rfl,rfl⟩
theorem oeGe (h : decide (a ≥ b) = r) : OEk w (oeP "int.__ge__" [.i a,.i b] (fun _ => .bool r) 0) :=
  oe_ii (b := Builtin.«int.__ge__») (entryFor_of_tree (by kernel_rfl)) fun t u A E s => by subst h; obtain ⟨hp,g,d,tk,os⟩ := s; wp_walk; exact ⟨_,rfl,rfl,rfl⟩
variable {c : Int}
theorem oeSub (h : a - b = c) : OEk w (oeP "int.__sub__" [.i a,.i b] (fun tk => .int c tk) 1) :=
  oe_ii (b := Builtin.«int.__sub__») (entryFor_of_tree (by kernel_rfl)) fun t u A E s => by subst h; obtain ⟨hp,g,d,tk,os⟩ := s; wp_walk; exact ⟨_,rfl,rfl,rfl⟩
theorem oeMod (hb : b ≠ 0) (h : a.fmod b = c) : OEk w (oeP "int.__mod__" [.i a,.i b] (fun tk => .int c tk) 1) :=
  oe_ii (b := Builtin.«int.__mod__») (entryFor_of_tree (by kernel_rfl)) fun t u A E s => by
    subst h
    have hb' : ¬ (b == 0) = true := by simpa using hb
    obtain ⟨hp,g,d,tk,os⟩ := s; wp_walk; exact ⟨_,rfl,rfl,rfl⟩
theorem oeDiv (hb : b ≠ 0) (hp : Builtin.divisionGoesByPylong a b = false) (h : a.fdiv b = c) : OEk w (oeP "int.__floordiv__" [.i a,.i b] (fun tk => .int c tk) 1) :=
  oe_ii (b := Builtin.«int.__floordiv__») (entryFor_of_tree (by kernel_rfl)) fun t u A E s => by
    subst h
    have hb' : ¬ (b == 0) = true := by simpa using hb
    have hp' : ¬ Builtin.divisionGoesByPylong a b = true := by rw [hp]; exact Bool.false_ne_true
    obtain ⟨hp,g,d,tk,os⟩ := s; wp_walk; exact ⟨_,rfl,rfl,rfl⟩
theorem oeMul (hm : IntMulOk a b) (h : a * b = c) : OEk w (oeP "int.__mul__" [.i a,.i b] (fun tk => .int c tk) 1) :=
  oe_ii (b := Builtin.«int.__mul__») (entryFor_of_tree (by kernel_rfl)) fun t u A E s => by
    subst h
    show wpAny _ _ (ite _ _ _ : Sem Fin) _ _ s
    rw [if_neg hm]
    exact wpAny_bind (wpAny_mkInt (wpAny_pure ⟨_,rfl,rfl,rfl⟩))
end
theorem update_const {h : Heap} {a : Nat} {o : Obj} (e : h.get? a = some o) (f : Obj → Obj) : h.update a f = h.update a fun _ => f o := by
  obtain ⟨objs,l⟩ := h
  show Heap.mk (objs.modify a f) l = Heap.mk (objs.modify a _) l
  congr 1
  have e' : objs[a]? = some o := by
    unfold Heap.get? at e
    split at e
    · cases e
    · exact e
  apply Array.ext_getElem?
  intro i
  rw [Array.getElem?_modify,Array.getElem?_modify]
  by_cases q : a = i
  · subst q; rw [if_pos rfl,if_pos rfl,e']; rfl
  · rw [if_neg q,if_neg q]
theorem oe_meets {w : World} {x : OE} {name : String} {b : Builtin} (hn : x.id = PySem.code name) (hq : plainId name = true) (hb : entryFor table name = some b)
    (h : ∀ (s : Shared) (pos : List Value),pos.map strip0 = x.args → (∀ y ∈ x.need,s.heap.get? y.2.1 = some y.2.2) → (∀ y ∈ x.sets pos,(s.heap.get? y.2.1).isSome = true) →
      ∃ S : PySem.Spec,Meets (b ⟨pos,[]⟩) S ∧ ∀ A R,R (.ok (.ret (x.res s.heap.objs.size s.toks pos))) (x.after pos s) → S A R s) (ha : x.alt = none := by rfl) : OEk w x := by
  refine oeok_of0 ha ?_
  intro s id pos p k hd g l c0 p0 kp st hkt hid hpos hneed hsets R good
  have : id = name := PySem.code_inj _ _ (hid.trans hn)
  subst this
  obtain ⟨S,hS,hR⟩ := h s pos hpos hneed hsets
  refine good_of_codeAny (R := fun r s' => r = .ok (.ret (x.res s.heap.objs.size s.toks pos)) ∧ s' = x.after pos s) ?_ ?_ p
  · refine codeAny_builtin hb ?_
    rw [Around.under_plainId hq]
    exact hS _ _ _ (fun r s' => r = .ok (.ret (x.res s.heap.objs.size s.toks pos)) ∧ s' = x.after pos s) s (hR _ _ ⟨rfl,rfl⟩)
  · rintro r s' c' p' ⟨rfl,rfl⟩
    exact Good.back (s' := x.after pos s) (step_leaf_ret ..) good
theorem oe_gives {w : World} {name : String} {b : Builtin} {args : List V0} {res : Nat → Value} {d : Nat} (hq : plainId name = true) (hb : entryFor table name = some b)
    (h : ∀ pos,pos.map strip0 = args → ∃ m,Gives (b ⟨pos,[]⟩) m ∧ ∀ (Q : Value → Shared → Prop) s,Q (res s.toks) { s with toks := s.toks + d } → m.post Q s) : OEk w (oeP name args res d) :=
  oe_meets rfl hq hb fun s pos hp _ _ => by
    obtain ⟨m,g,hm⟩ := h pos hp
    exact ⟨m.spec,g.meets,fun A R r => hm _ s r⟩
section
open Builtin
variable {w : World} {x y z : Str} {r : Bool} {i : Int} {c : Nat}
theorem oeEqS (h : (x.cps.toList == y.cps.toList) = r) : OEk w (oeP "str.__eq__" [.s x,.s y] (fun _ => .bool r) 0) :=
  oe_gives (by decide +kernel) (entryFor_of_tree (by kernel_rfl)) fun pos hp => by
    refine xE2 (args2 hp) fun p q hxx => xA2 hxx fun q2 h1 h2 => ?_; clear hxx; obtain rfl := q2; obtain ⟨t,rfl⟩ := strip_s h1; obtain ⟨u,rfl⟩ := strip_s h2
    exact ⟨_,gives_str_eq x y t u,fun Q s q => by rw [h]; exact q⟩
theorem oeLeS (h : (!decide (y.cps.toList < x.cps.toList)) = r) : OEk w (oeP "str.__le__" [.s x,.s y] (fun _ => .bool r) 0) :=
  oe_gives (by decide +kernel) (entryFor_of_tree (by kernel_rfl)) fun pos hp => by
    refine xE2 (args2 hp) fun p q hxx => xA2 hxx fun q2 h1 h2 => ?_; clear hxx; obtain rfl := q2; obtain ⟨t,rfl⟩ := strip_s h1; obtain ⟨u,rfl⟩ := strip_s h2
    exact ⟨_,gives_str_le x y t u,fun Q s q => by rw [h]; exact q⟩
theorem oeGetS (h0 : 0 ≤ i) (h1 : i < 2 ^ 63) (h : x.cps[i.toNat]? = some c) : OEk w (oeP "str.__getitem__" [.s x,.i i] (fun tk => .str ⟨#[c]⟩ tk) 1) :=
  oe_gives (by decide +kernel) (entryFor_of_tree (by kernel_rfl)) fun pos hp => by
    refine xE2 (args2 hp) fun p q hxx => xA2 hxx fun q2 e1 e2 => ?_; clear hxx; obtain rfl := q2; obtain ⟨t,rfl⟩ := strip_s e1; obtain ⟨u,rfl⟩ := strip_i e2
    refine ⟨_,gives_str_getitem x i t u c ?_ ?_,fun Q s q => ⟨by show 1 ≤ 2 ^ 24; decide,q⟩⟩
    · have a1 : ¬ i < -(2 ^ 63 : Int) := by lia
      have a2 : ¬ i ≥ 2 ^ 63 := by lia
      simp only [a1,a2,decide_false,Bool.or_self]
    · have lt : i.toNat < x.cps.size := (Array.getElem?_eq_some_iff.mp h).1
      unfold seqIndex?
      have a1 : ¬ i < 0 := by lia
      have a2 : i < (x.length : Int) := by show i < (x.cps.size : Int); lia
      simp only [a1,if_false,h0,a2,decide_true,Bool.and_self,if_true,Option.bind_some]
      exact h
noncomputable def oeH (name : String) (args : List V0) (need : List (Nat × Nat × Obj)) (res : Nat → Nat → List Value → Value) (d : Nat) : OE := ⟨PySem.code name,args,need,fun _ => [],fun _ => [],res,d,none⟩
noncomputable abbrev Lo (vs : Array Value) (n : Nat) : Obj := { cls := .type "list",data := .seq vs n }
variable {a idx n : Nat} {vs : Array Value}
theorem oeAppend {v0 : V0} (hsz : vs.size ≤ sizeLine) : OEk w ⟨PySem.code "list.append",[.r a,v0],[(idx,a,Lo vs n)],fun pos => match pos with | [_,v] => [(idx,a,Lo (vs.push v) (n + 1))] | _ => [],fun _ => [],fun _ _ _ => .none,0,none⟩ :=
  oe_meets rfl (by decide +kernel) (entryFor_of_tree (by kernel_rfl)) fun s pos hp hn _ => by
    refine xE2 (args2 hp) fun p q hxx => xA2 hxx fun q2 h1 h2 => ?_; clear hxx; obtain rfl := q2; obtain rfl := strip_r h1
    refine ⟨_,AutoListH.list_append_list_val_0 a vs n q hsz,fun A R r => ⟨hn _ (.head _),?_⟩⟩
    have e := update_const (hn _ (.head _)) (Obj.mapSeq fun z => z.push q)
    have e2 : Obj.mapSeq (fun z => z.push q) (Lo vs n) = Lo (vs.push q) (n + 1) := by
      show Obj.mk _ _ (.seq (vs.push q) (if ((vs.push q).size == vs.size) = true then n else n + 1)) _ = _
      rw [Array.size_push,if_neg (by simp)]
    rw [e2] at e
    rw [show (idx,a,Lo vs n).snd.fst = a from rfl] at e
    rw [e]; exact r
theorem oeGetL {v : Value} (h0 : 0 ≤ i) (h1 : i < 2 ^ 63) (h : vs[i.toNat]? = some v) : OEk w (oeH "list.__getitem__" [.r a,.i i] [(idx,a,Lo vs n)] (fun _ _ _ => v) 0) :=
  oe_of rfl (b := Builtin.«list.__getitem__») (entryFor_of_tree (by kernel_rfl)) fun A E s pos hp hn _ => by
    refine xE2 (args2 hp) fun p q hxx => xA2 hxx fun q2 e1 e2 => ?_; clear hxx; obtain rfl := q2; obtain rfl := strip_r e1; obtain ⟨u,rfl⟩ := strip_i e2
    have ho := hn _ (.head _)
    show wpAny _ _ (Builtin.List.listSubscript? (.int i u) >>= _) _ _ s
    refine wpAny_bind (wpAny_listSubscript_int (fitsIndex_of h0 h1) ?_)
    obtain ⟨j,rfl⟩ := Int.eq_ofNat_of_zero_le h0
    have hx' : vs[j]? = some v := h
    show wpAny _ _ ((seqItemAt a j >>= fun r => pure (r.map (j,·))) >>= _) _ _ s
    refine wpAny_bind (wpAny_bind (wpAny_seqItemAt ho rfl (wpAny_pure ?_)))
    rw [hx']
    first
      | exact wpAny_bind (wpAny_pure (wpAny_pure ⟨v,rfl,rfl,rfl⟩))
      | exact wpAny_pure ⟨v,rfl,rfl,rfl⟩
end
noncomputable def oeSt (name : String) (args : List V0) (need : List (Nat × Nat × Obj)) (z : Str) (tf : Nat → List Value → Nat) (d : Nat) : OE := ⟨PySem.code name,args,need,fun _ => [],fun _ => [],fun _ tk pos => .str z (tf tk pos),d,none⟩
noncomputable def oeApp (idx a : Nat) (vs : Array Value) (n : Nat) (v0 : V0) : OE := ⟨PySem.code "list.append",[.r a,v0],[(idx,a,Lo vs n)],fun pos => match pos with | [_,v] => [(idx,a,Lo (vs.push v) (n + 1))] | _ => [],fun _ => [],fun _ _ _ => .none,0,none⟩
theorem oeApp_ok {w : World} {idx a n : Nat} {vs : Array Value} {v0 : V0} (hsz : vs.size ≤ sizeLine) : OEk w (oeApp idx a vs n v0) := oeAppend hsz
section
open Builtin
variable {w : World} {x y z : Str}
theorem oeAddT (hl : (x ++ y).length ≤ sizeLine) : ∃ tf d,OEk w (oeSt "str.__add__" [.s x,.s y] [] (x ++ y) tf d) := by
  by_cases hx : x.length = 0
  · have e : x ++ y = y := by
      have : x.cps = #[] := Array.eq_empty_of_size_eq_zero hx
      show Str.mk (x.cps ++ y.cps) = y
      rw [this]; cases y; simp
    rw [e]
    refine ⟨fun _ pos => match pos with | [_,.str _ u] => u | _ => 0,0,oe_meets (b := «str.__add__») rfl (by decide +kernel) (entryFor_of_tree (by kernel_rfl)) fun s pos hp _ _ => ?_⟩
    refine xE2 (args2 hp) fun p q hxx => xA2 hxx fun qq2 h1 h2 => ?_; clear hxx; obtain rfl := qq2; obtain ⟨t,rfl⟩ := strip_s h1; obtain ⟨u,rfl⟩ := strip_s h2
    have hx' : (x.length == 0) = true := by simp [hx]
    have g := gives_str_add x y t u
    rw [hx'] at g
    exact ⟨_,g.meets,fun A R r => r⟩
  · by_cases hy : y.length = 0
    · have e : x ++ y = x := by
        have : y.cps = #[] := Array.eq_empty_of_size_eq_zero hy
        show Str.mk (x.cps ++ y.cps) = x
        rw [this]; cases x; simp
      rw [e]
      refine ⟨fun _ pos => match pos with | [.str _ t,_] => t | _ => 0,0,oe_meets (b := «str.__add__») rfl (by decide +kernel) (entryFor_of_tree (by kernel_rfl)) fun s pos hp _ _ => ?_⟩
      refine xE2 (args2 hp) fun p q hxx => xA2 hxx fun qq2 h1 h2 => ?_; clear hxx; obtain rfl := qq2; obtain ⟨t,rfl⟩ := strip_s h1; obtain ⟨u,rfl⟩ := strip_s h2
      have hx' : (x.length == 0) = false := by simp [hx]
      have hy' : (y.length == 0) = true := by simp [hy]
      have g := gives_str_add x y t u
      rw [hx',hy'] at g
      exact ⟨_,g.meets,fun A R r => r⟩
    · refine ⟨fun tk _ => tk,1,oe_meets (b := «str.__add__») rfl (by decide +kernel) (entryFor_of_tree (by kernel_rfl)) fun s pos hp _ _ => ?_⟩
      refine xE2 (args2 hp) fun p q hxx => xA2 hxx fun qq2 h1 h2 => ?_; clear hxx; obtain rfl := qq2; obtain ⟨t,rfl⟩ := strip_s h1; obtain ⟨u,rfl⟩ := strip_s h2
      have hx' : (x.length == 0) = false := by simp [hx]
      have hy' : (y.length == 0) = false := by simp [hy]
      have g := gives_str_add x y t u
      rw [hx',hy'] at g
      exact ⟨_,g.meets,fun A R r => ⟨hl,r⟩⟩
noncomputable def mulS (x : Str) (n : Int) : Str := ⟨(List.replicate n.toNat x.cps).foldl (· ++ ·) #[]⟩
theorem oeMulT {n : Int} (h1 : -1000 ≤ n) (h2 : n ≤ 1000) (hx : x.length = 1) (hl : (mulS x n).length ≤ sizeLine) : ∃ tf d,OEk w (oeSt "str.__mul__" [.s x,.i n] [] (mulS x n) tf d) := by
  have a1 : ¬ n < -(2 ^ 63 : Int) := by lia
  have a2 : ¬ n ≥ 2 ^ 63 := by lia
  have gv : ∀ t u,Gives («str.__mul__» ⟨[.str x t,.int n u],[]⟩) (if n < 1 then .str Str.empty else if (n == 1 || x.length == 0) = true then .val (.str x t) else .str (mulS x n)) := fun t u => by
    refine gives_str_mul x n t u (by simp only [a1,a2,decide_false,Bool.or_self]) ?_ ?_
    · intro _ _ g
      have : (2 ^ 63 - 1 : Int) / n ≥ 1 := Int.le_ediv_of_mul_le (by lia) (by lia)
      lia
    · intro _ _
      rw [hx]
      unfold Builtin.Str.tooLong
      have : ¬ 1 * n.toNat > sizeLine := by show ¬ 1 * n.toNat > 2 ^ 24; lia
      simp only [this,decide_false]
  by_cases q1 : n < 1
  · have e : mulS x n = Str.empty := by
      unfold mulS
      have : n.toNat = 0 := by lia
      rw [this]; rfl
    rw [e]
    refine ⟨fun tk _ => tk,1,oe_meets (b := «str.__mul__») rfl (by decide +kernel) (entryFor_of_tree (by kernel_rfl)) fun s pos hp _ _ => ?_⟩
    refine xE2 (args2 hp) fun p q hxx => xA2 hxx fun qq2 h1 h2 => ?_; clear hxx; obtain rfl := qq2; obtain ⟨t,rfl⟩ := strip_s h1; obtain ⟨u,rfl⟩ := strip_i h2
    have g := gv t u
    rw [if_pos q1] at g
    exact ⟨_,g.meets,fun A R r => ⟨by show 0 ≤ 2 ^ 24; decide,r⟩⟩
  · by_cases q2 : n = 1
    · subst q2
      have e : mulS x 1 = x := by
        show Str.mk (#[] ++ x.cps) = x
        cases x; simp
      rw [e]
      refine ⟨fun _ pos => match pos with | [.str _ t,_] => t | _ => 0,0,oe_meets (b := «str.__mul__») rfl (by decide +kernel) (entryFor_of_tree (by kernel_rfl)) fun s pos hp _ _ => ?_⟩
      refine xE2 (args2 hp) fun p q hxx => xA2 hxx fun qq2 h1 h2 => ?_; clear hxx; obtain rfl := qq2; obtain ⟨t,rfl⟩ := strip_s h1; obtain ⟨u,rfl⟩ := strip_i h2
      have g := gv t u
      rw [if_neg q1,if_pos (by simp)] at g
      exact ⟨_,g.meets,fun A R r => r⟩
    · refine ⟨fun tk _ => tk,1,oe_meets (b := «str.__mul__») rfl (by decide +kernel) (entryFor_of_tree (by kernel_rfl)) fun s pos hp _ _ => ?_⟩
      refine xE2 (args2 hp) fun p q hxx => xA2 hxx fun qq2 h1 h2 => ?_; clear hxx; obtain rfl := qq2; obtain ⟨t,rfl⟩ := strip_s h1; obtain ⟨u,rfl⟩ := strip_i h2
      have g := gv t u
      rw [if_neg q1,if_neg (by simp [hx,q2])] at g
      exact ⟨_,g.meets,fun A R r => ⟨hl,r⟩⟩
theorem strs_of : ∀ {vs : List Value} {ys : List Str},vs.map strip0 = ys.map .s → ∃ l : List (Str × Tok),vs = strValues l ∧ l.map (·.1) = ys
  | [],[],_ => ⟨[],rfl,rfl⟩
  | v :: vs,y :: ys,h => by
    injection h with h1 h2
    obtain ⟨t,rfl⟩ := strip_s h1
    obtain ⟨l,rfl,rfl⟩ := strs_of h2
    exact ⟨(y,t) :: l,rfl,rfl⟩
theorem oeJoinT {a idx n : Nat} {vs : Array Value} {ys : List Str} (hv : vs.toList.map strip0 = ys.map .s) (hl : Builtin.Str.tooLong (ys.toArray.foldl (· + ·.length + x.length) 0) = false) (hl2 : (Builtin.Str.glued x ys).length ≤ sizeLine) :
    ∃ tf d,OEk w (oeSt "str.join" [.s x,.r a] [(idx,a,Lo vs n)] (Builtin.Str.glued x ys) tf d) := by
  obtain ⟨l,e,rfl⟩ := strs_of hv
  have ev : vs = (strValues l).toArray := by rw [← e]
  have isl : ∀ s : Shared,s.heap.get? a = some (Lo vs n) → s.heap.IsList a (strValues l).toArray := fun s h => ⟨_,h,rfl,n,by rw [ev]⟩
  match l,hl,hl2,e,ev,isl with
  | [p],hl,hl2,e,ev,isl =>
    have eg : Builtin.Str.glued x [p.1] = p.1 := rfl
    refine ⟨fun _ _ => p.2,0,oe_meets (b := «str.join») rfl (by decide +kernel) (entryFor_of_tree (by kernel_rfl)) fun s pos hp hn _ => ?_⟩
    refine xE2 (args2 hp) fun u q hxx => xA2 hxx fun qq2 h1 h2 => ?_; clear hxx; obtain rfl := qq2; obtain ⟨t,rfl⟩ := strip_s h1; obtain rfl := strip_r h2
    exact ⟨_,meets_str_join_list x t a [p] hl,fun A R r => ⟨isl s (hn _ (.head _)),r⟩⟩
  | [],hl,hl2,e,ev,isl =>
    refine ⟨fun tk _ => tk,1,oe_meets (b := «str.join») rfl (by decide +kernel) (entryFor_of_tree (by kernel_rfl)) fun s pos hp hn _ => ?_⟩
    refine xE2 (args2 hp) fun u q hxx => xA2 hxx fun qq2 h1 h2 => ?_; clear hxx; obtain rfl := qq2; obtain ⟨t,rfl⟩ := strip_s h1; obtain rfl := strip_r h2
    exact ⟨_,meets_str_join_list x t a [] hl,fun A R r => ⟨isl s (hn _ (.head _)),hl2,r⟩⟩
  | p :: p2 :: l,hl,hl2,e,ev,isl =>
    refine ⟨fun tk _ => tk,1,oe_meets (b := «str.join») rfl (by decide +kernel) (entryFor_of_tree (by kernel_rfl)) fun s pos hp hn _ => ?_⟩
    refine xE2 (args2 hp) fun u q hxx => xA2 hxx fun qq2 h1 h2 => ?_; clear hxx; obtain rfl := qq2; obtain ⟨t,rfl⟩ := strip_s h1; obtain rfl := strip_r h2
    exact ⟨_,meets_str_join_list x t a (p :: p2 :: l) hl,fun A R r => ⟨isl s (hn _ (.head _)),hl2,r⟩⟩
end
noncomputable abbrev Slo (l u st : Value) : Obj := ⟨.type "slice",none,.fields #[l,u,st],#[]⟩
noncomputable def oeSlL (i1 a i2 sl : Nat) (vs : Array Value) (n : Nat) (l u st : Value) (z : Array Value) : OE :=
  ⟨PySem.code "list.__getitem__",[.r a,.r sl],[(i1,a,Lo vs n),(i2,sl,Slo l u st)],fun _ => [],fun _ => [Lo z 0],fun sz _ _ => .ref sz,0,none⟩
theorem oeSlL_ok {w : World} {i1 a i2 sl n : Nat} {vs z : Array Value} {l u st : Value} {lo hi s1 : Option Int} (pl : IsPart l lo) (pu : IsPart u hi) (ps : IsPart st s1) (h0 : s1 ≠ some 0)
    (hz : slicePick vs lo hi s1 = z) (hsz : vs.size ≤ sizeLine) : OEk w (oeSlL i1 a i2 sl vs n l u st z) := by
  refine oe_of (b := Builtin.«list.__getitem__») rfl (entryFor_of_tree (by kernel_rfl)) fun A E s pos hp hn _ => ?_
  refine xE2 (args2 hp) fun p q hx => xA2 hx fun q2 e1 e2 => ?_; clear hx; obtain rfl := q2; obtain rfl := strip_r e1; obtain rfl := strip_r e2
  have ho : s.heap.get? a = some (Lo vs n) := hn _ (.head _)
  have hos : s.heap.get? sl = some (Slo l u st) := hn _ (.tail _ (.head _))
  have hTs : s.TypeIs (.ref sl) "slice" := ⟨_,hos,rfl⟩
  show wpAny _ _ (Builtin.List.listSubscript? (.ref sl) >>= _) _ _ s
  refine wpAny_bind ?_
  unfold Builtin.List.listSubscript?
  refine wpAny_bind (wpAny_specialOf hTs slice_no_index ?_)
  simp only [Option.isNone_none,if_true]
  refine wpAny_pure ?_
  show wpAny _ _ (typeOf (.ref sl) >>= _) _ _ s
  refine wpAny_bind (wpAny_typeOf hTs ?_)
  rw [if_neg (by decide)]
  rw [listSliceParts_eq]
  have hstep : ¬ ((rawPart s1 == rawInt 0) = true) := by
    cases s1 with
    | none => exact Bool.false_ne_true
    | some c =>
      intro hh
      have : c = 0 := by simpa [rawPart,rawInt] using hh
      exact h0 (by rw [this])
  refine wpAny_bind (wpAny_bind (wpAny_field hos rfl (x := st) rfl (wpAny_bind (wpAny_listPart ps ?_))))
  rw [if_neg hstep]
  refine wpAny_bind (wpAny_field hos rfl (x := l) rfl (wpAny_bind (wpAny_listPart pl ?_)))
  refine wpAny_bind (wpAny_field hos rfl (x := u) rfl (wpAny_bind (wpAny_listPart pu (wpAny_pure ?_))))
  refine wpAny_bind (m := Builtin.List.listItems (.ref a)) ?_
  unfold Builtin.List.listItems
  refine wpAny_bind (wpAny_seqItems ho rfl (wpAny_pure ?_))
  refine wpAny_bind (wpAny_of_eq (sliceIndices_raw lo hi s1 vs.size h0) ?_)
  refine wpAny_bind (wpAny_newObj_type (wpAny_pure ⟨_,rfl,rfl,?_⟩) (Nat.le_trans (slicePick_size_le vs lo hi s1) hsz))
  subst hz
  rfl
noncomputable def partV : Option (Int × Tok) → Value := partValue
noncomputable def oeSlS (x : Str) (i2 sl : Nat) (l u : Option (Int × Tok)) (z : Str) (tf : Nat → List Value → Nat) (d : Nat) : OE :=
  oeSt "str.__getitem__" [.s x,.r sl] [(i2,sl,Slo (partValue l) (partValue u) .none)] z tf d
theorem oeSlS_ok {w : World} {x : Str} {i2 sl : Nat} {l u : Option (Int × Tok)} {z : Str} (hz : (⟨((slicePicked x l u none).filterMap (x.cps[·]?)).toArray⟩ : Str) = z)
    (hl : z.length ≤ sizeLine) (hw : (slicePicked x l u none).length = x.length → z = x) : ∃ tf d,OEk w (oeSlS x i2 sl l u z tf d) := by
  by_cases q : (slicePicked x l u none).length = x.length
  · obtain rfl := hw q
    refine ⟨fun _ pos => match pos with | [.str _ t,_] => t | _ => 0,0,oe_meets (b := Builtin.«str.__getitem__») rfl (by decide +kernel) (entryFor_of_tree (by kernel_rfl)) fun s pos hp hn _ => ?_⟩
    refine xE2 (args2 hp) fun p q' hx => xA2 hx fun q2 h1 h2 => ?_; clear hx; obtain rfl := q2; obtain ⟨t,rfl⟩ := strip_s h1; obtain rfl := strip_r h2
    refine ⟨_,meets_str_getitem_slice z t sl l u none rfl,fun A R r => ⟨⟨_,hn _ (.head _),rfl,rfl⟩,?_⟩⟩
    have : sliceMade z t l u none = .val (.str z t) := by
      unfold sliceMade
      rw [if_pos (by simp [q])]
    rw [this]; exact r
  · refine ⟨fun tk _ => tk,1,oe_meets (b := Builtin.«str.__getitem__») rfl (by decide +kernel) (entryFor_of_tree (by kernel_rfl)) fun s pos hp hn _ => ?_⟩
    refine xE2 (args2 hp) fun p q' hx => xA2 hx fun q2 h1 h2 => ?_; clear hx; obtain rfl := q2; obtain ⟨t,rfl⟩ := strip_s h1; obtain rfl := strip_r h2
    refine ⟨_,meets_str_getitem_slice x t sl l u none rfl,fun A R r => ⟨⟨_,hn _ (.head _),rfl,rfl⟩,?_⟩⟩
    have : sliceMade x t l u none = .str z := by
      unfold sliceMade
      rw [if_neg (by simp [q]),hz]
    rw [this]; exact ⟨hl,r⟩
noncomputable def oeLenV (v0 : V0) (need : List (Nat × Nat × Obj)) (k : Int) : OE := ⟨PySem.code "len",[v0],need,fun _ => [],fun _ => [],fun _ tk _ => .int k (tk + 1),2,none⟩
theorem oeLenL2 {w : World} {i a n : Nat} {vs : Array Value} {k : Int} (h : (vs.size : Int) = k) (hk : k < 2 ^ 63) : OEk w (oeLenV (.r a) [(i,a,Lo vs n)] k) := by
  refine oe_of (b := Builtin.«len») rfl (entryFor_of_tree (by kernel_rfl)) fun A E s pos hp hn _ => ?_
  obtain ⟨p,rfl,h1⟩ := args1 hp; obtain rfl := strip_r h1
  subst h
  exact wpAny_len_body_list ⟨_,hn _ (.head _),rfl,n,rfl⟩ hk ⟨rfl,rfl⟩
theorem oeLenS2 {w : World} {x : Str} {k : Int} (h : (x.length : Int) = k) (hk : k < 2 ^ 63) : OEk w (oeLenV (.s x) [] k) := by
  refine oe_of (b := Builtin.«len») rfl (entryFor_of_tree (by kernel_rfl)) fun A E s pos hp hn _ => ?_
  obtain ⟨p,rfl,h1⟩ := args1 hp; obtain ⟨t,rfl⟩ := strip_s h1
  subst h
  exact wpAny_len_body (typeIs_str s x t) F.slot_str_len F.entry_str_len (F.args_str_len_1 _) (gives_str_len x t) (by lia) (by lia) ⟨rfl,rfl⟩
noncomputable def st0 (t : Sem Fin) (c : Code) (p : Pos) (st : List Frame) (sw : List (Code × Pos)) (hd : List (Option Value)) (l : List (Nat × Obj)) (sz tk gz : Nat) (ch : Ch) (L A : List Nat) (O : List (Nat × OE)) : Cf :=
  ⟨t,c,p,st,sw,hd,TT.ofList l,l.length,sz,tk,[],gz,ch,L,A,O,0,[],[],[],[]⟩
structure Su where
  th : Thread
  ob : List (Option (Nat × Obj))
  tk : Nat
  sz : Nat
  gz : Nat
  gl : List (Nat × GenState)
  ch : Ch
noncomputable def getAll (T : TT) : List Nat → List (Option (Nat × Obj))
  | [] => []
  | i :: l => T.get i :: getAll T l
noncomputable def su (f : Cf) (ix : List Nat) : Su := ⟨f.th,getAll f.T ix,f.tk,f.sz,f.gz,f.gl,f.ch⟩
noncomputable def EndOf (w : World) (ro n : Nat) (f : Cf) (ix : List Nat) (x : Su) : Prop :=
  (isS (run (En0 w ro) n f),lhsL (out (En0 w ro) n f),su (out (En0 w ro) n f) ix) = (true,rhsL (out (En0 w ro) n f),x)
theorem own_all {E : En} {B : Bs} {T : TT} {m sz : Nat} {ch : Ch} {h : Heap} (H : RH E B T m sz ch h) : ∀ {ix : List Nat} {ob : List (Option (Nat × Obj))},getAll T ix = ob → ∀ y,some y ∈ ob → h.get? y.1 = some y.2
  | [],_,rfl,y,hy => nomatch hy
  | i :: ix,_,rfl,y,hy => by
    rcases List.mem_cons.mp hy with e | e
    · exact (H.own i y e.symm).2.2.2
    · exact own_all H rfl y e
structure Und (rest : List Frame) (sw : List (Code × Pos)) : Prop where
  w : rest.map Frame.where_ = sw
  h : topHandled rest = none
theorem Und.cons {rest : List Frame} {sw : List (Code × Pos)} (U : Und rest sw) (k : Result → Sem Fin) (g : Bool) (l : List Value) (c : Code) (p : Pos) : Und (.ret k none g l c p [] :: rest) ((c,p) :: sw) :=
  ⟨by rw [List.map_cons,U.w]; rfl,U.h⟩
theorem seg {w : World} {ro n : Nat} {s : Shared} {t : Sem Fin} {c : Code} {p : Pos} {st : List Frame} {sw : List (Code × Pos)} {hd : List (Option Value)} {l : List (Nat × Obj)} {ch : Ch} {L A : List Nat} {O : List (Nat × OE)} {ix : List Nat} {x : Su}
    (I : Inv w s) (OW : OwnL ro l s.heap) (hw : st.map Frame.where_ = sw) (hh : HOk st hd)
    (htab : ∀ a vs,chLook ch a = some vs → a < 268 ∧ s.heap.get? a = some (tableObj vs) ∧ (kt0 w.params).get a = none)
    (h : EndOf w ro n (st0 t c p st sw hd l s.heap.objs.size s.toks s.gens.size ch L A O) ix x) (hO : ∀ y ∈ O,OEk w y.2) (hg : ∀ j y,nthG x.gl j = some y → cleanG y.2) :
    ∃ s',Ext (fun b => updOf ro l b ∨ ∃ vs,chLook x.ch b = some vs) s s' ∧ (∀ y,some y ∈ x.ob → s'.heap.get? y.1 = some y.2) ∧ s'.toks = x.tk ∧ s'.heap.objs.size = x.sz ∧ s'.gens.size = x.gz ∧
      (∀ a vs,chLook x.ch a = some vs → s'.heap.get? a = some (tableObj vs)) ∧ ∀ Q,Good w Q s' x.th → Good w Q s ⟨t,c,p,st⟩ := by
  have R0 := rep_start I l OW (st0 t c p st sw hd l s.heap.objs.size s.toks s.gens.size ch L A O) (fun a => chLook ch a) rfl rfl rfl rfl rfl rfl
    htab hw hh
  unfold EndOf at h
  injection h with h1 h2
  injection h2 with h2 h3
  obtain ⟨s',R,G⟩ := walk (envOk _ _) n (by rw [h1,h2]) hO R0
  have ex := rep_ext R (fun j y e => by
    have : (out (En0 w ro) n (st0 t c p st sw hd l s.heap.objs.size s.toks s.gens.size ch L A O)).gl = x.gl := congrArg Su.gl h3
    rw [this] at e; exact hg j y e) (fun b => ∃ vs,chLook x.ch b = some vs) (fun b hb => by
    have : (out (En0 w ro) n (st0 t c p st sw hd l s.heap.objs.size s.toks s.gens.size ch L A O)).ch = x.ch := congrArg Su.ch h3
    rw [this]
    cases e : chLook x.ch b with
    | none => rfl
    | some vs => exact absurd ⟨vs,e⟩ hb)
  refine ⟨s',ex,fun y hy => own_all R.heap (congrArg Su.ob h3) y hy,R.toks.trans (congrArg Su.tk h3),R.heap.size.trans (congrArg Su.sz h3),R.gens.size.trans (congrArg Su.gz h3),fun a vs e => ?_,fun Q q => ?_⟩
  · have := R.heap.tab a vs (by rw [show (out (En0 w ro) n (st0 t c p st sw hd l s.heap.objs.size s.toks s.gens.size ch L A O)).ch = x.ch from congrArg Su.ch h3]; exact e)
    exact this.2.1
  · refine G Q ?_
    have : (out (En0 w ro) n (st0 t c p st sw hd l s.heap.objs.size s.toks s.gens.size ch L A O)).th = x.th := congrArg Su.th h3
    rw [this]; exact q
noncomputable def EnB (w : World) (ro : Nat) (b : Bool) : En := ⟨w,kt0 w.params,ro,b⟩
noncomputable def withA (f : Cf) (A : List Nat) : Cf := match f with
  | ⟨t,c,p,st,sw,hd,T,m,sz,tk,gl,gz,ch,L,_,O,e,oa,oo,ot,ov⟩ => ⟨t,c,p,st,sw,hd,T,m,sz,tk,gl,gz,ch,L,A,O,e,oa,oo,ot,ov⟩
noncomputable def out2 (w : World) (ro n1 n2 : Nat) (f : Cf) (A2 : List Nat) (b : Bool) : Cf := out (EnB w ro b) n2 (withA (out (En0 w ro) n1 f) A2)
noncomputable def EndOf2 (w : World) (ro n1 n2 : Nat) (f : Cf) (A2 : List Nat) (b : Bool) (ix : List Nat) (x : Su) : Prop :=
  (isS (run (En0 w ro) n1 f),isS (run (EnB w ro b) n2 (withA (out (En0 w ro) n1 f) A2)),lhsL (out2 w ro n1 n2 f A2 b),su (out2 w ro n1 n2 f A2 b) ix) = (true,true,rhsL (out2 w ro n1 n2 f A2 b),x)
theorem rep_withA {E : En} {B : Bs} {f : Cf} {s : Shared} (A : List Nat) (R : Rep E B f s) : Rep E B (withA f A) s := by
  obtain ⟨t,c,p,st,sw,hd,T,m,sz,tk,gl,gz,ch,L,A',O,e,oa,oo,ot,ov⟩ := f
  exact ⟨R.heap,R.gens,R.toks,R.os,R.drawn,R.whr,R.hnd⟩
theorem th_withA (f : Cf) (A : List Nat) : (withA f A).th = f.th := by
  obtain ⟨t,c,p,st,sw,hd,T,m,sz,tk,gl,gz,ch,L,A',O,e,oa,oo,ot,ov⟩ := f
  rfl
theorem O_withA (f : Cf) (A : List Nat) : (withA f A).O = f.O := by
  obtain ⟨t,c,p,st,sw,hd,T,m,sz,tk,gl,gz,ch,L,A',O,e,oa,oo,ot,ov⟩ := f
  rfl
theorem obl_withA {f : Cf} {A : List Nat} (h : Obl (withA f A)) : Obl f := by
  obtain ⟨t,c,p,st,sw,hd,T,m,sz,tk,gl,gz,ch,L,A',O,e,oa,oo,ot,ov⟩ := f
  exact ⟨h.a,h.o,h.t,h.v⟩
theorem seg2 {w : World} {ro n1 n2 : Nat} {b : Bool} {A2 : List Nat} {s : Shared} {t : Sem Fin} {c : Code} {p : Pos} {st : List Frame} {sw : List (Code × Pos)} {hd : List (Option Value)} {l : List (Nat × Obj)} {ch : Ch} {L A : List Nat} {O : List (Nat × OE)} {ix : List Nat} {x : Su}
    (hb : w.params.followText rowFs = b) (I : Inv w s) (OW : OwnL ro l s.heap) (hw : st.map Frame.where_ = sw) (hh : HOk st hd)
    (htab : ∀ a vs,chLook ch a = some vs → a < 268 ∧ s.heap.get? a = some (tableObj vs) ∧ (kt0 w.params).get a = none)
    (h : EndOf2 w ro n1 n2 (st0 t c p st sw hd l s.heap.objs.size s.toks s.gens.size ch L A O) A2 b ix x) (hO : ∀ y ∈ O,OEk w y.2) (hg : ∀ j y,nthG x.gl j = some y → cleanG y.2) :
    ∃ s',Ext (fun b => updOf ro l b ∨ ∃ vs,chLook x.ch b = some vs) s s' ∧ (∀ y,some y ∈ x.ob → s'.heap.get? y.1 = some y.2) ∧ s'.toks = x.tk ∧ s'.heap.objs.size = x.sz ∧ s'.gens.size = x.gz ∧
      (∀ a vs,chLook x.ch a = some vs → s'.heap.get? a = some (tableObj vs)) ∧ ∀ Q,Good w Q s' x.th → Good w Q s ⟨t,c,p,st⟩ := by
  subst hb
  have R0 := rep_start I l OW (st0 t c p st sw hd l s.heap.objs.size s.toks s.gens.size ch L A O) (fun a => chLook ch a) rfl rfl rfl rfl rfl rfl htab hw hh
  unfold EndOf2 at h
  injection h with h1 h2
  injection h2 with h2 h3
  injection h3 with h3 h4
  have r1 := out_eq h1
  have r2 := out_eq h2
  have o2 : Obl (out2 w ro n1 n2 (st0 t c p st sw hd l s.heap.objs.size s.toks s.gens.size ch L A O) A2 (w.params.followText rowFs)) := obl_of h3
  have hO2 : ∀ y ∈ (withA (out (En0 w ro) n1 (st0 t c p st sw hd l s.heap.objs.size s.toks s.gens.size ch L A O)) A2).O,OEk w y.2 := by
    rw [O_withA]
    intro y hy
    exact hO y ((run_mn (envOk w ro) n1 r1 hO).O y hy)
  have o1 := obl_withA (o2.mono (run_mn (E := EnB w ro (w.params.followText rowFs)) (envOk w ro) n2 r2 hO2))
  obtain ⟨s1,R1,G1⟩ := run_sound (envOk w ro) n1 r1 o1 hO R0
  obtain ⟨s',R,G2⟩ := run_sound (E := EnB w ro (w.params.followText rowFs)) (envOk w ro) n2 r2 o2 hO2 (rep_withA A2 R1)
  have ex := rep_ext R (fun j y e => by
    rw [show (out (EnB w ro (w.params.followText rowFs)) n2 (withA (out (En0 w ro) n1 (st0 t c p st sw hd l s.heap.objs.size s.toks s.gens.size ch L A O)) A2)).gl = x.gl from congrArg Su.gl h4] at e; exact hg j y e) (fun b => ∃ vs,chLook x.ch b = some vs) (fun b hb => by
    rw [show (out (EnB w ro (w.params.followText rowFs)) n2 (withA (out (En0 w ro) n1 (st0 t c p st sw hd l s.heap.objs.size s.toks s.gens.size ch L A O)) A2)).ch = x.ch from congrArg Su.ch h4]
    cases e : chLook x.ch b with
    | none => rfl
    | some vs => exact absurd ⟨vs,e⟩ hb)
  refine ⟨s',ex,fun y hy => own_all R.heap (congrArg Su.ob h4) y hy,R.toks.trans (congrArg Su.tk h4),R.heap.size.trans (congrArg Su.sz h4),R.gens.size.trans (congrArg Su.gz h4),fun a vs e => ?_,fun Q q => ?_⟩
  · exact (R.heap.tab a vs (by rw [show (out (EnB w ro (w.params.followText rowFs)) n2 (withA (out (En0 w ro) n1 (st0 t c p st sw hd l s.heap.objs.size s.toks s.gens.size ch L A O)) A2)).ch = x.ch from congrArg Su.ch h4]; exact e)).2.1
  · refine G1 Q ?_
    rw [← th_withA (out (En0 w ro) n1 (st0 t c p st sw hd l s.heap.objs.size s.toks s.gens.size ch L A O)) A2]
    refine G2 Q ?_
    rw [show (out (EnB w ro (w.params.followText rowFs)) n2 (withA (out (En0 w ro) n1 (st0 t c p st sw hd l s.heap.objs.size s.toks s.gens.size ch L A O)) A2)).th = x.th from congrArg Su.th h4]; exact q
theorem glNil : ∀ (j : Nat) (y : Nat × GenState),nthG [] j = some y → cleanG y.2 := fun _ _ e => nomatch e
noncomputable def envF (self : Nat) (o : Obj) (N : Nat) : Env := match o.data with
  | .func f => { scope := f.scope,locals := N,globals := f.globals,cells := f.closure,qual := f.qualname ++ (".<locals>." : Str),func := some self,code := f.code,frame := some N,builtins := f.builtins }
  | _ => default
noncomputable def bodyF (o : Obj) : List Stmt := match o.data with
  | .func f => match f.body with
    | .stmts b => b
    | _ => []
  | _ => []
noncomputable def ents (P : Params) (kt : Nat → Nat) : Nat → List (String × Value) → List DictEntry
  | _,[] => []
  | i,x :: l => ⟨PyData.keyHash P (Str.ofString x.1),.str (Str.ofString x.1) (kt i),x.2⟩ :: ents P kt (i + 1) l
noncomputable def frO (P : Params) (kt : Nat → Nat) (l : List (String × Value)) (n : Nat) : Obj := ⟨.type "frame",none,.dict (ents P kt 0 l).toArray n,#[]⟩
noncomputable def entsT (P : Params) : List (String × Nat × Value) → List DictEntry
  | [] => []
  | x :: l => ⟨PyData.keyHash P (Str.ofString x.1),.str (Str.ofString x.1) x.2.1,x.2.2⟩ :: entsT P l
noncomputable def frT (P : Params) (l : List (String × Nat × Value)) (n : Nat) : Obj := ⟨.type "frame",none,.dict (entsT P l).toArray n,#[]⟩
noncomputable def whileAt (l : List Stmt) (i : Nat) (e : Env) : Code := match nthS l i with
  | .While t b o _ => .whileLoop t b o e
  | _ => .block [] e
noncomputable def posOf (l : List Stmt) (i : Nat) : Pos := match nthS l i with
  | .While _ _ _ p => p
  | .For _ _ _ _ p => p
  | _ => default
theorem segE {w : World} {ro n : Nat} {s : Shared} {t : Sem Fin} {c : Code} {p : Pos} {st : List Frame} {sw : List (Code × Pos)} {hd : List (Option Value)} {l : List (Nat × Obj)} {ch : Ch} {L A : List Nat} {O : List (Nat × OE)} {ix : List Nat} {t' : Sem Fin} {c' : Code} {p' : Pos} {st' : List Frame} {ob : List (Option (Nat × Obj))} {tk' sz' gz' : Nat} {gl' : List (Nat × GenState)} {ch' : Ch}
    (I : Inv w s) (OW : OwnL ro l s.heap) (hw : st.map Frame.where_ = sw) (hh : HOk st hd)
    (htab : ∀ a vs,chLook ch a = some vs → a < 268 ∧ s.heap.get? a = some (tableObj vs) ∧ (kt0 w.params).get a = none)
    (h : EndOf w ro n (st0 t c p st sw hd l s.heap.objs.size s.toks s.gens.size ch L A O) ix ⟨⟨t',c',p',st'⟩,ob,tk',sz',gz',gl',ch'⟩) (hO : ∀ y ∈ O,OEk w y.2) (hg : ∀ j y,nthG gl' j = some y → cleanG y.2) {G : Prop} (k : ∀ s',Ext (fun b => updOf ro l b ∨ ∃ vs,chLook ch' b = some vs) s s' → (∀ y,some y ∈ ob → s'.heap.get? y.1 = some y.2) → s'.toks = tk' → s'.heap.objs.size = sz' → s'.gens.size = gz' →
      (∀ a vs,chLook ch' a = some vs → s'.heap.get? a = some (tableObj vs)) → (∀ Q,Good w Q s' ⟨t',c',p',st'⟩ → Good w Q s ⟨t,c,p,st⟩) → G) : G := by
  obtain ⟨s',a,b,c,d,e,f,g⟩ := seg I OW hw hh htab h hO hg
  exact k s' a b c d e f g
theorem seg2E {w : World} {ro n1 n2 : Nat} {b : Bool} {A2 : List Nat} {s : Shared} {t : Sem Fin} {c : Code} {p : Pos} {st : List Frame} {sw : List (Code × Pos)} {hd : List (Option Value)} {l : List (Nat × Obj)} {ch : Ch} {L A : List Nat} {O : List (Nat × OE)} {ix : List Nat} {t' : Sem Fin} {c' : Code} {p' : Pos} {st' : List Frame} {ob : List (Option (Nat × Obj))} {tk' sz' gz' : Nat} {gl' : List (Nat × GenState)} {ch' : Ch}
    (hb : w.params.followText rowFs = b) (I : Inv w s) (OW : OwnL ro l s.heap) (hw : st.map Frame.where_ = sw) (hh : HOk st hd)
    (htab : ∀ a vs,chLook ch a = some vs → a < 268 ∧ s.heap.get? a = some (tableObj vs) ∧ (kt0 w.params).get a = none)
    (h : EndOf2 w ro n1 n2 (st0 t c p st sw hd l s.heap.objs.size s.toks s.gens.size ch L A O) A2 b ix ⟨⟨t',c',p',st'⟩,ob,tk',sz',gz',gl',ch'⟩) (hO : ∀ y ∈ O,OEk w y.2) (hg : ∀ j y,nthG gl' j = some y → cleanG y.2) {G : Prop} (k : ∀ s',Ext (fun b => updOf ro l b ∨ ∃ vs,chLook ch' b = some vs) s s' → (∀ y,some y ∈ ob → s'.heap.get? y.1 = some y.2) → s'.toks = tk' → s'.heap.objs.size = sz' → s'.gens.size = gz' →
      (∀ a vs,chLook ch' a = some vs → s'.heap.get? a = some (tableObj vs)) → (∀ Q,Good w Q s' ⟨t',c',p',st'⟩ → Good w Q s ⟨t,c,p,st⟩) → G) : G := by
  obtain ⟨s',a,b,c,d,e,f,g⟩ := seg2 hb I OW hw hh htab h hO hg
  exact k s' a b c d e f g
theorem segEp {w : World} {ro n : Nat} {s : Shared} {t : Sem Fin} {c : Code} {p : Pos} {st : List Frame} {sw : List (Code × Pos)} {hd : List (Option Value)} {l : List (Nat × Obj)} {ch : Ch} {L A : List Nat} {O : List (Nat × OE)} {ix : List Nat} {t' : Sem Fin} {c' : Code} {p' : Pos} {st' : List Frame} {ob : List (Option (Nat × Obj))} {tk' sz' gz' : Nat} {gl' : List (Nat × GenState)} {ch' : Ch}
    (I : Inv w s) (OW : OwnL ro l s.heap) (hw : st.map Frame.where_ = sw) (hh : HOk st hd)
    (htab : ∀ a vs,chLook ch a = some vs → a < 268 ∧ s.heap.get? a = some (tableObj vs) ∧ (kt0 w.params).get a = none)
    (h : EndOf w ro n (st0 t c p st sw hd l s.heap.objs.size s.toks s.gens.size ch L A O) ix ⟨⟨t',c',p',st'⟩,ob,tk',sz',gz',gl',ch'⟩) (hO : ∀ y ∈ O,OEk w y.2) (hg : ∀ j y,nthG gl' j = some y → cleanG y.2) {G : Prop} (k : ∀ s' (pz : Pos),Ext (fun b => updOf ro l b ∨ ∃ vs,chLook ch' b = some vs) s s' → (∀ y,some y ∈ ob → s'.heap.get? y.1 = some y.2) → s'.toks = tk' → s'.heap.objs.size = sz' → s'.gens.size = gz' →
      (∀ a vs,chLook ch' a = some vs → s'.heap.get? a = some (tableObj vs)) → (∀ Q,Good w Q s' ⟨t',c',pz,st'⟩ → Good w Q s ⟨t,c,p,st⟩) → G) : G := by
  obtain ⟨s',a,b,c,d,e,f,g⟩ := seg I OW hw hh htab h hO hg
  exact k s' p' a b c d e f g
noncomputable def callerC : Code × Pos := (.builtin "claim.caller" {},default)
inductive Cx
  | D (st : List Stmt) (env : Env) (q : Pos)
  | L (t : PySem.Expr) (it : Value) (b o : List Stmt) (e : Env) (p : Pos) (st : List Stmt) (env : Env) (q : Pos)
  | C (elt : PySem.Expr) (gs : List Comprehension) (sc : Scope) (xp : Pos) (d : Nat) (i acc : Value) (e1 : Env) (p1 : Pos) (t : PySem.Expr) (it : Value) (b o : List Stmt) (e : Env) (p : Pos) (st : List Stmt) (env : Env) (q : Pos)
noncomputable def Cx.c : Cx → Code
  | .D st env _ => .func st env
  | .L t it b o e _ _ _ _ => .forLoop t it b o e
  | .C elt gs sc xp d i acc e1 _ _ _ _ _ _ _ _ _ _ => .compLoop (.ListComp elt gs sc xp) d i acc e1
noncomputable def Cx.p : Cx → Pos
  | .D _ _ q => q
  | .L _ _ _ _ _ p _ _ _ => p
  | .C _ _ _ _ _ _ _ _ p1 _ _ _ _ _ _ _ _ _ => p1
noncomputable def Cx.sw : Cx → List (Code × Pos)
  | .D _ _ _ => [callerC]
  | .L _ _ _ _ _ _ st env q => [(.func st env,q),callerC]
  | .C _ _ _ _ _ _ _ _ _ t it b o e p st env q => [(.forLoop t it b o e,p),(.func st env,q),callerC]
noncomputable def Cx.dl : Cx → Bool
  | .C .. => false
  | _ => true
noncomputable def kOf (f : Cf) : Result → Sem Fin := match f.st with
  | .ret k _ _ _ _ _ _ :: _ => k
  | _ => fun _ => .unsupported "no frame"
noncomputable def retS (f : Cf) : Option (V0 × List Frame) := match f.t with
  | .pure (.done (.ret v)) => some (strip0 v,f.st)
  | _ => none
noncomputable def EndR (w : World) (ro n : Nat) (f : Cf) (ix : List Nat) (v0 : V0) (st : List Frame) (ob : List (Option (Nat × Obj))) (ch : Ch) : Prop :=
  (isS (run (En0 w ro) n f),lhsL (out (En0 w ro) n f),retS (out (En0 w ro) n f),getAll (out (En0 w ro) n f).T ix,(out (En0 w ro) n f).gl,(out (En0 w ro) n f).ch) = (true,rhsL (out (En0 w ro) n f),some (v0,st),ob,[],ch)
theorem retS_eq {f : Cf} {v0 : V0} {st : List Frame} (h : retS f = some (v0,st)) : ∃ v,strip0 v = v0 ∧ f.t = .pure (.done (.ret v)) ∧ f.st = st := by
  unfold retS at h
  split at h
  · rename_i v e
    injection h with h; injection h with h1 h2
    exact ⟨v,h1,e,h2⟩
  · cases h
theorem segR {w : World} {ro n : Nat} {s : Shared} {t : Sem Fin} {c : Code} {p : Pos} {st : List Frame} {sw : List (Code × Pos)} {hd : List (Option Value)} {l : List (Nat × Obj)} {ch : Ch} {L A : List Nat} {O : List (Nat × OE)} {ix : List Nat}
    {v0 : V0} {k : Result → Sem Fin} {hh' : Option Value} {g : Bool} {lv : List Value} {c1 : Code} {p1 : Pos} {rest : List Frame} {ob : List (Option (Nat × Obj))} {ch' : Ch}
    (I : Inv w s) (OW : OwnL ro l s.heap) (hw : st.map Frame.where_ = sw) (hh : HOk st hd)
    (htab : ∀ a vs,chLook ch a = some vs → a < 268 ∧ s.heap.get? a = some (tableObj vs) ∧ (kt0 w.params).get a = none)
    (h : EndR w ro n (st0 t c p st sw hd l s.heap.objs.size s.toks s.gens.size ch L A O) ix v0 (.ret k hh' g lv c1 p1 [] :: rest) ob ch') (hO : ∀ y ∈ O,OEk w y.2) :
    ∃ s' v,strip0 v = v0 ∧ Ext (fun b => updOf ro l b ∨ ∃ vs,chLook ch' b = some vs) s s' ∧ (∀ y,some y ∈ ob → s'.heap.get? y.1 = some y.2) ∧
      (∀ a vs,chLook ch' a = some vs → s'.heap.get? a = some (tableObj vs)) ∧ ∀ Q,Good w Q s' ⟨k (.ok (.ret v)),c1,p1,rest⟩ → Good w Q s ⟨t,c,p,st⟩ := by
  have R0 := rep_start I l OW (st0 t c p st sw hd l s.heap.objs.size s.toks s.gens.size ch L A O) (fun a => chLook ch a) rfl rfl rfl rfl rfl rfl
    htab hw hh
  unfold EndR at h
  injection h with h1 h2
  injection h2 with h2 h3
  injection h3 with h3 h4
  injection h4 with h4 h5
  injection h5 with h5 h6
  obtain ⟨s',R,G⟩ := walk (envOk _ _) n (by rw [h1,h2]) hO R0
  have ex := rep_ext R (fun j y e => by rw [h5] at e; cases e) (fun b => ∃ vs,chLook ch' b = some vs) (fun b hb => by
    rw [h6]
    cases e : chLook ch' b with
    | none => rfl
    | some vs => exact absurd ⟨vs,e⟩ hb)
  obtain ⟨v,hv,ht,hs⟩ := retS_eq h3
  refine ⟨s',v,hv,ex,fun y hy => own_all R.heap h4 y hy,fun a vs e => ?_,fun Q q => ?_⟩
  · exact (R.heap.tab a vs (by rw [h6]; exact e)).2.1
  · refine G Q ?_
    have e : (out (En0 w ro) n (st0 t c p st sw hd l s.heap.objs.size s.toks s.gens.size ch L A O)).th = ⟨.pure (.done (.ret v)),(out (En0 w ro) n (st0 t c p st sw hd l s.heap.objs.size s.toks s.gens.size ch L A O)).c,(out (En0 w ro) n (st0 t c p st sw hd l s.heap.objs.size s.toks s.gens.size ch L A O)).p,.ret k hh' g lv c1 p1 [] :: rest⟩ := by
      unfold Cf.th
      rw [ht,hs]
    rw [e]
    exact Good.back (s' := s') (step_leaf_ret (M := Md w) s' _ _ rest (.ok (.ret v)) k hh' g lv c1 p1 []) q
theorem segRE {w : World} {ro n : Nat} {s : Shared} {t : Sem Fin} {c : Code} {p : Pos} {st : List Frame} {sw : List (Code × Pos)} {hd : List (Option Value)} {l : List (Nat × Obj)} {ch : Ch} {L A : List Nat} {O : List (Nat × OE)} {ix : List Nat}
    {v0 : V0} {k : Result → Sem Fin} {hh' : Option Value} {g : Bool} {lv : List Value} {c1 : Code} {p1 : Pos} {rest : List Frame} {ob : List (Option (Nat × Obj))} {ch' : Ch}
    (I : Inv w s) (OW : OwnL ro l s.heap) (hw : st.map Frame.where_ = sw) (hh : HOk st hd)
    (htab : ∀ a vs,chLook ch a = some vs → a < 268 ∧ s.heap.get? a = some (tableObj vs) ∧ (kt0 w.params).get a = none)
    (h : EndR w ro n (st0 t c p st sw hd l s.heap.objs.size s.toks s.gens.size ch L A O) ix v0 (.ret k hh' g lv c1 p1 [] :: rest) ob ch') (hO : ∀ y ∈ O,OEk w y.2) {G : Prop} (kk : ∀ s' v,strip0 v = v0 → Ext (fun b => updOf ro l b ∨ ∃ vs,chLook ch' b = some vs) s s' → (∀ y,some y ∈ ob → s'.heap.get? y.1 = some y.2) →
      (∀ a vs,chLook ch' a = some vs → s'.heap.get? a = some (tableObj vs)) → (∀ Q,Good w Q s' ⟨k (.ok (.ret v)),c1,p1,rest⟩ → Good w Q s ⟨t,c,p,st⟩) → G) : G := by
  obtain ⟨s',v,a,b,c,d,e⟩ := segR I OW hw hh htab h hO
  exact kk s' v a b c d e
noncomputable def iaT (pos : List Value) : Sem Fin := match pos with
  | [s,it] => (PySem.W.Fast.tw8711993805878244202 it).bind fun iter => (PySem.W.Fast.tw17359229931016689406 [iter] (PySem.W.Fast.tw15112759502256325868 it)).bind fun room => match room with
    | true => .rule "list.extend.makes-room" fun _ => (PySem.W.Fast.tw922294955767894045 s).bind fun _ => PySem.W.Fast.tw12377390311714414960 (.builtin "list.extend.loop" ⟨[s,iter,s],[]⟩)
    | false => PySem.W.Fast.tw12377390311714414960 (.builtin "list.extend.loop" ⟨[s,iter,s],[]⟩)
  | _ => .unsupported "args"
noncomputable abbrev genO (g t1 t2 : Nat) (qn : Str) : Obj := ⟨.type "generator",none,.fields #[.int g 0,.str (Str.ofString "<genexpr>") t1,.str qn t2],#[]⟩
noncomputable def iaO (a b idx g t1 t2 : Nat) (qn : Str) : OE := ⟨PySem.code "list.__iadd__",[.r a,.r b],[(idx,b,genO g t1 t2 qn)],fun _ => [],fun _ => [],fun _ _ _ => .none,0,some iaT⟩
theorem ia_tree {a b g t1 t2 : Nat} {qn : Str} (hne : a ≠ b) : ∃ k,Builtin.List.listExtendWith (.ref a) (.ref b) (.ref a) = .load b (some headPart) k ∧ k (genO g t1 t2 qn) = iaT [.ref a,.ref b] := by
  unfold Builtin.List.listExtendWith
  unfold typeOf
  refine ⟨_,rfl,?_⟩
  have e1 : Builtin.List.listSameRef (Value.ref a) (Value.ref b) = false := by
    show (a == b) = false
    simp [hne]
  have e2 : (Value.type "generator" == Value.type "list") = false := by decide
  have e3 : (Value.type "generator" == Value.type "tuple") = false := by decide
  show (if (Builtin.List.listSameRef (Value.ref a) (Value.ref b) || Value.type "generator" == Value.type "list" || Value.type "generator" == Value.type "tuple") = true then _ else _) = _
  rw [e1,e2,e3]
  simp only [Bool.or_self,Bool.false_eq_true,if_false]
  unfold iaT
  rw [← PySem.W.Fast.te8711993805878244202,← PySem.W.Fast.te17359229931016689406,← PySem.W.Fast.te15112759502256325868,← PySem.W.Fast.te922294955767894045,← PySem.W.Fast.te12377390311714414960]
  show (pyIter (Value.ref b)).bind _ = (pyIter (Value.ref b)).bind _
  congr 1
  funext iter
  show (holding [iter] (Builtin.List.listLengthHint (Value.ref b))).bind _ = (holding [iter] (Builtin.List.listLengthHint (Value.ref b))).bind _
  congr 1
  funext room
  cases room <;> rfl
theorem den_builtin {id : String} {args : Args} {b : Builtin} (hb : entryFor table id = some b) : den (.builtin id args) = b args := by
  rw [← den_eq]
  show (match entryFor table id with | some b => b args | none => unsupported ((withoutEnding? id "#data").getD id)) = _
  rw [hb]
theorem iaO_ok {w : World} {a b idx g t1 t2 : Nat} {qn : Str} (hne : a ≠ b) : OEk w (iaO a b idx g t1 t2 qn) := by
  refine ⟨(fun h => nomatch h),fun T hT s id pos p st hid hp hn R G => ?_⟩
  cases hT
  have : id = "list.__iadd__" := PySem.code_inj _ _ hid
  subst this
  refine xE2 (args2 hp) fun x y hx => xA2 hx fun q2 h1 h2 => ?_; clear hx; obtain rfl := q2; obtain rfl := strip_r h1; obtain rfl := strip_r h2
  have ho : s.heap.get? b = some (genO g t1 t2 qn) := hn _ (.head _)
  obtain ⟨k,e1,e2⟩ := ia_tree (a := a) (b := b) (g := g) (t1 := t1) (t2 := t2) (qn := qn) hne
  have e : den (.builtin "list.__iadd__" ⟨[.ref a,.ref b],[]⟩) = .load b (some headPart) k := by
    rw [den_builtin (b := Builtin.«list.__iadd__») (entryFor_of_tree (by kernel_rfl))]
    exact e1
  rw [e]
  refine Good.back (s' := s) (t' := ⟨k (genO g t1 t2 qn),_,p,st⟩) ?_ (by rw [e2]; exact G)
  exact PySem.step_load (Md w) s _ p st (some headPart) k ho
noncomputable def tE (w : World) (N : Nat) : Env := envF 90 (o90 w.params) N
noncomputable def tB (w : World) : List Stmt := bodyF (o90 w.params)
noncomputable def tW (w : World) (N : Nat) : Code := whileAt (tB w) 3 (tE w N)
noncomputable def tP (w : World) : Pos := posOf (tB w) 3
noncomputable def cS (c : Nat) : Str := ⟨#[c]⟩
noncomputable def gtO (x : Str) (i : Int) (c : Nat) : OE := oeP "str.__getitem__" [.s x,.i i] (fun tk => .str ⟨#[c]⟩ tk) 1
noncomputable def ltO (a b : Int) (r : Bool) : OE := oeP "int.__lt__" [.i a,.i b] (fun _ => .bool r) 0
noncomputable def geO (a b : Int) (r : Bool) : OE := oeP "int.__ge__" [.i a,.i b] (fun _ => .bool r) 0
noncomputable def fdO (x : Str) (lo hi r : Int) : OE := oeP "str.find" [.s x,.s ⟨#[45]⟩,.i lo,.i hi] (fun tk => .int r tk) 1
noncomputable def slO (x : Str) (i a : Nat) (l : Int) (lt : Nat) (u : Int) (ut : Nat) (z : Str) : OE := oeSlS x i a (some (l,lt)) (some (u,ut)) z (fun tk _ => tk) 1
noncomputable def zipE : List Nat → List OE → List (Nat × OE)
  | a :: as,b :: bs => (a,b) :: zipE as bs
  | _,_ => []
structure Sls where
  (i1 o1 a1 b1 i2 o2 a2 b2 i3 o3 a3 b3 gi go g1 g2 : Nat)
noncomputable def qnG : Str := Str.ofString "_translate.<locals>.<genexpr>"
noncomputable def os0 (x : Str) (I nn : Int) (R : Nat) (rs : Array Value) (ep tk sz gz c : Nat) (s : Sls) : List OE :=
  [ltO I nn true,gtO x I 91,ltO (I + 1) nn true,gtO x (I + 1) 48,ltO (I + 1) nn true,gtO x (I + 1) 48,ltO (I + 1) nn true,gtO x (I + 1) 48,ltO (I + 1 + 1) nn true,gtO x (I + 1 + 1) 45,
   ltO (I + 1 + 1 + 1) nn true,gtO x (I + 1 + 1 + 1) c,ltO (I + 1 + 1 + 1 + 1) nn true,gtO x (I + 1 + 1 + 1 + 1) 93,geO (I + 1 + 1 + 1 + 1) nn false,
   slO x s.i1 (sz + s.o1) (I + 1) (tk + s.a1) (I + 1 + 1 + 1 + 1) (tk + s.b1) ⟨#[48,45,c]⟩,gtO x (I + 1) 48,fdO x (I + 1 + 1) (I + 1 + 1 + 1 + 1) (I + 1 + 1),ltO (I + 1 + 1) 0 false,
   slO x s.i2 (sz + s.o2) (I + 1) (tk + s.a2) (I + 1 + 1) (tk + s.b2) ⟨#[48]⟩,fdO x (I + 1 + 1 + 3) (I + 1 + 1 + 1 + 1) (-1),slO x s.i3 (sz + s.o3) (I + 1 + 1 + 1) (tk + s.a3) (I + 1 + 1 + 1 + 1) (tk + s.b3) ⟨#[c]⟩,
   iaO (sz + (s.go + 1)) (sz + s.go) s.gi gz (tk + s.g1) (tk + s.g2) qnG,oeApp 1 R rs ep (.s ⟨#[91,48,45,c,93]⟩)]
noncomputable def os1 (x : Str) (I nn : Int) (R : Nat) (rs : Array Value) (ep tk sz gz a b : Nat) (s : Sls) : List OE :=
  [ltO I nn true,gtO x I 91,ltO (I + 1) nn true,gtO x (I + 1) 33,ltO (I + 1 + 1) nn true,gtO x (I + 1 + 1) a,ltO (I + 1 + 1) nn true,gtO x (I + 1 + 1) a,ltO (I + 1 + 1 + 1) nn true,gtO x (I + 1 + 1 + 1) 45,
   ltO (I + 1 + 1 + 1 + 1) nn true,gtO x (I + 1 + 1 + 1 + 1) b,ltO (I + 1 + 1 + 1 + 1 + 1) nn true,gtO x (I + 1 + 1 + 1 + 1 + 1) 93,geO (I + 1 + 1 + 1 + 1 + 1) nn false,
   slO x s.i1 (sz + s.o1) (I + 1) (tk + s.a1) (I + 1 + 1 + 1 + 1 + 1) (tk + s.b1) ⟨#[33,a,45,b]⟩,gtO x (I + 1) 33,fdO x (I + 1 + 2) (I + 1 + 1 + 1 + 1 + 1) (I + 1 + 2),ltO (I + 1 + 2) 0 false,
   slO x s.i2 (sz + s.o2) (I + 1) (tk + s.a2) (I + 1 + 2) (tk + s.b2) ⟨#[33,a]⟩,fdO x (I + 1 + 2 + 3) (I + 1 + 1 + 1 + 1 + 1) (-1),slO x s.i3 (sz + s.o3) (I + 1 + 2 + 1) (tk + s.a3) (I + 1 + 1 + 1 + 1 + 1) (tk + s.b3) ⟨#[b]⟩,
   iaO (sz + (s.go + 1)) (sz + s.go) s.gi gz (tk + s.g1) (tk + s.g2) qnG,oeApp 1 R rs ep (.s ⟨#[91,94,a,45,b,93]⟩)]
noncomputable def tFl (sh : Nat) (kt : Nat → Nat) (v : Nat → Value) : List (String × Nat × Value) := match sh with
  | 0 => []
  | 1 => [("c",kt 7,v 7)]
  | _ => [("c",kt 7,v 7),("j",kt 8,v 8),("stuff",kt 9,v 9),("chunks",kt 10,v 10),("k",kt 11,v 11),("chunk",kt 12,v 12)]
noncomputable def tFn (sh : Nat) : Nat := match sh with
  | 0 => 7
  | 1 => 8
  | _ => 13
noncomputable def tF (w : World) (sh : Nat) (kt ut : Nat → Nat) (v : Nat → Value) (x : Str) (S R M : Nat) (nn I : Int) (it : Nat) : Obj :=
  frT w.params ([("pat",kt 0,.str x (ut 0)),("STAR",kt 1,.ref S),("QUESTION_MARK",kt 2,.str ⟨#[46]⟩ (ut 2)),("res",kt 3,.ref R),("add",kt 4,.ref M),("n",kt 5,.int nn (ut 5)),("i",kt 6,.int I it)] ++ tFl sh kt v) (tFn sh)
noncomputable def tM (R : Nat) : Obj := ⟨.type "builtin_function_or_method",none,.fields #[.builtin "list.append",.ref R],#[]⟩
noncomputable def warmV (c1 c2 : Nat) : Array Value := #[.int 81 0,.int 37 0,.ref c1,.int 82 0,.int 39 0,.ref c2]
noncomputable def tabV (warm : Bool) (c1 c2 : Nat) : Array Value := match warm with
  | true => warmV c1 c2
  | false => #[]
section
variable (w : World) (N R M S sz tk gz c1 c2 : Nat) (kt ut : Nat → Nat) (v : Nat → Value) (it ep : Nat) (x : Str) (nn I : Int) (rs : Array Value) (kk : Result → Sem Fin) (rest : List Frame) (sw : List (Code × Pos)) (pp : Pos)
noncomputable def tS : List Frame := .ret kk none false [] (.func (tB w) (tE w N)) (tP w) [] :: rest
noncomputable def tSW : List (Code × Pos) := (.func (tB w) (tE w N),tP w) :: sw
noncomputable def tC (sh : Nat) (ch : Ch) (L A : List Nat) (O : List (Nat × OE)) : Cf := st0 (den (tW w N)) (tW w N) pp (tS w N kk rest) (tSW w N sw) [none,none] [(N,tF w sh kt ut v x S R M nn I it),(R,Lo rs ep),(M,tM R)] sz tk gz ch L A O
end
noncomputable def iE (w : World) (N : Nat) : Env := envF 257 (o257 w.params) N
noncomputable def iB (w : World) : List Stmt := bodyF (o257 w.params)
noncomputable def iW (w : World) (N : Nat) : Code := whileAt (iB w) 2 (iE w N)
noncomputable def iP (w : World) : Pos := posOf (iB w) 2
noncomputable def iCall (x : Str) (t1 : Nat) : Code := .call (.ref 257) ⟨[.str x t1],[]⟩
noncomputable def iF (w : World) (sh : Nat) (kt : Nat → Nat) (ut : Nat) (x : Str) (Li : Nat) (star : Bool) (I : Int) (it : Nat) (br : Bool) : Obj := match sh with
  | 0 => frT w.params [("text",kt 0,.str x ut),("items",kt 1,.ref Li),("star",kt 2,.bool star),("k",kt 3,.int I it)] 4
  | _ => frT w.params [("text",kt 0,.str x ut),("items",kt 1,.ref Li),("star",kt 2,.bool star),("k",kt 3,.int I it),("barred",kt 4,.bool br)] 5
noncomputable def ktI (tk j : Nat) : Nat := match j with
  | 0 => tk
  | 1 => tk + 5
  | 2 => tk + 6
  | _ => tk + 8
noncomputable def st2 : Str := ⟨#[46,42]⟩
noncomputable def k0 (star : Bool) : Int := if star then 6 else 4
noncomputable def Tup (l : List Value) : Obj := ⟨.type "tuple",none,.seq l.toArray 0,#[]⟩
section
variable (w : World) (cx : Cx) (sz tk gz t1 : Nat) (x z : Str) (star : Bool) (k : Result → Sem Fin) (g : Bool) (lv : List Value) (pp : Pos) (rest : List Frame)
noncomputable def iA : Cf := st0 (den (iCall x t1)) (iCall x t1) pp (.ret k none g lv cx.c cx.p [] :: rest) ((cx.c,cx.p) :: cx.sw) [none,none] [] sz tk gz []
  [0,0,1,1,0,1,4,4,4,4,5,5,5,5,5,4,5,5,5,5,5,5,4,5,5,5,5,5,5,4,5,5,7,1,1,1,1,1,1,1] [0,1,1,0,0,0]
  [(0,slO x 1 (sz + 1) 4 (tk + 1) 6 (tk + 2) z),(1,oeP "str.__eq__" [.s z,.s st2] (fun _ => .bool star) 0)]
noncomputable def iAo : Cf := out (En0 w 0) 101 (iA cx sz tk gz t1 x z star k g lv pp rest)
noncomputable def iS (w : World) (N : Nat) (kk : Result → Sem Fin) (rest : List Frame) : List Frame := .ret kk none false [] (.func (iB w) (iE w N)) (iP w) [] :: rest
theorem iA_end (hx : cx.dl = true) : EndOf w 0 101 (iA cx sz tk gz t1 x z star k g lv pp rest) [0,2]
   ⟨⟨den (iW w sz),iW w sz,iP w,iS w sz (kOf (iAo w cx sz tk gz t1 x z star k g lv pp rest)) (.ret k none g lv cx.c cx.p [] :: rest)⟩,
    [some (sz,iF w 0 (ktI tk) t1 x (sz + 2) star (k0 star) (tk + 7) false),some (sz + 2,Lo #[] 0)],tk + 9,sz + 7,gz,[],[]⟩ := by
  cases cx with
  | D st env q' => cases star <;> (unfold EndOf; kernel_rfl)
  | L t it b o e p' st env q' => cases star <;> (unfold EndOf; kernel_rfl)
  | C => cases hx
variable (N Li ep it ut : Nat) (kt : Nat → Nat) (I nn : Int) (vs : Array Value) (br : Bool) (kk : Result → Sem Fin) (sw : List (Code × Pos)) (a b : Nat)
noncomputable def iOs (kd : Nat) (x : Str) (I nn : Int) (a b Li ep sz : Nat) (vs : Array Value) : List OE := match kd with
  | 0 => [oeLenV (.s x) [] nn,ltO I (nn - 3) true,gtO x I 48,gtO x I 48,oeApp 1 Li vs ep (.r sz)]
  | 1 => [oeLenV (.s x) [] nn,ltO I (nn - 3) true,gtO x I 46,gtO x I 46,gtO x I 46,oeApp 1 Li vs ep (.r sz)]
  | 2 => [oeLenV (.s x) [] nn,ltO I (nn - 3) true,gtO x I 91,gtO x (I + 1) 48,gtO x (I + 1 + 1) 45,gtO x (I + 1 + 3) 93,gtO x (I + 1) 48,gtO x (I + 1 + 2) b,oeApp 1 Li vs ep (.r sz)]
  | _ => [oeLenV (.s x) [] nn,ltO I (nn - 3) true,gtO x I 91,gtO x (I + 1) 94,gtO x (I + 2 + 1) 45,gtO x (I + 2 + 3) 93,gtO x (I + 2) a,gtO x (I + 2 + 2) b,oeApp 1 Li vs ep (.r sz)]
noncomputable def iEv (kd : Nat) : List Nat := match kd with
  | 0 => [0,2,3,5,7]
  | 1 => [0,2,3,5,7,9]
  | _ => [0,2,3,6,10,12,15,17,18]
noncomputable def iL (kd : Nat) : List Nat := match kd with
  | 0 => [1,0,0,1,1,1,1,2,2,2,2,1,1,2,1,1,1]
  | 1 => [1,0,0,1,1,1,1,2,2,2,2,1,1,1,1,2,1,1,1]
  | _ => [1,0,0,1,1,1,1,1,1,1,1,1,1,1,1,2,2,2,2,1,1,1,1,1,1,1,1,1,2,1,1,1]
noncomputable def iAs (kd : Nat) : List Nat := match kd with
  | 0 => [1,1,1,0]
  | 1 => [1,1,1,1,0]
  | _ => [1,1,1,0,0,1,0]
noncomputable def iN (kd : Nat) : Nat := match kd with
  | 0 => 82
  | 1 => 95
  | _ => 172
noncomputable def iDt (kd : Nat) : Nat := match kd with
  | 0 => 13
  | 1 => 15
  | _ => 29
noncomputable def iKt (kd tk : Nat) : Nat := match kd with
  | 0 => tk + 11
  | 1 => tk + 13
  | _ => tk + 27
noncomputable def iI (kd : Nat) (I : Int) : Int := match kd with
  | 0 => I + 1
  | 1 => I + 1
  | 2 => I + 1 + 4
  | _ => I + 2 + 4
noncomputable def iSh (kd sh : Nat) : Nat := match kd with
  | 0 => sh
  | 1 => sh
  | _ => 1
noncomputable def iBr (kd : Nat) (br : Bool) : Bool := match kd with
  | 0 => br
  | 1 => br
  | 2 => false
  | _ => true
noncomputable def ktB (kd sh tk : Nat) (kt : Nat → Nat) (j : Nat) : Nat := match kd with
  | 0 => kt j
  | 1 => kt j
  | _ => match sh with
    | 0 => match j with
      | 4 => tk + 10
      | j => kt j
    | _ => kt j
noncomputable def iTup (kd a b tk : Nat) : Obj := match kd with
  | 0 => Tup [.str ⟨#[48]⟩ (tk + 8),.str ⟨#[48]⟩ (tk + 9),.bool false]
  | 1 => Tup [.str ⟨#[48]⟩ (tk + 8),.str ⟨#[57]⟩ (tk + 9),.bool false]
  | 2 => Tup [.str ⟨#[48]⟩ (tk + 22),.str ⟨#[b]⟩ (tk + 25),.bool false]
  | _ => Tup [.str ⟨#[a]⟩ (tk + 22),.str ⟨#[b]⟩ (tk + 25),.bool true]
noncomputable def iT (kd sh : Nat) : Cf := st0 (den (iW w N)) (iW w N) pp (iS w N kk rest) ((.func (iB w) (iE w N),iP w) :: sw) [none,none] [(N,iF w sh kt ut x Li star I it br),(Li,Lo vs ep)] sz tk gz [] (iL kd) (iAs kd) (zipE (iEv kd) (iOs kd x I nn a b Li ep sz vs))
noncomputable def ITEnd (kd sh : Nat) : Prop := EndOf w 0 (iN kd) (iT w sz tk gz x star pp rest N Li ep it ut kt I nn vs br kk sw a b kd sh) [0,1,2]
   ⟨⟨den (iW w N),iW w N,(out (En0 w 0) (iN kd) (iT w sz tk gz x star pp rest N Li ep it ut kt I nn vs br kk sw a b kd sh)).p,iS w N kk rest⟩,
    [some (N,iF w (iSh kd sh) (ktB kd sh tk kt) ut x Li star (iI kd I) (iKt kd tk) (iBr kd br)),some (Li,Lo (vs.push (.ref sz)) (ep + 1)),some (sz,iTup kd a b tk)],tk + iDt kd,sz + 1,gz,[],[]⟩
theorem iT_end (kd sh : Nat) (h : (kd,sh) ∈ [(0,0),(0,1),(1,0),(1,1),(2,0),(2,1),(3,0),(3,1)]) : ITEnd w sz tk gz x star pp rest N Li ep it ut kt I nn vs br kk sw a b kd sh := by
  have H : ∀ kd sh,(kd,sh) ∈ [(0,0),(0,1),(1,0),(1,1),(2,0),(2,1),(3,0),(3,1)] → ITEnd w sz tk gz x star pp rest N Li ep it ut kt I nn vs br kk sw a b kd sh := all2 (by kernel_rfl)
  exact H _ _ h
end
noncomputable def hdS : Str := ⟨#[40,63,115,58]⟩
noncomputable def tlS : Str := ⟨#[41,92,90]⟩
noncomputable def slH (x : Str) (a tk : Nat) : OE := oeSlS x 2 a none (some (4,tk)) hdS (fun tk _ => tk) 1
noncomputable def slT (x : Str) (a tk : Nat) : OE := oeSlS x 3 a (some (-3,tk)) none tlS (fun tk _ => tk) 1
section
variable (w : World) (cx : Cx) (sz tk gz t1 : Nat) (x z : Str) (star : Bool) (k : Result → Sem Fin) (g : Bool) (lv : List Value) (pp : Pos) (rest : List Frame)
variable (Li ep it ut sz' tk' gz' sh : Nat) (kt : Nat → Nat) (I nn : Int) (vs : Array Value) (br : Bool) (pp' : Pos)
noncomputable def iX : Cf := st0 (den (iW w sz)) (iW w sz) pp' (iS w sz (kOf (iAo w cx sz tk gz t1 x z star k g lv pp rest)) (.ret k none g lv cx.c cx.p [] :: rest)) ((.func (iB w) (iE w sz),iP w) :: (cx.c,cx.p) :: cx.sw) [none,none,none]
  [(sz,iF w sh kt ut x Li star I it br),(Li,Lo vs ep)] sz' tk' gz' [] [1,0,0,1,1,1,1,1] [1,1]
  [(0,oeLenV (.s x) [] nn),(2,ltO I (nn - 3) false),(3,slH x sz' (tk' + 4)),(5,slT x (sz' + 1) (tk' + 7))]
theorem iX_end (hx : cx.dl = true) (hs : sh = 0 ∨ sh = 1) : EndR w 0 60 (iX w cx sz tk gz t1 x z star k g lv pp rest Li ep it ut sz' tk' gz' sh kt I nn vs br pp') [1,4] (.r (sz' + 2)) (.ret k none g lv cx.c cx.p [] :: rest)
   [some (Li,Lo vs ep),some (sz' + 2,Tup [.bool star,.ref Li])] [] := by
  cases cx with
  | D st env q' => rcases hs with rfl | rfl <;> cases star <;> (unfold EndR; kernel_rfl)
  | L t it b o e p' st env q' => rcases hs with rfl | rfl <;> cases star <;> (unfold EndR; kernel_rfl)
  | C => cases hx
end
structure Hb where
  (n1 n2 : Nat) (L A A2 ev : List Nat) (s : Sls) (ti : Nat) (ks : List Nat) (vs : List Nat) (tp dt ds : Nat)
noncomputable def nthN : List Nat → Nat → Nat
  | [],_ => 0
  | x :: l,i => match i with
    | 0 => x
    | i + 1 => nthN l i
noncomputable def hb (d1 warm : Bool) : Hb := match d1 with
  | false => match warm with
    | false => ⟨1054,13,[1,1,1,1,1,1,1,1,1,1,1,1,1,1,1,1,1,1,1,1,1,1,1,1,1,1,1,1,1,1,1,1,1,1,1,1,1,1,1,1,1,1,1,1,1,1,1,1,1,1,1,1,1,1,1,1,1,1,1,1,1,1,1,1,1,1,1,1,1,1,5,5,5,5,1,1,1,5,5,5,5,1,1,1,1,1,1,1,1,1,1,1,1,1,1,1,1,1,1,1,5,5,5,5,1,5,5,5,5,0,0,0,0,1,5,5,5,8,8,8,8,8,8,8,8,8,8,9,9,9,9,9,9,9,9,9,9,1,1,1,1,5,5,5,5,5,1,1,5,5,5,5,5,9,9,9,9,9,11,1,5,5,5,12,0,0,0,0,0,0,0,0,16,16,17,17,17,17,17,17,17,17,17,17,17,18,18,18,18,18,18,17,17,17,0,0,0,12,12,12,12,12,5,12,12,16,16,16,0,18,18,18,17,17,17,0,0,0,12,12,12,12,5,12,12,16,16,16,0,18,18,18,17,17,17,0,0,0,12,12,12,12,5,12,12,20,0,22,18,1,1,0,0,0,0,0,0,0,0,0,0,0,0,0,1,0,29,0,0,0,0,30,30,30,30,30,30,1,1,1,1,1,1,1,1,1,31,31,31,31,1,1,3,3,2,2,2],[1,0,0,1,1,1,0,1,1,1,1,1,1,0,1,1,0,1,1,0,1,1,1,0,0,1,0,0,1,0,0,0,1,0,1,0,1,1,0,1,1,0,0,0,0,0,1,1,1,1],[2],[0,1,6,7,9,10,12,13,16,17,20,21,24,25,27,28,30,33,34,35,39,41,66,94],⟨3,0,3,26,5,2,3,40,6,3,45,26,16,13,81,82⟩,105,[1,8,31,33,38,55],[0,26,101,0,65,54],119,120,28⟩
    | true => ⟨1028,13,[1,1,1,1,1,1,1,1,1,1,1,1,1,1,1,1,1,1,1,1,1,1,1,1,1,1,1,1,1,1,1,1,1,1,1,1,1,1,1,1,1,1,1,1,1,1,1,1,1,1,1,1,1,1,1,1,1,1,1,1,1,1,1,1,1,1,1,1,1,1,5,5,5,5,1,1,1,5,5,5,5,1,1,1,1,1,1,1,1,1,1,1,1,1,1,1,1,1,1,1,5,5,5,5,1,5,5,5,5,0,0,0,0,1,5,5,5,8,8,8,8,8,8,8,8,8,8,9,9,9,9,9,9,9,9,9,9,1,1,1,1,5,5,5,5,5,1,1,5,5,5,5,5,9,9,9,9,9,11,1,5,5,5,12,0,0,0,0,0,13,13,14,14,14,14,14,14,14,14,14,14,14,15,15,15,15,15,15,14,14,14,0,0,0,12,12,12,12,12,5,12,12,13,13,13,0,15,15,15,14,14,14,0,0,0,12,12,12,12,5,12,12,13,13,13,0,15,15,15,14,14,14,0,0,0,12,12,12,12,5,12,12,17,0,19,15,1,1,0,0,0,0,0,0,0,0,0,0,1,0,20,0,0,0,0,21,21,21,21,21,21,1,1,1,1,1,1,1,1,1,22,22,22,22,1,1,3,3,2,2,2],[1,0,0,1,1,1,0,1,1,1,1,1,1,0,1,1,0,1,1,0,1,1,1,0,0,1,0,0,1,0,0,0,1,0,1,0,1,1,0,1,1,0,0,0,0,0,1,1,1,1],[2],[0,1,6,7,9,10,12,13,16,17,20,21,24,25,27,28,30,33,34,35,39,41,66,94],⟨3,0,3,26,5,2,3,40,6,3,45,26,13,10,76,77⟩,94,[1,8,31,33,38,55],[0,26,90,0,65,54],108,109,19⟩
  | true => match warm with
    | false => ⟨1069,13,[1,1,1,1,1,1,1,1,1,1,1,1,1,1,1,1,1,1,1,1,1,1,1,1,1,1,1,1,1,1,1,1,1,1,1,1,1,1,1,1,1,1,1,1,1,1,1,1,1,1,1,1,1,1,1,1,1,1,1,1,1,1,1,1,1,1,1,1,1,1,1,1,1,5,5,5,5,1,1,1,5,5,5,5,1,1,1,1,1,1,1,1,1,1,1,1,1,1,1,1,1,1,1,5,5,5,5,1,5,5,5,5,0,0,0,0,1,5,5,5,8,8,8,8,8,8,8,8,8,8,9,9,9,9,9,9,9,9,9,9,1,1,1,1,5,5,5,5,5,1,1,5,5,5,5,5,9,9,9,9,9,11,1,5,5,5,12,0,0,0,0,0,0,0,0,16,16,17,17,17,17,17,17,17,17,17,17,17,18,18,18,18,18,18,17,17,17,0,0,0,12,12,12,12,12,5,12,12,16,16,16,0,18,18,18,17,17,17,0,0,0,12,12,12,12,5,12,12,16,16,16,0,18,18,18,17,17,17,0,0,0,12,12,12,12,5,12,12,20,0,22,18,1,1,0,0,0,0,0,0,0,0,0,0,0,0,0,1,0,29,0,0,0,0,30,30,30,30,30,30,1,1,1,1,1,1,1,1,1,31,31,31,31,1,1,1,1,3,3,2,2,2],[1,0,0,1,1,1,0,1,1,0,1,1,1,1,0,1,1,0,1,1,0,1,1,1,0,0,1,0,0,1,0,0,0,1,0,1,0,1,1,0,1,1,0,0,0,0,0,1,1,0],[2],[0,1,6,7,10,11,13,14,17,18,21,22,25,26,28,29,31,34,35,36,40,42,67,93],⟨3,0,3,29,5,2,3,43,6,3,48,29,16,13,84,85⟩,108,[1,8,34,36,41,58],[0,29,119,0,68,57],123,124,28⟩
    | true => ⟨1043,13,[1,1,1,1,1,1,1,1,1,1,1,1,1,1,1,1,1,1,1,1,1,1,1,1,1,1,1,1,1,1,1,1,1,1,1,1,1,1,1,1,1,1,1,1,1,1,1,1,1,1,1,1,1,1,1,1,1,1,1,1,1,1,1,1,1,1,1,1,1,1,1,1,1,5,5,5,5,1,1,1,5,5,5,5,1,1,1,1,1,1,1,1,1,1,1,1,1,1,1,1,1,1,1,5,5,5,5,1,5,5,5,5,0,0,0,0,1,5,5,5,8,8,8,8,8,8,8,8,8,8,9,9,9,9,9,9,9,9,9,9,1,1,1,1,5,5,5,5,5,1,1,5,5,5,5,5,9,9,9,9,9,11,1,5,5,5,12,0,0,0,0,0,13,13,14,14,14,14,14,14,14,14,14,14,14,15,15,15,15,15,15,14,14,14,0,0,0,12,12,12,12,12,5,12,12,13,13,13,0,15,15,15,14,14,14,0,0,0,12,12,12,12,5,12,12,13,13,13,0,15,15,15,14,14,14,0,0,0,12,12,12,12,5,12,12,17,0,19,15,1,1,0,0,0,0,0,0,0,0,0,0,1,0,20,0,0,0,0,21,21,21,21,21,21,1,1,1,1,1,1,1,1,1,22,22,22,22,1,1,1,1,3,3,2,2,2],[1,0,0,1,1,1,0,1,1,0,1,1,1,1,0,1,1,0,1,1,0,1,1,1,0,0,1,0,0,1,0,0,0,1,0,1,0,1,1,0,1,1,0,0,0,0,0,1,1,0],[2],[0,1,6,7,10,11,13,14,17,18,21,22,25,26,28,29,31,34,35,36,40,42,67,93],⟨3,0,3,29,5,2,3,43,6,3,48,29,13,10,79,80⟩,97,[1,8,34,36,41,58],[0,29,108,0,68,57],112,113,19⟩
noncomputable def ktE (sh : Nat) (ks : List Nat) (tk : Nat) (kt : Nat → Nat) (j : Nat) : Nat := match sh with
  | 0 => match j with
    | 7 => tk + nthN ks 0
    | 8 => tk + nthN ks 1
    | 9 => tk + nthN ks 2
    | 10 => tk + nthN ks 3
    | 11 => tk + nthN ks 4
    | 12 => tk + nthN ks 5
    | j => kt j
  | 1 => match j with
    | 8 => tk + nthN ks 1
    | 9 => tk + nthN ks 2
    | 10 => tk + nthN ks 3
    | 11 => tk + nthN ks 4
    | 12 => tk + nthN ks 5
    | j => kt j
  | _ => kt j
noncomputable def vE (vs : List Nat) (tk sz : Nat) (J : Int) (stuff last : Str) (j : Nat) : Value := match j with
  | 7 => .str ⟨#[91]⟩ (tk + nthN vs 0)
  | 8 => .int J (tk + nthN vs 1)
  | 9 => .str stuff (tk + nthN vs 2)
  | 10 => .ref (sz + 1)
  | 11 => .int 1 (tk + nthN vs 4)
  | _ => .str last (tk + nthN vs 5)
noncomputable def f71 (w : World) (N7 : Nat) : Code := .func (bodyF (o71 w.params)) (envF 71 (o71 w.params) N7)
noncomputable def sw71 (w : World) (cx : Cx) (N7 : Nat) (p7 : Pos) : List (Code × Pos) := (f71 w N7,p7) :: (cx.c,cx.p) :: cx.sw
noncomputable def wc (warm : Bool) (c d : Nat) : Nat := match warm with
  | true => c
  | false => d
section
variable (w : World) (cx : Cx) (N7 : Nat) (p7 : Pos) (N R M S sz tk gz c1 c2 : Nat) (kt ut : Nat → Nat) (v : Nat → Value) (it ep : Nat) (x : Str) (nn I : Int) (rs : Array Value) (kk : Result → Sem Fin) (rest : List Frame) (pp : Pos)
noncomputable def tT (d1 : Bool) (sh : Nat) (warm : Bool) (a b : Nat) : Cf :=
  tC w N R M S sz tk gz kt ut v it ep x nn I rs kk rest (sw71 w cx N7 p7) pp sh [(85,tabV warm c1 c2)] (hb d1 warm).L (hb d1 warm).A (zipE (hb d1 warm).ev (match d1 with
    | false => os0 x I nn R rs ep tk sz gz b (hb d1 warm).s
    | true => os1 x I nn R rs ep tk sz gz a b (hb d1 warm).s))
noncomputable def jE (I : Int) (d1 : Bool) : Int := match d1 with
  | false => I + 1 + 1 + 1 + 1
  | true => I + 1 + 1 + 1 + 1 + 1
noncomputable def stuffE (d1 : Bool) (a b : Nat) : Str := match d1 with
  | false => ⟨#[48,45,b]⟩
  | true => ⟨#[94,a,45,b]⟩
noncomputable def partE (d1 : Bool) (a b : Nat) : Str := match d1 with
  | false => ⟨#[91,48,45,b,93]⟩
  | true => ⟨#[91,94,a,45,b,93]⟩
noncomputable def mb (n : Nat) (fs : Bool) : Nat := match fs with
  | true => n + 1
  | false => n
noncomputable def tO2 (d1 : Bool) (sh : Nat) (warm : Bool) (a b : Nat) (fs : Bool) : Cf := out2 w 0 (hb d1 warm).n1 (mb (hb d1 warm).n2 fs) (tT w cx N7 p7 N R M S sz tk gz c1 c2 kt ut v it ep x nn I rs kk rest pp d1 sh warm a b) (hb d1 warm).A2 fs
noncomputable def TtEnd (d1 : Bool) (sh : Nat) (warm : Bool) (a b : Nat) (fs : Bool) : Prop :=
  EndOf2 w 0 (hb d1 warm).n1 (mb (hb d1 warm).n2 fs) (tT w cx N7 p7 N R M S sz tk gz c1 c2 kt ut v it ep x nn I rs kk rest pp d1 sh warm a b) (hb d1 warm).A2 fs [0,1,2]
    ⟨⟨den (tW w N),tW w N,(tO2 w cx N7 p7 N R M S sz tk gz c1 c2 kt ut v it ep x nn I rs kk rest pp d1 sh warm a b fs).p,tS w N kk rest⟩,
     [some (N,tF w 2 (ktE sh (hb d1 warm).ks tk kt) ut (vE (hb d1 warm).vs tk sz (jE I d1) (stuffE d1 a b) ⟨#[b]⟩) x S R M nn (jE I d1 + 1) (tk + (hb d1 warm).ti)),
      some (R,Lo (rs.push (.str (partE d1 a b) (tk + mb (hb d1 warm).tp fs))) (ep + 1)),some (M,tM R)],tk + mb (hb d1 warm).dt fs,sz + (hb d1 warm).ds,gz + 1,[(gz,.finished)],[(85,warmV (wc warm c1 (sz + 11)) (wc warm c2 (sz + 24)))]⟩
end
noncomputable def k2Of (f : Cf) : Result → Sem Fin := match f.st with
  | _ :: .ret k _ _ _ _ _ _ :: _ => k
  | _ => fun _ => .unsupported "no frame"
noncomputable def mkV : Value := .builtin "lifetime.plain-call#mark"
noncomputable def p25 : Pos := ⟨25,12,25,38⟩
noncomputable def p26 : Pos := ⟨26,11,26,46⟩
noncomputable def ktA (tk j : Nat) : Nat := match j with
  | 0 => tk + 3
  | 1 => tk + 4
  | 2 => tk + 5
  | 3 => tk + 6
  | 4 => tk + 8
  | 5 => tk + 12
  | _ => tk + 13
noncomputable def utA (t1 tk j : Nat) : Nat := match j with
  | 0 => t1
  | 2 => tk + 2
  | _ => tk + 11
section
variable (w : World) (cx : Cx) (sz tk gz t1 : Nat) (x : Str) (nn : Int) (k : Result → Sem Fin) (g : Bool) (lv : List Value) (pp : Pos) (rest : List Frame)
noncomputable def tCall : Code := .call (.ref 71) ⟨[.str x t1],[]⟩
noncomputable def tA : Cf := st0 (den (tCall t1 x)) (tCall t1 x) pp (.ret k none g lv cx.c cx.p [] :: rest) ((cx.c,cx.p) :: cx.sw) [none,none] [] sz tk gz []
  [0,0,1,1,0,0,0,2,2,2,1,1,0,1,1,0,0,0,3,3,3,3,3,3,0,3,3,3,4,4,4,4,4,4,3,3,0,0,3,6,6,6,6,7,7,7,7,7,6,7,7,7,7,7,7,6,7,7,7,7,7,7,6,7,7,9,3,3,3,3] [0,0,0,0,0,0,0,1,0,0] [(5,oeLenV (.s x) [] nn)]
noncomputable def tAo : Cf := out (En0 w 0) 176 (tA cx sz tk gz t1 x nn k g lv pp rest)
noncomputable def tR (k71 : Result → Sem Fin) (p : Pos) (N7 : Nat) : List Frame := .ret k71 none false [mkV] (f71 w N7) p [] :: .ret k none g lv cx.c cx.p [] :: rest
noncomputable def fr7 (kt7 : Nat → Nat) (S : Nat) (l : List (String × Nat × Value)) (n : Nat) : Obj := frT w.params ([("pat",kt7 0,.str x t1),("STAR",kt7 1,.ref S)] ++ l) n
theorem tA_end (hx : cx.dl = true) : EndOf w 0 176 (tA cx sz tk gz t1 x nn k g lv pp rest) [0,2,3,4]
   ⟨⟨den (tW w (sz + 2)),tW w (sz + 2),tP w,tS w (sz + 2) (kOf (tAo w cx sz tk gz t1 x nn k g lv pp rest)) (tR w cx k g lv rest (k2Of (tAo w cx sz tk gz t1 x nn k g lv pp rest)) p25 sz)⟩,
    [some (sz,fr7 w t1 x (fun j => tk + j) (sz + 1) [] 2),some (sz + 2,tF w 0 (ktA tk) (utA t1 tk) (fun _ => .none) x (sz + 1) (sz + 3) (sz + 4) nn 0 (tk + 9)),some (sz + 3,Lo #[] 0),some (sz + 4,tM (sz + 3))],tk + 14,sz + 9,gz,[],[]⟩ := by
  cases cx with
  | D st env q' => unfold EndOf; kernel_rfl
  | L t it b o e p' st env q' => unfold EndOf; kernel_rfl
  | C => cases hx
variable (N R M S sz' tk' gz' ep it sh : Nat) (kt ut kt7 : Nat → Nat) (v : Nat → Value) (rs : Array Value) (pp' : Pos) (I : Int)
noncomputable def tX : Cf := st0 (den (tW w N)) (tW w N) pp' (tS w N (kOf (tAo w cx sz tk gz t1 x nn k g lv pp rest)) (tR w cx k g lv rest (k2Of (tAo w cx sz tk gz t1 x nn k g lv pp rest)) p25 sz)) (tSW w N (sw71 w cx sz p25)) [none,none,none,none]
  [(N,tF w sh kt ut v x S R M nn I it),(R,Lo rs ep),(M,tM R),(sz,fr7 w t1 x kt7 S [] 2)] sz' tk' gz' [] [1,1,1,1,1,4,4,0,4,4,0] [1,1,0] [(0,ltO I nn false),(1,oeP "int.__eq__" [.i I,.i nn] (fun _ => .bool true) 0)]
noncomputable def jCall (R S : Nat) : Code := .call (.ref 97) ⟨[.ref R,.ref S],[]⟩
noncomputable def tXo : Cf := out (En0 w 0) 40 (tX w cx sz tk gz t1 x nn k g lv pp rest N R M S sz' tk' gz' ep it sh kt ut kt7 v rs pp' I)
theorem tX_end (hN : N = sz + 2) (hx : cx.dl = true) (hs : sh = 0 ∨ sh = 1 ∨ sh = 2) : EndOf w 0 40 (tX w cx sz tk gz t1 x nn k g lv pp rest N R M S sz' tk' gz' ep it sh kt ut kt7 v rs pp' I) [1,3]
   ⟨⟨den (jCall R S),jCall R S,(tXo w cx sz tk gz t1 x nn k g lv pp rest N R M S sz' tk' gz' ep it sh kt ut kt7 v rs pp' I).p,tR w cx k g lv rest (kOf (tXo w cx sz tk gz t1 x nn k g lv pp rest N R M S sz' tk' gz' ep it sh kt ut kt7 v rs pp' I)) p26 sz⟩,
    [some (R,Lo rs ep),some (sz,fr7 w t1 x kt7 S [("parts",tk',.ref R)] 3)],tk' + 1,sz',gz',[],[]⟩ := by
  subst hN
  cases cx with
  | D st env q' => rcases hs with rfl | rfl | rfl <;> (unfold EndOf; kernel_rfl)
  | L t it b o e p' st env q' => rcases hs with rfl | rfl | rfl <;> (unfold EndOf; kernel_rfl)
  | C => cases hx
end
noncomputable def jE' (w : World) (N : Nat) : Env := envF 97 (o97 w.params) N
noncomputable def jB (w : World) : List Stmt := bodyF (o97 w.params)
noncomputable def jW (w : World) (N : Nat) : Code := whileAt (jB w) 3 (jE' w N)
noncomputable def jP (w : World) : Pos := posOf (jB w) 3
noncomputable def jF (w : World) (kt ut : Nat → Nat) (R S Q M : Nat) (nn I : Int) (it : Nat) : Obj :=
  frT w.params [("inp",kt 0,.ref R),("STAR",kt 1,.ref S),("res",kt 2,.ref Q),("add",kt 3,.ref M),("n",kt 4,.int nn (ut 4)),("i",kt 5,.int I it)] 6
noncomputable def ktJ (tk j : Nat) : Nat := match j with
  | 0 => tk
  | 1 => tk + 1
  | 2 => tk + 2
  | 3 => tk + 4
  | 4 => tk + 8
  | _ => tk + 9
section
variable (w : World) (cx : Cx) (N7 sz tk gz R S ep : Nat) (rs : Array Value) (nn : Int) (k k71 : Result → Sem Fin) (g : Bool) (lv : List Value) (pp : Pos) (rest : List Frame)
noncomputable def jA : Cf := st0 (den (jCall R S)) (jCall R S) pp (tR w cx k g lv rest k71 p26 N7) (sw71 w cx N7 p26) [none,none,none] [(R,Lo rs ep)] sz tk gz []
  [0,0,2,2,2,2,0,2,2,2,3,3,3,3,3,3,2,2,0,0,2,5,5,5,5,6,6,6,6,6,5,6,6,6,6,6,6,5,6,6,6,6,6,6,5,6,6,8,2,2,2,2] [0,0,0,0,1,0,0] [(2,oeLenV (.r R) [(0,R,Lo rs ep)] nn)]
noncomputable def jAo : Cf := out (En0 w 1) 124 (jA w cx N7 sz tk gz R S ep rs nn k k71 g lv pp rest)
noncomputable def jS (N : Nat) (kk : Result → Sem Fin) (rest : List Frame) : List Frame := .ret kk none false [] (.func (jB w) (jE' w N)) (jP w) [] :: rest
theorem jA_end (hx : cx.dl = true) : EndOf w 1 124 (jA w cx N7 sz tk gz R S ep rs nn k k71 g lv pp rest) [0,1,2,3]
   ⟨⟨den (jW w sz),jW w sz,jP w,jS w sz (kOf (jAo w cx N7 sz tk gz R S ep rs nn k k71 g lv pp rest)) (tR w cx k g lv rest k71 p26 N7)⟩,
    [some (R,Lo rs ep),some (sz,jF w (ktJ tk) (fun _ => tk + 7) R S (sz + 1) (sz + 2) nn 0 (tk + 5)),some (sz + 1,Lo #[] 0),some (sz + 2,tM (sz + 1))],tk + 10,sz + 7,gz,[],[]⟩ := by
  cases cx with
  | D st env q' => unfold EndOf; kernel_rfl
  | L t it b o e p' st env q' => unfold EndOf; kernel_rfl
  | C => cases hx
variable (N Q M epQ it : Nat) (kt ut : Nat → Nat) (qs : Array Value) (I : Int) (x : Str) (xt : Nat) (kk : Result → Sem Fin) (rest1 : List Frame) (sw : List (Code × Pos))
noncomputable def jT : Cf := st0 (den (jW w N)) (jW w N) pp (jS w N kk rest1) ((.func (jB w) (jE' w N),jP w) :: sw) [none,none] [(N,jF w kt ut R S Q M nn I it),(R,Lo rs ep),(Q,Lo qs epQ),(M,tM Q)] sz tk gz []
  [1,1,1,1,2,2,2,2,1,1,1,1,2,2,2,2,4,4,3,3,3,1,1,1] [1,0]
  [(0,ltO I nn true),(1,oeH "list.__getitem__" [.r R,.i I] [(1,R,Lo rs ep)] (fun _ _ _ => .str x xt) 0),(2,oeH "list.__getitem__" [.r R,.i I] [(1,R,Lo rs ep)] (fun _ _ _ => .str x xt) 0),(3,oeApp 2 Q qs epQ (.s x))]
theorem jT_end : EndOf w 0 61 (jT w sz tk gz R S ep rs nn pp N Q M epQ it kt ut qs I x xt kk rest1 sw) [0,1,2,3]
   ⟨⟨den (jW w N),jW w N,(out (En0 w 0) 61 (jT w sz tk gz R S ep rs nn pp N Q M epQ it kt ut qs I x xt kk rest1 sw)).p,jS w N kk rest1⟩,
    [some (N,jF w kt ut R S Q M nn (I + 1) (tk + 1)),some (R,Lo rs ep),some (Q,Lo (qs.push (.str x xt)) (epQ + 1)),some (M,tM Q)],tk + 3,sz,gz,[],[]⟩ := by
  unfold EndOf; kernel_rfl
end
noncomputable def tailT (c : Code) : Sem Fin := match den c with
  | .point _ k => k ()
  | t => t
section
variable (w : World) (cx : Cx) (N7 sz tk gz R S ep : Nat) (rs : Array Value) (nn : Int) (k k71 : Result → Sem Fin) (g : Bool) (lv : List Value) (pp : Pos) (rest : List Frame)
variable (N Q M epQ it sz' tk' gz' : Nat) (kt ut : Nat → Nat) (qs : Array Value) (I : Int) (js : Str) (tfj : Nat → List Value → Nat) (dj : Nat) (pp' : Pos) (A : List Nat)
noncomputable def jX (N : Nat) : Cf := st0 (den (jW w N)) (jW w N) pp' (jS w N (kOf (jAo w cx N7 sz tk gz R S ep rs nn k k71 g lv pp rest)) (tR w cx k g lv rest k71 p26 N7)) ((.func (jB w) (jE' w N),jP w) :: sw71 w cx N7 p26) [none,none,none]
  [(N,jF w kt ut R S Q M nn I it),(R,Lo rs ep),(Q,Lo qs epQ),(M,tM Q)] sz' tk' gz' [] [1,1,1,1,1,1,1,1,1,1] [1,1,1,0]
  [(0,ltO I nn false),(1,ltO I nn false),(2,oeP "int.__eq__" [.i I,.i nn] (fun _ => .bool true) 0),(3,oeSt "str.join" [.s Str.empty,.r Q] [(2,Q,Lo qs epQ)] js tfj dj)]
noncomputable def jFx (w : World) (kt ut : Nat → Nat) (R S M : Nat) (js : Str) (jt : Nat) (nn I : Int) (it : Nat) : Obj :=
  frT w.params [("inp",kt 0,.ref R),("STAR",kt 1,.ref S),("res",kt 2,.str js jt),("add",kt 3,.ref M),("n",kt 4,.int nn (ut 4)),("i",kt 5,.int I it)] 6
theorem jX_end (hx : cx.dl = true) : EndOf w 0 46 (jX w cx N7 sz tk gz R S ep rs nn k k71 g lv pp rest Q M epQ it sz' tk' gz' kt ut qs I js tfj dj pp' sz) [0]
   ⟨⟨tailT (.func (dropL 7 (jB w)) (jE' w sz)),.func (jB w) (jE' w sz),(out (En0 w 0) 46 (jX w cx N7 sz tk gz R S ep rs nn k k71 g lv pp rest Q M epQ it sz' tk' gz' kt ut qs I js tfj dj pp' sz)).p,tR w cx k g lv rest k71 p26 N7⟩,
    [some (sz,jFx w kt ut R S M js (tfj (tk' + 1) [.str Str.empty tk',.ref Q]) nn I it)],(out (En0 w 0) 46 (jX w cx N7 sz tk gz R S ep rs nn k k71 g lv pp rest Q M epQ it sz' tk' gz' kt ut qs I js tfj dj pp' sz)).tk,sz',gz',[],[]⟩ := by
  cases cx with
  | D st env q' => unfold EndOf; kernel_rfl
  | L t it b o e p' st env q' => unfold EndOf; kernel_rfl
  | C => cases hx
end
noncomputable def brT0 : List (Nat × Nat) := [(48,49),(48,50),(48,51),(48,52),(48,53)]
noncomputable def brT1 : List (Nat × Nat) := [(50,50),(50,52),(51,52),(52,52),(50,54),(51,54),(52,54),(53,54),(54,54)]
section
variable (w : World) (cx : Cx) (N7 : Nat) (p7 : Pos) (N R M S sz tk gz c1 c2 : Nat) (kt ut : Nat → Nat) (v : Nat → Value) (it ep : Nat) (x : Str) (nn I : Int) (rs : Array Value) (kk : Result → Sem Fin) (rest : List Frame) (pp : Pos)
theorem brT0_0 (hx : cx.dl = true) : ∀ a b fs,(a,b,fs) ∈ trb brT0 → TtEnd w cx N7 p7 N R M S sz tk gz c1 c2 kt ut v it ep x nn I rs kk rest pp false 0 false a b fs := by
  cases cx with
  | D st env q => exact all3 (by kernel_rfl)
  | L t it' b o e p' st env q' => exact all3 (by kernel_rfl)
  | C => cases hx
theorem brT0_1 (hx : cx.dl = true) : ∀ a b fs,(a,b,fs) ∈ trb brT0 → TtEnd w cx N7 p7 N R M S sz tk gz c1 c2 kt ut v it ep x nn I rs kk rest pp false 0 true a b fs := by
  cases cx with
  | D st env q => exact all3 (by kernel_rfl)
  | L t it' b o e p' st env q' => exact all3 (by kernel_rfl)
  | C => cases hx
theorem brT0_2 (hx : cx.dl = true) : ∀ a b fs,(a,b,fs) ∈ trb brT0 → TtEnd w cx N7 p7 N R M S sz tk gz c1 c2 kt ut v it ep x nn I rs kk rest pp false 1 false a b fs := by
  cases cx with
  | D st env q => exact all3 (by kernel_rfl)
  | L t it' b o e p' st env q' => exact all3 (by kernel_rfl)
  | C => cases hx
theorem brT0_3 (hx : cx.dl = true) : ∀ a b fs,(a,b,fs) ∈ trb brT0 → TtEnd w cx N7 p7 N R M S sz tk gz c1 c2 kt ut v it ep x nn I rs kk rest pp false 1 true a b fs := by
  cases cx with
  | D st env q => exact all3 (by kernel_rfl)
  | L t it' b o e p' st env q' => exact all3 (by kernel_rfl)
  | C => cases hx
theorem brT0_4 (hx : cx.dl = true) : ∀ a b fs,(a,b,fs) ∈ trb brT0 → TtEnd w cx N7 p7 N R M S sz tk gz c1 c2 kt ut v it ep x nn I rs kk rest pp false 2 true a b fs := by
  cases cx with
  | D st env q => exact all3 (by kernel_rfl)
  | L t it' b o e p' st env q' => exact all3 (by kernel_rfl)
  | C => cases hx
theorem brTurn0 (hx : cx.dl = true) (sh : Nat) (warm : Bool) (a b : Nat) (fs : Bool) (hs : (sh,warm) ∈ [(0,false),(0,true),(1,false),(1,true),(2,true)]) (hab : (a,b) ∈ [(48,49),(48,50),(48,51),(48,52),(48,53)]) :
    TtEnd w cx N7 p7 N R M S sz tk gz c1 c2 kt ut v it ep x nn I rs kk rest pp false sh warm a b fs := by
  have m := mem_trb (l := brT0) fs hab
  simp only [List.mem_cons,Prod.mk.injEq,List.not_mem_nil,or_false] at hs
  rcases hs with ⟨rfl,rfl⟩ | ⟨rfl,rfl⟩ | ⟨rfl,rfl⟩ | ⟨rfl,rfl⟩ | ⟨rfl,rfl⟩
  · exact brT0_0 w cx N7 p7 N R M S sz tk gz c1 c2 kt ut v it ep x nn I rs kk rest pp hx _ _ _ m
  · exact brT0_1 w cx N7 p7 N R M S sz tk gz c1 c2 kt ut v it ep x nn I rs kk rest pp hx _ _ _ m
  · exact brT0_2 w cx N7 p7 N R M S sz tk gz c1 c2 kt ut v it ep x nn I rs kk rest pp hx _ _ _ m
  · exact brT0_3 w cx N7 p7 N R M S sz tk gz c1 c2 kt ut v it ep x nn I rs kk rest pp hx _ _ _ m
  · exact brT0_4 w cx N7 p7 N R M S sz tk gz c1 c2 kt ut v it ep x nn I rs kk rest pp hx _ _ _ m
end
section
variable (w : World) (cx : Cx) (N7 : Nat) (p7 : Pos) (N R M S sz tk gz c1 c2 : Nat) (kt ut : Nat → Nat) (v : Nat → Value) (it ep : Nat) (x : Str) (nn I : Int) (rs : Array Value) (kk : Result → Sem Fin) (rest : List Frame) (pp : Pos)
theorem brT1_0 (hx : cx.dl = true) : ∀ a b fs,(a,b,fs) ∈ trb brT1 → TtEnd w cx N7 p7 N R M S sz tk gz c1 c2 kt ut v it ep x nn I rs kk rest pp true 0 false a b fs := by
  cases cx with
  | D st env q => exact all3 (by kernel_rfl)
  | L t it' b o e p' st env q' => exact all3 (by kernel_rfl)
  | C => cases hx
theorem brT1_1 (hx : cx.dl = true) : ∀ a b fs,(a,b,fs) ∈ trb brT1 → TtEnd w cx N7 p7 N R M S sz tk gz c1 c2 kt ut v it ep x nn I rs kk rest pp true 0 true a b fs := by
  cases cx with
  | D st env q => exact all3 (by kernel_rfl)
  | L t it' b o e p' st env q' => exact all3 (by kernel_rfl)
  | C => cases hx
theorem brT1_2 (hx : cx.dl = true) : ∀ a b fs,(a,b,fs) ∈ trb brT1 → TtEnd w cx N7 p7 N R M S sz tk gz c1 c2 kt ut v it ep x nn I rs kk rest pp true 1 false a b fs := by
  cases cx with
  | D st env q => exact all3 (by kernel_rfl)
  | L t it' b o e p' st env q' => exact all3 (by kernel_rfl)
  | C => cases hx
theorem brT1_3 (hx : cx.dl = true) : ∀ a b fs,(a,b,fs) ∈ trb brT1 → TtEnd w cx N7 p7 N R M S sz tk gz c1 c2 kt ut v it ep x nn I rs kk rest pp true 1 true a b fs := by
  cases cx with
  | D st env q => exact all3 (by kernel_rfl)
  | L t it' b o e p' st env q' => exact all3 (by kernel_rfl)
  | C => cases hx
theorem brT1_4 (hx : cx.dl = true) : ∀ a b fs,(a,b,fs) ∈ trb brT1 → TtEnd w cx N7 p7 N R M S sz tk gz c1 c2 kt ut v it ep x nn I rs kk rest pp true 2 true a b fs := by
  cases cx with
  | D st env q => exact all3 (by kernel_rfl)
  | L t it' b o e p' st env q' => exact all3 (by kernel_rfl)
  | C => cases hx
theorem brTurn1 (hx : cx.dl = true) (sh : Nat) (warm : Bool) (a b : Nat) (fs : Bool) (hs : (sh,warm) ∈ [(0,false),(0,true),(1,false),(1,true),(2,true)]) (hab : (a,b) ∈ [(50,50),(50,52),(51,52),(52,52),(50,54),(51,54),(52,54),(53,54),(54,54)]) :
    TtEnd w cx N7 p7 N R M S sz tk gz c1 c2 kt ut v it ep x nn I rs kk rest pp true sh warm a b fs := by
  have m := mem_trb (l := brT1) fs hab
  simp only [List.mem_cons,Prod.mk.injEq,List.not_mem_nil,or_false] at hs
  rcases hs with ⟨rfl,rfl⟩ | ⟨rfl,rfl⟩ | ⟨rfl,rfl⟩ | ⟨rfl,rfl⟩ | ⟨rfl,rfl⟩
  · exact brT1_0 w cx N7 p7 N R M S sz tk gz c1 c2 kt ut v it ep x nn I rs kk rest pp hx _ _ _ m
  · exact brT1_1 w cx N7 p7 N R M S sz tk gz c1 c2 kt ut v it ep x nn I rs kk rest pp hx _ _ _ m
  · exact brT1_2 w cx N7 p7 N R M S sz tk gz c1 c2 kt ut v it ep x nn I rs kk rest pp hx _ _ _ m
  · exact brT1_3 w cx N7 p7 N R M S sz tk gz c1 c2 kt ut v it ep x nn I rs kk rest pp hx _ _ _ m
  · exact brT1_4 w cx N7 p7 N R M S sz tk gz c1 c2 kt ut v it ep x nn I rs kk rest pp hx _ _ _ m
end
noncomputable def sg3 {α : Type} (c : Nat) (a b e : α) : α := match c with
  | 0 => a
  | 1 => b
  | _ => e
noncomputable def sgn (c : Nat) : Nat := sg3 c 48 63 42
noncomputable def osS (c : Nat) (x : Str) (I nn : Int) (R S : Nat) (rs : Array Value) (ep : Nat) : List OE := [ltO I nn true,gtO x I (sgn c),oeApp 1 R rs ep (sg3 c (.s ⟨#[48]⟩) (.s ⟨#[46]⟩) (.r S))]
noncomputable def sgN (c : Nat) : Nat := sg3 c 149 72 80
noncomputable def sgL (c : Nat) : List Nat := sg3 c [1,1,1,1,1,1,1,1,1,1,1,1,1,0,1,0,0,0,4,4,0,0,0,4,0,0,4,0,0,0,0,0,0,6,3,3,2,2,2] [1,1,1,1,1,1,1,1,1,1,1,1,1,3,3,2,2,2] [1,1,1,1,1,1,1,1,1,1,1,2,2,2,2,2,1,1,3,3,2,2,2]
noncomputable def sgA (c : Nat) : List Nat := sg3 c [1,0,0,1,1,1,0,1] [1,0,0,1,1] [1,0,0,1]
noncomputable def sgE (c : Nat) : List Nat := sg3 c [0,1,11] [0,1,5] [0,1,6]
noncomputable def sgT (c : Nat) : Nat := sg3 c 12 7 8
noncomputable def sgZ (c : Nat) : Nat := sg3 c 3 0 0
noncomputable def sgV (c : Nat) (S tk : Nat) (ut : Nat → Nat) : Value := sg3 c (.str ⟨#[48]⟩ (tk + 11)) (.str ⟨#[46]⟩ (ut 2)) (.ref S)
noncomputable def ktS (sh tk : Nat) (kt : Nat → Nat) (j : Nat) : Nat := match sh with
  | 0 => match j with
    | 7 => tk + 1
    | j => kt j
  | _ => kt j
noncomputable def vS (c tk : Nat) (v : Nat → Value) (j : Nat) : Value := match j with
  | 7 => .str ⟨#[sgn c]⟩ tk
  | j => v j
noncomputable def shS (sh : Nat) : Nat := match sh with
  | 0 => 1
  | sh => sh
section
variable (w : World) (cx : Cx) (N7 : Nat) (p7 : Pos) (N R M S sz tk gz : Nat) (kt ut : Nat → Nat) (v : Nat → Value) (it ep : Nat) (x : Str) (nn I : Int) (rs : Array Value) (kk : Result → Sem Fin) (rest : List Frame) (pp : Pos)
noncomputable def sT (sh c : Nat) : Cf := tC w N R M S sz tk gz kt ut v it ep x nn I rs kk rest (sw71 w cx N7 p7) pp sh [] (sgL c) (sgA c) (zipE (sgE c) (osS c x I nn R S rs ep))
noncomputable def StEnd (sh c : Nat) : Prop :=
  EndOf w 0 (sgN c) (sT w cx N7 p7 N R M S sz tk gz kt ut v it ep x nn I rs kk rest pp sh c) [0,1,2]
    ⟨⟨den (tW w N),tW w N,(out (En0 w 0) (sgN c) (sT w cx N7 p7 N R M S sz tk gz kt ut v it ep x nn I rs kk rest pp sh c)).p,tS w N kk rest⟩,
     [some (N,tF w (shS sh) (ktS sh tk kt) ut (vS c tk v) x S R M nn (I + 1) (tk + 3)),some (R,Lo (rs.push (sgV c S tk ut)) (ep + 1)),some (M,tM R)],tk + sgT c,sz + sgZ c,gz,[],[]⟩
theorem sgTurn (hx : cx.dl = true) (sh c : Nat) (hs : (sh,c) ∈ [(0,0),(0,1),(1,0),(1,1),(2,0),(2,1)]) : StEnd w cx N7 p7 N R M S sz tk gz kt ut v it ep x nn I rs kk rest pp sh c := by
  have H : ∀ a b,(a,b) ∈ [(0,0),(0,1),(1,0),(1,1),(2,0),(2,1)] → StEnd w cx N7 p7 N R M S sz tk gz kt ut v it ep x nn I rs kk rest pp a b := by
    cases cx with
    | D st env q => exact all2 (by kernel_rfl)
    | L t it b o e p' st env q' => exact all2 (by kernel_rfl)
    | C => cases hx
  exact H _ _ hs
theorem stTurn (hx : cx.dl = true) : StEnd w cx N7 p7 N R M S sz tk gz kt ut v it ep x nn I #[] kk rest pp 0 2 := by
  cases cx with
  | D st env q => unfold StEnd EndOf; kernel_rfl
  | L t it b o e p' st env q' => unfold StEnd EndOf; kernel_rfl
  | C => cases hx
end
section
open Builtin Builtin.Str StrLaws
theorem gives_find4 (x y : Str) (lo hi : Int) (t u v z : Tok) : Gives («str.find» ⟨[.str x t,.str y u,.int lo v,.int hi z],[]⟩) (.int (match occurrences x y (fromIndex x.length lo) (min (fromIndex x.length hi) x.length) 1 with | k :: _ => (k : Int) | [] => -1)) := by
  show Gives (match occurrences x y (fromIndex x.length lo) (min (fromIndex x.length hi) x.length) 1 with | k :: _ => retInt k | [] => (do rule "str.find.not-found"; retInt (-1))) _
  cases occurrences x y (fromIndex x.length lo) (min (fromIndex x.length hi) x.length) 1 with
  | nil => exact .rule (.of_eq rfl)
  | cons k _ => exact .of_eq rfl
theorem fromIndex_nat (n i : Nat) : fromIndex n (i : Int) = i := by
  unfold fromIndex
  have : ¬ ((i : Int) < 0) := by lia
  rw [if_neg this]; lia
theorem occ_hit {x : Str} {c lo hi : Nat} (h1 : lo < hi) (h2 : hi ≤ x.length) (h : x.cps.toList[lo]? = some c) : ∃ r,occurrences x ⟨#[c]⟩ lo hi 1 = lo :: r := by
  have hat : At x ⟨#[c]⟩ hi lo := ⟨h1,((subAt_one x c lo).mpr h).2⟩
  rw [occ_eq]
  have hl : List.range' lo (hi + 1 - lo) = lo :: List.range' (lo + 1) (hi - lo) := by
    have : hi + 1 - lo = (hi - lo) + 1 := by lia
    rw [this,List.range'_succ]
  rcases occ_first x ⟨#[c]⟩ hi 1 (Nat.le_refl 1) (List.range' lo (hi + 1 - lo)) lo (fun i hi => by have := List.mem_range'_1.mp hi; lia) with ⟨_,hn⟩ | ⟨pre,a,post,e,h0,ha,hn⟩
  · exact absurd hat (hn lo (by rw [hl]; exact .head _))
  · have ea : a = lo := by
      cases pre with
      | nil => rw [hl] at e; exact (List.cons.inj e).1.symm
      | cons b pre =>
        rw [hl] at e
        have : lo = b := (List.cons.inj e).1
        exact absurd hat (hn lo (by rw [this]; exact .head _))
    subst ea
    generalize (forIn (List.range' a (hi + 1 - a)) ((#[] : Array Nat),a) (occBody x ⟨#[c]⟩ hi 1)).run.fst = arr at h0
    have h1 : arr.toList[0]? = some a := by simpa using h0
    cases hL : arr.toList with
    | nil => rw [hL] at h1; cases h1
    | cons b t => rw [hL] at h1; simp at h1; rw [h1]; exact ⟨t,rfl⟩
theorem occ_miss {x y : Str} {lo hi : Nat} (h : hi < lo) : occurrences x y lo hi 1 = [] := by
  rw [occ_eq]
  have : hi + 1 - lo = 0 := by lia
  rw [this]; rfl
section
variable {w : World} {x : Str}
theorem fd_hit {I J : Int} {lo hi : Nat} (hI : I = lo) (hJ : J = hi) (h1 : lo < hi) (h2 : hi ≤ x.length) (h : x.cps.toList[lo]? = some 45) : OEk w (fdO x I J I) := by
  subst hI hJ
  refine oe_gives (b := «str.find») (by decide +kernel) (entryFor_of_tree (by kernel_rfl)) fun pos hp => ?_
  refine xE4 (args4 hp) fun p1 p2 p3 p4 hx => xA4 hx fun q4 e1 e2 e3 e4 => ?_; clear hx; obtain rfl := q4
  obtain ⟨t,rfl⟩ := strip_s e1; obtain ⟨u,rfl⟩ := strip_s e2; obtain ⟨v,rfl⟩ := strip_i e3; obtain ⟨z,rfl⟩ := strip_i e4
  refine ⟨_,gives_find4 x ⟨#[45]⟩ lo hi t u v z,fun Q s q => ?_⟩
  rw [fromIndex_nat,fromIndex_nat,Nat.min_eq_left h2]
  obtain ⟨r,e⟩ := occ_hit h1 h2 h
  rw [e]; exact q
theorem fd_miss {I J : Int} {lo hi : Nat} (hI : I = lo) (hJ : J = hi) (h1 : hi < lo) (h2 : hi ≤ x.length) : OEk w (fdO x I J (-1)) := by
  subst hI hJ
  refine oe_gives (b := «str.find») (by decide +kernel) (entryFor_of_tree (by kernel_rfl)) fun pos hp => ?_
  refine xE4 (args4 hp) fun p1 p2 p3 p4 hx => xA4 hx fun q4 e1 e2 e3 e4 => ?_; clear hx; obtain rfl := q4
  obtain ⟨t,rfl⟩ := strip_s e1; obtain ⟨u,rfl⟩ := strip_s e2; obtain ⟨v,rfl⟩ := strip_i e3; obtain ⟨z,rfl⟩ := strip_i e4
  refine ⟨_,gives_find4 x ⟨#[45]⟩ lo hi t u v z,fun Q s q => ?_⟩
  rw [fromIndex_nat,fromIndex_nat,Nat.min_eq_left h2,occ_miss h1]
  exact q
theorem picked_run {l u : Nat} {lt ut : Tok} (h1 : l ≤ u) (h2 : u ≤ x.length) : slicePicked x (some ((l : Int),lt)) (some ((u : Int),ut)) none = (List.range (u - l)).map (l + ·) := by
  unfold slicePicked strSliceIndices
  have a1 : ¬ ((l : Int) < 0) := by lia
  have a2 : ¬ ((u : Int) < 0) := by lia
  simp only [Option.map_some,Option.map_none,Option.getD_none,a1,a2,if_false,show (1 : Int) > 0 by decide,if_true]
  have e1 : max 0 (min (l : Int) (x.length : Int)) = (l : Int) := by lia
  have e2 : max 0 (min (u : Int) (x.length : Int)) = (u : Int) := by lia
  rw [e1,e2,sliceRange_one]
theorem slN {I J : Int} {i a l u : Nat} {lt ut : Nat} {z : Str} (hI : I = l) (hJ : J = u) (h1 : l ≤ u) (h2 : u ≤ x.length) (h3 : u - l < x.length) (h4 : u - l ≤ sizeLine) (hz : (x.cps.toList.drop l).take (u - l) = z.cps.toList) : OEk w (slO x i a I lt J ut z) := by
  subst hI hJ
  have hp0 := picked_run (x := x) (lt := lt) (ut := ut) h1 h2
  refine oe_meets (b := «str.__getitem__») rfl (by decide +kernel) (entryFor_of_tree (by kernel_rfl)) fun s pos hp hn _ => ?_
  refine xE2 (args2 hp) fun p q' hx => xA2 hx fun q2 e1 e2 => ?_; clear hx; obtain rfl := q2; obtain ⟨t,rfl⟩ := strip_s e1; obtain rfl := strip_r e2
  refine ⟨_,meets_str_getitem_slice x t a (some ((l : Int),lt)) (some ((u : Int),ut)) none rfl,fun A R r => ⟨⟨_,hn _ (.head _),rfl,rfl⟩,?_⟩⟩
  have e : sliceMade x t (some ((l : Int),lt)) (some ((u : Int),ut)) none = .str z := by
    unfold sliceMade
    rw [hp0,if_neg (by simp; lia),pick_run,hz]
  rw [e]
  refine ⟨?_,r⟩
  have := congrArg List.length hz
  have e3 : z.length = z.cps.toList.length := by show z.cps.size = _; simp
  rw [e3,← this]
  simp only [List.length_take]
  lia
end
end
theorem drop_pre {α : Type} (a : Nat) (t : List α) : ∀ pre : List α,(pre ++ t).drop (pre.length + a) = t.drop a
  | [] => by simp
  | b :: pre => by
    have e : (b :: pre).length + a = (pre.length + a) + 1 := by simp only [List.length_cons]; lia
    rw [e,List.cons_append,List.drop_succ_cons,drop_pre a t pre]
theorem get_pre {α : Type} (a : Nat) (t : List α) (pre : List α) : (pre ++ t)[pre.length + a]? = t[a]? := by
  rw [List.getElem?_append_right (by lia)]
  congr 1; lia
section
variable {w : World} {x : Str} {I nn : Int} {i : Nat}
theorem gt_ok {K : Int} {k c : Nat} (hK : K = (k : Nat)) (hs : x.length ≤ 2 ^ 24) (h : x.cps.toList[k]? = some c) : OEk w (gtO x K c) := by
  subst hK
  have lt : k < x.cps.toList.length := (List.getElem?_eq_some_iff.mp h).1
  have lt' : k < x.length := by rw [Array.length_toList] at lt; exact lt
  refine oeGetS (by lia) (by lia) ?_
  rw [Int.toNat_natCast,← Array.getElem?_toList]; exact h
theorem lt_ok {a b : Int} {r : Bool} (h : decide (a < b) = r) : OEk w (ltO a b r) := oeLt h
theorem ge_ok {a b : Int} {r : Bool} (h : decide (a ≥ b) = r) : OEk w (geO a b r) := oeGe h
theorem os0_ok {R ep tk sz gz c : Nat} {rs : Array Value} {s : Sls} {pre post : List Nat} (hx : x.cps.toList = pre ++ ([91,48,45,c,93] ++ post)) (hI : I = (pre.length : Nat)) (hn : nn = (x.length : Nat)) (hs : x.length ≤ 2 ^ 24) (hr : rs.size ≤ sizeLine) :
    ∀ y ∈ os0 x I nn R rs ep tk sz gz c s,OEk w y := by
  have len : x.length = pre.length + 5 + post.length := by
    have := congrArg List.length hx
    rw [Array.length_toList] at this
    show x.cps.size = _
    rw [this]; simp; lia
  have g : ∀ a,x.cps.toList[pre.length + a]? = ([91,48,45,c,93] ++ post)[a]? := fun a => by rw [hx]; exact get_pre a _ pre
  have dr : ∀ a b,(x.cps.toList.drop (pre.length + a)).take b = (([91,48,45,c,93] ++ post).drop a).take b := fun a b => by rw [hx,drop_pre]
  subst hI hn
  have e1 : ((pre.length : Nat) : Int) + 1 = ((pre.length + 1 : Nat) : Int) := by lia
  have e2 : ((pre.length : Nat) : Int) + 1 + 1 = ((pre.length + 2 : Nat) : Int) := by lia
  have e3 : ((pre.length : Nat) : Int) + 1 + 1 + 1 = ((pre.length + 3 : Nat) : Int) := by lia
  have e4 : ((pre.length : Nat) : Int) + 1 + 1 + 1 + 1 = ((pre.length + 4 : Nat) : Int) := by lia
  have e5 : ((pre.length : Nat) : Int) + 1 + 1 + 3 = ((pre.length + 5 : Nat) : Int) := by lia
  unfold os0
  simp only [List.forall_mem_cons]
  refine ⟨lt_ok (by simp; lia),gt_ok (k := pre.length) rfl hs (g 0),lt_ok (by simp; lia),gt_ok e1 hs (g 1),lt_ok (by simp; lia),gt_ok e1 hs (g 1),lt_ok (by simp; lia),gt_ok e1 hs (g 1),lt_ok (by simp; lia),gt_ok e2 hs (g 2),
    lt_ok (by simp; lia),gt_ok e3 hs (g 3),lt_ok (by simp; lia),gt_ok e4 hs (g 4),ge_ok (by simp; lia),?_,gt_ok e1 hs (g 1),fd_hit e2 e4 (by lia) (by lia) (g 2),lt_ok (by simp; lia),?_,fd_miss e5 e4 (by lia) (by lia),?_,iaO_ok (by lia),oeApp_ok hr,fun _ h => nomatch h⟩
  · refine slN e1 e4 (by lia) (by lia) (by lia) (by show _ ≤ 2 ^ 24; lia) ?_
    rw [show pre.length + 4 - (pre.length + 1) = 3 by lia,dr]; rfl
  · refine slN e1 e2 (by lia) (by lia) (by lia) (by show _ ≤ 2 ^ 24; lia) ?_
    rw [show pre.length + 2 - (pre.length + 1) = 1 by lia,dr]; rfl
  · refine slN e3 e4 (by lia) (by lia) (by lia) (by show _ ≤ 2 ^ 24; lia) ?_
    rw [show pre.length + 4 - (pre.length + 3) = 1 by lia,dr]; rfl
theorem os1_ok {R ep tk sz gz a b : Nat} {rs : Array Value} {s : Sls} {pre post : List Nat} (hx : x.cps.toList = pre ++ ([91,33,a,45,b,93] ++ post)) (hI : I = (pre.length : Nat)) (hn : nn = (x.length : Nat)) (hs : x.length ≤ 2 ^ 24) (hr : rs.size ≤ sizeLine) :
    ∀ y ∈ os1 x I nn R rs ep tk sz gz a b s,OEk w y := by
  have len : x.length = pre.length + 6 + post.length := by
    have := congrArg List.length hx
    rw [Array.length_toList] at this
    show x.cps.size = _
    rw [this]; simp; lia
  have g : ∀ j,x.cps.toList[pre.length + j]? = ([91,33,a,45,b,93] ++ post)[j]? := fun a => by rw [hx]; exact get_pre a _ pre
  have dr : ∀ j l,(x.cps.toList.drop (pre.length + j)).take l = (([91,33,a,45,b,93] ++ post).drop j).take l := fun a b => by rw [hx,drop_pre]
  subst hI hn
  have e1 : ((pre.length : Nat) : Int) + 1 = ((pre.length + 1 : Nat) : Int) := by lia
  have e2 : ((pre.length : Nat) : Int) + 1 + 1 = ((pre.length + 2 : Nat) : Int) := by lia
  have e3 : ((pre.length : Nat) : Int) + 1 + 1 + 1 = ((pre.length + 3 : Nat) : Int) := by lia
  have e3' : ((pre.length : Nat) : Int) + 1 + 2 = ((pre.length + 3 : Nat) : Int) := by lia
  have e4 : ((pre.length : Nat) : Int) + 1 + 1 + 1 + 1 = ((pre.length + 4 : Nat) : Int) := by lia
  have e4' : ((pre.length : Nat) : Int) + 1 + 2 + 1 = ((pre.length + 4 : Nat) : Int) := by lia
  have e5 : ((pre.length : Nat) : Int) + 1 + 1 + 1 + 1 + 1 = ((pre.length + 5 : Nat) : Int) := by lia
  have e6 : ((pre.length : Nat) : Int) + 1 + 2 + 3 = ((pre.length + 6 : Nat) : Int) := by lia
  unfold os1
  simp only [List.forall_mem_cons]
  refine ⟨lt_ok (by simp; lia),gt_ok (k := pre.length) rfl hs (g 0),lt_ok (by simp; lia),gt_ok e1 hs (g 1),lt_ok (by simp; lia),gt_ok e2 hs (g 2),lt_ok (by simp; lia),gt_ok e2 hs (g 2),lt_ok (by simp; lia),gt_ok e3 hs (g 3),
    lt_ok (by simp; lia),gt_ok e4 hs (g 4),lt_ok (by simp; lia),gt_ok e5 hs (g 5),ge_ok (by simp; lia),?_,gt_ok e1 hs (g 1),fd_hit e3' e5 (by lia) (by lia) (g 3),lt_ok (by simp; lia),?_,fd_miss e6 e5 (by lia) (by lia),?_,iaO_ok (by lia),oeApp_ok hr,fun _ h => nomatch h⟩
  · refine slN e1 e5 (by lia) (by lia) (by lia) (by show _ ≤ 2 ^ 24; lia) ?_
    rw [show pre.length + 5 - (pre.length + 1) = 4 by lia,dr]; rfl
  · refine slN e1 e3' (by lia) (by lia) (by lia) (by show _ ≤ 2 ^ 24; lia) ?_
    rw [show pre.length + 3 - (pre.length + 1) = 2 by lia,dr]; rfl
  · refine slN e4' e5 (by lia) (by lia) (by lia) (by show _ ≤ 2 ^ 24; lia) ?_
    rw [show pre.length + 5 - (pre.length + 4) = 1 by lia,dr]; rfl
end
noncomputable def pE (w : World) (N : Nat) : Env := envF 245 (o245 w.params) N
noncomputable def pB (w : World) : List Stmt := bodyF (o245 w.params)
noncomputable def pW (w : World) (N : Nat) : Code := whileAt (pB w) 1 (pE w N)
noncomputable def pF (w : World) (kt ut : Nat → Nat) (number p z d : Int) (nt Lp : Nat) : Obj :=
  frT w.params [("number",kt 0,.int number nt),("prime",kt 1,.int p (ut 1)),("size",kt 2,.int z (ut 2)),("dress",kt 3,.int d (ut 3)),("pieces",kt 4,.ref Lp)] 5
noncomputable def cls4 (p d f : Nat) : Nat := match f with
  | 0 => 0
  | _ => match Nat.beq (f + 1) p with
    | true => 1
    | false => match d with
      | 0 => 2
      | _ => 3
noncomputable def sel4 {α : Type} (c : Nat) (a b e g : α) : α := match c with
  | 0 => a
  | 1 => b
  | 2 => e
  | _ => g
noncomputable def pieceS (p d f : Nat) : String := match cls4 p d f with
  | 0 => "0"
  | 1 => "?"
  | 2 => "[0-" ++ toString f ++ "]"
  | _ => "[!" ++ toString (f + 1) ++ "-" ++ toString (p - 1) ++ "]"
noncomputable def pieceT (p d f : Nat) : Str := ⟨((match cls4 p d f with
  | 0 => [48]
  | 1 => [63]
  | 2 => [91,48,45,48 + f,93]
  | _ => [91,33,49 + f,45,47 + p,93]) : List Nat).toArray⟩
section
variable (w : World) (cx : Cx) (N Lp sz tk gz : Nat) (kt ut : Nat → Nat) (nt : Nat) (n z q : Int) (p d f : Nat) (vs : Array Value) (ep : Nat)
  (kk k : Result → Sem Fin) (g : Bool) (lv : List Value) (pp : Pos) (rest : List Frame)
noncomputable def pTS (w : World) : List Frame := .ret kk none false [] (.func (pB w) (pE w N)) (posOf (pB w) 1) [] :: .ret k none g lv cx.c cx.p [] :: rest
noncomputable def pTW (w : World) : List (Code × Pos) := (.func (pB w) (pE w N),posOf (pB w) 1) :: (cx.c,cx.p) :: cx.sw
noncomputable def pTL (c : Nat) : List Nat := [1,1,1,2,2,2,2,0,1,1,1,1,0,0,0,3,3,3,3,3,3,0,3] ++ (sel4 c [] [3,3] [3,3,3,3] [3,3,3,3,3] ++ [2,1,1,1,1])
noncomputable def pTA (c : Nat) : List Nat := sel4 c [1,1,0,0,0,1,0] [1,1,0,0,0,1,1,0] [1,1,0,0,0,1,1,1,0] [1,1,0,0,0,1,1,1,0]
noncomputable def pTN (c : Nat) : Nat := sel4 c 96 112 142 175
noncomputable def pTk (c : Nat) : Nat := sel4 c 8 10 16 25
noncomputable def pTO : List (Nat × OE) := [(0,oeP "int.__ne__" [.i n,.i 0] (fun _ => .bool true) 0),(2,oeP "int.__ne__" [.i n,.i (-1)] (fun _ => .bool true) 0),(3,oeP "int.__mod__" [.i n,.i p] (fun tk => .int f tk) 1),
  (sel4 (cls4 p d f) 5 7 11 16,oeApp 1 Lp vs ep (.s (pieceT p d f))),(sel4 (cls4 p d f) 6 8 12 17,oeP "int.__floordiv__" [.i n,.i p] (fun tk => .int q tk) 1)]
noncomputable def pT : Cf := st0 (den (pW w N)) (pW w N) pp (pTS cx N kk k g lv rest w) (pTW cx N w) [none,none,none] [(N,pF w kt ut n p z d nt Lp),(Lp,Lo vs ep)] sz tk gz [] (pTL (cls4 p d f)) (pTA (cls4 p d f)) (pTO Lp n q p d f vs ep)
noncomputable def pTo : Cf := out (En0 w 0) (pTN (cls4 p d f)) (pT w cx N Lp sz tk gz kt ut nt n z q p d f vs ep kk k g lv pp rest)
noncomputable def pdfs : List (Nat × Nat × Nat) := [(2,0,0),(2,0,1),(2,1,0),(2,1,1),(3,0,0),(3,0,1),(3,0,2),(3,1,0),(3,1,1),(3,1,2),(5,0,0),(5,0,1),(5,0,2),(5,0,3),(5,0,4),(5,1,0),(5,1,1),(5,1,2),(5,1,3),(5,1,4),
  (7,0,0),(7,0,1),(7,0,2),(7,0,3),(7,0,4),(7,0,5),(7,0,6),(7,1,0),(7,1,1),(7,1,2),(7,1,3),(7,1,4),(7,1,5),(7,1,6)]
noncomputable def PtEnd (p d f : Nat) : Prop :=
  EndOf w 0 (pTN (cls4 p d f)) (pT w cx N Lp sz tk gz kt ut nt n z q p d f vs ep kk k g lv pp rest) [0,1]
    ⟨⟨den (pW w N),pW w N,(pTo w cx N Lp sz tk gz kt ut nt n z q p d f vs ep kk k g lv pp rest).p,pTS cx N kk k g lv rest w⟩,
     [some (N,pF w kt ut q p z d (tk + (pTk (cls4 p d f) + 1)) Lp),some (Lp,Lo (vs.push (.str (pieceT p d f) (tk + pTk (cls4 p d f)))) (ep + 1))],tk + (pTk (cls4 p d f) + 3),sz + 1,gz,[],[]⟩
theorem patTurn (hx : cx.dl = true) (hm : (p,d,f) ∈ pdfs) : PtEnd w cx N Lp sz tk gz kt ut nt n z q vs ep kk k g lv pp rest p d f := by
  have H : ∀ p d f,(p,d,f) ∈ pdfs → PtEnd w cx N Lp sz tk gz kt ut nt n z q vs ep kk k g lv pp rest p d f := by
    cases cx with
    | D st env q' => exact all3 (by kernel_rfl)
    | L t it b o e p' st env q' => exact all3 (by kernel_rfl)
    | C => cases hx
  exact H _ _ _ hm
end
section
variable (w : World) (cx : Cx) (N tk gz t1 t2 t3 t4 : Nat) (n z : Int) (p d : Nat) (k : Result → Sem Fin) (g : Bool) (lv : List Value) (pp : Pos) (rest : List Frame)
noncomputable def pCall : Code := .call (.ref 245) ⟨[.int n t1,.int p t2,.int z t3,.int d t4],[]⟩
noncomputable def pA : Cf := st0 (den (pCall t1 t2 t3 t4 n z p d)) (pCall t1 t2 t3 t4 n z p d) pp (.ret k none g lv cx.c cx.p [] :: rest) ((cx.c,cx.p) :: cx.sw) [none,none] [] N tk gz []
  [0,0,1,1,1,1,1,1,1,1,0,1,1] [0,0,0,0,0] []
noncomputable def pK : Result → Sem Fin := kOf (out (En0 w 0) 35 (pA cx N tk gz t1 t2 t3 t4 n z p d k g lv pp rest))
noncomputable def sel5 {α : Type} (i : Nat) (a b c d e : α) : α := match i with
  | 0 => a
  | 1 => b
  | 2 => c
  | 3 => d
  | _ => e
theorem pA_end (hx : cx.dl = true) : EndOf w 0 35 (pA cx N tk gz t1 t2 t3 t4 n z p d k g lv pp rest) [0,1]
   ⟨⟨den (pW w N),pW w N,posOf (pB w) 1,pTS cx N (pK w cx N tk gz t1 t2 t3 t4 n z p d k g lv pp rest) k g lv rest w⟩,
    [some (N,pF w (fun i => tk + i) (fun i => sel5 i t1 t2 t3 t4 0) n p z d t1 (N + 1)),some (N + 1,Lo #[] 0)],tk + 5,N + 2,gz,[],[]⟩ := by
  cases cx with
  | D st env q' => unfold EndOf; kernel_rfl
  | L t it b o e p' st env q' => unfold EndOf; kernel_rfl
  | C => cases hx
variable (Lp sz tk' gz' nt ep : Nat) (kt ut : Nat → Nat) (vs vr : Array Value) (pp' : Pos) (ln : Int) (fs js zs : Str) (tfm tfj tfa : Nat → List Value → Nat) (dm dj da : Nat)
noncomputable def pXO0 : List (Nat × OE) := [(3,oeLenV (.r Lp) [(1,Lp,Lo vs ep)] ln),(6,oeSt "str.__mul__" [.s ⟨#[48]⟩,.i (z - ln)] [] fs tfm dm),
  (8,oeSlL 1 Lp 2 sz vs ep .none .none (.int (-1) (tk' + 7 + dm + 3)) vr),(9,oeSt "str.join" [.s Str.empty,.r (sz + 1)] [(3,sz + 1,Lo vr 0)] js tfj dj),(10,oeSt "str.__add__" [.s fs,.s js] [] zs tfa da)]
noncomputable def pXO1 : List (Nat × OE) := [(6,oeSlL 1 Lp 2 sz vs ep .none .none (.int (-1) (tk' + 9)) vr),(7,oeSt "str.join" [.s Str.empty,.r (sz + 1)] [(3,sz + 1,Lo vr 0)] js tfj dj),(8,oeSt "str.__add__" [.s ⟨#[42]⟩,.s js] [] zs tfa da)]
noncomputable def pX (kk : Result → Sem Fin) (e : Int) (L A : List Nat) (O : List (Nat × OE)) : Cf := st0 (den (pW w N)) (pW w N) pp' (pTS cx N kk k g lv rest w) (pTW cx N w) [none,none,none] [(N,pF w kt ut e p z d nt Lp),(Lp,Lo vs ep)] sz tk' gz' [] L A O
theorem pX0_end (hx : cx.dl = true) : EndR w 0 86 (pX w cx N z p d k g lv rest Lp sz tk' gz' nt ep kt ut vs pp' (pK w cx N tk gz t1 t2 t3 t4 n z p d k g lv pp rest) 0
      [1,1,1,0,0,1,1,1,1,1,2,2,2,2] [1,1,0] (pXO0 z Lp sz tk' ep vs vr ln fs js zs tfm tfj tfa dm dj da)) [] (.s zs) (.ret k none g lv cx.c cx.p [] :: rest) [] [] := by
  cases cx with
  | D st env q' => unfold EndR; kernel_rfl
  | L t it b o e p' st env q' => unfold EndR; kernel_rfl
  | C => cases hx
theorem pX1_end (hx : cx.dl = true) : EndR w 0 75 (pX w cx N z p d k g lv rest Lp sz tk' gz' nt ep kt ut vs pp' (pK w cx N tk gz t1 t2 t3 t4 n z p d k g lv pp rest) (-1)
      [1,1,1,1,1,1,1,2,2,2,2] [1,1,1,0] (pXO1 Lp sz tk' ep vs vr js zs tfj tfa dj da)) [] (.s zs) (.ret k none g lv cx.c cx.p [] :: rest) [] [] := by
  cases cx with
  | D st env q' => unfold EndR; kernel_rfl
  | L t it b o e p' st env q' => unfold EndR; kernel_rfl
  | C => cases hx
end
inductive Digs (p : Int) : Int → List Nat → Int → Prop
  | zero : Digs p 0 [] 0
  | neg : Digs p (-1) [] (-1)
  | step {n : Int} {f : Nat} {fs : List Nat} {e : Int} : n ≠ 0 → n ≠ -1 → n.fmod p = (f : Int) → Builtin.divisionGoesByPylong n p = false → Digs p (n.fdiv p) fs e → Digs p n (f :: fs) e
structure PState (w : World) (N Lp : Nat) (n z : Int) (p d : Nat) (vs : Array Value) (s : Shared) : Prop where
  I : Inv w s
  fr : ∃ kt ut nt,s.heap.get? N = some (pF w kt ut n p z d nt Lp)
  li : ∃ ep,s.heap.get? Lp = some (Lo vs ep)
  aN : 268 ≤ N
  aL : 268 ≤ Lp
  ne : N ≠ Lp
theorem two_own {N Lp : Nat} {a b : Obj} {h : Heap} (ha : 268 ≤ N) (hb : 268 ≤ Lp) (h1 : h.get? N = some a) (h2 : h.get? Lp = some b) (hne : N ≠ Lp) : OwnL 0 [(N,a),(Lp,b)] h := by
  refine ⟨fun y hy => ?_,fun i j y z _ hij ei ej => ?_⟩
  · rcases List.mem_cons.mp hy with rfl | hy
    · exact ⟨ha,h1⟩
    · rcases List.mem_cons.mp hy with rfl | hy
      · exact ⟨hb,h2⟩
      · cases hy
  · match i,j with
    | 0,0 => exact absurd rfl hij
    | 0,1 => cases ei; cases ej; exact hne
    | 1,0 => cases ei; cases ej; exact Ne.symm hne
    | 1,1 => exact absurd rfl hij
    | _ + 2,_ => cases ei
    | 0,_ + 2 => cases ej
    | 1,_ + 2 => cases ej
theorem updOf_two {N Lp : Nat} {a b : Obj} {x : Nat} (h : updOf 0 [(N,a),(Lp,b)] x) : x = N ∨ x = Lp := by
  refine xE2 h fun i y hxx => xA2 hxx fun _ e q4 => ?_; clear hxx; clear h; obtain rfl := q4
  match i with
  | 0 => cases e; exact .inl rfl
  | 1 => cases e; exact .inr rfl
  | _ + 2 => cases e
theorem chNil {a : Nat} {vs : Array Value} (h : chLook [] a = some vs) : False := nomatch h
section
variable {w : World} {cx : Cx} (hx : cx.dl = true) {N Lp : Nat} {z : Int} {p d : Nat} {kk k : Result → Sem Fin} {g : Bool} {lv : List Value} {rest : List Frame} (U : Und rest cx.sw)
include hx U
theorem pat_turn {s : Shared} {n : Int} {f : Nat} {vs : Array Value} (P : PState w N Lp n z p d vs s) (h0 : n ≠ 0) (h1 : n ≠ -1) (hp : (p : Int) ≠ 0) (hf : n.fmod p = f) (hq : Builtin.divisionGoesByPylong n p = false)
    (hm : (p,d,f) ∈ pdfs) (hsz : vs.size ≤ sizeLine) (pp : Pos) :
    ∃ s' tok pp',PState w N Lp (n.fdiv p) z p d (vs.push (.str (pieceT p d f) tok)) s' ∧ Ext (fun b => b = N ∨ b = Lp) s s' ∧
      ∀ Q,Good w Q s' ⟨den (pW w N),pW w N,pp',pTS cx N kk k g lv rest w⟩ → Good w Q s ⟨den (pW w N),pW w N,pp,pTS cx N kk k g lv rest w⟩ := by
  refine gv fun GG hGG => ?_
  obtain ⟨I,⟨kt,ut,nt,hN⟩,⟨ep,hL⟩,aN,aL,ne⟩ := P
  have hw : (pTS cx N kk k g lv rest w).map Frame.where_ = pTW cx N w := ((U.cons k g lv cx.c cx.p).cons kk false [] (.func (pB w) (pE w N)) (posOf (pB w) 1)).w
  refine segE (I := I) (OW := two_own aN aL hN hL ne) (p := pp) hw (hd := [none,none,none]) ⟨U.h,U.h,U.h,trivial⟩ (ch := []) (fun a vs e => (chNil e).elim)
    (patTurn w cx N Lp s.heap.objs.size s.toks s.gens.size kt ut nt n z (n.fdiv p) p d f vs ep kk k g lv pp rest hx hm)
    (List.forall_mem_cons.2 ⟨oeNe (by simpa using h0),List.forall_mem_cons.2 ⟨oeNe (by simpa using h1),List.forall_mem_cons.2 ⟨oeMod hp hf,List.forall_mem_cons.2 ⟨oeApp_ok hsz,
      List.forall_mem_cons.2 ⟨oeDiv hp hq rfl,fun _ h => nomatch h⟩⟩⟩⟩⟩) glNil fun s' X ob tk' sz' gz' tb G => ?_
  have X' : Ext (fun b => b = N ∨ b = Lp) s s' := X.mono fun b hb => by
    rcases hb with hb | ⟨vs,e⟩
    · exact updOf_two hb
    · exact (chNil e).elim
  refine hGG (yE3 s' (s.toks + pTk (cls4 p d f)) _ ⟨⟨X'.inv I fun b hb => ?_,⟨kt,ut,_,ob (N,_) (.head _)⟩,⟨ep + 1,ob (Lp,_) (.tail _ (.head _))⟩,aN,aL,ne⟩,X',G⟩)
  rcases hb with rfl | rfl
  · exact .inl aN
  · exact .inl aL
theorem pat_loop (hp : (p : Int) ≠ 0) : ∀ {fs : List Nat} {n e : Int},Digs p n fs e → (∀ f ∈ fs,(p,d,f) ∈ pdfs) → ∀ {s : Shared} {vs : Array Value},PState w N Lp n z p d vs s → vs.size + fs.length ≤ sizeLine → ∀ pp,
    ∃ s' vs' pp',PState w N Lp e z p d vs' s' ∧ vs'.toList.map strip0 = vs.toList.map strip0 ++ fs.map (fun f => .s (pieceT p d f)) ∧ Ext (fun b => b = N ∨ b = Lp) s s' ∧
      ∀ Q,Good w Q s' ⟨den (pW w N),pW w N,pp',pTS cx N kk k g lv rest w⟩ → Good w Q s ⟨den (pW w N),pW w N,pp,pTS cx N kk k g lv rest w⟩ := by
  intro fs n e D
  have nil : ∀ {s : Shared} {vs : Array Value} {e : Int},PState w N Lp e z p d vs s → ∀ pp,∃ s' vs' pp',PState w N Lp e z p d vs' s' ∧ vs'.toList.map strip0 = vs.toList.map strip0 ++ ([] : List Nat).map (fun f => V0.s (pieceT p d f)) ∧ Ext (fun b => b = N ∨ b = Lp) s s' ∧
      ∀ Q,Good w Q s' ⟨den (pW w N),pW w N,pp',pTS cx N kk k g lv rest w⟩ → Good w Q s ⟨den (pW w N),pW w N,pp,pTS cx N kk k g lv rest w⟩ :=
    fun {s} {vs} {e} P pp => ⟨s,vs,pp,P,by simp,⟨fun _ _ h _ => h,Nat.le_refl _,P.I.gens,rfl,rfl,rfl⟩,fun Q q => q⟩
  induction D with
  | zero => intro _ s vs P _ pp; exact nil P pp
  | neg => intro _ s vs P _ pp; exact nil P pp
  | @step n f fs e h0 h1 hf hq D ih =>
    intro hm s vs P hs pp
    simp only [List.length_cons] at hs
    refine xE3 (pat_turn hx U (kk := kk) (k := k) (g := g) (lv := lv) P h0 h1 hp hf hq (hm f (.head _)) (by lia) pp) fun s1 tok pp1 hxx => xA2 hxx fun P1 X1 G1 => ?_; clear hxx
    refine xE3 (ih (fun f hf => hm f (.tail _ hf)) P1 (by rw [Array.size_push]; lia) pp1) fun s2 vs2 pp2 hxx => xA3 hxx fun P2 e2 X2 G2 => ?_; clear hxx
    refine ⟨s2,vs2,pp2,P2,?_,(X1.trans X2).mono (fun b h => h.elim id id),fun Q q => G1 Q (G2 Q q)⟩
    rw [e2,Array.toList_push,List.map_append,List.append_assoc]
    rfl
end
inductive Tk
  | s (c : Nat)
  | br (d1 : Bool) (a b : Nat)
noncomputable def Tk.src : Tk → List Nat
  | .s c => [sgn c]
  | .br false _ b => [91,48,45,b,93]
  | .br true a b => [91,33,a,45,b,93]
noncomputable def Tk.part : Tk → Str
  | .s c => sg3 c ⟨#[48]⟩ ⟨#[46]⟩ ⟨#[46]⟩
  | .br d1 a b => partE d1 a b
noncomputable def Tk.ok : Tk → Prop
  | .s c => c = 0 ∨ c = 1
  | .br false a b => (a,b) ∈ [(48,49),(48,50),(48,51),(48,52),(48,53)]
  | .br true a b => (a,b) ∈ [(50,50),(50,52),(51,52),(52,52),(50,54),(51,54),(52,54),(53,54),(54,54)]
theorem own3 {a b c : Nat} {x y z : Obj} {h : Heap} (ha : 268 ≤ a) (hb : 268 ≤ b) (hc : 268 ≤ c) (h1 : h.get? a = some x) (h2 : h.get? b = some y) (h3 : h.get? c = some z) (ab : a ≠ b) (ac : a ≠ c) (bc : b ≠ c) : OwnL 0 [(a,x),(b,y),(c,z)] h := by
  refine ⟨fun q hq => ?_,fun i j p q _ hij ei ej => ?_⟩
  · rcases List.mem_cons.mp hq with rfl | hq
    · exact ⟨ha,h1⟩
    · rcases List.mem_cons.mp hq with rfl | hq
      · exact ⟨hb,h2⟩
      · rcases List.mem_cons.mp hq with rfl | hq
        · exact ⟨hc,h3⟩
        · cases hq
  · match i,j with
    | 0,0 => exact absurd rfl hij
    | 1,1 => exact absurd rfl hij
    | 2,2 => exact absurd rfl hij
    | 0,1 => cases ei; cases ej; exact ab
    | 1,0 => cases ei; cases ej; exact ab.symm
    | 0,2 => cases ei; cases ej; exact ac
    | 2,0 => cases ei; cases ej; exact ac.symm
    | 1,2 => cases ei; cases ej; exact bc
    | 2,1 => cases ei; cases ej; exact bc.symm
    | _ + 3,_ => cases ei
    | 0,_ + 3 => cases ej
    | 1,_ + 3 => cases ej
    | 2,_ + 3 => cases ej
theorem updOf3 {a b c : Nat} {x y z : Obj} {q : Nat} (h : updOf 0 [(a,x),(b,y),(c,z)] q) : q = a ∨ q = b ∨ q = c := by
  refine xE2 h fun i y hxxx => xA2 hxxx fun _ e q4 => ?_; clear hxxx; clear h; obtain rfl := q4
  match i with
  | 0 => cases e; exact .inl rfl
  | 1 => cases e; exact .inr (.inl rfl)
  | 2 => cases e; exact .inr (.inr rfl)
  | _ + 3 => cases e
noncomputable def Tab (s : Shared) (warm : Bool) (c1 c2 : Nat) : Prop := s.heap.get? 85 = some (tableObj (tabV warm c1 c2))
structure TState (w : World) (N R M S sh : Nat) (x : Str) (nn I : Int) (rs : Array Value) (s : Shared) : Prop where
  inv : Inv w s
  fr : ∃ kt ut v it,s.heap.get? N = some (tF w sh kt ut v x S R M nn I it)
  li : ∃ ep,s.heap.get? R = some (Lo rs ep)
  m : s.heap.get? M = some (tM R)
  aN : 268 ≤ N
  aR : 268 ≤ R
  aM : 268 ≤ M
  nr : N ≠ R
  nm : N ≠ M
  rm : R ≠ M
theorem ch85 {vs0 : Array Value} {a : Nat} {vs : Array Value} (h : chLook [(85,vs0)] a = some vs) : a = 85 ∧ vs = vs0 := by
  unfold chLook at h
  split at h
  · rename_i e
    exact ⟨(Nat.eq_of_beq_eq_true e).symm,(Option.some.inj h).symm⟩
  · cases h
section
variable {w : World} {cx : Cx} (hx : cx.dl = true) {N7 : Nat} {p7 : Pos} {N R M S : Nat} {x : Str} {nn : Int} {kk k71 k : Result → Sem Fin} {g7 : Bool} {l7 : List Value} {g : Bool} {lv : List Value} {rest : List Frame} (U : Und rest cx.sw)
include hx U
noncomputable def updT (N R M b : Nat) : Prop := b = N ∨ b = R ∨ b = M ∨ b = 85
theorem br_turn {s : Shared} {sh : Nat} {rs : Array Value} {I : Int} {warm : Bool} {c1 c2 : Nat} {d1 : Bool} {a b : Nat} {pre post : List Nat} (P : TState w N R M S sh x nn I rs s) (HT : Tab s warm c1 c2)
    (hs : (sh,warm) ∈ [(0,false),(0,true),(1,false),(1,true),(2,true)]) (hab : (Tk.br d1 a b).ok) (hxx : x.cps.toList = pre ++ ((Tk.br d1 a b).src ++ post)) (hI : I = (pre.length : Nat)) (hn : nn = (x.length : Nat)) (hsz : x.length ≤ 2 ^ 24) (hr : rs.size ≤ sizeLine) (pp : Pos) :
    ∃ s' tok pp' c1' c2',TState w N R M S 2 x nn (jE I d1 + 1) (rs.push (.str (partE d1 a b) tok)) s' ∧ Tab s' true c1' c2' ∧ Ext (updT N R M) s s' ∧
      ∀ Q,Good w Q s' ⟨den (tW w N),tW w N,pp',tS w N kk (.ret k71 none g7 l7 (f71 w N7) p7 [] :: .ret k none g lv cx.c cx.p [] :: rest)⟩ →
        Good w Q s ⟨den (tW w N),tW w N,pp,tS w N kk (.ret k71 none g7 l7 (f71 w N7) p7 [] :: .ret k none g lv cx.c cx.p [] :: rest)⟩ := by
  refine gv fun GG hGG => ?_
  obtain ⟨inv,⟨kt,ut,v,it,hN⟩,⟨ep,hR⟩,hM,aN,aR,aM,nr,nm,rm⟩ := P
  have U2 := (U.cons k g lv cx.c cx.p).cons k71 g7 l7 (f71 w N7) p7
  have hw := (U2.cons kk false [] (.func (tB w) (tE w N)) (tP w)).w
  have ht : TtEnd w cx N7 p7 N R M S s.heap.objs.size s.toks s.gens.size c1 c2 kt ut v it ep x nn I rs kk (.ret k71 none g7 l7 (f71 w N7) p7 [] :: .ret k none g lv cx.c cx.p [] :: rest) pp d1 sh warm a b (w.params.followText rowFs) := by
    cases d1 with
    | false => exact brTurn0 w cx N7 p7 N R M S s.heap.objs.size s.toks s.gens.size c1 c2 kt ut v it ep x nn I rs kk _ pp hx sh warm a b _ hs hab
    | true => exact brTurn1 w cx N7 p7 N R M S s.heap.objs.size s.toks s.gens.size c1 c2 kt ut v it ep x nn I rs kk _ pp hx sh warm a b _ hs hab
  have zz : ∀ (l : List Nat) (os : List OE),(∀ y ∈ os,OEk w y) → ∀ y ∈ zipE l os,OEk w y.2 := by
    intro l
    induction l with
    | nil => intro os h y hy; cases os <;> cases hy
    | cons e l ih =>
      intro os h y hy
      cases os with
      | nil => cases hy
      | cons o os =>
        rcases List.mem_cons.mp hy with rfl | hy
        · exact h o (.head _)
        · exact ih os (fun y h' => h y (.tail _ h')) y hy
  refine seg2E rfl inv (own3 aN aR aM hN hR hM nr nm rm) (p := pp) hw (hd := [none,none]) ⟨U.h,U.h,trivial⟩ (ch := [(85,tabV warm c1 c2)])
    (fun a vs e => by obtain ⟨rfl,rfl⟩ := ch85 e; exact ⟨by decide,HT,rfl⟩) ht
    (by
      cases d1 with
      | false => exact zz _ _ (os0_ok hxx hI hn hsz hr)
      | true => exact zz _ _ (os1_ok hxx hI hn hsz hr))
    (fun j y e => by
      match j with
      | 0 => cases e; trivial
      | _ + 1 => cases e) fun s' X ob tk' sz' gz' tb G => ?_
  have X' : Ext (updT N R M) s s' := X.mono fun q hq => by
    rcases hq with hq | ⟨vs,e⟩
    · rcases updOf3 hq with h | h | h
      · exact .inl h
      · exact .inr (.inl h)
      · exact .inr (.inr (.inl h))
    · exact .inr (.inr (.inr (ch85 e).1))
  refine hGG (yE5 s' _ _ (wc warm c1 (s.heap.objs.size + 11)) (wc warm c2 (s.heap.objs.size + 24)) ⟨⟨X'.inv inv fun q hq => ?_,⟨_,_,_,_,ob (N,_) (.head _)⟩,⟨ep + 1,ob (R,_) (.tail _ (.head _))⟩,ob (M,_) (.tail _ (.tail _ (.head _))),aN,aR,aM,nr,nm,rm⟩,tb 85 _ rfl,X',G⟩)
  rcases hq with rfl | rfl | rfl | rfl
  · exact .inl aN
  · exact .inl aR
  · exact .inl aM
  · exact .inr (.inl rfl)
end
theorem pick_down {α : Type} (xs : Array α) : ∀ k : Nat,k ≤ xs.size → ((List.range k).map fun i => xs.size - 1 - i).filterMap (xs[·]?) = xs.toList.reverse.take k
  | 0,_ => by simp
  | k + 1,h => by
    rw [List.range_succ,List.map_append,List.filterMap_append,pick_down xs k (by lia),List.take_add_one]
    congr 1
    have e : xs.toList.reverse[k]? = xs[xs.size - 1 - k]? := by
      rw [List.getElem?_reverse (by rw [Array.length_toList]; lia)]
      simp
    rw [e]
    simp only [List.map_cons,List.map_nil]
    cases h : xs[xs.size - 1 - k]? <;> simp [h]
theorem slicePick_rev (xs : Array Value) : (slicePick xs none none (some (-1))).toList = xs.toList.reverse := by
  have e : sliceBounds none none (some (-1)) xs.size = ((xs.size : Int) - 1,-1,-1) := by
    simp only [sliceBounds,Option.getD_some]
    simp
  unfold slicePick
  rw [e]
  have r : sliceRange ((xs.size : Int) - 1) (-1) (-1) = (List.range xs.size).map fun i => xs.size - 1 - i := by
    unfold sliceRange
    by_cases h : xs.size = 0
    · simp [h]
    · have h1 : ¬ ((-1 : Int) > 0) := by decide
      have h2 : ((xs.size : Int) - 1 > -1) := by lia
      simp only [h1,if_false,h2,if_true]
      have e2 : ((xs.size : Int) - 1 - -1 - -1 - 1) / - -1 = xs.size := by
        have : (- -1 : Int) = 1 := rfl
        rw [this,Int.ediv_one]; lia
      rw [e2,Int.toNat_natCast]
      apply List.map_congr_left
      intro i _
      lia
  show ((sliceRange ((xs.size : Int) - 1) (-1) (-1)).filterMap (xs[·]?)).toArray.toList = _
  rw [r,pick_down xs xs.size (Nat.le_refl _),List.take_of_length_le (by simp)]
theorem own_nil {ro : Nat} {h : Heap} : OwnL ro [] h := ⟨fun _ h => (nomatch h),fun i j y z _ _ e => (by cases i <;> cases e)⟩
theorem Ext.fresh {u v : Nat → Prop} {s s' s'' : Shared} (X : Ext u s s') (Y : Ext v s' s'') (h : ∀ b,v b → s.heap.objs.size ≤ b) : Ext u s s'' :=
  ⟨fun b o e q => Y.keep b o (X.keep b o e q) fun z => absurd (Heap.lt_size e) (Nat.not_lt.mpr (h b z)),Nat.le_trans X.size Y.size,Y.gens,Y.os.trans X.os,Y.drawn.trans X.drawn,Y.life.trans X.life⟩
noncomputable def patS (p d : Nat) (z : Int) (fs : List Nat) (e : Int) : Str :=
  (if e = -1 then ⟨#[42]⟩ else mulS ⟨#[48]⟩ (z - fs.length)) ++ Builtin.Str.glued Str.empty (fs.reverse.map (pieceT p d))
theorem foldl_len (l : List Str) : ∀ n : Nat,l.foldl (fun a (y : Str) => a + y.length + Str.empty.length) n = n + (l.map (fun y : Str => y.length)).sum := by
  induction l with
  | nil => intro n; simp
  | cons y l ih =>
    intro n
    rw [List.foldl_cons,ih]
    simp only [List.map_cons,List.sum_cons]
    have : Str.empty.length = 0 := rfl
    lia
theorem glued_len (l : List Str) : (Builtin.Str.glued Str.empty l).length = (l.map (fun y : Str => y.length)).sum := by
  have go : ∀ (l : List Str) (acc : Array Nat),(l.foldl (fun acc p => acc ++ Str.empty.cps ++ p.cps) acc).size = acc.size + (l.map (fun y : Str => y.length)).sum := by
    intro l
    induction l with
    | nil => intro acc; simp
    | cons y l ih =>
      intro acc
      rw [List.foldl_cons,ih]
      simp only [Array.size_append,List.map_cons,List.sum_cons]
      have : Str.empty.cps.size = 0 := rfl
      have : y.length = y.cps.size := rfl
      lia
  cases l with
  | nil => rfl
  | cons y l =>
    show (Array.size _) = _
    simp only [Builtin.Str.glued,List.drop_succ_cons,List.drop_zero,List.headD_cons]
    rw [go]
    rfl
theorem sum_le {α : Type} (f : α → Nat) (m : Nat) : ∀ l : List α,(∀ x ∈ l,f x ≤ m) → (l.map f).sum ≤ m * l.length
  | [],_ => by simp
  | x :: l,h => by
    have := sum_le f m l fun y hy => h y (.tail _ hy)
    have := h x (.head _)
    simp only [List.map_cons,List.sum_cons,List.length_cons,Nat.mul_add,Nat.mul_one]
    lia
theorem pieceT_len (p d f : Nat) : (pieceT p d f).length ≤ 6 := by
  show (Array.size _) ≤ 6
  unfold pieceT
  rw [List.size_toArray]
  split <;> simp
theorem mulS_len (n : Int) : (mulS ⟨#[48]⟩ n).length = n.toNat := by
  show (Array.size _) = _
  unfold mulS
  have : ∀ (k : Nat) (acc : Array Nat),((List.replicate k (#[48] : Array Nat)).foldl (· ++ ·) acc).size = acc.size + k := by
    intro k
    induction k with
    | zero => intro acc; simp
    | succ k ih => intro acc; rw [List.replicate_succ,List.foldl_cons,ih]; simp; lia
  rw [this]; simp
theorem str_len_append (x y : Str) : (x ++ y).length = x.length + y.length := Array.size_append
section
variable {w : World} {cx : Cx} (hx : cx.dl = true) {z : Int} {p d : Nat} {k : Result → Sem Fin} {g : Bool} {lv : List Value} {rest : List Frame} (U : Und rest cx.sw)
include hx U
theorem pat_call {s : Shared} (I : Inv w s) {n : Int} {t1 t2 t3 t4 : Nat} {fs : List Nat} {e : Int} (D : Digs p n fs e) (hp : (p : Int) ≠ 0) (hm : ∀ f ∈ fs,(p,d,f) ∈ pdfs) (hlen : fs.length ≤ 200) (hz0 : 0 ≤ z) (hz : z ≤ 100) (pp : Pos) :
    ∃ s' v,strip0 v = .s (patS p d z fs e) ∧ Ext (fun _ => False) s s' ∧ ∀ Q,Good w Q s' ⟨k (.ok (.ret v)),cx.c,cx.p,rest⟩ →
      Good w Q s ⟨den (pCall t1 t2 t3 t4 n z p d),pCall t1 t2 t3 t4 n z p d,pp,.ret k none g lv cx.c cx.p [] :: rest⟩ := by
  refine gv fun GG hGG => ?_
  have hw : (pTS cx s.heap.objs.size (pK w cx s.heap.objs.size s.toks s.gens.size t1 t2 t3 t4 n z p d k g lv pp rest) k g lv rest w).map Frame.where_ = pTW cx s.heap.objs.size w :=
    ((U.cons k g lv cx.c cx.p).cons _ false [] (.func (pB w) (pE w s.heap.objs.size)) (posOf (pB w) 1)).w
  refine segE (I := I) (OW := own_nil) (p := pp) (U.cons k g lv cx.c cx.p).w (hd := [none,none]) ⟨U.h,U.h,trivial⟩ (ch := []) (fun a vs e => (chNil e).elim)
    (pA_end w cx s.heap.objs.size s.toks s.gens.size t1 t2 t3 t4 n z p d k g lv pp rest hx) (fun _ h => nomatch h) glNil fun s1 X1 ob1 tk1 sz1 gz1 _ G1 => ?_
  have lo := I.lo
  have X1' : Ext (fun _ => False) s s1 := X1.mono fun b hb => by
    rcases hb with ⟨i,y,_,e,_⟩ | ⟨vs,e⟩
    · cases i <;> cases e
    · exact chNil e
  have P1 : PState w s.heap.objs.size (s.heap.objs.size + 1) n z p d #[] s1 :=
    ⟨X1'.inv I fun b h => h.elim,⟨fun i => s.toks + i,fun i => sel5 i t1 t2 t3 t4 0,t1,ob1 _ (.head _)⟩,⟨0,ob1 (s.heap.objs.size + 1,Lo #[] 0) (.tail _ (.head _))⟩,lo,by lia,by lia⟩
  refine xE3 (pat_loop hx U (kk := pK w cx s.heap.objs.size s.toks s.gens.size t1 t2 t3 t4 n z p d k g lv pp rest) (k := k) (g := g) (lv := lv) hp D hm P1 (by show 0 + fs.length ≤ 2 ^ 24; lia) (posOf (pB w) 1)) fun s2 vs pp2 hxx => xA3 hxx fun P2 e2 X2 G2 => ?_; clear hxx
  have X2' := X1'.fresh X2 fun b h => by rcases h with rfl | rfl <;> lia
  obtain ⟨I2,⟨kt,ut,nt,hN⟩,⟨ep,hL⟩,aN,aL,ne⟩ := P2
  have e3 : vs.toList.map strip0 = (fs.map (pieceT p d)).map .s := by rw [e2,List.map_map]; rfl
  have vlen : vs.size = fs.length := by
    have := congrArg List.length e3
    simpa using this
  have e4 : (slicePick vs none none (some (-1))).toList.map strip0 = (fs.reverse.map (pieceT p d)).map .s := by
    rw [slicePick_rev,List.map_reverse,e3,List.map_reverse,List.map_reverse]
  have jl : (Builtin.Str.glued Str.empty (fs.reverse.map (pieceT p d))).length ≤ 6 * 200 := by
    rw [glued_len,List.map_map]
    refine Nat.le_trans (sum_le _ 6 _ fun x _ => pieceT_len p d x) ?_
    rw [List.length_reverse]; lia
  have tl : Builtin.Str.tooLong ((fs.reverse.map (pieceT p d)).toArray.foldl (fun a y => a + y.length + Str.empty.length) 0) = false := by
    rw [List.foldl_toArray,foldl_len]
    have : ((fs.reverse.map (pieceT p d)).map (fun y : Str => y.length)).sum ≤ 1200 := by rw [← glued_len]; exact jl
    unfold Builtin.Str.tooLong
    refine decide_eq_false ?_
    show ¬ _ > 2 ^ 24
    lia
  have fin : ∀ (e : Int) (n' : Nat) (hD : e = 0 ∨ e = -1) (hN : s2.heap.get? s.heap.objs.size = some (pF w kt ut e p z d nt (s.heap.objs.size + 1))),∃ s' v,strip0 v = .s (patS p d z fs e) ∧ Ext (fun _ => False) s s' ∧ ∀ Q,Good w Q s' ⟨k (.ok (.ret v)),cx.c,cx.p,rest⟩ →
      Good w Q s2 ⟨den (pW w s.heap.objs.size),pW w s.heap.objs.size,pp2,pTS cx s.heap.objs.size (pK w cx s.heap.objs.size s.toks s.gens.size t1 t2 t3 t4 n z p d k g lv pp rest) k g lv rest w⟩ := by
    intro e n' hD hN
    rcases hD with rfl | rfl
    · have ml := mulS_len (z - fs.length)
      refine xE2 (oeMulT (w := w) (x := ⟨#[48]⟩) (n := z - fs.length) (by lia) (by lia) rfl (by rw [ml]; show _ ≤ 2 ^ 24; lia)) fun tfm dm om => ?_
      refine xE2 (oeJoinT (w := w) (x := Str.empty) (a := s2.heap.objs.size + 1) (idx := 3) (n := 0) e4 tl (by show _ ≤ 2 ^ 24; lia)) fun tfj dj oj => ?_
      refine xE2 (oeAddT (w := w) (x := mulS ⟨#[48]⟩ (z - fs.length)) (y := Builtin.Str.glued Str.empty (fs.reverse.map (pieceT p d))) (by rw [str_len_append,ml]; show _ ≤ 2 ^ 24; lia)) fun tfa da oa => ?_
      refine segRE (I := I2) (OW := two_own aN aL hN hL ne) (p := pp2) hw (hd := [none,none,none]) ⟨U.h,U.h,U.h,trivial⟩ (ch := []) (fun a vs e => (chNil e).elim)
        (pX0_end w cx s.heap.objs.size s.toks s.gens.size t1 t2 t3 t4 n z p d k g lv pp rest (s.heap.objs.size + 1) s2.heap.objs.size s2.toks s2.gens.size nt ep kt ut vs (slicePick vs none none (some (-1))) pp2 fs.length (mulS ⟨#[48]⟩ (z - fs.length)) _ _ tfm tfj tfa dm dj da hx)
        (List.forall_mem_cons.2 ⟨oeLenL2 (by rw [vlen]) (by lia),List.forall_mem_cons.2 ⟨om,List.forall_mem_cons.2 ⟨oeSlL_ok .none .none (.int (-1) _) (by decide) rfl (by rw [vlen]; show _ ≤ 2 ^ 24; lia),
          List.forall_mem_cons.2 ⟨oj,List.forall_mem_cons.2 ⟨oa,fun _ h => nomatch h⟩⟩⟩⟩⟩) fun s3 v hv X3 _ _ G3 => ?_
      refine ⟨s3,v,?_,X2'.fresh (v := fun b => b = s.heap.objs.size ∨ b = s.heap.objs.size + 1) (X3.mono fun b hb => ?_) fun b h => ?_,G3⟩
      · rw [hv]; unfold patS; rw [if_neg (by decide)]
      · rcases hb with hb | ⟨vs,e⟩
        · exact updOf_two hb
        · exact (chNil e).elim
      · rcases h with rfl | rfl <;> lia
    · refine xE2 (oeJoinT (w := w) (x := Str.empty) (a := s2.heap.objs.size + 1) (idx := 3) (n := 0) e4 tl (by show _ ≤ 2 ^ 24; lia)) fun tfj dj oj => ?_
      refine xE2 (oeAddT (w := w) (x := ⟨#[42]⟩) (y := Builtin.Str.glued Str.empty (fs.reverse.map (pieceT p d))) (by rw [str_len_append]; show 1 + _ ≤ 2 ^ 24; lia)) fun tfa da oa => ?_
      refine segRE (I := I2) (OW := two_own aN aL hN hL ne) (p := pp2) hw (hd := [none,none,none]) ⟨U.h,U.h,U.h,trivial⟩ (ch := []) (fun a vs e => (chNil e).elim)
        (pX1_end w cx s.heap.objs.size s.toks s.gens.size t1 t2 t3 t4 n z p d k g lv pp rest (s.heap.objs.size + 1) s2.heap.objs.size s2.toks s2.gens.size nt ep kt ut vs (slicePick vs none none (some (-1))) pp2 _ _ tfj tfa dj da hx)
        (List.forall_mem_cons.2 ⟨oeSlL_ok .none .none (.int (-1) _) (by decide) rfl (by rw [vlen]; show _ ≤ 2 ^ 24; lia),
          List.forall_mem_cons.2 ⟨oj,List.forall_mem_cons.2 ⟨oa,fun _ h => nomatch h⟩⟩⟩) fun s3 v hv X3 _ _ G3 => ?_
      refine ⟨s3,v,?_,X2'.fresh (v := fun b => b = s.heap.objs.size ∨ b = s.heap.objs.size + 1) (X3.mono fun b hb => ?_) fun b h => ?_,G3⟩
      · rw [hv]; unfold patS; rw [if_pos rfl]
      · rcases hb with hb | ⟨vs,e⟩
        · exact updOf_two hb
        · exact (chNil e).elim
      · rcases h with rfl | rfl <;> lia
  have hE : ∀ {n : Int} {fs : List Nat} {e : Int},Digs p n fs e → e = 0 ∨ e = -1 := by
    intro n fs e D
    induction D with
    | zero => exact .inl rfl
    | neg => exact .inr rfl
    | step _ _ _ _ _ ih => exact ih
  refine xE2 (fin e 0 (hE D) hN) fun s' v hxx => xA2 hxx fun hv X G => ?_; clear hxx
  exact hGG (yE2 s' v ⟨hv,X,fun Q q => G1 Q (G2 Q (G Q q))⟩)
end
theorem zipE_ok {w : World} : ∀ (l : List Nat) (os : List OE),(∀ y ∈ os,OEk w y) → ∀ y ∈ zipE l os,OEk w y.2
  | [],os,h,y,hy => by cases os <;> cases hy
  | e :: l,[],h,y,hy => by cases hy
  | e :: l,o :: os,h,y,hy => by
    rcases List.mem_cons.mp hy with rfl | hy
    · exact h o (.head _)
    · exact zipE_ok l os (fun y h' => h y (.tail _ h')) y hy
noncomputable def okSh (sh : Nat) (warm : Bool) : Prop := sh = 0 ∨ sh = 1 ∨ (sh = 2 ∧ warm = true)
theorem okSh_s {sh : Nat} {warm : Bool} (h : okSh sh warm) : okSh (shS sh) warm := by
  rcases h with rfl | rfl | ⟨rfl,h⟩
  · exact .inr (.inl rfl)
  · exact .inr (.inl rfl)
  · exact .inr (.inr ⟨rfl,h⟩)
theorem okSh_mem {sh : Nat} {warm : Bool} (h : okSh sh warm) : (sh,warm) ∈ [(0,false),(0,true),(1,false),(1,true),(2,true)] := by
  rcases h with rfl | rfl | ⟨rfl,rfl⟩
  · cases warm <;> simp
  · cases warm <;> simp
  · simp
theorem sgV_strip (c S tk : Nat) (ut : Nat → Nat) : strip0 (sgV c S tk ut) = sg3 c (.s ⟨#[48]⟩) (.s ⟨#[46]⟩) (.r S) := match c with
  | 0 => rfl
  | 1 => rfl
  | _ + 2 => rfl
section
variable {w : World} {cx : Cx} (hx : cx.dl = true) {N7 : Nat} {p7 : Pos} {N R M S : Nat} {x : Str} {nn : Int} {kk k71 k : Result → Sem Fin} {g7 : Bool} {l7 : List Value} {g : Bool} {lv : List Value} {rest : List Frame} (U : Und rest cx.sw)
include hx U
theorem sg_turn {s : Shared} {sh c : Nat} {rs : Array Value} {I : Int} {pre post : List Nat} (P : TState w N R M S sh x nn I rs s)
    (ht : ∀ sz tk gz kt ut v it ep kk rest pp,StEnd w cx N7 p7 N R M S sz tk gz kt ut v it ep x nn I rs kk rest pp sh c)
    (hxx : x.cps.toList = pre ++ ([sgn c] ++ post)) (hI : I = (pre.length : Nat)) (hn : nn = (x.length : Nat)) (hsz : x.length ≤ 2 ^ 24) (hr : rs.size ≤ sizeLine) (pp : Pos) :
    ∃ s' v0 pp',TState w N R M S (shS sh) x nn (I + 1) (rs.push v0) s' ∧ strip0 v0 = sg3 c (.s ⟨#[48]⟩) (.s ⟨#[46]⟩) (.r S) ∧ Ext (fun b => b = N ∨ b = R ∨ b = M) s s' ∧
      ∀ Q,Good w Q s' ⟨den (tW w N),tW w N,pp',tS w N kk (.ret k71 none g7 l7 (f71 w N7) p7 [] :: .ret k none g lv cx.c cx.p [] :: rest)⟩ →
        Good w Q s ⟨den (tW w N),tW w N,pp,tS w N kk (.ret k71 none g7 l7 (f71 w N7) p7 [] :: .ret k none g lv cx.c cx.p [] :: rest)⟩ := by
  refine gv fun GG hGG => ?_
  obtain ⟨inv,⟨kt,ut,v,it,hN⟩,⟨ep,hR⟩,hM,aN,aR,aM,nr,nm,rm⟩ := P
  have U2 := (U.cons k g lv cx.c cx.p).cons k71 g7 l7 (f71 w N7) p7
  have hw := (U2.cons kk false [] (.func (tB w) (tE w N)) (tP w)).w
  have len : x.length = pre.length + 1 + post.length := by
    have := congrArg List.length hxx
    rw [Array.length_toList] at this
    show x.cps.size = _
    rw [this]; simp; lia
  refine segE inv (own3 aN aR aM hN hR hM nr nm rm) (p := pp) hw (hd := [none,none]) ⟨U.h,U.h,trivial⟩ (ch := [])
    (fun a vs e => (chNil e).elim) (ht s.heap.objs.size s.toks s.gens.size kt ut v it ep kk _ pp)
    (zipE_ok _ _ (by
      subst hI hn
      unfold osS
      simp only [List.forall_mem_cons]
      refine ⟨lt_ok (by simp; lia),gt_ok (k := pre.length) rfl hsz (by rw [hxx]; exact get_pre 0 _ pre),oeApp_ok hr,fun _ h => nomatch h⟩)) glNil fun s' X ob tk' sz' gz' tb G => ?_
  have X' : Ext (fun b => b = N ∨ b = R ∨ b = M) s s' := X.mono fun q hq => by
    rcases hq with hq | ⟨vs,e⟩
    · exact updOf3 hq
    · exact (chNil e).elim
  refine hGG (yE3 s' (sgV c S s.toks ut) _ ⟨⟨X'.inv inv fun q hq => ?_,⟨_,_,_,_,ob (N,_) (.head _)⟩,⟨ep + 1,ob (R,_) (.tail _ (.head _))⟩,ob (M,_) (.tail _ (.tail _ (.head _))),aN,aR,aM,nr,nm,rm⟩,?_,X',G⟩)
  · rcases hq with rfl | rfl | rfl
    · exact .inl aN
    · exact .inl aR
    · exact .inl aM
  · exact sgV_strip c S s.toks ut
theorem t_loop : ∀ (ts : List Tk),(∀ t ∈ ts,t.ok) → ∀ {s : Shared} {sh : Nat} {rs : Array Value} {I : Int} {warm : Bool} {c1 c2 : Nat} {pre : List Nat},TState w N R M S sh x nn I rs s → Tab s warm c1 c2 → okSh sh warm →
    x.cps.toList = pre ++ ts.flatMap Tk.src → I = (pre.length : Nat) → nn = (x.length : Nat) → x.length ≤ 2 ^ 24 → rs.size + ts.length ≤ sizeLine → ∀ pp,
    ∃ s' rs' pp' warm' c1' c2' sh',TState w N R M S sh' x nn nn rs' s' ∧ okSh sh' warm' ∧ rs'.toList.map strip0 = rs.toList.map strip0 ++ ts.map (fun t => .s t.part) ∧ Tab s' warm' c1' c2' ∧ Ext (updT N R M) s s' ∧
      ∀ Q,Good w Q s' ⟨den (tW w N),tW w N,pp',tS w N kk (.ret k71 none g7 l7 (f71 w N7) p7 [] :: .ret k none g lv cx.c cx.p [] :: rest)⟩ →
        Good w Q s ⟨den (tW w N),tW w N,pp,tS w N kk (.ret k71 none g7 l7 (f71 w N7) p7 [] :: .ret k none g lv cx.c cx.p [] :: rest)⟩
  | [],_,s,sh,rs,I,warm,c1,c2,pre,P,T,hok,hxx,hI,hn,hsz,hr,pp => by
    have : I = nn := by
      rw [hI,hn]
      have := congrArg List.length hxx
      rw [Array.length_toList] at this
      have e : x.length = x.cps.size := rfl
      simp at this
      lia
    subst this
    exact ⟨s,rs,pp,warm,c1,c2,sh,P,hok,by simp,T,⟨fun _ _ h _ => h,Nat.le_refl _,P.inv.gens,rfl,rfl,rfl⟩,fun Q q => q⟩
  | .s c :: ts,hts,s,sh,rs,I,warm,c1,c2,pre,P,T,hok,hxx,hI,hn,hsz,hr,pp => by
    simp only [List.length_cons] at hr
    have hc : c = 0 ∨ c = 1 := hts (.s c) (.head _)
    refine xE3 (sg_turn hx U (N7 := N7) (p7 := p7) (kk := kk) (k71 := k71) (k := k) (g7 := g7) (l7 := l7) (g := g) (lv := lv) (c := c) (pre := pre) (post := ts.flatMap Tk.src) P
      (fun sz tk gz kt ut v it ep kk rest pp => sgTurn w cx N7 p7 N R M S sz tk gz kt ut v it ep x nn I rs kk rest pp hx sh c (by rcases hok with h | h | ⟨h,_⟩ <;> rcases hc with h' | h' <;> subst h h' <;> simp))
      (by rw [hxx,List.flatMap_cons]; rfl) hI hn hsz (by lia) pp) fun s1 v0 pp1 hxxx => xA3 hxxx fun P1 e1 X1 G1 => ?_; clear hxxx
    have T1 : Tab s1 warm c1 c2 := X1.keep 85 _ T (fun h => by have := P.aN; have := P.aR; have := P.aM; lia)
    refine xE7 (t_loop ts (fun t h => hts t (.tail _ h)) P1 T1 (okSh_s hok)
      (pre := pre ++ [sgn c]) (by rw [hxx,List.flatMap_cons,List.append_assoc]; rfl) (by rw [hI]; simp) hn hsz (by rw [Array.size_push]; lia) pp1) fun s2 rs2 pp2 w2 d1 d2 sh2 hxxx => xA5 hxxx fun P2 k2 e2 T2 X2 G2 => ?_; clear hxxx
    refine ⟨s2,rs2,pp2,w2,d1,d2,sh2,P2,k2,?_,T2,(X1.trans X2).mono (fun b h => ?_),fun Q q => G1 Q (G2 Q q)⟩
    · rw [e2,Array.toList_push,List.map_append,List.append_assoc]
      congr 1
      show [strip0 v0] ++ _ = _
      rw [e1]
      rcases hc with rfl | rfl <;> rfl
    · rcases h with (h | h | h) | h
      · exact .inl h
      · exact .inr (.inl h)
      · exact .inr (.inr (.inl h))
      · exact h
  | .br d a b :: ts,hts,s,sh,rs,I,warm,c1,c2,pre,P,T,hok,hxx,hI,hn,hsz,hr,pp => by
    simp only [List.length_cons] at hr
    refine xE5 (br_turn hx U (N7 := N7) (p7 := p7) (kk := kk) (k71 := k71) (k := k) (g7 := g7) (l7 := l7) (g := g) (lv := lv) (d1 := d) (a := a) (b := b) (pre := pre) (post := ts.flatMap Tk.src) P T
      (okSh_mem hok) (hts (.br d a b) (.head _))
      (by rw [hxx,List.flatMap_cons]) hI hn hsz (by lia) pp) fun s1 tok pp1 d1 d2 hxxx => xA3 hxxx fun P1 T1 X1 G1 => ?_; clear hxxx
    have eI : jE I d + 1 = ((pre ++ (Tk.br d a b).src).length : Nat) := by
      rw [hI]
      cases d with
      | false => simp [jE,Tk.src]; lia
      | true => simp [jE,Tk.src]; lia
    refine xE7 (t_loop ts (fun t h => hts t (.tail _ h)) P1 T1 (.inr (.inr ⟨rfl,rfl⟩))
      (pre := pre ++ (Tk.br d a b).src) (by rw [hxx,List.flatMap_cons,List.append_assoc]) eI hn hsz (by rw [Array.size_push]; lia) pp1) fun s2 rs2 pp2 w2 f1 f2 sh2 hxxx => xA5 hxxx fun P2 k2 e2 T2 X2 G2 => ?_; clear hxxx
    refine ⟨s2,rs2,pp2,w2,f1,f2,sh2,P2,k2,?_,T2,(X1.trans X2).mono (fun b h => h.elim id id),fun Q q => G1 Q (G2 Q q)⟩
    rw [e2,Array.toList_push,List.map_append,List.append_assoc]
    rfl
end
theorem entsT_str (P : Params) : ∀ (l : List (String × Nat × Value)),∀ e ∈ entsT P l,∃ n t,e.key = .str n t
  | [],e,he => by cases he
  | x :: l,e,he => by
    rcases List.mem_cons.mp he with rfl | he
    · exact ⟨_,_,rfl⟩
    · exact entsT_str P l e he
noncomputable def nsOf (P : Params) (l : List (String × Nat × Value)) (x : Str) : Option Value := nsFind (entsT P l).toArray x
theorem ns_fr {h : Heap} {N : Nat} {P : Params} {l : List (String × Nat × Value)} {n : Nat} (hN : h.get? N = some (frT P l n)) : h.Ns N (nsOf P l) :=
  ⟨_,_,_,hN,rfl,fun e he => entsT_str P l e (by simpa using he),fun _ => rfl⟩
theorem ret_fstr {prog : Program} {w : World} {A : Around} {E : Value → Shared → Prop} {s : Shared} {env : Env} {a b x y : Str} {t : Nat} {k1 k2 : Nat} {p1 p2 px pf p q : Pos} {m : Str → Option Value} {Q : Flow → Shared → Prop}
    (hk : env.scope.kind = .function) (hl : env.kindOf x = some .local) (hd : (x == ("__debug__" : Str)) = false) (hn : s.heap.Ns env.locals m) (hv : m x = some (.str y t))
    (hy : (Str.empty ++ a ++ y ++ b).length ≤ sizeLine) (hq : ∀ tk n,Q (.ret (.str (Str.empty ++ a ++ y ++ b) tk)) { s with toks := n }) :
    wpAny (model prog w) A (exec (.Return (some (.JoinedStr [.Constant (.str a) k1 p1,.FormattedValue (.Name x px) (-1) none pf,.Constant (.str b) k2 p2] p)) q) env) Q E s := by
  have l3 : (Str.empty ++ a ++ y).length + b.length ≤ sizeLine := by rw [← strLen_append]; exact hy
  have l2 : (Str.empty ++ a).length + y.length ≤ sizeLine := by rw [← strLen_append]; lia
  refine wpAny_Return_some (wpAny_JoinedStr ?_)
  refine wpAny_Constant_str ⟨_,_,rfl,by lia,?_⟩
  have fin : ∀ (v : Value) (s' : Shared),v = .str y t ∨ v = .str y (s.toks + 1) → (∃ n,s' = { s with toks := n }) → ∃ y' t',v = .str y' t' ∧ (Str.empty ++ a ++ y').length ≤ sizeLine ∧
      Joins (model prog w) A E (evalEach [.Constant (.str b) k2 p2] env) (Str.empty ++ a ++ y') (fun out s₁ => out.length ≤ sizeLine ∧ Q (.ret (.str out s₁.toks)) { s₁ with toks := s₁.toks + 1 }) s' := by
    rintro v s' hv' ⟨n,rfl⟩
    have : ∃ t',v = .str y t' := by rcases hv' with h | h <;> exact ⟨_,h⟩
    obtain ⟨t',rfl⟩ := this
    refine ⟨y,t',rfl,by rw [strLen_append]; lia,?_⟩
    exact wpAny_Constant_str ⟨_,_,rfl,hy,hy,hq _ _⟩
  refine wpAny_FormattedValue_plain ?_
  refine wpAny_Name (wpAny_loadName_local hk hl (by exact hn) hv ?_) hd
  exact wpAny_formatField_str (fin _ _ (.inl rfl) ⟨_,rfl⟩) (fin _ _ (.inr rfl) ⟨_,rfl⟩) (by lia)
theorem Good.mono {w : World} {Q Q' : Result → Shared → Prop} {s : Shared} {t : Thread} (g : Good w Q s t) (h : ∀ r s',Q r s' → Q' r s') : Good w Q' s t := by
  refine xE3 g fun n r s' hx => xA1 hx fun a b => ?_; clear hx; clear g
  exact ⟨n,r,s',a,h r s' b⟩
theorem good_bind {w : World} {Q : Result → Shared → Prop} {α : Type} {s : Shared} {t : Sem α} {K : α → Sem Fin} {c : Code} {p : Pos} {st : List Frame}
    (h : wpAny (Md w) ((arOf st).under c) t (fun a s' => ∀ p',Good w Q s' ⟨K a,c,p',st⟩) (fun _ _ => False) s) : Good w Q s ⟨t >>= K,c,p,st⟩ := by
  have e : Ctx.of c st = (⟨c,none,none,[],none⟩ : Ctx).over st := by
    have := Ctx.of_append c st []
    rw [List.append_nil] at this
    exact this
  have h := h (Ctx.of c st) p (in_of c st)
  rw [e] at h
  have := runs_wrap_of_wp (fs := st) (Φ := fun e s' => ∃ r,e = .ret r ∧ leftWithCleanup s'.gens = false ∧ Q r s') K .raise id id t h
    (fun a p' s' g => by obtain ⟨r,s'',x,y⟩ := good_iff.mp (g p'); exact ⟨_,s'',x,r,rfl,y⟩)
    (fun a p' s' g => g.elim)
  refine xE2 this fun _ s'' hx => xA1 hx fun x hx => xE1 hx fun r hx => xA1 hx fun q4 y => ?_; clear hx; clear hx; clear hx; clear this; obtain rfl := q4
  have e2 : t.wrap K .raise id id = t >>= K := (Sem.bind_eq_wrap ..).symm
  rw [e2] at x
  exact good_iff.mpr ⟨r,s'',x,y⟩
theorem reach_bind {w : World} {α : Type} {s : Shared} {t : Sem α} {K : α → Sem Fin} {c : Code} {p : Pos} {st : List Frame} {R : α → Shared → Prop}
    (h : wpAny (Md w) ((arOf st).under c) t R (fun _ _ => False) s) : ∃ a s' p',R a s' ∧ ∀ Q,Good w Q s' ⟨K a,c,p',st⟩ → Good w Q s ⟨t >>= K,c,p,st⟩ := by
  apply Classical.byContradiction
  intro no
  have all : ∀ a s',R a s' → ∀ p',Good w (fun r s'' => ∃ Q : Result → Shared → Prop,Q r s'' ∧ ¬ Good w Q s ⟨t >>= K,c,p,st⟩) s' ⟨K a,c,p',st⟩ := by
    intro a s' hr p'
    have : ¬ ∀ Q,Good w Q s' ⟨K a,c,p',st⟩ → Good w Q s ⟨t >>= K,c,p,st⟩ := fun q => no ⟨a,s',p',hr,q⟩
    obtain ⟨Q,hQ⟩ := Classical.not_forall.mp this
    have g : Good w Q s' ⟨K a,c,p',st⟩ := Classical.byContradiction fun n => hQ fun g => (n g).elim
    have b : ¬ Good w Q s ⟨t >>= K,c,p,st⟩ := fun b => hQ fun _ => b
    exact g.mono fun r s'' q => ⟨Q,q,b⟩
  have g : Good w (fun r s'' => ∃ Q : Result → Shared → Prop,Q r s'' ∧ ¬ Good w Q s ⟨t >>= K,c,p,st⟩) s ⟨t >>= K,c,p,st⟩ :=
    good_bind (wpAny_mono h (fun a s' hr p' => all a s' hr p') fun _ _ x => x)
  refine xE3 g fun n r s'' hx => xA1 hx fun e hx => xE1 hx fun Q hx => xA1 hx fun q b => ?_; clear hx; clear hx; clear hx; clear g
  exact b ⟨n,r,s'',e,q⟩
theorem jB7 (w : World) : ∃ k1 k2 p1 p2 px pf p q,dropL 7 (jB w) = [.Return (some (.JoinedStr [.Constant (.str "(?s:") k1 p1,.FormattedValue (.Name "res" px) (-1) none pf,.Constant (.str ")\\Z") k2 p2] p)) q] := ⟨_,_,_,_,_,_,_,_,by rfl⟩
theorem tail_func (l : List Stmt) (env : Env) : tailT (.func l env) = (do match ← (execs l env).onRaise (leaving env) with | .ret v => ret v | _ => ret .none) := by
  unfold tailT
  rw [show den (.func l env) = denote table (.func l env) from (congrFun den_eq _).symm]
  rfl
noncomputable def txtJ (js : Str) : Str := Str.empty ++ ("(?s:" : Str) ++ js ++ (")\\Z" : Str)
theorem txtJ_len (js : Str) : (txtJ js).length = js.length + 7 := by
  unfold txtJ
  rw [strLen_append,strLen_append,strLen_append]
  have a : Str.empty.length = 0 := rfl
  have b : ("(?s:" : Str).length = 4 := by rfl
  have c : (")\\Z" : Str).length = 3 := by rfl
  lia
theorem reach_func {w : World} {s : Shared} {l : List Stmt} {env : Env} {c : Code} {p : Pos} {st : List Frame} {R : Value → Shared → Prop}
    (h : wpAny (Md w) ((arOf st).under c) (execs l env) (fun f s' => ∃ v,f = .ret v ∧ R v s') (fun _ _ => False) s) :
    ∃ v s' p',R v s' ∧ ∀ Z,Good w Z s' ⟨.pure (.done (.ret v)),c,p',st⟩ → Good w Z s ⟨tailT (.func l env),c,p,st⟩ := by
  rw [tail_func]
  have H : wpAny (Md w) ((arOf st).under c) ((execs l env).onRaise (leaving env)) (fun f s' => ∃ v,f = .ret v ∧ R v s') (fun _ _ => False) s :=
    wpAny_onRaise (wpAny_mono h (fun _ _ x => x) fun _ _ x => x.elim)
  refine xE3 (reach_bind (p := p) (K := fun f : Flow => (match f with | .ret v => ret v | _ => ret .none : Sem Fin)) H) fun f s' p' hxx => xA1 hxx fun q3 g => ?_; clear hxx; obtain ⟨v,rfl,r⟩ := q3
  exact ⟨v,s',p',r,g⟩
theorem j_fin {w : World} {N : Nat} {s : Shared} {c : Code} {p : Pos} {st : List Frame} {kt ut : Nat → Nat} {R S M jt it : Nat} {js : Str} {nn I : Int} (hN : s.heap.get? N = some (jFx w kt ut R S M js jt nn I it))
    (hjs : js.length + 7 ≤ sizeLine) : ∃ tk n p',∀ Z,Good w Z { s with toks := n } ⟨.pure (.done (.ret (.str (txtJ js) tk))),c,p',st⟩ → Good w Z s ⟨tailT (.func (dropL 7 (jB w)) (jE' w N)),c,p,st⟩ := by
  refine xE8 (jB7 w) fun k1 k2 p1 p2 px pf p0 q e => ?_
  have H : wpAny (Md w) ((arOf st).under c) (execs (dropL 7 (jB w)) (jE' w N)) (fun f s' => ∃ v,f = .ret v ∧ ∃ tk n,v = .str (txtJ js) tk ∧ s' = { s with toks := n }) (fun _ _ => False) s := by
    rw [e]
    refine wpAny_execs_cons ?_
    exact ret_fstr (y := js) (t := jt) (m := nsOf w.params [("inp",kt 0,.ref R),("STAR",kt 1,.ref S),("res",kt 2,.str js jt),("add",kt 3,.ref M),("n",kt 4,.int nn (ut 4)),("i",kt 5,.int I it)]) rfl rfl (by decide +kernel) (ns_fr hN) rfl (by show (txtJ js).length ≤ _; rw [txtJ_len]; exact hjs) fun tk n => ⟨_,rfl,tk,n,rfl,rfl⟩
  refine xE3 (reach_func (p := p) H) fun v s' p' hxx => xA1 hxx fun q3 g => ?_; clear hxx; obtain ⟨tk,n,rfl,rfl⟩ := q3
  exact ⟨tk,n,p',g⟩
theorem own_nodup {l : List (Nat × Obj)} {h : Heap} (a : ∀ y ∈ l,268 ≤ y.1 ∧ h.get? y.1 = some y.2) (b : (l.map (·.1)).Nodup) : OwnL 0 l h := by
  refine ⟨a,fun i j y z _ hij ei ej e => hij ?_⟩
  have hi := (List.getElem?_eq_some_iff.mp ei).1
  have hj := (List.getElem?_eq_some_iff.mp ej).1
  have e1 : (l.map (·.1))[i]? = some y.1 := by rw [List.getElem?_map,ei]; rfl
  have e2 : (l.map (·.1))[j]? = some z.1 := by rw [List.getElem?_map,ej]; rfl
  exact (List.getElem?_inj (by simpa using hi) b).mp (by rw [e1,e2,e])
theorem upd_mem {l : List (Nat × Obj)} {q : Nat} (h : updOf 0 l q) : q ∈ l.map (·.1) := by
  refine xE2 h fun i y hxx => xA2 hxx fun _ e q4 => ?_; clear hxx; clear h; obtain rfl := q4
  exact List.mem_map.mpr ⟨y,List.mem_of_getElem? e,rfl⟩
structure JState (w : World) (N R S Q M ep : Nat) (nn I : Int) (rs qs : Array Value) (s : Shared) : Prop where
  inv : Inv w s
  fr : ∃ kt ut it,s.heap.get? N = some (jF w kt ut R S Q M nn I it)
  li : s.heap.get? R = some (Lo rs ep)
  qi : ∃ ep,s.heap.get? Q = some (Lo qs ep)
  m : s.heap.get? M = some (tM Q)
  a : 268 ≤ N ∧ 268 ≤ R ∧ 268 ≤ Q ∧ 268 ≤ M
  nd : [N,R,Q,M].Nodup
theorem JState.own {w : World} {N R S Q M ep : Nat} {nn I : Int} {rs qs : Array Value} {s : Shared} (P : JState w N R S Q M ep nn I rs qs s) {o1 o2 o3 o4 : Obj}
    (h1 : s.heap.get? N = some o1) (h2 : s.heap.get? R = some o2) (h3 : s.heap.get? Q = some o3) (h4 : s.heap.get? M = some o4) : OwnL 0 [(N,o1),(R,o2),(Q,o3),(M,o4)] s.heap := by
  obtain ⟨a1,a2,a3,a4⟩ := P.a
  exact own_nodup (by simp only [List.forall_mem_cons]; exact ⟨⟨a1,h1⟩,⟨a2,h2⟩,⟨a3,h3⟩,⟨a4,h4⟩,fun _ h => nomatch h⟩) P.nd
noncomputable def updJ (N R Q M b : Nat) : Prop := b ∈ [N,R,Q,M]
theorem Ext.refl {w : World} {u : Nat → Prop} {s : Shared} (I : Inv w s) : Ext u s s := ⟨fun _ _ h _ => h,Nat.le_refl _,I.gens,rfl,rfl,rfl⟩
section
variable {w : World} {cx : Cx} (hx : cx.dl = true) {N7 N R S Q M ep : Nat} {nn : Int} {rs : Array Value} {kk k71 k : Result → Sem Fin} {g : Bool} {lv : List Value} {rest : List Frame} (U : Und rest cx.sw)
include hx U
theorem j_turn {s : Shared} {qs : Array Value} {I : Int} {i : Nat} {v : Value} {y : Str} (P : JState w N R S Q M ep nn I rs qs s) (hI : I = i) (hlt : I < nn) (hi : i < 2 ^ 62) (hv : rs[i]? = some v) (hy : strip0 v = .s y) (hq : qs.size ≤ sizeLine) (pp : Pos) :
    ∃ s' pp',JState w N R S Q M ep nn (I + 1) rs (qs.push v) s' ∧ Ext (updJ N R Q M) s s' ∧
      ∀ Z,Good w Z s' ⟨den (jW w N),jW w N,pp',jS w N kk (tR w cx k g lv rest k71 p26 N7)⟩ → Good w Z s ⟨den (jW w N),jW w N,pp,jS w N kk (tR w cx k g lv rest k71 p26 N7)⟩ := by
  refine gv fun GG hGG => ?_
  have P0 := P
  obtain ⟨inv,⟨kt,ut,it,hN⟩,hR,⟨epQ,hQ⟩,hM,aa,nd⟩ := P
  obtain ⟨t,rfl⟩ := strip_s hy
  have U2 := ((U.cons k g lv cx.c cx.p).cons k71 false [mkV] (f71 w N7) p26).cons kk false [] (.func (jB w) (jE' w N)) (jP w)
  refine segE inv (P0.own hN hR hQ hM) (p := pp) U2.w (hd := [none,none]) ⟨U.h,U.h,trivial⟩ (ch := []) (fun a vs e => (chNil e).elim)
    (jT_end w s.heap.objs.size s.toks s.gens.size R S ep rs nn pp N Q M epQ it kt ut qs I y t kk (tR w cx k g lv rest k71 p26 N7) (sw71 w cx N7 p26))
    (by
      subst hI
      have gl : OEk w (oeH "list.__getitem__" [.r R,.i (i : Int)] [(1,R,Lo rs ep)] (fun _ _ _ => .str y t) 0) := oeGetL (by lia) (by lia) (by rw [Int.toNat_natCast]; exact hv)
      simp only [List.forall_mem_cons]
      exact ⟨lt_ok (by simpa using hlt),gl,gl,oeApp_ok hq,fun _ h => nomatch h⟩) glNil fun s' X ob tk' sz' gz' tb G => ?_
  have X' : Ext (updJ N R Q M) s s' := X.mono fun q hq => by
    rcases hq with hq | ⟨vs,e⟩
    · exact upd_mem hq
    · exact (chNil e).elim
  refine hGG (yE2 s' _ ⟨⟨X'.inv inv fun q hq => ?_,⟨_,_,_,ob (N,_) (.head _)⟩,ob (R,_) (.tail _ (.head _)),⟨_,ob (Q,_) (.tail _ (.tail _ (.head _)))⟩,ob (M,_) (.tail _ (.tail _ (.tail _ (.head _)))),aa,nd⟩,X',G⟩)
  obtain ⟨a1,a2,a3,a4⟩ := aa
  unfold updJ at hq
  simp only [List.mem_cons,List.not_mem_nil,or_false] at hq
  rcases hq with rfl | rfl | rfl | rfl
  · exact .inl a1
  · exact .inl a2
  · exact .inl a3
  · exact .inl a4
theorem j_loop (hn : nn = rs.size) (hs : rs.size ≤ 1000) (hstr : ∀ v ∈ rs.toList,∃ y,strip0 v = .s y) : ∀ (m : Nat) {i : Nat},i + m = rs.size → ∀ {s : Shared},JState w N R S Q M ep nn i rs (rs.extract 0 i) s → ∀ pp,
    ∃ s' pp',JState w N R S Q M ep nn nn rs rs s' ∧ Ext (updJ N R Q M) s s' ∧
      ∀ Z,Good w Z s' ⟨den (jW w N),jW w N,pp',jS w N kk (tR w cx k g lv rest k71 p26 N7)⟩ → Good w Z s ⟨den (jW w N),jW w N,pp,jS w N kk (tR w cx k g lv rest k71 p26 N7)⟩
  | 0,i,e,s,P,pp => by
    have : i = rs.size := by lia
    subst this
    rw [Array.extract_size] at P
    refine ⟨s,pp,by rw [← hn] at P; exact P,Ext.refl P.inv,fun Z q => q⟩
  | m + 1,i,e,s,P,pp => by
    have lt : i < rs.size := by lia
    obtain ⟨y,hy⟩ := hstr rs[i] (by simp)
    refine xE2 (j_turn hx U (N7 := N7) (kk := kk) (k71 := k71) (k := k) (g := g) (lv := lv) P rfl (by rw [hn]; lia) (by lia) (Array.getElem?_eq_getElem lt) hy (by rw [Array.size_extract]; show _ ≤ 2 ^ 24; lia) pp) fun s1 pp1 hxx => xA2 hxx fun P1 X1 G1 => ?_; clear hxx
    have e2 : (rs.extract 0 i).push rs[i] = rs.extract 0 (i + 1) := by
      rw [Array.push_extract_getElem lt,Nat.min_eq_left (Nat.zero_le _)]
    rw [e2] at P1
    refine xE2 (j_loop hn hs hstr m (i := i + 1) (by lia) (by rw [show ((i + 1 : Nat) : Int) = (i : Int) + 1 by lia]; exact P1) pp1) fun s2 pp2 hxx => xA2 hxx fun P2 X2 G2 => ?_; clear hxx
    exact ⟨s2,pp2,P2,(X1.trans X2).mono (fun b h => h.elim id id),fun Z q => G1 Z (G2 Z q)⟩
end
theorem own1 {a : Nat} {o : Obj} {h : Heap} {ro : Nat} (aR : 268 ≤ a) (hR : h.get? a = some o) : OwnL ro [(a,o)] h := by
  refine ⟨fun y hy => ?_,fun i j y z _ hij ei ej => ?_⟩
  · rcases List.mem_cons.mp hy with rfl | hy
    · exact ⟨aR,hR⟩
    · cases hy
  · match i,j with
    | 0,0 => exact absurd rfl hij
    | _ + 1,_ => cases ei
    | 0,_ + 1 => cases ej
theorem upd1 {a : Nat} {o : Obj} {q : Nat} (h : updOf 1 [(a,o)] q) : False := by
  refine xE2 h fun i y hxx => xA2 hxx fun hi e _ => ?_; clear hxx; clear h
  match i with
  | 0 => lia
  | _ + 1 => cases e
theorem nd4 {R z : Nat} (h : R < z) : [z,R,z + 1,z + 2].Nodup := by
  have a : z ≠ R := by lia
  have b : R ≠ z + 1 := by lia
  have c : R ≠ z + 2 := by lia
  simp [a,b,c]
theorem good_ret {w : World} {Z : Result → Shared → Prop} {s : Shared} {k : Result → Sem Fin} {h : Option Value} {g : Bool} {l : List Value} {c c1 : Code} {p p1 : Pos} {rest : List Frame} {v : Value}
    (q : Good w Z s ⟨k (.ok (.ret v)),c1,p1,rest⟩) : Good w Z s ⟨.pure (.done (.ret v)),c,p,.ret k h g l c1 p1 [] :: rest⟩ :=
  Good.back (s' := s) (step_leaf_ret (M := Md w) s _ _ rest (.ok (.ret v)) k h g l c1 p1 []) q
theorem updJ_new {z R b : Nat} (h : updJ z R (z + 1) (z + 2) b) (lt : b < z) (nb : b ≠ R) : False := by
  unfold updJ at h
  simp only [List.mem_cons,List.not_mem_nil,or_false] at h
  lia
section
variable {w : World} {cx : Cx} (hx : cx.dl = true) {N7 R S : Nat} {rs : Array Value} {k71 k : Result → Sem Fin} {g : Bool} {lv : List Value} {rest : List Frame} (U : Und rest cx.sw)
include hx U
theorem join_plain {s : Shared} {ep : Nat} {ys : List Str} (I : Inv w s) (aR : 268 ≤ R) (hR : s.heap.get? R = some (Lo rs ep)) (hs : rs.size ≤ 1000) (hv : rs.toList.map strip0 = ys.map .s)
    (hl : Builtin.Str.tooLong (ys.toArray.foldl (· + ·.length + Str.empty.length) 0) = false) (hl2 : (Builtin.Str.glued Str.empty ys).length + 7 ≤ sizeLine) (pp : Pos) :
    ∃ s' tk,Ext (fun b => b = R) s s' ∧ ∀ Z,Good w Z s' ⟨k71 (.ok (.ret (.str (txtJ (Builtin.Str.glued Str.empty ys)) tk))),f71 w N7,p26,.ret k none g lv cx.c cx.p [] :: rest⟩ →
      Good w Z s ⟨den (jCall R S),jCall R S,pp,tR w cx k g lv rest k71 p26 N7⟩ := by
  refine gv fun GG hGG => ?_
  have U1 := (U.cons k g lv cx.c cx.p).cons k71 false [mkV] (f71 w N7) p26
  have lo := I.lo
  have ltR := Heap.lt_size hR
  refine segE I (own1 (ro := 1) aR hR) (p := pp) U1.w (hd := [none,none,none]) ⟨U.h,U.h,U.h,trivial⟩ (ch := []) (fun a vs e => (chNil e).elim)
    (jA_end w cx N7 s.heap.objs.size s.toks s.gens.size R S ep rs rs.size k k71 g lv pp rest hx)
    (by
      simp only [List.forall_mem_cons]
      exact ⟨oeLenL2 rfl (by lia),fun _ h => nomatch h⟩) glNil fun s1 X1 ob etk esz egz tb G1 => ?_
  have X1' : Ext (fun b => b = R) s s1 := X1.mono fun q hq => by
    rcases hq with hq | ⟨vs,e⟩
    · exact (upd1 hq).elim
    · exact (chNil e).elim
  have P1 : JState w s.heap.objs.size R S (s.heap.objs.size + 1) (s.heap.objs.size + 2) ep rs.size 0 rs #[] s1 := by
    refine ⟨X1'.inv I fun q hq => ?_,⟨ktJ s.toks,fun _ => s.toks + 7,s.toks + 5,ob (s.heap.objs.size,_) (.tail _ (.head _))⟩,ob (R,_) (.head _),⟨_,ob (s.heap.objs.size + 1,_) (.tail _ (.tail _ (.head _)))⟩,ob (s.heap.objs.size + 2,_) (.tail _ (.tail _ (.tail _ (.head _)))),⟨lo,aR,by lia,by lia⟩,?_⟩
    · subst hq; exact .inl aR
    · exact nd4 ltR
  have hstr : ∀ v ∈ rs.toList,∃ y,strip0 v = .s y := by
    intro v hvm
    have : strip0 v ∈ ys.map V0.s := by rw [← hv]; exact List.mem_map_of_mem hvm
    obtain ⟨y,_,e⟩ := List.mem_map.mp this
    exact ⟨y,e.symm⟩
  refine xE2 (j_loop hx U (N7 := N7) (kk := kOf (jAo w cx N7 s.heap.objs.size s.toks s.gens.size R S ep rs rs.size k k71 g lv pp rest)) (k71 := k71) (k := k) (g := g) (lv := lv) rfl hs hstr rs.size (i := 0) (by lia)
    (by rw [show rs.extract 0 0 = #[] by simp]; exact P1) (jP w)) fun s2 pp2 hxx => xA2 hxx fun P2 X2 G2 => ?_; clear hxx
  obtain ⟨inv2,⟨kt,ut,it,hN⟩,hR2,⟨epQ,hQ⟩,hM,aa,nd⟩ := id P2
  obtain ⟨tfj,dj,hJ⟩ := oeJoinT (w := w) (x := Str.empty) (a := s.heap.objs.size + 1) (idx := 2) (n := epQ) hv hl (by lia)
  have HX := jX_end w cx N7 s.heap.objs.size s.toks s.gens.size R S ep rs rs.size k k71 g lv pp rest (s.heap.objs.size + 1) (s.heap.objs.size + 2) epQ it s2.heap.objs.size s2.toks s2.gens.size kt ut rs rs.size (Builtin.Str.glued Str.empty ys) tfj dj pp2 hx
  unfold jX at HX
  have l1 : OEk w (ltO (rs.size : Int) rs.size false) := lt_ok (by simp)
  have e1 : OEk w (oeP "int.__eq__" [.i (rs.size : Int),.i rs.size] (fun _ => .bool true) 0) := oeEq (by simp)
  have h4 : ∀ y ∈ ([(0,ltO (rs.size : Int) rs.size false),(1,ltO (rs.size : Int) rs.size false),(2,oeP "int.__eq__" [.i (rs.size : Int),.i rs.size] (fun _ => .bool true) 0),(3,oeSt "str.join" [.s Str.empty,.r (s.heap.objs.size + 1)] [(2,s.heap.objs.size + 1,Lo rs epQ)] (Builtin.Str.glued Str.empty ys) tfj dj)] : List (Nat × OE)),OEk w y.2 := by
    simp only [List.forall_mem_cons]
    exact ⟨l1,l1,e1,hJ,fun _ h => nomatch h⟩
  refine segEp inv2 (P2.own hN hR2 hQ hM) (p := pp2) ((U1.cons (kOf (jAo w cx N7 s.heap.objs.size s.toks s.gens.size R S ep rs rs.size k k71 g lv pp rest)) false [] (.func (jB w) (jE' w s.heap.objs.size)) (jP w)).w) (hd := [none,none,none]) ⟨U.h,U.h,U.h,trivial⟩ (ch := []) (fun a vs e => (chNil e).elim) HX h4 glNil fun s3 pz1 X3 ob3 etk3 esz3 egz3 tb3 G3 => ?_
  obtain ⟨tk,n,p4,G4⟩ := j_fin (ob3 (_,_) (.head _)) (by lia)
  have X3' : Ext (updJ s.heap.objs.size R (s.heap.objs.size + 1) (s.heap.objs.size + 2)) s2 s3 := X3.mono fun q hq => by
    rcases hq with hq | ⟨vs,e⟩
    · exact upd_mem hq
    · exact (chNil e).elim
  have X4 : Ext (updJ s.heap.objs.size R (s.heap.objs.size + 1) (s.heap.objs.size + 2)) s1 { s3 with toks := n } := by
    have := (X2.trans X3').mono (v := updJ s.heap.objs.size R (s.heap.objs.size + 1) (s.heap.objs.size + 2)) (fun b h => h.elim id id)
    exact ⟨this.keep,this.size,this.gens,this.os,this.drawn,this.life⟩
  refine hGG (yE2 ({ s3 with toks := n }) tk ⟨?_,fun Z q => G1 Z (G2 Z (G3 Z (G4 Z ?_)))⟩)
  · refine ⟨fun b o e nb => X4.keep b o (X1.keep b o e fun hq => ?_) fun hq => ?_,Nat.le_trans X1.size X4.size,X4.gens,X4.os.trans X1.os,X4.drawn.trans X1.drawn,X4.life.trans X1.life⟩
    · rcases hq with hq | ⟨vs,e⟩
      · exact upd1 hq
      · exact chNil e
    · exact updJ_new hq (Heap.lt_size e) nb
  · exact good_ret q
end
section
open Builtin Builtin.Str in
theorem slG {w : World} {x : Str} {l u : Option (Int × Tok)} {i a m c : Nat} {z : Str} (hp0 : slicePicked x l u none = (List.range m).map (c + ·)) (h3 : m < x.length) (h4 : m ≤ sizeLine) (hz : (x.cps.toList.drop c).take m = z.cps.toList) : OEk w (oeSlS x i a l u z (fun tk _ => tk) 1) := by
  refine oe_meets (b := «str.__getitem__») rfl (by decide +kernel) (entryFor_of_tree (by kernel_rfl)) fun s pos hp hn _ => ?_
  refine xE2 (args2 hp) fun p q' hxx => xA2 hxx fun q2 e1 e2 => ?_; clear hxx; obtain rfl := q2; obtain ⟨t,rfl⟩ := strip_s e1; obtain rfl := strip_r e2
  refine ⟨_,meets_str_getitem_slice x t a l u none rfl,fun A R r => ⟨⟨_,hn _ (.head _),rfl,rfl⟩,?_⟩⟩
  have e : sliceMade x t l u none = .str z := by
    unfold sliceMade
    rw [hp0,if_neg (by simp; lia),pick_run,hz]
  rw [e]
  refine ⟨?_,r⟩
  have := congrArg List.length hz
  have e3 : z.length = z.cps.toList.length := by show z.cps.size = _; simp
  rw [e3,← this]
  simp only [List.length_take]
  lia
theorem picked_head {x : Str} {u : Nat} {ut : Tok} (h2 : u ≤ x.length) : slicePicked x none (some ((u : Int),ut)) none = (List.range u).map (0 + ·) := by
  unfold slicePicked Builtin.Str.strSliceIndices
  have a2 : ¬ ((u : Int) < 0) := by lia
  simp only [Option.map_some,Option.map_none,Option.getD_none,a2,if_false,show (1 : Int) > 0 by decide,if_true]
  have e2 : max 0 (min (u : Int) (x.length : Int)) = (u : Int) := by lia
  rw [e2]
  exact sliceRange_one 0 u
theorem picked_tail {x : Str} {u : Nat} {ut : Tok} (h0 : 0 < u) (h2 : u ≤ x.length) : slicePicked x (some (-(u : Int),ut)) none none = (List.range u).map ((x.length - u) + ·) := by
  unfold slicePicked Builtin.Str.strSliceIndices
  have a2 : (-(u : Int) < 0) := by lia
  simp only [Option.map_some,Option.map_none,Option.getD_none,a2,if_true,show (1 : Int) > 0 by decide]
  have e2 : max 0 (min (-(u : Int) + (x.length : Int)) (x.length : Int)) = ((x.length - u : Nat) : Int) := by lia
  rw [e2,sliceRange_one,show x.length - (x.length - u) = u by lia]
noncomputable def Tk.kd : Tk → Nat
  | .s 0 => 0
  | .s _ => 1
  | .br false _ _ => 2
  | .br true _ _ => 3
noncomputable def Tk.a : Tk → Nat
  | .br _ a _ => a
  | _ => 0
noncomputable def Tk.b : Tk → Nat
  | .br _ _ b => b
  | _ => 0
noncomputable def Tk.item : Tk → Nat × Nat × Bool
  | .s 0 => (48,48,false)
  | .s _ => (48,57,false)
  | .br false _ b => (48,b,false)
  | .br true a b => (a,b,true)
noncomputable def Tk.cs : Tk → List Nat
  | .s 0 => [48]
  | .s _ => [46]
  | .br false _ b => [91,48,45,b,93]
  | .br true a b => [91,94,a,45,b,93]
theorem Tk.four {P : Tk → Prop} (h0 : P (.s 0)) (h1 : ∀ k,P (.s (k + 1))) (h2 : ∀ a b,P (.br false a b)) (h3 : ∀ a b,P (.br true a b)) : ∀ t,P t
  | .s 0 => h0
  | .s (k + 1) => h1 k
  | .br false a b => h2 a b
  | .br true a b => h3 a b
theorem Tk.pos : ∀ t : Tk,0 < t.cs.length := Tk.four (by decide) (fun _ => by simp [Tk.cs]) (fun _ _ => by simp [Tk.cs]) fun _ _ => by simp [Tk.cs]
theorem Tk.kd_mem {sh : Nat} (hs : sh = 0 ∨ sh = 1) : ∀ t : Tk,(t.kd,sh) ∈ [(0,0),(0,1),(1,0),(1,1),(2,0),(2,1),(3,0),(3,1)] := by
  rcases hs with rfl | rfl <;> exact Tk.four (by simp [Tk.kd]) (fun _ => by simp [Tk.kd]) (fun _ _ => by simp [Tk.kd]) fun _ _ => by simp [Tk.kd]
theorem Tk.iI_eq (I : Int) : ∀ t : Tk,iI t.kd I = I + (t.cs.length : Nat) := Tk.four rfl (fun _ => rfl) (fun _ _ => by simp [Tk.kd,iI,Tk.cs]; lia) fun _ _ => by simp [Tk.kd,iI,Tk.cs]; lia
theorem Tk.iTup_eq (tk : Nat) : ∀ t : Tk,∃ t1 t2,iTup t.kd t.a t.b tk = Tup [.str ⟨#[t.item.1]⟩ t1,.str ⟨#[t.item.2.1]⟩ t2,.bool t.item.2.2] := Tk.four ⟨_,_,rfl⟩ (fun _ => ⟨_,_,rfl⟩) (fun _ _ => ⟨_,_,rfl⟩) fun _ _ => ⟨_,_,rfl⟩
theorem Tk.iSh_ok {sh : Nat} (hs : sh = 0 ∨ sh = 1) : ∀ t : Tk,iSh t.kd sh = 0 ∨ iSh t.kd sh = 1 := Tk.four hs (fun _ => hs) (fun _ _ => .inr rfl) fun _ _ => .inr rfl
theorem Tk.iOs_ok {w : World} {Li ep sz : Nat} {x : Str} {vs : Array Value} {pre post : List Nat} (hlen : OEk w (oeLenV (.s x) [] (x.length : Nat))) (hlt : OEk w (ltO (pre.length : Nat) ((x.length : Nat) - 3) true)) : ∀ t : Tk,
    (∀ (K : Int) (j c : Nat),K = ((pre.length + j : Nat) : Int) → (t.cs ++ post)[j]? = some c → OEk w (gtO x K c)) → OEk w (oeApp 1 Li vs ep (.r sz)) → ∀ y ∈ iOs t.kd x (pre.length : Nat) (x.length : Nat) t.a t.b Li ep sz vs,OEk w y :=
  Tk.four (fun gt hap => by simp only [Tk.kd,iOs,List.forall_mem_cons]; exact ⟨hlen,hlt,gt _ 0 _ rfl rfl,gt _ 0 _ rfl rfl,hap,fun _ h => nomatch h⟩)
    (fun _ gt hap => by simp only [Tk.kd,iOs,List.forall_mem_cons]; exact ⟨hlen,hlt,gt _ 0 _ rfl rfl,gt _ 0 _ rfl rfl,gt _ 0 _ rfl rfl,hap,fun _ h => nomatch h⟩)
    (fun _ _ gt hap => by simp only [Tk.kd,iOs,List.forall_mem_cons]; exact ⟨hlen,hlt,gt _ 0 _ rfl rfl,gt _ 1 _ rfl rfl,gt _ 2 _ (by lia) rfl,gt _ 4 _ (by lia) rfl,gt _ 1 _ rfl rfl,gt _ 3 _ (by lia) rfl,hap,fun _ h => nomatch h⟩)
    fun _ _ gt hap => by simp only [Tk.kd,iOs,List.forall_mem_cons]; exact ⟨hlen,hlt,gt _ 0 _ rfl rfl,gt _ 1 _ rfl rfl,gt _ 3 _ (by lia) rfl,gt _ 5 _ (by lia) rfl,gt _ 2 _ rfl rfl,gt _ 4 _ (by lia) rfl,hap,fun _ h => nomatch h⟩
noncomputable def ItemAt (Li : Nat) (s : Shared) (v : Value) (it : Nat × Nat × Bool) : Prop := ∃ A t1 t2,Li < A ∧ v = .ref A ∧ s.heap.get? A = some (Tup [.str ⟨#[it.1]⟩ t1,.str ⟨#[it.2.1]⟩ t2,.bool it.2.2])
inductive ItemsAt (Li : Nat) (s : Shared) : List Value → List (Nat × Nat × Bool) → Prop
  | nil : ItemsAt Li s [] []
  | cons {v : Value} {it : Nat × Nat × Bool} {l : List Value} {its : List (Nat × Nat × Bool)} : ItemAt Li s v it → ItemsAt Li s l its → ItemsAt Li s (v :: l) (it :: its)
theorem ItemsAt.keep {Li : Nat} {s s' : Shared} {u : Nat → Prop} (X : Ext u s s') (hu : ∀ b,u b → b ≤ Li) {l : List Value} {its : List (Nat × Nat × Bool)} (h : ItemsAt Li s l its) : ItemsAt Li s' l its := by
  induction h with
  | nil => exact .nil
  | cons h _ ih =>
    refine xE3 h fun A t1 t2 hxx => xA2 hxx fun a b c => ?_; clear hxx; clear h
    exact .cons ⟨A,t1,t2,a,b,X.keep A _ c fun q => by have := hu A q; lia⟩ ih
theorem ItemsAt.snoc {Li : Nat} {s : Shared} {l : List Value} {its : List (Nat × Nat × Bool)} {v : Value} {it : Nat × Nat × Bool} (h : ItemsAt Li s l its) (hv : ItemAt Li s v it) : ItemsAt Li s (l ++ [v]) (its ++ [it]) := by
  induction h with
  | nil => exact .cons hv .nil
  | cons h _ ih => exact .cons h ih
structure IState (w : World) (N Li sh : Nat) (x : Str) (star : Bool) (I : Int) (vs : Array Value) (its : List (Nat × Nat × Bool)) (s : Shared) : Prop where
  inv : Inv w s
  fr : ∃ kt ut it br,s.heap.get? N = some (iF w sh kt ut x Li star I it br)
  li : ∃ ep,s.heap.get? Li = some (Lo vs ep)
  aN : 268 ≤ N
  lt : N < Li
  items : ItemsAt Li s vs.toList its
  hs : sh = 0 ∨ sh = 1
section
variable {w : World} {cx : Cx} {N Li : Nat} {x : Str} {star : Bool} {kk : Result → Sem Fin} {rest : List Frame} {sw : List (Code × Pos)} (U : Und rest sw)
include U
theorem i_turn {s : Shared} {sh : Nat} {I : Int} {vs : Array Value} {its : List (Nat × Nat × Bool)} {t : Tk} {pre post : List Nat} (P : IState w N Li sh x star I vs its s)
    (hx : x.cps.toList = pre ++ (t.cs ++ post)) (hI : I = (pre.length : Nat)) (hp : 3 ≤ post.length) (hsz : x.length ≤ 2 ^ 24) (hv : vs.size ≤ sizeLine) (pp : Pos) :
    ∃ s' sh' v pp',IState w N Li sh' x star (I + (t.cs.length : Nat)) (vs.push v) (its ++ [t.item]) s' ∧ Ext (fun b => b = N ∨ b = Li) s s' ∧
      ∀ Z,Good w Z s' ⟨den (iW w N),iW w N,pp',iS w N kk rest⟩ → Good w Z s ⟨den (iW w N),iW w N,pp,iS w N kk rest⟩ := by
  refine gv fun GG hGG => ?_
  obtain ⟨inv,⟨kt,ut,it,br,hN⟩,⟨ep,hL⟩,aN,lt,items,hs⟩ := P
  have ltL : Li < s.heap.objs.size := Heap.lt_size hL
  have len : x.length = pre.length + t.cs.length + post.length := by
    have := congrArg List.length hx
    rw [Array.length_toList] at this
    show x.cps.size = _
    rw [this]; simp; lia
  have g : ∀ j,x.cps.toList[pre.length + j]? = (t.cs ++ post)[j]? := fun j => by rw [hx]; exact get_pre j _ pre
  have U2 := U.cons kk false [] (.func (iB w) (iE w N)) (iP w)
  have gt : ∀ (K : Int) (j c : Nat),K = ((pre.length + j : Nat) : Int) → (t.cs ++ post)[j]? = some c → OEk w (gtO x K c) := fun K j c hK h => gt_ok hK hsz (by rw [g]; exact h)
  have hlen : OEk w (oeLenV (.s x) [] (x.length : Nat)) := oeLenS2 rfl (by lia)
  have hap : OEk w (oeApp 1 Li vs ep (.r s.heap.objs.size)) := oeApp_ok hv
  have hO : ∀ y ∈ zipE (iEv t.kd) (iOs t.kd x I (x.length : Nat) t.a t.b Li ep s.heap.objs.size vs),OEk w y.2 := by
    refine zipE_ok _ _ ?_
    subst hI
    have hlt : OEk w (ltO (pre.length : Nat) ((x.length : Nat) - 3) true) := lt_ok (by have := t.pos; simp; lia)
    exact t.iOs_ok hlen hlt gt hap
  have hkd := t.kd_mem hs
  have HT := iT_end w s.heap.objs.size s.toks s.gens.size x star pp rest N Li ep it ut kt I (x.length : Nat) vs br kk sw t.a t.b t.kd sh hkd
  unfold ITEnd iT at HT
  refine segE inv (two_own aN (Nat.le_trans aN (Nat.le_of_lt lt)) hN hL (Nat.ne_of_lt lt)) (p := pp) U2.w (hd := [none,none]) ⟨U.h,U.h,trivial⟩ (ch := []) (fun a vs e => (chNil e).elim) HT hO glNil fun s' X ob tk' sz' gz' tb G => ?_
  have X' : Ext (fun b => b = N ∨ b = Li) s s' := X.mono fun q hq => by
    rcases hq with hq | ⟨vs,e⟩
    · exact updOf_two hq
    · exact (chNil e).elim
  have hT := ob (s.heap.objs.size,_) (.tail _ (.tail _ (.head _)))
  have eI := t.iI_eq I
  obtain ⟨t1,t2,eT⟩ := t.iTup_eq s.toks
  have hN' := ob (N,_) (.head _)
  rw [eI] at hN'
  refine hGG (yE4 s' (iSh t.kd sh) (.ref s.heap.objs.size) _ ⟨⟨X'.inv inv fun q hq => ?_,⟨_,_,_,_,hN'⟩,⟨ep + 1,ob (Li,_) (.tail _ (.head _))⟩,aN,lt,?_,?_⟩,X',G⟩)
  · rcases hq with rfl | rfl
    · exact .inl aN
    · exact .inl (Nat.le_trans aN (Nat.le_of_lt lt))
  · rw [Array.toList_push]
    refine (items.keep X' fun b hb => ?_).snoc ⟨s.heap.objs.size,t1,t2,ltL,rfl,by rw [← eT]; exact hT⟩
    rcases hb with rfl | rfl
    · exact Nat.le_of_lt lt
    · exact Nat.le_refl _
  · exact t.iSh_ok hs
theorem i_loop : ∀ (ts : List Tk) {s : Shared} {sh : Nat} {I : Int} {vs : Array Value} {its : List (Nat × Nat × Bool)} {pre post : List Nat},IState w N Li sh x star I vs its s →
    x.cps.toList = pre ++ (ts.flatMap Tk.cs ++ post) → I = (pre.length : Nat) → post.length = 3 → x.length ≤ 2 ^ 24 → vs.size + ts.length ≤ sizeLine → ∀ pp : Pos,
    ∃ s' sh' vs' pp',IState w N Li sh' x star ((x.length : Nat) - 3) vs' (its ++ ts.map Tk.item) s' ∧ Ext (fun b => b = N ∨ b = Li) s s' ∧
      ∀ Z,Good w Z s' ⟨den (iW w N),iW w N,pp',iS w N kk rest⟩ → Good w Z s ⟨den (iW w N),iW w N,pp,iS w N kk rest⟩
  | [],s,sh,I,vs,its,pre,post,P,hx,hI,hp,hsz,hv,pp => by
    have e : I = (x.length : Nat) - 3 := by
      have := congrArg List.length hx
      rw [Array.length_toList] at this
      have e : x.length = x.cps.size := rfl
      simp at this
      lia
    rw [← e]
    exact ⟨s,sh,vs,pp,by simpa using P,Ext.refl P.inv,fun Z q => q⟩
  | t :: ts,s,sh,I,vs,its,pre,post,P,hx,hI,hp,hsz,hv,pp => by
    simp only [List.length_cons] at hv
    refine xE4 (i_turn U (kk := kk) (t := t) (pre := pre) (post := ts.flatMap Tk.cs ++ post) P (by rw [hx,List.flatMap_cons,List.append_assoc]) hI (by simp; lia) hsz (by lia) pp) fun s1 sh1 v pp1 hxx => xA2 hxx fun P1 X1 G1 => ?_; clear hxx
    refine xE4 (i_loop ts (pre := pre ++ t.cs) P1 (by rw [hx,List.flatMap_cons]; simp) (by rw [hI]; simp) hp hsz (by rw [Array.size_push]; lia) pp1) fun s2 sh2 vs2 pp2 hxx => xA2 hxx fun P2 X2 G2 => ?_; clear hxx
    refine ⟨s2,sh2,vs2,pp2,by simpa using P2,(X1.trans X2).mono (fun b h => h.elim id id),fun Z q => G1 Z (G2 Z q)⟩
end
end
noncomputable def starC (star : Bool) : List Nat := if star then [42] else []
noncomputable def starP (star : Bool) : List Nat := if star then [46,42] else []
theorem cs_ne (t : Tk) : ∃ c l,t.cs = c :: l ∧ (∀ d m,l = d :: m → d ≠ 42) := by
  match t with
  | .s 0 => exact ⟨_,_,rfl,fun d m h => nomatch h⟩
  | .s (_ + 1) => exact ⟨_,_,rfl,fun d m h => nomatch h⟩
  | .br false _ _ => exact ⟨_,_,rfl,fun d m h => by cases h; decide⟩
  | .br true _ _ => exact ⟨_,_,rfl,fun d m h => by cases h; decide⟩
theorem cs_hd (t : Tk) : ∃ c l,t.cs = c :: l ∧ c ≠ 42 := by
  match t with
  | .s 0 => exact ⟨_,_,rfl,by decide⟩
  | .s (_ + 1) => exact ⟨_,_,rfl,by decide⟩
  | .br false _ _ => exact ⟨_,_,rfl,by decide⟩
  | .br true _ _ => exact ⟨_,_,rfl,by decide⟩
theorem two_chars (ts : List Tk) : ∃ c d l,ts.flatMap Tk.cs ++ [41,92,90] = c :: d :: l ∧ d ≠ 42 := by
  match ts with
  | [] => exact ⟨_,_,_,rfl,by decide⟩
  | t :: ts =>
    obtain ⟨c,l,e,h⟩ := cs_ne t
    rw [List.flatMap_cons,e]
    match l with
    | d :: m => exact ⟨c,d,_,rfl,h d m rfl⟩
    | [] =>
      match ts with
      | [] => exact ⟨c,41,_,rfl,by decide⟩
      | t2 :: ts =>
        obtain ⟨c2,l2,e2,h2⟩ := cs_hd t2
        rw [List.flatMap_cons,e2]
        exact ⟨c,c2,_,rfl,h2⟩
section
variable {w : World} {cx : Cx} (hx : cx.dl = true) {k : Result → Sem Fin} {g : Bool} {lv : List Value} {rest : List Frame} (U : Und rest cx.sw)
include hx U
theorem i_call {s : Shared} {x : Str} {t1 : Nat} {star : Bool} {ts : List Tk} (I : Inv w s) (hxx : x.cps.toList = [40,63,115,58] ++ (starP star ++ (ts.flatMap Tk.cs ++ [41,92,90]))) (hl : ts.length ≤ 1000) (hsz : x.length ≤ 2 ^ 24) (pp : Pos) :
    ∃ s' T Li ep vs,Ext (fun _ => False) s s' ∧ s.heap.objs.size ≤ Li ∧ s'.heap.get? Li = some (Lo vs ep) ∧ Li < T ∧ s'.heap.get? T = some (Tup [.bool star,.ref Li]) ∧ ItemsAt Li s' vs.toList (ts.map Tk.item) ∧
      ∀ Z,Good w Z s' ⟨k (.ok (.ret (.ref T))),cx.c,cx.p,rest⟩ → Good w Z s ⟨den (iCall x t1),iCall x t1,pp,.ret k none g lv cx.c cx.p [] :: rest⟩ := by
  refine gv fun GG hGG => ?_
  have lo := I.lo
  have U1 := U.cons k g lv cx.c cx.p
  have len : x.length = 7 + (starP star).length + (ts.flatMap Tk.cs).length := by
    have := congrArg List.length hxx
    rw [Array.length_toList] at this
    show x.cps.size = _
    rw [this]; simp; lia
  obtain ⟨z,hz,hst⟩ : ∃ z : Str,(x.cps.toList.drop 4).take 2 = z.cps.toList ∧ (z.cps.toList == st2.cps.toList) = star := by
    rw [hxx]
    cases star with
    | true => exact ⟨st2,rfl,rfl⟩
    | false =>
      refine xE3 (two_chars ts) fun c d l hxxx => xA1 hxxx fun e h => ?_; clear hxxx
      refine ⟨⟨#[c,d]⟩,?_,?_⟩
      · show ((starP false ++ (ts.flatMap Tk.cs ++ [41,92,90]))).take 2 = _
        show (ts.flatMap Tk.cs ++ [41,92,90]).take 2 = _
        rw [e]; rfl
      · show ([c,d] == [46,42]) = false
        simp [h]
  have hA : ∀ y ∈ ([(0,slO x 1 (s.heap.objs.size + 1) 4 (s.toks + 1) 6 (s.toks + 2) z),(1,oeP "str.__eq__" [.s z,.s st2] (fun _ => .bool star) 0)] : List (Nat × OE)),OEk w y.2 := by
    simp only [List.forall_mem_cons]
    exact ⟨slN (l := 4) (u := 6) rfl rfl (by lia) (by lia) (by lia) (by show _ ≤ 2 ^ 24; lia) hz,oeEqS hst,fun _ h => nomatch h⟩
  have HA := iA_end w cx s.heap.objs.size s.toks s.gens.size t1 x z star k g lv pp rest hx
  unfold iA at HA
  refine segE I (own_nil (ro := 0)) (p := pp) U1.w (hd := [none,none]) ⟨U.h,U.h,trivial⟩ (ch := []) (fun a vs e => (chNil e).elim) HA hA glNil fun s1 X1 ob1 etk esz egz tb G1 => ?_
  have X1' : Ext (fun _ => False) s s1 := X1.mono fun q hq => by
    rcases hq with ⟨i,y,_,e,_⟩ | ⟨vs,e⟩
    · cases e
    · exact chNil e
  have P1 : IState w s.heap.objs.size (s.heap.objs.size + 2) 0 x star (k0 star) #[] [] s1 :=
    ⟨X1'.inv I fun q h => h.elim,⟨ktI s.toks,t1,s.toks + 7,false,ob1 (s.heap.objs.size,_) (.head _)⟩,⟨_,ob1 (s.heap.objs.size + 2,_) (.tail _ (.head _))⟩,by lia,by lia,.nil,.inl rfl⟩
  refine xE4 (i_loop U1 (kk := kOf (iAo w cx s.heap.objs.size s.toks s.gens.size t1 x z star k g lv pp rest)) ts (pre := [40,63,115,58] ++ starP star) (post := [41,92,90]) P1 (by rw [hxx,List.append_assoc]) (by cases star <;> rfl) rfl hsz (by show 0 + _ ≤ 2 ^ 24; lia) (iP w)) fun s2 sh vs pp2 hxxx => xA2 hxxx fun P2 X2 G2 => ?_; clear hxxx
  obtain ⟨inv2,⟨kt,ut,it,br,hN⟩,⟨ep,hL⟩,aN,lt,items,hs⟩ := P2
  have HX := iX_end w cx s.heap.objs.size s.toks s.gens.size t1 x z star k g lv pp rest (s.heap.objs.size + 2) ep it ut s2.heap.objs.size s2.toks s2.gens.size sh kt ((x.length : Nat) - 3) (x.length : Nat) vs br pp2 hx hs
  unfold iX at HX
  have hX : ∀ y ∈ ([(0,oeLenV (.s x) [] (x.length : Nat)),(2,ltO ((x.length : Nat) - 3) ((x.length : Nat) - 3) false),(3,slH x s2.heap.objs.size (s2.toks + 4)),(5,slT x (s2.heap.objs.size + 1) (s2.toks + 7))] : List (Nat × OE)),OEk w y.2 := by
    simp only [List.forall_mem_cons]
    refine ⟨oeLenS2 rfl (by lia),lt_ok (by simp),slG (picked_head (u := 4) (by lia)) (by lia) (by decide) ?_,slG (picked_tail (u := 3) (by lia) (by lia)) (by lia) (by decide) ?_,fun _ h => nomatch h⟩
    · rw [hxx]; rfl
    · rw [hxx]
      have : [40,63,115,58] ++ (starP star ++ (ts.flatMap Tk.cs ++ [41,92,90])) = ([40,63,115,58] ++ starP star ++ ts.flatMap Tk.cs) ++ [41,92,90] := by simp
      rw [this,List.drop_append_of_le_length (by simp only [List.length_append,List.length_cons,List.length_nil]; lia),List.drop_of_length_le (by simp only [List.length_append,List.length_cons,List.length_nil]; lia)]
      rfl
  refine segRE inv2 (two_own aN (Nat.le_trans aN (Nat.le_of_lt lt)) hN hL (Nat.ne_of_lt lt)) (p := pp2) (U1.cons (kOf (iAo w cx s.heap.objs.size s.toks s.gens.size t1 x z star k g lv pp rest)) false [] (.func (iB w) (iE w s.heap.objs.size)) (iP w)).w (hd := [none,none,none]) ⟨U.h,U.h,U.h,trivial⟩ (ch := []) (fun a vs e => (chNil e).elim) HX hX fun s3 v3 hv3 X3 ob3 _ G3 => ?_
  have := strip_r hv3
  subst this
  have X3' : Ext (fun b => b = s.heap.objs.size ∨ b = s.heap.objs.size + 2) s2 s3 := X3.mono fun q hq => by
    rcases hq with hq | ⟨vs,e⟩
    · exact updOf_two hq
    · exact (chNil e).elim
  have ltS : s.heap.objs.size + 2 < s2.heap.objs.size := Heap.lt_size hL
  refine hGG (yE5 s3 (s2.heap.objs.size + 2) (s.heap.objs.size + 2) ep vs ⟨X1'.fresh (X2.trans X3') (fun b hb => ?_),by lia,ob3 (_,_) (.head _),by lia,ob3 (_,_) (.tail _ (.head _)),items.keep X3' (fun b hb => ?_),fun Z q => G1 Z (G2 Z (G3 Z q))⟩)
  · rcases hb with (h | h) | (h | h) <;> (rw [h]; lia)
  · rcases hb with h | h <;> (rw [h]; lia)
end
noncomputable def Cx.l1 : Cx → Bool
  | .L .. => true
  | _ => false
noncomputable def wE (w : World) (N : Nat) : Env := envF 250 (o250 w.params) N
noncomputable def wB (w : World) : List Stmt := bodyF (o250 w.params)
noncomputable def wCall (kv p n : Int) (t1 t2 t3 : Nat) : Code := .call (.ref 250) ⟨[.int kv t1,.int p t2,.int n t3],[]⟩
noncomputable def Rng (a b c : Value) : Obj := ⟨.type "range",none,.fields #[a,b,c],#[]⟩
noncomputable def Rit (cur rem : Int) : Obj := ⟨.type "range_iterator",none,.fields #[.int cur 0,.int rem 0,.int (-1) 0],#[]⟩
noncomputable def Cel (v : Value) : Obj := ⟨.type "cell",none,.cell (some v),#[]⟩
noncomputable def dcT (P : Params) (l : List (String × Nat × Value)) (n : Nat) : Obj := ⟨.type "dict",none,.dict (entsT P l).toArray n,#[]⟩
noncomputable def wD (P : Params) (sh : Nat) (kt : Nat) (j : Value) : Obj := match sh with
  | 0 => dcT P [] 0
  | _ => dcT P [("j",kt,j)] 1
noncomputable def rnO (n : Int) : OE := ⟨PySem.code "range.__new__",[.t "range",.i (n - 1),.i (-1),.i (-1)],[],fun _ => [],fun pos => match pos with
  | [_,a,b,c] => [Rng a b c]
  | _ => [],fun sz _ _ => .ref sz,0,none⟩
noncomputable def riO (i a : Nat) (n : Int) (t1 t2 t3 : Nat) : OE := ⟨PySem.code "range.__iter__",[.r a],[(i,a,Rng (.int (n - 1) t1) (.int (-1) t2) (.int (-1) t3))],fun _ => [],fun _ => [Rit (n - 1) n],fun sz _ _ => .ref sz,0,none⟩
noncomputable def rnxO (i a : Nat) (cur rem : Int) : OE := ⟨PySem.code "range_iterator.__next__",[.r a],[(i,a,Rit cur rem)],fun _ => [(i,a,Rit (cur + -1) (rem - 1))],fun _ => [],fun _ tk _ => .int cur tk,1,none⟩
section
variable (w : World) (cx : Cx) (sz tk gz t1 t2 t3 : Nat) (kv p n : Int) (k : Result → Sem Fin) (g : Bool) (lv : List Value) (pp : Pos) (rest : List Frame)
noncomputable def wA : Cf := st0 (den (wCall kv p n t1 t2 t3)) (wCall kv p n t1 t2 t3) pp (.ret k none g lv cx.c cx.p [] :: rest) ((cx.c,cx.p) :: cx.sw) [none,none] [] sz tk gz []
  [0,0,2,2,3,3,1,1,0,0,0,1,4,4,4,4,4,4,4,5,5] [0,1] [(4,rnO n),(6,riO 3 (sz + 3) n (tk + 3) (tk + 5) (tk + 7))]
noncomputable def wAo : Cf := out (En0 w 0) 69 (wA cx sz tk gz t1 t2 t3 kv p n k g lv pp rest)
noncomputable def wC (w : World) (sz : Nat) : Code := (wAo w (.L default .none [] [] default default [] default default) sz 0 0 0 0 0 0 0 0 (fun _ => .unsupported "") false [] default []).c
noncomputable def tailA (c : Code) : Sem Fin := match den c with
  | .at _ k => k ()
  | t => t
noncomputable def frCode (f : Cf) : Code := match f.st with
  | .ret _ _ _ _ c _ _ :: _ => c
  | _ => default
noncomputable def frPos (f : Cf) : Pos := match f.st with
  | .ret _ _ _ _ _ p _ :: _ => p
  | _ => default
noncomputable def wA0 (w : World) (sz : Nat) : Cf := wAo w (.L default .none [] [] default default [] default default) sz 0 0 0 0 0 0 0 0 (fun _ => .unsupported "") false [] default []
noncomputable def wFn (w : World) (sz : Nat) : Code := frCode (wA0 w sz)
noncomputable def wFp (w : World) : Pos := frPos (wA0 w 0)
noncomputable def wS (w : World) (sz : Nat) (kk : Result → Sem Fin) (rest : List Frame) : List Frame := .ret kk none true [.ref (sz + 6),.ref (sz + 5)] (wFn w sz) (wFp w) [] :: rest
theorem wA_end (hx : cx.l1 = true) : EndOf w 0 69 (wA cx sz tk gz t1 t2 t3 kv p n k g lv pp rest) [0,1,2,4,5,6]
   ⟨⟨tailA (wC w sz),wC w sz,wFp w,wS w sz (kOf (wAo w cx sz tk gz t1 t2 t3 kv p n k g lv pp rest)) (.ret k none g lv cx.c cx.p [] :: rest)⟩,
    [some (sz,frT w.params [("size",tk,.int n t3)] 1),some (sz + 1,Cel (.int kv t1)),some (sz + 2,Cel (.int p t2)),some (sz + 4,Rit (n - 1) n),some (sz + 5,Lo #[] 0),some (sz + 6,wD w.params 0 0 .none)],tk + 8,sz + 7,gz,[],[]⟩ := by
  cases cx with
  | D st env q' => cases hx
  | L t it b o e p' st env q' => unfold EndOf; kernel_rfl
  | C => cases hx
end
noncomputable def kpA (c : Code) : Unit → Sem Fin := match den c with
  | .at _ k => k
  | t => fun _ => t
theorem wC_at (w : World) (sz : Nat) : den (wC w sz) = .at (wFp w) (kpA (wC w sz)) := by kernel_rfl
noncomputable def digS : Str := ⟨#[48,49,50,51,52,53,54]⟩
section
variable (w : World) (cx : Cx) (sz tk gz t1 t2 t3 : Nat) (kv p n : Int) (k : Result → Sem Fin) (g : Bool) (lv : List Value) (pp : Pos) (rest : List Frame)
variable (sh kt ep sz' tk' gz' : Nat) (j : Value) (cur rem P q f : Int) (c : Nat) (vs : Array Value) (kk : Result → Sem Fin) (rest1 : List Frame) (sw : List (Code × Pos)) (pp' : Pos)
noncomputable def wT : Cf := st0 (den (wC w sz)) (wC w sz) pp (wS w sz kk rest1) ((wFn w sz,wFp w) :: sw) [none,none]
  [(sz + 6,wD w.params sh kt j),(sz + 4,Rit cur rem),(sz + 5,Lo vs ep),(sz + 1,Cel (.int kv t1)),(sz + 2,Cel (.int p t2))] sz' tk' gz' [] [2,2,1,1,4,5,1,5,3] [0]
  [(0,rnxO 1 (sz + 4) cur rem),(1,oeP "int.__pow__" [.i p,.i cur] (fun tk => .int P tk) 1),(2,oeP "int.__floordiv__" [.i kv,.i P] (fun tk => .int q tk) 1),(3,oeP "int.__mod__" [.i q,.i p] (fun tk => .int f tk) 1),
   (4,gtO digS f c),(5,oeApp 2 (sz + 5) vs ep (.s ⟨#[c]⟩))]
noncomputable def WTEnd (sh : Nat) : Prop := EndOf w 0 37 (wT w sz t1 t2 kv p pp sh kt ep sz' tk' gz' j cur rem P q f c vs kk rest1 sw) [0,1,2,3,4]
   ⟨⟨den (wC w sz),wC w sz,(out (En0 w 0) 37 (wT w sz t1 t2 kv p pp sh kt ep sz' tk' gz' j cur rem P q f c vs kk rest1 sw)).p,wS w sz kk rest1⟩,
    [some (sz + 6,wD w.params 1 (match sh with | 0 => tk' + 1 | _ => kt) (.int cur tk')),some (sz + 4,Rit (cur + -1) (rem - 1)),some (sz + 5,Lo (vs.push (.str ⟨#[c]⟩ (tk' + 6))) (ep + 1)),some (sz + 1,Cel (.int kv t1)),some (sz + 2,Cel (.int p t2))],tk' + 7,sz',gz',[],[]⟩
theorem wT_end0 : WTEnd w sz t1 t2 kv p pp kt ep sz' tk' gz' j cur rem P q f c vs kk rest1 sw 0 := by unfold WTEnd EndOf; kernel_rfl
theorem wT_end1 : WTEnd w sz t1 t2 kv p pp kt ep sz' tk' gz' j cur rem P q f c vs kk rest1 sw 1 := by unfold WTEnd EndOf; kernel_rfl
variable (js : Str) (tfj : Nat → List Value → Nat) (dj : Nat)
noncomputable def wX (sh : Nat) : Cf := st0 (den (wC w sz)) (wC w sz) pp' (wS w sz (kOf (wAo w cx sz tk gz t1 t2 t3 kv p n k g lv pp rest)) (.ret k none g lv cx.c cx.p [] :: rest)) ((wFn w sz,wFp w) :: (cx.c,cx.p) :: cx.sw) [none,none,none]
  [(sz + 6,wD w.params sh kt j),(sz + 4,Rit cur 0),(sz + 5,Lo vs ep),(sz + 1,Cel (.int kv t1)),(sz + 2,Cel (.int p t2)),(sz,frT w.params [("size",tk,.int n t3)] 1)] sz' tk' gz' [] [2,2,2,2,2,8,1,1,1] [] [(1,oeSt "str.join" [.s Str.empty,.r (sz + 5)] [(2,sz + 5,Lo vs ep)] js tfj dj)]
theorem wX_end (hx : cx.l1 = true) : EndR w 0 24 (wX w cx sz tk gz t1 t2 t3 kv p n k g lv pp rest kt ep sz' tk' gz' j cur vs pp' js tfj dj 1) [] (.s js) (.ret k none g lv cx.c cx.p [] :: rest) [] [] := by
  cases cx with
  | D st env q' => cases hx
  | L t it b o e p' st env q' => unfold EndR; kernel_rfl
  | C => cases hx
end
theorem strip_t {v : Value} {n : String} (h : strip0 v = .t n) : v = .type n := by cases v <;> first | (injection h with h; subst h; rfl) | cases h
theorem update_twice {h : Heap} {a : Nat} {o : Obj} (e : h.get? a = some o) (f g : Obj → Obj) : (h.update a f).update a g = h.update a fun _ => g (f o) := by
  rw [update_const e f]
  obtain ⟨objs,l⟩ := h
  show Heap.mk ((objs.modify a _).modify a g) l = Heap.mk (objs.modify a _) l
  congr 1
  apply Array.ext_getElem?
  intro i
  rw [Array.getElem?_modify,Array.getElem?_modify,Array.getElem?_modify]
  by_cases q : a = i
  · subst q; rw [if_pos rfl,if_pos rfl,if_pos rfl]
    cases objs[a]? <;> rfl
  · rw [if_neg q,if_neg q,if_neg q]
theorem rnxO_ok {w : World} {i a : Nat} {cur rem : Int} (h : 0 < rem) : OEk w (rnxO i a cur rem) :=
  oe_meets rfl (by decide +kernel) (entryFor_of_tree (by kernel_rfl)) fun s pos hp hn _ => by
    obtain ⟨p,rfl,h1⟩ := args1 hp; obtain rfl := strip_r h1
    refine ⟨_,AutoRange.range_iterator___next___range_iterator_1 a cur rem (-1) (by lia),fun A R r => ⟨hn _ (.head _),?_⟩⟩
    rw [update_twice (hn _ (.head _))]
    exact r
theorem noPy {x y : Int} (h : y.natAbs.log2 < 600) : Builtin.divisionGoesByPylong x y = false := by
  unfold Builtin.divisionGoesByPylong
  have : ¬ (if (y == 0) = true then 0 else y.natAbs.log2 / 30 + 1) > 300 := by
    split <;> lia
  simp only [this,decide_false,Bool.false_and]
theorem rnO_ok {w : World} {n : Int} : OEk w (rnO n) :=
  oe_meets rfl (by decide +kernel) (entryFor_of_tree (by kernel_rfl)) fun s pos hp hn _ => by
    refine xE4 (args4 hp) fun p1 p2 p3 p4 hx => xA4 hx fun q4 e1 e2 e3 e4 => ?_; clear hx; obtain rfl := q4
    obtain rfl := strip_t e1; obtain ⟨t,rfl⟩ := strip_i e2; obtain ⟨u,rfl⟩ := strip_i e3; obtain ⟨v,rfl⟩ := strip_i e4
    exact ⟨_,AutoRange.range___new___type_int_int_int_1 (n - 1) (-1) (-1) t u v (by with_unfolding_all rfl) (by decide),fun A R r => ⟨noPy (by decide),r⟩⟩
theorem riO_ok {w : World} {i a n t1 t2 t3 : Nat} (h : n ≤ 30) : OEk w (riO i a n t1 t2 t3) :=
  oe_meets rfl (by decide +kernel) (entryFor_of_tree (by kernel_rfl)) fun s pos hp hn _ => by
    obtain ⟨p,rfl,h1⟩ := args1 hp; obtain rfl := strip_r h1
    have all : ∀ m ∈ List.range 31,((Builtin.Range.rangeFitsLong ((m : Int) - 1) && Builtin.Range.rangeFitsLong (-1) && Builtin.Range.rangeFitsLong (-1) && Builtin.Range.rangeFitsLong (Builtin.Range.rangeSize ((m : Int) - 1) (-1) (-1)) && (Builtin.Range.rangeSize ((m : Int) - 1) (-1) (-1) == 0 || if (-1 : Int) > 0 then Builtin.Range.rangeFitsLong (-1 + (-1 - 1)) else Builtin.Range.rangeFitsLong (-1 + (-1 + 1)))) = true ∧ Builtin.Range.rangeSize ((m : Int) - 1) (-1) (-1) = m) := by decide +kernel
    obtain ⟨c1,c2⟩ := all n (List.mem_range.mpr (by lia))
    refine ⟨_,AutoRange.range___iter___range_1 a ((n : Int) - 1) (-1) (-1) t1 t2 t3 (by rw [c1]; decide),fun A R r => ⟨hn _ (.head _),?_⟩⟩
    rw [c1,c2]
    exact r
theorem powO_ok {w : World} {p m : Nat} (hp : p ∈ [2,3,5,7]) (hm : m ≤ 30) : OEk w (oeP "int.__pow__" [.i (p : Int),.i (m : Int)] (fun tk => .int ((p : Int) ^ m) tk) 1) :=
  oe_gives (by decide +kernel) (entryFor_of_tree (by kernel_rfl)) fun pos hpos => by
    refine xE2 (args2 hpos) fun x y hx => xA2 hx fun q2 h1 h2 => ?_; clear hx; obtain rfl := q2; obtain ⟨t,rfl⟩ := strip_i h1; obtain ⟨u,rfl⟩ := strip_i h2
    by_cases h0 : m = 0
    · subst h0
      exact ⟨_,AutoIntG9.int___pow___int_int_0 p t 0 u (by decide) rfl,fun Q s q => q⟩
    · have nz : ¬ ((m : Int) == 0) = true := by simp; lia
      have a1 : ¬ ((p : Int) == 0 || (p : Int) == 1) = true := by
        simp only [List.mem_cons,List.not_mem_nil,or_false] at hp
        rcases hp with rfl | rfl | rfl | rfl <;> decide
      have a2 : ¬ ((p : Int) == -1) = true := by
        simp only [List.mem_cons,List.not_mem_nil,or_false] at hp
        rcases hp with rfl | rfl | rfl | rfl <;> decide
      have all : ∀ p ∈ [2,3,5,7],∀ m ∈ List.range 31,¬ Builtin.Int.intTooBig (((Builtin.Int.intBits ((p : Nat) : Int) : Nat) : Int) * ((m : Nat) : Int)) = true := by decide +kernel
      exact ⟨_,AutoIntG2.int___pow___int_int_4 p t m u (by lia) nz a1 a2 (all p hp m (List.mem_range.mpr (by lia))),fun Q s q => by rw [Int.toNat_natCast]; exact q⟩
noncomputable def wordL (kv p : Nat) : Nat → List Nat
  | 0 => []
  | m + 1 => (48 + kv / p ^ m % p) :: wordL kv p m
noncomputable def wordS (kv p m : Nat) : Str := ⟨(wordL kv p m).toArray⟩
theorem digS_get {f : Nat} (h : f ≤ 6) : digS.cps.toList[f]? = some (48 + f) := by
  match f,h with
  | 0,_ => rfl
  | 1,_ => rfl
  | 2,_ => rfl
  | 3,_ => rfl
  | 4,_ => rfl
  | 5,_ => rfl
  | 6,_ => rfl
theorem glued_ones : ∀ (l : List Nat),Builtin.Str.glued Str.empty (l.map fun c => ⟨#[c]⟩) = ⟨l.toArray⟩ := by
  have go : ∀ (l : List Nat) (acc : Array Nat),(l.map fun c => (⟨#[c]⟩ : Str)).foldl (fun acc p => acc ++ Str.empty.cps ++ p.cps) acc = acc ++ l.toArray := by
    intro l
    induction l with
    | nil => intro acc; simp
    | cons c l ih => intro acc; rw [List.map_cons,List.foldl_cons,ih]; simp [Str.empty]
  intro l
  cases l with
  | nil => rfl
  | cons c l =>
    show Str.mk ((l.map fun c => (⟨#[c]⟩ : Str)).foldl _ _) = _
    rw [go]; simp
theorem Good.fwd {w : World} {R : Result → Shared → Prop} {s s' : Shared} {t t' : Thread} (h : (Md w).step s t = .go s' t') (g : Good w R s t) : Good w R s' t' := by
  refine xE3 g fun n r s'' hxx => xA1 hxx fun hn hR => ?_; clear hxx; clear g
  match n with
  | 0 => cases hn
  | n + 1 =>
    refine ⟨n,r,s'',?_,hR⟩
    rw [runN_succ,h] at hn
    exact hn
theorem tailA_of {w : World} {Z : Result → Shared → Prop} {s : Shared} {c : Code} {pp p : Pos} {kp : Unit → Sem Fin} {p1 : Pos} {st : List Frame} (e : den c = .at p1 kp) (hp : p = p1) (q : Good w Z s ⟨den c,c,pp,st⟩) : Good w Z s ⟨tailA c,c,p,st⟩ := by
  subst hp
  unfold tailA
  rw [e] at q ⊢
  exact q.fwd rfl
theorem sum_ones : ∀ l : List Nat,((l.map fun c => (⟨#[c]⟩ : Str)).map (fun y : Str => y.length)).sum = l.length
  | [] => rfl
  | c :: l => by
    rw [List.map_cons,List.map_cons,List.sum_cons,sum_ones l,List.length_cons]
    have : (⟨#[c]⟩ : Str).length = 1 := rfl
    lia
theorem nd5w (z : Nat) : [z + 6,z + 4,z + 5,z + 1,z + 2].Nodup := by simp
theorem nd6w (z : Nat) : [z + 6,z + 4,z + 5,z + 1,z + 2,z].Nodup := by simp
structure WState (w : World) (sz tk t1 t2 t3 : Nat) (kv p n : Int) (sh : Nat) (cur rem : Int) (vs : Array Value) (s : Shared) : Prop where
  inv : Inv w s
  d : ∃ kt j,s.heap.get? (sz + 6) = some (wD w.params sh kt j)
  it : s.heap.get? (sz + 4) = some (Rit cur rem)
  acc : ∃ ep,s.heap.get? (sz + 5) = some (Lo vs ep)
  ck : s.heap.get? (sz + 1) = some (Cel (.int kv t1))
  cp : s.heap.get? (sz + 2) = some (Cel (.int p t2))
  fr : s.heap.get? sz = some (frT w.params [("size",tk,.int n t3)] 1)
  lo : 268 ≤ sz
  hs : sh = 0 ∨ sh = 1
noncomputable def updW (z b : Nat) : Prop := z ≤ b ∧ b ≤ z + 6
theorem upd5w {z q : Nat} (h : q ∈ [z + 6,z + 4,z + 5,z + 1,z + 2]) : updW z q ∧ q ≠ z := by
  unfold updW
  simp only [List.mem_cons,List.not_mem_nil,or_false] at h
  lia
theorem upd6w {z q : Nat} (h : q ∈ [z + 6,z + 4,z + 5,z + 1,z + 2,z]) : updW z q := by
  unfold updW
  simp only [List.mem_cons,List.not_mem_nil,or_false] at h
  lia
section
variable {w : World} {cx : Cx} {sz tk t1 t2 t3 kv p n : Nat} {kk k : Result → Sem Fin} {g : Bool} {lv : List Value} {rest : List Frame} (U : Und rest cx.sw)
include U
theorem w_turn {s : Shared} {sh m : Nat} {cur : Int} {vs : Array Value} (P : WState w sz tk t1 t2 t3 kv p n sh m ((m : Int) + 1) vs s) (hp : p ∈ [2,3,5,7]) (hm : m ≤ 30) (hv : vs.size ≤ sizeLine) (pp : Pos) :
    ∃ s' tok pp',WState w sz tk t1 t2 t3 kv p n 1 ((m : Int) - 1) m (vs.push (.str ⟨#[48 + kv / p ^ m % p]⟩ tok)) s' ∧ Ext (fun b => updW sz b) s s' ∧
      ∀ Z,Good w Z s' ⟨den (wC w sz),wC w sz,pp',wS w sz kk (.ret k none g lv cx.c cx.p [] :: rest)⟩ → Good w Z s ⟨den (wC w sz),wC w sz,pp,wS w sz kk (.ret k none g lv cx.c cx.p [] :: rest)⟩ := by
  refine gv fun GG hGG => ?_
  obtain ⟨inv,⟨kt,j,hd⟩,hit,⟨ep,hacc⟩,hck,hcp,hfr,lo,hs⟩ := P
  have U1 := (U.cons k g lv cx.c cx.p).cons kk true [.ref (sz + 6),.ref (sz + 5)] (wFn w sz) (wFp w)
  have O5 : OwnL 0 [(sz + 6,wD w.params sh kt j),(sz + 4,Rit m ((m : Int) + 1)),(sz + 5,Lo vs ep),(sz + 1,Cel (.int kv t1)),(sz + 2,Cel (.int p t2))] s.heap :=
    own_nodup (by simp only [List.forall_mem_cons]; exact ⟨⟨by lia,hd⟩,⟨by lia,hit⟩,⟨by lia,hacc⟩,⟨by lia,hck⟩,⟨by lia,hcp⟩,fun _ h => nomatch h⟩) (nd5w sz)
  have p0 : 0 < p := by
    simp only [List.mem_cons,List.not_mem_nil,or_false] at hp
    lia
  have p7 : p ≤ 7 := by
    simp only [List.mem_cons,List.not_mem_nil,or_false] at hp
    lia
  have pm : (p : Int) ^ m = ((p ^ m : Nat) : Int) := by simp
  have pm0 : 0 < p ^ m := Nat.pow_pos p0
  have lg : ((p : Int) ^ m).natAbs.log2 < 600 := by
    rw [pm,Int.natAbs_natCast,Nat.log2_lt (by lia)]
    calc p ^ m ≤ 7 ^ m := Nat.pow_le_pow_left p7 m
      _ ≤ 7 ^ 30 := Nat.pow_le_pow_right (by decide) hm
      _ < 2 ^ 600 := by decide +kernel
  have f6 : kv / p ^ m % p ≤ 6 := by
    have := Nat.mod_lt (kv / p ^ m) p0
    lia
  have hO : ∀ y ∈ ([(0,rnxO 1 (sz + 4) m ((m : Int) + 1)),(1,oeP "int.__pow__" [.i p,.i m] (fun tk => .int ((p : Int) ^ m) tk) 1),(2,oeP "int.__floordiv__" [.i kv,.i ((p : Int) ^ m)] (fun tk => .int ((kv / p ^ m : Nat) : Int) tk) 1),(3,oeP "int.__mod__" [.i ((kv / p ^ m : Nat) : Int),.i p] (fun tk => .int ((kv / p ^ m % p : Nat) : Int) tk) 1),
     (4,gtO digS ((kv / p ^ m % p : Nat) : Int) (48 + kv / p ^ m % p)),(5,oeApp 2 (sz + 5) vs ep (.s ⟨#[48 + kv / p ^ m % p]⟩))] : List (Nat × OE)),OEk w y.2 := by
    simp only [List.forall_mem_cons]
    refine ⟨rnxO_ok (by lia),powO_ok hp hm,oeDiv (by rw [pm]; lia) (noPy lg) (by rw [pm,Int.fdiv_eq_ediv_of_nonneg _ (Int.natCast_nonneg _)]; rfl),oeMod (by lia) (by rw [Int.fmod_eq_emod_of_nonneg _ (Int.natCast_nonneg _)]; rfl),gt_ok (k := kv / p ^ m % p) rfl (by decide) (digS_get f6),oeApp_ok hv,fun _ h => nomatch h⟩
  have HT : WTEnd w sz t1 t2 kv p pp kt ep s.heap.objs.size s.toks s.gens.size j m ((m : Int) + 1) ((p : Int) ^ m) ((kv / p ^ m : Nat) : Int) ((kv / p ^ m % p : Nat) : Int) (48 + kv / p ^ m % p) vs kk (.ret k none g lv cx.c cx.p [] :: rest) ((cx.c,cx.p) :: cx.sw) sh := by
    rcases hs with rfl | rfl
    · exact wT_end0 ..
    · exact wT_end1 ..
  unfold WTEnd wT at HT
  refine segE inv O5 (p := pp) U1.w (hd := [none,none]) ⟨U.h,U.h,trivial⟩ (ch := []) (fun a vs e => (chNil e).elim) HT hO glNil fun s' X ob tk' sz' gz' tb G => ?_
  have X' : Ext (fun q => q ∈ [sz + 6,sz + 4,sz + 5,sz + 1,sz + 2]) s s' := X.mono fun q hq => by
    rcases hq with hq | ⟨vs,e⟩
    · exact upd_mem hq
    · exact (chNil e).elim
  have hit' := ob (sz + 4,_) (.tail _ (.head _))
  rw [show (m : Int) + -1 = (m : Int) - 1 by lia,show (m : Int) + 1 - 1 = m by lia] at hit'
  refine hGG (yE3 s' _ _ ⟨⟨X'.inv inv fun q hq => .inl ?_,⟨_,_,ob (sz + 6,_) (.head _)⟩,hit',⟨_,ob (sz + 5,_) (.tail _ (.tail _ (.head _)))⟩,ob (sz + 1,_) (.tail _ (.tail _ (.tail _ (.head _)))),ob (sz + 2,_) (.tail _ (.tail _ (.tail _ (.tail _ (.head _))))),X'.keep _ _ hfr (fun h => (upd5w h).2 rfl),lo,.inr rfl⟩,X'.mono fun b hb => (upd5w hb).1,G⟩)
  exact Nat.le_trans lo (upd5w hq).1.1
theorem w_loop (hp : p ∈ [2,3,5,7]) : ∀ (m : Nat),m ≤ 30 → ∀ {s : Shared} {sh : Nat} {vs : Array Value},WState w sz tk t1 t2 t3 kv p n sh ((m : Int) - 1) m vs s → vs.size + m ≤ sizeLine → ∀ pp,
    ∃ s' sh' vs' pp',WState w sz tk t1 t2 t3 kv p n sh' (-1) 0 vs' s' ∧ (m = 0 → sh' = sh) ∧ (m ≠ 0 → sh' = 1) ∧ vs'.toList.map strip0 = vs.toList.map strip0 ++ (wordL kv p m).map (fun c => .s ⟨#[c]⟩) ∧ Ext (fun b => updW sz b) s s' ∧
      ∀ Z,Good w Z s' ⟨den (wC w sz),wC w sz,pp',wS w sz kk (.ret k none g lv cx.c cx.p [] :: rest)⟩ → Good w Z s ⟨den (wC w sz),wC w sz,pp,wS w sz kk (.ret k none g lv cx.c cx.p [] :: rest)⟩
  | 0,hm,s,sh,vs,P,hv,pp => ⟨s,sh,vs,pp,P,fun _ => rfl,fun h => absurd rfl h,by simp [wordL],Ext.refl P.inv,fun Z q => q⟩
  | m + 1,hm,s,sh,vs,P,hv,pp => by
    have e : ((m + 1 : Nat) : Int) - 1 = m := by lia
    have e2 : ((m + 1 : Nat) : Int) = (m : Int) + 1 := by lia
    rw [e,e2] at P
    refine xE3 (w_turn U (kk := kk) (k := k) (g := g) (lv := lv) (cur := 0) P hp (by lia) (by lia) pp) fun s1 tok pp1 hxx => xA2 hxx fun P1 X1 G1 => ?_; clear hxx
    refine xE4 (w_loop hp m (by lia) P1 (by rw [Array.size_push]; lia) pp1) fun s2 sh2 vs2 pp2 hxx => xA5 hxx fun P2 z1 z2 ev X2 G2 => ?_; clear hxx
    refine ⟨s2,sh2,vs2,pp2,P2,fun h => by lia,fun _ => ?_,?_,(X1.trans X2).mono (fun b h => h.elim id id),fun Z q => G1 Z (G2 Z q)⟩
    · by_cases h : m = 0
      · exact z1 h
      · exact z2 h
    · rw [ev,Array.toList_push,List.map_append,List.append_assoc]
      rfl
theorem w_call (hx : cx.l1 = true) {s : Shared} (I : Inv w s) (hp : p ∈ [2,3,5,7]) (hn : n ≤ 30) (h1 : 1 ≤ n) (pp : Pos) :
    ∃ s' tk,Ext (fun _ => False) s s' ∧ ∀ Z,Good w Z s' ⟨k (.ok (.ret (.str (wordS kv p n) tk))),cx.c,cx.p,rest⟩ →
      Good w Z s ⟨den (wCall kv p n t1 t2 t3),wCall kv p n t1 t2 t3,pp,.ret k none g lv cx.c cx.p [] :: rest⟩ := by
  refine gv fun GG hGG => ?_
  have lo := I.lo
  have U1 := U.cons k g lv cx.c cx.p
  have HA := wA_end w cx s.heap.objs.size s.toks s.gens.size t1 t2 t3 kv p n k g lv pp rest hx
  have hA : ∀ y ∈ ([(4,rnO n),(6,riO 3 (s.heap.objs.size + 3) n (s.toks + 3) (s.toks + 5) (s.toks + 7))] : List (Nat × OE)),OEk w y.2 := by
    simp only [List.forall_mem_cons]
    exact ⟨rnO_ok,riO_ok hn,fun _ h => nomatch h⟩
  unfold wA at HA
  refine segE I (own_nil (ro := 0)) (p := pp) U1.w (hd := [none,none]) ⟨U.h,U.h,trivial⟩ (ch := []) (fun a vs e => (chNil e).elim) HA hA glNil fun s1 X1 ob etk esz egz tb G1 => ?_
  have X1' : Ext (fun _ => False) s s1 := X1.mono fun q hq => by
    rcases hq with ⟨i,y,_,e,_⟩ | ⟨vs,e⟩
    · cases e
    · exact chNil e
  have P1 : WState w s.heap.objs.size s.toks t1 t2 t3 kv p n 0 ((n : Int) - 1) n #[] s1 :=
    ⟨X1'.inv I fun q h => h.elim,⟨0,.none,ob (s.heap.objs.size + 6,_) (.tail _ (.tail _ (.tail _ (.tail _ (.tail _ (.head _))))))⟩,ob (s.heap.objs.size + 4,_) (.tail _ (.tail _ (.tail _ (.head _)))),⟨0,ob (s.heap.objs.size + 5,_) (.tail _ (.tail _ (.tail _ (.tail _ (.head _)))))⟩,
      ob (s.heap.objs.size + 1,_) (.tail _ (.head _)),ob (s.heap.objs.size + 2,_) (.tail _ (.tail _ (.head _))),ob (s.heap.objs.size,_) (.head _),lo,.inl rfl⟩
  refine xE4 (w_loop U (kk := kOf (wAo w cx s.heap.objs.size s.toks s.gens.size t1 t2 t3 kv p n k g lv pp rest)) (k := k) (g := g) (lv := lv) hp n hn P1 (by show 0 + _ ≤ 2 ^ 24; lia) pp) fun s2 sh vs pp2 hxx => xA5 hxx fun P2 _ z2 ev X2 G2 => ?_; clear hxx
  obtain rfl := z2 (by lia)
  obtain ⟨inv,⟨kt,j,hd⟩,hit,⟨ep,hacc⟩,hck,hcp,hfr,_,hs⟩ := P2
  have ev' : vs.toList.map strip0 = ((wordL kv p n).map fun c => (⟨#[c]⟩ : Str)).map .s := by rw [ev]; simp
  have wl : ∀ m,(wordL kv p m).length = m := by
    intro m
    induction m with
    | zero => rfl
    | succ m ih => simp [wordL,ih]
  have gl := glued_ones (wordL kv p n)
  obtain ⟨tfj,dj,hJ⟩ := oeJoinT (w := w) (x := Str.empty) (a := s.heap.objs.size + 5) (idx := 2) (n := ep) ev' (by
      unfold Builtin.Str.tooLong
      rw [List.foldl_toArray,foldl_len]
      have : (((wordL kv p n).map fun c => (⟨#[c]⟩ : Str)).map (fun y : Str => y.length)).sum = n := (sum_ones _).trans (wl n)
      rw [this,decide_eq_false_iff_not]
      show ¬ _ > 2 ^ 24
      lia) (by rw [gl]; show (wordL kv p n).toArray.size ≤ 2 ^ 24; rw [List.size_toArray,wl]; lia)
  rw [gl] at hJ
  have HX := wX_end w cx s.heap.objs.size s.toks s.gens.size t1 t2 t3 kv p n k g lv pp rest kt ep s2.heap.objs.size s2.toks s2.gens.size j (-1) vs pp2 (wordS kv p n) tfj dj hx
  unfold wX at HX
  have O6 : OwnL 0 [(s.heap.objs.size + 6,wD w.params 1 kt j),(s.heap.objs.size + 4,Rit (-1) 0),(s.heap.objs.size + 5,Lo vs ep),(s.heap.objs.size + 1,Cel (.int kv t1)),(s.heap.objs.size + 2,Cel (.int p t2)),(s.heap.objs.size,frT w.params [("size",s.toks,.int n t3)] 1)] s2.heap :=
    own_nodup (by simp only [List.forall_mem_cons]; exact ⟨⟨by lia,hd⟩,⟨by lia,hit⟩,⟨by lia,hacc⟩,⟨by lia,hck⟩,⟨by lia,hcp⟩,⟨lo,hfr⟩,fun _ h => nomatch h⟩) (nd6w _)
  have hX : ∀ y ∈ ([(1,oeSt "str.join" [.s Str.empty,.r (s.heap.objs.size + 5)] [(2,s.heap.objs.size + 5,Lo vs ep)] (wordS kv p n) tfj dj)] : List (Nat × OE)),OEk w y.2 :=
    List.forall_mem_cons.2 ⟨hJ,fun _ h => nomatch h⟩
  refine segRE inv O6 (p := pp2) (U1.cons (kOf (wAo w cx s.heap.objs.size s.toks s.gens.size t1 t2 t3 kv p n k g lv pp rest)) true [.ref (s.heap.objs.size + 6),.ref (s.heap.objs.size + 5)] (wFn w s.heap.objs.size) (wFp w)).w (hd := [none,none,none]) ⟨U.h,U.h,U.h,trivial⟩ (ch := []) (fun a vs e => (chNil e).elim) HX hX fun s3 v3 hv3 X3 ob3 _ G3 => ?_
  obtain ⟨t',rfl⟩ := strip_s hv3
  have X3' : Ext (fun q => updW s.heap.objs.size q) s2 s3 := X3.mono fun q hq => by
    rcases hq with hq | ⟨vs,e⟩
    · exact upd6w (upd_mem hq)
    · exact (chNil e).elim
  refine hGG (yE2 s3 t' ⟨X1'.fresh (X2.trans X3') (fun b hb => ?_),fun Z q => G1 Z (tailA_of (wC_at w _) rfl (G2 Z (G3 Z q)))⟩)
  rcases hb with h | h <;> exact h.1
end
noncomputable def Cx.lc : Cx → Bool
  | .D .. => false
  | _ => true
noncomputable def uE (w : World) (N : Nat) : Env := envF 262 (o262 w.params) N
noncomputable def uB (w : World) : List Stmt := bodyF (o262 w.params)
noncomputable def uCall (star : Bool) (Ls : Nat) (x : Str) (t : Nat) : Code := .call (.ref 262) ⟨[.bool star,.ref Ls,.str x t],[]⟩
noncomputable def Lit (a : Nat) (I : Int) : Obj := ⟨.type "list_iterator",none,.fields #[.ref a,.int I 0],#[]⟩
noncomputable def Sit (v : Value) (I : Int) : Obj := ⟨.type "str_ascii_iterator",none,.fields #[v,.int I 0],#[]⟩
noncomputable def Zip (f : Value) (a b : Nat) : Obj := ⟨.type "zip",none,.fields #[f,.bool false,.bool false,.ref a,.ref b],#[]⟩
noncomputable def siO (x : Str) : OE := ⟨PySem.code "str.__iter__",[.s x],[],fun _ => [],fun pos => match pos with
  | [v] => [Sit v 0]
  | _ => [],fun sz _ _ => .ref sz,0,none⟩
noncomputable def lnxO (i1 a i2 Ls : Nat) (vs : Array Value) (ep : Nat) (I : Int) (v : Value) : OE := ⟨PySem.code "list_iterator.__next__",[.r a],[(i1,a,Lit Ls I),(i2,Ls,Lo vs ep)],fun _ => [(i1,a,Lit Ls (I + 1))],fun _ => [],fun _ _ _ => v,0,none⟩
noncomputable def snxO (i1 a : Nat) (z : Str) (t : Nat) (I : Int) (c : Nat) : OE := ⟨PySem.code "str_ascii_iterator.__next__",[.r a],[(i1,a,Sit (.str z t) I)],fun _ => [(i1,a,Sit (.str z t) (I + 1))],fun _ => [],fun _ tk _ => .str ⟨#[c]⟩ tk,1,none⟩
noncomputable def slF (x : Str) (a : Nat) (l : Int) (lt : Nat) (z : Str) (tf : Nat → List Value → Nat) (d : Nat) : OE := oeSlS x 2 a (some (l,lt)) none z tf d
section
variable (w : World) (cx : Cx) (sz tk gz t Ls ep : Nat) (x z : Str) (nx ni : Int) (vs : Array Value) (k : Result → Sem Fin) (g : Bool) (lv : List Value) (pp : Pos) (rest : List Frame) (tf : Nat → List Value → Nat) (d : Nat)
noncomputable def uA (star : Bool) : Cf := st0 (den (uCall star Ls x t)) (uCall star Ls x t) pp (.ret k none g lv cx.c cx.p [] :: rest) ((cx.c,cx.p) :: cx.sw) [none,none] [(Ls,Lo vs ep)] sz tk gz []
  (match star with
    | true => [0,0,2,2,2,2,2,2,0,2,2,0,0,2,0,0,2,2,2,0,0,2,2,1,1,1,4,5,8,8,8,8,8,8,8,8,8]
    | false => [0,0,2,2,2,2,2,2,0,2,2,2,2,0,0,2,2,1,1,1,3,4,7,7,7,7,7,7,7,7,7]) [0,0,0,0,1,1,1]
  (match star with
    | true => [(0,oeLenV (.s x) [] nx),(1,oeLenV (.r Ls) [(0,Ls,Lo vs ep)] ni),(3,slF x (sz + 1) (nx - ni) (tk + 7) z tf d),(7,siO z)]
    | false => [(3,siO x)])
noncomputable def uN (star : Bool) : Nat := match star with
  | true => 111
  | false => 84
noncomputable def uAo (star : Bool) : Cf := out (En0 w 1) (uN star) (uA cx sz tk gz t Ls ep x z nx ni vs k g lv pp rest tf d star)
noncomputable def uA0 (w : World) (star : Bool) (sz : Nat) : Cf := uAo w (.L default .none [] [] default default [] default default) sz 0 0 0 0 0 default default 0 0 #[] (fun _ => .unsupported "") false [] default [] (fun _ _ => 0) 0 star
noncomputable def uC (w : World) (star : Bool) (sz : Nat) : Code := (uA0 w star sz).c
noncomputable def uFn (w : World) (star : Bool) (sz : Nat) : Code := frCode (uA0 w star sz)
noncomputable def uFp (w : World) : Pos := frPos (uA0 w false 0)
noncomputable def uP (w : World) : Pos := (uA0 w false 0).p
noncomputable def uO (star : Bool) (sz j : Nat) : Nat := match star with
  | true => sz + 2 + j
  | false => sz + 1 + j
noncomputable def uS (w : World) (star : Bool) (sz : Nat) (kk : Result → Sem Fin) (rest : List Frame) : List Frame := .ret kk none true [.ref (uO star sz 6),.ref (uO star sz 5)] (uFn w star sz) (uFp w) [] :: rest
noncomputable def uF (w : World) (star : Bool) (tk Ls : Nat) (x z : Str) (t : Nat) (tf : Nat → List Value → Nat) (d sz : Nat) : Obj := match star with
  | true => frT w.params [("star",tk,.bool true),("items",tk + 1,.ref Ls),("word",tk + 2,.str x t),("tail",tk + 8 + d,.str z (tf (tk + 8) [.str x t,.ref (sz + 1)]))] 4
  | false => frT w.params [("star",tk,.bool false),("items",tk + 1,.ref Ls),("word",tk + 2,.str x t),("tail",tk + 3,.str x t)] 4
noncomputable def uZ (star : Bool) (x z : Str) : Str := match star with
  | true => z
  | false => x
noncomputable def uZt (star : Bool) (x : Str) (t tk : Nat) (tf : Nat → List Value → Nat) (sz : Nat) : Nat := match star with
  | true => tf (tk + 8) [.str x t,.ref (sz + 1)]
  | false => t
noncomputable def uIx (star : Bool) : List Nat := match star with
  | true => [0,1,3,4,5,6,7,8,9]
  | false => [0,1,2,3,4,5,6,7,8]
noncomputable def UAEnd (star : Bool) : Prop := EndOf w 1 (uN star) (uA cx sz tk gz t Ls ep x z nx ni vs k g lv pp rest tf d star) (uIx star)
   ⟨⟨tailA (uC w star sz),uC w star sz,uP w,uS w star sz (kOf (uAo w cx sz tk gz t Ls ep x z nx ni vs k g lv pp rest tf d star)) (.ret k none g lv cx.c cx.p [] :: rest)⟩,
    [some (Ls,Lo vs ep),some (sz,uF w star tk Ls x z t tf d sz),some (uO star sz 0,Lit Ls 0),some (uO star sz 1,Sit (.str (uZ star x z) (uZt star x t tk tf sz)) 0),some (uO star sz 2,Tup [.ref (uO star sz 0),.ref (uO star sz 1)]),some (uO star sz 3,Tup [.none,.none]),
     some (uO star sz 4,Zip .none (uO star sz 2) (uO star sz 3)),some (uO star sz 5,Lo #[] 0),some (uO star sz 6,dcT w.params [] 0)],
    (out (En0 w 1) (uN star) (uA cx sz tk gz t Ls ep x z nx ni vs k g lv pp rest tf d star)).tk,uO star sz 7,gz,[],[]⟩
theorem uA_end (hx : cx.lc = true) (star : Bool) : UAEnd w cx sz tk gz t Ls ep x z nx ni vs k g lv pp rest tf d star := by
  cases cx with
  | D st env q' => cases hx
  | L t it b o e p' st env q' => cases star <;> (unfold UAEnd EndOf; kernel_rfl)
  | C => cases star <;> (unfold UAEnd EndOf; kernel_rfl)
end
theorem uC_at (w : World) (star : Bool) (sz : Nat) : den (uC w star sz) = .at (uP w) (kpA (uC w star sz)) := by cases star <;> kernel_rfl
theorem reach_wrap {w : World} {α : Type} {s : Shared} {t : Sem α} {K : α → Sem Fin} {H : Value → Sem Fin} {gd : Bool → Bool} {lv : List Value → List Value} {c : Code} {p : Pos} {st : List Frame} {R : α → Shared → Prop}
    (h : wpAny (Md w) ((arOf st).under c) t R (fun _ _ => False) s) : ∃ a s' p',R a s' ∧ ∀ Q,Good w Q s' ⟨K a,c,p',st⟩ → Good w Q s ⟨t.wrap K H gd lv,c,p,st⟩ := by
  apply Classical.byContradiction
  intro no
  have all : ∀ a s',R a s' → ∀ p',Good w (fun r s'' => ∃ Q : Result → Shared → Prop,Q r s'' ∧ ¬ Good w Q s ⟨t.wrap K H gd lv,c,p,st⟩) s' ⟨K a,c,p',st⟩ := by
    intro a s' hr p'
    have : ¬ ∀ Q,Good w Q s' ⟨K a,c,p',st⟩ → Good w Q s ⟨t.wrap K H gd lv,c,p,st⟩ := fun q => no ⟨a,s',p',hr,q⟩
    obtain ⟨Q,hQ⟩ := Classical.not_forall.mp this
    have g : Good w Q s' ⟨K a,c,p',st⟩ := Classical.byContradiction fun n => hQ fun g => (n g).elim
    have b : ¬ Good w Q s ⟨t.wrap K H gd lv,c,p,st⟩ := fun b => hQ fun _ => b
    exact g.mono fun r s'' q => ⟨Q,q,b⟩
  have g : Good w (fun r s'' => ∃ Q : Result → Shared → Prop,Q r s'' ∧ ¬ Good w Q s ⟨t.wrap K H gd lv,c,p,st⟩) s ⟨t.wrap K H gd lv,c,p,st⟩ := by
    have e : Ctx.of c st = (⟨c,none,none,[],none⟩ : Ctx).over st := by
      have := Ctx.of_append c st []
      rw [List.append_nil] at this
      exact this
    have h := h (Ctx.of c st) p (in_of c st)
    rw [e] at h
    refine xE2 (runs_wrap_of_wp (fs := st) (Φ := fun e s' => ∃ r,e = .ret r ∧ leftWithCleanup s'.gens = false ∧ ∃ Q : Result → Shared → Prop,Q r s' ∧ ¬ Good w Q s ⟨t.wrap K H gd lv,c,p,st⟩) K H gd lv t h
      (fun a p' s' g => by obtain ⟨r,s'',x,y⟩ := good_iff.mp (all a s' g p'); exact ⟨_,s'',x,r,rfl,y⟩)
      (fun a p' s' g => g.elim)) fun _ s'' hx => xA1 hx fun x hx => xE1 hx fun r hx => xA1 hx fun q4 y => ?_; clear hx; clear hx; clear hx; obtain rfl := q4
    exact good_iff.mpr ⟨r,s'',x,y⟩
  refine xE3 g fun n r s'' hx => xA1 hx fun e hx => xE1 hx fun Q hx => xA1 hx fun q b => ?_; clear hx; clear hx; clear hx; clear g
  exact b ⟨n,r,s'',e,q⟩
noncomputable def wG (test : PySem.Expr) (body orelse : List Stmt) (env : Env) : Flow → Sem Fin
  | .next | .cont => again (.whileLoop test body orelse env)
  | .brk => pure (.done .next)
  | .ret v => pure (.done (.ret v))
noncomputable def wH (env : Env) (x : Value) : Sem Unit := do noteFrame x env; theTreesLotGoes x
noncomputable def tailW (l : List Stmt) (test : PySem.Expr) (body orelse : List Stmt) (env : Env) : Sem Fin := ((PySem.W.Fast.tw12563942051412417395 l env) >>= wG test body orelse env).onRaise (wH env)
theorem tailW_eq (l : List Stmt) (test : PySem.Expr) (body orelse : List Stmt) (env : Env) : tailW l test body orelse env = ((execs l env) >>= wG test body orelse env).onRaise (wH env) := by
  unfold tailW
  rw [← PySem.W.Fast.te12563942051412417395]
theorem reach_while {w : World} {s : Shared} {test : PySem.Expr} {body orelse : List Stmt} {env : Env} {p : Pos} {st : List Frame} {R : Shared → Prop}
    (h : wpAny (Md w) ((arOf st).under (.whileLoop test body orelse env)) (isTrue test env (eval test env)) (fun b s' => b = true ∧ R s') (fun _ _ => False) s) :
    ∃ s' p',R s' ∧ ∀ Z,Good w Z s' ⟨tailW body test body orelse env,.whileLoop test body orelse env,p',st⟩ → Good w Z s ⟨den (.whileLoop test body orelse env),.whileLoop test body orelse env,p,st⟩ := by
  have e : den (.whileLoop test body orelse env) = (whileTurn test body orelse env).onRaise (wH env) := (congrFun den_eq _).symm
  rw [e]
  unfold whileTurn
  rw [Sem.onRaise_eq_wrap,Sem.bind_eq_wrap',Sem.wrap_wrap]
  obtain ⟨b,s',p',⟨rfl,r⟩,g⟩ := reach_wrap (p := p) h
  refine ⟨s',p',r,fun Z q => g Z ?_⟩
  rw [tailW_eq,Sem.onRaise_eq_wrap] at q
  simp only [if_true]
  exact q
theorem reach_tail {w : World} {s : Shared} {a : Stmt} {l : List Stmt} {test : PySem.Expr} {body orelse : List Stmt} {env : Env} {c : Code} {p : Pos} {st : List Frame} {R : Shared → Prop}
    (h : wpAny (Md w) ((arOf st).under c) (exec a env) (fun f s' => f = .next ∧ R s') (fun _ _ => False) s) :
    ∃ s' p',R s' ∧ ∀ Z,Good w Z s' ⟨tailW l test body orelse env,c,p',st⟩ → Good w Z s ⟨tailW (a :: l) test body orelse env,c,p,st⟩ := by
  rw [tailW_eq (a :: l),Sem.onRaise_eq_wrap,Sem.bind_eq_wrap',Sem.wrap_wrap,execs_cons_wrap]
  obtain ⟨f,s',p',⟨rfl,r⟩,g⟩ := reach_wrap (p := p) h
  refine ⟨s',p',r,fun Z q => g Z ?_⟩
  rw [tailW_eq l,Sem.onRaise_eq_wrap,Sem.bind_eq_wrap',Sem.wrap_wrap] at q
  exact q
noncomputable def cRest (elt : PySem.Expr) (g : Comprehension) (e : PySem.Expr) (it acc : Value) (env : Env) (v : Value) : Sem Fin := letI : Monad PySem.Sem := mS; do
  PySem.W.Fast.tw17772580674575903948 g.target env v
  let mut ok := true
  for c in g.ifs do
    if ok then ok ← PySem.W.Fast.tw15418851999007992765 c env (PySem.W.Fast.tw14044960220447912780 c env)
  if ok then
    (do let _ ← PySem.W.Fast.tw11478286150595567475 (.builtin PySem.W.SL.s2931692696383300276x11) [acc,← PySem.W.Fast.tw14044960220447912780 elt env] : Sem Unit)
  PySem.W.Fast.tw12377390311714414960 (.compLoop e 0 it acc env)
noncomputable def eOf : Code → PySem.Expr
  | .compLoop e _ _ _ _ => e
  | _ => default
noncomputable def itOf : Code → Value
  | .compLoop _ _ it _ _ => it
  | _ => default
noncomputable def accOf : Code → Value
  | .compLoop _ _ _ acc _ => acc
  | _ => default
noncomputable def envO : Code → Env
  | .compLoop _ _ _ _ env => env
  | _ => default
noncomputable def eltOf (c : Code) : PySem.Expr := match eOf c with
  | .ListComp elt _ _ _ => elt
  | _ => default
noncomputable def genOf (c : Code) : Comprehension := match eOf c with
  | .ListComp _ (g :: _) _ _ => g
  | _ => default
noncomputable def isTupE : PySem.Expr → Bool
  | .Tuple .. => true
  | _ => false
noncomputable def tL (c : Code) (a : Nat) : Sem Fin := PySem.W.R.onRaiseR (@bind PySem.Sem mS.toBind _ _ (PySem.W.Fast.tw1578499551869305889 (genOf c).target (itOf c) (.ref a)) fun _ => cRest (eltOf c) (genOf c) (eOf c) (itOf c) (accOf c) (envO c) (.ref a)) (wHt (envO c))
noncomputable def tU (c : Code) (a : Nat) : Sem Fin := PySem.W.R.onRaiseR (cRest (eltOf c) (genOf c) (eOf c) (itOf c) (accOf c) (envO c) (.ref a)) (wHt (envO c))
theorem reach_own {w : World} {s : Shared} {c : Code} {a z TI TO : Nat} {p : Pos} {st : List Frame} (ht : isTupE (genOf c).target = true) (hi : itOf c = .ref z) (hz : s.heap.get? z = some (Zip (.int a 0) TI TO)) :
    ∃ p',∀ Z,Good w Z { s with heap := s.heap.update z (Obj.mapFields (·.setIfInBounds 0 .none)) } ⟨tU c a,c,p',st⟩ → Good w Z s ⟨tL c a,c,p,st⟩ := by
  obtain ⟨elts,x1,pos,et⟩ : ∃ elts x1 pos,(genOf c).target = .Tuple elts x1 pos := by
    cases h : (genOf c).target with
    | Tuple elts x1 pos => exact ⟨_,_,_,rfl⟩
    | _ => rw [h] at ht; cases ht
  have H : wpAny (Md w) ((arOf st).under c) (PySem.letOwnedTupleGo (genOf c).target (itOf c) (.ref a)) (fun _ s' => s' = { s with heap := s.heap.update z (Obj.mapFields (·.setIfInBounds 0 .none)) }) (fun _ _ => False) s := by
    rw [et,hi]
    unfold PySem.letOwnedTupleGo
    refine wpAny_bind (wpAny_load hz ?_)
    show wpAny _ _ (if (["enumerate","zip","dict_itemiterator","dict_reverseitemiterator","odict_iterator","itertools.zip_longest","itertools.pairwise"].contains "zip" &&
      (#[Value.int a 0,.bool false,.bool false,.ref TI,.ref TO] : Array Value)[0]? == some (rawInt a)) = true then _ else _) _ _ s
    rw [if_pos (by simp [rawInt])]
    refine wpAny_bind (wpAny_rule ?_)
    exact wpAny_setField hz rfl (by simp) rfl
  unfold tL
  rw [← PySem.W.Fast.te1578499551869305889,← PySem.W.R.onRaiseR_eq,show mS = PySem.Sem.instMonad from PySem.W.Fast.te12456147031677567982.symm,Sem.onRaise_eq_wrap,Sem.bind_eq_wrap',Sem.wrap_wrap]
  obtain ⟨_,s',p',rfl,g⟩ := reach_wrap (p := p) H
  refine ⟨p',fun Z q => g Z ?_⟩
  unfold tU at q
  rw [← PySem.W.R.onRaiseR_eq,Sem.onRaise_eq_wrap] at q
  exact q
noncomputable def uD (P : Params) (sh k1 k2 A0 c0 t0 : Nat) : Obj := match sh with
  | 0 => dcT P [] 0
  | _ => dcT P [("item",k1,.ref A0),("sign",k2,.str ⟨#[c0]⟩ t0)] 2
noncomputable def uTO (sh A0 c0 t0 : Nat) : Obj := match sh with
  | 0 => Tup [.none,.none]
  | _ => Tup [.ref A0,.str ⟨#[c0]⟩ t0]
noncomputable def uTup (lo hi : Nat) (br : Bool) (l1 l2 : Nat) : Obj := Tup [.str ⟨#[lo]⟩ l1,.str ⟨#[hi]⟩ l2,.bool br]
theorem uC_tup (w : World) (star : Bool) (sz : Nat) : isTupE (genOf (uC w star sz)).target = true := by cases star <;> kernel_rfl
theorem uC_it (w : World) (star : Bool) (sz : Nat) : itOf (uC w star sz) = .ref (uO star sz 4) := by cases star <;> kernel_rfl
noncomputable def nthO : List (Nat × Obj) → Nat → Option (Nat × Obj)
  | [],_ => none
  | x :: l,i => match i with
    | 0 => some x
    | i + 1 => nthO l i
section
variable (w : World) (sz sz' tk' gz' Ls ep epw A lo hi l1 l2 zt c k1 k2 A0 c0 t0 : Nat) (star br : Bool) (z : Str) (I : Int) (vs ws : Array Value) (kk : Result → Sem Fin) (rest : List Frame) (sw : List (Code × Pos)) (pp : Pos) (sh : Nat)
noncomputable def uOwn (f0 : Value) (I : Int) (to : Obj) : List (Nat × Obj) :=
  [(uO star sz 6,uD w.params sh k1 k2 A0 c0 t0),(uO star sz 4,Zip f0 (uO star sz 2) (uO star sz 3)),(uO star sz 0,Lit Ls I),(uO star sz 1,Sit (.str z zt) I),(uO star sz 2,Tup [.ref (uO star sz 0),.ref (uO star sz 1)]),(uO star sz 3,to),
   (uO star sz 5,Lo ws epw),(Ls,Lo vs ep),(A,uTup lo hi br l1 l2)]
noncomputable def uL1 : Cf := st0 (den (uC w star sz)) (uC w star sz) pp (uS w star sz kk rest) ((uFn w star sz,uFp w) :: sw) [none,none] (uOwn w sz Ls ep epw A lo hi l1 l2 zt k1 k2 A0 c0 t0 star br z vs ws sh .none I (uTO sh A0 c0 t0)) sz' tk' gz' []
  [2,2,2,2,5,2,2,2,2,3,3,6,6,6,6,4,4,6,6,6,6,6,2,2,2,2] [] [(1,lnxO 2 (uO star sz 0) 7 Ls vs ep I (.ref A)),(2,snxO 3 (uO star sz 1) z zt I c)]
noncomputable def UL1End : Prop := EndOf w 0 38 (uL1 w sz sz' tk' gz' Ls ep epw A lo hi l1 l2 zt c k1 k2 A0 c0 t0 star br z I vs ws kk rest sw pp sh) [0,1,2,3,4,5,6,7,8,9]
   ⟨⟨tL (uC w star sz) sz',uC w star sz,(out (En0 w 0) 38 (uL1 w sz sz' tk' gz' Ls ep epw A lo hi l1 l2 zt c k1 k2 A0 c0 t0 star br z I vs ws kk rest sw pp sh)).p,uS w star sz kk rest⟩,
    (uOwn w sz Ls ep epw A lo hi l1 l2 zt k1 k2 A0 c0 t0 star br z vs ws sh (.int sz' 0) (I + 1) (Tup [.ref A,.str ⟨#[c]⟩ tk'])).map some ++ [some (sz',Tup [.ref A,.str ⟨#[c]⟩ tk'])],tk' + 1,sz' + 1,gz',[],[]⟩
theorem uL1_end (h : sh = 0 ∨ sh = 1) : UL1End w sz sz' tk' gz' Ls ep epw A lo hi l1 l2 zt c k1 k2 A0 c0 t0 star br z I vs ws kk rest sw pp sh := by
  rcases h with rfl | rfl <;> cases star <;> (unfold UL1End EndOf; kernel_rfl)
end
noncomputable def leO (a b : Nat) (r : Bool) : OE := oeP "str.__le__" [.s ⟨#[a]⟩,.s ⟨#[b]⟩] (fun _ => .bool r) 0
noncomputable def uApp (r1 r2 br : Bool) : Bool := match r1,r2,br with
  | true,true,true => true
  | true,true,false => false
  | true,false,true => false
  | true,false,false => true
  | false,_,true => false
  | false,_,false => true
noncomputable def uLs (r1 app : Bool) : List Nat := [10,10,10,10,11,11,11,11,11,10,11,11,11,11,11,11,10,11,11,11,11,11,11,10,11,11,13,1,1,1,1,1,9,9,9,9,9,1,1,9,9,9,9,9] ++ (match r1 with
  | true => [1,9,9,9,9,9]
  | false => []) ++ (match app with
  | true => [1,7]
  | false => [])
noncomputable def uN2 (r1 app : Bool) : Nat := match r1,app with
  | true,true => 117
  | true,false => 112
  | false,true => 101
  | false,false => 96
noncomputable def uEv (r1 app : Bool) : List Nat := match r1,app with
  | true,true => [5,7,10]
  | true,false => [5,7]
  | false,true => [5,8]
  | false,false => [5]
noncomputable def uOs (r1 r2 app : Bool) (lo hi c a epw : Nat) (ws : Array Value) : List OE := match r1,app with
  | true,true => [leO lo c true,leO c hi r2,oeApp 6 a ws epw (.s ⟨#[c]⟩)]
  | true,false => [leO lo c true,leO c hi r2]
  | false,true => [leO lo c false,oeApp 6 a ws epw (.s ⟨#[c]⟩)]
  | false,false => [leO lo c false]
noncomputable def uKey (sh k t : Nat) : Nat := match sh with
  | 0 => t
  | _ => k
noncomputable def uDt (r1 : Bool) : Nat := match r1 with
  | true => 5
  | false => 4
noncomputable def uWs (app : Bool) (ws : Array Value) (v : Value) : Array Value := match app with
  | true => ws.push v
  | false => ws
noncomputable def uEp (app : Bool) (e : Nat) : Nat := match app with
  | true => e + 1
  | false => e
section
variable (w : World) (sz sz' tk' gz' Ls ep epw A lo hi l1 l2 zt c tc k1 k2 A0 c0 t0 a : Nat) (star br : Bool) (z : Str) (I : Int) (vs ws : Array Value) (kk : Result → Sem Fin) (rest : List Frame) (sw : List (Code × Pos)) (pp : Pos) (sh : Nat) (r1 r2 : Bool)
noncomputable def uL2 : Cf := st0 (tU (uC w star sz) a) (uC w star sz) pp (uS w star sz kk rest) ((uFn w star sz,uFp w) :: sw) [none,none] (uOwn w sz Ls ep epw A lo hi l1 l2 zt k1 k2 A0 c0 t0 star br z vs ws sh .none I (Tup [.ref A,.str ⟨#[c]⟩ tc]) ++ [(a,Tup [.ref A,.str ⟨#[c]⟩ tc])]) sz' tk' gz' []
  (uLs r1 (uApp r1 r2 br)) (match r1 with | true => [1,0,0,1,1,1] | false => [1,0,0,1,1]) (zipE (uEv r1 (uApp r1 r2 br)) (uOs r1 r2 (uApp r1 r2 br) lo hi c (uO star sz 5) epw ws))
noncomputable def UL2End : Prop := EndOf w 0 (uN2 r1 (uApp r1 r2 br)) (uL2 w sz sz' tk' gz' Ls ep epw A lo hi l1 l2 zt c tc k1 k2 A0 c0 t0 a star br z I vs ws kk rest sw pp sh r1 r2) [0,1,2,3,4,5,6,7,8]
   ⟨⟨den (uC w star sz),uC w star sz,(out (En0 w 0) (uN2 r1 (uApp r1 r2 br)) (uL2 w sz sz' tk' gz' Ls ep epw A lo hi l1 l2 zt c tc k1 k2 A0 c0 t0 a star br z I vs ws kk rest sw pp sh r1 r2)).p,uS w star sz kk rest⟩,
    (uOwn w sz Ls ep (uEp (uApp r1 r2 br) epw) A lo hi l1 l2 zt (uKey sh k1 tk') (uKey sh k2 (tk' + 1)) A c tc star br z vs (uWs (uApp r1 r2 br) ws (.str ⟨#[c]⟩ tc)) 1 .none I (Tup [.ref A,.str ⟨#[c]⟩ tc])).map some,tk' + uDt r1,sz' + 3,gz',[],[]⟩
theorem uL2_end (h : sh = 0 ∨ sh = 1) (h2 : r1 = false → r2 = false) : UL2End w sz sz' tk' gz' Ls ep epw A lo hi l1 l2 zt c tc k1 k2 A0 c0 t0 a star br z I vs ws kk rest sw pp sh r1 r2 := by
  have H : ∀ u ∈ lpr (lpr (lpr [0,1] [false,true]) [false,true]) [(true,true),(true,false),(false,false)],UL2End w sz sz' tk' gz' Ls ep epw A lo hi l1 l2 zt c tc k1 k2 A0 c0 t0 a u.1.1.2 u.1.2 z I vs ws kk rest sw pp u.1.1.1 u.2.1 u.2.2 := all_of (by kernel_rfl)
  refine H (((sh,star),br),(r1,r2)) (mem_lpr (mem_lpr (mem_lpr (mem_2 h) (mem_ft star)) (mem_ft br)) ?_)
  cases r1 with
  | true => cases r2 <;> decide
  | false =>
    obtain rfl := h2 rfl
    decide
end
noncomputable def lenT (pos : List Value) : Sem Fin := match pos with
  | [v] => @bind PySem.Sem mS.toBind _ _ (PySem.W.Fast.tw17858455048448223758 v 0 .none) fun _ => PySem.W.Fast.tw17615448654315672387
  | _ => .unsupported "args"
noncomputable def lendO (i1 a i2 Ls : Nat) (vs : Array Value) (ep : Nat) (I : Int) : OE := ⟨PySem.code "list_iterator.__next__",[.r a],[(i1,a,Lit Ls I),(i2,Ls,Lo vs ep)],fun _ => [],fun _ => [],fun _ _ _ => .none,0,some lenT⟩
noncomputable def leqO (i1 a : Nat) (ws : Array Value) (e1 : Nat) (i2 b : Nat) (r : Bool) : OE := ⟨PySem.code "list.__eq__",[.r a,.r b],[(i1,a,Lo ws e1),(i2,b,Lo #[] 0)],fun _ => [],fun _ => [],fun _ _ _ => .bool r,0,none⟩
section
variable (w : World) (cx : Cx) (sz tk gz t Ls ep : Nat) (x z : Str) (nx ni : Int) (vs : Array Value) (k : Result → Sem Fin) (g : Bool) (lv : List Value) (pp : Pos) (rest : List Frame) (tf : Nat → List Value → Nat) (d : Nat) (star : Bool)
variable (sz' tk' gz' epw zt k1 k2 A0 c0 t0 sh : Nat) (I nt : Int) (ws : Array Value) (pp' : Pos) (r : Bool)
noncomputable def uX : Cf := st0 (den (uC w star sz)) (uC w star sz) pp' (uS w star sz (kOf (uAo w cx sz tk gz t Ls ep x z nx ni vs k g lv pp rest tf d star)) (.ret k none g lv cx.c cx.p [] :: rest)) ((uFn w star sz,uFp w) :: (cx.c,cx.p) :: cx.sw) [none,none,none]
  [(uO star sz 6,uD w.params sh k1 k2 A0 c0 t0),(uO star sz 4,Zip .none (uO star sz 2) (uO star sz 3)),(uO star sz 0,Lit Ls I),(uO star sz 1,Sit (.str (uZ star x z) (uZt star x t tk tf sz)) I),(uO star sz 2,Tup [.ref (uO star sz 0),.ref (uO star sz 1)]),(uO star sz 3,uTO sh A0 c0 t0),
   (uO star sz 5,Lo ws epw),(Ls,Lo vs ep),(sz,uF w star tk Ls x z t tf d sz)] sz' tk' gz' []
  ([2,2,2,2,5,2,2,2,2,3,3,3,3,2,2,11,9,9] ++ (match sh with | 0 => [1,1] | _ => [1,1,1,1,1,1]) ++ [0,0,9,0,0,9,9,7,12,7,7]) [0,1,1]
  [(1,lendO 2 (uO star sz 0) 7 Ls vs ep I),(2,oeLenV (.s (uZ star x z)) [] nt),(3,oeLenV (.r Ls) [(7,Ls,Lo vs ep)] nt),(4,oeP "int.__eq__" [.i nt,.i nt] (fun _ => .bool true) 0),(5,leqO 6 (uO star sz 5) ws epw 11 (sz' + 2) r)]
noncomputable def uXn (sh : Nat) : Nat := match sh with
  | 0 => 76
  | _ => 84
theorem uX_end (hx : cx.lc = true) (hs : sh = 0 ∨ sh = 1) : EndR w 0 (uXn sh) (uX w cx sz tk gz t Ls ep x z nx ni vs k g lv pp rest tf d star sz' tk' gz' epw k1 k2 A0 c0 t0 sh I nt ws pp' r) [7] (.b r) (.ret k none g lv cx.c cx.p [] :: rest) [some (Ls,Lo vs ep)] [] := by
  cases cx with
  | D st env q' => cases hx
  | L t it b o e p' st env q' => rcases hs with rfl | rfl <;> cases star <;> (unfold EndR; kernel_rfl)
  | C => rcases hs with rfl | rfl <;> cases star <;> (unfold EndR; kernel_rfl)
end
theorem siO_ok {w : World} {x : Str} (h : x.cps.all (· < 128) = true) : OEk w (siO x) :=
  oe_of (b := Builtin.«str.__iter__») rfl (entryFor_of_tree (by kernel_rfl)) fun A E s pos hp _ _ => by
    obtain ⟨p,rfl,h1⟩ := args1 hp; obtain ⟨t,rfl⟩ := strip_s h1
    show wpAny _ _ (newFields (if (true && x.cps.all (· < 128)) = true then "str_ascii_iterator" else "str_iterator") [.str x t,rawInt 0] >>= _) _ _ s
    rw [h]
    refine wpAny_bind ?_
    exact wpAny_newObj_type (wpAny_pure ⟨_,rfl,rfl,rfl⟩) (by size_fits)
theorem lnxO_ok {w : World} {i1 a i2 Ls ep i : Nat} {vs : Array Value} {v : Value} (h : vs[i]? = some v) : OEk w (lnxO i1 a i2 Ls vs ep i v) :=
  oe_of (b := Builtin.«list_iterator.__next__») rfl (entryFor_of_tree (by kernel_rfl)) fun A E s pos hp hn _ => by
    obtain ⟨p,rfl,h1⟩ := args1 hp; obtain rfl := strip_r h1
    have ho : s.heap.get? a = some (Lit Ls i) := hn _ (.head _)
    have hl : s.heap.get? Ls = some (Lo vs ep) := hn _ (.tail _ (.head _))
    show wpAny _ _ (field (.ref a) 0 >>= _) _ _ s
    refine wpAny_bind (wpAny_field ho rfl (x := .ref Ls) rfl ?_)
    rw [if_neg (by simp)]
    show wpAny _ _ (field (.ref a) 1 >>= _) _ _ s
    refine wpAny_bind (wpAny_field ho rfl (x := .int i 0) rfl ?_)
    show wpAny _ _ (seqItems? (.ref Ls) >>= _) _ _ s
    refine wpAny_bind (wpAny_seqItems hl rfl ?_)
    have h' : vs[(i : Int).toNat]? = some v := by rw [Int.toNat_natCast]; exact h
    show wpAny _ _ (match vs[(i : Int).toNat]? with
      | some x => setField (.ref a) 1 (rawInt ((i : Int) + 1)) >>= fun _ => ret x
      | none => _) _ _ s
    rw [h']
    refine wpAny_bind (wpAny_setField ho rfl (by simp) ?_)
    have e := update_const ho (Obj.mapFields (·.setIfInBounds 1 (rawInt ((i : Int) + 1))))
    rw [e]
    exact wpAny_pure ⟨_,rfl,rfl,rfl⟩
theorem snxO_ok {w : World} {i1 a t i c : Nat} {z : Str} (h : z.cps[i]? = some c) : OEk w (snxO i1 a z t i c) :=
  oe_of (b := Builtin.«str_ascii_iterator.__next__») rfl (entryFor_of_tree (by kernel_rfl)) fun A E s pos hp hn _ => by
    obtain ⟨p,rfl,h1⟩ := args1 hp; obtain rfl := strip_r h1
    have ho : s.heap.get? a = some (Sit (.str z t) i) := hn _ (.head _)
    show wpAny _ _ (field (.ref a) 0 >>= _) _ _ s
    refine wpAny_bind (wpAny_field ho rfl (x := .str z t) rfl ?_)
    show wpAny _ _ (field (.ref a) 1 >>= _) _ _ s
    refine wpAny_bind (wpAny_field ho rfl (x := .int i 0) rfl ?_)
    simp only [Int.toNat_natCast,h]
    refine wpAny_bind (wpAny_setField ho rfl (by simp) (wpAny_bind (wpAny_mkStr ?_ (by show 1 ≤ 2 ^ 24; decide))))
    have e := update_const ho (Obj.mapFields (·.setIfInBounds 1 (rawInt ((i : Int) + 1))))
    rw [e]
    exact wpAny_pure ⟨_,rfl,rfl,rfl⟩
theorem leqO_ok {w : World} {i1 a e1 i2 b : Nat} {ws : Array Value} {r : Bool} (h : (ws.size == 0) = r) : OEk w (leqO i1 a ws e1 i2 b r) :=
  oe_meets rfl (by decide +kernel) (entryFor_of_tree (by kernel_rfl)) fun s pos hp hn _ => by
    refine xE2 (args2 hp) fun p q hx => xA2 hx fun q2 h1 h2 => ?_; clear hx; obtain rfl := q2; obtain rfl := strip_r h1; obtain rfl := strip_r h2
    by_cases q : ws.size = 0
    · have e : ws = #[] := Array.eq_empty_of_size_eq_zero q
      subst e
      subst h
      exact ⟨_,MeetsSeq3.list_eq a b #[] #[] e1 0 rfl (fun _ => true) (fun j h => by simp at h),fun A R r => ⟨hn _ (.head _),hn _ (.tail _ (.head _)),r⟩⟩
    · have : r = false := by rw [← h]; simpa using q
      subst this
      exact ⟨_,AutoSeq1.list___eq___list_list_0 a ws e1 b #[] 0 (by simpa using q),fun A R r => ⟨hn _ (.head _),hn _ (.tail _ (.head _)),r⟩⟩
theorem good_bind_wp {w : World} {Q : Result → Shared → Prop} {α : Type} {s : Shared} {t : Sem α} {K : α → Sem Fin} {c : Code} {p : Pos} {st : List Frame}
    (h : Sem.wp (Md w) (Ctx.of c st) t (fun a p' s' => Good w Q s' ⟨K a,c,p',st⟩) (fun _ _ _ => False) p s) : Good w Q s ⟨t >>= K,c,p,st⟩ := by
  have e : Ctx.of c st = (⟨c,none,none,[],none⟩ : Ctx).over st := by
    have := Ctx.of_append c st []
    rw [List.append_nil] at this
    exact this
  rw [e] at h
  have := runs_wrap_of_wp (fs := st) (Φ := fun e s' => ∃ r,e = .ret r ∧ leftWithCleanup s'.gens = false ∧ Q r s') K .raise id id t h
    (fun a p' s' g => by obtain ⟨r,s'',x,y⟩ := good_iff.mp g; exact ⟨_,s'',x,r,rfl,y⟩)
    (fun a p' s' g => g.elim)
  refine xE2 this fun _ s'' hx => xA1 hx fun x hx => xE1 hx fun r hx => xA1 hx fun q4 y => ?_; clear hx; clear hx; clear hx; clear this; obtain rfl := q4
  have e2 : t.wrap K .raise id id = t >>= K := (Sem.bind_eq_wrap ..).symm
  rw [e2] at x
  exact good_iff.mpr ⟨r,s'',x,y⟩
theorem wp_field {M : Model} {Γ : Ctx} {E : Value → Pos → Shared → Prop} {p : Pos} {s : Shared} {a : Nat} {o : Obj} {vs : Array Value} {i : Nat} {x : Value} {Q : Value → Pos → Shared → Prop} (ho : s.heap.get? a = some o) (hd : o.data = .fields vs) (hi : vs[i]? = some x) (h : Q x p s) : Sem.wp M Γ (field (.ref a) i) Q E p s := by
  unfold field fieldsOf
  rw [Sem.wp_bind',Sem.wp_bind',Sem.wp_load_of _ _ _ _ _ ho]
  rw [hd]
  show Sem.wp M Γ (match vs[i]? with | some v => pure v | none => _) Q E p s
  rw [hi]
  exact h
theorem wp_seq {M : Model} {Γ : Ctx} {E : Value → Pos → Shared → Prop} {p : Pos} {s : Shared} {a : Nat} {o : Obj} {vs : Array Value} {n : Nat} {Q : Option (Array Value) → Pos → Shared → Prop} (ho : s.heap.get? a = some o) (hd : o.data = .seq vs n) (h : Q (some vs) p s) : Sem.wp M Γ (seqItems? (.ref a)) Q E p s := by
  simp only [seqItems?]
  rw [Sem.wp_bind',Sem.wp_load_of _ _ _ _ _ ho]
  rw [hd]
  exact h
theorem lend_tree {w : World} {a Ls ep : Nat} {i : Int} {vs : Array Value} {s : Shared} {p : Pos} {st : List Frame} (ho : s.heap.get? a = some (Lit Ls i)) (hl : s.heap.get? Ls = some (Lo vs ep)) (h : vs[i.toNat]? = none) :
    ∀ R,Good w R s ⟨lenT [.ref a],.builtin "list_iterator.__next__" ⟨[.ref a],[]⟩,p,st⟩ → Good w R s ⟨den (.builtin "list_iterator.__next__" ⟨[.ref a],[]⟩),.builtin "list_iterator.__next__" ⟨[.ref a],[]⟩,p,st⟩ := by
  intro R G
  rw [den_builtin (b := Builtin.«list_iterator.__next__») (entryFor_of_tree (by kernel_rfl))]
  have eT : lenT [.ref a] = (setField (.ref a) 0 .none >>= fun _ => Builtin.SmallTypes.stopIteration) := by
    unfold lenT mS
    rw [← PySem.W.Fast.te17858455048448223758,← PySem.W.Fast.te17615448654315672387,← PySem.W.Fast.te12456147031677567982]
  rw [eT] at G
  show Good w R s ⟨field (.ref a) 0 >>= _,_,p,st⟩
  refine good_bind_wp (wp_field ho rfl (x := .ref Ls) rfl ?_)
  rw [if_neg (by simp)]
  show Good w R s ⟨field (.ref a) 1 >>= _,_,p,st⟩
  refine good_bind_wp (wp_field ho rfl (x := .int i 0) rfl ?_)
  show Good w R s ⟨seqItems? (.ref Ls) >>= _,_,p,st⟩
  refine good_bind_wp (wp_seq hl rfl ?_)
  show Good w R s ⟨match vs[i.toNat]? with
      | some x => setField (.ref a) 1 (rawInt (i + 1)) >>= fun _ => ret x
      | none => rule _ >>= fun _ => setField (.ref a) 0 .none >>= fun _ => Builtin.SmallTypes.stopIteration,_,p,st⟩
  rw [h]
  exact good_bind_wp (t := rule _) G
theorem lendO_ok {w : World} {i1 a i2 Ls ep i : Nat} {vs : Array Value} (h : vs.size ≤ i) : OEk w (lendO i1 a i2 Ls vs ep i) := by
  refine ⟨(fun h => nomatch h),fun T hT s id pos p st hid hp hn R G => ?_⟩
  cases hT
  have : id = "list_iterator.__next__" := PySem.code_inj _ _ hid
  subst this
  obtain ⟨x,rfl,h1⟩ := args1 hp; obtain rfl := strip_r h1
  exact lend_tree (hn _ (.head _)) (hn _ (.tail _ (.head _))) (by rw [Int.toNat_natCast]; exact Array.getElem?_eq_none h) R G
theorem Ext.drop {u v : Nat → Prop} {s s' : Shared} (X : Ext u s s') (h : ∀ b o,s.heap.get? b = some o → u b → ¬ v b → s'.heap.get? b = some o) : Ext v s s' :=
  ⟨fun b o e nv => Classical.byCases (fun hu : u b => h b o e hu nv) (fun hu => X.keep b o e hu),X.size,X.gens,X.os,X.drawn,X.life⟩
theorem Ext.upd {w : World} {s : Shared} {z : Nat} {f : Obj → Obj} (I : Inv w s) : Ext (fun b => b = z) s { s with heap := s.heap.update z f } :=
  ⟨fun b o e nb => by
    have := Heap.get?_update_other s.heap f (Ne.symm nb)
    show (s.heap.update z f).get? b = _
    rw [this]; exact e,by show _ ≤ (s.heap.update z f).objs.size; rw [show (s.heap.update z f).objs.size = s.heap.objs.size from Array.size_modify ..]; exact Nat.le_refl _,I.gens,rfl,rfl,rfl⟩
noncomputable def ItemR (lo hi : Nat) (s : Shared) (v : Value) (it : Nat × Nat × Bool) : Prop := ∃ A t1 t2,lo < A ∧ A < hi ∧ v = .ref A ∧ s.heap.get? A = some (uTup it.1 it.2.1 it.2.2 t1 t2)
inductive ItemsR (lo hi : Nat) (s : Shared) : List Value → List (Nat × Nat × Bool) → Prop
  | nil : ItemsR lo hi s [] []
  | cons {v : Value} {it : Nat × Nat × Bool} {l : List Value} {its : List (Nat × Nat × Bool)} : ItemR lo hi s v it → ItemsR lo hi s l its → ItemsR lo hi s (v :: l) (it :: its)
theorem ItemsR.keep {lo hi : Nat} {s s' : Shared} {u : Nat → Prop} (X : Ext u s s') (hu : ∀ b,u b → b ≤ lo ∨ hi ≤ b) {l : List Value} {its : List (Nat × Nat × Bool)} (h : ItemsR lo hi s l its) : ItemsR lo hi s' l its := by
  induction h with
  | nil => exact .nil
  | cons h _ ih =>
    refine xE3 h fun A t1 t2 hx => xA3 hx fun a a2 b c => ?_; clear hx; clear h
    exact .cons ⟨A,t1,t2,a,a2,b,X.keep A _ c fun q => by have := hu A q; lia⟩ ih
theorem ItemsAt.toR {Li : Nat} {s : Shared} {l : List Value} {its : List (Nat × Nat × Bool)} (h : ItemsAt Li s l its) : ItemsR Li s.heap.objs.size s l its := by
  induction h with
  | nil => exact .nil
  | cons h _ ih =>
    refine xE3 h fun A t1 t2 hx => xA2 hx fun a b c => ?_; clear hx; clear h
    exact .cons ⟨A,t1,t2,a,Heap.lt_size c,b,c⟩ ih
theorem ItemsR.get {lo hi : Nat} {s : Shared} {l : List Value} {its : List (Nat × Nat × Bool)} (h : ItemsR lo hi s l its) : ∀ (i : Nat) (it : Nat × Nat × Bool),its[i]? = some it → ∃ v,l[i]? = some v ∧ ItemR lo hi s v it := by
  induction h with
  | nil => intro i it e; cases e
  | cons h _ ih =>
    intro i it e
    match i with
    | 0 => cases e; exact ⟨_,rfl,h⟩
    | i + 1 => exact ih i it e
theorem ItemsR.len {lo hi : Nat} {s : Shared} {l : List Value} {its : List (Nat × Nat × Bool)} (h : ItemsR lo hi s l its) : l.length = its.length := by
  induction h with
  | nil => rfl
  | cons _ _ ih => simp [ih]
noncomputable def okI (it : Nat × Nat × Bool) (c : Nat) : Bool := (decide (it.1 ≤ c) && decide (c ≤ it.2.1)) != it.2.2
theorem uO_gt (star : Bool) (sz j : Nat) : sz + 1 + j ≤ uO star sz j ∧ uO star sz j ≤ sz + 2 + j := by cases star <;> (simp only [uO]; lia)
theorem uO_lt (star : Bool) (sz : Nat) {i j : Nat} (h : i < j) : uO star sz i < uO star sz j := by cases star <;> (simp only [uO]; lia)
noncomputable def updU (sz b : Nat) : Prop := sz + 1 ≤ b ∧ b ≤ sz + 8
noncomputable abbrev uIs : List Nat := [6,4,0,1,2,3,5]
theorem uIs_mem {star : Bool} {sz q : Nat} (h : q ∈ uIs.map (uO star sz)) : updU sz q := by
  obtain ⟨i,hi,rfl⟩ := List.mem_map.1 h
  have := (by decide : ∀ i ∈ uIs,i ≤ 6) i hi
  exact ⟨Nat.le_trans (Nat.le_add_right _ _) (uO_gt star sz i).1,Nat.le_trans (uO_gt star sz i).2 (Nat.add_le_add_left this _)⟩
theorem uIs_nd {star : Bool} {sz : Nat} {r : List Nat} (k : r.Nodup) (d : ∀ p ∈ r,p ≤ sz ∨ sz + 8 < p) : (uIs.map (uO star sz) ++ r).Nodup := by
  refine List.nodup_append.2 ⟨?_,k,fun a ha b hb e => ?_⟩
  · refine List.Pairwise.map _ (R := (· ≠ ·)) (fun a b (h : a ≠ b) e => ?_) (by decide : uIs.Nodup)
    rcases Nat.lt_or_gt_of_ne h with h | h
    · exact Nat.ne_of_lt (uO_lt star sz h) e
    · exact Nat.ne_of_gt (uO_lt star sz h) e
  · have := uIs_mem ha
    rcases d b hb with h | h
    · exact absurd (Nat.le_trans (e ▸ this.1) h) (Nat.not_succ_le_self _)
    · exact Nat.not_lt.2 (e ▸ this.2) h
theorem nd2 {a b : Nat} (h : a < b) : [a,b].Nodup := List.nodup_cons.2 ⟨fun q => Nat.ne_of_lt h (List.mem_singleton.1 q),List.nodup_cons.2 ⟨List.not_mem_nil,List.nodup_nil⟩⟩
theorem nd9u {star : Bool} {sz Ls A : Nat} (h1 : Ls < sz) (h2 : A < sz) (h3 : Ls < A) : [uO star sz 6,uO star sz 4,uO star sz 0,uO star sz 1,uO star sz 2,uO star sz 3,uO star sz 5,Ls,A].Nodup :=
  uIs_nd (r := [Ls,A]) (nd2 h3) (List.forall_mem_cons.2 ⟨.inl (Nat.le_of_lt h1),List.forall_mem_cons.2 ⟨.inl (Nat.le_of_lt h2),fun _ h => nomatch h⟩⟩)
theorem nd9x {star : Bool} {sz Ls : Nat} (h1 : Ls < sz) : [uO star sz 6,uO star sz 4,uO star sz 0,uO star sz 1,uO star sz 2,uO star sz 3,uO star sz 5,Ls,sz].Nodup :=
  uIs_nd (r := [Ls,sz]) (nd2 h1) (List.forall_mem_cons.2 ⟨.inl (Nat.le_of_lt h1),List.forall_mem_cons.2 ⟨.inl (Nat.le_refl _),fun _ h => nomatch h⟩⟩)
theorem mem9 {star : Bool} {sz Ls A q : Nat} (h : q ∈ [uO star sz 6,uO star sz 4,uO star sz 0,uO star sz 1,uO star sz 2,uO star sz 3,uO star sz 5,Ls,A]) : updU sz q ∨ q = Ls ∨ q = A :=
  ((List.mem_append (s := uIs.map (uO star sz)) (t := [Ls,A])).1 h).imp uIs_mem fun h => (List.mem_cons.1 h).imp_right List.mem_singleton.1
theorem mem10 {star : Bool} {sz Ls A a q : Nat} (h : q ∈ [uO star sz 6,uO star sz 4,uO star sz 0,uO star sz 1,uO star sz 2,uO star sz 3,uO star sz 5,Ls,A,a]) : updU sz q ∨ q = Ls ∨ q = A ∨ q = a :=
  ((List.mem_append (s := uIs.map (uO star sz)) (t := [Ls,A,a])).1 h).imp uIs_mem fun h => (List.mem_cons.1 h).imp_right fun h => (List.mem_cons.1 h).imp_right List.mem_singleton.1
structure UState (w : World) (star : Bool) (sz Ls ep : Nat) (vs : Array Value) (z : Str) (zt : Nat) (fr : Obj) (its : List (Nat × Nat × Bool)) (i : Nat) (ws : Array Value) (s : Shared) : Prop where
  inv : Inv w s
  d : ∃ sh k1 k2 A0 c0 t0,(sh = 0 ∨ sh = 1) ∧ s.heap.get? (uO star sz 6) = some (uD w.params sh k1 k2 A0 c0 t0) ∧ s.heap.get? (uO star sz 3) = some (uTO sh A0 c0 t0)
  zp : s.heap.get? (uO star sz 4) = some (Zip .none (uO star sz 2) (uO star sz 3))
  li : s.heap.get? (uO star sz 0) = some (Lit Ls i)
  si : s.heap.get? (uO star sz 1) = some (Sit (.str z zt) i)
  ti : s.heap.get? (uO star sz 2) = some (Tup [.ref (uO star sz 0),.ref (uO star sz 1)])
  acc : ∃ e,s.heap.get? (uO star sz 5) = some (Lo ws e)
  ls : s.heap.get? Ls = some (Lo vs ep)
  fr : s.heap.get? sz = some fr
  aL : 268 ≤ Ls
  lt : Ls < sz
  items : ItemsR Ls sz s vs.toList its
theorem le_one {w : World} {a b : Nat} : OEk w (leO a b (decide (a ≤ b))) := by
  refine oeLeS ?_
  show (!decide ([b] < [a])) = _
  by_cases h : a ≤ b
  · have : ¬ [b] < [a] := by
      intro q
      rcases List.cons_lt_cons_iff.mp q with q | ⟨_,q⟩
      · lia
      · cases q
    simp [h,this]
  · have : [b] < [a] := List.cons_lt_cons_iff.mpr (.inl (by lia))
    simp [h,this]
theorem uApp_eq (a b br : Bool) : uApp a b br = ((a && b) == br) := by cases a <;> cases b <;> cases br <;> rfl
theorem r12 (it : Nat × Nat × Bool) (c : Nat) : ∃ r1 r2,decide (it.1 ≤ c) = r1 ∧ (r1 = true → decide (c ≤ it.2.1) = r2) ∧ (r1 = false → r2 = false) ∧ uApp r1 r2 it.2.2 = !okI it c := by
  refine ⟨decide (it.1 ≤ c),decide (it.1 ≤ c) && decide (c ≤ it.2.1),rfl,fun h => by rw [h]; rfl,fun h => by rw [h]; rfl,?_⟩
  rw [uApp_eq]
  unfold okI
  generalize decide (it.1 ≤ c) = a
  generalize decide (c ≤ it.2.1) = b
  generalize it.2.2 = d
  cases a <;> cases b <;> cases d <;> rfl
section
variable {w : World} {cx : Cx} {star : Bool} {sz Ls ep zt : Nat} {vs : Array Value} {z : Str} {fr : Obj} {its : List (Nat × Nat × Bool)} {kk k : Result → Sem Fin} {g : Bool} {lv : List Value} {rest : List Frame} (U : Und rest cx.sw)
include U
theorem u_turn {s : Shared} {i c : Nat} {ws : Array Value} {it : Nat × Nat × Bool} (P : UState w star sz Ls ep vs z zt fr its i ws s) (hi : its[i]? = some it) (hc : z.cps[i]? = some c) (hw : ws.size ≤ sizeLine) (pp : Pos) :
    ∃ s' ws' pp',UState w star sz Ls ep vs z zt fr its (i + 1) ws' s' ∧ ((ws'.size == 0) = ((ws.size == 0) && okI it c)) ∧ ws'.size ≤ ws.size + 1 ∧ Ext (updU sz) s s' ∧
      ∀ Z,Good w Z s' ⟨den (uC w star sz),uC w star sz,pp',uS w star sz kk (.ret k none g lv cx.c cx.p [] :: rest)⟩ → Good w Z s ⟨den (uC w star sz),uC w star sz,pp,uS w star sz kk (.ret k none g lv cx.c cx.p [] :: rest)⟩ := by
  refine gv fun GG hGG => ?_
  obtain ⟨inv,⟨sh,k1,k2,A0,c0,t0,hsh,hd,hto⟩,hzp,hli,hsi,hti,⟨epw,hacc⟩,hls,hfr,aL,ltL,items⟩ := P
  refine xE1 (items.get i it hi) fun v hx => xA1 hx fun hv hx => xE3 hx fun A l1 l2 hx => xA3 hx fun a1 a2 q7 hA => ?_; clear hx; clear hx; clear hx; obtain rfl := q7
  have U1 := (U.cons k g lv cx.c cx.p).cons kk true [.ref (uO star sz 6),.ref (uO star sz 5)] (uFn w star sz) (uFp w)
  have nd := nd9u (star := star) ltL a2 a1
  have big : sz + 8 < s.heap.objs.size ∨ sz + 7 < s.heap.objs.size := by
    have := Heap.lt_size hd
    have h6 := (uO_gt star sz 6).1
    right
    exact Nat.lt_of_le_of_lt (by lia) this
  have g6 : ∀ j,j ≤ 6 → 268 ≤ uO star sz j := fun j _ => by have := (uO_gt star sz j).1; lia
  have O9 : OwnL 0 (uOwn w sz Ls ep epw A it.1 it.2.1 l1 l2 zt k1 k2 A0 c0 t0 star it.2.2 z vs ws sh .none i (uTO sh A0 c0 t0)) s.heap := by
    refine own_nodup ?_ nd
    unfold uOwn
    simp only [List.forall_mem_cons]
    exact ⟨⟨g6 6 (by lia),hd⟩,⟨g6 4 (by lia),hzp⟩,⟨g6 0 (by lia),hli⟩,⟨g6 1 (by lia),hsi⟩,⟨g6 2 (by lia),hti⟩,⟨g6 3 (by lia),hto⟩,⟨g6 5 (by lia),hacc⟩,⟨aL,hls⟩,⟨by lia,hA⟩,fun _ h => nomatch h⟩
  have hv' : vs[i]? = some (.ref A) := by rw [← Array.getElem?_toList]; exact hv
  have hO1 : ∀ y ∈ ([(1,lnxO 2 (uO star sz 0) 7 Ls vs ep i (.ref A)),(2,snxO 3 (uO star sz 1) z zt i c)] : List (Nat × OE)),OEk w y.2 := by
    simp only [List.forall_mem_cons]
    exact ⟨lnxO_ok hv',snxO_ok hc,fun _ h => nomatch h⟩
  have H1 := uL1_end w sz s.heap.objs.size s.toks s.gens.size Ls ep epw A it.1 it.2.1 l1 l2 zt c k1 k2 A0 c0 t0 star it.2.2 z i vs ws kk (.ret k none g lv cx.c cx.p [] :: rest) ((cx.c,cx.p) :: cx.sw) pp sh hsh
  unfold UL1End uL1 at H1
  refine segE inv O9 (p := pp) U1.w (hd := [none,none]) ⟨U.h,U.h,trivial⟩ (ch := []) (fun a vs e => (chNil e).elim) H1 hO1 glNil fun s1 X1 ob1 etk1 esz1 egz1 tb1 G1 => ?_
  have lt6 : uO star sz 6 < s.heap.objs.size := Heap.lt_size hd
  have f0 : ∀ {y : Nat × Obj},y ∈ uOwn w sz Ls ep epw A it.1 it.2.1 l1 l2 zt k1 k2 A0 c0 t0 star it.2.2 z vs ws sh (.int s.heap.objs.size 0) (i + 1) (Tup [.ref A,.str ⟨#[c]⟩ s.toks]) → s1.heap.get? y.1 = some y.2 :=
    fun {y} h => ob1 y (List.mem_append.mpr (.inl (List.mem_map_of_mem h)))
  have hT : s1.heap.get? s.heap.objs.size = some (Tup [.ref A,.str ⟨#[c]⟩ s.toks]) := ob1 (s.heap.objs.size,_) (List.mem_append.mpr (.inr (.head _)))
  have hd1 := f0 (y := (uO star sz 6,_)) (.head _)
  have hzp1 := f0 (y := (uO star sz 4,_)) (.tail _ (.head _))
  have hli1 := f0 (y := (uO star sz 0,_)) (.tail _ (.tail _ (.head _)))
  have hsi1 := f0 (y := (uO star sz 1,_)) (.tail _ (.tail _ (.tail _ (.head _))))
  have hti1 := f0 (y := (uO star sz 2,_)) (.tail _ (.tail _ (.tail _ (.tail _ (.head _)))))
  have hto1 := f0 (y := (uO star sz 3,_)) (.tail _ (.tail _ (.tail _ (.tail _ (.tail _ (.head _))))))
  have hacc1 := f0 (y := (uO star sz 5,_)) (.tail _ (.tail _ (.tail _ (.tail _ (.tail _ (.tail _ (.head _)))))))
  have hls1 := f0 (y := (Ls,_)) (.tail _ (.tail _ (.tail _ (.tail _ (.tail _ (.tail _ (.tail _ (.head _))))))))
  have hA1 := f0 (y := (A,_)) (.tail _ (.tail _ (.tail _ (.tail _ (.tail _ (.tail _ (.tail _ (.tail _ (.head _)))))))))
  have X1' : Ext (updU sz) s s1 := (X1.mono (v := fun q => q ∈ [uO star sz 6,uO star sz 4,uO star sz 0,uO star sz 1,uO star sz 2,uO star sz 3,uO star sz 5,Ls,A]) fun q hq => by
    rcases hq with hq | ⟨vs,e⟩
    · exact upd_mem hq
    · exact (chNil e).elim).drop fun b o e hu nv => by
      rcases mem9 hu with h | h | h
      · exact absurd h nv
      · subst h; rw [hls] at e; cases e; exact hls1
      · subst h; rw [hA] at e; cases e; exact hA1
  have inv1 : Inv w s1 := X1'.inv inv fun b hb => .inl (by unfold updU at hb; lia)
  obtain ⟨p2,G2⟩ := reach_own (p := (out (En0 w 0) 38 (uL1 w sz s.heap.objs.size s.toks s.gens.size Ls ep epw A it.1 it.2.1 l1 l2 zt c k1 k2 A0 c0 t0 star it.2.2 z i vs ws kk (.ret k none g lv cx.c cx.p [] :: rest) ((cx.c,cx.p) :: cx.sw) pp sh)).p)
    (st := uS w star sz kk (.ret k none g lv cx.c cx.p [] :: rest)) (uC_tup w star sz) (uC_it w star sz) hzp1
  have X2 := Ext.upd (w := w) (z := uO star sz 4) (f := Obj.mapFields (·.setIfInBounds 0 .none)) inv1
  have u4 : updU sz (uO star sz 4) := by have := uO_gt star sz 4; unfold updU; lia
  have inv2 : Inv w { s1 with heap := s1.heap.update (uO star sz 4) (Obj.mapFields (·.setIfInBounds 0 .none)) } := X2.inv inv1 fun b hb => .inl (by subst hb; exact g6 4 (by lia))
  have zp2 : ({ s1 with heap := s1.heap.update (uO star sz 4) (Obj.mapFields (·.setIfInBounds 0 .none)) } : Shared).heap.get? (uO star sz 4) = some (Zip .none (uO star sz 2) (uO star sz 3)) := Heap.get?_update_self _ hzp1 rfl
  have n4 : ∀ {j},j ≠ 4 → uO star sz j ≠ uO star sz 4 := fun {j} h => by
    rcases Nat.lt_or_gt_of_ne h with h | h
    · exact Nat.ne_of_lt (uO_lt star sz h)
    · exact (Nat.ne_of_lt (uO_lt star sz h)).symm
  have kp : ∀ b o,b ≠ uO star sz 4 → s1.heap.get? b = some o → ({ s1 with heap := s1.heap.update (uO star sz 4) (Obj.mapFields (·.setIfInBounds 0 .none)) } : Shared).heap.get? b = some o := fun b o h e => X2.keep b o e h
  have s1s : s.heap.objs.size ≤ s1.heap.objs.size := X1.size
  have O10 : OwnL 0 (uOwn w sz Ls ep epw A it.1 it.2.1 l1 l2 zt k1 k2 A0 c0 t0 star it.2.2 z vs ws sh .none (i + 1) (Tup [.ref A,.str ⟨#[c]⟩ s.toks]) ++ [(s.heap.objs.size,Tup [.ref A,.str ⟨#[c]⟩ s.toks])]) ({ s1 with heap := s1.heap.update (uO star sz 4) (Obj.mapFields (·.setIfInBounds 0 .none)) } : Shared).heap := by
    have q4 := (uO_gt star sz 4).1
    refine own_nodup ?_ ?_
    · unfold uOwn
      simp only [List.cons_append,List.nil_append,List.forall_mem_cons]
      exact ⟨⟨g6 6 (by lia),kp _ _ (n4 (by lia)) hd1⟩,⟨g6 4 (by lia),zp2⟩,⟨g6 0 (by lia),kp _ _ (n4 (by lia)) hli1⟩,⟨g6 1 (by lia),kp _ _ (n4 (by lia)) hsi1⟩,⟨g6 2 (by lia),kp _ _ (n4 (by lia)) hti1⟩,⟨g6 3 (by lia),kp _ _ (n4 (by lia)) hto1⟩,
        ⟨g6 5 (by lia),kp _ _ (n4 (by lia)) hacc1⟩,⟨aL,kp _ _ (by lia) hls1⟩,⟨by lia,kp _ _ (by lia) hA1⟩,⟨by lia,kp _ _ (by have := uO_lt star sz (i := 4) (j := 6) (by lia); lia) hT⟩,fun _ h => nomatch h⟩
    · have nd' : ([uO star sz 6,uO star sz 4,uO star sz 0,uO star sz 1,uO star sz 2,uO star sz 3,uO star sz 5,Ls,A] ++ [s.heap.objs.size]).Nodup := by
        rw [List.nodup_append]
        refine ⟨nd,by simp,fun a ha b hb => ?_⟩
        rw [List.mem_singleton.mp hb]
        refine Nat.ne_of_lt ?_
        have o6 : ∀ j,j ≤ 6 → uO star sz j < s.heap.objs.size := fun j hj => by
          rcases Nat.lt_or_eq_of_le hj with h | h
          · exact Nat.lt_trans (uO_lt star sz h) lt6
          · rw [h]; exact lt6
        simp only [List.mem_cons,List.not_mem_nil,or_false] at ha
        rcases ha with h | h | h | h | h | h | h | h | h <;> rw [h]
        · exact o6 6 (by lia)
        · exact o6 4 (by lia)
        · exact o6 0 (by lia)
        · exact o6 1 (by lia)
        · exact o6 2 (by lia)
        · exact o6 3 (by lia)
        · exact o6 5 (by lia)
        · exact Heap.lt_size hls
        · exact Heap.lt_size hA
      exact nd'
  have hO2 : ∀ r1 r2,(decide (it.1 ≤ c) = r1) → (r1 = true → decide (c ≤ it.2.1) = r2) → ∀ y ∈ zipE (uEv r1 (uApp r1 r2 it.2.2)) (uOs r1 r2 (uApp r1 r2 it.2.2) it.1 it.2.1 c (uO star sz 5) epw ws),OEk w y.2 := by
    intro r1 r2 e1 e2
    refine zipE_ok _ _ ?_
    have la : OEk w (leO it.1 c r1) := by rw [← e1]; exact le_one
    have lb : r1 = true → OEk w (leO c it.2.1 r2) := fun h => by rw [← e2 h]; exact le_one
    have ap : OEk w (oeApp 6 (uO star sz 5) ws epw (.s ⟨#[c]⟩)) := oeApp_ok hw
    unfold uOs
    cases r1 with
    | true =>
      cases uApp true r2 it.2.2 with
      | true => simp only [List.forall_mem_cons]; exact ⟨la,lb rfl,ap,fun _ h => nomatch h⟩
      | false => simp only [List.forall_mem_cons]; exact ⟨la,lb rfl,fun _ h => nomatch h⟩
    | false =>
      cases uApp false r2 it.2.2 with
      | true => simp only [List.forall_mem_cons]; exact ⟨la,ap,fun _ h => nomatch h⟩
      | false => intro y hy; rcases List.mem_cons.mp hy with rfl | hy; exact la; cases hy
  refine xE2 (r12 it c) fun r1 r2 hx => xA3 hx fun e1 e2 e3 e4 => ?_; clear hx
  have H2 := uL2_end w sz s1.heap.objs.size s1.toks s1.gens.size Ls ep epw A it.1 it.2.1 l1 l2 zt c s.toks k1 k2 A0 c0 t0 s.heap.objs.size star it.2.2 z (i + 1) vs ws kk (.ret k none g lv cx.c cx.p [] :: rest) ((cx.c,cx.p) :: cx.sw) p2 sh r1 r2 hsh e3
  unfold UL2End uL2 at H2
  have sz2 : ({ s1 with heap := s1.heap.update (uO star sz 4) (Obj.mapFields (·.setIfInBounds 0 .none)) } : Shared).heap.objs.size = s1.heap.objs.size := Array.size_modify ..
  refine segEp inv2 O10 (p := p2) U1.w (hd := [none,none]) ⟨U.h,U.h,trivial⟩ (ch := []) (fun a vs e => (chNil e).elim) (by rw [sz2]; exact H2) (hO2 r1 r2 e1 e2) glNil fun s3 pz1 X3 ob3 etk3 esz3 egz3 tb3 G3 => ?_
  have s23 : Ext (updU sz) s s3 := by
    have X23 := X2.trans (X3.mono (v := fun q => q ∈ [uO star sz 6,uO star sz 4,uO star sz 0,uO star sz 1,uO star sz 2,uO star sz 3,uO star sz 5,Ls,A,s.heap.objs.size]) fun q hq => by
      rcases hq with hq | ⟨vs,e⟩
      · have := upd_mem hq
        unfold uOwn at this
        exact this
      · exact (chNil e).elim)
    refine (X1'.trans X23).drop fun b o e hu nv => ?_
    have e1 : s1.heap.get? b = some o := X1'.keep b o e nv
    rcases hu with hu | hu | hu
    · exact absurd hu nv
    · rw [hu] at nv; exact absurd u4 nv
    · rcases mem10 hu with h | h | h | h
      · exact absurd h nv
      · rw [h,hls] at e; cases e; rw [h]
        exact ob3 (Ls,_) (List.mem_map_of_mem (.tail _ (.tail _ (.tail _ (.tail _ (.tail _ (.tail _ (.tail _ (.head _)))))))))
      · rw [h,hA] at e; cases e; rw [h]
        exact ob3 (A,_) (List.mem_map_of_mem (.tail _ (.tail _ (.tail _ (.tail _ (.tail _ (.tail _ (.tail _ (.tail _ (.head _))))))))))
      · exact absurd (Heap.lt_size e) (by rw [h]; exact Nat.lt_irrefl _)
  have inv3 : Inv w s3 := s23.inv inv fun b hb => .inl (by unfold updU at hb; lia)
  have f3 : ∀ {y : Nat × Obj},y ∈ uOwn w sz Ls ep (uEp (uApp r1 r2 it.2.2) epw) A it.1 it.2.1 l1 l2 zt (uKey sh k1 s1.toks) (uKey sh k2 (s1.toks + 1)) A c s.toks star it.2.2 z vs (uWs (uApp r1 r2 it.2.2) ws (.str ⟨#[c]⟩ s.toks)) 1 .none (i + 1) (Tup [.ref A,.str ⟨#[c]⟩ s.toks]) → s3.heap.get? y.1 = some y.2 :=
    fun {y} h => ob3 y (List.mem_map_of_mem h)
  have hli3 := f3 (y := (uO star sz 0,_)) (.tail _ (.tail _ (.head _)))
  have hsi3 := f3 (y := (uO star sz 1,_)) (.tail _ (.tail _ (.tail _ (.head _))))
  refine hGG (yE3 s3 _ _ ⟨⟨inv3,⟨1,_,_,A,c,s.toks,.inr rfl,f3 (y := (uO star sz 6,_)) (.head _),f3 (y := (uO star sz 3,_)) (.tail _ (.tail _ (.tail _ (.tail _ (.tail _ (.head _))))))⟩,f3 (y := (uO star sz 4,_)) (.tail _ (.head _)),hli3,hsi3,f3 (y := (uO star sz 2,_)) (.tail _ (.tail _ (.tail _ (.tail _ (.head _))))),
    ⟨_,f3 (y := (uO star sz 5,_)) (.tail _ (.tail _ (.tail _ (.tail _ (.tail _ (.tail _ (.head _)))))))⟩,f3 (y := (Ls,_)) (.tail _ (.tail _ (.tail _ (.tail _ (.tail _ (.tail _ (.tail _ (.head _)))))))),s23.keep _ _ hfr (by unfold updU; lia),aL,ltL,items.keep s23 fun b hb => by unfold updU at hb; lia⟩,?_,?_,s23,fun Z q => G1 Z (G2 Z (G3 Z q))⟩)
  · rw [e4]
    cases okI it c with
    | true => show (ws.size == 0) = _; simp
    | false => show ((ws.push _).size == 0) = _; simp
  · rw [e4]
    cases okI it c with
    | true => show ws.size ≤ _; lia
    | false => show (ws.push _).size ≤ _; simp
end
noncomputable def takesL : List (Nat × Nat × Bool) → List Nat → Bool
  | it :: its,c :: cs => okI it c && takesL its cs
  | _,_ => true
theorem picked_from {x : Str} {l : Nat} {lt : Tok} (h : l ≤ x.length) : slicePicked x (some ((l : Int),lt)) none none = (List.range (x.length - l)).map (l + ·) := by
  unfold slicePicked Builtin.Str.strSliceIndices
  have a2 : ¬ ((l : Int) < 0) := by lia
  simp only [Option.map_some,Option.map_none,Option.getD_none,a2,if_false,show (1 : Int) > 0 by decide,if_true]
  have e2 : max 0 (min (l : Int) (x.length : Int)) = (l : Int) := by lia
  rw [e2,sliceRange_one]
section
variable {w : World} {cx : Cx} {star : Bool} {sz Ls ep zt : Nat} {vs : Array Value} {z : Str} {fr : Obj} {its : List (Nat × Nat × Bool)} {kk k : Result → Sem Fin} {g : Bool} {lv : List Value} {rest : List Frame} (U : Und rest cx.sw)
include U
theorem u_loop (hz : z.cps.toList.length = its.length) (hl : its.length ≤ 1000) : ∀ (m : Nat) {i : Nat},i + m = its.length → ∀ {s : Shared} {ws : Array Value},UState w star sz Ls ep vs z zt fr its i ws s → ws.size ≤ i → ∀ pp : Pos,
    ∃ s' ws' pp',UState w star sz Ls ep vs z zt fr its its.length ws' s' ∧ ((ws'.size == 0) = ((ws.size == 0) && takesL (its.drop i) (z.cps.toList.drop i))) ∧ Ext (updU sz) s s' ∧
      ∀ Z,Good w Z s' ⟨den (uC w star sz),uC w star sz,pp',uS w star sz kk (.ret k none g lv cx.c cx.p [] :: rest)⟩ → Good w Z s ⟨den (uC w star sz),uC w star sz,pp,uS w star sz kk (.ret k none g lv cx.c cx.p [] :: rest)⟩
  | 0,i,e,s,ws,P,hw,pp => by
    have : i = its.length := by lia
    subst this
    refine ⟨s,ws,pp,P,?_,Ext.refl P.inv,fun Z q => q⟩
    rw [List.drop_of_length_le (Nat.le_refl _)]
    simp [takesL]
  | m + 1,i,e,s,ws,P,hw,pp => by
    have lt : i < its.length := by lia
    have lt2 : i < z.cps.toList.length := by lia
    have hc : z.cps[i]? = some z.cps.toList[i] := by rw [← Array.getElem?_toList]; exact List.getElem?_eq_getElem lt2
    refine xE3 (u_turn U (kk := kk) (k := k) (g := g) (lv := lv) P (List.getElem?_eq_getElem lt) hc (by show _ ≤ 2 ^ 24; lia) pp) fun s1 ws1 pp1 hxx => xA4 hxx fun P1 e1 n1 X1 G1 => ?_; clear hxx
    refine xE3 (u_loop hz hl m (i := i + 1) (by lia) P1 (by lia) pp1) fun s2 ws2 pp2 hxx => xA3 hxx fun P2 e2 X2 G2 => ?_; clear hxx
    refine ⟨s2,ws2,pp2,P2,?_,(X1.trans X2).mono (fun b h => h.elim id id),fun Z q => G1 Z (G2 Z q)⟩
    rw [e2,e1,List.drop_eq_getElem_cons lt,List.drop_eq_getElem_cons lt2]
    simp only [takesL]
    rw [Bool.and_assoc]
theorem u_call (hx : cx.lc = true) {s : Shared} {x : Str} {t : Nat} (I : Inv w s) (aL : 268 ≤ Ls) (hL : s.heap.get? Ls = some (Lo vs ep)) (items : ItemsR Ls s.heap.objs.size s vs.toList its) (hl : its.length ≤ 1000) (hxl : x.length ≤ 1000) (ha : ∀ c ∈ x.cps.toList,c < 128)
    (hlen : its.length ≤ x.length) (hns : star = false → its.length = x.length) (pp : Pos) :
    ∃ s',Ext (fun _ => False) s s' ∧ ∀ Z,Good w Z s' ⟨k (.ok (.ret (.bool (takesL its (x.cps.toList.drop (x.length - its.length)))))),cx.c,cx.p,rest⟩ →
      Good w Z s ⟨den (uCall star Ls x t),uCall star Ls x t,pp,.ret k none g lv cx.c cx.p [] :: rest⟩ := by
  refine gv fun GG hGG => ?_
  have lo := I.lo
  have U1 := U.cons k g lv cx.c cx.p
  have ltL : Ls < s.heap.objs.size := Heap.lt_size hL
  have vl : vs.size = its.length := by rw [← items.len]; simp
  obtain ⟨z,ez⟩ : ∃ z : Str,z.cps.toList = x.cps.toList.drop (x.length - its.length) := ⟨⟨(x.cps.toList.drop (x.length - its.length)).toArray⟩,by simp⟩
  have xl : x.cps.toList.length = x.length := by rw [Array.length_toList]; rfl
  have zl : z.cps.toList.length = its.length := by rw [ez,List.length_drop,xl]; lia
  have zl' : z.length = its.length := by rw [← zl,Array.length_toList]; rfl
  have el : (x.length : Int) - (its.length : Int) = ((x.length - its.length : Nat) : Int) := by lia
  obtain ⟨tf,d,hS⟩ : ∃ tf d,OEk w (slF x (s.heap.objs.size + 1) ((x.length : Int) - (its.length : Int)) (s.toks + 7) z tf d) := by
    rw [el]
    unfold slF
    refine oeSlS_ok ?_ (by rw [zl']; show _ ≤ 2 ^ 24; lia) ?_
    · rw [picked_from (by lia),pick_run]
      have : z = ⟨z.cps.toList.toArray⟩ := by cases z; simp
      rw [this,ez]
      congr 2
      rw [List.take_of_length_le (by rw [List.length_drop,xl]; lia)]
    · intro h
      rw [picked_from (by lia)] at h
      simp only [List.length_map,List.length_range] at h
      have : x.length - its.length = 0 ∨ x.length = 0 := by lia
      have e2 : z.cps.toList = x.cps.toList := by
        rw [ez]
        rcases this with h | h
        · rw [h,List.drop_zero]
        · have : x.cps.toList = [] := List.eq_nil_of_length_eq_zero (by rw [xl]; exact h)
          rw [this]; simp
      cases z; cases x
      congr 1
      exact Array.ext' e2
  have asc : ∀ y : Str,(∀ c ∈ y.cps.toList,c < 128) → y.cps.all (· < 128) = true := fun y h => by
    rw [← Array.all_toList,List.all_eq_true]
    intro c hc
    exact decide_eq_true (h c hc)
  have za : ∀ c ∈ z.cps.toList,c < 128 := fun c hc => ha c (by rw [ez] at hc; exact List.mem_of_mem_drop hc)
  have HA := uA_end w cx s.heap.objs.size s.toks s.gens.size t Ls ep x z x.length its.length vs k g lv pp rest tf d hx star
  have hA : ∀ y ∈ (match star with
      | true => [(0,oeLenV (.s x) [] x.length),(1,oeLenV (.r Ls) [(0,Ls,Lo vs ep)] its.length),(3,slF x (s.heap.objs.size + 1) (x.length - its.length) (s.toks + 7) z tf d),(7,siO z)]
      | false => ([(3,siO x)] : List (Nat × OE))),OEk w y.2 := by
    cases star with
    | true =>
      simp only [List.forall_mem_cons]
      exact ⟨oeLenS2 rfl (by lia),oeLenL2 (by rw [vl]) (by lia),hS,siO_ok (asc z za),fun _ h => nomatch h⟩
    | false => exact List.forall_mem_cons.2 ⟨siO_ok (asc x ha),fun _ h => nomatch h⟩
  unfold UAEnd uA at HA
  refine segE I (own1 (ro := 1) aL hL) (p := pp) U1.w (hd := [none,none]) ⟨U.h,U.h,trivial⟩ (ch := []) (fun a vs e => (chNil e).elim) HA hA glNil fun s1 X1 ob1 etk1 esz1 egz1 tb1 G1 => ?_
  have X1' : Ext (fun _ => False) s s1 := X1.mono fun q hq => by
    rcases hq with hq | ⟨vs,e⟩
    · exact upd1 hq
    · exact chNil e
  have P1 : UState w star s.heap.objs.size Ls ep vs (uZ star x z) (uZt star x t s.toks tf s.heap.objs.size) (uF w star s.toks Ls x z t tf d s.heap.objs.size) its 0 #[] s1 :=
    ⟨X1'.inv I fun _ h => h.elim,⟨0,0,0,0,0,0,.inl rfl,ob1 (uO star s.heap.objs.size 6,_) (.tail _ (.tail _ (.tail _ (.tail _ (.tail _ (.tail _ (.tail _ (.tail _ (.head _))))))))),ob1 (uO star s.heap.objs.size 3,_) (.tail _ (.tail _ (.tail _ (.tail _ (.tail _ (.head _))))))⟩,
      ob1 (uO star s.heap.objs.size 4,_) (.tail _ (.tail _ (.tail _ (.tail _ (.tail _ (.tail _ (.head _))))))),ob1 (uO star s.heap.objs.size 0,_) (.tail _ (.tail _ (.head _))),ob1 (uO star s.heap.objs.size 1,_) (.tail _ (.tail _ (.tail _ (.head _)))),ob1 (uO star s.heap.objs.size 2,_) (.tail _ (.tail _ (.tail _ (.tail _ (.head _))))),
      ⟨0,ob1 (uO star s.heap.objs.size 5,_) (.tail _ (.tail _ (.tail _ (.tail _ (.tail _ (.tail _ (.tail _ (.head _))))))))⟩,ob1 (Ls,_) (.head _),ob1 (s.heap.objs.size,_) (.tail _ (.head _)),aL,ltL,items.keep X1' fun _ h => h.elim⟩
  have ezz : uZ star x z = z := by
    cases star with
    | true => rfl
    | false =>
      have h := hns rfl
      have e2 : z.cps.toList = x.cps.toList := by rw [ez,h,Nat.sub_self,List.drop_zero]
      show x = z
      cases z; cases x
      congr 1
      exact (Array.ext' e2).symm
  rw [ezz] at P1
  refine xE3 (u_loop U (kk := kOf (uAo w cx s.heap.objs.size s.toks s.gens.size t Ls ep x z x.length its.length vs k g lv pp rest tf d star)) (k := k) (g := g) (lv := lv) zl hl its.length (i := 0) (by lia) P1 (by simp) pp) fun s2 ws pp2 hxx => xA3 hxx fun P2 e2 X2 G2 => ?_; clear hxx
  obtain ⟨inv2,⟨sh,k1,k2,A0,c0,t0,hsh,hd,hto⟩,hzp,hli,hsi,hti,⟨epw,hacc⟩,hls,hfr,_,_,items2⟩ := P2
  rw [← ezz] at hsi
  have HX := uX_end w cx s.heap.objs.size s.toks s.gens.size t Ls ep x z x.length its.length vs k g lv pp rest tf d star s2.heap.objs.size s2.toks s2.gens.size epw k1 k2 A0 c0 t0 sh its.length its.length ws pp2 (ws.size == 0) hx hsh
  unfold uX at HX
  have g6 : ∀ j,j ≤ 6 → 268 ≤ uO star s.heap.objs.size j := fun j _ => by have := (uO_gt star s.heap.objs.size j).1; lia
  have O9 : OwnL 0 [(uO star s.heap.objs.size 6,uD w.params sh k1 k2 A0 c0 t0),(uO star s.heap.objs.size 4,Zip .none (uO star s.heap.objs.size 2) (uO star s.heap.objs.size 3)),(uO star s.heap.objs.size 0,Lit Ls its.length),(uO star s.heap.objs.size 1,Sit (.str (uZ star x z) (uZt star x t s.toks tf s.heap.objs.size)) its.length),
      (uO star s.heap.objs.size 2,Tup [.ref (uO star s.heap.objs.size 0),.ref (uO star s.heap.objs.size 1)]),(uO star s.heap.objs.size 3,uTO sh A0 c0 t0),(uO star s.heap.objs.size 5,Lo ws epw),(Ls,Lo vs ep),(s.heap.objs.size,uF w star s.toks Ls x z t tf d s.heap.objs.size)] s2.heap :=
    own_nodup (by
      simp only [List.forall_mem_cons]
      exact ⟨⟨g6 6 (by lia),hd⟩,⟨g6 4 (by lia),hzp⟩,⟨g6 0 (by lia),hli⟩,⟨g6 1 (by lia),hsi⟩,⟨g6 2 (by lia),hti⟩,⟨g6 3 (by lia),hto⟩,⟨g6 5 (by lia),hacc⟩,⟨aL,hls⟩,⟨lo,hfr⟩,fun _ h => nomatch h⟩) (nd9x ltL)
  have hX : ∀ y ∈ ([(1,lendO 2 (uO star s.heap.objs.size 0) 7 Ls vs ep its.length),(2,oeLenV (.s (uZ star x z)) [] its.length),(3,oeLenV (.r Ls) [(7,Ls,Lo vs ep)] its.length),(4,oeP "int.__eq__" [.i its.length,.i its.length] (fun _ => .bool true) 0),(5,leqO 6 (uO star s.heap.objs.size 5) ws epw 11 (s2.heap.objs.size + 2) (ws.size == 0))] : List (Nat × OE)),OEk w y.2 := by
    simp only [List.forall_mem_cons]
    exact ⟨lendO_ok (by lia),oeLenS2 (by rw [ezz,zl']) (by lia),oeLenL2 (by rw [vl]) (by lia),oeEq (by simp),leqO_ok rfl,fun _ h => nomatch h⟩
  refine segRE inv2 O9 (p := pp2) (U1.cons (kOf (uAo w cx s.heap.objs.size s.toks s.gens.size t Ls ep x z x.length its.length vs k g lv pp rest tf d star)) true [.ref (uO star s.heap.objs.size 6),.ref (uO star s.heap.objs.size 5)] (uFn w star s.heap.objs.size) (uFp w)).w (hd := [none,none,none]) ⟨U.h,U.h,U.h,trivial⟩ (ch := []) (fun a vs e => (chNil e).elim) HX hX fun s3 v3 hv3 X3 ob3 _ G3 => ?_
  have := strip_b hv3
  subst this
  have er : (ws.size == 0) = takesL its (x.cps.toList.drop (x.length - its.length)) := by rw [e2,← ez]; simp
  rw [er] at G3
  refine hGG ⟨s3,((X1'.trans X2).trans X3).drop fun b o e hu _ => ?_,fun Z q => G1 Z (tailA_of (uC_at w star _) rfl (G2 Z (G3 Z q)))⟩
  have e1 := X1'.keep b o e fun h => h
  have lb : b < s.heap.objs.size := Heap.lt_size e
  have e2 := X2.keep b o e1 fun h => absurd lb (Nat.not_lt.mpr (Nat.le_trans (Nat.le_succ _) h.1))
  by_cases hb : b = Ls
  · rw [hb,hL] at e; cases e; rw [hb]
    exact ob3 (Ls,_) (.head _)
  · refine X3.keep b o e2 fun hq => ?_
    rcases hq with hq | ⟨vs,e⟩
    · have h := upd_mem hq
      simp only [List.map_cons,List.map_nil] at h
      rcases mem9 h with h | h | h
      · exact absurd lb (Nat.not_lt.mpr (Nat.le_trans (Nat.le_succ _) h.1))
      · exact hb h
      · rw [h] at lb; exact absurd lb (Nat.lt_irrefl _)
    · exact chNil e
end
noncomputable def lB (w : World) : List Stmt := bodyF (o267 w.params)
noncomputable def scO (vs z : Array Value) (tk : Nat) : OE := oeSlL 0 268 9 277 vs 0 .none (.int 2 tk) .none z
section
variable (w : World) (tk gz : Nat) (vs z : Array Value) (a b A B : Int)
noncomputable def s1 (z : Array Value) (a b : Int) : Cf := st0 (callT [.ref 268]).cur (.builtin "claim.caller" {}) default [] [] [none] [(268,Lo vs 0)] 269 tk gz []
  [0,0,0,2,2,0,2,1,1,1,1,11,12,11,11,12,11,12,13,13,13,13,14,14,14,14,14,13,15,15,15,16,16,16,16,16,16,15,16,16,18,18,18,17,17,17,17,16,16,16,16,15,16,16,18,18,18,17,17,17,17,16,16,16,16,15,16,16,20,18,18,18,3,3] [0,1,0,0]
  [(0,scO vs z (tk + 1)),(7,oeP "int.__mod__" [.i a,.i 1000000000] (fun tk => .int A tk) 1),(11,oeP "int.__mod__" [.i b,.i 1000000000] (fun tk => .int B tk) 1)]
noncomputable def s1o (w : World) : Cf := out (En0 w 1) 186 (s1 0 0 #[] 0 0 #[] 1005 1)
noncomputable def lFn (w : World) : Code := (s1o w).c
noncomputable def lEv (w : World) : Env := match lFn w with
  | .func _ e => e
  | _ => default
noncomputable def lSt (w : World) : List Frame := (s1o w).st
noncomputable def lSw (w : World) : List (Code × Pos) := (s1o w).sw
noncomputable def lT (w : World) (j : Nat) : Sem Fin := tailT (.func (dropL j (lB w)) (lEv w))
noncomputable def cel0 : Obj := ⟨.type "cell",none,.cell none,#[]⟩
noncomputable def S1End (z : Array Value) (a b : Int) : Prop := EndOf w 1 186 (s1 tk gz vs A B z a b) [0,1,2,3,4,5,6,7,8,16]
  ⟨⟨lT w 1,lFn w,(out (En0 w 1) 186 (s1 tk gz vs A B z a b)).p,lSt w⟩,[some (268,Lo vs 0),some (269,frT w.params [("script",tk,.ref 268)] 1),some (270,Cel (.ref 284)),some (271,cel0),some (272,cel0),some (273,cel0),some (274,cel0),some (275,cel0),some (276,cel0),some (284,Lo #[.int A (tk + 9),.int B (tk + 14)] 2)],tk + 15,288,gz,[],[]⟩
theorem s1_0 : S1End w tk gz vs A B #[] 1005 1 := by unfold S1End EndOf; kernel_rfl
theorem s1_1 (t1 : Nat) : S1End w tk gz vs A B #[.int a t1] a 1005 := by unfold S1End EndOf; kernel_rfl
theorem s1_2 (t1 t2 : Nat) : S1End w tk gz vs A B #[.int a t1,.int b t2] a b := by unfold S1End EndOf; kernel_rfl
end
noncomputable def fqO (a b c : Int) : OE := oeP "int.__floordiv__" [.i a,.i b] (fun tk => .int c tk) 1
noncomputable def mdO (a b c : Int) : OE := oeP "int.__mod__" [.i a,.i b] (fun tk => .int c tk) 1
noncomputable def octs (r : Nat) (b0 b1 b2 : Int) (t0 t1 t2 : Nat) : Array Value := match r with
  | 0 => #[]
  | 1 => #[.int b0 t0]
  | 2 => #[.int b0 t0,.int b1 t1]
  | _ => #[.int b0 t0,.int b1 t1,.int b2 t2]
noncomputable def prm (i : Nat) : Nat := match i with
  | 0 => 2
  | 1 => 3
  | 2 => 5
  | _ => 7
section
variable (w : World) (sz tk gz k0 k1 ta tb oa : Nat) (A B q q0 q1 q2 b0 b1 b2 e : Int) (pp : Pos)
noncomputable def s2 (r : Nat) : Cf := st0 (lT w 1) (lFn w) pp (lSt w) (lSw w) [none,none] [(269,frT w.params [("script",k0,.ref 268)] 1),(270,Cel (.ref 284)),(284,Lo #[.int A ta,.int B tb] 2)] sz tk gz []
  [0,0,4,4,4,4,4,4,4,4,4,4,5,5,5,5,5,5,5,5,5,5,5,7,7,2,3,3,3,3,3,7,6,6,6,6,5,5,5,5,5,5,5,5,5,7,7,2,3,3,3,3,3,7,6,6,6,6,5,5,5,5,5,5,5,5,5,7,7,2,3,3,3,3,3,7,6,6,6,6,5,5,5,5,5,9,7,7,7,2,3,3,3,3,3,6,6,6,6,10,10,10,10,10,6,1,1] [1,0,0,0,0]
  [(6,fqO A 4 q),(8,fqO q 1 q0),(9,mdO q0 256 b0),(13,fqO A 4 q),(15,fqO q 256 q1),(16,mdO q1 256 b1),(20,fqO A 4 q),(22,fqO q 65536 q2),(23,mdO q2 256 b2),(27,mdO A 4 r)]
noncomputable def S2End (r : Nat) : Prop := EndOf w 0 281 (s2 w sz tk gz k0 ta tb A B q q0 q1 q2 b0 b1 b2 pp r) [0,1,2,10]
  ⟨⟨lT w 2,lFn w,(out (En0 w 0) 281 (s2 w sz tk gz k0 ta tb A B q q0 q1 q2 b0 b1 b2 pp r)).p,lSt w⟩,[some (269,frT w.params [("script",k0,.ref 268),("octets",tk + 36,.ref (sz + 7))] 2),some (270,Cel (.ref 284)),some (284,Lo #[.int A ta,.int B tb] 2),
    some (sz + 7,Lo (octs r b0 b1 b2 (tk + 12) (tk + 22) (tk + 32)) 0)],tk + 37,sz + 8,gz,[],[]⟩
theorem s2_end (r : Nat) (h : r < 4) : S2End w sz tk gz k0 ta tb A B q q0 q1 q2 b0 b1 b2 pp r := by
  match r,h with
  | 0,_ => unfold S2End EndOf; kernel_rfl
  | 1,_ => unfold S2End EndOf; kernel_rfl
  | 2,_ => unfold S2End EndOf; kernel_rfl
  | 3,_ => unfold S2End EndOf; kernel_rfl
noncomputable def s3 (i d : Nat) : Cf := st0 (lT w 2) (lFn w) pp (lSt w) (lSw w) [none,none] [(269,frT w.params [("script",k0,.ref 268),("octets",k1,.ref oa)] 2),(270,Cel (.ref 284)),(271,cel0),(284,Lo #[.int A ta,.int B tb] 2)] sz tk gz []
  [2,4,4,4,4,4,5,5,5,5,5,2,4,4,4,4,4,6,6,6,6,7,7,7,7,7,6,7,7,7,7,7,7,6,7,7,7,7,7,7,6,7,7,9,3,3,1,1] [1,0] [(1,mdO B 4 i),(5,fqO B 4 e),(6,mdO e 2 d)]
noncomputable def S3End (i d : Nat) : Prop := EndOf w 0 114 (s3 w sz tk gz k0 k1 ta tb oa A B e pp i d) [0,1,2,3]
  ⟨⟨lT w 3,lFn w,(out (En0 w 0) 114 (s3 w sz tk gz k0 k1 ta tb oa A B e pp i d)).p,lSt w⟩,[some (269,frT w.params [("script",k0,.ref 268),("octets",k1,.ref oa),("dress",tk + 12,.int d (tk + 11))] 3),some (270,Cel (.ref 284)),some (271,Cel (.int (prm i) (tk + i))),
    some (284,Lo #[.int A ta,.int B tb] 2)],tk + 13,sz + 5,gz,[],[]⟩
theorem s3_end (i d : Nat) (h : i < 4) (hd : d < 2) : S3End w sz tk gz k0 k1 ta tb oa A B e pp i d := by
  match i,h,d,hd with
  | 0,_,0,_ => unfold S3End EndOf; kernel_rfl
  | 1,_,0,_ => unfold S3End EndOf; kernel_rfl
  | 2,_,0,_ => unfold S3End EndOf; kernel_rfl
  | 3,_,0,_ => unfold S3End EndOf; kernel_rfl
  | 0,_,1,_ => unfold S3End EndOf; kernel_rfl
  | 1,_,1,_ => unfold S3End EndOf; kernel_rfl
  | 2,_,1,_ => unfold S3End EndOf; kernel_rfl
  | 3,_,1,_ => unfold S3End EndOf; kernel_rfl
end
theorem segW {w : World} {ro n : Nat} {s : Shared} {t : Sem Fin} {c : Code} {p : Pos} {st : List Frame} {sw : List (Code × Pos)} {hd : List (Option Value)} {l : List (Nat × Obj)} {ch : Ch} {L A : List Nat} {O : List (Nat × OE)} {ix : List Nat} {x : Su}
    (I : Inv w s) (OW : OwnL ro l s.heap) (hw : st.map Frame.where_ = sw) (hh : HOk st hd)
    (htab : ∀ a vs,chLook ch a = some vs → a < 268 ∧ s.heap.get? a = some (tableObj vs) ∧ (kt0 w.params).get a = none)
    (h : EndOf w ro n (st0 t c p st sw hd l s.heap.objs.size s.toks s.gens.size ch L A O) ix x) (hO : ∀ y ∈ O,OEk w y.2) (hg : ∀ j y,nthG x.gl j = some y → cleanG y.2) :
    x.th.stack.map Frame.where_ = (out (En0 w ro) n (st0 t c p st sw hd l s.heap.objs.size s.toks s.gens.size ch L A O)).sw ∧ HOk x.th.stack (out (En0 w ro) n (st0 t c p st sw hd l s.heap.objs.size s.toks s.gens.size ch L A O)).hd := by
  have R0 := rep_start I l OW (st0 t c p st sw hd l s.heap.objs.size s.toks s.gens.size ch L A O) (fun a => chLook ch a) rfl rfl rfl rfl rfl rfl
    htab hw hh
  unfold EndOf at h
  injection h with h1 h2
  injection h2 with h2 h3
  obtain ⟨s',R,G⟩ := walk (envOk _ _) n (by rw [h1,h2]) hO R0
  have e : (out (En0 w ro) n (st0 t c p st sw hd l s.heap.objs.size s.toks s.gens.size ch L A O)).st = x.th.stack := congrArg (fun z : Su => z.th.stack) h3
  have a := R.whr
  have b := R.hnd
  rw [e] at a b
  exact ⟨a,b⟩
theorem segC {w : World} {ro n : Nat} {s : Shared} {f : Cf} {t : Sem Fin} {c : Code} {p : Pos} {st : List Frame} {sw : List (Code × Pos)} {hd : List (Option Value)} {l : List (Nat × Obj)} {ch : Ch} {L A : List Nat} {O : List (Nat × OE)} {ix : List Nat} {x : Su}
    (hf : f = st0 t c p st sw hd l s.heap.objs.size s.toks s.gens.size ch L A O) (I : Inv w s) (OW : OwnL ro l s.heap) (hw : st.map Frame.where_ = sw) (hh : HOk st hd)
    (htab : ∀ a vs,chLook ch a = some vs → a < 268 ∧ s.heap.get? a = some (tableObj vs) ∧ (kt0 w.params).get a = none)
    (h : EndOf w ro n f ix x) (hO : ∀ y ∈ O,OEk w y.2) (hg : ∀ j y,nthG x.gl j = some y → cleanG y.2) :
    (x.th.stack.map Frame.where_ = (out (En0 w ro) n f).sw ∧ HOk x.th.stack (out (En0 w ro) n f).hd) ∧
    ∃ s',Ext (fun b => updOf ro l b ∨ ∃ vs,chLook x.ch b = some vs) s s' ∧ (∀ y,some y ∈ x.ob → s'.heap.get? y.1 = some y.2) ∧ s'.toks = x.tk ∧ s'.heap.objs.size = x.sz ∧ s'.gens.size = x.gz ∧
      (∀ a vs,chLook x.ch a = some vs → s'.heap.get? a = some (tableObj vs)) ∧ ∀ Q,Good w Q s' x.th → Good w Q s ⟨t,c,p,st⟩ := by
  subst hf
  exact ⟨segW I OW hw hh htab h hO hg,seg I OW hw hh htab h hO hg⟩
theorem segCE {w : World} {ro n : Nat} {s : Shared} {f : Cf} {t : Sem Fin} {c : Code} {p : Pos} {st : List Frame} {sw : List (Code × Pos)} {hd : List (Option Value)} {l : List (Nat × Obj)} {ch : Ch} {L A : List Nat} {O : List (Nat × OE)} {ix : List Nat} {t' : Sem Fin} {c' : Code} {p' : Pos} {st' : List Frame} {ob : List (Option (Nat × Obj))} {tk' sz' gz' : Nat} {gl' : List (Nat × GenState)} {ch' : Ch}
    (hf : f = st0 t c p st sw hd l s.heap.objs.size s.toks s.gens.size ch L A O) (I : Inv w s) (OW : OwnL ro l s.heap) (hw : st.map Frame.where_ = sw) (hh : HOk st hd)
    (htab : ∀ a vs,chLook ch a = some vs → a < 268 ∧ s.heap.get? a = some (tableObj vs) ∧ (kt0 w.params).get a = none)
    (h : EndOf w ro n f ix ⟨⟨t',c',p',st'⟩,ob,tk',sz',gz',gl',ch'⟩) (hO : ∀ y ∈ O,OEk w y.2) (hg : ∀ j y,nthG gl' j = some y → cleanG y.2) {G : Prop} (k : ∀ s',Ext (fun b => updOf ro l b ∨ ∃ vs,chLook ch' b = some vs) s s' → (∀ y,some y ∈ ob → s'.heap.get? y.1 = some y.2) → s'.toks = tk' → s'.heap.objs.size = sz' → s'.gens.size = gz' →
      (∀ a vs,chLook ch' a = some vs → s'.heap.get? a = some (tableObj vs)) → (∀ Q,Good w Q s' ⟨t',c',p',st'⟩ → Good w Q s ⟨t,c,p,st⟩) → G) : G := by
  obtain ⟨_,s',a,b,c,d,e,f,g⟩ := segC hf I OW hw hh htab h hO hg
  exact k s' a b c d e f g
theorem segCW {w : World} {ro n : Nat} {s : Shared} {f : Cf} {t : Sem Fin} {c : Code} {p : Pos} {st : List Frame} {sw : List (Code × Pos)} {hd : List (Option Value)} {l : List (Nat × Obj)} {ch : Ch} {L A : List Nat} {O : List (Nat × OE)} {ix : List Nat} {t' : Sem Fin} {c' : Code} {p' : Pos} {st' : List Frame} {ob : List (Option (Nat × Obj))} {tk' sz' gz' : Nat} {gl' : List (Nat × GenState)} {ch' : Ch}
    (hf : f = st0 t c p st sw hd l s.heap.objs.size s.toks s.gens.size ch L A O) (I : Inv w s) (OW : OwnL ro l s.heap) (hw : st.map Frame.where_ = sw) (hh : HOk st hd)
    (htab : ∀ a vs,chLook ch a = some vs → a < 268 ∧ s.heap.get? a = some (tableObj vs) ∧ (kt0 w.params).get a = none)
    (h : EndOf w ro n f ix ⟨⟨t',c',p',st'⟩,ob,tk',sz',gz',gl',ch'⟩) (hO : ∀ y ∈ O,OEk w y.2) (hg : ∀ j y,nthG gl' j = some y → cleanG y.2) {G : Prop} (k : st'.map Frame.where_ = (out (En0 w ro) n f).sw ∧ HOk st' (out (En0 w ro) n f).hd → ∀ s',Ext (fun b => updOf ro l b ∨ ∃ vs,chLook ch' b = some vs) s s' → (∀ y,some y ∈ ob → s'.heap.get? y.1 = some y.2) → s'.toks = tk' → s'.heap.objs.size = sz' → s'.gens.size = gz' →
      (∀ a vs,chLook ch' a = some vs → s'.heap.get? a = some (tableObj vs)) → (∀ Q,Good w Q s' ⟨t',c',p',st'⟩ → Good w Q s ⟨t,c,p,st⟩) → G) : G := by
  obtain ⟨W,s',a,b,c,d,e,f,g⟩ := segC hf I OW hw hh htab h hO hg
  exact k W s' a b c d e f g
theorem segCEp {w : World} {ro n : Nat} {s : Shared} {f : Cf} {t : Sem Fin} {c : Code} {p : Pos} {st : List Frame} {sw : List (Code × Pos)} {hd : List (Option Value)} {l : List (Nat × Obj)} {ch : Ch} {L A : List Nat} {O : List (Nat × OE)} {ix : List Nat} {t' : Sem Fin} {c' : Code} {p' : Pos} {st' : List Frame} {ob : List (Option (Nat × Obj))} {tk' sz' gz' : Nat} {gl' : List (Nat × GenState)} {ch' : Ch}
    (hf : f = st0 t c p st sw hd l s.heap.objs.size s.toks s.gens.size ch L A O) (I : Inv w s) (OW : OwnL ro l s.heap) (hw : st.map Frame.where_ = sw) (hh : HOk st hd)
    (htab : ∀ a vs,chLook ch a = some vs → a < 268 ∧ s.heap.get? a = some (tableObj vs) ∧ (kt0 w.params).get a = none)
    (h : EndOf w ro n f ix ⟨⟨t',c',p',st'⟩,ob,tk',sz',gz',gl',ch'⟩) (hO : ∀ y ∈ O,OEk w y.2) (hg : ∀ j y,nthG gl' j = some y → cleanG y.2) {G : Prop} (k : ∀ s' (pz : Pos),Ext (fun b => updOf ro l b ∨ ∃ vs,chLook ch' b = some vs) s s' → (∀ y,some y ∈ ob → s'.heap.get? y.1 = some y.2) → s'.toks = tk' → s'.heap.objs.size = sz' → s'.gens.size = gz' →
      (∀ a vs,chLook ch' a = some vs → s'.heap.get? a = some (tableObj vs)) → (∀ Q,Good w Q s' ⟨t',c',pz,st'⟩ → Good w Q s ⟨t,c,p,st⟩) → G) : G := by
  obtain ⟨_,s',a,b,c,d,e,f,g⟩ := segC hf I OW hw hh htab h hO hg
  exact k s' p' a b c d e f g
noncomputable def Bar (u : Array UInt8) : Obj := { cls := .type "bytearray",data := .bytearray u }
noncomputable def frL3 (w : World) (k0 k1 k2 oa : Nat) (d : Int) (td : Nat) : Obj := frT w.params [("script",k0,.ref 268),("octets",k1,.ref oa),("dress",k2,.int d td)] 3
section
variable (w : World) (sz tk gz k0 k1 k2 oa td t0 t1 t2 : Nat) (d b0 b1 b2 : Int) (pp : Pos)
noncomputable def s4a (r : Nat) : Cf := st0 (lT w 3) (lFn w) pp (lSt w) (lSw w) [none,none] [(269,frL3 w k0 k1 k2 oa d td),(oa,Lo (octs r b0 b1 b2 t0 t1 t2) 0)] sz tk gz [(219,#[])]
  [0,0,0,0,1,2,2,2,1,3,2,3,3,2,3,2,0,0,0,6,6,0,7,7,0,0,0,0,0,0,0,0,5,5,0,0,0,0,0,0,0,0,5,5,5,5,23,23,23,23,23,23,24,24,24,5,0,0,0,25,25,0,0,25,0,0,0,26,26,0,26,23,23,23,23,23,23,23,23,24,16,16,15,27,27,0,7,8,8,8,8,27,8,8,8,8,8,8,0,0,6,7,8,8,8,8,8,27,7,8,8,8,8,8,4,4,4,4,28,28,28,28,28,4,29,29,29,29,29,29,29,29,30,29,29,30,30,30,30,29,30,30,31,31,31,30,30,30,30,29,30,30,33,31,26,26,26,26,25,25,25,23,23,23,23,23,23,23,23,24,25,16,16,15,34,34,0,7,8,8,8,8,34,8,8,8,8,8,8,0,0,6,7,8,8,8,8,8,34,7,8,8,8,8,8,4,4,4,4,35,35,35,35,35,4,36,36,36,36,36,36,36,36,37,36,36] [0,0,0,0,0,0,1,0,0,0,1] []
noncomputable def s4ao (r : Nat) : Cf := out (En0 w 0) 542 (s4a w sz tk gz k0 k1 k2 oa td t0 t1 t2 d b0 b1 b2 pp r)
noncomputable def blC (it ba : Nat) : Code := .builtin "bytes.__new__.loop" ⟨[.type "bytes",.ref it,.ref ba],[]⟩
noncomputable def S4aEnd (r : Nat) : Prop := EndOf w 0 542 (s4a w sz tk gz k0 k1 k2 oa td t0 t1 t2 d b0 b1 b2 pp r) [0,1,24,35,36,37]
  ⟨⟨den (blC (sz + 34) (sz + 35)),blC (sz + 34) (sz + 35),(s4ao w sz tk gz k0 k1 k2 oa td t0 t1 t2 d b0 b1 b2 pp r).p,(s4ao w sz tk gz k0 k1 k2 oa td t0 t1 t2 d b0 b1 b2 pp r).st⟩,
    [some (269,frL3 w k0 k1 k2 oa d td),some (oa,Lo (octs r b0 b1 b2 t0 t1 t2) 0),some (sz + 22,frT w.params [("f",tk + 20,.ref (sz + 20)),("n",tk + 36,.int r (tk + 35))] 2),some (sz + 33,Lo (octs r b0 b1 b2 t0 t1 t2) 0),some (sz + 34,Lit (sz + 33) 0),some (sz + 35,Bar #[])],tk + 44,sz + 36,gz,[],(s4ao w sz tk gz k0 k1 k2 oa td t0 t1 t2 d b0 b1 b2 pp r).ch⟩
theorem s4a_end (r : Nat) (h : r < 4) : S4aEnd w sz tk gz k0 k1 k2 oa td t0 t1 t2 d b0 b1 b2 pp r := by
  match r,h with
  | 0,_ => unfold S4aEnd EndOf; kernel_rfl
  | 1,_ => unfold S4aEnd EndOf; kernel_rfl
  | 2,_ => unfold S4aEnd EndOf; kernel_rfl
  | 3,_ => unfold S4aEnd EndOf; kernel_rfl
end
noncomputable def usB (r : Nat) (u0 u1 u2 : UInt8) : Array UInt8 := match r with
  | 0 => #[]
  | 1 => #[u0]
  | 2 => #[u0,u1]
  | _ => #[u0,u1,u2]
noncomputable def fbC (y : Array UInt8) (t t2 : Nat) : Code := .builtin "int.from_bytes" ⟨[.type "int",.bytes y t],[("byteorder",.str "little" t2),("signed",.bool true)]⟩
section
variable (w : World) (sz tk gz k0 k1 k2 oa td t0 t1 t2 : Nat) (d b0 b1 b2 : Int) (pp : Pos) (r : Nat)
variable (sz' tk' gz' : Nat) (u0 u1 u2 : UInt8) (pp' : Pos) (n : Int) (tn : Nat) (sz2 tk2 gz2 : Nat) (pp2 : Pos)
noncomputable def s4b : Cf := st0 (den (blC (sz + 34) (sz + 35))) (blC (sz + 34) (sz + 35)) pp' (s4ao w sz tk gz k0 k1 k2 oa td t0 t1 t2 d b0 b1 b2 pp r).st (s4ao w sz tk gz k0 k1 k2 oa td t0 t1 t2 d b0 b1 b2 pp r).sw (s4ao w sz tk gz k0 k1 k2 oa td t0 t1 t2 d b0 b1 b2 pp r).hd
  [(269,frL3 w k0 k1 k2 oa d td),(sz + 34,Lit (sz + 33) r),(sz + 35,Bar (usB r u0 u1 u2)),(sz + 33,Lo (octs r b0 b1 b2 t0 t1 t2) 0),(sz + 22,frT w.params [("f",tk + 20,.ref (sz + 20)),("n",tk + 36,.int r (tk + 35))] 2)] sz' tk' gz' []
  [2,2,2,2,4,2,2,7,3,5,5,0,0,5,5,0,5,0,0,0,8,8,0,0,0,8,9,9] [0,1,0] []
noncomputable def s4bo : Cf := out (En0 w 0) 98 (s4b w sz tk gz k0 k1 k2 oa td t0 t1 t2 d b0 b1 b2 pp r sz' tk' gz' u0 u1 u2 pp')
noncomputable def S4bEnd : Prop := EndOf w 0 98 (s4b w sz tk gz k0 k1 k2 oa td t0 t1 t2 d b0 b1 b2 pp r sz' tk' gz' u0 u1 u2 pp') [0]
  ⟨⟨den (fbC (usB r u0 u1 u2) tk' (tk' + 6)),fbC (usB r u0 u1 u2) tk' (tk' + 6),(s4bo w sz tk gz k0 k1 k2 oa td t0 t1 t2 d b0 b1 b2 pp r sz' tk' gz' u0 u1 u2 pp').p,(s4bo w sz tk gz k0 k1 k2 oa td t0 t1 t2 d b0 b1 b2 pp r sz' tk' gz' u0 u1 u2 pp').st⟩,[some (269,frL3 w k0 k1 k2 oa d td)],tk' + 7,sz' + 4,gz',[],[]⟩
theorem s4b_end (h : r < 4) : S4bEnd w sz tk gz k0 k1 k2 oa td t0 t1 t2 d b0 b1 b2 pp r sz' tk' gz' u0 u1 u2 pp' := by
  match r,h with
  | 0,_ => unfold S4bEnd EndOf; kernel_rfl
  | 1,_ => unfold S4bEnd EndOf; kernel_rfl
  | 2,_ => unfold S4bEnd EndOf; kernel_rfl
  | 3,_ => unfold S4bEnd EndOf; kernel_rfl
noncomputable def s4c : Cf := st0 (.pure (.done (.ret (.int n tn)))) (fbC (usB r u0 u1 u2) tk' (tk' + 6)) pp2 (s4bo w sz tk gz k0 k1 k2 oa td t0 t1 t2 d b0 b1 b2 pp r sz' tk' gz' u0 u1 u2 pp').st (s4bo w sz tk gz k0 k1 k2 oa td t0 t1 t2 d b0 b1 b2 pp r sz' tk' gz' u0 u1 u2 pp').sw (s4bo w sz tk gz k0 k1 k2 oa td t0 t1 t2 d b0 b1 b2 pp r sz' tk' gz' u0 u1 u2 pp').hd
  [(269,frL3 w k0 k1 k2 oa d td)] sz2 tk2 gz2 [] [1,1] [0] []
noncomputable def S4cEnd : Prop := EndOf w 0 13 (s4c w sz tk gz k0 k1 k2 oa td t0 t1 t2 d b0 b1 b2 pp r sz' tk' gz' u0 u1 u2 pp' n tn sz2 tk2 gz2 pp2) [0]
  ⟨⟨lT w 4,lFn w,(out (En0 w 0) 13 (s4c w sz tk gz k0 k1 k2 oa td t0 t1 t2 d b0 b1 b2 pp r sz' tk' gz' u0 u1 u2 pp' n tn sz2 tk2 gz2 pp2)).p,lSt w⟩,
   [some (269,frT w.params [("script",k0,.ref 268),("octets",k1,.ref oa),("dress",k2,.int d td),("n",tk2,.int n tn)] 4)],tk2 + 1,sz2,gz2,[],[]⟩
theorem s4c_end (h : r < 4) : S4cEnd w sz tk gz k0 k1 k2 oa td t0 t1 t2 d b0 b1 b2 pp r sz' tk' gz' u0 u1 u2 pp' n tn sz2 tk2 gz2 pp2 := by
  match r,h with
  | 0,_ => unfold S4cEnd EndOf; kernel_rfl
  | 1,_ => unfold S4cEnd EndOf; kernel_rfl
  | 2,_ => unfold S4cEnd EndOf; kernel_rfl
  | 3,_ => unfold S4cEnd EndOf; kernel_rfl
end
section
open PySem PyProof.Rows
noncomputable def fbN (y : Array UInt8) : Int := y.toList.reverse.foldl (fun acc (b : UInt8) => acc * 256 + b.toNat) (0 : Nat)
noncomputable def fbV (y : Array UInt8) : Int := if (y.toList.reverse.head?.any (· ≥ 128)) = true then fbN y - 256 ^ y.toList.reverse.length else fbN y
theorem fb_small {y : Array UInt8} (hs : y.size ≤ 3) : (fbV y).natAbs ≤ 2 ^ 25 := by
  obtain ⟨l⟩ := y
  have p3 : (256 : Int) ^ 3 = 16777216 := by decide
  have p2 : (256 : Int) ^ 2 = 65536 := by decide
  match l,hs with
  | [],_ => decide
  | [a],_ =>
    have ha := a.toNat_lt
    show (if _ then ((((0 : Nat) : Int) * 256 + a.toNat) - 256 ^ 1) else (((0 : Nat) : Int) * 256 + a.toNat)).natAbs ≤ 2 ^ 25
    split <;> omega
  | [a,b],_ =>
    have ha := a.toNat_lt
    have hb := b.toNat_lt
    show (if _ then (((((0 : Nat) : Int) * 256 + b.toNat) * 256 + a.toNat) - 256 ^ 2) else ((((0 : Nat) : Int) * 256 + b.toNat) * 256 + a.toNat)).natAbs ≤ 2 ^ 25
    rw [p2]
    split <;> omega
  | [a,b,c],_ =>
    have ha := a.toNat_lt
    have hb := b.toNat_lt
    have hc := c.toNat_lt
    show (if _ then ((((((0 : Nat) : Int) * 256 + c.toNat) * 256 + b.toNat) * 256 + a.toNat) - 256 ^ 3) else (((((0 : Nat) : Int) * 256 + c.toNat) * 256 + b.toNat) * 256 + a.toNat)).natAbs ≤ 2 ^ 25
    rw [p3]
    split <;> omega
theorem fb_wp {prog : Program} {w : World} {A : Around} {E : Value → Shared → Prop} {s : Shared} {y : Array UInt8} {t t2 : Nat} {Q : Fin → Shared → Prop} (hs : y.size ≤ 3)
   (h : Q (.done (.ret (.int (fbV y) s.toks))) { s with toks := s.toks + 1 }) :
   wpAny (model prog w) A (Builtin.«int.from_bytes» ⟨[.type "int",.bytes y t],[("byteorder",.str "little" t2),("signed",.bool true)]⟩) Q E s := by
  unfold Builtin.«int.from_bytes»
  have f1 : isSubtype (.type "int") (.type "int") = pure true := by rw [isSubtype_type]; kernel_rfl
  have f2 : Builtin.Int.intBindNamed "from_bytes" ["bytes","byteorder","signed"] 1 2 [Value.bytes y t] [("byteorder",.str "little" t2),("signed",.bool true)] = pure [some (.bytes y t),some (.str "little" t2),some (.bool true)] := by rfl
  wp_walk
  show wpAny _ _ (if (fbV y).natAbs.log2 ≥ bitsLine then Sem.unsupported "int:memory" else mkInt (fbV y)) _ _ s
  rw [if_neg (by
    have := fb_small hs
    show ¬ _ ≥ _
    have h2 : (fbV y).natAbs.log2 < 26 := by
      by_cases h0 : (fbV y).natAbs = 0
      · rw [h0]; decide
      · rw [Nat.log2_lt h0]; exact Nat.lt_of_le_of_lt this (by decide)
    have : 26 ≤ bitsLine := by decide
    omega)]
  wp_walk
  exact h
end
theorem reach_builtin {w : World} {id : String} {args : Args} {b : Builtin} {s : Shared} {p : Pos} {st : List Frame} {R : Fin → Shared → Prop} (hb : entryFor table id = some b)
    (h : wpAny (Md w) ((arOf st).under (.builtin id args)) (b args) R (fun _ _ => False) s) :
    ∃ fin s' p',R fin s' ∧ ∀ Z,Good w Z s' ⟨.pure fin,.builtin id args,p',st⟩ → Good w Z s ⟨den (.builtin id args),.builtin id args,p,st⟩ := by
  refine xE3 (reach_bind (p := p) (K := fun f : Fin => (.pure f : Sem Fin)) h) fun fin s' p' hxx => xA1 hxx fun r g => ?_; clear hxx
  refine ⟨fin,s',p',r,fun Z q => ?_⟩
  have := g Z q
  have e : (b args >>= fun f : Fin => (.pure f : Sem Fin)) = b args := Sem.bind_pure _
  rw [e] at this
  rw [den_builtin hb]
  exact this
theorem fb_reach {w : World} {s : Shared} {y : Array UInt8} {t t2 : Nat} {p : Pos} {st : List Frame} (hs : y.size ≤ 3) :
    ∃ tk n p',∀ Z,Good w Z { s with toks := n } ⟨.pure (.done (.ret (.int (fbV y) tk))),fbC y t t2,p',st⟩ → Good w Z s ⟨den (fbC y t t2),fbC y t t2,p,st⟩ := by
  refine xE3 (reach_builtin (w := w) (id := "int.from_bytes") (args := ⟨[.type "int",.bytes y t],[("byteorder",.str "little" t2),("signed",.bool true)]⟩) (p := p) (st := st) (s := s) (R := fun fin s' => ∃ tk n,fin = .done (.ret (.int (fbV y) tk)) ∧ s' = { s with toks := n }) (entryFor_of_tree (by kernel_rfl)) (fb_wp hs ⟨_,_,rfl,rfl⟩)) fun fin s' p' hxx => xA1 hxx fun q3 g => ?_; clear hxx; obtain ⟨tk,n,rfl,rfl⟩ := q3
  exact ⟨tk,n,p',g⟩
theorem pyNext_list_exact {prog : Program} {w : World} {A : Around} {E : Value → Shared → Prop} {s : Shared} {it L ep i : Nat} {vs : Array Value} {x : Value} {Q : Option Value → Shared → Prop} (ho : s.heap.get? it = some (Lit L i)) (hl : s.heap.get? L = some (Lo vs ep)) (hx : vs[i]? = some x)
    (hQ : Q (some x) { s with heap := s.heap.update it (Obj.mapFields (·.setIfInBounds 1 (rawInt ((i : Int) + 1)))) }) : wpAny (model prog w) A (pyNext (.ref it)) Q E s := by
  have hT : s.TypeIs (.ref it) "list_iterator" := ⟨_,ho,rfl⟩
  unfold pyNext
  refine wpAny_bind (wpAny_attempt (wpAny_callSpecial?_slot (name := Str.ofString "__next__") hT slot_listiter_next
    (wpAny_call_entry slot_listiter_next hT entry_listiter_next ?_ (args_listiter_next _))))
  show wpAny _ _ (field (.ref it) 0 >>= _) _ _ s
  refine wpAny_bind (wpAny_field ho rfl (x := .ref L) rfl ?_)
  rw [if_neg (by simp)]
  show wpAny _ _ (field (.ref it) 1 >>= _) _ _ s
  refine wpAny_bind (wpAny_field ho rfl (x := .int i 0) rfl ?_)
  show wpAny _ _ (seqItems? (.ref L) >>= _) _ _ s
  refine wpAny_bind (wpAny_seqItems hl rfl ?_)
  simp only [Int.toNat_natCast,hx]
  exact wpAny_bind (wpAny_setField ho rfl (by simp) (wpAny_pure ⟨x,rfl,wpAny_pure hQ⟩))
theorem bl_wp {w : World} {A : Around} {E : Value → Shared → Prop} {s : Shared} {it ba L ep i t : Nat} {vs : Array Value} {b : Int} {us : Array UInt8} {Q : Fin → Shared → Prop} (hi : s.heap.get? it = some (Lit L i)) (hl : s.heap.get? L = some (Lo vs ep)) (hx : vs[i]? = some (.int b t)) (hb : s.heap.get? ba = some (Bar us)) (ne : it ≠ ba) (h0 : 0 ≤ b) (h1 : b < 256) (hu : us.size < 1000)
    (h : Q (.again (blC it ba)) { s with heap := (s.heap.update it (Obj.mapFields (·.setIfInBounds 1 (rawInt ((i : Int) + 1))))).update ba (Obj.mapBytearray (·.push b.toNat.toUInt8)) }) :
    wpAny (Md w) A (Builtin.«bytes.__new__.loop» ⟨[.type "bytes",.ref it,.ref ba],[]⟩) Q E s := by
  unfold Builtin.«bytes.__new__.loop»
  refine wpAny_bind (pyNext_list_exact hi hl hx ?_)
  have hb2 : (s.heap.update it (Obj.mapFields (·.setIfInBounds 1 (rawInt ((i : Int) + 1))))).get? ba = some (Bar us) := (Heap.get?_update_other s.heap _ ne).trans hb
  wp_walk
  have hp : (Obj.mapBytearray (fun x => x.push b.toNat.toUInt8) (Bar us)).data.pastItsLine = none := by
    show (if (us.push _).size > sizeLine then some "bytearray:memory" else none) = none
    rw [if_neg (by rw [Array.size_push]; show ¬ _ > 2 ^ 24; lia)]
  rw [hp]
  exact wpAny_pure (wpAny_pure h)
theorem bl_turn {w : World} {s : Shared} {it ba L ep i t : Nat} {vs : Array Value} {b : Int} {us : Array UInt8} {p : Pos} {st : List Frame} (I : Inv w s) (ai : 268 ≤ it) (ab : 268 ≤ ba) (hi : s.heap.get? it = some (Lit L i)) (hl : s.heap.get? L = some (Lo vs ep)) (hx : vs[i]? = some (.int b t)) (hb : s.heap.get? ba = some (Bar us)) (ne : it ≠ ba) (h0 : 0 ≤ b) (h1 : b < 256) (hu : us.size < 1000) :
    ∃ s' p',Ext (fun q => q = it ∨ q = ba) s s' ∧ s'.heap.get? it = some (Lit L ((i + 1 : Nat) : Int)) ∧ s'.heap.get? ba = some (Bar (us.push b.toNat.toUInt8)) ∧ ∀ Z,Good w Z s' ⟨den (blC it ba),blC it ba,p',st⟩ → Good w Z s ⟨den (blC it ba),blC it ba,p,st⟩ := by
  refine xE3 (reach_builtin (w := w) (id := "bytes.__new__.loop") (args := ⟨[.type "bytes",.ref it,.ref ba],[]⟩) (p := p) (st := st) (s := s) (R := fun fin s' => fin = .again (blC it ba) ∧ s' = { s with heap := (s.heap.update it (Obj.mapFields (·.setIfInBounds 1 (rawInt ((i : Int) + 1))))).update ba (Obj.mapBytearray (·.push b.toNat.toUInt8)) }) (entryFor_of_tree (by kernel_rfl)) (bl_wp hi hl hx hb ne h0 h1 hu ⟨rfl,rfl⟩)) fun fin s' p' hxx => xA1 hxx fun q3 g => ?_; clear hxx; obtain ⟨rfl,rfl⟩ := q3
  have X1 := Ext.upd (w := w) (z := it) (f := Obj.mapFields (·.setIfInBounds 1 (rawInt ((i : Int) + 1)))) I
  have I1 : Inv w { s with heap := s.heap.update it (Obj.mapFields (·.setIfInBounds 1 (rawInt ((i : Int) + 1)))) } := X1.inv I fun q hq => .inl (by subst hq; exact ai)
  have X2 := Ext.upd (w := w) (z := ba) (f := Obj.mapBytearray (·.push b.toNat.toUInt8)) I1
  have e1 : (s.heap.update it (Obj.mapFields (·.setIfInBounds 1 (rawInt ((i : Int) + 1))))).get? it = some (Lit L ((i + 1 : Nat) : Int)) := Heap.get?_update_self _ hi rfl
  have e2 : (s.heap.update it (Obj.mapFields (·.setIfInBounds 1 (rawInt ((i : Int) + 1))))).get? ba = some (Bar us) := (Heap.get?_update_other s.heap _ ne).trans hb
  refine ⟨_,p',(X1.trans X2).mono fun _ h => h,?_,?_,fun Z q => g Z (good_again (plainId_quiet (id := "bytes.__new__.loop") (by decide +kernel) _) q)⟩
  · exact (Heap.get?_update_other _ _ ne.symm).trans e1
  · exact Heap.get?_update_self _ e2 rfl
theorem slicePick_two (xs : Array Value) : (slicePick xs none (some 2) none).toList = xs.toList.take 2 := by
  have e : sliceBounds none (some 2) none xs.size = (((0 : Nat) : Int),((min 2 xs.size : Nat) : Int),1) := by
    simp only [sliceBounds,Option.getD_none]
    simp
    lia
  unfold slicePick
  rw [e]
  simp only
  rw [sliceRange_one,Nat.sub_zero,pick_run,List.drop_zero]
  simp
theorem scO_ok {w : World} {vs z : Array Value} {tk : Nat} (hz : vs.toList.take 2 = z.toList) (hs : vs.size ≤ 2 ^ 20) : OEk w (scO vs z tk) :=
  oeSlL_ok .none (.int 2 tk) .none (by simp) (Array.ext' ((slicePick_two vs).trans hz)) (by show _ ≤ 2 ^ 24; lia)
structure Law4 (w : World) (r i d : Nat) (b0 b1 b2 : Int) (s : Shared) : Prop where
  inv : Inv w s
  fr : ∃ k0 k1 k2 k3 oa td tn t0 t1 t2,s.heap.get? 269 = some (frT w.params [("script",k0,.ref 268),("octets",k1,.ref oa),("dress",k2,.int d td),("n",k3,.int (fbV (usB r b0.toNat.toUInt8 b1.toNat.toUInt8 b2.toNat.toUInt8)) tn)] 4) ∧ s.heap.get? oa = some (Lo (octs r b0 b1 b2 t0 t1 t2) 0) ∧ 277 ≤ oa
  pr : ∃ t,s.heap.get? 271 = some (Cel (.int (prm i) t))
  ce : ∀ a : Nat,272 ≤ a → a ≤ 276 → s.heap.get? a = some cel0
  hr : r < 4
  hi : i < 4
  hd : d < 2
  hb : (0 ≤ b0 ∧ b0 < 256) ∧ (0 ≤ b1 ∧ b1 < 256) ∧ (0 ≤ b2 ∧ b2 < 256)
theorem log2_256 {n : Int} (h : n = 4 ∨ n = 1 ∨ n = 256 ∨ n = 65536 ∨ n = 2 ∨ n = 1000000000) : n.natAbs.log2 < 600 := by
  rcases h with rfl | rfl | rfl | rfl | rfl | rfl <;> decide +kernel
theorem fq_ok {w : World} {a b : Int} (h : b = 4 ∨ b = 1 ∨ b = 256 ∨ b = 65536 ∨ b = 2 ∨ b = 1000000000) : OEk w (fqO a b (a.fdiv b)) := oeDiv (by lia) (noPy (log2_256 h)) rfl
theorem md_ok {w : World} {a b : Int} (h : b ≠ 0) : OEk w (mdO a b (a.fmod b)) := oeMod h rfl
theorem fmod_rng (a : Int) {b : Int} (h : 0 < b) : 0 ≤ a.fmod b ∧ a.fmod b < b := ⟨Int.fmod_nonneg_of_pos a h,Int.fmod_lt_of_pos a h⟩
theorem lSt_sw (w : World) : (lSt w).map Frame.where_ = lSw w := by kernel_rfl
theorem lSt_h (w : World) : topHandled (lSt w) = none := by kernel_rfl
theorem lSt_h2 (w : World) : topHandled (lSt w).tail = none := by kernel_rfl
theorem lHd (w : World) : HOk (lSt w) [none,none] := ⟨lSt_h w,lSt_h2 w,trivial⟩
section
variable {w : World} {s : Shared}
theorem h1 {vs : Array Value} {ns : List Int} (hsz : s.heap.objs.size = 269) (I : Inv w s) (hS : s.heap.get? 268 = some (Lo vs 0)) (hv : vs.toList.map strip0 = ns.map V0.i) (hl : ns.length ≤ 2 ^ 20) :
    ∃ s1 k0 ta tb A B pp,Ext (fun _ => False) s s1 ∧ s1.heap.get? 269 = some (frT w.params [("script",k0,.ref 268)] 1) ∧ s1.heap.get? 270 = some (Cel (.ref 284)) ∧ (∀ a : Nat,271 ≤ a → a ≤ 276 → s1.heap.get? a = some cel0) ∧ s1.heap.get? 284 = some (Lo #[.int A ta,.int B tb] 2) ∧
      s1.heap.objs.size = 288 ∧ ∀ Z,Good w Z s1 ⟨lT w 1,lFn w,pp,lSt w⟩ → Good w Z s (callT [.ref 268]) := by
  refine gv fun GG hGG => ?_
  have vl : vs.size = ns.length := by
    have := congrArg List.length hv
    simpa using this
  have key : ∃ z a b,vs.toList.take 2 = z.toList ∧ ∀ (tk gz : Nat) (A B : Int),S1End w tk gz vs A B z a b := by
    match e : vs.toList,hv with
    | [],_ => exact ⟨#[],1005,1,rfl,fun tk gz A B => s1_0 w tk gz vs A B⟩
    | [x],hv =>
      cases ns with
      | nil => cases hv
      | cons n ns =>
        obtain ⟨t,rfl⟩ := strip_i (List.cons.inj hv).1
        exact ⟨#[.int n t],n,1005,rfl,fun tk gz A B => s1_1 w tk gz vs n A B t⟩
    | x :: y :: l,hv =>
      cases ns with
      | nil => cases hv
      | cons n ns =>
       cases ns with
       | nil => cases (List.cons.inj hv).2
       | cons m ns =>
        obtain ⟨t,rfl⟩ := strip_i (List.cons.inj hv).1
        obtain ⟨u,rfl⟩ := strip_i (List.cons.inj (List.cons.inj hv).2).1
        exact ⟨#[.int n t,.int m u],n,m,rfl,fun tk gz A B => s1_2 w tk gz vs n m A B t u⟩
  refine xE3 key fun z a b hx => xA1 hx fun hz H => ?_; clear hx; clear key
  have H := H s.toks s.gens.size (a.fmod 1000000000) (b.fmod 1000000000)
  unfold S1End s1 at H
  have hO : ∀ y ∈ ([(0,scO vs z (s.toks + 1)),(7,oeP "int.__mod__" [.i a,.i 1000000000] (fun tk => .int (a.fmod 1000000000) tk) 1),(11,oeP "int.__mod__" [.i b,.i 1000000000] (fun tk => .int (b.fmod 1000000000) tk) 1)] : List (Nat × OE)),OEk w y.2 := by
    simp only [List.forall_mem_cons]
    exact ⟨scO_ok hz (by lia),oeMod (by decide) rfl,oeMod (by decide) rfl,fun _ h => nomatch h⟩
  refine segE I (own1 (ro := 1) (by lia) hS) (p := default) (st := []) rfl (hd := [none]) ⟨rfl,trivial⟩ (ch := []) (fun a vs e => (chNil e).elim) (by rw [hsz]; exact H) hO glNil fun s1 X1 ob etk esz egz tb G1 => ?_
  have X1' : Ext (fun _ => False) s s1 := X1.mono fun q hq => by
    rcases hq with hq | ⟨vs,e⟩
    · exact upd1 hq
    · exact chNil e
  refine hGG (yE7 s1 _ _ _ _ _ _ ⟨X1',ob (269,_) (.tail _ (.head _)),ob (270,_) (.tail _ (.tail _ (.head _))),fun a h1 h2 => ?_,ob (284,_) (.tail _ (.tail _ (.tail _ (.tail _ (.tail _ (.tail _ (.tail _ (.tail _ (.tail _ (.head _)))))))))),esz,G1⟩)
  have : a = 271 ∨ a = 272 ∨ a = 273 ∨ a = 274 ∨ a = 275 ∨ a = 276 := by lia
  rcases this with rfl | rfl | rfl | rfl | rfl | rfl
  · exact ob (271,_) (.tail _ (.tail _ (.tail _ (.head _))))
  · exact ob (272,_) (.tail _ (.tail _ (.tail _ (.tail _ (.head _)))))
  · exact ob (273,_) (.tail _ (.tail _ (.tail _ (.tail _ (.tail _ (.head _))))))
  · exact ob (274,_) (.tail _ (.tail _ (.tail _ (.tail _ (.tail _ (.tail _ (.head _)))))))
  · exact ob (275,_) (.tail _ (.tail _ (.tail _ (.tail _ (.tail _ (.tail _ (.tail _ (.head _))))))))
  · exact ob (276,_) (.tail _ (.tail _ (.tail _ (.tail _ (.tail _ (.tail _ (.tail _ (.tail _ (.head _)))))))))
theorem h2 {k0 ta tb : Nat} {A B : Int} (I : Inv w s) (hsz : s.heap.objs.size = 288) (hN : s.heap.get? 269 = some (frT w.params [("script",k0,.ref 268)] 1)) (hC : s.heap.get? 270 = some (Cel (.ref 284))) (hL : s.heap.get? 284 = some (Lo #[.int A ta,.int B tb] 2)) (pp : Pos) :
    ∃ s1 r k1 t0 t1 t2 b0 b1 b2 pp',r < 4 ∧ ((0 ≤ b0 ∧ b0 < 256) ∧ (0 ≤ b1 ∧ b1 < 256) ∧ (0 ≤ b2 ∧ b2 < 256)) ∧ Ext (fun b => b = 269) s s1 ∧ s1.heap.get? 269 = some (frT w.params [("script",k0,.ref 268),("octets",k1,.ref 295)] 2) ∧ s1.heap.get? 270 = some (Cel (.ref 284)) ∧ s1.heap.get? 284 = some (Lo #[.int A ta,.int B tb] 2) ∧
      s1.heap.get? 295 = some (Lo (octs r b0 b1 b2 t0 t1 t2) 0) ∧ s1.heap.objs.size = 296 ∧ ∀ Z,Good w Z s1 ⟨lT w 2,lFn w,pp',lSt w⟩ → Good w Z s ⟨lT w 1,lFn w,pp,lSt w⟩ := by
  refine gv fun GG hGG => ?_
  obtain ⟨m0,m1⟩ := fmod_rng A (b := 4) (by decide)
  obtain ⟨r,hr⟩ : ∃ r : Nat,A.fmod 4 = r := ⟨(A.fmod 4).toNat,by lia⟩
  have hr4 : r < 4 := by lia
  have H := s2_end w s.heap.objs.size s.toks s.gens.size k0 ta tb A B (A.fdiv 4) ((A.fdiv 4).fdiv 1) ((A.fdiv 4).fdiv 256) ((A.fdiv 4).fdiv 65536) (((A.fdiv 4).fdiv 1).fmod 256) (((A.fdiv 4).fdiv 256).fmod 256) (((A.fdiv 4).fdiv 65536).fmod 256) pp r hr4
  unfold S2End s2 at H
  have hO : ∀ y ∈ ([(6,fqO A 4 (A.fdiv 4)),(8,fqO (A.fdiv 4) 1 ((A.fdiv 4).fdiv 1)),(9,mdO ((A.fdiv 4).fdiv 1) 256 (((A.fdiv 4).fdiv 1).fmod 256)),(13,fqO A 4 (A.fdiv 4)),(15,fqO (A.fdiv 4) 256 ((A.fdiv 4).fdiv 256)),(16,mdO ((A.fdiv 4).fdiv 256) 256 (((A.fdiv 4).fdiv 256).fmod 256)),(20,fqO A 4 (A.fdiv 4)),(22,fqO (A.fdiv 4) 65536 ((A.fdiv 4).fdiv 65536)),(23,mdO ((A.fdiv 4).fdiv 65536) 256 (((A.fdiv 4).fdiv 65536).fmod 256)),(27,mdO A 4 r)] : List (Nat × OE)),OEk w y.2 := by
    simp only [List.forall_mem_cons]
    exact ⟨fq_ok (by lia),fq_ok (by lia),md_ok (by decide),fq_ok (by lia),fq_ok (by lia),md_ok (by decide),fq_ok (by lia),fq_ok (by lia),md_ok (by decide),by rw [← hr]; exact md_ok (by decide),fun _ h => nomatch h⟩
  have O3 : OwnL 0 [(269,frT w.params [("script",k0,.ref 268)] 1),(270,Cel (.ref 284)),(284,Lo #[.int A ta,.int B tb] 2)] s.heap :=
    own_nodup (by simp only [List.forall_mem_cons]; exact ⟨⟨by lia,hN⟩,⟨by lia,hC⟩,⟨by lia,hL⟩,fun _ h => nomatch h⟩) (by show [269,270,284].Nodup; decide)
  refine segE I O3 (p := pp) (lSt_sw w) (hd := [none,none]) (lHd w) (ch := []) (fun a vs e => (chNil e).elim) H hO glNil fun s1 X1 ob etk esz egz tb' G1 => ?_
  have h70 := ob (270,_) (.tail _ (.head _))
  have h84 := ob (284,_) (.tail _ (.tail _ (.head _)))
  have hoa := ob (s.heap.objs.size + 7,_) (.tail _ (.tail _ (.tail _ (.head _))))
  have hN1 := ob (269,_) (.head _)
  simp only [hsz] at hoa hN1
  refine hGG (yE10 s1 r _ _ _ _ _ _ _ _ ⟨hr4,⟨fmod_rng _ (by decide),fmod_rng _ (by decide),fmod_rng _ (by decide)⟩,X1.drop fun b o e hu nv => ?_,hN1,h70,h84,hoa,esz.trans (by rw [hsz]),G1⟩)
  rcases hu with hu | ⟨vs,e⟩
  · have := upd_mem hu
    simp only [List.map_cons,List.map_nil,List.mem_cons,List.not_mem_nil,or_false] at this
    rcases this with h | h | h
    · exact absurd h nv
    · rw [h] at e ⊢; rw [hC] at e; cases e; exact h70
    · rw [h] at e ⊢; rw [hL] at e; cases e; exact h84
  · exact (chNil e).elim
theorem h3 {k0 k1 ta tb : Nat} {A B : Int} (I : Inv w s) (hsz : s.heap.objs.size = 296) (hN : s.heap.get? 269 = some (frT w.params [("script",k0,.ref 268),("octets",k1,.ref 295)] 2)) (hC : s.heap.get? 270 = some (Cel (.ref 284))) (hP : s.heap.get? 271 = some cel0) (hL : s.heap.get? 284 = some (Lo #[.int A ta,.int B tb] 2)) (pp : Pos) :
    ∃ s1 i d k2 td tp pp',i < 4 ∧ d < 2 ∧ Ext (fun b => b = 269 ∨ b = 271) s s1 ∧ s1.heap.get? 269 = some (frL3 w k0 k1 k2 295 (d : Nat) td) ∧ s1.heap.get? 271 = some (Cel (.int (prm i) tp)) ∧ s1.heap.objs.size = 301 ∧
      ∀ Z,Good w Z s1 ⟨lT w 3,lFn w,pp',lSt w⟩ → Good w Z s ⟨lT w 2,lFn w,pp,lSt w⟩ := by
  refine gv fun GG hGG => ?_
  obtain ⟨m0,m1⟩ := fmod_rng B (b := 4) (by decide)
  obtain ⟨i,hi⟩ : ∃ r : Nat,B.fmod 4 = r := ⟨(B.fmod 4).toNat,by lia⟩
  obtain ⟨n0,n1⟩ := fmod_rng (B.fdiv 4) (b := 2) (by decide)
  obtain ⟨d,hd⟩ : ∃ r : Nat,(B.fdiv 4).fmod 2 = r := ⟨((B.fdiv 4).fmod 2).toNat,by lia⟩
  have hi4 : i < 4 := by lia
  have hd2 : d < 2 := by lia
  have H := s3_end w s.heap.objs.size s.toks s.gens.size k0 k1 ta tb 295 A B (B.fdiv 4) pp i d hi4 hd2
  unfold S3End s3 at H
  have hO : ∀ y ∈ ([(1,mdO B 4 i),(5,fqO B 4 (B.fdiv 4)),(6,mdO (B.fdiv 4) 2 d)] : List (Nat × OE)),OEk w y.2 := by
    simp only [List.forall_mem_cons]
    exact ⟨by rw [← hi]; exact md_ok (by decide),fq_ok (by lia),by rw [← hd]; exact md_ok (by decide),fun _ h => nomatch h⟩
  have O4 : OwnL 0 [(269,frT w.params [("script",k0,.ref 268),("octets",k1,.ref 295)] 2),(270,Cel (.ref 284)),(271,cel0),(284,Lo #[.int A ta,.int B tb] 2)] s.heap :=
    own_nodup (by simp only [List.forall_mem_cons]; exact ⟨⟨by lia,hN⟩,⟨by lia,hC⟩,⟨by lia,hP⟩,⟨by lia,hL⟩,fun _ h => nomatch h⟩) (by show [269,270,271,284].Nodup; decide)
  refine segE I O4 (p := pp) (lSt_sw w) (hd := [none,none]) (lHd w) (ch := []) (fun a vs e => (chNil e).elim) H hO glNil fun s1 X1 ob etk esz egz tb' G1 => ?_
  have h70 := ob (270,_) (.tail _ (.head _))
  have h84 := ob (284,_) (.tail _ (.tail _ (.tail _ (.head _))))
  refine hGG (yE7 s1 i d _ _ _ _ ⟨hi4,hd2,X1.drop fun b o e hu nv => ?_,ob (269,_) (.head _),ob (271,_) (.tail _ (.tail _ (.head _))),esz.trans (by rw [hsz]),G1⟩)
  rcases hu with hu | ⟨vs,e⟩
  · have := upd_mem hu
    simp only [List.map_cons,List.map_nil,List.mem_cons,List.not_mem_nil,or_false] at this
    rcases this with h | h | h | h
    · exact absurd (.inl h) nv
    · rw [h] at e ⊢; rw [hC] at e; cases e; exact h70
    · exact absurd (.inr h) nv
    · rw [h] at e ⊢; rw [hL] at e; cases e; exact h84
  · exact (chNil e).elim
end
noncomputable def byteV : Value → UInt8
  | .int b _ => b.toNat.toUInt8
  | _ => 0
theorem bl_loop {w : World} {it ba L ep : Nat} {vs : Array Value} {st : List Frame} (ai : 268 ≤ it) (ab : 268 ≤ ba) (ne : it ≠ ba) (nl : L ≠ it ∧ L ≠ ba) (hv : ∀ (j : Nat) v,vs[j]? = some v → ∃ b t,v = .int b t ∧ 0 ≤ b ∧ b < 256) (hsz : vs.size ≤ 100) :
    ∀ (m : Nat) {i : Nat},i + m = vs.size → ∀ {s : Shared} {us : Array UInt8} {p : Pos},Inv w s → s.heap.get? it = some (Lit L i) → s.heap.get? L = some (Lo vs ep) → s.heap.get? ba = some (Bar us) → us.size = i →
    ∃ s' p',Ext (fun q => q = it ∨ q = ba) s s' ∧ s'.heap.get? it = some (Lit L vs.size) ∧ s'.heap.get? ba = some (Bar (us ++ ((vs.toList.drop i).map byteV).toArray)) ∧ ∀ Z,Good w Z s' ⟨den (blC it ba),blC it ba,p',st⟩ → Good w Z s ⟨den (blC it ba),blC it ba,p,st⟩
  | 0,i,e,s,us,p,I,hi,hl,hb,hu => by
    have : i = vs.size := by lia
    subst this
    refine ⟨s,p,Ext.refl I,hi,?_,fun Z q => q⟩
    rw [List.drop_of_length_le (by simp)]
    simpa using hb
  | m + 1,i,e,s,us,p,I,hi,hl,hb,hu => by
    have lt : i < vs.size := by lia
    refine xE2 (hv i vs[i] (Array.getElem?_eq_getElem lt)) fun b t hx => xA2 hx fun ev b0 b1 => ?_; clear hx
    refine xE2 (bl_turn (p := p) (st := st) I ai ab hi hl (by rw [Array.getElem?_eq_getElem lt,ev]) hb ne b0 b1 (by lia)) fun s1 p1 hx => xA3 hx fun X1 i1 a1 G1 => ?_; clear hx
    have I1 : Inv w s1 := X1.inv I fun q hq => .inl (by rcases hq with rfl | rfl <;> assumption)
    obtain ⟨s2,p2,X2,i2,a2,G2⟩ := bl_loop ai ab ne nl hv hsz m (i := i + 1) (by lia) I1 i1 (X1.keep _ _ hl (fun h => by rcases h with h | h; exact nl.1 h; exact nl.2 h)) a1 (by rw [Array.size_push]; lia)
    refine ⟨s2,p2,(X1.trans X2).mono (fun q h => h.elim id id),i2,?_,fun Z q => G1 Z (G2 Z q)⟩
    have ed : vs.toList.drop i = vs[i] :: vs.toList.drop (i + 1) := List.drop_eq_getElem_cons (by simpa using lt)
    have : byteV vs[i] = b.toNat.toUInt8 := by rw [ev]; rfl
    rw [a2,ed,List.map_cons,this]
    have : us.push b.toNat.toUInt8 ++ ((vs.toList.drop (i + 1)).map byteV).toArray = us ++ (b.toNat.toUInt8 :: (vs.toList.drop (i + 1)).map byteV).toArray := by
      apply Array.ext'
      simp
    rw [this]
section
variable (w : World) (sz tk gz k0 k1 k2 oa td t0 t1 t2 : Nat) (d b0 b1 b2 : Int) (pp : Pos)
theorem s4_ch (r : Nat) (h : r < 4) : (s4ao w sz tk gz k0 k1 k2 oa td t0 t1 t2 d b0 b1 b2 pp r).ch = [(219,(chLook (s4ao w sz tk gz k0 k1 k2 oa td t0 t1 t2 d b0 b1 b2 pp r).ch 219).getD #[])] := by
  match r,h with
  | 0,_ => kernel_rfl
  | 1,_ => kernel_rfl
  | 2,_ => kernel_rfl
  | 3,_ => kernel_rfl
end
theorem octs_int {r : Nat} {b0 b1 b2 : Int} {t0 t1 t2 : Nat} (hb : (0 ≤ b0 ∧ b0 < 256) ∧ (0 ≤ b1 ∧ b1 < 256) ∧ (0 ≤ b2 ∧ b2 < 256)) (h : r < 4) : ∀ (j : Nat) v,(octs r b0 b1 b2 t0 t1 t2)[j]? = some v → ∃ b t,v = .int b t ∧ 0 ≤ b ∧ b < 256 := by
  refine xA2 hb fun h0 h1 h2 => ?_; clear hb
  intro j v e
  match r,h with
  | 0,_ => cases e
  | 1,_ => match j with
    | 0 => cases e; exact ⟨_,_,rfl,h0⟩
    | _ + 1 => cases e
  | 2,_ => match j with
    | 0 => cases e; exact ⟨_,_,rfl,h0⟩
    | 1 => cases e; exact ⟨_,_,rfl,h1⟩
    | _ + 2 => cases e
  | 3,_ => match j with
    | 0 => cases e; exact ⟨_,_,rfl,h0⟩
    | 1 => cases e; exact ⟨_,_,rfl,h1⟩
    | 2 => cases e; exact ⟨_,_,rfl,h2⟩
    | _ + 3 => cases e
theorem octs_size {r : Nat} {b0 b1 b2 : Int} {t0 t1 t2 : Nat} (h : r < 4) : (octs r b0 b1 b2 t0 t1 t2).size = r := by
  match r,h with
  | 0,_ => rfl
  | 1,_ => rfl
  | 2,_ => rfl
  | 3,_ => rfl
theorem octs_bytes {r : Nat} {b0 b1 b2 : Int} {t0 t1 t2 : Nat} (h : r < 4) : #[] ++ (((octs r b0 b1 b2 t0 t1 t2).toList.drop 0).map byteV).toArray = usB r b0.toNat.toUInt8 b1.toNat.toUInt8 b2.toNat.toUInt8 := by
  match r,h with
  | 0,_ => rfl
  | 1,_ => rfl
  | 2,_ => rfl
  | 3,_ => rfl
theorem usB_size {r : Nat} {u0 u1 u2 : UInt8} (h : r < 4) : (usB r u0 u1 u2).size ≤ 3 := by
  match r,h with
  | 0,_ => exact Nat.zero_le _
  | 1,_ => exact Nat.le_add_left 1 2
  | 2,_ => exact Nat.le_add_left 2 1
  | 3,_ => exact Nat.le_refl 3
theorem ltX {b z i : Nat} (lb : b < z) (h : b = z + i) : False := by lia
theorem h4 {w : World} {s : Shared} {r k0 k1 k2 td t0 t1 t2 : Nat} {d b0 b1 b2 : Int} (I : Inv w s) (hsz : s.heap.objs.size = 301) (hr : r < 4) (hb : (0 ≤ b0 ∧ b0 < 256) ∧ (0 ≤ b1 ∧ b1 < 256) ∧ (0 ≤ b2 ∧ b2 < 256)) (hN : s.heap.get? 269 = some (frL3 w k0 k1 k2 295 d td))
    (hO : s.heap.get? 295 = some (Lo (octs r b0 b1 b2 t0 t1 t2) 0)) (hT : s.heap.get? 219 = some (tableObj #[])) (pp : Pos) :
    ∃ s1 k3 tn vs pp',Ext (fun b => b = 269 ∨ b = 219) s s1 ∧ s1.heap.get? 269 = some (frT w.params [("script",k0,.ref 268),("octets",k1,.ref 295),("dress",k2,.int d td),("n",k3,.int (fbV (usB r b0.toNat.toUInt8 b1.toNat.toUInt8 b2.toNat.toUInt8)) tn)] 4) ∧ s1.heap.get? 219 = some (tableObj vs) ∧
      ∀ Z,Good w Z s1 ⟨lT w 4,lFn w,pp',lSt w⟩ → Good w Z s ⟨lT w 3,lFn w,pp,lSt w⟩ := by
  refine gv fun GG hGG => ?_
  have H := s4a_end w s.heap.objs.size s.toks s.gens.size k0 k1 k2 295 td t0 t1 t2 d b0 b1 b2 pp r hr
  have Ec := s4_ch w s.heap.objs.size s.toks s.gens.size k0 k1 k2 295 td t0 t1 t2 d b0 b1 b2 pp r hr
  generalize hX : (chLook (s4ao w s.heap.objs.size s.toks s.gens.size k0 k1 k2 295 td t0 t1 t2 d b0 b1 b2 pp r).ch 219).getD #[] = vs at Ec
  have O2 : OwnL 0 [(269,frL3 w k0 k1 k2 295 d td),(295,Lo (octs r b0 b1 b2 t0 t1 t2) 0)] s.heap :=
    own_nodup (by simp only [List.forall_mem_cons]; exact ⟨⟨by lia,hN⟩,⟨by lia,hO⟩,fun _ h => nomatch h⟩) (by show [269,295].Nodup; decide)
  have hch : ∀ a vs,chLook [(219,#[])] a = some vs → a < 268 ∧ s.heap.get? a = some (tableObj vs) ∧ (kt0 w.params).get a = none := fun a vs e => by
    unfold chLook at e
    split at e
    · rename_i q
      have : 219 = a := Nat.eq_of_beq_eq_true q
      subst this
      cases e
      exact ⟨by decide,hT,rfl⟩
    · cases e
  unfold S4aEnd at H
  refine segCW (f := s4a w s.heap.objs.size s.toks s.gens.size k0 k1 k2 295 td t0 t1 t2 d b0 b1 b2 pp r) rfl I O2 (lSt_sw w) (lHd w) hch H (fun _ h => nomatch h) glNil fun q0 s1 X1 ob etk esz egz tb G1 => ?_; obtain ⟨W1,W2⟩ := q0
  rw [show out (En0 w 0) 542 (s4a w s.heap.objs.size s.toks s.gens.size k0 k1 k2 295 td t0 t1 t2 d b0 b1 b2 pp r) = s4ao w s.heap.objs.size s.toks s.gens.size k0 k1 k2 295 td t0 t1 t2 d b0 b1 b2 pp r from rfl] at W1 W2
  try dsimp only at W1 W2 tb X1 ob G1
  have ch219 : ∀ b vs',chLook (s4ao w s.heap.objs.size s.toks s.gens.size k0 k1 k2 295 td t0 t1 t2 d b0 b1 b2 pp r).ch b = some vs' → b = 219 := fun b vs' e => by
    rw [Ec] at e
    unfold chLook at e
    split at e
    · rename_i q
      exact (Nat.eq_of_beq_eq_true q).symm
    · cases e
  have t219 : s1.heap.get? 219 = some (tableObj vs) := tb 219 vs (by rw [Ec]; rfl)
  have X1' : Ext (fun b => b = 269 ∨ b = 219) s s1 := X1.drop fun b o e hu nv => by
    rcases hu with hu | ⟨vs',e'⟩
    · have := upd_mem hu
      simp only [List.map_cons,List.map_nil,List.mem_cons,List.not_mem_nil,or_false] at this
      rcases this with h | h
      · exact absurd (.inl h) nv
      · rw [h] at e ⊢; rw [hO] at e; cases e
        exact ob (295,_) (.tail _ (.head _))
    · exact absurd (.inr (ch219 b vs' e')) nv
  have I1 : Inv w s1 := X1'.inv I fun q hq => by
    rcases hq with rfl | rfl
    · exact .inl (by lia)
    · exact .inr (.inr rfl)
  have f34 := ob (s.heap.objs.size + 34,_) (.tail _ (.tail _ (.tail _ (.tail _ (.head _)))))
  have f35 := ob (s.heap.objs.size + 35,_) (.tail _ (.tail _ (.tail _ (.tail _ (.tail _ (.head _))))))
  have f33 := ob (s.heap.objs.size + 33,_) (.tail _ (.tail _ (.tail _ (.head _))))
  have f22 := ob (s.heap.objs.size + 22,_) (.tail _ (.tail _ (.head _)))
  have f69 := ob (269,_) (.head _)
  refine xE2 (bl_loop (w := w) (st := (s4ao w s.heap.objs.size s.toks s.gens.size k0 k1 k2 295 td t0 t1 t2 d b0 b1 b2 pp r).st) (it := s.heap.objs.size + 34) (ba := s.heap.objs.size + 35) (L := s.heap.objs.size + 33) (by lia) (by lia) (by lia) ⟨by lia,by lia⟩ (octs_int hb hr) (by rw [octs_size hr]; lia) r (i := 0) (by rw [octs_size hr]; lia)
    (p := (s4ao w s.heap.objs.size s.toks s.gens.size k0 k1 k2 295 td t0 t1 t2 d b0 b1 b2 pp r).p) I1 f34 f33 f35 rfl) fun s2 p2 hx => xA3 hx fun X2 i2 a2 G2 => ?_; clear hx
  rw [octs_size hr] at i2
  rw [octs_bytes hr] at a2
  have I2 : Inv w s2 := X2.inv I1 fun q hq => .inl (by rcases hq with rfl | rfl <;> lia)
  have g69 := X2.keep _ _ f69 (by rintro (h | h) <;> lia)
  have g33 := X2.keep _ _ f33 (by rintro (h | h) <;> lia)
  have g22 := X2.keep _ _ f22 (by rintro (h | h) <;> lia)
  have Hb := s4b_end w s.heap.objs.size s.toks s.gens.size k0 k1 k2 295 td t0 t1 t2 d b0 b1 b2 pp r s2.heap.objs.size s2.toks s2.gens.size b0.toNat.toUInt8 b1.toNat.toUInt8 b2.toNat.toUInt8 p2 hr
  unfold S4bEnd at Hb
  have O5 : OwnL 0 [(269,frL3 w k0 k1 k2 295 d td),(s.heap.objs.size + 34,Lit (s.heap.objs.size + 33) r),(s.heap.objs.size + 35,Bar (usB r b0.toNat.toUInt8 b1.toNat.toUInt8 b2.toNat.toUInt8)),(s.heap.objs.size + 33,Lo (octs r b0 b1 b2 t0 t1 t2) 0),(s.heap.objs.size + 22,frT w.params [("f",s.toks + 20,.ref (s.heap.objs.size + 20)),("n",s.toks + 36,.int r (s.toks + 35))] 2)] s2.heap :=
    own_nodup (by simp only [List.forall_mem_cons]; exact ⟨⟨by lia,g69⟩,⟨by lia,i2⟩,⟨by lia,a2⟩,⟨by lia,g33⟩,⟨by lia,g22⟩,fun _ h => nomatch h⟩) (by
      show [269,s.heap.objs.size + 34,s.heap.objs.size + 35,s.heap.objs.size + 33,s.heap.objs.size + 22].Nodup
      rw [hsz]; decide)
  refine segCW (f := s4b w s.heap.objs.size s.toks s.gens.size k0 k1 k2 295 td t0 t1 t2 d b0 b1 b2 pp r s2.heap.objs.size s2.toks s2.gens.size b0.toNat.toUInt8 b1.toNat.toUInt8 b2.toNat.toUInt8 p2) rfl I2 O5 W1 @W2 (fun a vs e => (chNil e).elim) Hb (fun _ h => nomatch h) glNil fun q0 s3 X3 ob3 etk3 esz3 egz3 tb3 G3 => ?_; obtain ⟨V1,V2⟩ := q0
  rw [show out (En0 w 0) 98 (s4b w s.heap.objs.size s.toks s.gens.size k0 k1 k2 295 td t0 t1 t2 d b0 b1 b2 pp r s2.heap.objs.size s2.toks s2.gens.size b0.toNat.toUInt8 b1.toNat.toUInt8 b2.toNat.toUInt8 p2) = s4bo w s.heap.objs.size s.toks s.gens.size k0 k1 k2 295 td t0 t1 t2 d b0 b1 b2 pp r s2.heap.objs.size s2.toks s2.gens.size b0.toNat.toUInt8 b1.toNat.toUInt8 b2.toNat.toUInt8 p2 from rfl] at V1 V2
  try dsimp only at V1 V2 X3 ob3 G3
  have X3' : Ext (fun q => q ∈ [269,s.heap.objs.size + 34,s.heap.objs.size + 35,s.heap.objs.size + 33,s.heap.objs.size + 22]) s2 s3 := X3.mono fun q hq => by
    rcases hq with hq | ⟨vs,e⟩
    · exact upd_mem hq
    · exact (chNil e).elim
  have I3 : Inv w s3 := X3'.inv I2 fun q hq => .inl (by
    simp only [List.mem_cons,List.not_mem_nil,or_false] at hq
    rcases hq with rfl | rfl | rfl | rfl | rfl <;> lia)
  have j69 := ob3 (269,_) (.head _)
  refine xE3 (fb_reach (w := w) (s := s3) (t := s2.toks) (t2 := s2.toks + 6) (p := (s4bo w s.heap.objs.size s.toks s.gens.size k0 k1 k2 295 td t0 t1 t2 d b0 b1 b2 pp r s2.heap.objs.size s2.toks s2.gens.size b0.toNat.toUInt8 b1.toNat.toUInt8 b2.toNat.toUInt8 p2).p)
    (st := (s4bo w s.heap.objs.size s.toks s.gens.size k0 k1 k2 295 td t0 t1 t2 d b0 b1 b2 pp r s2.heap.objs.size s2.toks s2.gens.size b0.toNat.toUInt8 b1.toNat.toUInt8 b2.toNat.toUInt8 p2).st) (usB_size (u0 := b0.toNat.toUInt8) (u1 := b1.toNat.toUInt8) (u2 := b2.toNat.toUInt8) hr)) fun tn n p4 G4 => ?_
  have I4 : Inv w { s3 with toks := n } := ⟨I3.kt,I3.lo,I3.gens⟩
  have Hc := s4c_end w s.heap.objs.size s.toks s.gens.size k0 k1 k2 295 td t0 t1 t2 d b0 b1 b2 pp r s2.heap.objs.size s2.toks s2.gens.size b0.toNat.toUInt8 b1.toNat.toUInt8 b2.toNat.toUInt8 p2 (fbV (usB r b0.toNat.toUInt8 b1.toNat.toUInt8 b2.toNat.toUInt8)) tn s3.heap.objs.size n s3.gens.size p4 hr
  unfold S4cEnd at Hc
  refine segCE (f := s4c w s.heap.objs.size s.toks s.gens.size k0 k1 k2 295 td t0 t1 t2 d b0 b1 b2 pp r s2.heap.objs.size s2.toks s2.gens.size b0.toNat.toUInt8 b1.toNat.toUInt8 b2.toNat.toUInt8 p2 (fbV (usB r b0.toNat.toUInt8 b1.toNat.toUInt8 b2.toNat.toUInt8)) tn s3.heap.objs.size n s3.gens.size p4) (s := { s3 with toks := n }) rfl I4 (own1 (ro := 0) (by lia) j69) V1 @V2 (fun a vs e => (chNil e).elim) Hc (fun _ h => nomatch h) glNil fun s5 X5 ob5 etk5 esz5 egz5 tb5 G5 => ?_
  have X5' : Ext (fun q => q = 269) s3 s5 := by
    have := X5.mono (v := fun q => q = 269) fun q hq => by
      rcases hq with hq | ⟨vs,e⟩
      · have := upd_mem hq
        simpa using this
      · exact (chNil e).elim
    exact ⟨this.keep,this.size,this.gens,this.os,this.drawn,this.life⟩
  refine hGG (yE5 s5 _ tn vs _ ⟨?_,ob5 (269,_) (.head _),?_,fun Z q => G1 Z (G2 Z (G3 Z (G4 Z (G5 Z q))))⟩)
  · refine ((X1'.trans X2).trans (X3'.trans X5')).drop fun b o e hu nv => ?_
    have lb : b < s.heap.objs.size := Heap.lt_size e
    refine X5'.keep b o (X3'.keep b o (X2.keep b o (X1'.keep b o e nv) ?_) ?_) fun h => nv (.inl h)
    · rintro (h | h) <;> exact ltX lb h
    · intro h
      simp only [List.mem_cons,List.not_mem_nil,or_false] at h
      rcases h with h | h | h | h | h
      · exact nv (.inl h)
      all_goals exact ltX lb h
  · refine X5'.keep _ _ (X3'.keep _ _ (X2.keep _ _ t219 ?_) ?_) (by decide)
    · rintro (h | h) <;> lia
    · simp only [List.mem_cons,List.not_mem_nil,or_false]
      lia
noncomputable def frG (f : Cf) : Bool := match f.st with
  | .ret _ _ g _ _ _ _ :: _ => g
  | _ => false
noncomputable def frL (f : Cf) : List Value := match f.st with
  | .ret _ _ _ l _ _ _ :: _ => l
  | _ => []
theorem lFn_eq (w : World) : lFn w = .func (lB w) (lEv w) := by kernel_rfl
theorem lSw_eq (w : World) : lSw w = [callerC] := by kernel_rfl
noncomputable def frS (o : Cf) (c : Code) (rest : List Frame) : List Frame := .ret (kOf o) none (frG o) (frL o) c (frPos o) [] :: rest
noncomputable def frL4 (w : World) (k0 k1 k2 k3 oa td tn : Nat) (d n : Int) : Obj := frT w.params [("script",k0,.ref 268),("octets",k1,.ref oa),("dress",k2,.int d td),("n",k3,.int n tn)] 4
noncomputable def frL5 (w : World) (k0 k1 k2 k3 k4 oa td tn : Nat) (d n : Int) (pt : Str) (tp : Nat) : Obj := frT w.params [("script",k0,.ref 268),("octets",k1,.ref oa),("dress",k2,.int d td),("n",k3,.int n tn),("pattern",k4,.str pt tp)] 5
noncomputable def lF (w : World) (it : Nat) : Code := match nthS (lB w) 7 with
  | .For t _ b o _ => .forLoop t (.ref it) b o (lEv w)
  | _ => default
section
variable (w : World) (sz tk gz k0 k1 k2 k3 k4 oa td tn tp : Nat) (d n p : Int) (pp : Pos)
noncomputable def s5 : Cf := st0 (lT w 4) (lFn w) pp (lSt w) (lSw w) [none,none] [(269,frL4 w k0 k1 k2 k3 oa td tn d n),(271,Cel (.int p tp))] sz tk gz [] [0,1,2,1,0] [] []
noncomputable def s5o : Cf := out (En0 w 0) 13 (s5 w sz tk gz k0 k1 k2 k3 oa td tn tp d n p pp)
noncomputable def S5End (p d : Nat) : Prop := EndOf w 0 13 (s5 w sz tk gz k0 k1 k2 k3 oa td tn tp d n p pp) [0,1]
  ⟨⟨den (pCall tn tp tk td n 5 p d),pCall tn tp tk td n 5 p d,(s5o w sz tk gz k0 k1 k2 k3 oa td tn tp d n p pp).p,frS (s5o w sz tk gz k0 k1 k2 k3 oa td tn tp d n p pp) (lFn w) (lSt w)⟩,[some (269,frL4 w k0 k1 k2 k3 oa td tn d n),some (271,Cel (.int p tp))],tk + 1,sz,gz,[],[]⟩
theorem s5_end (p d : Nat) : S5End w sz tk gz k0 k1 k2 k3 oa td tn tp n pp p d := by unfold S5End EndOf; kernel_rfl
variable (x : Str) (tx sz2 tk2 gz2 : Nat) (pp2 : Pos)
noncomputable def s6 : Cf := st0 (kOf (s5o w sz tk gz k0 k1 k2 k3 oa td tn tp d n p pp) (.ok (.ret (.str x tx)))) (lFn w) pp2 (lSt w) (lSw w) [none,none] [(269,frL4 w k0 k1 k2 k3 oa td tn d n)] sz2 tk2 gz2 [] [1,1,0,0,1,0] [0] []
noncomputable def s6o : Cf := out (En0 w 0) 18 (s6 w sz tk gz k0 k1 k2 k3 oa td tn tp d n p pp x tx sz2 tk2 gz2 pp2)
noncomputable def S6End : Prop := EndOf w 0 18 (s6 w sz tk gz k0 k1 k2 k3 oa td tn tp d n p pp x tx sz2 tk2 gz2 pp2) [0]
  ⟨⟨den (tCall tx x),tCall tx x,(s6o w sz tk gz k0 k1 k2 k3 oa td tn tp d n p pp x tx sz2 tk2 gz2 pp2).p,frS (s6o w sz tk gz k0 k1 k2 k3 oa td tn tp d n p pp x tx sz2 tk2 gz2 pp2) (lFn w) (lSt w)⟩,[some (269,frL5 w k0 k1 k2 k3 tk2 oa td tn d n x tx)],tk2 + 1,sz2,gz2,[],[]⟩
theorem s6_end : S6End w sz tk gz k0 k1 k2 k3 oa td tn tp d n p pp x tx sz2 tk2 gz2 pp2 := by unfold S6End EndOf; kernel_rfl
variable (y : Str) (ty sz3 tk3 gz3 : Nat) (pp3 : Pos)
noncomputable def s7 : Cf := st0 (kOf (s6o w sz tk gz k0 k1 k2 k3 oa td tn tp d n p pp x tx sz2 tk2 gz2 pp2) (.ok (.ret (.str y ty)))) (lFn w) pp3 (lSt w) (lSw w) [none,none] [] sz3 tk3 gz3 [] [0] [] []
noncomputable def s7o : Cf := out (En0 w 0) 4 (s7 w sz tk gz k0 k1 k2 k3 oa td tn tp d n p pp x tx sz2 tk2 gz2 pp2 y ty sz3 tk3 gz3 pp3)
noncomputable def S7End : Prop := EndOf w 0 4 (s7 w sz tk gz k0 k1 k2 k3 oa td tn tp d n p pp x tx sz2 tk2 gz2 pp2 y ty sz3 tk3 gz3 pp3) []
  ⟨⟨den (iCall y ty),iCall y ty,(s7o w sz tk gz k0 k1 k2 k3 oa td tn tp d n p pp x tx sz2 tk2 gz2 pp2 y ty sz3 tk3 gz3 pp3).p,frS (s7o w sz tk gz k0 k1 k2 k3 oa td tn tp d n p pp x tx sz2 tk2 gz2 pp2 y ty sz3 tk3 gz3 pp3) (lFn w) (lSt w)⟩,[],tk3,sz3,gz3,[],[]⟩
theorem s7_end : S7End w sz tk gz k0 k1 k2 k3 oa td tn tp d n p pp x tx sz2 tk2 gz2 pp2 y ty sz3 tk3 gz3 pp3 := by unfold S7End EndOf; kernel_rfl
variable (T Li sz4 tk4 gz4 kp tpt : Nat) (star : Bool) (pp4 : Pos)
noncomputable def s8 : Cf := st0 (kOf (s7o w sz tk gz k0 k1 k2 k3 oa td tn tp d n p pp x tx sz2 tk2 gz2 pp2 y ty sz3 tk3 gz3 pp3) (.ok (.ret (.ref T)))) (lFn w) pp4 (lSt w) (lSw w) [none,none] [(269,frL5 w k0 k1 k2 k3 kp oa td tn d n x tpt),(272,cel0),(273,cel0),(T,Tup [.bool star,.ref Li])] sz4 tk4 gz4 []
  [4,4,4,4,5,5,5,5,5,4,5,5,5,5,5,5,4,5,5,5,5,5,5,4,5,5,7,2,2,3,3,1,1,0,0,8,8,8,8,8,8,8,8,8,8,9] [1,0,1] []
noncomputable def s8o : Cf := out (En0 w 0) 104 (s8 w sz tk gz k0 k1 k2 k3 oa td tn tp d n p pp x tx sz2 tk2 gz2 pp2 y ty sz3 tk3 gz3 pp3 T Li sz4 tk4 gz4 kp tpt star pp4)
noncomputable def Rt1 (cur rem : Int) : Obj := ⟨.type "range_iterator",none,.fields #[.int cur 0,.int rem 0,.int 1 0],#[]⟩
noncomputable def S8End : Prop := EndOf w 0 104 (s8 w sz tk gz k0 k1 k2 k3 oa td tn tp d n p pp x tx sz2 tk2 gz2 pp2 y ty sz3 tk3 gz3 pp3 T Li sz4 tk4 gz4 kp tpt star pp4) [0,1,2,3,8]
  ⟨⟨den (lF w (sz4 + 4)),lF w (sz4 + 4),(s8o w sz tk gz k0 k1 k2 k3 oa td tn tp d n p pp x tx sz2 tk2 gz2 pp2 y ty sz3 tk3 gz3 pp3 T Li sz4 tk4 gz4 kp tpt star pp4).p,frS (s8o w sz tk gz k0 k1 k2 k3 oa td tn tp d n p pp x tx sz2 tk2 gz2 pp2 y ty sz3 tk3 gz3 pp3 T Li sz4 tk4 gz4 kp tpt star pp4) (lFn w) (lSt w)⟩,
   [some (269,frT w.params [("script",k0,.ref 268),("octets",k1,.ref oa),("dress",k2,.int d td),("n",k3,.int n tn),("pattern",kp,.str x tpt),("chosen",tk4 + 1,.int 1 tk4)] 6),some (272,Cel (.bool star)),some (273,Cel (.ref Li)),some (T,Tup [.bool star,.ref Li]),some (sz4 + 4,Rt1 0 25)],tk4 + 5,sz4 + 5,gz4,[],[]⟩
theorem s8_end : S8End w sz tk gz k0 k1 k2 k3 oa td tn tp d n p pp x tx sz2 tk2 gz2 pp2 y ty sz3 tk3 gz3 pp3 T Li sz4 tk4 gz4 kp tpt star pp4 := by unfold S8End EndOf; kernel_rfl
end
noncomputable def cxK (w : World) (it : Nat) (p q : Pos) : Cx := match nthS (lB w) 7 with
  | .For t _ b o _ => .L t (.ref it) b o (lEv w) p (lB w) (lEv w) q
  | _ => .D [] default default
theorem cxK_c (w : World) (it : Nat) (p q : Pos) : (cxK w it p q).c = lF w it := by kernel_rfl
theorem cxK_p (w : World) (it : Nat) (p q : Pos) : (cxK w it p q).p = p := by kernel_rfl
theorem cxK_sw (w : World) (it : Nat) (p q : Pos) : (cxK w it p q).sw = [(lFn w,q),callerC] := by kernel_rfl
theorem cxK_l1 (w : World) (it : Nat) (p q : Pos) : (cxK w it p q).l1 = true := by kernel_rfl
theorem cxK_lc (w : World) (it : Nat) (p q : Pos) : (cxK w it p q).lc = true := by kernel_rfl
noncomputable def rn1O (i a : Nat) (cur rem : Int) : OE := ⟨PySem.code "range_iterator.__next__",[.r a],[(i,a,Rt1 cur rem)],fun _ => [(i,a,Rt1 (cur + 1) (rem - 1))],fun _ => [],fun _ tk _ => .int cur tk,1,none⟩
structure Nm6 where
  (k0 k1 k2 k3 k4 k5 k6 oa td tn tpt tk6 : Nat)
  d : Int
  n : Int
  x : Str
noncomputable def frK (w : World) (sh : Nat) (N : Nm6) (ch : Int) (tc : Nat) (kv : Int) : Obj := match sh with
  | 0 => frT w.params [("script",N.k0,.ref 268),("octets",N.k1,.ref N.oa),("dress",N.k2,.int N.d N.td),("n",N.k3,.int N.n N.tn),("pattern",N.k4,.str N.x N.tpt),("chosen",N.k5,.int ch tc)] 6
  | _ => frT w.params [("script",N.k0,.ref 268),("octets",N.k1,.ref N.oa),("dress",N.k2,.int N.d N.td),("n",N.k3,.int N.n N.tn),("pattern",N.k4,.str N.x N.tpt),("chosen",N.k5,.int ch tc),("k",N.k6,.int kv N.tk6)] 7
noncomputable def nCall (a : Nat) : Code := .call (.ref 231) ⟨[.ref a],[]⟩
noncomputable def gtR (a b : Int) (r : Bool) : OE := oeP "int.__gt__" [.i a,.i b] (fun _ => .bool r) 0
noncomputable def neR (a b : Int) (r : Bool) : OE := oeP "int.__ne__" [.i a,.i b] (fun _ => .bool r) 0
noncomputable def sbO (a b c : Int) : OE := oeP "int.__sub__" [.i a,.i b] (fun tk => .int c tk) 1
noncomputable def mlO (a b c : Int) : OE := oeP "int.__mul__" [.i a,.i b] (fun tk => .int c tk) 1
section
variable (w : World) (it Li ep tp tc sz tk gz : Nat) (N : Nm6) (star r b : Bool) (p cur rem ch kv ni : Int) (vs : Array Value) (q pp : Pos) (rest : List Frame) (sh : Nat)
noncomputable def K1 : Cf := st0 (den (lF w it)) (lF w it) pp rest [(lFn w,q),callerC] [none,none]
  [(269,frK w sh N ch tc kv),(271,Cel (.int p tp)),(272,Cel (.bool star)),(273,Cel (.ref Li)),(it,Rt1 cur rem),(Li,Lo vs ep)] sz tk gz []
  ([5,5,1,1,0,3,4,0,1,2,0,0,0,0,4,7,7,7,8,9,8,8,8,8,7,8,8,9,9,9,9,8,8,8,8,7,8,8,9] ++ (match r with | true => [9,9,9] | false => []) ++ [8,8,8,8,7,8,8,11,9,9,9,0]) [0,1,1]
  [(0,rn1O 4 it cur rem),(1,oeLenV (.r Li) [(5,Li,Lo vs ep)] ni),(8,gtR ni 5 r)]
noncomputable def k1n (r : Bool) : Nat := match r with
  | true => 114
  | false => 111
noncomputable def mx (r : Bool) (ni : Int) : Int := match r with
  | true => ni
  | false => 5
noncomputable def mxt (r : Bool) (tk : Nat) : Nat := match r with
  | true => tk + 4
  | false => tk + 2
noncomputable def k6' (sh tk : Nat) (N : Nm6) : Nm6 := match sh with
  | 0 => ⟨N.k0,N.k1,N.k2,N.k3,N.k4,N.k5,tk + 1,N.oa,N.td,N.tn,N.tpt,tk,N.d,N.n,N.x⟩
  | _ => ⟨N.k0,N.k1,N.k2,N.k3,N.k4,N.k5,N.k6,N.oa,N.td,N.tn,N.tpt,tk,N.d,N.n,N.x⟩
noncomputable def K1o : Cf := out (En0 w 0) (k1n r) (K1 w it Li ep tp tc sz tk gz N star r p cur rem ch kv ni vs q pp rest sh)
noncomputable def K1End (r : Bool) (sh : Nat) : Prop := EndOf w 0 (k1n r) (K1 w it Li ep tp tc sz tk gz N star r p cur rem ch kv ni vs q pp rest sh) [0,1,2,3,4,5]
  ⟨⟨den (wCall cur p (mx r ni) tk tp (mxt r tk)),wCall cur p (mx r ni) tk tp (mxt r tk),(K1o w it Li ep tp tc sz tk gz N star r p cur rem ch kv ni vs q pp rest sh).p,frS (K1o w it Li ep tp tc sz tk gz N star r p cur rem ch kv ni vs q pp rest sh) (lF w it) rest⟩,
   [some (269,frK w 1 (k6' sh tk N) ch tc cur),some (271,Cel (.int p tp)),some (272,Cel (.bool star)),some (273,Cel (.ref Li)),some (it,Rt1 (cur + 1) (rem - 1)),some (Li,Lo vs ep)],tk + 5,sz + 5,gz,[],[]⟩
theorem K1_end (h : sh = 0 ∨ sh = 1) : K1End w it Li ep tp tc sz tk gz N star p cur rem ch kv ni vs q pp rest r sh := by
  have H : ∀ x y,(x,y) ∈ lpr [0,1] [false,true] → K1End w it Li ep tp tc sz tk gz N star p cur rem ch kv ni vs q pp rest y x := all2 (by kernel_rfl)
  exact H sh r (mem_lpr (mem_2 h) (mem_ft r))
variable (wd : Str) (tw sz2 tk2 gz2 : Nat) (pp2 : Pos)
noncomputable def K2 : Cf := st0 (kOf (K1o w it Li ep tp tc sz tk gz N star r p cur rem ch kv ni vs q pp rest sh) (.ok (.ret (.str wd tw)))) (lF w it) pp2 rest [(lFn w,q),callerC] [none,none] [] sz2 tk2 gz2 [] [0] [] []
noncomputable def K2o : Cf := out (En0 w 0) 4 (K2 w it Li ep tp tc sz tk gz N star r p cur rem ch kv ni vs q pp rest sh wd tw sz2 tk2 gz2 pp2)
noncomputable def K2End (r : Bool) (sh : Nat) : Prop := EndOf w 0 4 (K2 w it Li ep tp tc sz tk gz N star r p cur rem ch kv ni vs q pp rest sh wd tw sz2 tk2 gz2 pp2) []
  ⟨⟨den (uCall star Li wd tw),uCall star Li wd tw,(K2o w it Li ep tp tc sz tk gz N star r p cur rem ch kv ni vs q pp rest sh wd tw sz2 tk2 gz2 pp2).p,frS (K2o w it Li ep tp tc sz tk gz N star r p cur rem ch kv ni vs q pp rest sh wd tw sz2 tk2 gz2 pp2) (lF w it) rest⟩,[],tk2,sz2,gz2,[],[]⟩
theorem K2_end (h : sh = 0 ∨ sh = 1) : K2End w it Li ep tp tc sz tk gz N star p cur rem ch kv ni vs q pp rest wd tw sz2 tk2 gz2 pp2 r sh := by
  have H : ∀ x y,(x,y) ∈ lpr [0,1] [false,true] → K2End w it Li ep tp tc sz tk gz N star p cur rem ch kv ni vs q pp rest wd tw sz2 tk2 gz2 pp2 y x := all2 (by kernel_rfl)
  exact H sh r (mem_lpr (mem_2 h) (mem_ft r))
variable (sz3 tk3 gz3 : Nat) (pp3 : Pos) (m : Int)
noncomputable def K3 : Cf := st0 (kOf (K2o w it Li ep tp tc sz tk gz N star r p cur rem ch kv ni vs q pp rest sh wd tw sz2 tk2 gz2 pp2) (.ok (.ret (.bool b)))) (lF w it) pp3 rest [(lFn w,q),callerC] [none,none] [(269,frK w 1 (k6' sh tk N) ch tc cur),(271,Cel (.int p tp))] sz3 tk3 gz3 [] [1,2,1,0,1,0] [1,1]
  [(0,mdO ch p m),(1,neR m 0 b)]
noncomputable def K3o : Cf := out (En0 w 0) 28 (K3 w it Li ep tp tc sz tk gz N star r b p cur rem ch kv ni vs q pp rest sh wd tw sz2 tk2 gz2 pp2 sz3 tk3 gz3 pp3 m)
noncomputable def K3End (r b : Bool) (sh : Nat) : Prop := EndOf w 0 28 (K3 w it Li ep tp tc sz tk gz N star r b p cur rem ch kv ni vs q pp rest sh wd tw sz2 tk2 gz2 pp2 sz3 tk3 gz3 pp3 m) [0,1]
  ⟨⟨den (nCall N.oa),nCall N.oa,(K3o w it Li ep tp tc sz tk gz N star r b p cur rem ch kv ni vs q pp rest sh wd tw sz2 tk2 gz2 pp2 sz3 tk3 gz3 pp3 m).p,frS (K3o w it Li ep tp tc sz tk gz N star r b p cur rem ch kv ni vs q pp rest sh wd tw sz2 tk2 gz2 pp2 sz3 tk3 gz3 pp3 m) (lF w it) rest⟩,
   [some (269,frK w 1 (k6' sh tk N) ch tc cur),some (271,Cel (.int p tp))],tk3 + 2,sz3,gz3,[],[]⟩
theorem K3_end (h : sh = 0 ∨ sh = 1) : K3End w it Li ep tp tc sz tk gz N star p cur rem ch kv ni vs q pp rest wd tw sz2 tk2 gz2 pp2 sz3 tk3 gz3 pp3 m r b sh := by
  have H : ∀ x y z,(x,y,z) ∈ trb (lpr [0,1] [false,true]) → K3End w it Li ep tp tc sz tk gz N star p cur rem ch kv ni vs q pp rest wd tw sz2 tk2 gz2 pp2 sz3 tk3 gz3 pp3 m y z x := all3 (by kernel_rfl)
  exact H sh r b (mem_trb b (mem_lpr (mem_2 h) (mem_ft r)))
variable (nv s1 m1 c1 : Int) (tv sz4 tk4 gz4 : Nat) (pp4 : Pos)
noncomputable def K4 : Cf := st0 (kOf (K3o w it Li ep tp tc sz tk gz N star r b p cur rem ch kv ni vs q pp rest sh wd tw sz2 tk2 gz2 pp2 sz3 tk3 gz3 pp3 m) (.ok (.ret (.int nv tv)))) (lF w it) pp4 rest [(lFn w,q),callerC] [none,none] [(269,frK w 1 (k6' sh tk N) ch tc cur)] sz4 tk4 gz4 [] [1,1,1,1] [0]
  [(0,sbO nv cur s1),(1,mlO ch s1 m1),(3,fqO m1 (cur + 1) c1)]
noncomputable def K4End (r b : Bool) (sh : Nat) : Prop := EndOf w 0 28 (K4 w it Li ep tp tc sz tk gz N star r b p cur rem ch kv ni vs q pp rest sh wd tw sz2 tk2 gz2 pp2 sz3 tk3 gz3 pp3 m nv s1 m1 c1 tv sz4 tk4 gz4 pp4) [0]
  ⟨⟨den (lF w it),lF w it,(out (En0 w 0) 28 (K4 w it Li ep tp tc sz tk gz N star r b p cur rem ch kv ni vs q pp rest sh wd tw sz2 tk2 gz2 pp2 sz3 tk3 gz3 pp3 m nv s1 m1 c1 tv sz4 tk4 gz4 pp4)).p,rest⟩,[some (269,frK w 1 (k6' sh tk N) c1 (tk4 + 4) cur)],tk4 + 6,sz4,gz4,[],[]⟩
theorem K4_end (h : sh = 0 ∨ sh = 1) : K4End w it Li ep tp tc sz tk gz N star p cur rem ch kv ni vs q pp rest wd tw sz2 tk2 gz2 pp2 sz3 tk3 gz3 pp3 m nv s1 m1 c1 tv sz4 tk4 gz4 pp4 r b sh := by
  have H : ∀ x y z,(x,y,z) ∈ trb (lpr [0,1] [false,true]) → K4End w it Li ep tp tc sz tk gz N star p cur rem ch kv ni vs q pp rest wd tw sz2 tk2 gz2 pp2 sz3 tk3 gz3 pp3 m nv s1 m1 c1 tv sz4 tk4 gz4 pp4 y z x := all3 (by kernel_rfl)
  exact H sh r b (mem_trb b (mem_lpr (mem_2 h) (mem_ft r)))
end
noncomputable def nRep (r : Nat) (l : List Nat) : List Nat := match r with
  | 0 => []
  | 1 => l
  | 2 => l ++ l
  | _ => l ++ l ++ l
noncomputable def nTail (r : Nat) (o : Bool) : List Nat := match r with
  | 0 => [9,10,9,9,10,9,10,9,10,2]
  | _ => match o with
    | true => [9,10,9,9,2,0,0,2,1,1,1]
    | false => [9,10,9,9,2]
noncomputable def nL (r : Nat) (o : Bool) : List Nat := [0,0,2,2,0,2,2,2,1,1,1,1,3,3,3,3,3,1,4,4,4,5,5,5,5,5,4,5,5] ++ nRep r [2,2,2,2,2,2,5,5,5,5,4,5,5] ++ [7,2,1,1,1,1,8,8,8,8,8,1] ++ nTail r o
noncomputable def nA (r : Nat) : List Nat := [0,0,1] ++ nRep r [0,0] ++ [1]
noncomputable def nN (r : Nat) (o : Bool) : Nat := match r with
  | 0 => 123
  | 1 => match o with
    | true => 184
    | false => 156
  | 2 => match o with
    | true => 224
    | false => 196
  | _ => match o with
    | true => 264
    | false => 236
noncomputable def nVal (r : Nat) (b0 b1 b2 : Int) : Int := match r with
  | 0 => 0
  | 1 => 0 + b0
  | 2 => 256 * (0 + b1) + b0
  | _ => 256 * (256 * (0 + b2) + b1) + b0
noncomputable def nTop (r : Nat) (b0 b1 b2 : Int) : Int := match r with
  | 0 => 0
  | 1 => b0
  | 2 => b1
  | _ => b2
noncomputable def p256 (r : Nat) : Int := match r with
  | 0 => 1
  | 1 => 256
  | 2 => 65536
  | _ => 16777216
noncomputable def lgO (a b : Nat) (x : Int) (t u : Nat) (r : Bool) : OE := ⟨PySem.code "list.__gt__",[.r a,.r b],[(8,a,Lo #[.int x t] 0),(9,b,Lo #[.int 127 u] 0)],fun _ => [],fun _ => [],fun _ _ _ => .bool r,0,none⟩
noncomputable def nO (r : Nat) (o : Bool) (b0 b1 b2 : Int) (sz tk t0 t1 t2 : Nat) : List (Nat × OE) := match r with
  | 0 => []
  | 1 => [(4,mlO 256 0 0),(9,lgO (sz + 7) (sz + 8) b0 t0 (tk + 12) o)] ++ (match o with
    | true => [(13,sbO (nVal 1 b0 b1 b2) 256 (nVal 1 b0 b1 b2 - 256))]
    | false => [])
  | 2 => [(4,mlO 256 0 0),(7,mlO 256 (0 + b1) (256 * (0 + b1))),(12,lgO (sz + 7) (sz + 8) b1 t1 (tk + 17) o)] ++ (match o with
    | true => [(16,sbO (nVal 2 b0 b1 b2) 65536 (nVal 2 b0 b1 b2 - 65536))]
    | false => [])
  | _ => [(4,mlO 256 0 0),(7,mlO 256 (0 + b2) (256 * (0 + b2))),(10,mlO 256 (256 * (0 + b2) + b1) (256 * (256 * (0 + b2) + b1))),(15,lgO (sz + 7) (sz + 8) b2 t2 (tk + 22) o)] ++ (match o with
    | true => [(19,sbO (nVal 3 b0 b1 b2) 16777216 (nVal 3 b0 b1 b2 - 16777216))]
    | false => [])
noncomputable def nRes (r : Nat) (o : Bool) (b0 b1 b2 : Int) : Int := match r with
  | 0 => 0
  | r => match o with
    | true => nVal r b0 b1 b2 - p256 r
    | false => nVal r b0 b1 b2
section
variable (w : World) (cx : Cx) (sz tk gz oa t0 t1 t2 : Nat) (b0 b1 b2 : Int) (k : Result → Sem Fin) (g : Bool) (lv : List Value) (pp : Pos) (rest : List Frame)
noncomputable def nC (r : Nat) (o : Bool) : Cf := st0 (den (nCall oa)) (nCall oa) pp (.ret k none g lv cx.c cx.p [] :: rest) ((cx.c,cx.p) :: cx.sw) [none,none] [(oa,Lo (octs r b0 b1 b2 t0 t1 t2) 0)] sz tk gz [] (nL r o) (nA r) (nO r o b0 b1 b2 sz tk t0 t1 t2)
noncomputable def NEnd (r : Nat) (o : Bool) : Prop := EndR w 1 (nN r o) (nC cx sz tk gz oa t0 t1 t2 b0 b1 b2 k g lv pp rest r o) [0] (.i (nRes r o b0 b1 b2)) (.ret k none g lv cx.c cx.p [] :: rest) [some (oa,Lo (octs r b0 b1 b2 t0 t1 t2) 0)] []
theorem n_end (hx : cx.l1 = true) (r : Nat) (o : Bool) (h : r < 4) : NEnd w cx sz tk gz oa t0 t1 t2 b0 b1 b2 k g lv pp rest r o := by
  cases cx with
  | D st env q' => cases hx
  | L t it b o' e p' st env q' =>
    match r,h with
    | 0,_ => cases o <;> (unfold NEnd EndR; kernel_rfl)
    | 1,_ => cases o <;> (unfold NEnd EndR; kernel_rfl)
    | 2,_ => cases o <;> (unfold NEnd EndR; kernel_rfl)
    | 3,_ => cases o <;> (unfold NEnd EndR; kernel_rfl)
  | C => cases hx
end
section
open AutoSeq1 (wpAny_loadPart')
theorem list_gt1 (l b : Addr) (x : Int) (t u : Tok) : Meets (Builtin.«list.__gt__» ⟨[.ref l,.ref b],[]⟩)
    (fun _ R s => s.heap.get? l = some (Lo #[.int x t] 0) ∧ s.heap.get? b = some (Lo #[.int 127 u] 0) ∧ R (.ok (.ret (.bool (decide (x > 127))))) s) := by
  intro prog w A R s h
  obtain ⟨hp,g,d,tk,os⟩ := s; obtain ⟨hl,hb,h⟩ := h
  have f3 := AutoSeq1.sub_list_list
  wp_walk using wpAny_loadPart' hl,wpAny_loadPart' hb
  refine ⟨plainId_quiet MeetsSeq3.plain_eq_loop _,codeAny_builtin MeetsSeq3.entry_eq_loop ?_⟩
  rw [Around.under_plainId MeetsSeq3.plain_eq_loop _]
  unfold Builtin.«list.__eq__.loop»
  wp_walk using wpAny_loadPart' hl,wpAny_loadPart' hb
  show wpAny _ _ (eqBool (.int x t) (.int 127 u)) _ _ _
  refine wpAny_eqBool_int ?_
  by_cases e : x = 127
  · subst e
    rw [show ((127 : Int) == 127) = true from rfl]
    show wpAny _ _ (again (.builtin "list.__eq__.loop" ⟨[.ref l,.ref b,rawInt 1,rawInt 4],[]⟩)) _ _ _
    refine wpAny_pure ⟨plainId_quiet MeetsSeq3.plain_eq_loop _,codeAny_builtin MeetsSeq3.entry_eq_loop ?_⟩
    rw [Around.under_plainId MeetsSeq3.plain_eq_loop _]
    unfold Builtin.«list.__eq__.loop»
    wp_walk using wpAny_loadPart' hl,wpAny_loadPart' hb
    have h' : R (.ok (.ret (.bool false))) ⟨hp,g,d,tk,os⟩ := h
    exact h'
  · have e2 : (x == 127) = false := by simpa using e
    rw [e2]
    refine wpAny_bind (wpAny_listItems (s := ⟨hp,g,d,tk,os⟩) hl rfl ?_)
    refine wpAny_bind (wpAny_listItems (s := ⟨hp,g,d,tk,os⟩) hb rfl ?_)
    refine wpAny_bind ?_
    show wpAny _ _ (compareOp .Gt (.int x t) (.int 127 u)) _ _ _
    exact PySem.P.gt_int (wpAny_pure h)
theorem lgO_ok {w : World} {a b : Nat} {x : Int} {t u : Nat} {r : Bool} (h : decide (x > 127) = r) : OEk w (lgO a b x t u r) :=
  oe_meets (b := Builtin.«list.__gt__») rfl (by decide +kernel) (entryFor_of_tree (by kernel_rfl)) fun s pos hp hn _ => by
    refine xE2 (args2 hp) fun p0 p1 hxx => xA2 hxx fun qq2 h0 h1 => ?_; clear hxx; obtain rfl := qq2
    rw [strip_r h0,strip_r h1]
    refine ⟨_,list_gt1 a b x t u,fun A R hR => ⟨hn _ (.head _),hn _ (.tail _ (.head _)),?_⟩⟩
    rw [h]
    exact hR
theorem ml_ok {w : World} {x : Int} : OEk w (mlO 256 x (256 * x)) := oeMul (IntMulOk.of_left (by decide)) rfl
theorem sb_ok {w : World} {x y : Int} : OEk w (sbO x y (x - y)) := oeSub rfl
theorem nO_ok {w : World} {r : Nat} {o : Bool} {b0 b1 b2 : Int} {sz tk t0 t1 t2 : Nat} (hr : r < 4) (ho : r ≠ 0 → decide (nTop r b0 b1 b2 > 127) = o) : ∀ y ∈ nO r o b0 b1 b2 sz tk t0 t1 t2,OEk w y.2 := by
  match r,hr with
  | 0,_ => exact fun _ h => nomatch h
  | 1,_ =>
    have h1 : decide (b0 > 127) = o := ho (by decide)
    cases o with
    | true => exact List.forall_mem_cons.2 ⟨ml_ok,List.forall_mem_cons.2 ⟨lgO_ok h1,List.forall_mem_cons.2 ⟨sb_ok,fun _ h => nomatch h⟩⟩⟩
    | false => exact List.forall_mem_cons.2 ⟨ml_ok,List.forall_mem_cons.2 ⟨lgO_ok h1,fun _ h => nomatch h⟩⟩
  | 2,_ =>
    have h1 : decide (b1 > 127) = o := ho (by decide)
    cases o with
    | true => exact List.forall_mem_cons.2 ⟨ml_ok,List.forall_mem_cons.2 ⟨ml_ok,List.forall_mem_cons.2 ⟨lgO_ok h1,List.forall_mem_cons.2 ⟨sb_ok,fun _ h => nomatch h⟩⟩⟩⟩
    | false => exact List.forall_mem_cons.2 ⟨ml_ok,List.forall_mem_cons.2 ⟨ml_ok,List.forall_mem_cons.2 ⟨lgO_ok h1,fun _ h => nomatch h⟩⟩⟩
  | 3,_ =>
    have h1 : decide (b2 > 127) = o := ho (by decide)
    cases o with
    | true => exact List.forall_mem_cons.2 ⟨ml_ok,List.forall_mem_cons.2 ⟨ml_ok,List.forall_mem_cons.2 ⟨ml_ok,List.forall_mem_cons.2 ⟨lgO_ok h1,List.forall_mem_cons.2 ⟨sb_ok,fun _ h => nomatch h⟩⟩⟩⟩⟩
    | false => exact List.forall_mem_cons.2 ⟨ml_ok,List.forall_mem_cons.2 ⟨ml_ok,List.forall_mem_cons.2 ⟨ml_ok,List.forall_mem_cons.2 ⟨lgO_ok h1,fun _ h => nomatch h⟩⟩⟩⟩
theorem usB_nres {r : Nat} {o : Bool} {b0 b1 b2 : Int} (hr : r < 4) (hb : (0 ≤ b0 ∧ b0 < 256) ∧ (0 ≤ b1 ∧ b1 < 256) ∧ (0 ≤ b2 ∧ b2 < 256)) (ho : r ≠ 0 → decide (nTop r b0 b1 b2 > 127) = o) :
    nRes r o b0 b1 b2 = fbV (usB r b0.toNat.toUInt8 b1.toNat.toUInt8 b2.toNat.toUInt8) := by
  obtain ⟨⟨l0,u0⟩,⟨l1,u1⟩,⟨l2,u2⟩⟩ := hb
  have q : ∀ b : Int,0 ≤ b → b < 256 → ((b.toNat.toUInt8.toNat : Nat) : Int) = b ∧ decide (b.toNat.toUInt8 ≥ 128) = decide (b > 127) := by
    intro b h0 h1
    have e : b.toNat.toUInt8.toNat = b.toNat := by
      show (UInt8.ofNat b.toNat).toNat = _
      rw [UInt8.toNat_ofNat']
      lia
    refine ⟨by rw [e]; lia,?_⟩
    rw [decide_eq_decide]
    show (128 : UInt8) ≤ b.toNat.toUInt8 ↔ _
    rw [UInt8.le_iff_toNat_le,e]
    show 128 ≤ _ ↔ _
    lia
  obtain ⟨q0,d0⟩ := q b0 l0 u0
  obtain ⟨q1,d1⟩ := q b1 l1 u1
  obtain ⟨q2,d2⟩ := q b2 l2 u2
  have p3 : (256 : Int) ^ 3 = 16777216 := by decide
  have p2 : (256 : Int) ^ 2 = 65536 := by decide
  match r,hr with
  | 0,_ => rfl
  | 1,_ =>
    have h1 : decide (b0 > 127) = o := ho (by decide)
    show _ = (if (decide (b0.toNat.toUInt8 ≥ 128)) = true then ((((0 : Nat) : Int) * 256 + b0.toNat.toUInt8.toNat) - 256 ^ 1) else (((0 : Nat) : Int) * 256 + b0.toNat.toUInt8.toNat))
    rw [d0,h1,q0]
    cases o
    · show 0 + b0 = _; simp
    · show 0 + b0 - 256 = _; simp
  | 2,_ =>
    have h1 : decide (b1 > 127) = o := ho (by decide)
    show _ = (if (decide (b1.toNat.toUInt8 ≥ 128)) = true then (((((0 : Nat) : Int) * 256 + b1.toNat.toUInt8.toNat) * 256 + b0.toNat.toUInt8.toNat) - 256 ^ 2) else ((((0 : Nat) : Int) * 256 + b1.toNat.toUInt8.toNat) * 256 + b0.toNat.toUInt8.toNat))
    rw [d1,h1,q0,q1,p2]
    cases o
    · show 256 * (0 + b1) + b0 = _; rw [if_neg (by decide)]; lia
    · show 256 * (0 + b1) + b0 - 65536 = _; rw [if_pos rfl]; lia
  | 3,_ =>
    have h1 : decide (b2 > 127) = o := ho (by decide)
    show _ = (if (decide (b2.toNat.toUInt8 ≥ 128)) = true then ((((((0 : Nat) : Int) * 256 + b2.toNat.toUInt8.toNat) * 256 + b1.toNat.toUInt8.toNat) * 256 + b0.toNat.toUInt8.toNat) - 256 ^ 3) else (((((0 : Nat) : Int) * 256 + b2.toNat.toUInt8.toNat) * 256 + b1.toNat.toUInt8.toNat) * 256 + b0.toNat.toUInt8.toNat))
    rw [d2,h1,q0,q1,q2,p3]
    cases o
    · show 256 * (256 * (0 + b2) + b1) + b0 = _; rw [if_neg (by decide)]; lia
    · show 256 * (256 * (0 + b2) + b1) + b0 - 16777216 = _; rw [if_pos rfl]; lia
section
variable {w : World} {cx : Cx} {oa t0 t1 t2 : Nat} {b0 b1 b2 : Int} {k : Result → Sem Fin} {g : Bool} {lv : List Value} {rest : List Frame} (U : Und rest cx.sw)
include U
theorem n_call (hx : cx.l1 = true) {s : Shared} {r : Nat} (I : Inv w s) (hr : r < 4) (hb : (0 ≤ b0 ∧ b0 < 256) ∧ (0 ≤ b1 ∧ b1 < 256) ∧ (0 ≤ b2 ∧ b2 < 256)) (ha : 268 ≤ oa) (hO : s.heap.get? oa = some (Lo (octs r b0 b1 b2 t0 t1 t2) 0)) (pp : Pos) :
    ∃ s' tk,Ext (fun _ => False) s s' ∧ ∀ Z,Good w Z s' ⟨k (.ok (.ret (.int (fbV (usB r b0.toNat.toUInt8 b1.toNat.toUInt8 b2.toNat.toUInt8)) tk))),cx.c,cx.p,rest⟩ →
      Good w Z s ⟨den (nCall oa),nCall oa,pp,.ret k none g lv cx.c cx.p [] :: rest⟩ := by
  have U1 := U.cons k g lv cx.c cx.p
  obtain ⟨o,ho⟩ : ∃ o,decide (nTop r b0 b1 b2 > 127) = o := ⟨_,rfl⟩
  have H := n_end w cx s.heap.objs.size s.toks s.gens.size oa t0 t1 t2 b0 b1 b2 k g lv pp rest hx r o hr
  unfold NEnd nC at H
  refine segRE I (own1 (ro := 1) ha hO) (p := pp) U1.w (hd := [none,none]) ⟨U.h,U.h,trivial⟩ (ch := []) (fun a vs e => (chNil e).elim) H (nO_ok hr fun _ => ho) fun s' v hv X _ _ G => ?_
  obtain ⟨tk,rfl⟩ := strip_i hv
  rw [usB_nres hr hb fun _ => ho] at G
  refine ⟨s',tk,X.mono fun q hq => ?_,G⟩
  rcases hq with hq | ⟨vs,e⟩
  · exact upd1 hq
  · exact chNil e
end
end
theorem rn1_ok {w : World} {i a : Nat} {cur rem : Int} (h : 0 < rem) : OEk w (rn1O i a cur rem) :=
  oe_meets (b := Builtin.«range_iterator.__next__») rfl (by decide +kernel) (entryFor_of_tree (by kernel_rfl)) fun s pos hp hn _ => by
    refine xE1 (args1 hp) fun p hx => xA1 hx fun q1 h1 => ?_; clear hx; obtain rfl := q1; obtain rfl := strip_r h1
    refine ⟨_,AutoRange.range_iterator___next___range_iterator_1 a cur rem 1 (by lia),fun A R r => ⟨hn _ (.head _),?_⟩⟩
    rw [update_twice (hn _ (.head _))]
    exact r
theorem wordL_len (kv p : Nat) : ∀ m,(wordL kv p m).length = m
  | 0 => rfl
  | m + 1 => by simp [wordL,wordL_len kv p m]
theorem wordL_lt {kv p : Nat} (hp : p ∈ [2,3,5,7]) : ∀ m,∀ c ∈ wordL kv p m,c < 128
  | 0,c,h => nomatch h
  | m + 1,c,h => by
    rcases List.mem_cons.1 h with rfl | h
    · have p7 : p ≤ 7 ∧ 0 < p := by simp at hp; lia
      have := Nat.mod_lt (kv / p ^ m) p7.2
      lia
    · exact wordL_lt hp m c h
structure KState (w : World) (it Li hi ep p oa r t0 t1 t2 : Nat) (star : Bool) (d b0 b1 b2 : Int) (vs : Array Value) (its : List (Nat × Nat × Bool)) (sh : Nat) (cur rem ch : Int) (s : Shared) : Prop where
  inv : Inv w s
  fr : ∃ N tc kv,N.oa = oa ∧ N.d = d ∧ s.heap.get? 269 = some (frK w sh N ch tc kv)
  pr : ∃ tp,s.heap.get? 271 = some (Cel (.int p tp))
  st : s.heap.get? 272 = some (Cel (.bool star))
  im : s.heap.get? 273 = some (Cel (.ref Li))
  it : s.heap.get? it = some (Rt1 cur rem)
  li : s.heap.get? Li = some (Lo vs ep)
  oc : s.heap.get? oa = some (Lo (octs r b0 b1 b2 t0 t1 t2) 0)
  is : ItemsR Li hi s vs.toList its
  sh : sh = 0 ∨ sh = 1
theorem nd6k {it Li : Nat} (a : 277 ≤ it) (b : 277 ≤ Li) (h : it ≠ Li) : [269,271,272,273,it,Li].Nodup := by
  simp only [List.nodup_cons,List.mem_cons,List.not_mem_nil,or_false,not_or,List.nodup_nil,and_true,not_false_eq_true]; lia
theorem ItemsR.grow {lo hi hi' : Nat} {s : Shared} {l : List Value} {its : List (Nat × Nat × Bool)} (h : ItemsR lo hi s l its) (e : hi ≤ hi') : ItemsR lo hi' s l its := by
  induction h with
  | nil => exact .nil
  | cons h _ ih =>
    refine xE3 h fun A t1 t2 hx => xA3 hx fun a a2 b c => ?_; clear hx; clear h
    exact .cons ⟨A,t1,t2,a,Nat.lt_of_lt_of_le a2 e,b,c⟩ ih
theorem Ext.same {s s' : Shared} (X : Ext (fun _ => False) s s') {a : Addr} {o : Obj} (h : s.heap.get? a = some o) : s'.heap.get? a = some o := X.keep _ _ h fun h => h
section
variable {w : World} {it Li hi ep p oa r t0 t1 t2 : Nat} {star : Bool} {d b0 b1 b2 : Int} {vs : Array Value} {its : List (Nat × Nat × Bool)} {rest : List Frame} {q : Pos} (U : Und rest [(lFn w,q),callerC]) (hH : HOk rest [none,none])
include U hH
theorem k_turn {sh kn : Nat} {rem ch : Int} {s : Shared} (ai : 277 ≤ it) (al : 277 ≤ Li) (hhi : hi ≤ it) (ne : it ≠ Li) (ao : 277 ≤ oa) (no : oa ≠ it) (hr : r < 4) (hb : (0 ≤ b0 ∧ b0 < 256) ∧ (0 ≤ b1 ∧ b1 < 256) ∧ (0 ≤ b2 ∧ b2 < 256)) (hp : p ∈ [2,3,5,7]) (hl : its.length ≤ 30) (hst : star = false → 5 ≤ its.length) (hk : kn ≤ 30)
    (hrem : 0 < rem) (hm : takesL its ((wordS kn p (max 5 its.length)).cps.toList.drop (max 5 its.length - its.length)) = (ch.fmod p != 0))
    (P : KState w it Li hi ep p oa r t0 t1 t2 star d b0 b1 b2 vs its sh kn rem ch s) (pp : Pos) :
    ∃ s' pp',KState w it Li hi ep p oa r t0 t1 t2 star d b0 b1 b2 vs its 1 ((kn : Int) + 1) (rem - 1) ((ch * (fbV (usB r b0.toNat.toUInt8 b1.toNat.toUInt8 b2.toNat.toUInt8) - kn)).fdiv ((kn : Int) + 1)) s' ∧ Ext (fun b => b = 269 ∨ b = it) s s' ∧
      ∀ Z,Good w Z s' ⟨den (lF w it),lF w it,pp',rest⟩ → Good w Z s ⟨den (lF w it),lF w it,pp,rest⟩ := by
  obtain ⟨inv,⟨N,tc,kv,hoa,hd,hfr⟩,⟨tp,hpr⟩,hst1,him,hit,hli,hoc,hits,hsh⟩ := P
  have vl : vs.size = its.length := by rw [← hits.len]; simp
  obtain ⟨rr,hrr⟩ : ∃ rr,decide ((its.length : Int) > 5) = rr := ⟨_,rfl⟩
  have emx : mx rr its.length = ((max 5 its.length : Nat) : Int) := by
    cases rr with
    | true => have := of_decide_eq_true hrr; show (its.length : Int) = _; lia
    | false => have := of_decide_eq_false hrr; show (5 : Int) = _; lia
  have p0 : (p : Int) ≠ 0 := by
    have : p ≠ 0 := by intro h; subst h; simp at hp
    lia
  have O1 : OwnL 0 [(269,frK w sh N ch tc kv),(271,Cel (.int p tp)),(272,Cel (.bool star)),(273,Cel (.ref Li)),(it,Rt1 kn rem),(Li,Lo vs ep)] s.heap :=
    own_nodup (by simp only [List.forall_mem_cons]; exact ⟨⟨by lia,hfr⟩,⟨by lia,hpr⟩,⟨by lia,hst1⟩,⟨by lia,him⟩,⟨by lia,hit⟩,⟨by lia,hli⟩,fun _ h => nomatch h⟩) (nd6k ai al ne)
  have hO1 : ∀ y ∈ ([(0,rn1O 4 it kn rem),(1,oeLenV (.r Li) [(5,Li,Lo vs ep)] its.length),(8,gtR its.length 5 rr)] : List (Nat × OE)),OEk w y.2 := by
    simp only [List.forall_mem_cons]
    exact ⟨rn1_ok hrem,oeLenL2 (by rw [vl]) (by lia),oeGt hrr,fun _ h => nomatch h⟩
  have H1 := K1_end w it Li ep tp tc s.heap.objs.size s.toks s.gens.size N star rr p kn rem ch kv its.length vs q pp rest sh hsh
  unfold K1End at H1
  refine segCW (f := K1 w it Li ep tp tc s.heap.objs.size s.toks s.gens.size N star rr p kn rem ch kv its.length vs q pp rest sh) rfl inv O1 U.w hH (fun a vs e => (chNil e).elim) H1 hO1 glNil fun q0 s1 X1 ob1 etk1 esz1 egz1 tb1 G1 => ?_; obtain ⟨W1,W2⟩ := q0
  clear W1 W2
  try dsimp only at ob1 X1 G1 esz1
  have X1' : Ext (fun b => b = 269 ∨ b = it) s s1 := X1.drop fun b o e hu nv => by
    rcases hu with hu | ⟨vs,e⟩
    · have := upd_mem hu
      simp only [List.map_cons,List.map_nil,List.mem_cons,List.not_mem_nil,or_false] at this
      rcases this with h | h | h | h | h | h
      · exact absurd (.inl h) nv
      · rw [h] at e ⊢; rw [hpr] at e; cases e; exact ob1 (271,_) (.tail _ (.head _))
      · rw [h] at e ⊢; rw [hst1] at e; cases e; exact ob1 (272,_) (.tail _ (.tail _ (.head _)))
      · rw [h] at e ⊢; rw [him] at e; cases e; exact ob1 (273,_) (.tail _ (.tail _ (.tail _ (.head _))))
      · exact absurd (.inr h) nv
      · rw [h] at e ⊢; rw [hli] at e; cases e; exact ob1 (Li,_) (.tail _ (.tail _ (.tail _ (.tail _ (.tail _ (.head _))))))
    · exact (chNil e).elim
  have I1 : Inv w s1 := X1'.inv inv fun b hb => .inl (by rcases hb with rfl | rfl <;> lia)
  rw [emx] at G1
  generalize hA : K1o w it Li ep tp tc s.heap.objs.size s.toks s.gens.size N star rr p kn rem ch kv its.length vs q pp rest sh = A at G1
  refine xE2 (w_call (cx := cxK w it (frPos A) q) (kv := kn) (p := p) (n := max 5 its.length) (t1 := s.toks) (t2 := tp) (t3 := mxt rr s.toks) (k := kOf A) (g := frG A) (lv := frL A) (rest := rest) (by rw [cxK_sw]; exact U) (cxK_l1 w it _ q) I1 hp (by lia) (by lia) A.p) fun s2 tw hx => xA1 hx fun X2 G2 => ?_; clear hx
  rw [cxK_c,cxK_p] at G2
  have I2 : Inv w s2 := X2.inv I1 fun _ h => h.elim
  have H2 := K2_end w it Li ep tp tc s.heap.objs.size s.toks s.gens.size N star rr p kn rem ch kv its.length vs q pp rest sh (wordS kn p (max 5 its.length)) tw s2.heap.objs.size s2.toks s2.gens.size (frPos A) hsh
  unfold K2End at H2
  refine segCE (f := K2 w it Li ep tp tc s.heap.objs.size s.toks s.gens.size N star rr p kn rem ch kv its.length vs q pp rest sh (wordS kn p (max 5 its.length)) tw s2.heap.objs.size s2.toks s2.gens.size (frPos A)) rfl I2 (own_nil (ro := 0)) U.w hH (fun a vs e => (chNil e).elim) H2 (fun _ h => nomatch h) glNil fun s3 X3 _ _ _ _ _ G3 => ?_
  try dsimp only at X3 G3
  have X3' : Ext (fun _ => False) s2 s3 := X3.mono fun q hq => by
    rcases hq with ⟨i,y,_,e,_⟩ | ⟨vs,e⟩
    · cases e
    · exact chNil e
  have I3 : Inv w s3 := X3'.inv I2 fun _ h => h.elim
  generalize hB : K2o w it Li ep tp tc s.heap.objs.size s.toks s.gens.size N star rr p kn rem ch kv its.length vs q pp rest sh (wordS kn p (max 5 its.length)) tw s2.heap.objs.size s2.toks s2.gens.size (frPos A) = B at G3
  have l3 := X3'.same (X2.same (ob1 (Li,_) (.tail _ (.tail _ (.tail _ (.tail _ (.tail _ (.head _))))))))
  have lit : it < s.heap.objs.size := Heap.lt_size hit
  have it1 := hits.keep X1' fun b hb => by
    rcases hb with h | h
    · exact .inl (by rw [h]; lia)
    · exact .inr (by rw [h]; exact hhi)
  have it3 := ((it1.keep X2 fun _ h => h.elim).keep X3' fun _ h => h.elim)
  have lh3 : hi ≤ s3.heap.objs.size := Nat.le_trans hhi (Nat.le_trans (Nat.le_of_lt lit) (Nat.le_trans X1'.size (Nat.le_trans X2.size X3'.size)))
  refine xE1 (u_call (cx := cxK w it (frPos B) q) (Ls := Li) (star := star) (t := tw) (k := kOf B) (g := frG B) (lv := frL B) (rest := rest) (by rw [cxK_sw]; exact U) (cxK_lc w it _ q) (x := wordS kn p (max 5 its.length)) I3 (by lia) l3 (it3.grow lh3) (by lia) (by show (wordL kn p _).toArray.size ≤ _; rw [List.size_toArray,wordL_len]; lia) (by show ∀ c ∈ (wordL kn p _).toArray.toList,_; exact wordL_lt hp _)
    (by show _ ≤ (wordL kn p _).toArray.size; rw [List.size_toArray,wordL_len]; lia) (fun h => by have := hst h; show _ = (wordL kn p _).toArray.size; rw [List.size_toArray,wordL_len]; lia) B.p) fun s4 hx => xA1 hx fun X4 G4 => ?_; clear hx
  rw [cxK_c,cxK_p,show (wordS kn p (max 5 its.length)).length = max 5 its.length by show (wordL kn p _).toArray.size = _; rw [List.size_toArray,wordL_len],hm] at G4
  have I4 : Inv w s4 := X4.inv I3 fun _ h => h.elim
  generalize hbb : (ch.fmod p != 0) = bb at G4
  have f4 := X4.same (X3'.same (X2.same (ob1 (269,_) (.head _))))
  have p4 := X4.same (X3'.same (X2.same (ob1 (271,_) (.tail _ (.head _)))))
  have ek : (k6' sh s.toks N).oa = oa ∧ (k6' sh s.toks N).d = d := by rcases hsh with rfl | rfl <;> exact ⟨hoa,hd⟩
  have O3 : OwnL 0 [(269,frK w 1 (k6' sh s.toks N) ch tc kn),(271,Cel (.int p tp))] s4.heap :=
    own_nodup (by simp only [List.forall_mem_cons]; exact ⟨⟨by lia,f4⟩,⟨by lia,p4⟩,fun _ h => nomatch h⟩) (by show [269,271].Nodup; decide)
  have hO3 : ∀ y ∈ ([(0,mdO ch p (ch.fmod p)),(1,neR (ch.fmod p) 0 bb)] : List (Nat × OE)),OEk w y.2 := by
    simp only [List.forall_mem_cons]
    exact ⟨md_ok p0,oeNe hbb,fun _ h => nomatch h⟩
  have H3 := K3_end w it Li ep tp tc s.heap.objs.size s.toks s.gens.size N star rr bb p kn rem ch kv its.length vs q pp rest sh (wordS kn p (max 5 its.length)) tw s2.heap.objs.size s2.toks s2.gens.size (frPos A) s4.heap.objs.size s4.toks s4.gens.size (frPos B) (ch.fmod p) hsh
  unfold K3End at H3
  refine segCE (f := K3 w it Li ep tp tc s.heap.objs.size s.toks s.gens.size N star rr bb p kn rem ch kv its.length vs q pp rest sh (wordS kn p (max 5 its.length)) tw s2.heap.objs.size s2.toks s2.gens.size (frPos A) s4.heap.objs.size s4.toks s4.gens.size (frPos B) (ch.fmod p)) rfl I4 O3 U.w hH (fun a vs e => (chNil e).elim) H3 hO3 glNil fun s5 X5 ob5 _ _ _ _ G5 => ?_
  try dsimp only at X5 ob5 G5
  have X5' : Ext (fun _ => False) s4 s5 := X5.drop fun b o e hu _ => by
    rcases hu with hu | ⟨vs,e⟩
    · have := upd_mem hu
      simp only [List.map_cons,List.map_nil,List.mem_cons,List.not_mem_nil,or_false] at this
      rcases this with h | h
      · rw [h] at e ⊢; rw [f4] at e; cases e; exact ob5 (269,_) (.head _)
      · rw [h] at e ⊢; rw [p4] at e; cases e; exact ob5 (271,_) (.tail _ (.head _))
    · exact (chNil e).elim
  have I5 : Inv w s5 := X5'.inv I4 fun _ h => h.elim
  generalize hC : K3o w it Li ep tp tc s.heap.objs.size s.toks s.gens.size N star rr bb p kn rem ch kv its.length vs q pp rest sh (wordS kn p (max 5 its.length)) tw s2.heap.objs.size s2.toks s2.gens.size (frPos A) s4.heap.objs.size s4.toks s4.gens.size (frPos B) (ch.fmod p) = C at G5
  have X15 := ((X2.trans X3').trans (X4.trans X5'))
  have X15' : Ext (fun _ => False) s1 s5 := X15.mono fun b h => by rcases h with (h | h) | (h | h) <;> exact h
  have o5 := X15'.same (X1'.keep _ _ hoc (by rintro (h | h) <;> lia))
  rw [hoa] at G5
  refine xE2 (n_call (cx := cxK w it (frPos C) q) (oa := oa) (k := kOf C) (g := frG C) (lv := frL C) (rest := rest) (by rw [cxK_sw]; exact U) (cxK_l1 w it _ q) I5 hr hb (by lia) o5 C.p) fun s6 tv hx => xA1 hx fun X6 G6 => ?_; clear hx
  rw [cxK_c,cxK_p] at G6
  have I6 : Inv w s6 := X6.inv I5 fun _ h => h.elim
  have n26 := fb_small (y := usB r b0.toNat.toUInt8 b1.toNat.toUInt8 b2.toNat.toUInt8) (usB_size hr)
  generalize fbV (usB r b0.toNat.toUInt8 b1.toNat.toUInt8 b2.toNat.toUInt8) = nv at G6 n26 ⊢
  have f6 := X6.same (X15'.same (ob1 (269,_) (.head _)))
  have hO4 : ∀ y ∈ ([(0,sbO nv kn (nv - kn)),(1,mlO ch (nv - kn) (ch * (nv - kn))),(3,fqO (ch * (nv - kn)) ((kn : Int) + 1) ((ch * (nv - kn)).fdiv ((kn : Int) + 1)))] : List (Nat × OE)),OEk w y.2 := by
    simp only [List.forall_mem_cons]
    refine ⟨sb_ok,oeMul (IntMulOk.of_right (intBits_le_64 (by lia) (by lia))) rfl,oeDiv (by lia) (noPy ?_) rfl,fun _ h => nomatch h⟩
    have : ((kn : Int) + 1).natAbs < 2 ^ 10 := by lia
    by_cases h0 : ((kn : Int) + 1).natAbs = 0
    · rw [h0]; decide
    · exact Nat.lt_trans ((Nat.log2_lt h0).2 this) (by decide)
  have H4 := K4_end w it Li ep tp tc s.heap.objs.size s.toks s.gens.size N star rr bb p kn rem ch kv its.length vs q pp rest sh (wordS kn p (max 5 its.length)) tw s2.heap.objs.size s2.toks s2.gens.size (frPos A) s4.heap.objs.size s4.toks s4.gens.size (frPos B) (ch.fmod p) nv (nv - kn) (ch * (nv - kn)) ((ch * (nv - kn)).fdiv ((kn : Int) + 1)) tv s6.heap.objs.size s6.toks s6.gens.size (frPos C) hsh
  unfold K4End at H4
  refine segCEp (f := K4 w it Li ep tp tc s.heap.objs.size s.toks s.gens.size N star rr bb p kn rem ch kv its.length vs q pp rest sh (wordS kn p (max 5 its.length)) tw s2.heap.objs.size s2.toks s2.gens.size (frPos A) s4.heap.objs.size s4.toks s4.gens.size (frPos B) (ch.fmod p) nv (nv - kn) (ch * (nv - kn)) ((ch * (nv - kn)).fdiv ((kn : Int) + 1)) tv s6.heap.objs.size s6.toks s6.gens.size (frPos C)) rfl I6 (own1 (ro := 0) (by lia) f6) U.w hH (fun a vs e => (chNil e).elim) H4 hO4 glNil fun s7 pz3 X7 ob7 _ _ _ _ G7 => ?_
  try dsimp only at X7 ob7 G7
  have X7' : Ext (fun b => b = 269) s6 s7 := X7.mono fun b hb => by
    rcases hb with hb | ⟨vs,e⟩
    · have := upd_mem hb
      simpa using this
    · exact (chNil e).elim
  have X17 : Ext (fun b => b = 269) s1 s7 := ((X15'.trans X6).trans X7').mono fun b h => by
    rcases h with (h | h) | h
    · exact h.elim
    · exact h.elim
    · exact h
  rw [hA,hB,hC] at *
  refine ⟨s7,_,⟨X7'.inv I6 fun b hb => .inl (by rw [hb]; lia),⟨_,_,_,ek.1,ek.2,ob7 (269,_) (.head _)⟩,⟨tp,X17.keep _ _ (ob1 (271,_) (.tail _ (.head _))) (by decide)⟩,X17.keep _ _ (ob1 (272,_) (.tail _ (.tail _ (.head _)))) (by decide),
    X17.keep _ _ (ob1 (273,_) (.tail _ (.tail _ (.tail _ (.head _))))) (by decide),X17.keep _ _ (ob1 (it,_) (.tail _ (.tail _ (.tail _ (.tail _ (.head _)))))) (by lia),X17.keep _ _ (ob1 (Li,_) (.tail _ (.tail _ (.tail _ (.tail _ (.tail _ (.head _))))))) (by lia),
    X17.keep _ _ (X1'.keep _ _ hoc (by rintro (h | h) <;> lia)) (by lia),it1.keep X17 (fun b hb => .inl (by rw [hb]; lia)),.inr rfl⟩,(X1'.trans X17).mono fun b h => by
      rcases h with h | h
      · exact h
      · exact .inl h,fun Z q => G1 Z (G2 Z (G3 Z (G4 Z (G5 Z (G6 Z (G7 Z q))))))⟩
end
noncomputable def chos (n : Int) : Nat → Int
  | 0 => 1
  | k + 1 => (chos n k * (n - k)).fdiv ((k : Int) + 1)
section
variable {w : World} {it Li hi ep p oa r t0 t1 t2 : Nat} {star : Bool} {d b0 b1 b2 : Int} {vs : Array Value} {its : List (Nat × Nat × Bool)} {rest : List Frame} {q : Pos} (U : Und rest [(lFn w,q),callerC]) (hH : HOk rest [none,none])
include U hH
theorem k_loop (ai : 277 ≤ it) (al : 277 ≤ Li) (hhi : hi ≤ it) (ne : it ≠ Li) (ao : 277 ≤ oa) (no : oa ≠ it) (hr : r < 4) (hb : (0 ≤ b0 ∧ b0 < 256) ∧ (0 ≤ b1 ∧ b1 < 256) ∧ (0 ≤ b2 ∧ b2 < 256)) (hp : p ∈ [2,3,5,7]) (hl : its.length ≤ 30) (hst : star = false → 5 ≤ its.length)
    (hm : ∀ kn < 25,takesL its ((wordS kn p (max 5 its.length)).cps.toList.drop (max 5 its.length - its.length)) = ((chos (fbV (usB r b0.toNat.toUInt8 b1.toNat.toUInt8 b2.toNat.toUInt8)) kn).fmod p != 0)) :
    ∀ (m : Nat) {kn sh : Nat} {s : Shared},kn + m = 25 → KState w it Li hi ep p oa r t0 t1 t2 star d b0 b1 b2 vs its sh kn m (chos (fbV (usB r b0.toNat.toUInt8 b1.toNat.toUInt8 b2.toNat.toUInt8)) kn) s → ∀ pp : Pos,
    ∃ s' sh' pp',(m = 0 → sh' = sh) ∧ (m ≠ 0 → sh' = 1) ∧ KState w it Li hi ep p oa r t0 t1 t2 star d b0 b1 b2 vs its sh' 25 0 (chos (fbV (usB r b0.toNat.toUInt8 b1.toNat.toUInt8 b2.toNat.toUInt8)) 25) s' ∧ Ext (fun b => b = 269 ∨ b = it) s s' ∧
      ∀ Z,Good w Z s' ⟨den (lF w it),lF w it,pp',rest⟩ → Good w Z s ⟨den (lF w it),lF w it,pp,rest⟩
  | 0,kn,sh,s,e,P,pp => by
    have : kn = 25 := by lia
    subst this
    exact ⟨s,sh,pp,fun _ => rfl,fun h => absurd rfl h,P,Ext.refl P.inv,fun Z q => q⟩
  | m + 1,kn,sh,s,e,P,pp => by
    refine xE2 (k_turn U hH ai al hhi ne ao no hr hb hp hl hst (by lia) (by lia) (hm kn (by lia)) P pp) fun s1 pp1 hx => xA2 hx fun P1 X1 G1 => ?_; clear hx
    rw [show ((kn : Int) + 1) = ((kn + 1 : Nat) : Int) by lia,show ((m + 1 : Nat) : Int) - 1 = m by lia] at P1
    have P1' : KState w it Li hi ep p oa r t0 t1 t2 star d b0 b1 b2 vs its 1 (kn + 1 : Nat) m (chos (fbV (usB r b0.toNat.toUInt8 b1.toNat.toUInt8 b2.toNat.toUInt8)) (kn + 1)) s1 := P1
    refine xE3 (k_loop ai al hhi ne ao no hr hb hp hl hst hm m (by lia) P1' pp1) fun s2 sh2 pp2 hx => xA4 hx fun h1 h2 P2 X2 G2 => ?_; clear hx
    refine ⟨s2,sh2,pp2,fun h => absurd h (Nat.succ_ne_zero m),fun _ => ?_,P2,(X1.trans X2).mono (fun b h => h.elim id id),fun Z q => G1 Z (G2 Z q)⟩
    by_cases h : m = 0
    · exact h1 h
    · exact h2 h
end
section
variable (w : World) (cx : Cx) (sz tk gz t1 : Nat) (x : Str) (nn : Int) (k : Result → Sem Fin) (g : Bool) (lv : List Value) (pp : Pos) (rest : List Frame)
variable (N R M S sz' tk' gz' ep it sh : Nat) (kt ut kt7 : Nat → Nat) (v : Nat → Value) (rs : Array Value) (pp' : Pos) (I : Int) (y : Str) (ty sz2 tk2 gz2 : Nat)
noncomputable def tZ : Cf := st0 (kOf (tXo w cx sz tk gz t1 x nn k g lv pp rest N R M S sz' tk' gz' ep it sh kt ut kt7 v rs pp' I) (.ok (.ret (.str y ty)))) (f71 w sz) p26 (.ret k none g lv cx.c cx.p [] :: rest) ((cx.c,cx.p) :: cx.sw) [none,none] [] sz2 tk2 gz2 [] [] [] []
theorem tZ_end (hN : N = sz + 2) (hx : cx.dl = true) (hs : sh = 0 ∨ sh = 1 ∨ sh = 2) :
    EndR w 0 1 (tZ w cx sz tk gz t1 x nn k g lv pp rest N R M S sz' tk' gz' ep it sh kt ut kt7 v rs pp' I y ty sz2 tk2 gz2) [] (.s y) (.ret k none g lv cx.c cx.p [] :: rest) [] [] := by
  subst hN
  cases cx with
  | D st env q' => rcases hs with rfl | rfl | rfl <;> (unfold EndR; kernel_rfl)
  | L t it b o e p' st env q' => rcases hs with rfl | rfl | rfl <;> (unfold EndR; kernel_rfl)
  | C => cases hx
end
theorem nd4t {z : Nat} : [z + 2,z + 3,z + 4,z].Nodup := by simp
theorem upd4t {z b : Nat} (h : b ∈ [z + 2,z + 3,z + 4,z]) (lt : b < z) : False := by
  simp only [List.mem_cons,List.not_mem_nil,or_false] at h
  lia
theorem updT_new {z b : Nat} (h : updT (z + 2) (z + 3) (z + 4) b) (lt : b < z) (h85 : b ≠ 85) : False := by
  unfold updT at h
  lia
theorem updT_z {z : Nat} (h0 : 268 ≤ z) (h : updT (z + 2) (z + 3) (z + 4) z) : False := by
  unfold updT at h
  lia
section
variable {w : World} {cx : Cx} (hx : cx.dl = true) {k : Result → Sem Fin} {g : Bool} {lv : List Value} {rest : List Frame} (U : Und rest cx.sw)
include hx U
theorem tr_plain {s : Shared} {x : Str} {t1 : Nat} {ts : List Tk} {warm : Bool} {c1 c2 : Nat} (I : Inv w s) (T : Tab s warm c1 c2) (hts : ∀ t ∈ ts,t.ok) (hxx : x.cps.toList = ts.flatMap Tk.src) (hl : ts.length ≤ 100)
    (hsz : x.length ≤ 1000) (hJ : Builtin.Str.tooLong ((ts.map Tk.part).toArray.foldl (· + ·.length + Str.empty.length) 0) = false) (hJ2 : (Builtin.Str.glued Str.empty (ts.map Tk.part)).length + 7 ≤ sizeLine) (pp : Pos) :
    ∃ s' t' warm' c1' c2',Ext (fun b => b = 85) s s' ∧ Tab s' warm' c1' c2' ∧ ∀ Z,Good w Z s' ⟨k (.ok (.ret (.str (txtJ (Builtin.Str.glued Str.empty (ts.map Tk.part))) t'))),cx.c,cx.p,rest⟩ →
      Good w Z s ⟨den (tCall t1 x),tCall t1 x,pp,.ret k none g lv cx.c cx.p [] :: rest⟩ := by
  refine gv fun GG hGG => ?_
  have lo := I.lo
  have U1 := U.cons k g lv cx.c cx.p
  refine segE I (own_nil (ro := 0)) (p := pp) U1.w (hd := [none,none]) ⟨U.h,U.h,trivial⟩ (ch := []) (fun a vs e => (chNil e).elim)
    (tA_end w cx s.heap.objs.size s.toks s.gens.size t1 x x.length k g lv pp rest hx)
    (by
      have : OEk w (oeLenV (.s x) [] x.length) := oeLenS2 rfl (by lia)
      have h4 : ∀ y ∈ ([(5,oeLenV (.s x) [] x.length)] : List (Nat × OE)),OEk w y.2 := by
        simp only [List.forall_mem_cons]; exact ⟨this,fun _ h => nomatch h⟩
      exact h4) glNil fun s1 X1 ob1 etk esz egz tb G1 => ?_
  have X1' : Ext (fun _ => False) s s1 := X1.mono fun q hq => by
    rcases hq with ⟨i,y,_,e,_⟩ | ⟨vs,e⟩
    · cases e
    · exact chNil e
  have P1 : TState w (s.heap.objs.size + 2) (s.heap.objs.size + 3) (s.heap.objs.size + 4) (s.heap.objs.size + 1) 0 x x.length 0 #[] s1 :=
    ⟨X1'.inv I fun q h => h.elim,⟨_,_,_,_,ob1 (s.heap.objs.size + 2,_) (.tail _ (.head _))⟩,⟨_,ob1 (s.heap.objs.size + 3,_) (.tail _ (.tail _ (.head _)))⟩,ob1 (s.heap.objs.size + 4,_) (.tail _ (.tail _ (.tail _ (.head _)))),by lia,by lia,by lia,by lia,by lia,by lia⟩
  have T1 : Tab s1 warm c1 c2 := X1'.keep 85 _ T (fun h => h)
  refine xE7 (t_loop hx U (N7 := s.heap.objs.size) (p7 := p25) (kk := kOf (tAo w cx s.heap.objs.size s.toks s.gens.size t1 x x.length k g lv pp rest)) (k71 := k2Of (tAo w cx s.heap.objs.size s.toks s.gens.size t1 x x.length k g lv pp rest)) (k := k) (g7 := false) (l7 := [mkV]) (g := g) (lv := lv) ts hts P1 T1 (.inl rfl)
    (pre := []) (by rw [hxx]; rfl) rfl rfl (by lia) (by simp; show _ ≤ 2 ^ 24; lia) (tP w)) fun s2 rs pp2 warm2 d1 d2 sh hxxx => xA5 hxxx fun P2 hok ers T2 X2 G2 => ?_; clear hxxx
  have hrs : rs.toList.map strip0 = (ts.map Tk.part).map .s := by rw [ers]; simp
  have lrs : rs.size = ts.length := by
    have := congrArg List.length hrs
    simpa using this
  have s71 := X2.keep _ _ (ob1 (s.heap.objs.size,_) (.head _)) (updT_z lo)
  obtain ⟨inv2,⟨kt,ut,v,it,hN⟩,⟨ep,hR⟩,hM,aN,aR,aM,nr,nm,rm⟩ := P2
  have U2 := U1.cons (k2Of (tAo w cx s.heap.objs.size s.toks s.gens.size t1 x x.length k g lv pp rest)) false [mkV] (f71 w s.heap.objs.size) p25
  have sh3 : sh = 0 ∨ sh = 1 ∨ sh = 2 := by rcases hok with h | h | ⟨h,_⟩ <;> simp [h]
  have HX := tX_end w cx s.heap.objs.size s.toks s.gens.size t1 x x.length k g lv pp rest (s.heap.objs.size + 2) (s.heap.objs.size + 3) (s.heap.objs.size + 4) (s.heap.objs.size + 1) s2.heap.objs.size s2.toks s2.gens.size ep it sh kt ut (fun j => s.toks + j) v rs pp2 x.length rfl hx sh3
  have O2 : OwnL 0 [(s.heap.objs.size + 2,tF w sh kt ut v x (s.heap.objs.size + 1) (s.heap.objs.size + 3) (s.heap.objs.size + 4) x.length x.length it),(s.heap.objs.size + 3,Lo rs ep),(s.heap.objs.size + 4,tM (s.heap.objs.size + 3)),(s.heap.objs.size,fr7 w t1 x (fun j => s.toks + j) (s.heap.objs.size + 1) [] 2)] s2.heap :=
    own_nodup (by simp only [List.forall_mem_cons]; exact ⟨⟨aN,hN⟩,⟨aR,hR⟩,⟨aM,hM⟩,⟨lo,s71⟩,fun _ h => nomatch h⟩) nd4t
  have h4 : ∀ y ∈ ([(0,ltO (x.length : Int) x.length false),(1,oeP "int.__eq__" [.i (x.length : Int),.i x.length] (fun _ => .bool true) 0)] : List (Nat × OE)),OEk w y.2 := by
    simp only [List.forall_mem_cons]
    exact ⟨lt_ok (by simp),oeEq (by simp),fun _ h => nomatch h⟩
  refine segE inv2 O2 (p := pp2) ((U2.cons (kOf (tAo w cx s.heap.objs.size s.toks s.gens.size t1 x x.length k g lv pp rest)) false [] (.func (tB w) (tE w (s.heap.objs.size + 2))) (tP w)).w) (hd := [none,none,none,none]) ⟨U.h,U.h,U.h,U.h,trivial⟩ (ch := []) (fun a vs e => (chNil e).elim) HX h4 glNil fun s3 X3 ob3 etk3 esz3 egz3 tb3 G3 => ?_
  have X3' : Ext (fun b => b ∈ [s.heap.objs.size + 2,s.heap.objs.size + 3,s.heap.objs.size + 4,s.heap.objs.size]) s2 s3 := X3.mono fun q hq => by
    rcases hq with hq | ⟨vs,e⟩
    · exact upd_mem hq
    · exact (chNil e).elim
  have inv3 : Inv w s3 := X3'.inv inv2 fun q h => .inl (Nat.le_trans lo (Nat.not_lt.mp fun lt => upd4t h lt))
  refine xE2 (join_plain hx U (N7 := s.heap.objs.size) (S := s.heap.objs.size + 1) (k71 := kOf (tXo w cx s.heap.objs.size s.toks s.gens.size t1 x x.length k g lv pp rest (s.heap.objs.size + 2) (s.heap.objs.size + 3) (s.heap.objs.size + 4) (s.heap.objs.size + 1) s2.heap.objs.size s2.toks s2.gens.size ep it sh kt ut (fun j => s.toks + j) v rs pp2 x.length)) (k := k) (g := g) (lv := lv)
    inv3 aR (ob3 (s.heap.objs.size + 3,_) (.head _)) (by lia) hrs hJ hJ2 (tXo w cx s.heap.objs.size s.toks s.gens.size t1 x x.length k g lv pp rest (s.heap.objs.size + 2) (s.heap.objs.size + 3) (s.heap.objs.size + 4) (s.heap.objs.size + 1) s2.heap.objs.size s2.toks s2.gens.size ep it sh kt ut (fun j => s.toks + j) v rs pp2 x.length).p) fun s4 tj hxxx => xA1 hxxx fun X4 G4 => ?_; clear hxxx
  have inv4 : Inv w s4 := X4.inv inv3 fun q h => .inl (by subst h; exact aR)
  have HZ := tZ_end w cx s.heap.objs.size s.toks s.gens.size t1 x x.length k g lv pp rest (s.heap.objs.size + 2) (s.heap.objs.size + 3) (s.heap.objs.size + 4) (s.heap.objs.size + 1) s2.heap.objs.size s2.toks s2.gens.size ep it sh kt ut (fun j => s.toks + j) v rs pp2 x.length (txtJ (Builtin.Str.glued Str.empty (ts.map Tk.part))) tj s4.heap.objs.size s4.toks s4.gens.size rfl hx sh3
  refine segRE inv4 (own_nil (ro := 0)) (p := p26) U1.w (hd := [none,none]) ⟨U.h,U.h,trivial⟩ (ch := []) (fun a vs e => (chNil e).elim) HZ (fun _ h => nomatch h) fun s5 v5 hv5 X5 _ _ G5 => ?_
  obtain ⟨t',rfl⟩ := strip_s hv5
  have T3 : Tab s3 warm2 d1 d2 := X3'.keep 85 _ T2 (fun h => upd4t h (by lia))
  have T4 : Tab s4 warm2 d1 d2 := X4.keep 85 _ T3 (fun h => by lia)
  have K5 : ∀ b o,s4.heap.get? b = some o → s5.heap.get? b = some o := fun b o e => X5.keep b o e fun hq => by
    rcases hq with ⟨i,y,_,e,_⟩ | ⟨vs,e⟩
    · cases e
    · exact chNil e
  refine hGG (yE5 s5 t' warm2 d1 d2 ⟨⟨fun b o e nb => K5 b o (X4.keep b o (X3'.keep b o (X2.keep b o (X1'.keep b o e fun h => h) fun h => updT_new h (Heap.lt_size e) nb) fun h => upd4t h (Heap.lt_size e)) fun h => upd4t (z := s.heap.objs.size) (h ▸ (.tail _ (.head _))) (Heap.lt_size e)),
    Nat.le_trans X1.size (Nat.le_trans X2.size (Nat.le_trans X3.size (Nat.le_trans X4.size X5.size))),X5.gens,X5.os.trans (X4.os.trans (X3.os.trans (X2.os.trans X1.os))),X5.drawn.trans (X4.drawn.trans (X3.drawn.trans (X2.drawn.trans X1.drawn))),X5.life.trans (X4.life.trans (X3.life.trans (X2.life.trans X1.life)))⟩,
    K5 _ _ T4,fun Z q => G1 Z (G2 Z (G3 Z (G4 Z (G5 Z q))))⟩)
end
theorem reach_codeAny {w : World} {c : Code} {st : List Frame} {s : Shared} {R : Result → Shared → Prop}
    (h : codeAny (Md w) (arOf st) c R s) (p : Pos) : ∃ r s' c' p',R r s' ∧ ∀ Z,Good w Z s' ⟨leafOf r,c',p',st⟩ → Good w Z s ⟨den c,c,p,st⟩ := by
  have := h (Ctx.of c st) p rfl (below_of c st)
  rw [wpCode_iff_wp] at this
  refine xE5 (wp_runN (base := st) (c := c) this) fun n r s' c' p' hxx => xA1 hxx fun hn hr => ?_; clear hxx
  have e : (Md w).den (Ctx.of c st).code = den c := md_den w c
  rw [e] at hn
  exact ⟨r,s',c',p',hr,fun Z g => Good.pre hn g⟩
theorem jB3 (w : World) : ∃ pi pn pc pin pi2 psb pst pc2 pb body p,nthS (jB w) 3 = .While (.BoolOp .And [.Compare (.Name "i" pi) [.Lt] [.Name "n" pn] pc,.Compare (.Subscript (.Name "inp" pin) (.Name "i" pi2) psb) [.IsNot] [.Name "STAR" pst] pc2] pb) body [] p :=
  ⟨_,_,_,_,_,_,_,_,_,_,_,by rfl⟩
theorem list_getitem : typeLookup (.type "list") "__getitem__" = pure (some (.builtin "list.__getitem__")) := by with_unfolding_all rfl
section
variable {w : World} {A : Around} {E : Value → Shared → Prop} {s : Shared} {env : Env} {m : Str → Option Value} (hk : env.scope.kind = .function) (hn : s.heap.Ns env.locals m)
include hk hn
theorem nm {x : Str} {v : Value} {p : Pos} {Q : Value → Shared → Prop} (hl : env.kindOf x = some .local) (hd : (x == ("__debug__" : Str)) = false) (hv : m x = some v) (h : Q v s) : wpAny (Md w) A (eval (.Name x p) env) Q E s :=
  wpAny_Name (wpAny_loadName_local hk hl hn hv h) hd
theorem sub_nm {R k : Nat} {ep t : Nat} {rs : Array Value} {x : Value} {y z : Str} {p1 p2 p3 : Pos} {Q : Value → Shared → Prop} (hl : env.kindOf y = some .local) (hd : (y == ("__debug__" : Str)) = false) (hv : m y = some (.ref R))
    (hl2 : env.kindOf z = some .local) (hd2 : (z == ("__debug__" : Str)) = false) (hv2 : m z = some (.int k t)) (hR : s.heap.get? R = some (Lo rs ep)) (hx : rs[k]? = some x) (hb : k < 2 ^ 63) (h : Q x s) :
    wpAny (Md w) A (eval (.Subscript (.Name y p1) (.Name z p2) p3) env) Q E s := by
  have L : s.heap.IsList R rs := ⟨_,hR,rfl,ep,rfl⟩
  refine wpAny_Subscript_Name (T := "list") list_getitem (nm hk hn hl hd hv ?_)
  refine nm hk hn hl2 hd2 hv2 ⟨L.typeIs,?_⟩
  exact wpAny_getItem_list L (by lia) (by lia) (by rw [Int.toNat_natCast]; exact hx) h
end
theorem jB4 (w : World) : ∃ pi pn pc pin pi2 psb pst pc2 pos l p,nthS (jB w) 4 = .While (.Compare (.Name "i" pi) [.Lt] [.Name "n" pn] pc) (.Assert (.Compare (.Subscript (.Name "inp" pin) (.Name "i" pi2) psb) [.Is] [.Name "STAR" pst] pc2) none pos :: l) [] p :=
  ⟨_,_,_,_,_,_,_,_,_,_,_,by rfl⟩
theorem good_flow {w : World} {Z : Result → Shared → Prop} {s : Shared} {k : Result → Sem Fin} {h : Option Value} {g : Bool} {l : List Value} {c c1 : Code} {p p1 : Pos} {rest : List Frame} {r : Result}
    (q : Good w Z s ⟨k r,c1,p1,rest⟩) : Good w Z s ⟨leafOf r,c,p,.ret k h g l c1 p1 [] :: rest⟩ :=
  Good.back (s' := s) (step_leaf_ret (M := Md w) s _ _ rest r k h g l c1 p1 []) q
noncomputable def jNs (w : World) (kt ut : Nat → Nat) (R S Q M : Nat) (nn I : Int) (it : Nat) : Str → Option Value :=
  nsOf w.params [("inp",kt 0,.ref R),("STAR",kt 1,.ref S),("res",kt 2,.ref Q),("add",kt 3,.ref M),("n",kt 4,.int nn (ut 4)),("i",kt 5,.int I it)]
section
variable {w : World} {N R S Q M ep it : Nat} {kt ut : Nat → Nat} {nn : Int} {rs : Array Value} {s : Shared}
theorem star1 (hN : s.heap.get? N = some (jF w kt ut R S Q M nn 0 it)) (hR : s.heap.get? R = some (Lo rs ep)) (h0 : rs[0]? = some (.ref S)) (hn : 0 < nn) {kk : Result → Sem Fin} {rest : List Frame} {p : Pos} :
    ∀ Z,Good w Z s ⟨kk (.ok .next),.func (jB w) (jE' w N),jP w,rest⟩ → Good w Z s ⟨den (jW w N),jW w N,p,jS w N kk rest⟩ := by
  refine xE11 (jB3 w) fun pi pn pc pin pi2 psb pst pc2 pb body p0 e => ?_
  have hn' : s.heap.Ns (jE' w N).locals (jNs w kt ut R S Q M nn 0 it) := ns_fr hN
  have ew : jW w N = .whileLoop (.BoolOp .And [.Compare (.Name "i" pi) [.Lt] [.Name "n" pn] pc,.Compare (.Subscript (.Name "inp" pin) (.Name "i" pi2) psb) [.IsNot] [.Name "STAR" pst] pc2] pb) body [] (jE' w N) := by
    unfold jW whileAt
    rw [e]
  have H : codeAny (Md w) (arOf (jS w N kk rest)) (jW w N) (fun r s' => r = .ok .next ∧ s' = s) s := by
    rw [ew]
    refine codeAny_whileLoop (fun _ s' => s' = s) (fun n s' hs => ?_) 0 rfl
    subst hs
    refine wpAny_isTrue_BoolOp (wpAny_allTrue_And_cons (wpAny_isTrue_Compare1 (nm rfl hn' rfl (by decide +kernel) (v := .int 0 it) rfl (nm rfl hn' rfl (by decide +kernel) (v := .int nn (ut 4)) rfl ?_))))
    refine wpAny_lt_int (wpAny_truthy_bool ?_)
    rw [decide_eq_true hn]
    refine wpAny_allTrue_And_cons (wpAny_isTrue_Compare1 (sub_nm (R := R) (k := 0) (t := it) rfl hn' rfl (by decide +kernel) rfl rfl (by decide +kernel) rfl hR h0 (by lia) (nm rfl hn' rfl (by decide +kernel) (v := .ref S) rfl ?_)))
    refine wpAny_isNot_ref_self (wpAny_truthy_bool ?_)
    exact wpAny_execs_nil ⟨rfl,rfl⟩
  refine xE4 (reach_codeAny H p) fun r s' c' p' hxx => xA1 hxx fun q4 g => ?_; clear hxx; obtain ⟨rfl,rfl⟩ := q4
  exact fun Z q => g Z (good_flow q)
end
noncomputable def jW2 (w : World) (N : Nat) : Code := whileAt (jB w) 4 (jE' w N)
noncomputable def jT2 (w : World) (N : Nat) : Sem Fin := match jW2 w N with
  | .whileLoop t b o e => tailW (dropL 1 b) t b o e
  | c => den c
section
variable {w : World} {N R S Q M ep it : Nat} {kt ut : Nat → Nat} {nn : Int} {rs : Array Value} {s : Shared}
theorem star2 (hN : s.heap.get? N = some (jF w kt ut R S Q M nn 0 it)) (hR : s.heap.get? R = some (Lo rs ep)) (h0 : rs[0]? = some (.ref S)) (hn : 0 < nn) {st : List Frame} {p : Pos} :
    ∃ p',∀ Z,Good w Z s ⟨jT2 w N,jW2 w N,p',st⟩ → Good w Z s ⟨den (jW2 w N),jW2 w N,p,st⟩ := by
  refine xE11 (jB4 w) fun pi pn pc pin pi2 psb pst pc2 pos l p0 e => ?_
  have hn' : s.heap.Ns (jE' w N).locals (jNs w kt ut R S Q M nn 0 it) := ns_fr hN
  have ew : jW2 w N = .whileLoop (.Compare (.Name "i" pi) [.Lt] [.Name "n" pn] pc) (.Assert (.Compare (.Subscript (.Name "inp" pin) (.Name "i" pi2) psb) [.Is] [.Name "STAR" pst] pc2) none pos :: l) [] (jE' w N) := by
    unfold jW2 whileAt
    rw [e]
  unfold jT2
  rw [ew]
  refine xE2 (reach_while (w := w) (p := p) (st := st) (R := fun s' => s' = s) (test := .Compare (.Name "i" pi) [.Lt] [.Name "n" pn] pc) (body := .Assert (.Compare (.Subscript (.Name "inp" pin) (.Name "i" pi2) psb) [.Is] [.Name "STAR" pst] pc2) none pos :: l) (orelse := []) (env := jE' w N) (s := s) (by
    refine wpAny_isTrue_Compare1 (nm rfl hn' rfl (by decide +kernel) (v := .int 0 it) rfl (nm rfl hn' rfl (by decide +kernel) (v := .int nn (ut 4)) rfl ?_))
    refine wpAny_lt_int (wpAny_truthy_bool ?_)
    exact ⟨decide_eq_true hn,rfl⟩)) fun s1 p1 hxx => xA1 hxx fun q2 g1 => ?_; clear hxx; obtain rfl := q2
  refine xE2 (reach_tail (w := w) (p := p1) (st := st) (c := .whileLoop (.Compare (.Name "i" pi) [.Lt] [.Name "n" pn] pc) (.Assert (.Compare (.Subscript (.Name "inp" pin) (.Name "i" pi2) psb) [.Is] [.Name "STAR" pst] pc2) none pos :: l) [] (jE' w N)) (R := fun s' => s' = s1) (a := .Assert (.Compare (.Subscript (.Name "inp" pin) (.Name "i" pi2) psb) [.Is] [.Name "STAR" pst] pc2) none pos) (l := l) (test := .Compare (.Name "i" pi) [.Lt] [.Name "n" pn] pc) (body := .Assert (.Compare (.Subscript (.Name "inp" pin) (.Name "i" pi2) psb) [.Is] [.Name "STAR" pst] pc2) none pos :: l) (orelse := []) (env := jE' w N) (s := s1) (by
    refine wpAny_Assert_holds (wpAny_isTrue_Compare1 (sub_nm (R := R) (k := 0) (t := it) rfl hn' rfl (by decide +kernel) rfl rfl (by decide +kernel) rfl hR h0 (by lia) (nm rfl hn' rfl (by decide +kernel) (v := .ref S) rfl ?_)))
    refine wpAny_is_ref_self (wpAny_truthy_bool ?_)
    exact ⟨rfl,rfl,rfl⟩)) fun s2 p2 hxx => xA1 hxx fun q2 g2 => ?_; clear hxx; obtain rfl := q2
  exact ⟨p2,fun Z q => g1 Z (g2 Z q)⟩
end
noncomputable def wBody : Code → List Stmt
  | .whileLoop _ b _ _ => b
  | _ => []
noncomputable def jB2 (w : World) : List Stmt := wBody (jW2 w 0)
noncomputable def jW3 (w : World) (N : Nat) : Code := whileAt (jB2 w) 5 (jE' w N)
noncomputable def jS2 (w : World) (N : Nat) (kk : Result → Sem Fin) (rest : List Frame) : List Frame := .ret kk none false [] (.func (jB w) (jE' w N)) (posOf (jB w) 4) [] :: rest
noncomputable def jS3 (w : World) (N : Nat) (kk : Result → Sem Fin) (rest : List Frame) : List Frame := .ret kk none false [] (jW2 w N) (posOf (jB2 w) 5) [] :: rest
noncomputable def stS : Str := ⟨#[46,42]⟩
noncomputable def jF3 (w : World) (kt ut : Nat → Nat) (R S Q M F : Nat) (nn I : Int) (it : Nat) : Obj :=
  frT w.params [("inp",kt 0,.ref R),("STAR",kt 1,.ref S),("res",kt 2,.ref Q),("add",kt 3,.ref M),("n",kt 4,.int nn (ut 4)),("i",kt 5,.int I it),("fixed",kt 6,.ref F)] 7
section
variable (w : World) (cx : Cx) (N7 sz tk gz R S ep : Nat) (rs : Array Value) (nn : Int) (k k71 : Result → Sem Fin) (g : Bool) (lv : List Value) (pp : Pos) (rest : List Frame)
variable (Q M epQ it sz' tk' gz' : Nat) (kt ut : Nat → Nat) (qs : Array Value) (I : Int) (js : Str) (tfj : Nat → List Value → Nat) (dj : Nat) (pp' : Pos)
noncomputable def jB0 : Cf := st0 (kOf (jAo w cx N7 sz tk gz R S ep rs nn k k71 g lv pp rest) (.ok .next)) (.func (jB w) (jE' w sz)) (jP w) (tR w cx k g lv rest k71 p26 N7) (sw71 w cx N7 p26) [none,none] [] sz' tk' gz' [] [] [] []
noncomputable def jBo : Cf := out (En0 w 0) 2 (jB0 w cx N7 sz tk gz R S ep rs nn k k71 g lv pp rest 0 0 0)
theorem jB_end (hx : cx.dl = true) : EndOf w 0 2 (jB0 w cx N7 sz tk gz R S ep rs nn k k71 g lv pp rest sz' tk' gz') []
   ⟨⟨den (jW2 w sz),jW2 w sz,posOf (jB w) 4,jS2 w sz (kOf (jBo w cx N7 sz tk gz R S ep rs nn k k71 g lv pp rest)) (tR w cx k g lv rest k71 p26 N7)⟩,[],tk',sz',gz',[],[]⟩ := by
  cases cx with
  | D st env q' => unfold EndOf; kernel_rfl
  | L t it b o e p' st env q' => unfold EndOf; kernel_rfl
  | C => cases hx
noncomputable def jD (L A : List Nat) (O : List (Nat × OE)) : Cf := st0 (jT2 w sz) (jW2 w sz) pp' (jS2 w sz (kOf (jBo w cx N7 sz tk gz R S ep rs nn k k71 g lv pp rest)) (tR w cx k g lv rest k71 p26 N7))
  ((.func (jB w) (jE' w sz),posOf (jB w) 4) :: sw71 w cx N7 p26) [none,none,none] [(sz,jF w kt ut R S Q M nn 0 it),(R,Lo rs ep),(Q,Lo #[] epQ),(M,tM Q)] sz' tk' gz' [] L A O
noncomputable def jD1 : Cf := jD w cx N7 sz tk gz R S ep rs 1 k k71 g lv pp rest Q M epQ it sz' tk' gz' kt ut pp' [1,1,1,1,1,1,4,4,3,3,3,1,1,1,1,1] [0,1,1,0]
  [(1,oeP "int.__eq__" [.i 1,.i 1] (fun _ => .bool true) 0),(2,oeApp 2 Q #[] epQ (.s stS)),(3,oeP "int.__eq__" [.i 1,.i 1] (fun _ => .bool true) 0),(4,oeSt "str.join" [.s Str.empty,.r Q] [(2,Q,Lo #[.str stS (tk' + 3)] (epQ + 1))] js tfj dj)]
theorem jD1_end (hx : cx.dl = true) : EndOf w 0 65 (jD1 w cx N7 sz tk gz R S ep rs k k71 g lv pp rest Q M epQ it sz' tk' gz' kt ut js tfj dj pp') [0]
   ⟨⟨tailT (.func (dropL 7 (jB w)) (jE' w sz)),.func (jB w) (jE' w sz),(out (En0 w 0) 65 (jD1 w cx N7 sz tk gz R S ep rs k k71 g lv pp rest Q M epQ it sz' tk' gz' kt ut js tfj dj pp')).p,tR w cx k g lv rest k71 p26 N7⟩,
    [some (sz,jFx w kt ut R S M js (tfj (tk' + 5) [.str Str.empty (tk' + 4),.ref Q]) 1 1 (tk' + 1))],(out (En0 w 0) 65 (jD1 w cx N7 sz tk gz R S ep rs k k71 g lv pp rest Q M epQ it sz' tk' gz' kt ut js tfj dj pp')).tk,sz',gz',[],[]⟩ := by
  cases cx with
  | D st env q' => unfold EndOf; kernel_rfl
  | L t it b o e p' st env q' => unfold EndOf; kernel_rfl
  | C => cases hx
variable (x : Str) (xt : Nat)
noncomputable def jD2 : Cf := jD w cx N7 sz tk gz R S ep rs nn k k71 g lv pp rest Q M epQ it sz' tk' gz' kt ut pp' [1,1,1,1,1,1,1,2,2,2,2,1,1,1] [0,1,0]
  [(1,oeP "int.__eq__" [.i 1,.i nn] (fun _ => .bool false) 0),(2,oeH "list.__getitem__" [.r R,.i 1] [(1,R,Lo rs ep)] (fun _ _ _ => .str x xt) 0)]
noncomputable def jD2o : Cf := out (En0 w 0) 51 (jD2 w cx N7 sz tk gz R S ep rs nn k k71 g lv pp rest Q M epQ it sz' tk' gz' kt ut pp' x xt)
noncomputable def ktF (kt : Nat → Nat) (t j : Nat) : Nat := match j with
  | 6 => t
  | _ => kt j
theorem jD2_end (hx : cx.dl = true) : EndOf w 0 51 (jD2 w cx N7 sz tk gz R S ep rs nn k k71 g lv pp rest Q M epQ it sz' tk' gz' kt ut pp' x xt) [0,1,2,3,4]
   ⟨⟨den (jW3 w sz),jW3 w sz,posOf (jB2 w) 5,jS3 w sz (kOf (jD2o w cx N7 sz tk gz R S ep rs nn k k71 g lv pp rest Q M epQ it sz' tk' gz' kt ut pp' x xt)) (jS2 w sz (kOf (jBo w cx N7 sz tk gz R S ep rs nn k k71 g lv pp rest)) (tR w cx k g lv rest k71 p26 N7))⟩,
    [some (sz,jF3 w (ktF kt (tk' + 3)) ut R S Q M sz' nn 1 (tk' + 1)),some (R,Lo rs ep),some (Q,Lo #[] epQ),some (M,tM Q),some (sz',Lo #[] 0)],tk' + 4,sz' + 1,gz',[],[]⟩ := by
  cases cx with
  | D st env q' => unfold EndOf; kernel_rfl
  | L t it b o e p' st env q' => unfold EndOf; kernel_rfl
  | C => cases hx
end
section
variable (w : World) (cx : Cx) (N7 sz tk gz R S ep : Nat) (rs : Array Value) (nn : Int) (k k71 : Result → Sem Fin) (g : Bool) (lv : List Value) (pp : Pos) (rest : List Frame)
variable (Q M epQ it sz' tk' gz' : Nat) (kt ut : Nat → Nat) (qs : Array Value) (I : Int) (js : Str) (tfj : Nat → List Value → Nat) (dj : Nat) (pp' : Pos) (x : Str) (xt : Nat)
variable (N F epF : Nat) (fs : Array Value) (kk : Result → Sem Fin) (rest1 : List Frame) (sw : List (Code × Pos))
noncomputable def jEt : Cf := st0 (den (jW3 w N)) (jW3 w N) pp (jS3 w N kk rest1) ((jW2 w N,posOf (jB2 w) 5) :: sw) [none,none]
  [(N,jF3 w kt ut R S Q M F nn I it),(R,Lo rs ep),(Q,Lo qs epQ),(M,tM Q),(F,Lo fs epF)] sz tk gz []
  [1,1,1,1,2,2,2,2,1,1,5,5,5,5,1,1,2,2,2,2,5,1,1,1] [1,0]
  [(0,ltO I nn true),(1,oeH "list.__getitem__" [.r R,.i I] [(1,R,Lo rs ep)] (fun _ _ _ => .str x xt) 0),(2,oeH "list.__getitem__" [.r R,.i I] [(1,R,Lo rs ep)] (fun _ _ _ => .str x xt) 0),(3,oeApp 4 F fs epF (.s x))]
theorem jEt_end : EndOf w 0 63 (jEt w sz tk gz R S ep rs nn pp Q M epQ it kt ut qs I x xt N F epF fs kk rest1 sw) [0,1,2,3,4]
   ⟨⟨den (jW3 w N),jW3 w N,(out (En0 w 0) 63 (jEt w sz tk gz R S ep rs nn pp Q M epQ it kt ut qs I x xt N F epF fs kk rest1 sw)).p,jS3 w N kk rest1⟩,
    [some (N,jF3 w kt ut R S Q M F nn (I + 1) (tk + 1)),some (R,Lo rs ep),some (Q,Lo qs epQ),some (M,tM Q),some (F,Lo (fs.push (.str x xt)) (epF + 1))],tk + 3,sz,gz,[],[]⟩ := by
  unfold EndOf; kernel_rfl
variable (sz2 tk2 gz2 : Nat) (fx : Str) (tf1 : Nat → List Value → Nat) (d1 : Nat) (pp2 : Pos) (kt2 ut2 : Nat → Nat) (it2 : Nat)
noncomputable def jT1 (tf1 : Nat → List Value → Nat) (tk2 F : Nat) : Nat := tf1 (tk2 + 1) [.str Str.empty tk2,.ref F]
noncomputable def jX2 : Cf := st0 (den (jW3 w sz)) (jW3 w sz) pp2 (jS3 w sz (kOf (jD2o w cx N7 sz tk gz R S ep rs nn k k71 g lv pp rest Q M epQ it sz' tk' gz' kt ut pp' x xt)) (jS2 w sz (kOf (jBo w cx N7 sz tk gz R S ep rs nn k k71 g lv pp rest)) (tR w cx k g lv rest k71 p26 N7)))
  ((jW2 w sz,posOf (jB2 w) 5) :: (.func (jB w) (jE' w sz),posOf (jB w) 4) :: sw71 w cx N7 p26) [none,none,none,none] [(sz,jF3 w kt2 ut2 R S Q M F nn I it2),(R,Lo rs ep),(Q,Lo #[] epQ),(M,tM Q),(F,Lo fs epF)] sz2 tk2 gz2 []
  [1,1,1,1,1,1,1,1,4,4,3,3,3,1,1,4,4,3,3,3,1,1,1,1,1,1,1] [1,0,1,1,1,0]
  [(0,ltO I nn false),(1,oeSt "str.join" [.s Str.empty,.r F] [(4,F,Lo fs epF)] fx tf1 d1),(2,oeP "int.__eq__" [.i I,.i nn] (fun _ => .bool true) 0),(3,oeApp 2 Q #[] epQ (.s stS)),
   (4,oeApp 2 Q #[.str stS (tk2 + 1 + d1 + 1)] (epQ + 1) (.s fx)),(5,ltO I nn false),(6,oeP "int.__eq__" [.i I,.i nn] (fun _ => .bool true) 0),
   (7,oeSt "str.join" [.s Str.empty,.r Q] [(2,Q,Lo #[.str stS (tk2 + 1 + d1 + 1),.str fx (jT1 tf1 tk2 F)] (epQ + 1 + 1))] js tfj dj)]
theorem jX2_end (hx : cx.dl = true) : EndOf w 0 98 (jX2 w cx N7 sz tk gz R S ep rs nn k k71 g lv pp rest Q M epQ it sz' tk' gz' kt ut I js tfj dj pp' x xt F epF fs sz2 tk2 gz2 fx tf1 d1 pp2 kt2 ut2 it2) [0]
   ⟨⟨tailT (.func (dropL 7 (jB w)) (jE' w sz)),.func (jB w) (jE' w sz),(out (En0 w 0) 98 (jX2 w cx N7 sz tk gz R S ep rs nn k k71 g lv pp rest Q M epQ it sz' tk' gz' kt ut I js tfj dj pp' x xt F epF fs sz2 tk2 gz2 fx tf1 d1 pp2 kt2 ut2 it2)).p,tR w cx k g lv rest k71 p26 N7⟩,
    [some (sz,frT w.params [("inp",kt2 0,.ref R),("STAR",kt2 1,.ref S),("res",kt2 2,.str js (tfj (tk2 + 1 + d1 + 1 + 1 + 1) [.str Str.empty (tk2 + 1 + d1 + 1 + 1),.ref Q])),("add",kt2 3,.ref M),("n",kt2 4,.int nn (ut2 4)),("i",kt2 5,.int I it2),("fixed",kt2 6,.str fx (jT1 tf1 tk2 F))] 7)],
    (out (En0 w 0) 98 (jX2 w cx N7 sz tk gz R S ep rs nn k k71 g lv pp rest Q M epQ it sz' tk' gz' kt ut I js tfj dj pp' x xt F epF fs sz2 tk2 gz2 fx tf1 d1 pp2 kt2 ut2 it2)).tk,sz2,gz2,[],[]⟩ := by
  cases cx with
  | D st env q' => unfold EndOf; kernel_rfl
  | L t it b o e p' st env q' => unfold EndOf; kernel_rfl
  | C => cases hx
end
theorem j_fin2 {w : World} {N : Nat} {s : Shared} {c : Code} {p : Pos} {st : List Frame} {l : List (String × Nat × Value)} {nl jt : Nat} {js : Str} (hN : s.heap.get? N = some (frT w.params l nl)) (hv : nsOf w.params l "res" = some (.str js jt))
    (hjs : js.length + 7 ≤ sizeLine) : ∃ tk n p',∀ Z,Good w Z { s with toks := n } ⟨.pure (.done (.ret (.str (txtJ js) tk))),c,p',st⟩ → Good w Z s ⟨tailT (.func (dropL 7 (jB w)) (jE' w N)),c,p,st⟩ := by
  refine xE8 (jB7 w) fun k1 k2 p1 p2 px pf p0 q e => ?_
  have H : wpAny (Md w) ((arOf st).under c) (execs (dropL 7 (jB w)) (jE' w N)) (fun f s' => ∃ v,f = .ret v ∧ ∃ tk n,v = .str (txtJ js) tk ∧ s' = { s with toks := n }) (fun _ _ => False) s := by
    rw [e]
    refine wpAny_execs_cons ?_
    exact ret_fstr (y := js) (t := jt) (m := nsOf w.params l) rfl rfl (by decide +kernel) (ns_fr hN) hv (by show (txtJ js).length ≤ _; rw [txtJ_len]; exact hjs) fun tk n => ⟨_,rfl,tk,n,rfl,rfl⟩
  refine xE3 (reach_func (p := p) H) fun v s' p' hx => xA1 hx fun q3 g => ?_; clear hx; obtain ⟨tk,n,rfl,rfl⟩ := q3
  exact ⟨tk,n,p',g⟩
noncomputable def starTxt (ys : List Str) : Str := match ys with
  | [] => Builtin.Str.glued Str.empty [stS]
  | ys => Builtin.Str.glued Str.empty [stS,Builtin.Str.glued Str.empty ys]
structure EState (w : World) (N R S Q M F ep epQ : Nat) (nn I : Int) (rs qs fs : Array Value) (s : Shared) : Prop where
  inv : Inv w s
  fr : ∃ kt ut it,s.heap.get? N = some (jF3 w kt ut R S Q M F nn I it)
  li : s.heap.get? R = some (Lo rs ep)
  qi : s.heap.get? Q = some (Lo qs epQ)
  m : s.heap.get? M = some (tM Q)
  fi : ∃ e,s.heap.get? F = some (Lo fs e)
  a : 268 ≤ N ∧ 268 ≤ R ∧ 268 ≤ Q ∧ 268 ≤ M ∧ 268 ≤ F
  nd : [N,R,Q,M,F].Nodup
noncomputable def updE (N R Q M F b : Nat) : Prop := b ∈ [N,R,Q,M,F]
section
variable {w : World} {N R S Q M F ep epQ : Nat} {nn I : Int} {rs qs fs : Array Value} {s : Shared}
theorem EState.own (P : EState w N R S Q M F ep epQ nn I rs qs fs s) {o1 o2 o3 o4 o5 : Obj}
    (h1 : s.heap.get? N = some o1) (h2 : s.heap.get? R = some o2) (h3 : s.heap.get? Q = some o3) (h4 : s.heap.get? M = some o4) (h5 : s.heap.get? F = some o5) : OwnL 0 [(N,o1),(R,o2),(Q,o3),(M,o4),(F,o5)] s.heap := by
  refine xA4 P.a fun a1 a2 a3 a4 a5 => ?_
  exact own_nodup (by simp only [List.forall_mem_cons]; exact ⟨⟨a1,h1⟩,⟨a2,h2⟩,⟨a3,h3⟩,⟨a4,h4⟩,⟨a5,h5⟩,fun _ h => nomatch h⟩) P.nd
theorem EState.upd (P : EState w N R S Q M F ep epQ nn I rs qs fs s) {q : Nat} (h : updE N R Q M F q) : 268 ≤ q := by
  refine xA4 P.a fun a1 a2 a3 a4 a5 => ?_
  unfold updE at h
  simp only [List.mem_cons,List.not_mem_nil,or_false] at h
  rcases h with rfl | rfl | rfl | rfl | rfl <;> assumption
end
section
variable {w : World} {cx : Cx} {N7 N R S Q M F ep epQ : Nat} {nn : Int} {rs qs : Array Value} {kk kk2 k71 k : Result → Sem Fin} {g : Bool} {lv : List Value} {rest : List Frame} (U : Und rest cx.sw)
include U
theorem e_turn {s : Shared} {fs : Array Value} {I : Int} {i : Nat} {v : Value} {y : Str} (P : EState w N R S Q M F ep epQ nn I rs qs fs s) (hI : I = i) (hlt : I < nn) (hi : i < 2 ^ 62) (hv : rs[i]? = some v) (hy : strip0 v = .s y) (hq : fs.size ≤ sizeLine) (pp : Pos) :
    ∃ s' pp',EState w N R S Q M F ep epQ nn (I + 1) rs qs (fs.push v) s' ∧ Ext (updE N R Q M F) s s' ∧
      ∀ Z,Good w Z s' ⟨den (jW3 w N),jW3 w N,pp',jS3 w N kk (jS2 w N kk2 (tR w cx k g lv rest k71 p26 N7))⟩ → Good w Z s ⟨den (jW3 w N),jW3 w N,pp,jS3 w N kk (jS2 w N kk2 (tR w cx k g lv rest k71 p26 N7))⟩ := by
  refine gv fun GG hGG => ?_
  have P0 := P
  obtain ⟨inv,⟨kt,ut,it,hN⟩,hR,hQ,hM,⟨epF,hF⟩,aa,nd⟩ := P
  obtain ⟨t,rfl⟩ := strip_s hy
  have U2 := (((U.cons k g lv cx.c cx.p).cons k71 false [mkV] (f71 w N7) p26).cons kk2 false [] (.func (jB w) (jE' w N)) (posOf (jB w) 4)).cons kk false [] (jW2 w N) (posOf (jB2 w) 5)
  have gl : OEk w (oeH "list.__getitem__" [.r R,.i I] [(1,R,Lo rs ep)] (fun _ _ _ => .str y t) 0) := oeGetL (by lia) (by lia) (by rw [hI,Int.toNat_natCast]; exact hv)
  have h4 : ∀ z ∈ ([(0,ltO I nn true),(1,oeH "list.__getitem__" [.r R,.i I] [(1,R,Lo rs ep)] (fun _ _ _ => .str y t) 0),(2,oeH "list.__getitem__" [.r R,.i I] [(1,R,Lo rs ep)] (fun _ _ _ => .str y t) 0),(3,oeApp 4 F fs epF (.s y))] : List (Nat × OE)),OEk w z.2 := by
    simp only [List.forall_mem_cons]
    exact ⟨lt_ok (by simpa using hlt),gl,gl,oeApp_ok hq,fun _ h => nomatch h⟩
  refine segE inv (P0.own hN hR hQ hM hF) (p := pp) U2.w (hd := [none,none]) ⟨U.h,U.h,trivial⟩ (ch := []) (fun a vs e => (chNil e).elim)
    (jEt_end w s.heap.objs.size s.toks s.gens.size R S ep rs nn pp Q M epQ it kt ut qs I y t N F epF fs kk _ _) h4 glNil fun s' X ob tk' sz' gz' tb G => ?_
  have X' : Ext (updE N R Q M F) s s' := X.mono fun q hq => by
    rcases hq with hq | ⟨vs,e⟩
    · exact upd_mem hq
    · exact (chNil e).elim
  exact hGG (yE2 s' _ ⟨⟨X'.inv inv fun q hq => .inl (P0.upd hq),⟨_,_,_,ob (N,_) (.head _)⟩,ob (R,_) (.tail _ (.head _)),ob (Q,_) (.tail _ (.tail _ (.head _))),ob (M,_) (.tail _ (.tail _ (.tail _ (.head _)))),⟨_,ob (F,_) (.tail _ (.tail _ (.tail _ (.tail _ (.head _)))))⟩,aa,nd⟩,X',G⟩)
theorem e_loop (hn : nn = rs.size) (hs : rs.size ≤ 1000) (hstr : ∀ i v,1 ≤ i → rs[i]? = some v → ∃ y,strip0 v = .s y) : ∀ (m : Nat) {i : Nat},1 ≤ i → i + m = rs.size → ∀ {s : Shared},EState w N R S Q M F ep epQ nn i rs qs (rs.extract 1 i) s → ∀ pp,
    ∃ s' pp',EState w N R S Q M F ep epQ nn nn rs qs (rs.extract 1 rs.size) s' ∧ Ext (updE N R Q M F) s s' ∧
      ∀ Z,Good w Z s' ⟨den (jW3 w N),jW3 w N,pp',jS3 w N kk (jS2 w N kk2 (tR w cx k g lv rest k71 p26 N7))⟩ → Good w Z s ⟨den (jW3 w N),jW3 w N,pp,jS3 w N kk (jS2 w N kk2 (tR w cx k g lv rest k71 p26 N7))⟩
  | 0,i,h1,e,s,P,pp => by
    have : i = rs.size := by lia
    subst this
    exact ⟨s,pp,by rw [← hn] at P; exact P,Ext.refl P.inv,fun Z q => q⟩
  | m + 1,i,h1,e,s,P,pp => by
    have lt : i < rs.size := by lia
    obtain ⟨y,hy⟩ := hstr i rs[i] h1 (Array.getElem?_eq_getElem lt)
    refine xE2 (e_turn U (N7 := N7) (kk := kk) (kk2 := kk2) (k71 := k71) (k := k) (g := g) (lv := lv) P rfl (by rw [hn]; lia) (by lia) (Array.getElem?_eq_getElem lt) hy (by rw [Array.size_extract]; show _ ≤ 2 ^ 24; lia) pp) fun s1 pp1 hx => xA2 hx fun P1 X1 G1 => ?_; clear hx
    have e2 : (rs.extract 1 i).push rs[i] = rs.extract 1 (i + 1) := by
      rw [Array.push_extract_getElem lt,Nat.min_eq_left h1]
    rw [e2] at P1
    refine xE2 (e_loop hn hs hstr m (i := i + 1) (by lia) (by lia) (by rw [show ((i + 1 : Nat) : Int) = (i : Int) + 1 by lia]; exact P1) pp1) fun s2 pp2 hx => xA2 hx fun P2 X2 G2 => ?_; clear hx
    exact ⟨s2,pp2,P2,(X1.trans X2).mono (fun b h => h.elim id id),fun Z q => G1 Z (G2 Z q)⟩
end
theorem nd5 {R z F : Nat} (h : R < z) (hF : z + 2 < F) : [z,R,z + 1,z + 2,F].Nodup := by
  have a : z ≠ R := by lia
  have b : R ≠ z + 1 := by lia
  have c : R ≠ z + 2 := by lia
  have d : z ≠ F := by lia
  have e : R ≠ F := by lia
  have f : z + 1 ≠ F := by lia
  have i : z + 2 ≠ F := by lia
  simp [a,b,c,d,e,f,i]
theorem Ext.nil {w : World} {ro : Nat} {ch : Ch} {s s' : Shared} (X : Ext (fun b => updOf ro [] b ∨ ∃ vs,chLook ch b = some vs) s s') (hx : ch = []) : Ext (fun _ => False) s s' := X.mono fun q hq => by
  rcases hq with ⟨i,y,_,e,_⟩ | ⟨vs,e⟩
  · cases e
  · rw [hx] at e; exact chNil e
section
variable {w : World} {cx : Cx} (hx : cx.dl = true) {N7 R S : Nat} {rs : Array Value} {k71 k : Result → Sem Fin} {g : Bool} {lv : List Value} {rest : List Frame} (U : Und rest cx.sw)
include hx U
theorem join_star {s : Shared} {ep : Nat} {ys : List Str} {nn : Int} (I : Inv w s) (aR : 268 ≤ R) (hR : s.heap.get? R = some (Lo rs ep)) (hs : rs.size ≤ 1000) (hv : rs.toList.map strip0 = .r S :: ys.map .s) (hnn : (rs.size : Int) = nn)
    (hl : Builtin.Str.tooLong (ys.toArray.foldl (· + ·.length + Str.empty.length) 0) = false) (hl1 : (Builtin.Str.glued Str.empty ys).length ≤ 100000) (pp : Pos) :
    ∃ s' tk,Ext (fun b => b = R) s s' ∧ ∀ Z,Good w Z s' ⟨k71 (.ok (.ret (.str (txtJ (starTxt ys)) tk))),f71 w N7,p26,.ret k none g lv cx.c cx.p [] :: rest⟩ →
      Good w Z s ⟨den (jCall R S),jCall R S,pp,tR w cx k g lv rest k71 p26 N7⟩ := by
  have U1 := (U.cons k g lv cx.c cx.p).cons k71 false [mkV] (f71 w N7) p26
  have lo := I.lo
  have ltR : R < s.heap.objs.size := Heap.lt_size hR
  have hA : ∀ y ∈ ([(2,oeLenV (.r R) [(0,R,Lo rs ep)] nn)] : List (Nat × OE)),OEk w y.2 := by
    simp only [List.forall_mem_cons]
    exact ⟨oeLenL2 hnn (by lia),fun _ h => nomatch h⟩
  refine segE I (own1 (ro := 1) aR hR) (p := pp) U1.w (hd := [none,none,none]) ⟨U.h,U.h,U.h,trivial⟩ (ch := []) (fun a vs e => (chNil e).elim)
    (jA_end w cx N7 s.heap.objs.size s.toks s.gens.size R S ep rs nn k k71 g lv pp rest hx) hA glNil fun s1 X1 ob etk esz egz tb G1 => ?_
  have X1' : Ext (fun _ => False) s s1 := X1.mono fun q hq => by
    rcases hq with hq | ⟨vs,e⟩
    · exact (upd1 hq).elim
    · exact chNil e
  have inv1 := X1'.inv I (fun _ h => h.elim)
  have size1 : rs.size = ys.length + 1 := by
    have := congrArg List.length hv
    simpa using this
  have h0 : rs[0]? = some (.ref S) := by
    rw [← Array.getElem?_toList]
    cases e : rs.toList with
    | nil => rw [e] at hv; cases hv
    | cons a l =>
      rw [e] at hv
      have := (List.cons.inj hv).1
      rw [strip_r this]; rfl
  have hpos : 0 < nn := by lia
  have hN1 : s1.heap.get? s.heap.objs.size = some (jF w (ktJ s.toks) (fun _ => s.toks + 7) R S (s.heap.objs.size + 1) (s.heap.objs.size + 2) nn 0 (s.toks + 5)) := ob (s.heap.objs.size,_) (.tail _ (.head _))
  have hR1 : s1.heap.get? R = some (Lo rs ep) := ob (R,_) (.head _)
  have hQ1 : s1.heap.get? (s.heap.objs.size + 1) = some (Lo #[] 0) := ob (s.heap.objs.size + 1,_) (.tail _ (.tail _ (.head _)))
  have hM1 : s1.heap.get? (s.heap.objs.size + 2) = some (tM (s.heap.objs.size + 1)) := ob (s.heap.objs.size + 2,_) (.tail _ (.tail _ (.tail _ (.head _))))
  have S1 := star1 hN1 hR1 h0 hpos (kk := kOf (jAo w cx N7 s.heap.objs.size s.toks s.gens.size R S ep rs nn k k71 g lv pp rest)) (rest := tR w cx k g lv rest k71 p26 N7) (p := jP w)
  refine segE inv1 (own_nil (ro := 0)) (p := jP w) U1.w (hd := [none,none]) ⟨U.h,U.h,trivial⟩ (ch := []) (fun a vs e => (chNil e).elim)
    (jB_end w cx N7 s.heap.objs.size s.toks s.gens.size R S ep rs nn k k71 g lv pp rest s1.heap.objs.size s1.toks s1.gens.size hx) (fun _ h => nomatch h) glNil fun s2 X2 ob2 etk2 esz2 egz2 tb2 G2 => ?_
  have X2' := Ext.nil (w := w) X2 rfl
  have inv2 := X2'.inv inv1 (fun _ h => h.elim)
  have hN2 := X2'.keep _ _ hN1 (fun h => h)
  have hR2 := X2'.keep _ _ hR1 (fun h => h)
  have hQ2 := X2'.keep _ _ hQ1 (fun h => h)
  have hM2 := X2'.keep _ _ hM1 (fun h => h)
  obtain ⟨pp2,S2⟩ := star2 hN2 hR2 h0 hpos (st := jS2 w s.heap.objs.size (kOf (jBo w cx N7 s.heap.objs.size s.toks s.gens.size R S ep rs nn k k71 g lv pp rest)) (tR w cx k g lv rest k71 p26 N7)) (p := posOf (jB w) 4)
  have O2 : ∀ {o : Obj},s2.heap.get? s.heap.objs.size = some o → OwnL 0 [(s.heap.objs.size,o),(R,Lo rs ep),(s.heap.objs.size + 1,Lo #[] 0),(s.heap.objs.size + 2,tM (s.heap.objs.size + 1))] s2.heap := fun h =>
    own_nodup (by simp only [List.forall_mem_cons]; exact ⟨⟨lo,h⟩,⟨aR,hR2⟩,⟨by lia,hQ2⟩,⟨by lia,hM2⟩,fun _ h => nomatch h⟩) (nd4 ltR)
  have U2 := U1.cons (kOf (jBo w cx N7 s.heap.objs.size s.toks s.gens.size R S ep rs nn k k71 g lv pp rest)) false [] (.func (jB w) (jE' w s.heap.objs.size)) (posOf (jB w) 4)
  have fin : ∀ (s3 : Shared) (tk n : Nat),Ext (fun b => b ∈ [s.heap.objs.size,R,s.heap.objs.size + 1,s.heap.objs.size + 2] ∨ s.heap.objs.size ≤ b) s2 s3 → Ext (fun b => b = R) s { s3 with toks := n } := by
    intro s3 tk n X3
    refine ⟨fun b o e nb => X3.keep b o (X2'.keep b o (X1'.keep b o e fun h => h) fun h => h) fun hq => ?_,Nat.le_trans X1.size (Nat.le_trans X2.size X3.size),X3.gens,X3.os.trans (X2.os.trans X1.os),X3.drawn.trans (X2.drawn.trans X1.drawn),X3.life.trans (X2.life.trans X1.life)⟩
    have lb : b < s.heap.objs.size := Heap.lt_size e
    rcases hq with hq | hq
    · exact updJ_new hq lb nb
    · exact absurd lb (Nat.not_lt.mpr hq)
  match ys,hv,hl,hl1,size1 with
  | [],hv,hl,hl1,size1 =>
    have : nn = 1 := by rw [← hnn,size1]; rfl
    subst this
    obtain ⟨tfj,dj,hJ⟩ := oeJoinT (w := w) (x := Str.empty) (a := s.heap.objs.size + 1) (idx := 2) (n := 0 + 1) (vs := #[.str stS (s2.toks + 3)]) (ys := [stS]) rfl (by decide +kernel) (by decide +kernel)
    have e1 : OEk w (oeP "int.__eq__" [.i (1 : Int),.i 1] (fun _ => .bool true) 0) := oeEq rfl
    have h4 : ∀ y ∈ ([(1,oeP "int.__eq__" [.i 1,.i 1] (fun _ => .bool true) 0),(2,oeApp 2 (s.heap.objs.size + 1) #[] 0 (.s stS)),(3,oeP "int.__eq__" [.i 1,.i 1] (fun _ => .bool true) 0),(4,oeSt "str.join" [.s Str.empty,.r (s.heap.objs.size + 1)] [(2,s.heap.objs.size + 1,Lo #[.str stS (s2.toks + 3)] (0 + 1))] (Builtin.Str.glued Str.empty [stS]) tfj dj)] : List (Nat × OE)),OEk w y.2 := by
      simp only [List.forall_mem_cons]
      exact ⟨e1,oeApp_ok (by simp),e1,hJ,fun _ h => nomatch h⟩
    have HX := jD1_end w cx N7 s.heap.objs.size s.toks s.gens.size R S ep rs k k71 g lv pp rest (s.heap.objs.size + 1) (s.heap.objs.size + 2) 0 (s.toks + 5) s2.heap.objs.size s2.toks s2.gens.size (ktJ s.toks) (fun _ => s.toks + 7) (Builtin.Str.glued Str.empty [stS]) tfj dj pp2 hx
    unfold jD1 jD at HX
    refine segEp inv2 (O2 hN2) (p := pp2) U2.w (hd := [none,none,none]) ⟨U.h,U.h,U.h,trivial⟩ (ch := []) (fun a vs e => (chNil e).elim) HX h4 glNil fun s3 pz2 X3 ob3 etk3 esz3 egz3 tb3 G3 => ?_
    have hN3 := ob3 (s.heap.objs.size,_) (List.Mem.head _)
    unfold jFx at hN3
    obtain ⟨tk,n,p4,G4⟩ := j_fin2 hN3 rfl (by decide +kernel)
    refine ⟨{ s3 with toks := n },tk,fin s3 tk n (X3.mono fun q hq => ?_),fun Z q => G1 Z (S1 Z (G2 Z (S2 Z (G3 Z (G4 Z ?_)))))⟩
    · rcases hq with hq | ⟨vs,e⟩
      · exact .inl (upd_mem hq)
      · exact (chNil e).elim
    · exact good_ret q
  | y :: ys,hv,hl,hl1,size1 =>
    have hstr : ∀ i v,1 ≤ i → rs[i]? = some v → ∃ z,strip0 v = .s z ∧ (y :: ys)[i - 1]? = some z := by
      intro i v h1 hi
      have : (rs.toList.map strip0)[i]? = some (strip0 v) := by rw [List.getElem?_map,Array.getElem?_toList,hi]; rfl
      rw [hv] at this
      obtain ⟨j,rfl⟩ : ∃ j,i = j + 1 := ⟨i - 1,by lia⟩
      rw [List.getElem?_cons_succ,List.getElem?_map] at this
      cases e : (y :: ys)[j]? with
      | none => rw [e] at this; cases this
      | some z => rw [e] at this; exact ⟨z,(Option.some.inj this).symm,by simpa using e⟩
    have lt1 : 1 < rs.size := by rw [size1]; simp
    obtain ⟨z1,hz1,_⟩ := hstr 1 rs[1] (Nat.le_refl _) (Array.getElem?_eq_getElem lt1)
    obtain ⟨t1,et1⟩ := strip_s hz1
    have g1 : OEk w (oeH "list.__getitem__" [.r R,.i (1 : Int)] [(1,R,Lo rs ep)] (fun _ _ _ => .str z1 t1) 0) := oeGetL (by lia) (by lia) (by rw [← et1]; exact Array.getElem?_eq_getElem lt1)
    have e1 : OEk w (oeP "int.__eq__" [.i (1 : Int),.i nn] (fun _ => .bool false) 0) := oeEq (by
      have : ¬ (1 : Int) = nn := by lia
      simpa using this)
    have h4 : ∀ y ∈ ([(1,oeP "int.__eq__" [.i 1,.i nn] (fun _ => .bool false) 0),(2,oeH "list.__getitem__" [.r R,.i 1] [(1,R,Lo rs ep)] (fun _ _ _ => .str z1 t1) 0)] : List (Nat × OE)),OEk w y.2 := by
      simp only [List.forall_mem_cons]
      exact ⟨e1,g1,fun _ h => nomatch h⟩
    have HX := jD2_end w cx N7 s.heap.objs.size s.toks s.gens.size R S ep rs nn k k71 g lv pp rest (s.heap.objs.size + 1) (s.heap.objs.size + 2) 0 (s.toks + 5) s2.heap.objs.size s2.toks s2.gens.size (ktJ s.toks) (fun _ => s.toks + 7) pp2 z1 t1 hx
    unfold jD2 jD at HX
    refine segE inv2 (O2 hN2) (p := pp2) U2.w (hd := [none,none,none]) ⟨U.h,U.h,U.h,trivial⟩ (ch := []) (fun a vs e => (chNil e).elim) HX h4 glNil fun s3 X3 ob3 etk3 esz3 egz3 tb3 G3 => ?_
    have X3' : Ext (fun b => b ∈ [s.heap.objs.size,R,s.heap.objs.size + 1,s.heap.objs.size + 2]) s2 s3 := X3.mono fun q hq => by
      rcases hq with hq | ⟨vs,e⟩
      · exact upd_mem hq
      · exact (chNil e).elim
    have sF : s.heap.objs.size + 2 < s2.heap.objs.size := Heap.lt_size hM2
    have inv3 : Inv w s3 := X3'.inv inv2 fun q h => .inl (by
      rcases Nat.lt_or_ge q s.heap.objs.size with lt | ge
      · by_cases e : q = R
        · rw [e]; exact aR
        · exact (updJ_new h lt e).elim
      · exact Nat.le_trans lo ge)
    have P3 : EState w s.heap.objs.size R S (s.heap.objs.size + 1) (s.heap.objs.size + 2) s2.heap.objs.size ep 0 nn 1 rs #[] (rs.extract 1 1) s3 :=
      ⟨inv3,⟨ktF (ktJ s.toks) (s2.toks + 3),fun _ => s.toks + 7,s2.toks + 1,ob3 (s.heap.objs.size,_) (.head _)⟩,ob3 (R,_) (.tail _ (.head _)),ob3 (s.heap.objs.size + 1,_) (.tail _ (.tail _ (.head _))),ob3 (s.heap.objs.size + 2,_) (.tail _ (.tail _ (.tail _ (.head _)))),
        ⟨0,by rw [show rs.extract 1 1 = #[] by simp; exact Nat.min_le_left _ _]; exact ob3 (s2.heap.objs.size,_) (.tail _ (.tail _ (.tail _ (.tail _ (.head _)))))⟩,⟨lo,aR,by lia,by lia,by lia⟩,nd5 ltR sF⟩
    refine xE2 (e_loop U (N7 := N7) (kk := kOf (jD2o w cx N7 s.heap.objs.size s.toks s.gens.size R S ep rs nn k k71 g lv pp rest (s.heap.objs.size + 1) (s.heap.objs.size + 2) 0 (s.toks + 5) s2.heap.objs.size s2.toks s2.gens.size (ktJ s.toks) (fun _ => s.toks + 7) pp2 z1 t1))
      (kk2 := kOf (jBo w cx N7 s.heap.objs.size s.toks s.gens.size R S ep rs nn k k71 g lv pp rest)) (k71 := k71) (k := k) (g := g) (lv := lv) hnn.symm hs (fun i v h1 hi => by obtain ⟨z,a,_⟩ := hstr i v h1 hi; exact ⟨z,a⟩) (rs.size - 1) (i := 1) (Nat.le_refl _) (by lia) P3 (posOf (jB2 w) 5)) fun s4 pp4 hxx => xA2 hxx fun P4 X4 G4 => ?_; clear hxx
    obtain ⟨inv4,⟨kt,ut,it,hN4⟩,hR4,hQ4,hM4,⟨epF,hF4⟩,aa,nd⟩ := id P4
    have hfs : (rs.extract 1 rs.size).toList.map strip0 = (y :: ys).map .s := by
      rw [Array.toList_extract]
      have : (rs.toList.map strip0).drop 1 = (y :: ys).map .s := by rw [hv]; rfl
      rw [← this,← List.map_drop]
      congr 1
      show (rs.toList.drop 1).take (rs.size - 1) = _
      rw [List.take_of_length_le (by simp)]
    obtain ⟨tf1,d1,hJ1⟩ := oeJoinT (w := w) (x := Str.empty) (a := s2.heap.objs.size) (idx := 4) (n := epF) hfs hl (by show _ ≤ 2 ^ 24; lia)
    have lsum : Builtin.Str.tooLong (([stS,Builtin.Str.glued Str.empty (y :: ys)] : List Str).toArray.foldl (· + ·.length + Str.empty.length) 0) = false := by
      unfold Builtin.Str.tooLong
      rw [List.foldl_toArray,foldl_len]
      have e1 : stS.length = 2 := rfl
      simp only [List.map_cons,List.map_nil,List.sum_cons,List.sum_nil,e1,decide_eq_false_iff_not]
      show ¬ _ > 2 ^ 24
      lia
    have glen : (Builtin.Str.glued Str.empty [stS,Builtin.Str.glued Str.empty (y :: ys)]).length = 2 + (Builtin.Str.glued Str.empty (y :: ys)).length := by
      rw [glued_len [stS,Builtin.Str.glued Str.empty (y :: ys)]]
      have e1 : stS.length = 2 := rfl
      simp only [List.map_cons,List.map_nil,List.sum_cons,List.sum_nil,e1]
      lia
    obtain ⟨tfj,dj,hJ⟩ := oeJoinT (w := w) (x := Str.empty) (a := s.heap.objs.size + 1) (idx := 2) (n := 0 + 1 + 1) (vs := #[.str stS (s4.toks + 1 + d1 + 1),.str (Builtin.Str.glued Str.empty (y :: ys)) (jT1 tf1 s4.toks s2.heap.objs.size)]) (ys := [stS,Builtin.Str.glued Str.empty (y :: ys)]) rfl lsum (by rw [glen]; show _ ≤ 2 ^ 24; lia)
    have e5 : OEk w (oeP "int.__eq__" [.i nn,.i nn] (fun _ => .bool true) 0) := oeEq (by simp)
    have l5 : OEk w (ltO nn nn false) := lt_ok (by simp)
    have h5 : ∀ z ∈ ([(0,ltO nn nn false),(1,oeSt "str.join" [.s Str.empty,.r s2.heap.objs.size] [(4,s2.heap.objs.size,Lo (rs.extract 1 rs.size) epF)] (Builtin.Str.glued Str.empty (y :: ys)) tf1 d1),(2,oeP "int.__eq__" [.i nn,.i nn] (fun _ => .bool true) 0),(3,oeApp 2 (s.heap.objs.size + 1) #[] 0 (.s stS)),
       (4,oeApp 2 (s.heap.objs.size + 1) #[.str stS (s4.toks + 1 + d1 + 1)] (0 + 1) (.s (Builtin.Str.glued Str.empty (y :: ys)))),(5,ltO nn nn false),(6,oeP "int.__eq__" [.i nn,.i nn] (fun _ => .bool true) 0),
       (7,oeSt "str.join" [.s Str.empty,.r (s.heap.objs.size + 1)] [(2,s.heap.objs.size + 1,Lo #[.str stS (s4.toks + 1 + d1 + 1),.str (Builtin.Str.glued Str.empty (y :: ys)) (jT1 tf1 s4.toks s2.heap.objs.size)] (0 + 1 + 1))] (Builtin.Str.glued Str.empty [stS,Builtin.Str.glued Str.empty (y :: ys)]) tfj dj)] : List (Nat × OE)),OEk w z.2 := by
      simp only [List.forall_mem_cons]
      exact ⟨l5,hJ1,e5,oeApp_ok (by simp),oeApp_ok (by simp; show _ ≤ 2 ^ 24; lia),l5,e5,hJ,fun _ h => nomatch h⟩
    have HX5 := jX2_end w cx N7 s.heap.objs.size s.toks s.gens.size R S ep rs nn k k71 g lv pp rest (s.heap.objs.size + 1) (s.heap.objs.size + 2) 0 (s.toks + 5) s2.heap.objs.size s2.toks s2.gens.size (ktJ s.toks) (fun _ => s.toks + 7) nn (Builtin.Str.glued Str.empty [stS,Builtin.Str.glued Str.empty (y :: ys)]) tfj dj pp2 z1 t1
      s2.heap.objs.size epF (rs.extract 1 rs.size) s4.heap.objs.size s4.toks s4.gens.size (Builtin.Str.glued Str.empty (y :: ys)) tf1 d1 pp4 kt ut it hx
    unfold jX2 at HX5
    refine segEp inv4 (P4.own hN4 hR4 hQ4 hM4 hF4) (p := pp4) (U2.cons (kOf (jD2o w cx N7 s.heap.objs.size s.toks s.gens.size R S ep rs nn k k71 g lv pp rest (s.heap.objs.size + 1) (s.heap.objs.size + 2) 0 (s.toks + 5) s2.heap.objs.size s2.toks s2.gens.size (ktJ s.toks) (fun _ => s.toks + 7) pp2 z1 t1)) false [] (jW2 w s.heap.objs.size) (posOf (jB2 w) 5)).w (hd := [none,none,none,none]) ⟨U.h,U.h,U.h,U.h,trivial⟩ (ch := []) (fun a vs e => (chNil e).elim) HX5 h5 glNil fun s5 pz4 X5 ob5 etk5 esz5 egz5 tb5 G5 => ?_
    have X5' : Ext (updE s.heap.objs.size R (s.heap.objs.size + 1) (s.heap.objs.size + 2) s2.heap.objs.size) s4 s5 := X5.mono fun q hq => by
      rcases hq with hq | ⟨vs,e⟩
      · exact upd_mem hq
      · exact (chNil e).elim
    obtain ⟨tk,n,p6,G6⟩ := j_fin2 (ob5 (s.heap.objs.size,_) (.head _)) rfl (by rw [glen]; show _ ≤ 2 ^ 24; lia)
    refine ⟨{ s5 with toks := n },tk,fin s5 tk n ((X3'.trans (X4.trans X5')).mono fun q hq => ?_),fun Z q => G1 Z (S1 Z (G2 Z (S2 Z (G3 Z (G4 Z (G5 Z (G6 Z ?_)))))))⟩
    · have up : updE s.heap.objs.size R (s.heap.objs.size + 1) (s.heap.objs.size + 2) s2.heap.objs.size q → q ∈ [s.heap.objs.size,R,s.heap.objs.size + 1,s.heap.objs.size + 2] ∨ s.heap.objs.size ≤ q := by
        intro h
        by_cases e : q = s2.heap.objs.size
        · right; rw [e]; exact Nat.le_of_lt (Nat.lt_of_le_of_lt (Nat.le_add_right _ 2) sF)
        · left
          unfold updE at h
          simp only [List.mem_cons,List.not_mem_nil,or_false] at h ⊢
          rcases h with h | h | h | h | h
          · exact .inl h
          · exact .inr (.inl h)
          · exact .inr (.inr (.inl h))
          · exact .inr (.inr (.inr h))
          · exact absurd h e
      rcases hq with h | h | h
      · exact .inl h
      · exact up h
      · exact up h
    · exact good_ret q
end
theorem updT3_new {z b : Nat} (h : b = z + 2 ∨ b = z + 3 ∨ b = z + 4) (lt : b < z) : False := by lia
section
variable {w : World} {cx : Cx} (hx : cx.dl = true) {k : Result → Sem Fin} {g : Bool} {lv : List Value} {rest : List Frame} (U : Und rest cx.sw)
include hx U
theorem tr_star {s : Shared} {x : Str} {t1 : Nat} {ts : List Tk} {warm : Bool} {c1 c2 : Nat} (I : Inv w s) (T : Tab s warm c1 c2) (hts : ∀ t ∈ ts,t.ok) (hxx : x.cps.toList = 42 :: ts.flatMap Tk.src) (hl : ts.length ≤ 100)
    (hsz : x.length ≤ 1000) (hJ : Builtin.Str.tooLong ((ts.map Tk.part).toArray.foldl (· + ·.length + Str.empty.length) 0) = false) (hJ2 : (Builtin.Str.glued Str.empty (ts.map Tk.part)).length ≤ 100000) (pp : Pos) :
    ∃ s' t' warm' c1' c2',Ext (fun b => b = 85) s s' ∧ Tab s' warm' c1' c2' ∧ ∀ Z,Good w Z s' ⟨k (.ok (.ret (.str (txtJ (starTxt (ts.map Tk.part))) t'))),cx.c,cx.p,rest⟩ →
      Good w Z s ⟨den (tCall t1 x),tCall t1 x,pp,.ret k none g lv cx.c cx.p [] :: rest⟩ := by
  refine gv fun GG hGG => ?_
  have lo := I.lo
  have U1 := U.cons k g lv cx.c cx.p
  refine segE I (own_nil (ro := 0)) (p := pp) U1.w (hd := [none,none]) ⟨U.h,U.h,trivial⟩ (ch := []) (fun a vs e => (chNil e).elim)
    (tA_end w cx s.heap.objs.size s.toks s.gens.size t1 x x.length k g lv pp rest hx)
    (by
      have : OEk w (oeLenV (.s x) [] x.length) := oeLenS2 rfl (by lia)
      have h4 : ∀ y ∈ ([(5,oeLenV (.s x) [] x.length)] : List (Nat × OE)),OEk w y.2 := by
        simp only [List.forall_mem_cons]; exact ⟨this,fun _ h => nomatch h⟩
      exact h4) glNil fun s1 X1 ob1 etk esz egz tb G1 => ?_
  have X1' : Ext (fun _ => False) s s1 := X1.mono fun q hq => by
    rcases hq with ⟨i,y,_,e,_⟩ | ⟨vs,e⟩
    · cases e
    · exact chNil e
  have P1 : TState w (s.heap.objs.size + 2) (s.heap.objs.size + 3) (s.heap.objs.size + 4) (s.heap.objs.size + 1) 0 x x.length 0 #[] s1 :=
    ⟨X1'.inv I fun q h => h.elim,⟨_,_,_,_,ob1 (s.heap.objs.size + 2,_) (.tail _ (.head _))⟩,⟨_,ob1 (s.heap.objs.size + 3,_) (.tail _ (.tail _ (.head _)))⟩,ob1 (s.heap.objs.size + 4,_) (.tail _ (.tail _ (.tail _ (.head _)))),by lia,by lia,by lia,by lia,by lia,by lia⟩
  have T1 : Tab s1 warm c1 c2 := X1'.keep 85 _ T (fun h => h)
  refine xE3 (sg_turn hx U (N7 := s.heap.objs.size) (p7 := p25) (kk := kOf (tAo w cx s.heap.objs.size s.toks s.gens.size t1 x x.length k g lv pp rest)) (k71 := k2Of (tAo w cx s.heap.objs.size s.toks s.gens.size t1 x x.length k g lv pp rest)) (k := k) (g7 := false) (l7 := [mkV]) (g := g) (lv := lv) (c := 2) (pre := []) (post := ts.flatMap Tk.src) P1
    (fun sz tk gz kt ut v it ep kk rest pp => stTurn w cx s.heap.objs.size p25 _ _ _ _ sz tk gz kt ut v it ep x _ _ kk rest pp hx) (by rw [hxx]; rfl) rfl rfl (by lia) (by simp) (tP w)) fun s1b v0 ppb hxxx => xA3 hxxx fun P1b ev0 X1b G1b => ?_; clear hxxx
  have ev0 := strip_r ev0
  have T1b : Tab s1b warm c1 c2 := X1b.keep 85 _ T1 (fun h => by have := lo; rcases h with h | h | h <;> lia)
  have L1 : x.length = 1 + (ts.flatMap Tk.src).length := by
    have := congrArg List.length hxx
    rw [Array.length_toList] at this
    show x.cps.size = _
    rw [this]; simp; lia
  refine xE7 (t_loop hx U (N7 := s.heap.objs.size) (p7 := p25) (kk := kOf (tAo w cx s.heap.objs.size s.toks s.gens.size t1 x x.length k g lv pp rest)) (k71 := k2Of (tAo w cx s.heap.objs.size s.toks s.gens.size t1 x x.length k g lv pp rest)) (k := k) (g7 := false) (l7 := [mkV]) (g := g) (lv := lv) ts hts P1b T1b (.inr (.inl rfl))
    (pre := [42]) (by rw [hxx]; rfl) rfl rfl (by lia) (by simp; show _ ≤ 2 ^ 24; lia) ppb) fun s2 rs pp2 warm2 d1 d2 sh hxxx => xA5 hxxx fun P2 hok ers T2 X2 G2 => ?_; clear hxxx
  have hrs : rs.toList.map strip0 = .r (s.heap.objs.size + 1) :: (ts.map Tk.part).map .s := by rw [ers,ev0]; simp; rfl
  have lrs : rs.size = ts.length + 1 := by
    have := congrArg List.length hrs
    simpa using this
  have s71 := X2.keep _ _ (X1b.keep _ _ (ob1 (s.heap.objs.size,_) (.head _)) (fun h => by rcases h with h | h | h <;> lia)) (updT_z lo)
  obtain ⟨inv2,⟨kt,ut,v,it,hN⟩,⟨ep,hR⟩,hM,aN,aR,aM,nr,nm,rm⟩ := P2
  have U2 := U1.cons (k2Of (tAo w cx s.heap.objs.size s.toks s.gens.size t1 x x.length k g lv pp rest)) false [mkV] (f71 w s.heap.objs.size) p25
  have sh3 : sh = 0 ∨ sh = 1 ∨ sh = 2 := by rcases hok with h | h | ⟨h,_⟩ <;> simp [h]
  have HX := tX_end w cx s.heap.objs.size s.toks s.gens.size t1 x x.length k g lv pp rest (s.heap.objs.size + 2) (s.heap.objs.size + 3) (s.heap.objs.size + 4) (s.heap.objs.size + 1) s2.heap.objs.size s2.toks s2.gens.size ep it sh kt ut (fun j => s.toks + j) v rs pp2 x.length rfl hx sh3
  have O2 : OwnL 0 [(s.heap.objs.size + 2,tF w sh kt ut v x (s.heap.objs.size + 1) (s.heap.objs.size + 3) (s.heap.objs.size + 4) x.length x.length it),(s.heap.objs.size + 3,Lo rs ep),(s.heap.objs.size + 4,tM (s.heap.objs.size + 3)),(s.heap.objs.size,fr7 w t1 x (fun j => s.toks + j) (s.heap.objs.size + 1) [] 2)] s2.heap :=
    own_nodup (by simp only [List.forall_mem_cons]; exact ⟨⟨aN,hN⟩,⟨aR,hR⟩,⟨aM,hM⟩,⟨lo,s71⟩,fun _ h => nomatch h⟩) nd4t
  have h4 : ∀ y ∈ ([(0,ltO (x.length : Int) x.length false),(1,oeP "int.__eq__" [.i (x.length : Int),.i x.length] (fun _ => .bool true) 0)] : List (Nat × OE)),OEk w y.2 := by
    simp only [List.forall_mem_cons]
    exact ⟨lt_ok (by simp),oeEq (by simp),fun _ h => nomatch h⟩
  refine segE inv2 O2 (p := pp2) ((U2.cons (kOf (tAo w cx s.heap.objs.size s.toks s.gens.size t1 x x.length k g lv pp rest)) false [] (.func (tB w) (tE w (s.heap.objs.size + 2))) (tP w)).w) (hd := [none,none,none,none]) ⟨U.h,U.h,U.h,U.h,trivial⟩ (ch := []) (fun a vs e => (chNil e).elim) HX h4 glNil fun s3 X3 ob3 etk3 esz3 egz3 tb3 G3 => ?_
  have X3' : Ext (fun b => b ∈ [s.heap.objs.size + 2,s.heap.objs.size + 3,s.heap.objs.size + 4,s.heap.objs.size]) s2 s3 := X3.mono fun q hq => by
    rcases hq with hq | ⟨vs,e⟩
    · exact upd_mem hq
    · exact (chNil e).elim
  have inv3 : Inv w s3 := X3'.inv inv2 fun q h => .inl (Nat.le_trans lo (Nat.not_lt.mp fun lt => upd4t h lt))
  refine xE2 (join_star hx U (N7 := s.heap.objs.size) (S := s.heap.objs.size + 1) (k71 := kOf (tXo w cx s.heap.objs.size s.toks s.gens.size t1 x x.length k g lv pp rest (s.heap.objs.size + 2) (s.heap.objs.size + 3) (s.heap.objs.size + 4) (s.heap.objs.size + 1) s2.heap.objs.size s2.toks s2.gens.size ep it sh kt ut (fun j => s.toks + j) v rs pp2 x.length)) (k := k) (g := g) (lv := lv)
    inv3 aR (ob3 (s.heap.objs.size + 3,_) (.head _)) (by lia) hrs rfl hJ hJ2 (tXo w cx s.heap.objs.size s.toks s.gens.size t1 x x.length k g lv pp rest (s.heap.objs.size + 2) (s.heap.objs.size + 3) (s.heap.objs.size + 4) (s.heap.objs.size + 1) s2.heap.objs.size s2.toks s2.gens.size ep it sh kt ut (fun j => s.toks + j) v rs pp2 x.length).p) fun s4 tj hxxx => xA1 hxxx fun X4 G4 => ?_; clear hxxx
  have inv4 : Inv w s4 := X4.inv inv3 fun q h => .inl (by subst h; exact aR)
  have HZ := tZ_end w cx s.heap.objs.size s.toks s.gens.size t1 x x.length k g lv pp rest (s.heap.objs.size + 2) (s.heap.objs.size + 3) (s.heap.objs.size + 4) (s.heap.objs.size + 1) s2.heap.objs.size s2.toks s2.gens.size ep it sh kt ut (fun j => s.toks + j) v rs pp2 x.length (txtJ (starTxt (ts.map Tk.part))) tj s4.heap.objs.size s4.toks s4.gens.size rfl hx sh3
  refine segRE inv4 (own_nil (ro := 0)) (p := p26) U1.w (hd := [none,none]) ⟨U.h,U.h,trivial⟩ (ch := []) (fun a vs e => (chNil e).elim) HZ (fun _ h => nomatch h) fun s5 v5 hv5 X5 _ _ G5 => ?_
  obtain ⟨t',rfl⟩ := strip_s hv5
  have T3 : Tab s3 warm2 d1 d2 := X3'.keep 85 _ T2 (fun h => upd4t h (by lia))
  have T4 : Tab s4 warm2 d1 d2 := X4.keep 85 _ T3 (fun h => by lia)
  have K5 : ∀ b o,s4.heap.get? b = some o → s5.heap.get? b = some o := fun b o e => X5.keep b o e fun hq => by
    rcases hq with ⟨i,y,_,e,_⟩ | ⟨vs,e⟩
    · cases e
    · exact chNil e
  refine hGG (yE5 s5 t' warm2 d1 d2 ⟨⟨fun b o e nb => K5 b o (X4.keep b o (X3'.keep b o (X2.keep b o (X1b.keep b o (X1'.keep b o e fun h => h) fun h => updT3_new h (Heap.lt_size e)) fun h => updT_new h (Heap.lt_size e) nb) fun h => upd4t h (Heap.lt_size e)) fun h => upd4t (z := s.heap.objs.size) (h ▸ (.tail _ (.head _))) (Heap.lt_size e)),
    Nat.le_trans X1.size (Nat.le_trans X1b.size (Nat.le_trans X2.size (Nat.le_trans X3.size (Nat.le_trans X4.size X5.size)))),X5.gens,X5.os.trans (X4.os.trans (X3.os.trans (X2.os.trans (X1b.os.trans X1.os)))),X5.drawn.trans (X4.drawn.trans (X3.drawn.trans (X2.drawn.trans (X1b.drawn.trans X1.drawn)))),X5.life.trans (X4.life.trans (X3.life.trans (X2.life.trans (X1b.life.trans X1.life))))⟩,
    K5 _ _ T4,fun Z q => G1 Z (G1b Z (G2 Z (G3 Z (G4 Z (G5 Z q)))))⟩)
end
noncomputable def tkOf (p d f : Nat) : Tk := if f = 0 then .s 0 else if f + 1 = p then .s 1 else if d = 0 then .br false 48 (48 + f) else .br true (49 + f) (47 + p)
noncomputable def tksOf (p d z : Nat) (fs : List Nat) (e : Int) : List Tk := (if e = -1 then [] else List.replicate (z - fs.length) (.s 0)) ++ fs.reverse.map (tkOf p d)
theorem glued_cps (l : List Str) : (Builtin.Str.glued Str.empty l).cps.toList = l.flatMap (fun x => x.cps.toList) := by
  have go : ∀ (l : List Str) (acc : Array Nat),(l.foldl (fun acc p => acc ++ Str.empty.cps ++ p.cps) acc).toList = acc.toList ++ l.flatMap (fun x => x.cps.toList) := by
    intro l
    induction l with
    | nil => intro acc; simp
    | cons x l ih =>
      intro acc
      rw [List.foldl_cons,ih]
      have : Str.empty.cps.toList = [] := rfl
      simp [this,List.flatMap_cons]
  match l with
  | [] => rfl
  | x :: l =>
    show ((l.foldl (fun acc p => acc ++ Str.empty.cps ++ p.cps) x.cps).toList) = _
    rw [go]
    rfl
theorem piece_tk : ∀ x ∈ pdfs,(pieceT x.1 x.2.1 x.2.2).cps.toList = (tkOf x.1 x.2.1 x.2.2).src ∧ (tkOf x.1 x.2.1 x.2.2).ok ∧ (tkOf x.1 x.2.1 x.2.2).part.cps.toList = (tkOf x.1 x.2.1 x.2.2).cs := by
  intro x hx
  simp only [pdfs,List.mem_cons,List.not_mem_nil,or_false] at hx
  rcases hx with rfl | rfl | rfl | rfl | rfl | rfl | rfl | rfl | rfl | rfl | rfl | rfl | rfl | rfl | rfl | rfl | rfl | rfl | rfl | rfl | rfl | rfl | rfl | rfl | rfl | rfl | rfl | rfl | rfl | rfl | rfl | rfl | rfl | rfl <;>
    (refine ⟨rfl,?_,rfl⟩; first | exact .inl rfl | exact .inr rfl | (show _ ∈ _; decide))
theorem tks_len (p d z : Nat) (fs : List Nat) (e : Int) : (tksOf p d z fs e).length = if e = -1 then fs.length else max z fs.length := by
  unfold tksOf
  split <;> simp
  lia
section
variable {p d z : Nat} {fs : List Nat} {e : Int} (hm : ∀ f ∈ fs,(p,d,f) ∈ pdfs)
include hm
theorem tks_ok : ∀ t ∈ tksOf p d z fs e,t.ok ∧ t.part.cps.toList = t.cs := by
  intro t ht
  rcases List.mem_append.1 ht with h | h
  · split at h
    · cases h
    · obtain rfl := (List.mem_replicate.1 h).2
      exact ⟨.inl rfl,rfl⟩
  · obtain ⟨f,hf,rfl⟩ := List.mem_map.1 h
    exact (piece_tk _ (hm f (List.mem_reverse.1 hf))).2
theorem rep_cps (k : Nat) : (mulS ⟨#[48]⟩ (k : Int)).cps.toList = (List.replicate k (Tk.s 0)).flatMap Tk.src := by
  unfold mulS
  have : ∀ (k : Nat) (acc : Array Nat),((List.replicate k (#[48] : Array Nat)).foldl (· ++ ·) acc).toList = acc.toList ++ (List.replicate k (Tk.s 0)).flatMap Tk.src := by
    intro k
    induction k with
    | zero => intro acc; simp
    | succ k ih =>
      intro acc
      rw [List.replicate_succ,List.foldl_cons,ih,List.replicate_succ,List.flatMap_cons,Array.toList_append,List.append_assoc]
      rfl
  show ((List.replicate ((k : Int)).toNat (#[48] : Array Nat)).foldl (· ++ ·) #[]).toList = _
  rw [this]
  rfl
theorem pat_src : (patS p d z fs e).cps.toList = (if e = -1 then [42] else []) ++ (tksOf p d z fs e).flatMap Tk.src := by
  have ap : ∀ x y : Str,(x ++ y).cps.toList = x.cps.toList ++ y.cps.toList := fun x y => Array.toList_append
  have e2 : (Builtin.Str.glued Str.empty (fs.reverse.map (pieceT p d))).cps.toList = (fs.reverse.map (tkOf p d)).flatMap Tk.src := by
    rw [glued_cps]
    have : ∀ l : List Nat,(∀ f ∈ l,f ∈ fs) → (l.map (pieceT p d)).flatMap (fun x => x.cps.toList) = (l.map (tkOf p d)).flatMap Tk.src := by
      intro l
      induction l with
      | nil => intro _; rfl
      | cons f l ih =>
        intro h
        rw [List.map_cons,List.map_cons,List.flatMap_cons,List.flatMap_cons,ih fun f hf => h f (.tail _ hf),(piece_tk _ (hm f (h f (.head _)))).1]
    exact this _ fun f hf => List.mem_reverse.1 hf
  unfold patS tksOf
  rw [ap,e2,List.flatMap_append]
  split
  · rfl
  · rw [← List.append_assoc,List.nil_append]
    congr 1
    have : mulS ⟨#[48]⟩ ((z : Int) - fs.length) = mulS ⟨#[48]⟩ ((z - fs.length : Nat) : Int) := by
      unfold mulS
      have : ((z : Int) - fs.length).toNat = (((z - fs.length : Nat) : Int)).toNat := by lia
      rw [this]
    rw [this]
    exact rep_cps hm _
end
theorem parts_cps {ts : List Tk} (h : ∀ t ∈ ts,t.part.cps.toList = t.cs) : (Builtin.Str.glued Str.empty (ts.map Tk.part)).cps.toList = ts.flatMap Tk.cs := by
  rw [glued_cps]
  induction ts with
  | nil => rfl
  | cons t ts ih => rw [List.map_cons,List.flatMap_cons,List.flatMap_cons,ih fun t ht => h t (.tail _ ht),h t (.head _)]
theorem cs_len (t : Tk) : t.cs.length ≤ 6 := by
  match t with
  | .s 0 => decide
  | .s (_ + 1) => exact (by decide : 1 ≤ 6)
  | .br false _ _ => exact (by decide : 5 ≤ 6)
  | .br true _ _ => exact (by decide : 6 ≤ 6)
theorem src_len (t : Tk) : t.src.length ≤ 6 := by
  match t with
  | .s _ => exact (by decide : 1 ≤ 6)
  | .br false _ _ => exact (by decide : 5 ≤ 6)
  | .br true _ _ => exact (by decide : 6 ≤ 6)
theorem flat_len {f : Tk → List Nat} (hf : ∀ t,(f t).length ≤ 6) : ∀ ts : List Tk,(ts.flatMap f).length ≤ 6 * ts.length
  | [] => Nat.le_refl _
  | t :: ts => by
    have := flat_len hf ts
    have := hf t
    rw [List.flatMap_cons,List.length_append,List.length_cons]
    lia
theorem sum_parts {ts : List Tk} (h : ∀ t ∈ ts,t.part.cps.toList = t.cs) : ((ts.map Tk.part).map (fun y : Str => y.length)).sum ≤ 6 * ts.length := by
  induction ts with
  | nil => exact Nat.le_refl _
  | cons t ts ih =>
    have i := ih fun t ht => h t (.tail _ ht)
    have e : t.part.length = t.cs.length := by rw [← h t (.head _),Array.length_toList]; rfl
    have := cs_len t
    simp only [List.map_cons,List.sum_cons,List.length_cons]
    lia
theorem parts_short {ts : List Tk} (h : ∀ t ∈ ts,t.part.cps.toList = t.cs) (hl : ts.length ≤ 30) : Builtin.Str.tooLong ((ts.map Tk.part).toArray.foldl (· + ·.length + Str.empty.length) 0) = false := by
  unfold Builtin.Str.tooLong
  rw [List.foldl_toArray,foldl_len]
  have := sum_parts h
  rw [decide_eq_false_iff_not]
  show ¬ _ > 2 ^ 24
  lia
theorem txtJ_cps (x : Str) : (txtJ x).cps.toList = [40,63,115,58] ++ (x.cps.toList ++ [41,92,90]) := by
  have ap : ∀ x y : Str,(x ++ y).cps.toList = x.cps.toList ++ y.cps.toList := fun x y => Array.toList_append
  unfold txtJ
  rw [ap,ap,ap]
  have a : Str.empty.cps.toList = [] := rfl
  have b : ("(?s:" : Str).cps.toList = [40,63,115,58] := by rfl
  have c : (")\\Z" : Str).cps.toList = [41,92,90] := by rfl
  rw [a,b,c]
  simp
theorem starTxt_cps {ts : List Tk} (h : ∀ t ∈ ts,t.part.cps.toList = t.cs) : (starTxt (ts.map Tk.part)).cps.toList = [46,42] ++ ts.flatMap Tk.cs := by
  match ts,h with
  | [],_ => rfl
  | t :: ts,h =>
    show (Builtin.Str.glued Str.empty [stS,Builtin.Str.glued Str.empty ((t :: ts).map Tk.part)]).cps.toList = _
    rw [glued_cps,List.flatMap_cons,List.flatMap_cons,parts_cps h]
    simp [stS]
theorem strL (x : Str) : x.length = x.cps.toList.length := by rw [Array.length_toList]; rfl
section
variable {w : World} {cx : Cx} (hx : cx.dl = true) {k : Result → Sem Fin} {g : Bool} {lv : List Value} {rest : List Frame} (U : Und rest cx.sw)
include hx U
theorem tr_any {s : Shared} {p d z : Nat} {fs : List Nat} {e : Int} {t1 : Nat} {warm : Bool} {c1 c2 : Nat} (I : Inv w s) (T : Tab s warm c1 c2) (hm : ∀ f ∈ fs,(p,d,f) ∈ pdfs) (hl : (tksOf p d z fs e).length ≤ 30) (pp : Pos) :
    ∃ s' t' warm' c1' c2' y,Ext (fun b => b = 85) s s' ∧ Tab s' warm' c1' c2' ∧ y.cps.toList = [40,63,115,58] ++ (starP (decide (e = -1)) ++ ((tksOf p d z fs e).flatMap Tk.cs ++ [41,92,90])) ∧ y.length ≤ 2 ^ 24 ∧
      ∀ Z,Good w Z s' ⟨k (.ok (.ret (.str y t'))),cx.c,cx.p,rest⟩ → Good w Z s ⟨den (tCall t1 (patS p d z fs e)),tCall t1 (patS p d z fs e),pp,.ret k none g lv cx.c cx.p [] :: rest⟩ := by
  have ok := tks_ok (z := z) (e := e) hm
  have src := pat_src (z := z) (e := e) hm
  have f1 := flat_len src_len (tksOf p d z fs e)
  have f2 := flat_len cs_len (tksOf p d z fs e)
  have pc := parts_cps fun t ht => (ok t ht).2
  have ls : (patS p d z fs e).length ≤ 1000 := by
    rw [strL,src,List.length_append]
    have : (if e = -1 then [42] else [] : List Nat).length ≤ 1 := by split <;> decide
    lia
  have lp : (Builtin.Str.glued Str.empty ((tksOf p d z fs e).map Tk.part)).length ≤ 180 := by rw [strL,pc]; lia
  have short := parts_short (fun t ht => (ok t ht).2) hl
  by_cases he : e = -1
  · rw [if_pos he] at src
    refine xE5 (tr_star hx U (t1 := t1) (k := k) (g := g) (lv := lv) I T (fun t ht => (ok t ht).1) src (by lia) ls short (by lia) pp) fun s' t' w' a b hxx => xA2 hxx fun X T' G => ?_; clear hxx
    refine ⟨s',t',w',a,b,_,X,T',?_,?_,G⟩
    · rw [txtJ_cps,starTxt_cps fun t ht => (ok t ht).2,he]
      rfl
    · rw [strL,txtJ_cps,starTxt_cps fun t ht => (ok t ht).2]
      simp only [List.length_append,List.length_cons,List.length_nil]
      lia
  · rw [if_neg he] at src
    refine xE5 (tr_plain hx U (t1 := t1) (k := k) (g := g) (lv := lv) I T (fun t ht => (ok t ht).1) src (by lia) ls short (by show _ ≤ 2 ^ 24; lia) pp) fun s' t' w' a b hxx => xA2 hxx fun X T' G => ?_; clear hxx
    refine ⟨s',t',w',a,b,_,X,T',?_,?_,G⟩
    · rw [txtJ_cps,pc,decide_eq_false he]
      rfl
    · rw [strL,txtJ_cps,pc]
      simp only [List.length_append,List.length_cons,List.length_nil]
      lia
end
theorem digs_ex {p : Nat} (hp : 2 ≤ p ∧ p ≤ 7) : ∀ (b : Nat) (n : Int),-(2 ^ b : Int) ≤ n → n < 2 ^ b → ∃ fs e,Digs p n fs e ∧ fs.length ≤ b ∧ (∀ f ∈ fs,f < p) ∧ (e = 0 ∨ e = -1)
  | 0,n,h1,h2 => by
    have : n = 0 ∨ n = -1 := by
      have a : (2 ^ 0 : Int) = 1 := rfl
      lia
    rcases this with rfl | rfl
    · exact ⟨[],0,.zero,Nat.le_refl _,(fun _ h => nomatch h),.inl rfl⟩
    · exact ⟨[],-1,.neg,Nat.le_refl _,(fun _ h => nomatch h),.inr rfl⟩
  | b + 1,n,h1,h2 => by
    by_cases z : n = 0
    · subst z; exact ⟨[],0,.zero,Nat.zero_le _,(fun _ h => nomatch h),.inl rfl⟩
    by_cases y : n = -1
    · subst y; exact ⟨[],-1,.neg,Nat.zero_le _,(fun _ h => nomatch h),.inr rfl⟩
    have p0 : (0 : Int) < p := by lia
    have e1 := Int.mul_fdiv_add_fmod n p
    have r0 := Int.fmod_nonneg_of_pos n p0
    have r1 := Int.fmod_lt_of_pos n p0
    have pw : (2 ^ (b + 1) : Int) = 2 * 2 ^ b := by rw [Int.pow_succ]; lia
    rw [pw] at h1 h2
    have pp : (0 : Int) < 2 ^ b := Int.pow_pos (by decide)
    generalize hmm : n.fdiv p = m at *
    generalize hr : n.fmod p = r at *
    have p2 : (2 : Int) ≤ p := by lia
    have b1 : -(2 ^ b : Int) ≤ m := by
      apply Classical.byContradiction
      intro h
      have h : m ≤ -(2 ^ b : Int) - 1 := by lia
      have := Int.mul_le_mul_of_nonneg_left h (Int.le_of_lt p0)
      have q : (p : Int) * (-(2 ^ b : Int) - 1) = -((p : Int) * 2 ^ b) - p := by rw [Int.mul_sub,Int.mul_neg,Int.mul_one]
      have u := Int.mul_le_mul_of_nonneg_right p2 (Int.le_of_lt pp)
      lia
    have b2 : m < 2 ^ b := by
      apply Classical.byContradiction
      intro h
      have h : (2 ^ b : Int) ≤ m := by lia
      have := Int.mul_le_mul_of_nonneg_left h (Int.le_of_lt p0)
      have u := Int.mul_le_mul_of_nonneg_right p2 (Int.le_of_lt pp)
      lia
    refine xE2 (digs_ex hp b m b1 b2) fun fs e hxx => xA3 hxx fun D hl hf he => ?_; clear hxx
    refine ⟨r.toNat :: fs,e,.step z y (by lia) (noPy ?_) ?_,by rw [List.length_cons]; lia,?_,he⟩
    · have : (p : Int).natAbs = p := by lia
      rw [this]
      have : p.log2 < 3 := (Nat.log2_lt (by lia)).2 (Nat.lt_of_le_of_lt hp.2 (by decide))
      lia
    · rw [hmm]; exact D
    · intro f h
      rcases List.mem_cons.1 h with rfl | h
      · lia
      · exact hf f h
theorem pdfs_of {p d : Nat} (hp : p ∈ [2,3,5,7]) (hd : d < 2) {f : Nat} (hf : f < p) : (p,d,f) ∈ pdfs := by
  have : ∀ p ∈ [2,3,5,7],∀ d < 2,∀ f < p,(p,d,f) ∈ pdfs := by decide
  exact this p hp d hd f hf
inductive IsS8 (w : World) : Cf → Prop
  | mk (sz tk gz k0 k1 k2 k3 oa td tn tp : Nat) (d n p : Int) (pp : Pos) (x : Str) (tx sz2 tk2 gz2 : Nat) (pp2 : Pos) (y : Str) (ty sz3 tk3 gz3 : Nat) (pp3 : Pos) (T Li sz4 tk4 gz4 kp tpt : Nat) (star : Bool) (pp4 : Pos) : IsS8 w (s8o w sz tk gz k0 k1 k2 k3 oa td tn tp d n p pp x tx sz2 tk2 gz2 pp2 y ty sz3 tk3 gz3 pp3 T Li sz4 tk4 gz4 kp tpt star pp4)
noncomputable def cxD (w : World) (q : Pos) : Cx := .D (lB w) (lEv w) q
theorem cxD_c (w : World) (q : Pos) : (cxD w q).c = lFn w := (lFn_eq w).symm
theorem cxD_sw (w : World) (q : Pos) : (cxD w q).sw = lSw w := (lSw_eq w).symm
theorem h5 {w : World} {s : Shared} {k0 k1 k2 k3 td tn tp p d c1 c2 r t0 t1 t2 : Nat} {b0 b1 b2 n e : Int} {fs : List Nat} {warm : Bool} (I : Inv w s) (hN : s.heap.get? 269 = some (frL4 w k0 k1 k2 k3 295 td tn d n)) (hP : s.heap.get? 271 = some (Cel (.int p tp)))
    (h72 : s.heap.get? 272 = some cel0) (h73 : s.heap.get? 273 = some cel0) (hO : s.heap.get? 295 = some (Lo (octs r b0 b1 b2 t0 t1 t2) 0)) (Tb : Tab s warm c1 c2) (D : Digs p n fs e) (hp : p ∈ [2,3,5,7]) (hd : d < 2) (hf : ∀ f ∈ fs,f < p) (hl : fs.length ≤ 26) (pp : Pos) :
    ∃ s' A it Li hi vs ep warm' c1' c2' pp',IsS8 w A ∧ 296 ≤ it ∧ 296 ≤ Li ∧ hi ≤ it ∧ it ≠ Li ∧ KState w it Li hi ep p 295 r t0 t1 t2 (decide (e = -1)) d b0 b1 b2 vs ((tksOf p d 5 fs e).map Tk.item) 0 0 25 1 s' ∧ Tab s' warm' c1' c2' ∧ Ext (fun b => b = 85 ∨ b = 269 ∨ b = 272 ∨ b = 273) s s' ∧
      Und (frS A (lFn w) (lSt w)) [(lFn w,frPos A),callerC] ∧ HOk (frS A (lFn w) (lSt w)) [none,none] ∧
      ∀ Z,Good w Z s' ⟨den (lF w it),lF w it,pp',frS A (lFn w) (lSt w)⟩ → Good w Z s ⟨lT w 4,lFn w,pp,lSt w⟩ := by
  refine gv fun GG hGG => ?_
  have p0 : (p : Int) ≠ 0 := by
    have : p ≠ 0 := by intro h; subst h; simp at hp
    lia
  have hm : ∀ f ∈ fs,(p,d,f) ∈ pdfs := fun f h => pdfs_of hp hd (hf f h)
  have tl : (tksOf p d 5 fs e).length ≤ 30 := by rw [tks_len]; split <;> lia
  have lo : 296 ≤ s.heap.objs.size := Heap.lt_size hO
  have UL : Und (lSt w) (lSw w) := ⟨lSt_sw w,lSt_h w⟩
  have H5 := s5_end w s.heap.objs.size s.toks s.gens.size k0 k1 k2 k3 295 td tn tp n pp p d
  unfold S5End at H5
  have O5 : OwnL 0 [(269,frL4 w k0 k1 k2 k3 295 td tn d n),(271,Cel (.int p tp))] s.heap :=
    own_nodup (by simp only [List.forall_mem_cons]; exact ⟨⟨by lia,hN⟩,⟨by lia,hP⟩,fun _ h => nomatch h⟩) (by show [269,271].Nodup; decide)
  refine segCE (f := s5 w s.heap.objs.size s.toks s.gens.size k0 k1 k2 k3 295 td tn tp d n p pp) rfl I O5 (lSt_sw w) (lHd w) (fun a vs e => (chNil e).elim) H5 (fun _ h => nomatch h) glNil fun s1 X1 ob1 _ _ _ _ G1 => ?_
  try dsimp only at X1 ob1 G1
  have X1' : Ext (fun _ => False) s s1 := X1.drop fun b o e hu _ => by
    rcases hu with hu | ⟨vs,e⟩
    · have := upd_mem hu
      simp only [List.map_cons,List.map_nil,List.mem_cons,List.not_mem_nil,or_false] at this
      rcases this with h | h
      · rw [h] at e ⊢; rw [hN] at e; cases e; exact ob1 (269,_) (.head _)
      · rw [h] at e ⊢; rw [hP] at e; cases e; exact ob1 (271,_) (.tail _ (.head _))
    · exact (chNil e).elim
  have I1 := X1'.inv I fun _ h => h.elim
  generalize hA : s5o w s.heap.objs.size s.toks s.gens.size k0 k1 k2 k3 295 td tn tp d n p pp = A at G1
  refine xE2 (pat_call (cx := cxD w (frPos A)) (z := 5) (p := p) (d := d) (k := kOf A) (g := frG A) (lv := frL A) (rest := lSt w) rfl (by rw [cxD_sw]; exact UL) I1 (t1 := tn) (t2 := tp) (t3 := s.toks) (t4 := td) D p0 hm (by lia) (by lia) (by lia) A.p) fun s2 v2 hx => xA2 hx fun hv2 X2 G2 => ?_; clear hx
  obtain ⟨tx,rfl⟩ := strip_s hv2
  have I2 := X2.inv I1 fun _ h => h.elim
  rw [cxD_c] at G2
  have X02 : Ext (fun _ => False) s s2 := (X1'.trans X2).mono fun b h => h.elim id id
  have H6 := s6_end w s.heap.objs.size s.toks s.gens.size k0 k1 k2 k3 295 td tn tp d n p pp (patS p d 5 fs e) tx s2.heap.objs.size s2.toks s2.gens.size (frPos A)
  unfold S6End at H6
  refine segCE (f := s6 w s.heap.objs.size s.toks s.gens.size k0 k1 k2 k3 295 td tn tp d n p pp (patS p d 5 fs e) tx s2.heap.objs.size s2.toks s2.gens.size (frPos A)) rfl I2 (own1 (ro := 0) (by lia) (X02.same hN)) (lSt_sw w) (lHd w) (fun a vs e => (chNil e).elim) H6 (fun _ h => nomatch h) glNil fun s3 X3 ob3 _ _ _ _ G3 => ?_
  try dsimp only at X3 ob3 G3
  have X3' : Ext (fun b => b = 269) s2 s3 := X3.mono fun b hb => by
    rcases hb with hb | ⟨vs,e⟩
    · have := upd_mem hb
      simpa using this
    · exact (chNil e).elim
  have I3 := X3'.inv I2 fun b hb => .inl (by rw [hb]; lia)
  have N3 := ob3 (269,_) (.head _)
  have T3 : Tab s3 warm c1 c2 := X3'.keep _ _ (X02.same Tb) (by decide)
  generalize hB : s6o w s.heap.objs.size s.toks s.gens.size k0 k1 k2 k3 295 td tn tp d n p pp (patS p d 5 fs e) tx s2.heap.objs.size s2.toks s2.gens.size (frPos A) = B at G3
  refine xE6 (tr_any (cx := cxD w (frPos B)) (k := kOf B) (g := frG B) (lv := frL B) (rest := lSt w) (t1 := tx) rfl (by rw [cxD_sw]; exact UL) I3 T3 hm tl B.p) fun s4 ty warm' c1' c2' y hx => xA4 hx fun X4 T4 ey ly G4 => ?_; clear hx
  have I4 := X4.inv I3 fun b hb => .inr (.inl hb)
  rw [cxD_c] at G4
  have H7 := s7_end w s.heap.objs.size s.toks s.gens.size k0 k1 k2 k3 295 td tn tp d n p pp (patS p d 5 fs e) tx s2.heap.objs.size s2.toks s2.gens.size (frPos A) y ty s4.heap.objs.size s4.toks s4.gens.size (frPos B)
  unfold S7End at H7
  refine segCE (f := s7 w s.heap.objs.size s.toks s.gens.size k0 k1 k2 k3 295 td tn tp d n p pp (patS p d 5 fs e) tx s2.heap.objs.size s2.toks s2.gens.size (frPos A) y ty s4.heap.objs.size s4.toks s4.gens.size (frPos B)) rfl I4 (own_nil (ro := 0)) (lSt_sw w) (lHd w) (fun a vs e => (chNil e).elim) H7 (fun _ h => nomatch h) glNil fun s5 X5 _ _ _ _ _ G5 => ?_
  try dsimp only at X5 G5
  have X5' : Ext (fun _ => False) s4 s5 := X5.mono fun q hq => by
    rcases hq with ⟨i,y,_,e,_⟩ | ⟨vs,e⟩
    · cases e
    · exact chNil e
  have I5 := X5'.inv I4 fun _ h => h.elim
  generalize hC : s7o w s.heap.objs.size s.toks s.gens.size k0 k1 k2 k3 295 td tn tp d n p pp (patS p d 5 fs e) tx s2.heap.objs.size s2.toks s2.gens.size (frPos A) y ty s4.heap.objs.size s4.toks s4.gens.size (frPos B) = C at G5
  refine xE5 (i_call (cx := cxD w (frPos C)) (k := kOf C) (g := frG C) (lv := frL C) (rest := lSt w) (t1 := ty) rfl (by rw [cxD_sw]; exact UL) I5 ey (by lia) ly C.p) fun s6 T Li ep vs hx => xA6 hx fun X6 lLi hLi ltT hT its G6 => ?_; clear hx
  have I6 := X6.inv I5 fun _ h => h.elim
  rw [cxD_c] at G6
  have lo5 : 296 ≤ s5.heap.objs.size := Nat.le_trans lo (Nat.le_trans X02.size (Nat.le_trans X3'.size (Nat.le_trans X4.size X5'.size)))
  have X36 : Ext (fun b => b = 85) s3 s6 := ((X4.trans X5').trans X6).mono fun b h => by
    rcases h with (h | h) | h
    · exact h
    · exact h.elim
    · exact h.elim
  have X06 : Ext (fun b => b = 85 ∨ b = 269) s s6 := ((X02.trans X3').trans X36).mono fun b h => by
    rcases h with (h | h) | h
    · exact h.elim
    · exact .inr h
    · exact .inl h
  have N6 := X36.keep _ _ N3 (show ¬ (269 : Nat) = 85 by decide)
  have P6 := X06.keep _ _ hP (by decide)
  have g72 := X06.keep _ _ h72 (by decide)
  have g73 := X06.keep _ _ h73 (by decide)
  have O6 := X06.keep _ _ hO (by decide)
  have T6 : Tab s6 warm' c1' c2' := X6.same (X5'.same T4)
  have ltT6 : T < s6.heap.objs.size := Heap.lt_size hT
  have H8 := s8_end w s.heap.objs.size s.toks s.gens.size k0 k1 k2 k3 295 td tn tp d n p pp (patS p d 5 fs e) tx s2.heap.objs.size s2.toks s2.gens.size (frPos A) y ty s4.heap.objs.size s4.toks s4.gens.size (frPos B) T Li s6.heap.objs.size s6.toks s6.gens.size s2.toks tx (decide (e = -1)) (frPos C)
  unfold S8End at H8
  have O8 : OwnL 0 [(269,frL5 w k0 k1 k2 k3 s2.toks 295 td tn d n (patS p d 5 fs e) tx),(272,cel0),(273,cel0),(T,Tup [.bool (decide (e = -1)),.ref Li])] s6.heap :=
    own_nodup (by simp only [List.forall_mem_cons]; exact ⟨⟨by lia,N6⟩,⟨by lia,g72⟩,⟨by lia,g73⟩,⟨by lia,hT⟩,fun _ h => nomatch h⟩) (by
      show [269,272,273,T].Nodup
      simp only [List.nodup_cons,List.mem_cons,List.not_mem_nil,or_false,not_or,List.nodup_nil,and_true,not_false_eq_true]; lia)
  refine segCW (f := s8 w s.heap.objs.size s.toks s.gens.size k0 k1 k2 k3 295 td tn tp d n p pp (patS p d 5 fs e) tx s2.heap.objs.size s2.toks s2.gens.size (frPos A) y ty s4.heap.objs.size s4.toks s4.gens.size (frPos B) T Li s6.heap.objs.size s6.toks s6.gens.size s2.toks tx (decide (e = -1)) (frPos C)) rfl I6 O8 (lSt_sw w) (lHd w) (fun a vs e => (chNil e).elim) H8 (fun _ h => nomatch h) glNil fun q0 s7 X7 ob7 _ esz _ _ G7 => ?_; obtain ⟨W1,W2⟩ := q0
  rw [show out (En0 w 0) 104 (s8 w s.heap.objs.size s.toks s.gens.size k0 k1 k2 k3 295 td tn tp d n p pp (patS p d 5 fs e) tx s2.heap.objs.size s2.toks s2.gens.size (frPos A) y ty s4.heap.objs.size s4.toks s4.gens.size (frPos B) T Li s6.heap.objs.size s6.toks s6.gens.size s2.toks tx (decide (e = -1)) (frPos C)) = s8o w s.heap.objs.size s.toks s.gens.size k0 k1 k2 k3 295 td tn tp d n p pp (patS p d 5 fs e) tx s2.heap.objs.size s2.toks s2.gens.size (frPos A) y ty s4.heap.objs.size s4.toks s4.gens.size (frPos B) T Li s6.heap.objs.size s6.toks s6.gens.size s2.toks tx (decide (e = -1)) (frPos C) from rfl] at W1 W2
  try dsimp only at W1 W2 X7 ob7 G7 esz
  obtain ⟨F,hF⟩ : ∃ F,F = s8o w s.heap.objs.size s.toks s.gens.size k0 k1 k2 k3 295 td tn tp d n p pp (patS p d 5 fs e) tx s2.heap.objs.size s2.toks s2.gens.size (frPos A) y ty s4.heap.objs.size s4.toks s4.gens.size (frPos B) T Li s6.heap.objs.size s6.toks s6.gens.size s2.toks tx (decide (e = -1)) (frPos C) := ⟨_,rfl⟩
  have is8 : IsS8 w F := by rw [hF]; constructor
  rw [← hF] at W1 W2 G7
  rw [hA] at G3
  rw [hB] at G5
  rw [hC] at G7
  have hUn := UL.cons (kOf F) (frG F) (frL F) (lFn w) (frPos F)
  rw [lSw_eq] at hUn
  have X7' : Ext (fun b => b = 269 ∨ b = 272 ∨ b = 273) s6 s7 := X7.drop fun b o e hu nv => by
    rcases hu with hu | ⟨vs,e⟩
    · have := upd_mem hu
      simp only [List.map_cons,List.map_nil,List.mem_cons,List.not_mem_nil,or_false] at this
      rcases this with h | h | h | h
      · exact absurd (.inl h) nv
      · exact absurd (.inr (.inl h)) nv
      · exact absurd (.inr (.inr h)) nv
      · rw [h] at e ⊢; rw [hT] at e; cases e; exact ob7 (T,_) (.tail _ (.tail _ (.tail _ (.head _))))
    · exact (chNil e).elim
  have I7 := X7'.inv I6 fun b hb => .inl (by rcases hb with h | h | h <;> (rw [h]; lia))
  have lLi6 : Li < s6.heap.objs.size := Heap.lt_size hLi
  refine hGG (yE11 s7 F (s6.heap.objs.size + 4) Li s6.heap.objs.size vs ep warm' c1' c2' _ ⟨is8,by lia,by lia,by lia,by lia,⟨I7,⟨⟨k0,k1,k2,k3,s2.toks,s6.toks + 1,0,295,td,tn,tx,0,d,n,patS p d 5 fs e⟩,s6.toks,0,rfl,rfl,ob7 (269,_) (.head _)⟩,⟨tp,X7'.keep _ _ P6 (by lia)⟩,ob7 (272,_) (.tail _ (.head _)),ob7 (273,_) (.tail _ (.tail _ (.head _))),ob7 (s6.heap.objs.size + 4,_) (.tail _ (.tail _ (.tail _ (.tail _ (.head _))))),X7'.keep _ _ hLi (by lia),X7'.keep _ _ O6 (by lia),?_,.inl rfl⟩,
    X7'.keep _ _ T6 (by lia),?_,hUn,⟨hUn.h,lSt_h w,trivial⟩,fun Z q => G1 Z (G2 Z (G3 Z (G4 Z (G5 Z (G6 Z (G7 Z q))))))⟩)
  · exact its.toR.keep X7' fun b hb => .inl (by rcases hb with h | h | h <;> (rw [h]; lia))
  · exact (X06.trans X7').mono fun b h => by
      rcases h with (h | h) | h
      · exact .inl h
      · exact .inr (.inl h)
      · exact .inr h
theorem getAll_get {T : TT} : ∀ {ix : List Nat} {l : List (Nat × Obj)},getAll T ix = l.map some → ∀ (i : Nat) y,l[i]? = some y → ∃ j,ix[i]? = some j ∧ T.get j = some y
  | [],[],_,i,y,h => nomatch h
  | [],_ :: _,e,_,_,_ => nomatch e
  | _ :: _,[],e,_,_,_ => nomatch e
  | a :: ix,z :: l,e,i,y,h => by
    injection e with e1 e2
    match i with
    | 0 => cases h; exact ⟨a,rfl,e1⟩
    | i + 1 => exact getAll_get (ix := ix) (l := l) e2 i y h
structure OwnN (l : List (Nat × Obj)) (h : Heap) : Prop where
  get : ∀ y ∈ l,269 ≤ y.1 ∧ h.get? y.1 = some y.2
  nd : (l.map (·.1)).Nodup
  lo : 269 ≤ h.objs.size
theorem OwnN.get8 {l : List (Nat × Obj)} {h : Heap} (O : OwnN l h) : ∀ y ∈ l,268 ≤ y.1 ∧ h.get? y.1 = some y.2 := fun y hy => ⟨Nat.le_trans (by decide) (O.get y hy).1,(O.get y hy).2⟩
theorem OwnN.left {l1 l2 : List (Nat × Obj)} {h : Heap} (O : OwnN (l1 ++ l2) h) : OwnN l1 h := by
  refine ⟨fun y hy => O.get y (List.mem_append.2 (.inl hy)),?_,O.lo⟩
  have := O.nd
  rw [List.map_append] at this
  exact (List.nodup_append.1 this).1
theorem OwnN.keep {l : List (Nat × Obj)} {s s' : Shared} {u : Nat → Prop} (O : OwnN l s.heap) (X : Ext u s s') (hu : ∀ b,u b → ∀ y ∈ l,y.1 ≠ b) : OwnN l s'.heap :=
  ⟨fun y hy => ⟨(O.get y hy).1,X.keep _ _ (O.get y hy).2 fun q => hu _ q y hy rfl⟩,O.nd,Nat.le_trans O.lo X.size⟩
theorem OwnN.same {l : List (Nat × Obj)} {s s' : Shared} (O : OwnN l s.heap) (X : Ext (fun _ => False) s s') : OwnN l s'.heap := O.keep X fun _ h => h.elim
theorem OwnN.keep85 {l : List (Nat × Obj)} {s s' : Shared} (O : OwnN l s.heap) (X : Ext (fun b => b = 85) s s') : OwnN l s'.heap := O.keep X fun b h y hy e => by have := (O.get y hy).1; lia
noncomputable def U9 (b : Nat) : Prop := b = 85 ∨ 269 ≤ b
theorem OwnN.ext {l1 l2 : List (Nat × Obj)} {s s' : Shared} (O : OwnN (l1 ++ l2) s.heap) (X : Ext (fun b => ∃ z ∈ l1,z.1 = b) s s') : Ext U9 s s' := X.mono fun b h => by
  refine xE1 h fun z hx => xA1 hx fun hz q2 => ?_; clear hx; clear h; obtain rfl := q2
  exact .inr (O.get z (List.mem_append.2 (.inl hz))).1
theorem Ext.no {s s' : Shared} (X : Ext (fun _ => False) s s') : Ext U9 s s' := X.mono fun _ h => h.elim
theorem Ext.t9 {s s' s'' : Shared} (X : Ext U9 s s') (Y : Ext U9 s' s'') : Ext U9 s s'' := (X.trans Y).mono fun _ h => h.elim id id
theorem segF {w : World} {n : Nat} {s : Shared} {f : Cf} {t : Sem Fin} {c : Code} {p : Pos} {st : List Frame} {sw : List (Code × Pos)} {hd : List (Option Value)} {l1 l2 l1' : List (Nat × Obj)} {L A : List Nat} {O : List (Nat × OE)} {ix : List Nat} {th : Thread} {tk sz gz : Nat}
    (hf : f = st0 t c p st sw hd l1 s.heap.objs.size s.toks s.gens.size [] L A O) (I : Inv w s) (OW : OwnN (l1 ++ l2) s.heap) (hw : st.map Frame.where_ = sw) (hh : HOk st hd) (hix : ix.Nodup)
    (h : EndOf w 0 n f ix ⟨th,l1'.map some,tk,sz,gz,[],[]⟩) (hO : ∀ y ∈ O,OEk w y.2) :
    (th.stack.map Frame.where_ = (out (En0 w 0) n f).sw ∧ HOk th.stack (out (En0 w 0) n f).hd) ∧
    ∃ s',Inv w s' ∧ OwnN (l1' ++ l2) s'.heap ∧ (∀ y ∈ l1',(∃ z ∈ l1,z.1 = y.1) ∨ s.heap.objs.size ≤ y.1) ∧ Ext (fun b => ∃ z ∈ l1,z.1 = b) s s' ∧ s'.toks = tk ∧ s'.heap.objs.size = sz ∧ s'.gens.size = gz ∧
      ∀ Q,Good w Q s' th → Good w Q s ⟨t,c,p,st⟩ := by
  subst hf
  have O1 : OwnL 0 l1 s.heap := own_nodup OW.left.get8 OW.left.nd
  refine ⟨segW I O1 hw hh (fun a vs e => (chNil e).elim) h hO glNil,?_⟩
  have R0 := rep_start I l1 O1 (st0 t c p st sw hd l1 s.heap.objs.size s.toks s.gens.size [] L A O) (fun a => chLook [] a) rfl rfl rfl rfl rfl rfl
    (fun a vs e => (chNil e).elim) hw hh
  unfold EndOf at h
  injection h with h1 h2
  injection h2 with h2 h3
  refine xE1 (walk (envOk _ _) n (by rw [h1,h2]) hO R0) fun s' hx => xA1 hx fun R G => ?_; clear hx
  have egl : (out (En0 w 0) n (st0 t c p st sw hd l1 s.heap.objs.size s.toks s.gens.size [] L A O)).gl = [] := congrArg Su.gl h3
  have ech : (out (En0 w 0) n (st0 t c p st sw hd l1 s.heap.objs.size s.toks s.gens.size [] L A O)).ch = [] := congrArg Su.ch h3
  have eob : getAll (out (En0 w 0) n (st0 t c p st sw hd l1 s.heap.objs.size s.toks s.gens.size [] L A O)).T ix = l1'.map some := congrArg Su.ob h3
  have X := rep_ext R (fun j y e => by rw [egl] at e; cases e) (fun _ => False) (fun b _ => by rw [ech]; rfl)
  have X' : Ext (fun b => ∃ z ∈ l1,z.1 = b) s s' := X.mono fun b hb => by
    rcases hb with hb | hb
    · refine xE1 (List.mem_map.1 (upd_mem hb)) fun z hx => xA1 hx fun hz e => ?_; clear hx
      exact ⟨z,hz,e⟩
    · exact hb.elim
  have fr : ∀ y ∈ l1',(∃ z ∈ l1,z.1 = y.1) ∨ s.heap.objs.size ≤ y.1 := fun y hy => by
    obtain ⟨i,e⟩ := List.getElem?_of_mem hy
    refine xE1 (getAll_get eob i y e) fun j hx => xA1 hx fun _ e2 => ?_; clear hx
    rcases R.heap.new j y (Nat.zero_le _) e2 with h | h
    · refine xE1 (List.mem_map.1 (upd_mem h)) fun z hx => xA1 hx fun hz e => ?_; clear hx
      exact .inl ⟨z,hz,e⟩
    · exact .inr h
  have nd := OW.nd
  rw [List.map_append] at nd
  refine xA2 (List.nodup_append.1 nd) fun nd1 nd2 nd3 => ?_
  refine ⟨s',X'.inv I fun b hb => .inl ?_,⟨fun y hy => ?_,?_,Nat.le_trans OW.lo X'.size⟩,fr,X',R.toks.trans (congrArg Su.tk h3),R.heap.size.trans (congrArg Su.sz h3),R.gens.size.trans (congrArg Su.gz h3),fun Q q => G Q ?_⟩
  · refine xE1 hb fun z hx => xA1 hx fun hz q2 => ?_; clear hx; clear hb; obtain rfl := q2
    exact (OW.left.get8 z hz).1
  · rcases List.mem_append.1 hy with h | h
    · obtain ⟨i,e⟩ := List.getElem?_of_mem h
      refine xE1 (getAll_get eob i y e) fun j hx => xA1 hx fun _ e2 => ?_; clear hx
      have := R.heap.own j y e2
      refine ⟨?_,this.2.2.2⟩
      rcases fr y h with ⟨z,hz,e⟩ | h
      · rw [← e]
        exact (OW.left.get z hz).1
      · exact Nat.le_trans OW.lo h
    · have g := OW.get y (List.mem_append.2 (.inr h))
      refine ⟨g.1,X'.keep _ _ g.2 ?_⟩
      rintro ⟨z,hz,e⟩
      exact nd3 _ (List.mem_map.2 ⟨z,hz,rfl⟩) _ (List.mem_map.2 ⟨y,h,rfl⟩) e
  · rw [List.map_append]
    refine List.nodup_append.2 ⟨?_,nd2,?_⟩
    · rw [List.nodup_iff_pairwise_ne,List.pairwise_iff_getElem]
      intro i j hi' hj' hij e
      have hi : i < l1'.length := by rw [List.length_map] at hi'; exact hi'
      have hj : j < l1'.length := by rw [List.length_map] at hj'; exact hj'
      rw [List.getElem_map,List.getElem_map] at e
      refine xE1 (getAll_get eob i _ (List.getElem?_eq_getElem hi)) fun i' hx => xA1 hx fun ei gi => ?_; clear hx
      refine xE1 (getAll_get eob j _ (List.getElem?_eq_getElem hj)) fun j' hx => xA1 hx fun ej gj => ?_; clear hx
      refine R.heap.apart i' j' _ _ (Nat.zero_le _) (fun q => ?_) gi gj e
      subst q
      have li := (List.getElem?_eq_some_iff.1 ei).1
      exact absurd ((List.getElem?_inj li hix).1 (ei.trans ej.symm)) (Nat.ne_of_lt hij)
    · intro a ha b hb e
      refine xE1 (List.mem_map.1 ha) fun y hx => xA1 hx fun hy q2 => ?_; clear hx; obtain rfl := q2
      refine xE1 (List.mem_map.1 hb) fun z hx => xA1 hx fun hz q2 => ?_; clear hx; obtain rfl := q2
      rcases fr y hy with ⟨u,hu,e2⟩ | h
      · exact nd3 _ (List.mem_map.2 ⟨u,hu,rfl⟩) _ (List.mem_map.2 ⟨z,hz,rfl⟩) (e2.trans e)
      · have := Heap.lt_size (OW.get z (List.mem_append.2 (.inr hz))).2
        rw [e] at h
        exact absurd this (Nat.not_lt.mpr h)
  · have : (out (En0 w 0) n (st0 t c p st sw hd l1 s.heap.objs.size s.toks s.gens.size [] L A O)).th = th := congrArg Su.th h3
    rw [this]; exact q
theorem segFE {w : World} {n : Nat} {s : Shared} {f : Cf} {t : Sem Fin} {c : Code} {p : Pos} {st : List Frame} {sw : List (Code × Pos)} {hd : List (Option Value)} {l1 l2 l1' : List (Nat × Obj)} {L A : List Nat} {O : List (Nat × OE)} {ix : List Nat} {th : Thread} {tk sz gz : Nat}
    (hf : f = st0 t c p st sw hd l1 s.heap.objs.size s.toks s.gens.size [] L A O) (I : Inv w s) (OW : OwnN (l1 ++ l2) s.heap) (hw : st.map Frame.where_ = sw) (hh : HOk st hd) (hix : ix.Nodup)
    (h : EndOf w 0 n f ix ⟨th,l1'.map some,tk,sz,gz,[],[]⟩) (hO : ∀ y ∈ O,OEk w y.2) {G : Prop} (k : ∀ s',Inv w s' → OwnN (l1' ++ l2) s'.heap → (∀ y ∈ l1',(∃ z ∈ l1,z.1 = y.1) ∨ s.heap.objs.size ≤ y.1) → Ext (fun b => ∃ z ∈ l1,z.1 = b) s s' → s'.toks = tk → s'.heap.objs.size = sz → s'.gens.size = gz →
      (∀ Q,Good w Q s' th → Good w Q s ⟨t,c,p,st⟩) → G) : G := by
  obtain ⟨_,s',a,b,c,d,e,f,g,h⟩ := segF hf I OW hw hh hix h hO
  exact k s' a b c d e f g h
theorem segFEp {w : World} {n : Nat} {s : Shared} {f : Cf} {t : Sem Fin} {c : Code} {p : Pos} {st : List Frame} {sw : List (Code × Pos)} {hd : List (Option Value)} {l1 l2 l1' : List (Nat × Obj)} {L A : List Nat} {O : List (Nat × OE)} {ix : List Nat} {t' : Sem Fin} {c' : Code} {p' : Pos} {st' : List Frame} {tk sz gz : Nat}
    (hf : f = st0 t c p st sw hd l1 s.heap.objs.size s.toks s.gens.size [] L A O) (I : Inv w s) (OW : OwnN (l1 ++ l2) s.heap) (hw : st.map Frame.where_ = sw) (hh : HOk st hd) (hix : ix.Nodup)
    (h : EndOf w 0 n f ix ⟨⟨t',c',p',st'⟩,l1'.map some,tk,sz,gz,[],[]⟩) (hO : ∀ y ∈ O,OEk w y.2) {G : Prop} (k : ∀ s' (pz : Pos),Inv w s' → OwnN (l1' ++ l2) s'.heap → (∀ y ∈ l1',(∃ z ∈ l1,z.1 = y.1) ∨ s.heap.objs.size ≤ y.1) → Ext (fun b => ∃ z ∈ l1,z.1 = b) s s' → s'.toks = tk → s'.heap.objs.size = sz → s'.gens.size = gz →
      (∀ Q,Good w Q s' ⟨t',c',pz,st'⟩ → Good w Q s ⟨t,c,p,st⟩) → G) : G := by
  obtain ⟨_,s',a,b,c,d,e,f,g,h⟩ := segF hf I OW hw hh hix h hO
  exact k s' p' a b c d e f g h
noncomputable def lG (w : World) (it : Nat) : Code := match nthS (lB w) 9 with
  | .For t _ b o _ => .forLoop t (.ref it) b o (lEv w)
  | _ => default
noncomputable def bodyC : Code → List Stmt
  | .forLoop _ _ b _ _ => b
  | _ => []
noncomputable def envCF : Code → Env
  | .forLoop _ _ _ _ e => e
  | _ => default
noncomputable def tailF (j : Nat) (c : Code) : Sem Fin := PySem.W.R.onRaiseR (@bind PySem.Sem mS.toBind _ _ (PySem.W.Fast.tw12563942051412417395 (dropL j (bodyC c)) (envCF c)) (fG c)) (wHt (envCF c))
structure NmM where
  (k0 k1 k2 k3 k4 k5 k6 k7 k8 k9 k10 k11 td tn tpt tc tk to tm tpa aS bl : Nat)
  (d n ch kv oft mv pv : Int)
  x : Str
noncomputable def exM (N : NmM) : Nat → List (String × Nat × Value)
  | 0 => []
  | 1 => [("m",N.k9,.int N.mv N.tm)]
  | 2 => [("m",N.k9,.int N.mv N.tm),("below",N.k10,.ref N.bl)]
  | _ => [("m",N.k9,.int N.mv N.tm),("below",N.k10,.ref N.bl),("part",N.k11,.int N.pv N.tpa)]
noncomputable def frM (w : World) (sh : Nat) (N : NmM) : Obj := frT w.params ([("script",N.k0,.ref 268),("octets",N.k1,.ref 295),("dress",N.k2,.int N.d N.td),("n",N.k3,.int N.n N.tn),("pattern",N.k4,.str N.x N.tpt),("chosen",N.k5,.int N.ch N.tc),("k",N.k6,.int N.kv N.tk),("sorter",N.k7,.ref N.aS),("often",N.k8,.int N.oft N.to)] ++ exM N sh) (9 + sh)
noncomputable def setM (sh : Nat) (N : NmM) (m : Int) (t k : Nat) : NmM := match sh with
  | 0 => { N with k9 := k,mv := m,tm := t }
  | _ => { N with mv := m,tm := t }
noncomputable def shA : Nat → Nat
  | 0 => 1
  | n => n
section
variable (w : World) (it Li0 tp p tS d sz tk gz : Nat) (N : NmM) (st0' : Bool) (q pp : Pos) (rest : List Frame) (m sh : Nat)
noncomputable def mA : Cf := st0 (den (lG w it)) (lG w it) pp rest [(lFn w,q),callerC] [none,none] [(269,frM w sh N),(271,Cel (.int p tp)),(it,Rt1 m (8 - m))] sz tk gz [] [3,3,3,3,3,3,3,3,3,1,1,0,0,0,1,2,1,0] [0] []
noncomputable def mAo : Cf := out (En0 w 0) 38 (mA w it tp p sz tk gz N q pp rest m sh)
noncomputable def MAEnd (m sh : Nat) : Prop := EndOf w 0 38 (mA w it tp p sz tk gz N q pp rest m sh) [0,1,2]
  ⟨⟨den (pCall tk tp (tk + 2) N.td m 3 p d),pCall tk tp (tk + 2) N.td m 3 p d,(mAo w it tp p sz tk gz N q pp rest m sh).p,frS (mAo w it tp p sz tk gz N q pp rest m sh) (lG w it) rest⟩,
   [some (269,frM w (shA sh) (setM sh N m tk (tk + 1))),some (271,Cel (.int p tp)),some (it,Rt1 (m + 1 : Nat) (7 - m))],tk + 3,sz,gz,[],[]⟩
theorem mA_end (hd : N.d = d) (h : sh = 0 ∨ sh = 3) (hm : m < 8) : MAEnd w it tp p d sz tk gz N q pp rest m sh := by
  have e : ({ N with d := (d : Int) } : NmM) = N := by rw [← hd]
  have H : ∀ a b,(a,b) ∈ lpr [0,3] (List.range 8) → MAEnd w it tp p d sz tk gz { N with d := (d : Int) } q pp rest b a := all2 (by kernel_rfl)
  have := H sh m (mem_lpr (mem_2 h) (List.mem_range.2 hm))
  rw [e] at this
  exact this
variable (x : Str) (tx sz2 tk2 gz2 : Nat) (pp2 : Pos)
noncomputable def mB : Cf := st0 (kOf (mAo w it tp p sz tk gz N q pp rest m sh) (.ok (.ret (.str x tx)))) (lG w it) pp2 rest [(lFn w,q),callerC] [none,none] [] sz2 tk2 gz2 [] [0] [] []
noncomputable def mBo : Cf := out (En0 w 0) 4 (mB w it tp p sz tk gz N q pp rest m sh x tx sz2 tk2 gz2 pp2)
noncomputable def MBEnd (m sh : Nat) : Prop := EndOf w 0 4 (mB w it tp p sz tk gz N q pp rest m sh x tx sz2 tk2 gz2 pp2) []
  ⟨⟨den (tCall tx x),tCall tx x,(mBo w it tp p sz tk gz N q pp rest m sh x tx sz2 tk2 gz2 pp2).p,frS (mBo w it tp p sz tk gz N q pp rest m sh x tx sz2 tk2 gz2 pp2) (lG w it) rest⟩,[],tk2,sz2,gz2,[],[]⟩
theorem mB_end (h : sh = 0 ∨ sh = 3) (hm : m < 8) : MBEnd w it tp p sz tk gz N q pp rest x tx sz2 tk2 gz2 pp2 m sh := by
  have H : ∀ a b,(a,b) ∈ lpr [0,3] (List.range 8) → MBEnd w it tp p sz tk gz N q pp rest x tx sz2 tk2 gz2 pp2 b a := all2 (by kernel_rfl)
  exact H sh m (mem_lpr (mem_2 h) (List.mem_range.2 hm))
variable (y : Str) (ty sz3 tk3 gz3 : Nat) (pp3 : Pos)
noncomputable def mC : Cf := st0 (kOf (mBo w it tp p sz tk gz N q pp rest m sh x tx sz2 tk2 gz2 pp2) (.ok (.ret (.str y ty)))) (lG w it) pp3 rest [(lFn w,q),callerC] [none,none] [] sz3 tk3 gz3 [] [0] [] []
noncomputable def mCo : Cf := out (En0 w 0) 4 (mC w it tp p sz tk gz N q pp rest m sh x tx sz2 tk2 gz2 pp2 y ty sz3 tk3 gz3 pp3)
noncomputable def MCEnd (m sh : Nat) : Prop := EndOf w 0 4 (mC w it tp p sz tk gz N q pp rest m sh x tx sz2 tk2 gz2 pp2 y ty sz3 tk3 gz3 pp3) []
  ⟨⟨den (iCall y ty),iCall y ty,(mCo w it tp p sz tk gz N q pp rest m sh x tx sz2 tk2 gz2 pp2 y ty sz3 tk3 gz3 pp3).p,frS (mCo w it tp p sz tk gz N q pp rest m sh x tx sz2 tk2 gz2 pp2 y ty sz3 tk3 gz3 pp3) (lG w it) rest⟩,[],tk3,sz3,gz3,[],[]⟩
theorem mC_end (h : sh = 0 ∨ sh = 3) (hm : m < 8) : MCEnd w it tp p sz tk gz N q pp rest x tx sz2 tk2 gz2 pp2 y ty sz3 tk3 gz3 pp3 m sh := by
  have H : ∀ a b,(a,b) ∈ lpr [0,3] (List.range 8) → MCEnd w it tp p sz tk gz N q pp rest x tx sz2 tk2 gz2 pp2 y ty sz3 tk3 gz3 pp3 b a := all2 (by kernel_rfl)
  exact H sh m (mem_lpr (mem_2 h) (List.mem_range.2 hm))
variable (T Li sz4 tk4 gz4 : Nat) (star sb : Bool) (pp4 : Pos)
noncomputable def mD : Cf := st0 (kOf (mCo w it tp p sz tk gz N q pp rest m sh x tx sz2 tk2 gz2 pp2 y ty sz3 tk3 gz3 pp3) (.ok (.ret (.ref T)))) (lG w it) pp4 rest [(lFn w,q),callerC] [none,none] [(272,Cel (.bool sb)),(273,Cel (.ref Li0)),(T,Tup [.bool star,.ref Li])] sz4 tk4 gz4 []
  [3,3,3,3,4,4,4,4,4,3,4,4,4,4,4,4,3,4,4,4,4,4,4,3,4,4,6,1,1,2,2] [1] []
noncomputable def mDo : Cf := out (En0 w 0) 57 (mD w it Li0 tp p sz tk gz N q pp rest m sh x tx sz2 tk2 gz2 pp2 y ty sz3 tk3 gz3 pp3 T Li sz4 tk4 gz4 star sb pp4)
noncomputable def MDEnd (m sh : Nat) : Prop := EndOf w 0 57 (mD w it Li0 tp p sz tk gz N q pp rest m sh x tx sz2 tk2 gz2 pp2 y ty sz3 tk3 gz3 pp3 T Li sz4 tk4 gz4 star sb pp4) [0,1,2]
  ⟨⟨tailF 1 (lG w it),lG w it,(mDo w it Li0 tp p sz tk gz N q pp rest m sh x tx sz2 tk2 gz2 pp2 y ty sz3 tk3 gz3 pp3 T Li sz4 tk4 gz4 star sb pp4).p,rest⟩,[some (272,Cel (.bool star)),some (273,Cel (.ref Li)),some (T,Tup [.bool star,.ref Li])],tk4,sz4 + 3,gz4,[],[]⟩
theorem mD_end (h : sh = 0 ∨ sh = 3) (hm : m < 8) : MDEnd w it Li0 tp p sz tk gz N q pp rest x tx sz2 tk2 gz2 pp2 y ty sz3 tk3 gz3 pp3 T Li sz4 tk4 gz4 star sb pp4 m sh := by
  have H : ∀ a b,(a,b) ∈ lpr [0,3] (List.range 8) → MDEnd w it Li0 tp p sz tk gz N q pp rest x tx sz2 tk2 gz2 pp2 y ty sz3 tk3 gz3 pp3 T Li sz4 tk4 gz4 star sb pp4 b a := all2 (by kernel_rfl)
  exact H sh m (mem_lpr (mem_2 h) (List.mem_range.2 hm))
end
noncomputable def N0 : NmM := ⟨0,0,0,0,0,0,0,0,0,0,0,0,0,0,0,0,0,0,0,0,0,0,0,0,0,0,0,0,0,default⟩
noncomputable def withM (N : NmM) (m : Nat) : NmM := { N with mv := m }
section
variable (w : World) (it sz tk gz : Nat) (N : NmM) (q pp : Pos) (rest : List Frame) (m sh : Nat)
noncomputable def mE : Cf := st0 (tailF 1 (lG w it)) (lG w it) pp rest [(lFn w,q),callerC] [none,none] [(269,frM w sh (withM N m))] sz tk gz [] [0,0,1,2,2,2,2,2,2,2,2,2,2,3,3] [1] []
noncomputable def mEo : Cf := out (En0 w 0) 42 (mE w it sz tk gz N q pp rest m sh)
noncomputable def mE0 (w : World) (it sz : Nat) : Cf := mEo w it sz 0 0 N0 default default [] 0 1
noncomputable def mCC (w : World) (it sz : Nat) : Code := (mE0 w it sz).c
noncomputable def mCp (w : World) : Pos := (mE0 w 0 0).p
noncomputable def mFp (w : World) : Pos := frPos (mE0 w 0 0)
noncomputable def mS1 (w : World) (it sz : Nat) (kk : Result → Sem Fin) (rest : List Frame) : List Frame := .ret kk none true [.ref (sz + 3),.ref (sz + 2)] (lG w it) (mFp w) [] :: rest
noncomputable def MEEnd (m sh : Nat) : Prop := EndOf w 0 42 (mE w it sz tk gz N q pp rest m sh) [0,2,3,4]
  ⟨⟨tailA (mCC w it sz),mCC w it sz,mCp w,mS1 w it sz (kOf (mEo w it sz tk gz N q pp rest m sh)) rest⟩,
   [some (269,frM w sh (withM N m)),some (sz + 1,Rt1 0 m),some (sz + 2,Lo #[] 0),some (sz + 3,dcT w.params [] 0)],tk + 2,sz + 4,gz,[],[]⟩
theorem mE_end (h : sh = 1 ∨ sh = 3) (hm : m < 8) : MEEnd w it sz tk gz N q pp rest m sh := by
  have H : ∀ a b,(a,b) ∈ lpr [1,3] (List.range 8) → MEEnd w it sz tk gz N q pp rest b a := all2 (by kernel_rfl)
  exact H sh m (mem_lpr (mem_2 h) (List.mem_range.2 hm))
end
theorem mCC_at (w : World) (it sz : Nat) : den (mCC w it sz) = .at (mCp w) (kpA (mCC w it sz)) := by kernel_rfl
noncomputable def FD (P : Params) (sh kt tv : Nat) (v : Int) : Obj := match sh with
  | 0 => dcT P [] 0
  | _ => dcT P [("k",kt,.int v tv)] 1
noncomputable def wdsL (wd : Nat → Str) (tw : Nat → Nat) : Nat → List Value
  | 0 => []
  | m + 1 => wdsL wd tw m ++ [.str (wd m) (tw m)]
section
variable (w : World) (it zz sz tk gz fd kt tv aW Li ep : Nat) (star : Bool) (wd : Nat → Str) (tw : Nat → Nat) (kk : Result → Sem Fin) (q pp : Pos) (rest : List Frame) (k m : Nat)
noncomputable def shK : Nat → Nat
  | 0 => 0
  | _ => 1
noncomputable def cA : Cf := st0 (den (mCC w it zz)) (mCC w it zz) pp (mS1 w it zz kk rest) [(lG w it,mFp w),(lFn w,q),callerC] [none,none,none] [(zz + 3,FD w.params (shK k) kt tv (k - 1)),(zz + 1,Rt1 k (m - k : Nat)),(272,Cel (.bool star)),(273,Cel (.ref Li)),(275,Cel (.ref aW)),(aW,Lo (wdsL wd tw m).toArray m)] sz tk gz []
  [2,2,2,2,2,2,2,2,2,1,1,0,3,4,5,1,6,6,6,6,6,0] [0] []
noncomputable def cAo : Cf := out (En0 w 0) 43 (cA w it zz sz tk gz kt tv aW Li star wd tw kk q pp rest k m)
noncomputable def kTok (k tk kt : Nat) : Nat := match k with
  | 0 => tk + 1
  | _ => kt
noncomputable def CAEnd (k m : Nat) : Prop := EndOf w 0 43 (cA w it zz sz tk gz kt tv aW Li star wd tw kk q pp rest k m) [0,1,2,3,4,5]
  ⟨⟨den (uCall star Li (wd k) (tw k)),uCall star Li (wd k) (tw k),(cAo w it zz sz tk gz kt tv aW Li star wd tw kk q pp rest k m).p,frS (cAo w it zz sz tk gz kt tv aW Li star wd tw kk q pp rest k m) (mCC w it zz) (mS1 w it zz kk rest)⟩,
   [some (zz + 3,FD w.params 1 (kTok k tk kt) tk k),some (zz + 1,Rt1 (k + 1 : Nat) (m - k - 1 : Nat)),some (272,Cel (.bool star)),some (273,Cel (.ref Li)),some (275,Cel (.ref aW)),some (aW,Lo (wdsL wd tw m).toArray m)],tk + 2,sz,gz,[],[]⟩
theorem cA_end (hk : k < m) (hm : m < 8) : CAEnd w it zz sz tk gz kt tv aW Li star wd tw kk q pp rest k m := by
  have H : ∀ a b,(a,b) ∈ kmL → CAEnd w it zz sz tk gz kt tv aW Li star wd tw kk q pp rest a b := all2 (by kernel_rfl)
  exact H k m (mem_km hk hm)
variable (b : Bool) (epA sz2 tk2 gz2 : Nat) (acc : Array Value) (pp2 : Pos)
noncomputable def cB : Cf := st0 (kOf (cAo w it zz sz tk gz kt tv aW Li star wd tw kk q pp rest k m) (.ok (.ret (.bool b)))) (mCC w it zz) pp2 (mS1 w it zz kk rest) [(lG w it,mFp w),(lFn w,q),callerC] [none,none,none] [(zz + 3,FD w.params 1 kt tv k),(zz + 2,Lo acc epA)] sz2 tk2 gz2 []
  (match b with | true => [1,2] | false => []) [] (match b with | true => [(0,oeApp 1 (zz + 2) acc epA (.i k))] | false => [])
noncomputable def cBn (b : Bool) : Nat := match b with
  | true => 8
  | false => 3
noncomputable def cBo : Cf := out (En0 w 0) (cBn b) (cB w it zz sz tk gz kt tv aW Li star wd tw kk q pp rest k m b epA sz2 tk2 gz2 acc pp2)
noncomputable def cBa (b : Bool) (k tv : Nat) (acc : Array Value) : Array Value := match b with
  | true => acc.push (.int k tv)
  | false => acc
noncomputable def cBe (b : Bool) (n : Nat) : Nat := match b with
  | true => n + 1
  | false => n
noncomputable def CBEnd (b : Bool) (k m : Nat) : Prop := EndOf w 0 (cBn b) (cB w it zz sz tk gz kt tv aW Li star wd tw kk q pp rest k m b epA sz2 tk2 gz2 acc pp2) [0,1]
  ⟨⟨den (mCC w it zz),mCC w it zz,(cBo w it zz sz tk gz kt tv aW Li star wd tw kk q pp rest k m b epA sz2 tk2 gz2 acc pp2).p,mS1 w it zz kk rest⟩,
   [some (zz + 3,FD w.params 1 kt tv k),some (zz + 2,Lo (cBa b k tv acc) (cBe b epA))],tk2,sz2,gz2,[],[]⟩
end
section
variable (w : World) (it zz sz tk gz fd kt tv aW Li ep : Nat) (star : Bool) (wd : Nat → Str) (tw : Nat → Nat) (kk : Result → Sem Fin) (q pp : Pos) (rest : List Frame) (b : Bool) (k m : Nat) (epA sz2 tk2 gz2 : Nat) (acc : Array Value) (pp2 : Pos)
noncomputable def cAp : Pos := frPos (cAo w it zz sz tk gz kt tv aW Li star wd tw kk q pp rest k m)
theorem cB_end (hk : k < m) (hm : m < 8) : CBEnd w it zz sz tk gz kt tv aW Li star wd tw kk q pp rest epA sz2 tk2 gz2 acc pp2 b k m := by
  have H : ∀ x y z,(x,y,z) ∈ trb kmL → CBEnd w it zz sz tk gz kt tv aW Li star wd tw kk q pp rest epA sz2 tk2 gz2 acc pp2 z x y := all3 (by kernel_rfl)
  exact H k m b (mem_trb b (mem_km hk hm))
end
noncomputable def setB (sh : Nat) (N : NmM) (b t : Nat) : NmM := match sh with
  | 1 => { N with k10 := t,bl := b }
  | _ => { N with bl := b }
noncomputable def shB : Nat → Nat
  | 1 => 2
  | n => n
noncomputable def shM : Nat → Nat
  | 0 => 1
  | _ => 3
section
variable (w : World) (it zz tk0 gz0 sz tk gz kt tv epA : Nat) (N : NmM) (q pp0 pp : Pos) (rest : List Frame) (acc : Array Value) (m : Nat)
noncomputable def cX : Cf := st0 (den (mCC w it zz)) (mCC w it zz) pp (mS1 w it zz (kOf (mEo w it zz tk0 gz0 N q pp0 rest m (shM m))) rest) [(lG w it,mFp w),(lFn w,q),callerC] [none,none,none] [(zz + 3,FD w.params (shK m) kt tv (m - 1 : Nat)),(zz + 1,Rt1 m 0),(zz + 2,Lo acc epA),(269,frM w (shM m) (withM N m))] sz tk gz []
  (match m with | 0 => [2,2,2,2,2,6,4,4,1] | _ => [2,2,2,2,2,6,4,4,1,1,1]) [0] []
noncomputable def cXn (m : Nat) : Nat := match m with
  | 0 => 24
  | _ => 28
noncomputable def cXo : Cf := out (En0 w 0) (cXn m) (cX w it zz tk0 gz0 sz tk gz kt tv epA N q pp0 pp rest acc m)
noncomputable def CXEnd (m : Nat) : Prop := EndOf w 0 (cXn m) (cX w it zz tk0 gz0 sz tk gz kt tv epA N q pp0 pp rest acc m) [3,2]
  ⟨⟨tailF 2 (lG w it),lG w it,(cXo w it zz tk0 gz0 sz tk gz kt tv epA N q pp0 pp rest acc m).p,rest⟩,
   [some (269,frM w (shB (shM m)) (setB (shM m) (withM N m) (zz + 2) tk)),some (zz + 2,Lo acc epA)],tk + 1,sz + 2,gz,[],[]⟩
theorem cX_end (hm : m < 8) : CXEnd w it zz tk0 gz0 sz tk gz kt tv epA N q pp0 pp rest acc m := by
  have H : ∀ m ∈ List.range 8,CXEnd w it zz tk0 gz0 sz tk gz kt tv epA N q pp0 pp rest acc m := all_of (by kernel_rfl)
  exact H m (List.mem_range.2 hm)
end
noncomputable def epA (ws : Array Value) : Nat := match ws.size with
  | 0 => 0
  | _ => 1
noncomputable def colO (i j a b : Nat) (ws : Array Value) (n2 : Nat) : OE := ⟨PySem.code "list.__iadd__",[.r a,.r b],[(i,a,Lo #[] 0),(j,b,Lo ws n2)],fun _ => [(i,a,Lo ws (epA ws))],fun _ => [],fun _ _ _ => .ref a,0,none⟩
theorem colO_ok {w : World} {i j a b : Nat} {ws : Array Value} {n2 : Nat} (h : ws.size ≤ sizeLine) : OEk w (colO i j a b ws n2) :=
  oe_meets (b := Builtin.«list.__iadd__») rfl (by decide +kernel) (entryFor_of_tree (by kernel_rfl)) fun s pos hp hn _ => by
    refine xE2 (args2 hp) fun p0 p1 hx => xA2 hx fun q2 h0 h1 => ?_; clear hx; obtain rfl := q2
    obtain rfl := strip_r h0
    obtain rfl := strip_r h1
    refine ⟨_,AutoSeq1.list___iadd___list_list_0 a #[] 0 b ws n2 (by simp) (by exact Nat.zero_le _) (by simp; lia),fun A R r => ⟨hn _ (.head _),hn _ (.tail _ (.head _)),?_⟩⟩
    have e2 : Obj.mapSeq (fun z => z ++ ws) (Lo #[] 0) = Lo ws (epA ws) := by
      show Lo (#[] ++ ws) (if ((#[] : Array Value) ++ ws).size == 0 then 0 else 0 + 1) = _
      rw [Array.empty_append]
      unfold epA
      cases h : ws.size with
      | zero => rfl
      | succ n => rfl
    have e := update_const (hn (i,a,Lo #[] 0) (.head _)) (Obj.mapSeq fun z => z ++ ws)
    rw [e2] at e
    have r' : R (.ok (.ret (.ref a))) { s with heap := s.heap.update a (fun _ => Lo ws (epA ws)),toks := s.toks } := r
    have e' : s.heap.update a (Obj.mapSeq fun z => z ++ ws) = s.heap.update a (fun _ => Lo ws (epA ws)) := e
    rw [e']
    exact r'
noncomputable def Dc (es : List DictEntry) (n : Nat) : Obj := ⟨.type "dict",none,.dict es.toArray n,#[]⟩
noncomputable def dgO (nm : String) (i a : Nat) (es : List DictEntry) (n : Nat) (k : Int) (v : Value) : OE := ⟨PySem.code nm,[.r a,.i k],[(i,a,Dc es n)],fun _ => [],fun _ => [],fun _ _ _ => v,1,none⟩
noncomputable def sKeys : List DictEntry → Prop
  | [] => True
  | e :: l => (∃ (k : Nat) (t : Nat),e.key = .int (k : Int) t ∧ e.hash = (k : Int) ∧ k < 32) ∧ sKeys l
theorem sKeys_mem {es : List DictEntry} : sKeys es → ∀ e ∈ es,∃ (k : Nat) (t : Nat),e.key = .int (k : Int) t ∧ e.hash = (k : Int) ∧ k < 32 := by
  induction es with
  | nil => exact fun _ _ h => nomatch h
  | cons a l ih =>
    intro h e he
    rcases List.mem_cons.1 he with rfl | he
    · exact h.1
    · exact ih h.2 e he
theorem hashSmall : ∀ k : Nat,k < 32 → hashInt (k : Int) = (k : Int) := by decide
theorem sKeys_ok {es : List DictEntry} (h : sKeys es) : IntKeys es.toArray := fun e he => by
  refine xE2 (sKeys_mem h e (by simpa using he)) fun k t hx => xA2 hx fun e1 e2 e3 => ?_; clear hx
  exact ⟨(k : Int),t,e1,by rw [e2,hashSmall k e3]⟩
theorem dgGet_ok {w : World} {i a : Nat} {es : List DictEntry} {n : Nat} {k : Int} {v : Value} (hk : sKeys es) (hf : findBy Value.isInt es.toArray k = some v) : OEk w (dgO "dict.get" i a es n k v) :=
  oe_of (b := Builtin.«dict.get») rfl (entryFor_of_tree (by kernel_rfl)) fun A E s pos hp hn _ => by
    refine xE2 (args2 hp) fun p q hx => xA2 hx fun q2 h1 h2 => ?_; clear hx; obtain rfl := q2; obtain rfl := strip_r h1; obtain ⟨t,rfl⟩ := strip_i h2
    have ho : s.heap.get? a = some (Dc es n) := hn _ (.head _)
    show wpAny _ _ (dictGet a (.int k t) >>= _) _ _ s
    refine wpAny_bind (wpAny_dictGet_int (f := findBy Value.isInt es.toArray) ⟨_,_,_,ho,rfl,rfl,sKeys_ok hk,fun _ => rfl⟩ ?_)
    rw [hf]
    exact wpAny_pure ⟨v,rfl,rfl,rfl⟩
theorem dgItem_ok {w : World} {i a : Nat} {es : List DictEntry} {n : Nat} {k : Int} {v : Value} (hk : sKeys es) (hf : findBy Value.isInt es.toArray k = some v) : OEk w (dgO "dict.__getitem__" i a es n k v) :=
  oe_of (b := Builtin.«dict.__getitem__») rfl (entryFor_of_tree (by kernel_rfl)) fun A E s pos hp hn _ => by
    refine xE2 (args2 hp) fun p q hx => xA2 hx fun q2 h1 h2 => ?_; clear hx; obtain rfl := q2; obtain rfl := strip_r h1; obtain ⟨t,rfl⟩ := strip_i h2
    have ho : s.heap.get? a = some (Dc es n) := hn _ (.head _)
    show wpAny _ _ (dictGet a (.int k t) >>= _) _ _ s
    refine wpAny_bind (wpAny_dictGet_int (f := findBy Value.isInt es.toArray) ⟨_,_,_,ho,rfl,rfl,sKeys_ok hk,fun _ => rfl⟩ ?_)
    rw [hf]
    exact wpAny_pure ⟨v,rfl,rfl,rfl⟩
noncomputable def bin : Nat → Nat → Nat
  | _,0 => 1
  | 0,_ + 1 => 0
  | n + 1,k + 1 => bin n k + bin n (k + 1)
noncomputable def keptB (p m k : Nat) : Bool := !(Nat.beq (bin m k % p) 0)
noncomputable def belVf (p m : Nat) (t : Nat → Nat) : Nat → List Value
  | 0 => []
  | j + 1 => belVf p m t j ++ (match keptB p m j with | true => [.int (j : Int) (t j)] | false => [])
noncomputable def belV (p m : Nat) (t : Nat → Nat) : List Value := belVf p m t m
noncomputable def belCf (p m : Nat) : Nat → Nat
  | 0 => 0
  | j + 1 => belCf p m j + (match keptB p m j with | true => 1 | false => 0)
noncomputable def belC (p m : Nat) : Nat := belCf p m m
noncomputable def rowVf (m : Nat) (t : Nat → Nat) : Nat → List Value
  | 0 => []
  | j + 1 => rowVf m t j ++ [.int (bin m j : Int) (t j)]
noncomputable def rowV (m : Nat) (t : Nat → Nat) : List Value := rowVf m t (m + 1)
noncomputable def sh2 : Nat → Nat
  | 0 => 2
  | _ => 3
noncomputable def neL (i a : Nat) (vs : List Value) (e1 j b : Nat) (ws : List Value) (e2 : Nat) : OE := ⟨PySem.code "list.__ne__",[.r a,.r b],[(i,a,Lo vs.toArray e1),(j,b,Lo ws.toArray e2)],fun _ => [],fun _ => [],fun _ _ _ => .bool false,0,none⟩
theorem neL_ok {w : World} {i a e1 j b e2 : Nat} {vs ws : List Value} (hs : vs.map strip0 = ws.map strip0) (h : ∀ v ∈ vs,∃ x t,v = .int x t) : OEk w (neL i a vs e1 j b ws e2) :=
  oe_meets (b := Builtin.«list.__ne__») rfl (by decide +kernel) (entryFor_of_tree (by kernel_rfl)) fun s pos hp hn _ => by
    refine xE2 (args2 hp) fun p q hx => xA2 hx fun q2 h1 h2 => ?_; clear hx; obtain rfl := q2; obtain rfl := strip_r h1; obtain rfl := strip_r h2
    have hl : vs.length = ws.length := by simpa using congrArg List.length hs
    refine ⟨_,PySem.SeqAt.list_neAt a b vs.toArray ws.toArray e1 e2 none none #[] #[] (by simpa using hl) (fun _ => true),fun A R r => ⟨hn _ (.head _),hn _ (.tail _ (.head _)),fun k k1 k2 => ?_,?_⟩⟩
    · have k1' : k < vs.length := by simpa using k1
      have k2' : k < ws.length := by simpa using k2
      obtain ⟨x,t,e⟩ := h _ (List.getElem_mem k1')
      have e2 : strip0 vs[k] = strip0 ws[k] := by
        have := congrArg (fun l => l[k]?) hs
        simpa [k1',k2'] using this
      rw [e] at e2
      obtain ⟨u,e'⟩ := strip_i e2.symm
      have f1 : vs.toArray[k] = .int x t := by simpa using e
      have f2 : ws.toArray[k] = .int x u := by simpa using e'
      rw [f1,f2]
      have := PySem.SeqAt.EqAt.int_int (A := A.in1) (s := s) x t x u
      rw [show (x == x) = true by simp] at this
      exact this
    · have : (!(List.range vs.toArray.size).all fun _ => true) = false := by simp
      rw [this]
      exact r
theorem belV_eq (p m : Nat) (t u : Nat → Nat) : ∀ n,(belVf p m t n).map strip0 = (belVf p m u n).map strip0
  | 0 => rfl
  | n + 1 => by
    unfold belVf
    rw [List.map_append,List.map_append,belV_eq p m t u n]
    cases keptB p m n <;> rfl
theorem belV_int (p m : Nat) (t : Nat → Nat) : ∀ n,∀ v ∈ belVf p m t n,∃ x t,v = .int x t
  | 0 => fun v h => nomatch h
  | n + 1 => fun v h => by
    unfold belVf at h
    rcases List.mem_append.1 h with h | h
    · exact belV_int p m t n v h
    · cases q : keptB p m n with
      | true => rw [q] at h; obtain rfl := List.mem_singleton.1 h; exact ⟨_,_,rfl⟩
      | false => rw [q] at h; cases h
noncomputable def rep (n x : Nat) : List Nat := match n with
  | 0 => []
  | n + 1 => x :: rep n x
noncomputable def hT4 (p m : Nat) : Nat → List Nat
  | 0 => []
  | j + 1 => hT4 p m j ++ rep 9 7 ++ [9,9,3,9,4,4,4,4,4,2] ++ (match keptB p m j with | true => [9,8,8,8,8] | false => [])
noncomputable def hS4 (p m : Nat) : List Nat := [1,0,0,1] ++ rep 10 6 ++ rep 2 7 ++ hT4 p m m ++ rep 5 7 ++ [11,9] ++ (match m with | 0 => [] | _ => [9,9]) ++ [5,8,5,5]
noncomputable def rep2 : Nat → List Nat
  | 0 => []
  | n + 1 => 0 :: 1 :: rep2 n
noncomputable def a4 (m : Nat) : List Nat := [1] ++ rep2 m ++ [1]
noncomputable def n4 (p m : Nat) : Nat := 68 + (match m with | 0 => 0 | _ => 4) + 48 * m + 9 * belC p m
noncomputable def ev4 (p m : Nat) : Nat := 5 + 4 * m + belC p m
noncomputable def withB (N : NmM) (m aB : Nat) : NmM := { N with mv := m,bl := aB }
noncomputable def withMO (N : NmM) (m : Nat) (o : Int) : NmM := { N with mv := m,oft := o }
section
variable (w : World) (it aR aB tp sz tk gz : Nat) (tr tb : Nat → Nat) (N : NmM) (q pp : Pos) (rest : List Frame) (p m : Nat)
noncomputable def m4 : Cf := st0 (tailF 2 (lG w it)) (lG w it) pp rest [(lFn w,q),callerC] [none,none] [(269,frM w (sh2 m) (withB N m aB)),(271,Cel (.int p tp)),(274,Cel (.ref aR)),(aR,Lo (rowV m tr).toArray 0),(aB,Lo (belV p m tb).toArray (belC p m))] sz tk gz [] (hS4 p m) (a4 m) [(ev4 p m,neL 4 aB (belV p m tb) (belC p m) 7 (sz + 2) (belV p m fun k => tk + 2 + 4 * k) (belC p m))]
noncomputable def m4o : Cf := out (En0 w 0) (n4 p m) (m4 w it aR aB tp sz tk gz tr tb N q pp rest p m)
noncomputable def M4End (p m : Nat) : Prop := EndOf w 0 (n4 p m) (m4 w it aR aB tp sz tk gz tr tb N q pp rest p m) [0,1,2,3,4]
  ⟨⟨tailF 3 (lG w it),lG w it,(m4o w it aR aB tp sz tk gz tr tb N q pp rest p m).p,rest⟩,[some (269,frM w (sh2 m) (withB N m aB)),some (271,Cel (.int p tp)),some (274,Cel (.ref aR)),some (aR,Lo (rowV m tr).toArray 0),some (aB,Lo (belV p m tb).toArray (belC p m))],tk + 2 + 4 * m,sz + 6,gz,[],[]⟩
theorem m4_end (hp : p = 2 ∨ p = 3 ∨ p = 5 ∨ p = 7) (hm : m < 8) : M4End w it aR aB tp sz tk gz tr tb N q pp rest p m := by
  have H : ∀ a b,(a,b) ∈ pmL → M4End w it aR aB tp sz tk gz tr tb N q pp rest a b := all2 (by kernel_rfl)
  exact H p m (mem_pm hp hm)
end
structure Inf where
  (a d s t u : Nat)
structure SoT where
  (aS aD aN k1 k2 k3 k4 t3 t4 : Nat)
noncomputable def soS (Z : SoT) : Obj := ⟨.ref 213,some Z.aD,.plain,#[]⟩
noncomputable def soD (P : Params) (Z : SoT) : Obj := dcT P [("_node2info",Z.k1,.ref (Z.aN + 300)),("_ready_nodes",Z.k2,.none),("_npassedout",Z.k3,.int 0 Z.t3),("_nfinished",Z.k4,.int 0 Z.t4)] 4
noncomputable def nodE (I : Nat → Inf) : Nat → List DictEntry
  | 0 => []
  | j + 1 => nodE I j ++ [⟨(j : Int),.int (j : Int) (I j).t,.ref (I j).a⟩]
noncomputable def soN (I : Nat → Inf) (m : Nat) : Obj := ⟨.type "dict",none,.dict (nodE I m).toArray m,#[]⟩
noncomputable def infO (p j : Nat) (x : Inf) : Obj := ⟨.ref 116,some x.d,.plain,#[some (.int (j : Int) x.t),some (.int (belC p j : Int) x.u),some (.ref x.s)]⟩
noncomputable def sucV (p j : Nat) (I : Nat → Inf) : Nat → List Value
  | 0 => []
  | i + 1 => sucV p j I i ++ (match Nat.blt j i with | true => (match keptB p i j with | true => [.int (i : Int) (I i).t] | false => []) | false => [])
noncomputable def sucC (p j : Nat) : Nat → Nat
  | 0 => 0
  | i + 1 => sucC p j i + (match Nat.blt j i with | true => (match keptB p i j with | true => 1 | false => 0) | false => 0)
noncomputable def infLf (p m : Nat) (I : Nat → Inf) : Nat → List (Nat × Obj)
  | 0 => []
  | j + 1 => infLf p m I j ++ [((I j).a,infO p j (I j)),((I j).s,Lo (sucV p j I m).toArray (sucC p j m))]
noncomputable def infL (p m : Nat) (I : Nat → Inf) : List (Nat × Obj) := infLf p m I m
noncomputable def setI (I : Nat → Inf) (m : Nat) (x : Inf) : Nat → Inf := fun j => match Nat.beq j m with | true => x | false => I j
noncomputable def sf5 (m : Nat) : List Nat → List Nat
  | [] => []
  | x :: l => (match Nat.ble x 5 with | true => x | false => x + 2 * m) :: sf5 m l
noncomputable def h50 : List Nat := [1,2,0,0,0,2,0,0,0,0,0,0,2,2,0,3,0,0,0,0,1,1,5,7,6,0,6,0,0,9,9,9,9,9,9,0,9,2,0,0,0,2,0,0,0,2,2,0,3,9,2,0,0,0,2,0,0,0,2,0,0,0,0,2,3,9,0,0,0,10,10,10,10,0,10,2,0,0,0,2,0,0,0,2,2,0,3,4,4,4,4,10,4,4,10,10,0,10,0,0,0,0,0,0,0,0,0,0,0,0,0,0,0,0,0,0,0,0,0,0,0,0,0,0,0,0,12,0,12,0,0,0,0,0,0,13,13,13,13,0,13,13,12,0,0,0,12,0,12,0,12,0,0,0,0,0,0,0,0,12,0,0,0,0,0,12,0,12,13,12,0,0,0,12,0,12,0,12,0,0,0,0,0,0,0,0,12,0,0,0,0,0,12,0,12,13,12,0,0,0,12,0,12,0,12,0,0,0,0,0,0,0,0,12,0,0,0,0,0,12,0,12,10,2,0,0,0,2,0,0,0,2,2,0,3,10,4,4,4,4,4,4,4,4,10,10,10,9,9,9,12,0,0,0,12,0,0,0,0,0,0,0,0,0,0,0,12,0,0,0,0,0,12,0,12,0,0,9,8,8,8,12,0,0,0,12,0,12,0,12,0,0,0,0,0,0,0,0,12,0,0,0,0,0,12,0,12,9,8,8,8,15,15,15,15,15,8,15,15]
noncomputable def hT5 (m t k : Nat) : List Nat :=
  [9 + 2 * m,9 + 2 * m,9 + 2 * m,2,0,0,0,2,0,0,0,2,0,0,0,0,2,3,9 + 2 * m,0,0,0] ++ rep 4 (16 + 2 * m + t) ++ [0,16 + 2 * m + t,2,0,0,0,2,0,0,0,2,2,0,3,4,4,4,4,16 + 2 * m + t,4] ++ rep 3 (16 + 2 * m + t) ++ rep 3 (9 + 2 * m) ++
  [6 + 2 * k,0,0,0,6 + 2 * k] ++ rep 11 0 ++ [6 + 2 * k] ++ rep 5 0 ++ [6 + 2 * k,0,6 + 2 * k] ++ rep 4 (7 + 2 * k) ++ [9 + 2 * m] ++ rep 4 (7 + 2 * k) ++ rep 4 (15 + 2 * m) ++ [8 + 2 * m,15 + 2 * m,15 + 2 * m]
noncomputable def hU5 (p m : Nat) : Nat → List Nat
  | 0 => []
  | j + 1 => hU5 p m j ++ (match keptB p m j with | true => hT5 m (belCf p m j) j | false => [])
noncomputable def h5' (p m : Nat) : List Nat := sf5 m h50 ++ hU5 p m m ++ [17 + 2 * m + belC p m]
noncomputable def rep7 : Nat → List Nat
  | 0 => []
  | n + 1 => 0 :: 0 :: 0 :: 0 :: 0 :: rep7 n
noncomputable def a5' (p m : Nat) : List Nat := [0,0,0,0,0,1,0,0,0,1,0,0,1] ++ rep7 (belC p m)
noncomputable def n5 (p m : Nat) : Nat := 562 + 167 * belC p m
noncomputable def upN (i : Nat) : Nat → List Nat
  | 0 => []
  | n + 1 => i :: upN (i + 1) n
noncomputable def ix5 (m : Nat) : List Nat := upN 0 (5 + 2 * m) ++ [11 + 2 * m,13 + 2 * m]
noncomputable def newI (sz tk : Nat) (N : NmM) : Inf := ⟨sz + 6,sz + 5,sz + 8,N.tm,tk + 23⟩
noncomputable def gO5 (p m aN : Nat) (I : Nat → Inf) : Nat → List (Nat × OE)
  | 0 => []
  | j + 1 => gO5 p m aN I j ++ (match keptB p m j with | true => [(34 + 7 * belCf p m j,dgO "dict.get" 3 (aN + 300) (nodE I (m + 1)) (m + 1) (j : Int) (.ref (I j).a))] | false => [])
section
variable (w : World) (it aB sz tk gz : Nat) (Z : SoT) (I : Nat → Inf) (tb : Nat → Nat) (N : NmM) (q pp : Pos) (rest : List Frame) (p m : Nat)
noncomputable def withS (N : NmM) (m aS aB : Nat) : NmM := { N with mv := m,aS := aS,bl := aB }
noncomputable def l5 (p m : Nat) : List (Nat × Obj) := [(269,frM w (sh2 m) (withS N m Z.aS aB)),(Z.aS,soS Z),(Z.aD,soD w.params Z),(Z.aN + 300,soN I m),(aB,Lo (belV p m tb).toArray (belC p m))] ++ infL p m I
noncomputable def l5' (p m : Nat) : List (Nat × Obj) := [(269,frM w (sh2 m) (withS N m Z.aS aB)),(Z.aS,soS Z),(Z.aD,soD w.params Z),(Z.aN + 300,soN (setI I m (newI sz tk N)) (m + 1)),(aB,Lo (belV p m tb).toArray (belC p m))] ++ infL p (m + 1) (setI I m (newI sz tk N))
noncomputable def m5 : Cf := st0 (tailF 3 (lG w it)) (lG w it) pp rest [(lFn w,q),callerC] [none,none] (l5 w aB Z I tb N p m) sz tk gz [] (h5' p m) (a5' p m) ((3,colO (6 + 2 * m) 4 (sz + 1) aB (belV p m tb).toArray (belC p m)) :: gO5 p m Z.aN (setI I m (newI sz tk N)) m)
noncomputable def m5o : Cf := out (En0 w 0) (n5 p m) (m5 w it aB sz tk gz Z I tb N q pp rest p m)
noncomputable def M5End (p m : Nat) : Prop := EndOf w 0 (n5 p m) (m5 w it aB sz tk gz Z I tb N q pp rest p m) (ix5 m)
  ⟨⟨tailF 4 (lG w it),lG w it,(m5o w it aB sz tk gz Z I tb N q pp rest p m).p,rest⟩,(l5' w aB sz tk Z I tb N p m).map some,tk + 25 + 8 * belC p m,sz + 12 + belC p m,gz,[],[]⟩
theorem m5_2 : ∀ m ∈ List.range 8,M5End w it aB sz tk gz Z I tb N q pp rest 2 m := all_of (by kernel_rfl)
theorem m5_3 : ∀ m ∈ List.range 8,M5End w it aB sz tk gz Z I tb N q pp rest 3 m := all_of (by kernel_rfl)
theorem m5_5 : ∀ m ∈ List.range 8,M5End w it aB sz tk gz Z I tb N q pp rest 5 m := all_of (by kernel_rfl)
theorem m5_7 : ∀ m ∈ List.range 8,M5End w it aB sz tk gz Z I tb N q pp rest 7 m := all_of (by kernel_rfl)
theorem m5_end (hp : p = 2 ∨ p = 3 ∨ p = 5 ∨ p = 7) (hm : m < 8) : M5End w it aB sz tk gz Z I tb N q pp rest p m := by
  rcases hp with rfl | rfl | rfl | rfl
  · exact m5_2 w it aB sz tk gz Z I tb N q pp rest m (List.mem_range.2 hm)
  · exact m5_3 w it aB sz tk gz Z I tb N q pp rest m (List.mem_range.2 hm)
  · exact m5_5 w it aB sz tk gz Z I tb N q pp rest m (List.mem_range.2 hm)
  · exact m5_7 w it aB sz tk gz Z I tb N q pp rest m (List.mem_range.2 hm)
end
noncomputable def setF (f : Nat → Nat) (m x : Nat) : Nat → Nat := fun j => match Nat.beq j m with | true => x | false => f j
section
variable (w : World) (it aW tp sz tk gz : Nat) (wd : Nat → Str) (tw : Nat → Nat) (N : NmM) (q pp : Pos) (rest : List Frame) (p m : Nat)
noncomputable def l6 (p m : Nat) : List (Nat × Obj) := [(269,frM w (sh2 m) (withM N m)),(271,Cel (.int p tp)),(275,Cel (.ref aW)),(aW,Lo (wdsL wd tw m).toArray m)]
noncomputable def m6 : Cf := st0 (tailF 4 (lG w it)) (lG w it) pp rest [(lFn w,q),callerC] [none,none] (l6 w aW tp wd tw N p m) sz tk gz [] [3,4,4,4,4,0,1,2,0] [] []
noncomputable def m6o : Cf := out (En0 w 0) 19 (m6 w it aW tp sz tk gz wd tw N q pp rest p m)
noncomputable def M6End (p m : Nat) : Prop := EndOf w 0 19 (m6 w it aW tp sz tk gz wd tw N q pp rest p m) [0,1,2,3]
  ⟨⟨den (wCall m p 3 N.tm tp tk),wCall m p 3 N.tm tp tk,(m6o w it aW tp sz tk gz wd tw N q pp rest p m).p,frS (m6o w it aW tp sz tk gz wd tw N q pp rest p m) (lG w it) rest⟩,(l6 w aW tp wd tw N p m).map some,tk + 1,sz,gz,[],[]⟩
theorem m6_end (hp : p = 2 ∨ p = 3 ∨ p = 5 ∨ p = 7) (hm : m < 8) : M6End w it aW tp sz tk gz wd tw N q pp rest p m := by
  have H : ∀ a b,(a,b) ∈ pmL → M6End w it aW tp sz tk gz wd tw N q pp rest a b := all2 (by kernel_rfl)
  exact H p m (mem_pm hp hm)
variable (tx sz2 tk2 gz2 : Nat) (pp2 : Pos)
noncomputable def m7 : Cf := st0 (kOf (m6o w it aW tp sz tk gz wd tw N q pp rest p m) (.ok (.ret (.str (wd m) tx)))) (lG w it) pp2 rest [(lFn w,q),callerC] [none,none] [(aW,Lo (wdsL wd tw m).toArray m)] sz2 tk2 gz2 [] [1,1,1,1] [] []
noncomputable def m7o : Cf := out (En0 w 0) 10 (m7 w it aW tp sz tk gz wd tw N q pp rest p m tx sz2 tk2 gz2 pp2)
noncomputable def M7End (p m : Nat) : Prop := EndOf w 0 10 (m7 w it aW tp sz tk gz wd tw N q pp rest p m tx sz2 tk2 gz2 pp2) [0]
  ⟨⟨tailF 5 (lG w it),lG w it,(m7o w it aW tp sz tk gz wd tw N q pp rest p m tx sz2 tk2 gz2 pp2).p,rest⟩,[(aW,Lo (wdsL wd (setF tw m tx) (m + 1)).toArray (m + 1))].map some,tk2,sz2,gz2,[],[]⟩
theorem m7_end (hp : p = 2 ∨ p = 3 ∨ p = 5 ∨ p = 7) (hm : m < 8) : M7End w it aW tp sz tk gz wd tw N q pp rest tx sz2 tk2 gz2 pp2 p m := by
  have H : ∀ a b,(a,b) ∈ pmL → M7End w it aW tp sz tk gz wd tw N q pp rest tx sz2 tk2 gz2 pp2 a b := all2 (by kernel_rfl)
  exact H p m (mem_pm hp hm)
end
noncomputable def vpF (p : Nat) : Nat → Nat → Nat
  | 0,_ => 0
  | f + 1,j => match j with
    | 0 => 0
    | i + 1 => match Nat.beq ((i + 1) % p) 0 with
      | true => vpF p f ((i + 1) / p) + 1
      | false => 0
noncomputable def vpN (p j : Nat) : Nat := vpF p 3 j
noncomputable def oftV (p : Nat) : Nat → Nat
  | 0 => 0
  | j + 1 => oftV p j + vpN p j
noncomputable def lev (p j : Nat) : Int := (j : Int) - ((p : Int) - 1) * (oftV p (j + 1) : Int)
noncomputable def levV (p : Nat) (tv : Nat → Nat) : Nat → List Value
  | 0 => []
  | j + 1 => levV p tv j ++ [.int (lev p j) (tv j)]
noncomputable def hT7 : Nat → List Nat
  | 0 => []
  | j + 1 => rep 9 9 ++ [11,11,3,11] ++ rep 5 4 ++ [3,11] ++ rep 5 4 ++ rep 4 10 ++ hT7 j
noncomputable def hV7 : Nat → Nat → List Nat
  | _,0 => []
  | F,v + 1 => [1,1,2] ++ rep 4 F ++ rep 5 (F + 1) ++ [F] ++ rep 6 (F + 1) ++ [F] ++ rep 6 (F + 1) ++ [F] ++ rep 2 (F + 1) ++ [F + 3] ++ rep 6 1 ++ [2] ++ hV7 (F + 4) v
noncomputable def hS7 (p m : Nat) : List Nat := [0,0,1] ++ rep 10 8 ++ rep 2 9 ++ hT7 m ++ rep 5 9 ++ [13,11] ++ (match m with | 0 => [] | _ => [11,11]) ++ [7,10,7,7,10,7,10,14,15,14,14,15,14,15,3,3,1] ++
  (match m with | 0 => [1,1,1] | _ => [1,1,1,1,2] ++ hV7 17 (vpN p m)) ++ [5] ++ rep 4 6 ++ [1,2,1] ++ rep 4 6
noncomputable def repA : Nat → List Nat
  | 0 => []
  | v + 1 => 1 :: 1 :: 0 :: 0 :: 1 :: repA v
noncomputable def a7 (p m : Nat) : List Nat := match m with
  | 0 => [1,0,1]
  | _ => [1] ++ rep (m + 1) 0 ++ [1] ++ repA (vpN p m) ++ [1]
noncomputable def n7 (p m : Nat) : Nat := match m with
  | 0 => 157
  | _ => 176 + 66 * m + 102 * vpN p m
noncomputable def dt7 (p m : Nat) : Nat := match m with
  | 0 => 10
  | _ => 12 + 5 * m + 8 * vpN p m
noncomputable def rowT (m tk : Nat) : Nat → Nat := fun k => match k with
  | 0 => tk
  | k + 1 => match Nat.ble (k + 1) m with
    | true => tk + 2 + 5 * (k + 1)
    | false => tk + 5 * m + 3
noncomputable def nm7 (p m tk : Nat) (N : NmM) : NmM := { N with
  mv := m,oft := (oftV p (m + 1) : Int),k11 := (match m with | 0 => tk + 4 | _ => N.k11),
  to := (match vpN p m with | 0 => N.to | v + 1 => tk + 5 * m + 1 + 8 * (v + 1)),tpa := (match vpN p m with | 0 => N.tm | v + 1 => tk + 5 * m + 2 + 8 * (v + 1)),pv := (m / p ^ vpN p m : Nat) }
section
variable (w : World) (it aR aV tp sz tk gz : Nat) (tr tv : Nat → Nat) (N : NmM) (q pp : Pos) (rest : List Frame) (p m : Nat)
noncomputable def l8 (p m : Nat) : List (Nat × Obj) := [(269,frM w (sh2 m) (withMO N m (oftV p m))),(271,Cel (.int p tp)),(274,Cel (.ref aR)),(aR,Lo (rowV m tr).toArray 0),(276,Cel (.ref aV)),(aV,Lo (levV p tv m).toArray m)]
noncomputable def l8' (p m : Nat) : List (Nat × Obj) := [(269,frM w 3 (nm7 p m tk N)),(271,Cel (.int p tp)),(274,Cel (.ref (sz + 9))),(sz + 9,Lo (rowV (m + 1) (rowT m tk)).toArray 0),(276,Cel (.ref aV)),(aV,Lo (levV p (setF tv m (tk + (dt7 p m - 1))) (m + 1)).toArray (m + 1))]
noncomputable def m8 : Cf := st0 (tailF 5 (lG w it)) (lG w it) pp rest [(lFn w,q),callerC] [none,none] (l8 w aR aV tp tr tv N p m) sz tk gz [] (hS7 p m) (a7 p m) []
noncomputable def m8o : Cf := out (En0 w 0) (n7 p m) (m8 w it aR aV tp sz tk gz tr tv N q pp rest p m)
noncomputable def M8End (p m : Nat) : Prop := EndOf w 0 (n7 p m) (m8 w it aR aV tp sz tk gz tr tv N q pp rest p m) [0,1,2,15,4,5]
  ⟨⟨den (lG w it),lG w it,(m8o w it aR aV tp sz tk gz tr tv N q pp rest p m).p,rest⟩,(l8' w aV tp sz tk tv N p m).map some,tk + dt7 p m,sz + 10 + 4 * vpN p m,gz,[],[]⟩
theorem m8_end (hp : p = 2 ∨ p = 3 ∨ p = 5 ∨ p = 7) (hm : m < 8) : M8End w it aR aV tp sz tk gz tr tv N q pp rest p m := by
  have H : ∀ a b,(a,b) ∈ pmL → M8End w it aR aV tp sz tk gz tr tv N q pp rest a b := all2 (by kernel_rfl)
  exact H p m (mem_pm hp hm)
end
noncomputable def s8D (w : World) : Cf := s8o w 0 0 0 0 0 0 0 0 0 0 0 0 0 0 default default 0 0 0 0 default default 0 0 0 0 default 0 0 0 0 0 0 0 false default
theorem s8D_eq {w : World} {A : Cf} (h : IsS8 w A) : kOf A = kOf (s8D w) ∧ frG A = frG (s8D w) ∧ frL A = frL (s8D w) ∧ frPos A = frPos (s8D w) := by
  cases h
  refine ⟨?_,?_,?_,?_⟩ <;> (unfold s8D; kernel_rfl)
noncomputable def Z9 (sz tk aN : Nat) : SoT := ⟨sz + 3,sz + 2,aN,tk + 3,tk + 5,tk + 8,tk + 11,tk + 6,tk + 9⟩
noncomputable def soDr (P : Params) (aN tk : Nat) : Obj := dcT P [("_node2info",tk + 3,.ref aN),("_ready_nodes",tk + 5,.none),("_npassedout",tk + 8,.int 0 (tk + 6)),("_nfinished",tk + 11,.int 0 (tk + 9))] 4
theorem soD_r (P : Params) (sz tk aN : Nat) : soD P (Z9 sz tk aN) = soDr P (aN + 300) tk := rfl
noncomputable def N9 (N : Nm6) (ch : Int) (tc : Nat) (kv : Int) (sz tk : Nat) : NmM := ⟨N.k0,N.k1,N.k2,N.k3,N.k4,N.k5,N.k6,tk + 14,tk + 15,0,0,0,N.td,N.tn,N.tpt,tc,N.tk6,tk + 13,0,0,sz + 3,0,N.d,N.n,ch,kv,0,0,0,N.x⟩
section
variable (w : World) (it sz tk gz tc : Nat) (N : Nm6) (ch kv : Int) (I : Nat → Inf) (pp : Pos)
noncomputable def with295 (N : Nm6) : Nm6 := { N with oa := 295 }
noncomputable def l9 : List (Nat × Obj) := [(269,frK w 1 (with295 N) ch tc kv),(274,cel0),(275,cel0),(276,cel0),(it,Rt1 25 0)]
noncomputable def l9' : List (Nat × Obj) := [(269,frM w 0 (N9 N ch tc kv sz tk)),(274,Cel (.ref (sz + 6))),(275,Cel (.ref (sz + 7))),(276,Cel (.ref (sz + 8))),(sz + 3,soS (Z9 sz tk 0)),(sz + 2,soDr w.params (sz + 5) tk),(sz + 5,soN I 0),
  (sz + 6,Lo (rowV 0 fun _ => tk + 12).toArray 0),(sz + 7,Lo #[] 0),(sz + 8,Lo #[] 0),(sz + 14,Rt1 0 8)]
noncomputable def hS9 : List Nat := [5,5,5,5,5,7,0,0,0,0,0,0,0,0,0,0,0,0,0,0,0,0,0,0,0,0,0,0,0,0,9,0,9,0,0,0,0,0,0,0,10,10,10,10,0,10,9,0,0,0,9,0,9,0,9,0,0,0,9,0,8,8,8,10,9,0,0,0,9,0,9,0,9,0,0,0,9,0,8,8,8,10,9,0,0,0,9,0,9,0,9,0,0,0,9,0,8,8,8,10,9,0,0,0,9,0,9,0,9,0,0,0,9,0,8,8,8,10,15,15,15,15,16,16,16,16,16,15,16,16,16,16,16,16,15,16,16,16,16,16,16,15,16,16,16,16,16,16,15,16,16,16,16,16,16,15,16,16,16,16,16,16,15,16,16,18,1,1,2,2,3,3,1,1,4,4,0,0,19,19,19,19,19,19,19,19,19,19,20]
noncomputable def m9 : Cf := st0 (den (lF w it)) (lF w it) pp (frS (s8D w) (lFn w) (lSt w)) [(lFn w,frPos (s8D w)),callerC] [none,none,none] (l9 w it tc N ch kv) sz tk gz [] hS9 [0,0,0,0,0,0,1,0,0,1] []
noncomputable def m9o : Cf := out (En0 w 0) 348 (m9 w it sz tk gz tc N ch kv pp)
noncomputable def m9D (w : World) : Cf := m9o w 0 0 0 0 0 ⟨0,0,0,0,0,0,0,0,0,0,0,0,0,0,default⟩ 0 0 default
noncomputable def M9End : Prop := EndOf w 0 348 (m9 w it sz tk gz tc N ch kv pp) [0,1,2,3,8,7,10,11,12,13,19]
  ⟨⟨den (lG w (sz + 14)),lG w (sz + 14),(m9o w it sz tk gz tc N ch kv pp).p,frS (m9D w) (lFn w) (lSt w)⟩,(l9' w sz tk tc N ch kv I).map some,tk + 19,sz + 15,gz,[],[]⟩
theorem m9_end : M9End w it sz tk gz tc N ch kv I pp := by unfold M9End EndOf; kernel_rfl
end
theorem OwnN.pick {l tl l' : List (Nat × Obj)} {h : Heap} (ix : List Nat) (O : OwnN (l ++ tl) h) (e : ix.map (fun i => l[i]?) = l'.map some) (nd : ix.Nodup) : OwnN (l' ++ tl) h := by
  have nd0 := O.nd
  rw [List.map_append] at nd0
  obtain ⟨nd1,nd2,nd3⟩ := List.nodup_append.1 nd0
  have el : ix.length = l'.length := by simpa using congrArg List.length e
  have at' : ∀ (i : Nat) (h1 : i < l'.length),∃ h2 : i < ix.length,l[ix[i]]? = some l'[i] := fun i h1 => by
    have h2 : i < ix.length := by lia
    have := congrArg (fun q => q[i]?) e
    simp only [List.getElem?_map,List.getElem?_eq_getElem h1,List.getElem?_eq_getElem h2,Option.map_some] at this
    exact ⟨h2,Option.some.inj this⟩
  have mem : ∀ y ∈ l',y ∈ l := fun y hy => by
    obtain ⟨i,h1,rfl⟩ := List.getElem_of_mem hy
    obtain ⟨h2,e2⟩ := at' i h1
    exact List.mem_of_getElem? e2
  refine ⟨fun y hy => ?_,?_,O.lo⟩
  · rcases List.mem_append.1 hy with hy | hy
    · exact O.get y (List.mem_append.2 (.inl (mem y hy)))
    · exact O.get y (List.mem_append.2 (.inr hy))
  · rw [List.map_append]
    refine List.nodup_append.2 ⟨?_,nd2,?_⟩
    · rw [List.nodup_iff_pairwise_ne,List.pairwise_iff_getElem]
      intro i j hi hj hij ne
      rw [List.getElem_map,List.getElem_map] at ne
      have hi' : i < l'.length := by simpa using hi
      have hj' : j < l'.length := by simpa using hj
      obtain ⟨i2,ei⟩ := at' i hi'
      obtain ⟨j2,ej⟩ := at' j hj'
      obtain ⟨bi,ei⟩ := List.getElem?_eq_some_iff.1 ei
      obtain ⟨bj,ej⟩ := List.getElem?_eq_some_iff.1 ej
      rw [← ei,← ej] at ne
      have ne2 : (l.map (·.1))[ix[i]]'(by simpa using bi) = (l.map (·.1))[ix[j]]'(by simpa using bj) := by simpa using ne
      have := (List.getElem_inj nd1).1 ne2
      have := (List.getElem_inj nd).1 this
      lia
    · intro a ha b hb
      obtain ⟨y,hy,rfl⟩ := List.mem_map.1 ha
      exact nd3 _ (List.mem_map.2 ⟨y,mem y hy,rfl⟩) b hb
theorem OwnN.perm {l l' : List (Nat × Obj)} {h : Heap} (O : OwnN l h) (p : l.Perm l') : OwnN l' h :=
  ⟨fun y hy => O.get y (p.mem_iff.2 hy),(p.map _).nodup_iff.1 O.nd,O.lo⟩
theorem OwnN.push {l : List (Nat × Obj)} {a : Nat} {o : Obj} {s s' : Shared} (O : OwnN l s.heap) (X : Ext (fun _ => False) s s') (h : s'.heap.get? a = some o) (lo : s.heap.objs.size ≤ a) (l2 : 269 ≤ a) : OwnN ((a,o) :: l) s'.heap := by
  refine ⟨fun y hy => ?_,?_,Nat.le_trans O.lo X.size⟩
  · rcases List.mem_cons.1 hy with rfl | hy
    · exact ⟨l2,h⟩
    · exact ⟨(O.get y hy).1,X.same (O.get y hy).2⟩
  · rw [List.map_cons]
    refine List.nodup_cons.2 ⟨fun hm => ?_,O.nd⟩
    obtain ⟨y,hy,e⟩ := List.mem_map.1 hm
    have := Heap.lt_size (O.get y hy).2
    have e : y.1 = a := e
    rw [e] at this
    exact absurd this (Nat.not_lt.mpr lo)
theorem OwnN.tail {y : Nat × Obj} {l : List (Nat × Obj)} {h : Heap} (O : OwnN (y :: l) h) : OwnN l h :=
  ⟨fun z hz => O.get z (.tail _ hz),(List.nodup_cons.1 O.nd).2,O.lo⟩
theorem OwnN.lt {l : List (Nat × Obj)} {h : Heap} (O : OwnN l h) : ∀ y ∈ l,y.1 < h.objs.size := fun y hy => Heap.lt_size (O.get y hy).2
noncomputable def cxM (w : World) (it : Nat) (p q : Pos) : Cx := match nthS (lB w) 9 with
  | .For t _ b o _ => .L t (.ref it) b o (lEv w) p (lB w) (lEv w) q
  | _ => .D [] default default
theorem cxM_c (w : World) (it : Nat) (p q : Pos) : (cxM w it p q).c = lG w it := by kernel_rfl
theorem cxM_p (w : World) (it : Nat) (p q : Pos) : (cxM w it p q).p = p := by kernel_rfl
theorem cxM_sw (w : World) (it : Nat) (p q : Pos) : (cxM w it p q).sw = [(lFn w,q),callerC] := by kernel_rfl
theorem cxM_l1 (w : World) (it : Nat) (p q : Pos) : (cxM w it p q).l1 = true := by kernel_rfl
theorem cxM_dl (w : World) (it : Nat) (p q : Pos) : (cxM w it p q).dl = true := by kernel_rfl
noncomputable def cxC (w : World) (it zz : Nat) (p p1 q : Pos) : Cx := match nthS (lB w) 9,mCC w it zz with
  | .For t _ b o _,.compLoop (.ListComp elt gs sc xp) d i acc e1 => .C elt gs sc xp d i acc e1 p1 t (.ref it) b o (lEv w) p (lB w) (lEv w) q
  | _,_ => .D [] default default
theorem cxC_c (w : World) (it zz : Nat) (p p1 q : Pos) : (cxC w it zz p p1 q).c = mCC w it zz := by kernel_rfl
theorem cxC_p (w : World) (it zz : Nat) (p p1 q : Pos) : (cxC w it zz p p1 q).p = p1 := by kernel_rfl
theorem cxC_sw (w : World) (it zz : Nat) (p p1 q : Pos) : (cxC w it zz p p1 q).sw = [(lG w it,p),(lFn w,q),callerC] := by kernel_rfl
theorem cxC_lc (w : World) (it zz : Nat) (p p1 q : Pos) : (cxC w it zz p p1 q).lc = true := by kernel_rfl
noncomputable def dgs (p : Nat) : Nat → Nat → List Nat
  | 0,_ => []
  | f + 1,m => match m with
    | 0 => []
    | k + 1 => (k + 1) % p :: dgs p f ((k + 1) / p)
theorem dgs_digs {p : Nat} (hp : p = 2 ∨ p = 3 ∨ p = 5 ∨ p = 7) : ∀ (f m : Nat),m < 2 ^ f → m < 100 → Digs p m (dgs p f m) 0
  | 0,m,h,_ => by
    have : m = 0 := by lia
    subst this
    exact .zero
  | f + 1,0,_,_ => .zero
  | f + 1,k + 1,h,h2 => by
    have p2 : 2 ≤ p := by lia
    have lt : (k + 1) / p < 2 ^ f := by
      rw [Nat.div_lt_iff_lt_mul (by lia)]
      rw [Nat.pow_succ] at h
      calc k + 1 < 2 ^ f * 2 := h
        _ ≤ 2 ^ f * p := Nat.mul_le_mul_left _ p2
    have le : (k + 1) / p < 100 := Nat.lt_of_le_of_lt (Nat.div_le_self _ _) h2
    refine .step (by lia) (by lia) (by rw [Int.fmod_eq_emod_of_nonneg _ (by lia)]; rfl) (noPy ?_) ?_
    · have : ((p : Int)).natAbs = p := by lia
      rw [this]
      have : p.log2 < 3 := (Nat.log2_lt (by lia)).2 (Nat.lt_of_le_of_lt (m := 7) (by lia) (by decide))
      lia
    · rw [Int.fdiv_eq_ediv_of_nonneg _ (by lia)]
      exact dgs_digs hp f _ lt le
theorem dgs_facts : ∀ p ∈ [2,3,5,7],∀ m < 8,(dgs p 3 m).length ≤ 3 ∧ (∀ f ∈ dgs p 3 m,f < p) := by decide +kernel
theorem m_takes : ∀ p ∈ [2,3,5,7],∀ d < 2,∀ m < 8,∀ k < m,takesL ((tksOf p d 3 (dgs p 3 m) 0).map Tk.item) ((wordL k p 3).drop (3 - 3)) = keptB p m k := by decide +kernel
noncomputable def shm : Nat → Nat
  | 0 => 0
  | _ => 3
noncomputable def wdF (p : Nat) : Nat → Str := fun k => wordS k p 3
noncomputable def mRest (w : World) (p m aR aW aV : Nat) (tr tw tv : Nat → Nat) (Z : SoT) (I : Nat → Inf) : List (Nat × Obj) :=
  [(274,Cel (.ref aR)),(aR,Lo (rowV m tr).toArray 0),(275,Cel (.ref aW)),(aW,Lo (wdsL (wdF p) tw m).toArray m),(276,Cel (.ref aV)),(aV,Lo (levV p tv m).toArray m),(Z.aS,soS Z),(Z.aD,soD w.params Z),(Z.aN + 300,soN I m)] ++ infL p m I
theorem mv_mM (sh : Nat) (N : NmM) (m t k : Nat) (h : sh = 0 ∨ sh = 3) : withM (setM sh N m t k) m = setM sh N m t k ∧ (setM sh N m t k).d = N.d ∧ (setM sh N m t k).oft = N.oft ∧ (setM sh N m t k).aS = N.aS := by
  rcases h with rfl | rfl <;> exact ⟨rfl,rfl,rfl,rfl⟩
theorem OwnN.push2 {l : List (Nat × Obj)} {a b : Nat} {o o2 : Obj} {s s' : Shared} (O : OwnN l s.heap) (X : Ext (fun _ => False) s s') (h : s'.heap.get? a = some o) (lo : s.heap.objs.size ≤ a) (l2 : 269 ≤ a) (lt : a < b) (h2 : s'.heap.get? b = some o2) : OwnN ((b,o2) :: (a,o) :: l) s'.heap := by
  have P := O.push X h lo l2
  refine ⟨fun y hy => ?_,?_,P.lo⟩
  · rcases List.mem_cons.1 hy with rfl | hy
    · exact ⟨Nat.le_trans l2 (Nat.le_of_lt lt),h2⟩
    · exact P.get y hy
  · rw [List.map_cons]
    refine List.nodup_cons.2 ⟨fun hm => ?_,P.nd⟩
    refine xE1 (List.mem_map.1 hm) fun y hx => xA1 hx fun hy e => ?_; clear hx
    have e : y.1 = b := e
    rcases List.mem_cons.1 hy with rfl | hy
    · exact absurd e (Nat.ne_of_lt lt)
    · have := O.lt y hy
      rw [e] at this
      exact absurd this (Nat.not_lt.mpr (Nat.le_trans lo (Nat.le_of_lt lt)))
section
variable {w : World} {it p d m : Nat} {rest : List Frame} {q : Pos} (U : Und rest [(lFn w,q),callerC]) (hH : HOk rest [none,none])
include U hH
theorem m_AD {s : Shared} {tp Li0 : Nat} {b0 : Bool} {N : NmM} {l2 : List (Nat × Obj)} {warm : Bool} {c1 c2 : Nat} (hp : p ∈ [2,3,5,7]) (hd : d < 2) (hm : m < 8) (hN : N.d = d) (I : Inv w s) (Tb : Tab s warm c1 c2)
    (O : OwnN ([(269,frM w (shm m) N),(271,Cel (.int p tp)),(it,Rt1 m (8 - m)),(272,Cel (.bool b0)),(273,Cel (.ref Li0))] ++ l2) s.heap) (pp : Pos) :
    ∃ s' N' Li ep vs hi warm' c1' c2' pp',N'.d = (d : Int) ∧ N'.oft = N.oft ∧ N'.aS = N.aS ∧ Inv w s' ∧ Tab s' warm' c1' c2' ∧ Ext U9 s s' ∧ s.heap.objs.size ≤ Li ∧ Li < hi ∧ hi ≤ s'.heap.objs.size ∧
      OwnN ([(Li,Lo vs ep),(269,frM w (shM m) (withM N' m)),(271,Cel (.int p tp)),(it,Rt1 (m + 1 : Nat) (8 - (m + 1 : Nat))),(272,Cel (.bool false)),(273,Cel (.ref Li))] ++ l2) s'.heap ∧
      ItemsR Li hi s' vs.toList ((tksOf p d 3 (dgs p 3 m) 0).map Tk.item) ∧
      ∀ Z,Good w Z s' ⟨tailF 1 (lG w it),lG w it,pp',rest⟩ → Good w Z s ⟨den (lG w it),lG w it,pp,rest⟩ := by
  refine gv fun GG hGG => ?_
  have hsh : shm m = 0 ∨ shm m = 3 := by cases m <;> simp [shm]
  have esh : shA (shm m) = shM m := by cases m <;> rfl
  have p0 : (p : Int) ≠ 0 := by
    have : p ≠ 0 := by intro h; subst h; simp at hp
    lia
  have hp' : p = 2 ∨ p = 3 ∨ p = 5 ∨ p = 7 := by simpa using hp
  obtain ⟨dl,df⟩ := dgs_facts p hp m hm
  have D := dgs_digs hp' 3 m hm (by lia)
  have hmf : ∀ f ∈ dgs p 3 m,(p,d,f) ∈ pdfs := fun f h => pdfs_of hp hd (df f h)
  have tl : (tksOf p d 3 (dgs p 3 m) 0).length ≤ 30 := by rw [tks_len]; split <;> lia
  have lo := I.lo
  have HA := mA_end w it tp p d s.heap.objs.size s.toks s.gens.size N q pp rest m (shm m) hN hsh hm
  unfold MAEnd at HA
  refine segFE (f := mA w it tp p s.heap.objs.size s.toks s.gens.size N q pp rest m (shm m)) (l2 := [(272,Cel (.bool b0)),(273,Cel (.ref Li0))] ++ l2) (l1' := [(269,frM w (shA (shm m)) (setM (shm m) N m s.toks (s.toks + 1))),(271,Cel (.int p tp)),(it,Rt1 (m + 1 : Nat) (7 - m))]) rfl I O U.w hH (by decide) HA (fun _ h => nomatch h) fun s1 I1 O1 fr1 X1 etk1 esz1 egz1 G1 => ?_
  refine xA3 (mv_mM (shm m) N m s.toks (s.toks + 1) hsh) fun eN1 eN2 eN3 eN4 => ?_
  generalize hA : mAo w it tp p s.heap.objs.size s.toks s.gens.size N q pp rest m (shm m) = A at G1
  have T1 : Tab s1 warm c1 c2 := X1.keep _ _ Tb fun h => by
    refine xE1 h fun z hx => xA1 hx fun hz e => ?_; clear hx; clear h
    have := (O.get z (List.mem_append.2 (.inl (by
      simp only [List.mem_cons,List.not_mem_nil,or_false] at hz ⊢
      rcases hz with rfl | rfl | rfl <;> simp)))).1
    lia
  refine xE2 (pat_call (cx := cxM w it (frPos A) q) (z := 3) (p := p) (d := d) (k := kOf A) (g := frG A) (lv := frL A) (rest := rest) (cxM_dl w it _ q) (by rw [cxM_sw]; exact U) I1 (t1 := s.toks) (t2 := tp) (t3 := s.toks + 2) (t4 := N.td) D p0 hmf (by lia) (by lia) (by lia) A.p) fun s2 v2 hx => xA2 hx fun hv2 X2 G2 => ?_; clear hx
  obtain ⟨tx,rfl⟩ := strip_s hv2
  have I2 := X2.inv I1 fun _ h => h.elim
  have O2 := O1.same X2
  have T2 : Tab s2 warm c1 c2 := X2.same T1
  rw [cxM_c,cxM_p] at G2
  have HB := mB_end w it tp p s.heap.objs.size s.toks s.gens.size N q pp rest m (shm m) (patS p d 3 (dgs p 3 m) 0) tx s2.heap.objs.size s2.toks s2.gens.size (frPos A) hsh hm
  unfold MBEnd at HB
  refine segFE (f := mB w it tp p s.heap.objs.size s.toks s.gens.size N q pp rest m (shm m) (patS p d 3 (dgs p 3 m) 0) tx s2.heap.objs.size s2.toks s2.gens.size (frPos A)) (l1 := []) (l1' := []) (l2 := _) (ix := []) rfl I2 O2 U.w hH (by decide) HB (fun _ h => nomatch h) fun s3 I3 O3 _ X3 _ _ _ G3 => ?_
  have X3' : Ext (fun _ => False) s2 s3 := X3.mono fun b h => by refine xE1 h fun z hx => xA1 hx fun hz _ => ?_; clear hx; clear h; cases hz
  generalize hB : mBo w it tp p s.heap.objs.size s.toks s.gens.size N q pp rest m (shm m) (patS p d 3 (dgs p 3 m) 0) tx s2.heap.objs.size s2.toks s2.gens.size (frPos A) = B at G3
  have T3 : Tab s3 warm c1 c2 := X3'.same T2
  refine xE6 (tr_any (cx := cxM w it (frPos B) q) (k := kOf B) (g := frG B) (lv := frL B) (rest := rest) (t1 := tx) (cxM_dl w it _ q) (by rw [cxM_sw]; exact U) I3 T3 hmf tl B.p) fun s4 ty warm' c1' c2' y hx => xA4 hx fun X4 T4 ey ly G4 => ?_; clear hx
  have I4 := X4.inv I3 fun b hb => .inr (.inl hb)
  rw [cxM_c,cxM_p] at G4
  have O4 := O3.keep85 X4
  have HC := mC_end w it tp p s.heap.objs.size s.toks s.gens.size N q pp rest m (shm m) (patS p d 3 (dgs p 3 m) 0) tx s2.heap.objs.size s2.toks s2.gens.size (frPos A) y ty s4.heap.objs.size s4.toks s4.gens.size (frPos B) hsh hm
  unfold MCEnd at HC
  refine segFE (f := mC w it tp p s.heap.objs.size s.toks s.gens.size N q pp rest m (shm m) (patS p d 3 (dgs p 3 m) 0) tx s2.heap.objs.size s2.toks s2.gens.size (frPos A) y ty s4.heap.objs.size s4.toks s4.gens.size (frPos B)) (l1 := []) (l1' := []) (l2 := _) (ix := []) rfl I4 O4 U.w hH (by decide) HC (fun _ h => nomatch h) fun s5 I5 O5 _ X5 _ _ _ G5 => ?_
  have X5' : Ext (fun _ => False) s4 s5 := X5.mono fun b h => by refine xE1 h fun z hx => xA1 hx fun hz _ => ?_; clear hx; clear h; cases hz
  have T5 : Tab s5 warm' c1' c2' := X5'.same T4
  generalize hC : mCo w it tp p s.heap.objs.size s.toks s.gens.size N q pp rest m (shm m) (patS p d 3 (dgs p 3 m) 0) tx s2.heap.objs.size s2.toks s2.gens.size (frPos A) y ty s4.heap.objs.size s4.toks s4.gens.size (frPos B) = C at G5
  refine xE5 (i_call (cx := cxM w it (frPos C) q) (k := kOf C) (g := frG C) (lv := frL C) (rest := rest) (t1 := ty) (cxM_dl w it _ q) (by rw [cxM_sw]; exact U) I5 ey (by lia) ly C.p) fun s6 T Li ep vs hx => xA6 hx fun X6 lLi hLi ltT hT its G6 => ?_; clear hx
  have I6 := X6.inv I5 fun _ h => h.elim
  rw [cxM_c,cxM_p] at G6
  have T6 : Tab s6 warm' c1' c2' := X6.same T5
  have lo5 := I5.lo
  have r6 : Ext (fun _ => False) s6 s6 := Ext.refl I6
  have O6 := O5.push2 X6 hLi lLi (Nat.le_trans O5.lo lLi) ltT hT
  have HD := mD_end w it Li0 tp p s.heap.objs.size s.toks s.gens.size N q pp rest m (shm m) (patS p d 3 (dgs p 3 m) 0) tx s2.heap.objs.size s2.toks s2.gens.size (frPos A) y ty s4.heap.objs.size s4.toks s4.gens.size (frPos B) T Li s6.heap.objs.size s6.toks s6.gens.size (decide ((0 : Int) = -1)) b0 (frPos C) hsh hm
  unfold MDEnd at HD
  have O6' : OwnN ([(272,Cel (.bool b0)),(273,Cel (.ref Li0)),(T,Tup [.bool (decide ((0 : Int) = -1)),.ref Li])] ++ ([(Li,Lo vs ep),(269,frM w (shA (shm m)) (setM (shm m) N m s.toks (s.toks + 1))),(271,Cel (.int p tp)),(it,Rt1 (m + 1 : Nat) (7 - m))] ++ l2)) s6.heap :=
    OwnN.pick (l := [(T,Tup [.bool (decide ((0 : Int) = -1)),.ref Li]),(Li,Lo vs ep),(269,frM w (shA (shm m)) (setM (shm m) N m s.toks (s.toks + 1))),(271,Cel (.int p tp)),(it,Rt1 (m + 1 : Nat) (7 - m)),(272,Cel (.bool b0)),(273,Cel (.ref Li0))]) (l' := [(272,Cel (.bool b0)),(273,Cel (.ref Li0)),(T,Tup [.bool (decide ((0 : Int) = -1)),.ref Li]),(Li,Lo vs ep),(269,frM w (shA (shm m)) (setM (shm m) N m s.toks (s.toks + 1))),(271,Cel (.int p tp)),(it,Rt1 (m + 1 : Nat) (7 - m))]) [5,6,0,1,2,3,4] O6 rfl (by decide)
  refine segFEp (f := mD w it Li0 tp p s.heap.objs.size s.toks s.gens.size N q pp rest m (shm m) (patS p d 3 (dgs p 3 m) 0) tx s2.heap.objs.size s2.toks s2.gens.size (frPos A) y ty s4.heap.objs.size s4.toks s4.gens.size (frPos B) T Li s6.heap.objs.size s6.toks s6.gens.size (decide ((0 : Int) = -1)) b0 (frPos C)) (l1' := [(272,Cel (.bool (decide ((0 : Int) = -1)))),(273,Cel (.ref Li)),(T,Tup [.bool (decide ((0 : Int) = -1)),.ref Li])]) rfl I6 O6' U.w hH (by decide) HD (fun _ h => nomatch h) fun s7 pz3 I7 O7 fr7 X7 _ esz7 _ G7 => ?_
  rw [hA] at G3
  rw [hB] at G5
  rw [hC] at G7
  have big : ∀ b,(∃ z ∈ [(272,Cel (.bool b0)),(273,Cel (.ref Li0)),(T,Tup [.bool (decide ((0 : Int) = -1)),.ref Li])],z.1 = b) → b = 272 ∨ b = 273 ∨ b = T := by
    rintro b ⟨z,hz,rfl⟩
    simp only [List.mem_cons,List.not_mem_nil,or_false] at hz
    rcases hz with rfl | rfl | rfl
    · exact .inl rfl
    · exact .inr (.inl rfl)
    · exact .inr (.inr rfl)
  have T7 : Tab s7 warm' c1' c2' := X7.keep _ _ T6 fun h => by
    have := big _ h
    lia
  have s05 : s.heap.objs.size ≤ s5.heap.objs.size := Nat.le_trans X1.size (Nat.le_trans X2.size (Nat.le_trans X3.size (Nat.le_trans X4.size X5.size)))
  have lo0 : 274 ≤ s.heap.objs.size := Nat.succ_le_of_lt (O.lt (273,Cel (.ref Li0)) (.tail _ (.tail _ (.tail _ (.tail _ (.head _))))))
  have X7' : Ext (fun b => b = 272 ∨ b = 273) s6 s7 := X7.drop fun b o e hu nv => by
    rcases big b hu with h | h | h
    · exact absurd (.inl h) nv
    · exact absurd (.inr h) nv
    · rw [h] at e ⊢; rw [hT] at e; cases e; exact (O7.get (T,_) (.tail _ (.tail _ (.head _)))).2
  have E7 : Ext U9 s s7 := ((((((OwnN.ext (l2 := [(272,Cel (.bool b0)),(273,Cel (.ref Li0))] ++ l2) O X1).t9 X2.no).t9 X3'.no).t9 (X4.mono fun _ h => .inl h)).t9 X5'.no).t9 X6.no).t9 (OwnN.ext O6' X7)
  have its7 : ItemsR Li s6.heap.objs.size s7 vs.toList ((tksOf p d 3 (dgs p 3 m) 0).map Tk.item) := its.toR.keep X7' fun b hb => .inl (by lia)
  refine hGG (yE10 s7 (setM (shm m) N m s.toks (s.toks + 1)) Li ep vs s6.heap.objs.size warm' c1' c2' _ ⟨eN2.trans hN,eN3,eN4,I7,T7,E7,Nat.le_trans s05 lLi,Heap.lt_size hLi,X7.size,?_,its7,fun Z q => G1 Z (G2 Z (G3 Z (G4 Z (G5 Z (G6 Z (G7 Z q))))))⟩)
  rw [eN1,← esh,show (8 : Int) - ((m + 1 : Nat) : Int) = 7 - m by lia]
  exact OwnN.pick (l := [(272,Cel (.bool (decide ((0 : Int) = -1)))),(273,Cel (.ref Li)),(T,Tup [.bool (decide ((0 : Int) = -1)),.ref Li]),(Li,Lo vs ep),(269,frM w (shA (shm m)) (setM (shm m) N m s.toks (s.toks + 1))),(271,Cel (.int p tp)),(it,Rt1 (m + 1 : Nat) (7 - m))]) (l' := [(Li,Lo vs ep),(269,frM w (shA (shm m)) (setM (shm m) N m s.toks (s.toks + 1))),(271,Cel (.int p tp)),(it,Rt1 (m + 1 : Nat) (7 - m)),(272,Cel (.bool (decide ((0 : Int) = -1)))),(273,Cel (.ref Li))]) [3,4,5,6,0,1] O7 rfl (by decide)
end
theorem belVf_congr (p m : Nat) {t u : Nat → Nat} : ∀ n,(∀ j < n,t j = u j) → belVf p m t n = belVf p m u n
  | 0,_ => rfl
  | n + 1,h => by
    unfold belVf
    rw [belVf_congr p m n fun j hj => h j (by lia),h n (by lia)]
theorem belCf_len (p m : Nat) (t : Nat → Nat) : ∀ n,(belVf p m t n).length = belCf p m n
  | 0 => rfl
  | n + 1 => by
    unfold belVf belCf
    rw [List.length_append,belCf_len p m t n]
    cases keptB p m n <;> rfl
theorem belCf_le (p m : Nat) : ∀ n,belCf p m n ≤ n
  | 0 => Nat.le_refl _
  | n + 1 => by
    have := belCf_le p m n
    unfold belCf
    cases keptB p m n <;> simp <;> lia
theorem cAo_k (w : World) (it zz sz tk gz kt tv kt' tv' aW Li : Nat) (star : Bool) (wd : Nat → Str) (tw : Nat → Nat) (kk : Result → Sem Fin) (q pp : Pos) (rest : List Frame) (k m : Nat) (hk : k < m) (hm : m < 8) :
    kOf (cAo w it zz sz tk gz kt tv aW Li star wd tw kk q pp rest k m) = kOf (cAo w it zz sz tk gz kt' tv' aW Li star wd tw kk q pp rest k m) := by
  have H : ∀ a b,(a,b) ∈ kmL → kOf (cAo w it zz sz tk gz kt tv aW Li star wd tw kk q pp rest a b) = kOf (cAo w it zz sz tk gz kt' tv' aW Li star wd tw kk q pp rest a b) := all2 (by kernel_rfl)
  exact H k m (mem_km hk hm)
noncomputable def cL (w : World) (p m zz aW Li : Nat) (tw : Nat → Nat) (k kt tv : Nat) (tb : Nat → Nat) : List (Nat × Obj) :=
  [(zz + 3,FD w.params (shK k) kt tv ((k : Int) - 1)),(zz + 1,Rt1 k (m - k : Nat)),(272,Cel (.bool false)),(273,Cel (.ref Li)),(275,Cel (.ref aW)),(aW,Lo (wdsL (wdF p) tw m).toArray m),(zz + 2,Lo (belVf p m tb k).toArray (belCf p m k))]
section
variable {w : World} {it p d m zz aW Li ep hi : Nat} {tw : Nat → Nat} {vs : Array Value} {kk : Result → Sem Fin} {rest : List Frame} {q : Pos} (U : Und rest [(lFn w,q),callerC]) (hH : HOk rest [none,none])
include U hH
theorem c_turn (hp : p ∈ [2,3,5,7]) (hd : d < 2) (hm : m < 8) {k kt tv : Nat} {tb : Nat → Nat} {l2 : List (Nat × Obj)} {warm : Bool} {c1 c2 : Nat} {s : Shared} (hk : k < m) (I : Inv w s) (Tb : Tab s warm c1 c2) (lW : aW ≤ Li) (lL : 277 ≤ Li) (lh : hi ≤ zz)
    (O : OwnN (cL w p m zz aW Li tw k kt tv tb ++ (Li,Lo vs ep) :: l2) s.heap) (its : ItemsR Li hi s vs.toList ((tksOf p d 3 (dgs p 3 m) 0).map Tk.item)) (pp : Pos) :
    ∃ s' kt' tv' tb' pp',Inv w s' ∧ Tab s' warm c1 c2 ∧ OwnN (cL w p m zz aW Li tw (k + 1) kt' tv' tb' ++ (Li,Lo vs ep) :: l2) s'.heap ∧ ItemsR Li hi s' vs.toList ((tksOf p d 3 (dgs p 3 m) 0).map Tk.item) ∧ Ext U9 s s' ∧
      ∀ Z,Good w Z s' ⟨den (mCC w it zz),mCC w it zz,pp',mS1 w it zz kk rest⟩ → Good w Z s ⟨den (mCC w it zz),mCC w it zz,pp,mS1 w it zz kk rest⟩ := by
  refine gv fun GG hGG => ?_
  have U1 : Und (mS1 w it zz kk rest) [(lG w it,mFp w),(lFn w,q),callerC] := U.cons kk true [.ref (zz + 3),.ref (zz + 2)] (lG w it) (mFp w)
  have H1 : HOk (mS1 w it zz kk rest) [none,none,none] := ⟨U1.h,hH⟩
  obtain ⟨dl,df⟩ := dgs_facts p hp m hm
  have tl : (tksOf p d 3 (dgs p 3 m) 0).length = 3 := by rw [tks_len,if_neg (by decide)]; lia
  have HA := cA_end w it zz s.heap.objs.size s.toks s.gens.size kt tv aW Li false (wdF p) tw kk q pp rest k m hk hm
  unfold CAEnd at HA
  refine segFE (f := cA w it zz s.heap.objs.size s.toks s.gens.size kt tv aW Li false (wdF p) tw kk q pp rest k m)
    (l2 := (zz + 2,Lo (belVf p m tb k).toArray (belCf p m k)) :: (Li,Lo vs ep) :: l2)
    (l1' := [(zz + 3,FD w.params 1 (kTok k s.toks kt) s.toks k),(zz + 1,Rt1 (k + 1 : Nat) (m - k - 1 : Nat)),(272,Cel (.bool false)),(273,Cel (.ref Li)),(275,Cel (.ref aW)),(aW,Lo (wdsL (wdF p) tw m).toArray m)]) rfl I O U1.w H1 (by decide) HA (fun _ h => nomatch h) fun s1 I1 O1 _ X1 _ _ _ G1 => ?_
  have up1 : ∀ b,(∃ z ∈ [(zz + 3,FD w.params (shK k) kt tv ((k : Int) - 1)),(zz + 1,Rt1 k (m - k : Nat)),(272,Cel (.bool false)),(273,Cel (.ref Li)),(275,Cel (.ref aW)),(aW,Lo (wdsL (wdF p) tw m).toArray m)],z.1 = b) → b ≤ Li ∨ hi ≤ b := by
    rintro b ⟨z,hz,rfl⟩
    simp only [List.mem_cons,List.not_mem_nil,or_false] at hz
    rcases hz with rfl | rfl | rfl | rfl | rfl | rfl
    · exact .inr (show hi ≤ zz + 3 by lia)
    · exact .inr (show hi ≤ zz + 1 by lia)
    · exact .inl (show 272 ≤ Li by lia)
    · exact .inl (show 273 ≤ Li by lia)
    · exact .inl (show 275 ≤ Li by lia)
    · exact .inl lW
  have its1 := its.keep X1 up1
  have T1 : Tab s1 warm c1 c2 := X1.keep _ _ Tb fun h => by
    obtain ⟨z,hz,e⟩ := h
    have := (O.get z (List.mem_append.2 (.inl (by
      unfold cL
      simp only [List.mem_cons,List.not_mem_nil,or_false] at hz ⊢
      rcases hz with h | h | h | h | h | h <;> simp [h])))).1
    lia
  generalize hA : cAo w it zz s.heap.objs.size s.toks s.gens.size kt tv aW Li false (wdF p) tw kk q pp rest k m = A at G1
  have hL1 := (O1.get (Li,Lo vs ep) (.tail _ (.tail _ (.tail _ (.tail _ (.tail _ (.tail _ (.tail _ (.head _))))))))).2
  have wl : (wdF p k).length = 3 := by show (wordL k p 3).toArray.size = 3; rw [List.size_toArray,wordL_len]
  have lhz : zz < s1.heap.objs.size := Nat.lt_of_le_of_lt (Nat.le_add_right _ 3) (O1.lt (zz + 3,_) (.head _))
  obtain ⟨s2,X2,G2⟩ := u_call (cx := cxC w it zz (mFp w) (frPos A) q) (Ls := Li) (star := false) (t := tw k) (k := kOf A) (g := frG A) (lv := frL A) (rest := mS1 w it zz kk rest) (by rw [cxC_sw]; exact U1) (cxC_lc w it zz _ _ q) (x := wdF p k) I1 (by lia) hL1
    (its1.grow (hi' := s1.heap.objs.size) (by lia)) (by rw [List.length_map]; lia) (by rw [wl]; lia) (by show ∀ c ∈ (wordL k p 3).toArray.toList,_; exact wordL_lt hp _) (by rw [wl,List.length_map]; lia) (fun _ => by rw [wl,List.length_map]; lia) A.p
  rw [cxC_c,cxC_p,wl,List.length_map,tl] at G2
  have mt : takesL ((tksOf p d 3 (dgs p 3 m) 0).map Tk.item) ((wdF p k).cps.toList.drop (3 - 3)) = keptB p m k := m_takes p hp d hd m hm k hk
  rw [mt] at G2
  have I2 := X2.inv I1 fun _ h => h.elim
  have O2 := O1.same X2
  have T2 : Tab s2 warm c1 c2 := X2.same T1
  have its2 := its1.keep X2 fun _ h => h.elim
  generalize hb : keptB p m k = b at G2
  have O2' : OwnN ([(zz + 3,FD w.params 1 (kTok k s.toks kt) s.toks k),(zz + 2,Lo (belVf p m tb k).toArray (belCf p m k))] ++ ([(zz + 1,Rt1 (k + 1 : Nat) (m - k - 1 : Nat)),(272,Cel (.bool false)),(273,Cel (.ref Li)),(275,Cel (.ref aW)),(aW,Lo (wdsL (wdF p) tw m).toArray m),(Li,Lo vs ep)] ++ l2)) s2.heap :=
    OwnN.pick (l := [(zz + 3,FD w.params 1 (kTok k s.toks kt) s.toks k),(zz + 1,Rt1 (k + 1 : Nat) (m - k - 1 : Nat)),(272,Cel (.bool false)),(273,Cel (.ref Li)),(275,Cel (.ref aW)),(aW,Lo (wdsL (wdF p) tw m).toArray m),(zz + 2,Lo (belVf p m tb k).toArray (belCf p m k)),(Li,Lo vs ep)])
      (l' := [(zz + 3,FD w.params 1 (kTok k s.toks kt) s.toks k),(zz + 2,Lo (belVf p m tb k).toArray (belCf p m k)),(zz + 1,Rt1 (k + 1 : Nat) (m - k - 1 : Nat)),(272,Cel (.bool false)),(273,Cel (.ref Li)),(275,Cel (.ref aW)),(aW,Lo (wdsL (wdF p) tw m).toArray m),(Li,Lo vs ep)]) [0,6,1,2,3,4,5,7] O2 rfl (by decide)
  have HB := cB_end w it zz s.heap.objs.size s.toks s.gens.size (kTok k s.toks kt) s.toks aW Li false (wdF p) tw kk q pp rest b k m (belCf p m k) s2.heap.objs.size s2.toks s2.gens.size (belVf p m tb k).toArray (frPos A) hk hm
  unfold CBEnd at HB
  have hO : ∀ y ∈ (match b with | true => [(0,oeApp 1 (zz + 2) (belVf p m tb k).toArray (belCf p m k) (.i k))] | false => [] : List (Nat × OE)),OEk w y.2 := by
    have hz : (belVf p m tb k).toArray.size ≤ sizeLine := by
      rw [List.size_toArray,belCf_len]
      have := belCf_le p m k
      show _ ≤ 2 ^ 24
      lia
    cases b with
    | true => exact List.forall_mem_cons.2 ⟨oeApp_ok hz,fun _ h => nomatch h⟩
    | false => exact fun _ h => nomatch h
  refine segFEp (f := cB w it zz s.heap.objs.size s.toks s.gens.size (kTok k s.toks kt) s.toks aW Li false (wdF p) tw kk q pp rest k m b (belCf p m k) s2.heap.objs.size s2.toks s2.gens.size (belVf p m tb k).toArray (frPos A))
    (l1' := [(zz + 3,FD w.params 1 (kTok k s.toks kt) s.toks k),(zz + 2,Lo (cBa b k s.toks (belVf p m tb k).toArray) (cBe b (belCf p m k)))]) rfl I2 O2' U1.w H1 (by decide) HB hO fun s3 pz1 I3 O3 _ X3 _ _ _ G3 => ?_
  rw [cAo_k w it zz s.heap.objs.size s.toks s.gens.size (kTok k s.toks kt) s.toks kt tv aW Li false (wdF p) tw kk q pp rest k m hk hm,hA] at G3
  have up3 : ∀ b',(∃ z ∈ [(zz + 3,FD w.params 1 (kTok k s.toks kt) s.toks k),(zz + 2,Lo (belVf p m tb k).toArray (belCf p m k))],z.1 = b') → hi ≤ b' := by
    rintro b' ⟨z,hz,rfl⟩
    simp only [List.mem_cons,List.not_mem_nil,or_false] at hz
    rcases hz with rfl | rfl
    · exact (show hi ≤ zz + 3 by lia)
    · exact (show hi ≤ zz + 2 by lia)
  have T3 : Tab s3 warm c1 c2 := X3.keep _ _ T2 fun h => by
    obtain ⟨z,hz,e⟩ := h
    have := (O2'.get z (List.mem_append.2 (.inl hz))).1
    lia
  refine hGG (yE5 s3 (kTok k s.toks kt) s.toks (setF tb k s.toks) _ ⟨I3,T3,?_,its2.keep X3 fun b' h => .inr (up3 b' h),((OwnN.ext (l2 := (zz + 2,Lo (belVf p m tb k).toArray (belCf p m k)) :: (Li,Lo vs ep) :: l2) O X1).t9 X2.no).t9 (OwnN.ext O2' X3),fun Z g => G1 Z (G2 Z (G3 Z g))⟩)
  have ea : belVf p m (setF tb k s.toks) k = belVf p m tb k := belVf_congr p m k fun j hj => by
    have : Nat.beq j k = false := by
      cases h : Nat.beq j k with
      | false => rfl
      | true => have := Nat.eq_of_beq_eq_true h; lia
    show (match Nat.beq j k with | true => s.toks | false => tb j) = tb j
    rw [this]
  have eb : (belVf p m (setF tb k s.toks) (k + 1)).toArray = cBa b k s.toks (belVf p m tb k).toArray ∧ belCf p m (k + 1) = cBe b (belCf p m k) := by
    have e0 : setF tb k s.toks k = s.toks := by
      show (match Nat.beq k k with | true => s.toks | false => tb k) = s.toks
      rw [show Nat.beq k k = true from Nat.beq_refl k]
    have h1 : belVf p m (setF tb k s.toks) (k + 1) = belVf p m (setF tb k s.toks) k ++ (match keptB p m k with | true => [.int (k : Int) (setF tb k s.toks k)] | false => []) := rfl
    have h2 : belCf p m (k + 1) = belCf p m k + (match keptB p m k with | true => 1 | false => 0) := rfl
    rw [h1,h2,ea,hb,e0]
    cases b with
    | true => exact ⟨by simp [cBa],rfl⟩
    | false => exact ⟨by simp [cBa],rfl⟩
  have es : m - k - 1 = m - (k + 1) := by lia
  have ek : shK (k + 1) = 1 := rfl
  have ev : (((k + 1 : Nat) : Int) - 1) = (k : Int) := by lia
  unfold cL
  rw [eb.1,eb.2,ek,ev,← es]
  exact OwnN.pick (l := [(zz + 3,FD w.params 1 (kTok k s.toks kt) s.toks k),(zz + 2,Lo (cBa b k s.toks (belVf p m tb k).toArray) (cBe b (belCf p m k))),(zz + 1,Rt1 (k + 1 : Nat) (m - k - 1 : Nat)),(272,Cel (.bool false)),(273,Cel (.ref Li)),(275,Cel (.ref aW)),(aW,Lo (wdsL (wdF p) tw m).toArray m),(Li,Lo vs ep)])
    (l' := [(zz + 3,FD w.params 1 (kTok k s.toks kt) s.toks k),(zz + 1,Rt1 (k + 1 : Nat) (m - k - 1 : Nat)),(272,Cel (.bool false)),(273,Cel (.ref Li)),(275,Cel (.ref aW)),(aW,Lo (wdsL (wdF p) tw m).toArray m),(zz + 2,Lo (cBa b k s.toks (belVf p m tb k).toArray) (cBe b (belCf p m k))),(Li,Lo vs ep)]) [0,2,3,4,5,6,1,7] O3 rfl (by decide)
theorem c_loop (hp : p ∈ [2,3,5,7]) (hd : d < 2) (hm : m < 8) {l2 : List (Nat × Obj)} {warm : Bool} {c1 c2 : Nat} (lW : aW ≤ Li) (lL : 277 ≤ Li) (lh : hi ≤ zz) :
    ∀ (j : Nat) {k kt tv : Nat} {tb : Nat → Nat} {s : Shared},k + j = m → Inv w s → Tab s warm c1 c2 → OwnN (cL w p m zz aW Li tw k kt tv tb ++ (Li,Lo vs ep) :: l2) s.heap → ItemsR Li hi s vs.toList ((tksOf p d 3 (dgs p 3 m) 0).map Tk.item) → ∀ pp : Pos,
    ∃ s' kt' tv' tb' pp',Inv w s' ∧ Tab s' warm c1 c2 ∧ OwnN (cL w p m zz aW Li tw m kt' tv' tb' ++ (Li,Lo vs ep) :: l2) s'.heap ∧ Ext U9 s s' ∧
      ∀ Z,Good w Z s' ⟨den (mCC w it zz),mCC w it zz,pp',mS1 w it zz kk rest⟩ → Good w Z s ⟨den (mCC w it zz),mCC w it zz,pp,mS1 w it zz kk rest⟩
  | 0,k,kt,tv,tb,s,e,I,Tb,O,its,pp => by
    have : k = m := by lia
    subst this
    exact ⟨s,kt,tv,tb,pp,I,Tb,O,Ext.refl I,fun Z g => g⟩
  | j + 1,k,kt,tv,tb,s,e,I,Tb,O,its,pp => by
    obtain ⟨s1,kt1,tv1,tb1,pp1,I1,T1,O1,its1,z1,G1⟩ := c_turn (kk := kk) U hH hp hd hm (by lia) I Tb lW lL lh O its pp
    refine xE5 (c_loop hp hd hm lW lL lh j (by lia) I1 T1 O1 its1 pp1) fun s2 kt2 tv2 tb2 pp2 hx => xA4 hx fun I2 T2 O2 z2 G2 => ?_; clear hx
    exact ⟨s2,kt2,tv2,tb2,pp2,I2,T2,O2,z1.t9 z2,fun Z g => G1 Z (G2 Z g)⟩
end
theorem FD_m (P : Params) (m kt tv : Nat) : FD P (shK m) kt tv ((m : Int) - 1) = FD P (shK m) kt tv ((m - 1 : Nat) : Int) := by
  cases m with
  | zero => rfl
  | succ k => rw [show (((k + 1 : Nat) : Int) - 1) = ((k + 1 - 1 : Nat) : Int) by lia]
theorem sKeys_app : ∀ {l : List DictEntry} {e : DictEntry},sKeys l → (∃ (k : Nat) (t : Nat),e.key = .int (k : Int) t ∧ e.hash = (k : Int) ∧ k < 32) → sKeys (l ++ [e])
  | [],_,_,h => ⟨h,trivial⟩
  | _ :: _,_,h,h2 => ⟨h.1,sKeys_app h.2 h2⟩
theorem nodE_sk (I : Nat → Inf) : ∀ n,n ≤ 32 → sKeys (nodE I n)
  | 0,_ => trivial
  | n + 1,h => sKeys_app (nodE_sk I n (by lia)) ⟨n,_,rfl,rfl,by lia⟩
theorem nodE_at (I : Nat → Inf) : ∀ n k,k < n → findBy Value.isInt (nodE I n).toArray (k : Int) = some (.ref (I k).a)
  | n + 1,k,h => by
    unfold findBy
    rw [List.find?_toArray]
    show Option.map _ (List.find? _ (nodE I n ++ [_])) = _
    rw [List.find?_append]
    by_cases q : k < n
    · have := nodE_at I n k q
      unfold findBy at this
      rw [List.find?_toArray] at this
      cases e : List.find? (fun e => Value.isInt (k : Int) e.key) (nodE I n) with
      | none => rw [e] at this; cases this
      | some x => rw [e] at this; exact this
    · have kn : k = n := by lia
      subst kn
      have : List.find? (fun e => Value.isInt (k : Int) e.key) (nodE I k) = none := by
        rw [List.find?_eq_none]
        intro e he hi
        have hk : ∀ n,n ≤ k → ∀ e ∈ nodE I n,∃ j t,j < n ∧ e.key = .int ((j : Nat) : Int) t := by
          intro n
          induction n with
          | zero => exact fun _ _ h => nomatch h
          | succ n ih =>
            intro hn e he
            rcases List.mem_append.1 he with he | he
            · refine xE2 (ih (by lia) e he) fun j t hx => xA1 hx fun a b => ?_; clear hx
              exact ⟨j,t,by lia,b⟩
            · obtain rfl := List.mem_singleton.1 he
              exact ⟨n,_,by lia,rfl⟩
        refine xE2 (hk k (Nat.le_refl _) e he) fun j t hx => xA1 hx fun a b => ?_; clear hx
        rw [b] at hi
        have := eq_of_beq (show ((j : Int) == (k : Int)) = true from hi)
        lia
      rw [this]
      simp [List.find?_cons,Value.isInt]
theorem gO5_ok {w : World} {p m aN : Nat} {I : Nat → Inf} (hm : m < 8) : ∀ n,n ≤ m → ∀ y ∈ gO5 p m aN I n,OEk w y.2
  | 0,_ => fun _ h => nomatch h
  | n + 1,h => fun y hy => by
    rcases List.mem_append.1 hy with hy | hy
    · exact gO5_ok hm n (by lia) y hy
    · cases q : keptB p m n with
      | true =>
        rw [q] at hy
        obtain rfl := List.mem_singleton.1 hy
        exact dgGet_ok (nodE_sk I (m + 1) (by lia)) (nodE_at I (m + 1) n (by lia))
      | false => rw [q] at hy; cases hy
theorem shB_M (m : Nat) : shB (shM m) = sh2 m := by cases m <;> rfl
theorem setB_facts (N : NmM) (m b t : Nat) : withB (setB (shM m) (withM N m) b t) m b = setB (shM m) (withM N m) b t ∧ (setB (shM m) (withM N m) b t).d = N.d ∧ (setB (shM m) (withM N m) b t).oft = N.oft ∧ (setB (shM m) (withM N m) b t).aS = N.aS ∧ withM (setB (shM m) (withM N m) b t) m = setB (shM m) (withM N m) b t := by
  cases m <;> exact ⟨rfl,rfl,rfl,rfl,rfl⟩
theorem ix5_nd : ∀ m < 8,(ix5 m).Nodup := by decide
noncomputable def MSt (w : World) (it p d m : Nat) (s : Shared) : Prop := ∃ tp N b0 Li0 aR tr aW tw aV tv Z I,∃ (warm : Bool) (c1 c2 : Nat),N.d = (d : Int) ∧ N.oft = (oftV p m : Int) ∧ N.aS = Z.aS ∧ Inv w s ∧ Tab s warm c1 c2 ∧
  OwnN ([(269,frM w (shm m) N),(271,Cel (.int p tp)),(it,Rt1 m (8 - m)),(272,Cel (.bool b0)),(273,Cel (.ref Li0))] ++ mRest w p m aR aW aV tr tw tv Z I) s.heap
section
variable {w : World} {it p d m : Nat} {rest : List Frame} {q : Pos} (U : Und rest [(lFn w,q),callerC]) (hH : HOk rest [none,none])
include U hH
theorem m_turn {s : Shared} (hp : p ∈ [2,3,5,7]) (hd : d < 2) (hm : m < 8) (M : MSt w it p d m s) (pp : Pos) :
    ∃ s' pp',MSt w it p d (m + 1) s' ∧ Ext U9 s s' ∧ ∀ Z,Good w Z s' ⟨den (lG w it),lG w it,pp',rest⟩ → Good w Z s ⟨den (lG w it),lG w it,pp,rest⟩ := by
  refine gv fun GG hGG => ?_
  refine xE15 M fun tp N b0 Li0 aR tr aW tw aV tv Z I warm c1 c2 hx => xA5 hx fun hNd hNo hNs Iv Tb O => ?_; clear hx; clear M
  have hp' : p = 2 ∨ p = 3 ∨ p = 5 ∨ p = 7 := by simpa using hp
  have ltW : aW < s.heap.objs.size := O.lt (aW,Lo (wdsL (wdF p) tw m).toArray m) (List.mem_of_getElem? (i := 8) rfl)
  have lt276 : 276 < s.heap.objs.size := O.lt (276,Cel (.ref aV)) (List.mem_of_getElem? (i := 9) rfl)
  refine xE10 (m_AD U hH hp hd hm hNd Iv Tb O pp) fun s1 N1 Li ep vs hi warm1 c11 c21 pp1 hx => xA11 hx fun hd1 ho1 hs1 I1 T1 E1 lLi ltLi lhi O1 its1 G1 => ?_; clear hx
  have hshM : shM m = 1 ∨ shM m = 3 := by cases m <;> simp [shM]
  have HE := mE_end w it s1.heap.objs.size s1.toks s1.gens.size N1 q pp1 rest m (shM m) hshM hm
  unfold MEEnd at HE
  have O1' : OwnN ([(269,frM w (shM m) (withM N1 m))] ++ ([(Li,Lo vs ep),(271,Cel (.int p tp)),(it,Rt1 (m + 1 : Nat) (8 - (m + 1 : Nat))),(272,Cel (.bool false)),(273,Cel (.ref Li))] ++ mRest w p m aR aW aV tr tw tv Z I)) s1.heap :=
    OwnN.pick (l := [(Li,Lo vs ep),(269,frM w (shM m) (withM N1 m)),(271,Cel (.int p tp)),(it,Rt1 (m + 1 : Nat) (8 - (m + 1 : Nat))),(272,Cel (.bool false)),(273,Cel (.ref Li))]) (l' := [(269,frM w (shM m) (withM N1 m)),(Li,Lo vs ep),(271,Cel (.int p tp)),(it,Rt1 (m + 1 : Nat) (8 - (m + 1 : Nat))),(272,Cel (.bool false)),(273,Cel (.ref Li))]) [1,0,2,3,4,5] O1 rfl (by decide)
  refine segFE (f := mE w it s1.heap.objs.size s1.toks s1.gens.size N1 q pp1 rest m (shM m)) (l1' := [(269,frM w (shM m) (withM N1 m)),(s1.heap.objs.size + 1,Rt1 0 m),(s1.heap.objs.size + 2,Lo #[] 0),(s1.heap.objs.size + 3,dcT w.params [] 0)]) rfl I1 O1' U.w hH (by decide) HE (fun _ h => nomatch h) fun s2 I2 O2 fr2 X2 _ esz2 _ G2 => ?_
  have T2 : Tab s2 warm1 c11 c21 := X2.keep _ _ T1 fun h => by
    refine xE1 h fun z hx => xA1 hx fun hz e => ?_; clear hx; clear h
    have := (O1'.get z (List.mem_append.2 (.inl hz))).1
    lia
  have its2 : ItemsR Li hi s2 vs.toList ((tksOf p d 3 (dgs p 3 m) 0).map Tk.item) := its1.keep X2 fun b hb => by
    refine xE1 hb fun z hx => xA1 hx fun hz q2 => ?_; clear hx; clear hb; obtain rfl := q2
    obtain rfl := List.mem_singleton.1 hz
    exact .inl (show 269 ≤ Li by lia)
  generalize hkk : kOf (mEo w it s1.heap.objs.size s1.toks s1.gens.size N1 q pp1 rest m (shM m)) = kk at G2
  generalize hzz : s1.heap.objs.size = zz at *
  have O2' : OwnN (cL w p m zz aW Li tw 0 0 0 (fun _ => 0) ++ (Li,Lo vs ep) :: ([(269,frM w (shM m) (withM N1 m)),(271,Cel (.int p tp)),(it,Rt1 (m + 1 : Nat) (8 - (m + 1 : Nat))),(274,Cel (.ref aR)),(aR,Lo (rowV m tr).toArray 0),(276,Cel (.ref aV)),(aV,Lo (levV p tv m).toArray m),(Z.aS,soS Z),(Z.aD,soD w.params Z),(Z.aN + 300,soN I m)] ++ infL p m I)) s2.heap :=
    OwnN.pick (l := [(269,frM w (shM m) (withM N1 m)),(zz + 1,Rt1 0 m),(zz + 2,Lo #[] 0),(zz + 3,dcT w.params [] 0),(Li,Lo vs ep),(271,Cel (.int p tp)),(it,Rt1 (m + 1 : Nat) (8 - (m + 1 : Nat))),(272,Cel (.bool false)),(273,Cel (.ref Li)),(274,Cel (.ref aR)),(aR,Lo (rowV m tr).toArray 0),(275,Cel (.ref aW)),(aW,Lo (wdsL (wdF p) tw m).toArray m),(276,Cel (.ref aV)),(aV,Lo (levV p tv m).toArray m),(Z.aS,soS Z),(Z.aD,soD w.params Z),(Z.aN + 300,soN I m)])
      (l' := cL w p m zz aW Li tw 0 0 0 (fun _ => 0) ++ (Li,Lo vs ep) :: [(269,frM w (shM m) (withM N1 m)),(271,Cel (.int p tp)),(it,Rt1 (m + 1 : Nat) (8 - (m + 1 : Nat))),(274,Cel (.ref aR)),(aR,Lo (rowV m tr).toArray 0),(276,Cel (.ref aV)),(aV,Lo (levV p tv m).toArray m),(Z.aS,soS Z),(Z.aD,soD w.params Z),(Z.aN + 300,soN I m)])
      [3,1,7,8,11,12,2,4,0,5,6,9,10,13,14,15,16,17] O2 rfl (by decide)
  have h268 : 268 ≤ zz := hzz ▸ I1.lo
  have hizz : hi ≤ zz := lhi
  refine xE5 (c_loop (it := it) (kk := kk) U hH hp hd hm (aW := aW) (Li := Li) (ep := ep) (vs := vs) (hi := hi) (tw := tw) (by lia) (by lia) hizz m (k := 0) (by lia) I2 T2 O2' its2 (mCp w)) fun s3 kt3 tv3 tb pp3 hx => xA4 hx fun I3 T3 O3 E3 G3 => ?_; clear hx
  have hacc : (belVf p m tb m).toArray.size ≤ sizeLine := by
    rw [List.size_toArray,belCf_len]
    have := belCf_le p m m
    show _ ≤ 2 ^ 24
    lia
  have HX := cX_end w it zz s1.toks s1.gens.size s3.heap.objs.size s3.toks s3.gens.size kt3 tv3 (belCf p m m) N1 q pp1 pp3 rest (belVf p m tb m).toArray m hm
  unfold CXEnd at HX
  have U1 : Und (mS1 w it zz kk rest) [(lG w it,mFp w),(lFn w,q),callerC] := U.cons kk true [.ref (zz + 3),.ref (zz + 2)] (lG w it) (mFp w)
  have H1 : HOk (mS1 w it zz kk rest) [none,none,none] := ⟨U1.h,hH⟩
  have O3' : OwnN ([(zz + 3,FD w.params (shK m) kt3 tv3 (m - 1 : Nat)),(zz + 1,Rt1 m 0),(zz + 2,Lo (belVf p m tb m).toArray (belCf p m m)),(269,frM w (shM m) (withM N1 m))] ++ ([(271,Cel (.int p tp)),(it,Rt1 (m + 1 : Nat) (8 - (m + 1 : Nat))),(272,Cel (.bool false)),(273,Cel (.ref Li)),(274,Cel (.ref aR)),(aR,Lo (rowV m tr).toArray 0),(275,Cel (.ref aW)),(aW,Lo (wdsL (wdF p) tw m).toArray m),(276,Cel (.ref aV)),(aV,Lo (levV p tv m).toArray m),(Z.aS,soS Z),(Z.aD,soD w.params Z),(Z.aN + 300,soN I m)] ++ infL p m I)) s3.heap := by
    rw [← FD_m,show (0 : Int) = ((m - m : Nat) : Int) by lia]
    exact OwnN.pick (l := cL w p m zz aW Li tw m kt3 tv3 tb ++ (Li,Lo vs ep) :: [(269,frM w (shM m) (withM N1 m)),(271,Cel (.int p tp)),(it,Rt1 (m + 1 : Nat) (8 - (m + 1 : Nat))),(274,Cel (.ref aR)),(aR,Lo (rowV m tr).toArray 0),(276,Cel (.ref aV)),(aV,Lo (levV p tv m).toArray m),(Z.aS,soS Z),(Z.aD,soD w.params Z),(Z.aN + 300,soN I m)])
      (l' := [(zz + 3,FD w.params (shK m) kt3 tv3 ((m : Int) - 1)),(zz + 1,Rt1 m (m - m : Nat)),(zz + 2,Lo (belVf p m tb m).toArray (belCf p m m)),(269,frM w (shM m) (withM N1 m)),(271,Cel (.int p tp)),(it,Rt1 (m + 1 : Nat) (8 - (m + 1 : Nat))),(272,Cel (.bool false)),(273,Cel (.ref Li)),(274,Cel (.ref aR)),(aR,Lo (rowV m tr).toArray 0),(275,Cel (.ref aW)),(aW,Lo (wdsL (wdF p) tw m).toArray m),(276,Cel (.ref aV)),(aV,Lo (levV p tv m).toArray m),(Z.aS,soS Z),(Z.aD,soD w.params Z),(Z.aN + 300,soN I m)])
      [0,1,6,8,9,10,2,3,11,12,4,5,13,14,15,16,17] O3 rfl (by decide)
  refine segFE (f := cX w it zz s1.toks s1.gens.size s3.heap.objs.size s3.toks s3.gens.size kt3 tv3 (belCf p m m) N1 q pp1 pp3 rest (belVf p m tb m).toArray m)
    (l1' := [(269,frM w (shB (shM m)) (setB (shM m) (withM N1 m) (zz + 2) s3.toks)),(zz + 2,Lo (belVf p m tb m).toArray (belCf p m m))]) (O := []) (st := mS1 w it zz kk rest) (by rw [← hkk]; rfl) I3 O3' U1.w H1 (by decide) HX (fun _ h => nomatch h) fun s4 I4 O4 _ X4 _ _ _ G4 => ?_
  have T4 : Tab s4 warm1 c11 c21 := X4.keep _ _ T3 fun h => by
    refine xE1 h fun z hx => xA1 hx fun hz e => ?_; clear hx; clear h
    have := (O3'.get z (List.mem_append.2 (.inl hz))).1
    lia
  obtain ⟨N2,hN2⟩ : ∃ N2,N2 = setB (shM m) (withM N1 m) (zz + 2) s3.toks := ⟨_,rfl⟩
  rw [← hN2] at O4
  rw [shB_M] at O4
  refine xA4 (setB_facts N1 m (zz + 2) s3.toks) fun f1 f2 f3 f4 f5 => ?_
  have n1 : withB N2 m (zz + 2) = N2 := by rw [hN2]; exact f1
  have nd2 : N2.d = (d : Int) ∧ N2.oft = (oftV p m : Int) ∧ N2.aS = Z.aS ∧ withM N2 m = N2 := by
    rw [hN2]
    exact ⟨f2.trans hd1,f3.trans (ho1.trans hNo),f4.trans (hs1.trans hNs),f5⟩
  have n2 : withS N2 m Z.aS (zz + 2) = N2 := by
    have : withS N2 m N2.aS (zz + 2) = withB N2 m (zz + 2) := rfl
    rw [← nd2.2.2.1,this,n1]
  have n3 : withMO N2 m (oftV p m : Int) = N2 := by
    have : withMO N2 m N2.oft = withM N2 m := rfl
    rw [← nd2.2.1,this,nd2.2.2.2]
  obtain ⟨pp4,hpp4⟩ : ∃ pp4,pp4 = (cXo w it zz s1.toks s1.gens.size s3.heap.objs.size s3.toks s3.gens.size kt3 tv3 (belCf p m m) N1 q pp1 pp3 rest (belVf p m tb m).toArray m).p := ⟨_,rfl⟩
  rw [← hpp4] at G4
  have H4 := m4_end w it aR (zz + 2) tp s4.heap.objs.size s4.toks s4.gens.size tr tb N2 q pp4 rest p m hp' hm
  unfold M4End at H4
  have O4' : OwnN ([(269,frM w (sh2 m) (withB N2 m (zz + 2))),(271,Cel (.int p tp)),(274,Cel (.ref aR)),(aR,Lo (rowV m tr).toArray 0),(zz + 2,Lo (belV p m tb).toArray (belC p m))] ++ ([(it,Rt1 (m + 1 : Nat) (8 - (m + 1 : Nat))),(272,Cel (.bool false)),(273,Cel (.ref Li)),(275,Cel (.ref aW)),(aW,Lo (wdsL (wdF p) tw m).toArray m),(276,Cel (.ref aV)),(aV,Lo (levV p tv m).toArray m),(Z.aS,soS Z),(Z.aD,soD w.params Z),(Z.aN + 300,soN I m)] ++ infL p m I)) s4.heap := by
    rw [n1]
    exact OwnN.pick (l := [(269,frM w (sh2 m) N2),(zz + 2,Lo (belVf p m tb m).toArray (belCf p m m)),(271,Cel (.int p tp)),(it,Rt1 (m + 1 : Nat) (8 - (m + 1 : Nat))),(272,Cel (.bool false)),(273,Cel (.ref Li)),(274,Cel (.ref aR)),(aR,Lo (rowV m tr).toArray 0),(275,Cel (.ref aW)),(aW,Lo (wdsL (wdF p) tw m).toArray m),(276,Cel (.ref aV)),(aV,Lo (levV p tv m).toArray m),(Z.aS,soS Z),(Z.aD,soD w.params Z),(Z.aN + 300,soN I m)])
      (l' := [(269,frM w (sh2 m) N2),(271,Cel (.int p tp)),(274,Cel (.ref aR)),(aR,Lo (rowV m tr).toArray 0),(zz + 2,Lo (belV p m tb).toArray (belC p m)),(it,Rt1 (m + 1 : Nat) (8 - (m + 1 : Nat))),(272,Cel (.bool false)),(273,Cel (.ref Li)),(275,Cel (.ref aW)),(aW,Lo (wdsL (wdF p) tw m).toArray m),(276,Cel (.ref aV)),(aV,Lo (levV p tv m).toArray m),(Z.aS,soS Z),(Z.aD,soD w.params Z),(Z.aN + 300,soN I m)])
      [0,2,6,7,1,3,4,5,8,9,10,11,12,13,14] O4 rfl (by decide)
  have hO4 : ∀ y ∈ ([(ev4 p m,neL 4 (zz + 2) (belV p m tb) (belC p m) 7 (s4.heap.objs.size + 2) (belV p m fun k => s4.toks + 2 + 4 * k) (belC p m))] : List (Nat × OE)),OEk w y.2 :=
    List.forall_mem_cons.2 ⟨neL_ok (belV_eq p m _ _ m) (belV_int p m _ m),fun _ h => nomatch h⟩
  refine segFE (f := m4 w it aR (zz + 2) tp s4.heap.objs.size s4.toks s4.gens.size tr tb N2 q pp4 rest p m)
    (l1' := [(269,frM w (sh2 m) (withB N2 m (zz + 2))),(271,Cel (.int p tp)),(274,Cel (.ref aR)),(aR,Lo (rowV m tr).toArray 0),(zz + 2,Lo (belV p m tb).toArray (belC p m))]) rfl I4 O4' U.w hH (by decide) H4 hO4 fun s5 I5 O5 _ X5 _ _ _ G5 => ?_
  have T5 : Tab s5 warm1 c11 c21 := X5.keep _ _ T4 fun h => by
    refine xE1 h fun z hx => xA1 hx fun hz e => ?_; clear hx; clear h
    have := (O4'.get z (List.mem_append.2 (.inl hz))).1
    lia
  have H5 := m5_end w it (zz + 2) s5.heap.objs.size s5.toks s5.gens.size Z I tb N2 q (m4o w it aR (zz + 2) tp s4.heap.objs.size s4.toks s4.gens.size tr tb N2 q pp4 rest p m).p rest p m hp' hm
  unfold M5End at H5
  generalize hpp5 : (m4o w it aR (zz + 2) tp s4.heap.objs.size s4.toks s4.gens.size tr tb N2 q pp4 rest p m).p = pp5 at H5 G5
  have O5' : OwnN (l5 w (zz + 2) Z I tb N2 p m ++ [(271,Cel (.int p tp)),(it,Rt1 (m + 1 : Nat) (8 - (m + 1 : Nat))),(272,Cel (.bool false)),(273,Cel (.ref Li)),(274,Cel (.ref aR)),(aR,Lo (rowV m tr).toArray 0),(275,Cel (.ref aW)),(aW,Lo (wdsL (wdF p) tw m).toArray m),(276,Cel (.ref aV)),(aV,Lo (levV p tv m).toArray m)]) s5.heap := by
    unfold l5
    rw [n2]
    rw [n1] at O5
    have Q := OwnN.pick (l := [(269,frM w (sh2 m) N2),(271,Cel (.int p tp)),(274,Cel (.ref aR)),(aR,Lo (rowV m tr).toArray 0),(zz + 2,Lo (belV p m tb).toArray (belC p m)),(it,Rt1 (m + 1 : Nat) (8 - (m + 1 : Nat))),(272,Cel (.bool false)),(273,Cel (.ref Li)),(275,Cel (.ref aW)),(aW,Lo (wdsL (wdF p) tw m).toArray m),(276,Cel (.ref aV)),(aV,Lo (levV p tv m).toArray m),(Z.aS,soS Z),(Z.aD,soD w.params Z),(Z.aN + 300,soN I m)])
      (l' := [(269,frM w (sh2 m) N2),(Z.aS,soS Z),(Z.aD,soD w.params Z),(Z.aN + 300,soN I m),(zz + 2,Lo (belV p m tb).toArray (belC p m)),(271,Cel (.int p tp)),(it,Rt1 (m + 1 : Nat) (8 - (m + 1 : Nat))),(272,Cel (.bool false)),(273,Cel (.ref Li)),(274,Cel (.ref aR)),(aR,Lo (rowV m tr).toArray 0),(275,Cel (.ref aW)),(aW,Lo (wdsL (wdF p) tw m).toArray m),(276,Cel (.ref aV)),(aV,Lo (levV p tv m).toArray m)])
      [0,12,13,14,4,1,5,6,7,2,3,8,9,10,11] O5 rfl (by decide)
    refine OwnN.perm Q ?_
    rw [show ∀ a b c : List (Nat × Obj),(a ++ b) ++ c = a ++ (b ++ c) from List.append_assoc]
    show ([(269,frM w (sh2 m) N2),(Z.aS,soS Z),(Z.aD,soD w.params Z),(Z.aN + 300,soN I m),(zz + 2,Lo (belV p m tb).toArray (belC p m))] ++ ([(271,Cel (.int p tp)),(it,Rt1 (m + 1 : Nat) (8 - (m + 1 : Nat))),(272,Cel (.bool false)),(273,Cel (.ref Li)),(274,Cel (.ref aR)),(aR,Lo (rowV m tr).toArray 0),(275,Cel (.ref aW)),(aW,Lo (wdsL (wdF p) tw m).toArray m),(276,Cel (.ref aV)),(aV,Lo (levV p tv m).toArray m)] ++ infL p m I)).Perm _
    exact List.Perm.append_left _ List.perm_append_comm
  have hO5 : ∀ y ∈ ((3,colO (6 + 2 * m) 4 (s5.heap.objs.size + 1) (zz + 2) (belV p m tb).toArray (belC p m)) :: gO5 p m Z.aN (setI I m (newI s5.heap.objs.size s5.toks N2)) m : List (Nat × OE)),OEk w y.2 :=
    List.forall_mem_cons.2 ⟨colO_ok hacc,gO5_ok hm m (Nat.le_refl _)⟩
  refine segFE (f := m5 w it (zz + 2) s5.heap.objs.size s5.toks s5.gens.size Z I tb N2 q pp5 rest p m)
    (l1' := l5' w (zz + 2) s5.heap.objs.size s5.toks Z I tb N2 p m) rfl I5 O5' U.w hH (ix5_nd m hm) H5 hO5 fun s6 I6 O6 _ X6 _ _ _ G6 => ?_
  have T6 : Tab s6 warm1 c11 c21 := X6.keep _ _ T5 fun h => by
    refine xE1 h fun z hx => xA1 hx fun hz e => ?_; clear hx; clear h
    have := (O5'.get z (List.mem_append.2 (.inl hz))).1
    lia
  generalize hpp6 : (m5o w it (zz + 2) s5.heap.objs.size s5.toks s5.gens.size Z I tb N2 q pp5 rest p m).p = pp6 at G6
  obtain ⟨I',hI'⟩ : ∃ I',I' = setI I m (newI s5.heap.objs.size s5.toks N2) := ⟨_,rfl⟩
  have O6a : OwnN ([(269,frM w (sh2 m) N2),(Z.aS,soS Z),(Z.aD,soD w.params Z),(Z.aN + 300,soN I' (m + 1)),(zz + 2,Lo (belV p m tb).toArray (belC p m)),(271,Cel (.int p tp)),(it,Rt1 (m + 1 : Nat) (8 - (m + 1 : Nat))),(272,Cel (.bool false)),(273,Cel (.ref Li)),(274,Cel (.ref aR)),(aR,Lo (rowV m tr).toArray 0),(275,Cel (.ref aW)),(aW,Lo (wdsL (wdF p) tw m).toArray m),(276,Cel (.ref aV)),(aV,Lo (levV p tv m).toArray m)] ++ infL p (m + 1) I') s6.heap := by
    unfold l5' at O6
    rw [n2,← hI'] at O6
    refine OwnN.perm O6 ?_
    rw [show ∀ a b c : List (Nat × Obj),(a ++ b) ++ c = a ++ (b ++ c) from List.append_assoc]
    show List.Perm _ ([(269,frM w (sh2 m) N2),(Z.aS,soS Z),(Z.aD,soD w.params Z),(Z.aN + 300,soN I' (m + 1)),(zz + 2,Lo (belV p m tb).toArray (belC p m))] ++ ([(271,Cel (.int p tp)),(it,Rt1 (m + 1 : Nat) (8 - (m + 1 : Nat))),(272,Cel (.bool false)),(273,Cel (.ref Li)),(274,Cel (.ref aR)),(aR,Lo (rowV m tr).toArray 0),(275,Cel (.ref aW)),(aW,Lo (wdsL (wdF p) tw m).toArray m),(276,Cel (.ref aV)),(aV,Lo (levV p tv m).toArray m)] ++ infL p (m + 1) I'))
    exact List.Perm.append_left _ List.perm_append_comm
  have H6 := m6_end w it aW tp s6.heap.objs.size s6.toks s6.gens.size (wdF p) tw N2 q pp6 rest p m hp' hm
  unfold M6End at H6
  have O6' : OwnN (l6 w aW tp (wdF p) tw N2 p m ++ ([(it,Rt1 (m + 1 : Nat) (8 - (m + 1 : Nat))),(272,Cel (.bool false)),(273,Cel (.ref Li)),(274,Cel (.ref aR)),(aR,Lo (rowV m tr).toArray 0),(276,Cel (.ref aV)),(aV,Lo (levV p tv m).toArray m),(Z.aS,soS Z),(Z.aD,soD w.params Z),(Z.aN + 300,soN I' (m + 1))] ++ infL p (m + 1) I')) s6.heap := by
    unfold l6
    rw [nd2.2.2.2]
    exact OwnN.pick (l := [(269,frM w (sh2 m) N2),(Z.aS,soS Z),(Z.aD,soD w.params Z),(Z.aN + 300,soN I' (m + 1)),(zz + 2,Lo (belV p m tb).toArray (belC p m)),(271,Cel (.int p tp)),(it,Rt1 (m + 1 : Nat) (8 - (m + 1 : Nat))),(272,Cel (.bool false)),(273,Cel (.ref Li)),(274,Cel (.ref aR)),(aR,Lo (rowV m tr).toArray 0),(275,Cel (.ref aW)),(aW,Lo (wdsL (wdF p) tw m).toArray m),(276,Cel (.ref aV)),(aV,Lo (levV p tv m).toArray m)])
      (l' := [(269,frM w (sh2 m) N2),(271,Cel (.int p tp)),(275,Cel (.ref aW)),(aW,Lo (wdsL (wdF p) tw m).toArray m),(it,Rt1 (m + 1 : Nat) (8 - (m + 1 : Nat))),(272,Cel (.bool false)),(273,Cel (.ref Li)),(274,Cel (.ref aR)),(aR,Lo (rowV m tr).toArray 0),(276,Cel (.ref aV)),(aV,Lo (levV p tv m).toArray m),(Z.aS,soS Z),(Z.aD,soD w.params Z),(Z.aN + 300,soN I' (m + 1))])
      [0,5,11,12,6,7,8,9,10,13,14,1,2,3] O6a rfl (by decide)
  refine segFE (f := m6 w it aW tp s6.heap.objs.size s6.toks s6.gens.size (wdF p) tw N2 q pp6 rest p m)
    (l1' := l6 w aW tp (wdF p) tw N2 p m) rfl I6 O6' U.w hH (by decide) H6 (fun _ h => nomatch h) fun s7 I7 O7 _ X7 _ _ _ G7 => ?_
  have T7 : Tab s7 warm1 c11 c21 := X7.keep _ _ T6 fun h => by
    refine xE1 h fun z hx => xA1 hx fun hz e => ?_; clear hx; clear h
    have := (O6'.get z (List.mem_append.2 (.inl hz))).1
    lia
  generalize hA : m6o w it aW tp s6.heap.objs.size s6.toks s6.gens.size (wdF p) tw N2 q pp6 rest p m = A at G7
  refine xE2 (w_call (cx := cxM w it (frPos A) q) (kv := m) (p := p) (n := 3) (t1 := N2.tm) (t2 := tp) (t3 := s6.toks) (k := kOf A) (g := frG A) (lv := frL A) (rest := rest) (by rw [cxM_sw]; exact U) (cxM_l1 w it _ q) I7 hp (by lia) (by lia) A.p) fun s8 tx hx => xA1 hx fun X8 G8 => ?_; clear hx
  rw [cxM_c,cxM_p] at G8
  have I8 := X8.inv I7 fun _ h => h.elim
  have T8 : Tab s8 warm1 c11 c21 := X8.same T7
  have O8 : OwnN ([(aW,Lo (wdsL (wdF p) tw m).toArray m)] ++ ([(269,frM w (sh2 m) N2),(271,Cel (.int p tp)),(275,Cel (.ref aW)),(it,Rt1 (m + 1 : Nat) (8 - (m + 1 : Nat))),(272,Cel (.bool false)),(273,Cel (.ref Li)),(274,Cel (.ref aR)),(aR,Lo (rowV m tr).toArray 0),(276,Cel (.ref aV)),(aV,Lo (levV p tv m).toArray m),(Z.aS,soS Z),(Z.aD,soD w.params Z),(Z.aN + 300,soN I' (m + 1))] ++ infL p (m + 1) I')) s8.heap := by
    have Q := O7.same X8
    unfold l6 at Q
    rw [nd2.2.2.2] at Q
    exact OwnN.pick (l := [(269,frM w (sh2 m) N2),(271,Cel (.int p tp)),(275,Cel (.ref aW)),(aW,Lo (wdsL (wdF p) tw m).toArray m),(it,Rt1 (m + 1 : Nat) (8 - (m + 1 : Nat))),(272,Cel (.bool false)),(273,Cel (.ref Li)),(274,Cel (.ref aR)),(aR,Lo (rowV m tr).toArray 0),(276,Cel (.ref aV)),(aV,Lo (levV p tv m).toArray m),(Z.aS,soS Z),(Z.aD,soD w.params Z),(Z.aN + 300,soN I' (m + 1))])
      (l' := [(aW,Lo (wdsL (wdF p) tw m).toArray m),(269,frM w (sh2 m) N2),(271,Cel (.int p tp)),(275,Cel (.ref aW)),(it,Rt1 (m + 1 : Nat) (8 - (m + 1 : Nat))),(272,Cel (.bool false)),(273,Cel (.ref Li)),(274,Cel (.ref aR)),(aR,Lo (rowV m tr).toArray 0),(276,Cel (.ref aV)),(aV,Lo (levV p tv m).toArray m),(Z.aS,soS Z),(Z.aD,soD w.params Z),(Z.aN + 300,soN I' (m + 1))])
      [3,0,1,2,4,5,6,7,8,9,10,11,12,13] Q rfl (by decide)
  have H7 := m7_end w it aW tp s6.heap.objs.size s6.toks s6.gens.size (wdF p) tw N2 q pp6 rest p m tx s8.heap.objs.size s8.toks s8.gens.size (frPos A) hp' hm
  unfold M7End at H7
  refine segFE (f := m7 w it aW tp s6.heap.objs.size s6.toks s6.gens.size (wdF p) tw N2 q pp6 rest p m tx s8.heap.objs.size s8.toks s8.gens.size (frPos A))
    (l1' := [(aW,Lo (wdsL (wdF p) (setF tw m tx) (m + 1)).toArray (m + 1))]) rfl I8 O8 U.w hH (by decide) H7 (fun _ h => nomatch h) fun s9 I9 O9 _ X9 _ _ _ G9 => ?_
  rw [hA] at G9
  have T9 : Tab s9 warm1 c11 c21 := X9.keep _ _ T8 fun h => by
    refine xE1 h fun z hx => xA1 hx fun hz e => ?_; clear hx; clear h
    have := (O8.get z (List.mem_append.2 (.inl hz))).1
    lia
  generalize hpp9 : (m7o w it aW tp s6.heap.objs.size s6.toks s6.gens.size (wdF p) tw N2 q pp6 rest p m tx s8.heap.objs.size s8.toks s8.gens.size (frPos A)).p = pp9 at G9
  have H8 := m8_end w it aR aV tp s9.heap.objs.size s9.toks s9.gens.size tr tv N2 q pp9 rest p m hp' hm
  unfold M8End at H8
  have O9' : OwnN (l8 w aR aV tp tr tv N2 p m ++ ([(it,Rt1 (m + 1 : Nat) (8 - (m + 1 : Nat))),(272,Cel (.bool false)),(273,Cel (.ref Li)),(275,Cel (.ref aW)),(aW,Lo (wdsL (wdF p) (setF tw m tx) (m + 1)).toArray (m + 1)),(Z.aS,soS Z),(Z.aD,soD w.params Z),(Z.aN + 300,soN I' (m + 1))] ++ infL p (m + 1) I')) s9.heap := by
    unfold l8
    rw [n3]
    exact OwnN.pick (l := [(aW,Lo (wdsL (wdF p) (setF tw m tx) (m + 1)).toArray (m + 1)),(269,frM w (sh2 m) N2),(271,Cel (.int p tp)),(275,Cel (.ref aW)),(it,Rt1 (m + 1 : Nat) (8 - (m + 1 : Nat))),(272,Cel (.bool false)),(273,Cel (.ref Li)),(274,Cel (.ref aR)),(aR,Lo (rowV m tr).toArray 0),(276,Cel (.ref aV)),(aV,Lo (levV p tv m).toArray m),(Z.aS,soS Z),(Z.aD,soD w.params Z),(Z.aN + 300,soN I' (m + 1))])
      (l' := [(269,frM w (sh2 m) N2),(271,Cel (.int p tp)),(274,Cel (.ref aR)),(aR,Lo (rowV m tr).toArray 0),(276,Cel (.ref aV)),(aV,Lo (levV p tv m).toArray m),(it,Rt1 (m + 1 : Nat) (8 - (m + 1 : Nat))),(272,Cel (.bool false)),(273,Cel (.ref Li)),(275,Cel (.ref aW)),(aW,Lo (wdsL (wdF p) (setF tw m tx) (m + 1)).toArray (m + 1)),(Z.aS,soS Z),(Z.aD,soD w.params Z),(Z.aN + 300,soN I' (m + 1))])
      [1,2,7,8,9,10,4,5,6,3,0,11,12,13] O9 rfl (by decide)
  refine segFEp (f := m8 w it aR aV tp s9.heap.objs.size s9.toks s9.gens.size tr tv N2 q pp9 rest p m)
    (l1' := l8' w aV tp s9.heap.objs.size s9.toks tv N2 p m) rfl I9 O9' U.w hH (by decide) H8 (fun _ h => nomatch h) fun s10 pz6 I10 O10 _ X10 _ _ _ G10 => ?_
  have T10 : Tab s10 warm1 c11 c21 := X10.keep _ _ T9 fun h => by
    refine xE1 h fun z hx => xA1 hx fun hz e => ?_; clear hx; clear h
    have := (O9'.get z (List.mem_append.2 (.inl hz))).1
    lia
  have E10 : Ext U9 s s10 := (((((((((E1.t9 (OwnN.ext O1' X2)).t9 E3).t9 (OwnN.ext O3' X4)).t9 (OwnN.ext O4' X5)).t9 (OwnN.ext O5' X6)).t9 (OwnN.ext O6' X7)).t9 X8.no).t9 (OwnN.ext O8 X9)).t9 (OwnN.ext O9' X10))
  refine hGG (yE2 s10 _ ⟨⟨tp,nm7 p m s9.toks N2,false,Li,s9.heap.objs.size + 9,rowT m s9.toks,aW,setF tw m tx,aV,setF tv m (s9.toks + (dt7 p m - 1)),Z,I',warm1,c11,c21,nd2.1,rfl,nd2.2.2.1,I10,T10,?_⟩,E10,
    fun Y g => G1 Y (G2 Y (tailA_of (mCC_at w it zz) rfl (G3 Y (G4 Y (G5 Y (G6 Y (G7 Y (G8 Y (G9 Y (G10 Y g))))))))))⟩)
  unfold l8' at O10
  exact OwnN.pick (l := [(269,frM w 3 (nm7 p m s9.toks N2)),(271,Cel (.int p tp)),(274,Cel (.ref (s9.heap.objs.size + 9))),(s9.heap.objs.size + 9,Lo (rowV (m + 1) (rowT m s9.toks)).toArray 0),(276,Cel (.ref aV)),(aV,Lo (levV p (setF tv m (s9.toks + (dt7 p m - 1))) (m + 1)).toArray (m + 1)),(it,Rt1 (m + 1 : Nat) (8 - (m + 1 : Nat))),(272,Cel (.bool false)),(273,Cel (.ref Li)),(275,Cel (.ref aW)),(aW,Lo (wdsL (wdF p) (setF tw m tx) (m + 1)).toArray (m + 1)),(Z.aS,soS Z),(Z.aD,soD w.params Z),(Z.aN + 300,soN I' (m + 1))])
    (l' := [(269,frM w (shm (m + 1)) (nm7 p m s9.toks N2)),(271,Cel (.int p tp)),(it,Rt1 (m + 1 : Nat) (8 - (m + 1 : Nat))),(272,Cel (.bool false)),(273,Cel (.ref Li)),(274,Cel (.ref (s9.heap.objs.size + 9))),(s9.heap.objs.size + 9,Lo (rowV (m + 1) (rowT m s9.toks)).toArray 0),(275,Cel (.ref aW)),(aW,Lo (wdsL (wdF p) (setF tw m tx) (m + 1)).toArray (m + 1)),(276,Cel (.ref aV)),(aV,Lo (levV p (setF tv m (s9.toks + (dt7 p m - 1))) (m + 1)).toArray (m + 1)),(Z.aS,soS Z),(Z.aD,soD w.params Z),(Z.aN + 300,soN I' (m + 1))])
    [0,1,6,7,8,2,3,9,10,4,5,11,12,13] O10 rfl (by decide)
theorem m_loop (hp : p ∈ [2,3,5,7]) (hd : d < 2) : ∀ (j m : Nat) (s : Shared),m + j = 8 → MSt w it p d m s → ∀ pp : Pos,
    ∃ s' pp',MSt w it p d 8 s' ∧ Ext U9 s s' ∧ ∀ Z,Good w Z s' ⟨den (lG w it),lG w it,pp',rest⟩ → Good w Z s ⟨den (lG w it),lG w it,pp,rest⟩
  | 0,m,s,e,M,pp => by
    have : m = 8 := by lia
    subst this
    refine xE15 (id M) fun _ _ _ _ _ _ _ _ _ _ _ _ _ _ _ hx => xA5 hx fun _ _ _ I _ _ => ?_; clear hx
    exact ⟨s,pp,M,Ext.refl I,fun Z g => g⟩
  | j + 1,m,s,e,M,pp => by
    refine xE2 (m_turn U hH hp hd (by lia) M pp) fun s1 pp1 hx => xA2 hx fun M1 X1 G1 => ?_; clear hx
    refine xE2 (m_loop hp hd j (m + 1) s1 (by lia) M1 pp1) fun s2 pp2 hx => xA2 hx fun M2 X2 G2 => ?_; clear hx
    exact ⟨s2,pp2,M2,X1.t9 X2,fun Z g => G1 Z (G2 Z g)⟩
end
noncomputable def gb : Int → Nat → Int
  | .ofNat m,k => bin m k
  | .negSucc m,k => (-1) ^ k * bin (m + k) k
theorem bin_zero (n : Nat) : bin n 0 = 1 := by cases n <;> rfl
theorem bin_gt : ∀ n k,n < k → bin n k = 0
  | 0,k + 1,_ => rfl
  | n + 1,k + 1,h => by
    show bin n k + bin n (k + 1) = 0
    rw [bin_gt n k (by lia),bin_gt n (k + 1) (by lia)]
theorem bin_self : ∀ n,bin n n = 1
  | 0 => rfl
  | n + 1 => by
    show bin n n + bin n (n + 1) = 1
    rw [bin_self n,bin_gt n (n + 1) (by lia)]
theorem bin_abs : ∀ n k,(k + 1) * bin (n + 1) (k + 1) = (n + 1) * bin n k
  | 0,0 => rfl
  | 0,k + 1 => by
    show (k + 2) * (bin 0 (k + 1) + bin 0 (k + 2)) = 1 * 0
    have : bin 0 (k + 1) + bin 0 (k + 2) = 0 := rfl
    rw [this]; simp
  | n + 1,0 => by
    have h := bin_abs n 0
    have e : bin (n + 2) 1 = bin (n + 1) 0 + bin (n + 1) 1 := rfl
    simp only [bin_zero,Nat.mul_one,Nat.zero_add,Nat.one_mul] at h ⊢
    rw [e,bin_zero,h]; lia
  | n + 1,k + 1 => by
    have h1 := bin_abs n k
    have h2 := bin_abs n (k + 1)
    have e : bin (n + 2) (k + 2) = bin (n + 1) (k + 1) + bin (n + 1) (k + 2) := rfl
    have e2 : bin (n + 1) (k + 1) = bin n k + bin n (k + 1) := rfl
    show (k + 2) * bin (n + 2) (k + 2) = (n + 2) * bin (n + 1) (k + 1)
    rw [e,Nat.mul_add,h2]
    have : (k + 2) * bin (n + 1) (k + 1) = (n + 1) * bin n k + bin (n + 1) (k + 1) := by rw [← h1,← Nat.succ_mul]
    rw [this,e2]
    have a1 : (n + 2) * (bin n k + bin n (k + 1)) = (n + 1) * bin n k + (n + 1) * bin n (k + 1) + (bin n k + bin n (k + 1)) := by
      rw [show n + 2 = (n + 1) + 1 from rfl,Nat.succ_mul,Nat.mul_add]
    rw [a1]; lia
theorem bin_drop (n k : Nat) : ((k : Int) + 1) * bin n (k + 1) = bin n k * ((n : Int) - k) := by
  have h := bin_abs n k
  have e : bin (n + 1) (k + 1) = bin n k + bin n (k + 1) := rfl
  rw [e] at h
  have h' : ((k : Int) + 1) * ((bin n k : Int) + bin n (k + 1)) = ((n : Int) + 1) * bin n k := by exact_mod_cast h
  simp only [Int.add_mul,Int.one_mul,Int.mul_add,Int.mul_sub] at h' ⊢
  rw [Int.mul_comm (bin n k : Int) n,Int.mul_comm (bin n k : Int) k]
  lia
theorem gb_drop (n : Int) (k : Nat) : ((k : Int) + 1) * gb n (k + 1) = gb n k * (n - k) := by
  cases n with
  | ofNat m => exact bin_drop m k
  | negSucc m =>
    show ((k : Int) + 1) * ((-1) ^ (k + 1) * (bin (m + (k + 1)) (k + 1) : Int)) = (-1) ^ k * (bin (m + k) k : Int) * (Int.negSucc m - k)
    have h : ((k : Int) + 1) * (bin (m + k + 1) (k + 1) : Int) = ((m : Int) + k + 1) * bin (m + k) k := by exact_mod_cast bin_abs (m + k) k
    have e : Int.negSucc m - (k : Int) = -((m : Int) + k + 1) := by lia
    rw [e,Int.pow_succ,show m + (k + 1) = m + k + 1 from rfl]
    have : ((k : Int) + 1) * ((-1) ^ k * -1 * (bin (m + k + 1) (k + 1) : Int)) = -((-1) ^ k * (((k : Int) + 1) * (bin (m + k + 1) (k + 1) : Int))) := by
      rw [Int.mul_neg_one,Int.neg_mul,Int.mul_neg,Int.mul_left_comm]
    rw [this,h,Int.mul_neg,Int.mul_comm ((m : Int) + k + 1),Int.mul_assoc]
theorem gb_pascal (n : Int) (k : Nat) : gb (n + 1) (k + 1) = gb n (k + 1) + gb n k := by
  cases n with
  | ofNat m =>
    show ((bin m k + bin m (k + 1) : Nat) : Int) = bin m (k + 1) + bin m k
    lia
  | negSucc m =>
    cases m with
    | zero =>
      show ((bin 0 (k + 1) : Nat) : Int) = (-1) ^ (k + 1) * (bin (0 + (k + 1)) (k + 1) : Int) + (-1) ^ k * (bin (0 + k) k : Int)
      rw [Nat.zero_add,Nat.zero_add,bin_self,bin_self,Int.pow_succ]
      show (0 : Int) = _
      lia
    | succ m =>
      show (-1) ^ (k + 1) * (bin (m + (k + 1)) (k + 1) : Int) = (-1) ^ (k + 1) * (bin (m + 1 + (k + 1)) (k + 1) : Int) + (-1) ^ k * (bin (m + 1 + k) k : Int)
      have e1 : bin (m + 1 + (k + 1)) (k + 1) = bin (m + k + 1) k + bin (m + k + 1) (k + 1) := by
        rw [show m + 1 + (k + 1) = (m + k + 1) + 1 by lia]; rfl
      rw [e1,show m + 1 + k = m + k + 1 by lia,show m + (k + 1) = m + k + 1 by lia,Int.pow_succ]
      push_cast
      simp only [Int.mul_neg,Int.mul_one,Int.neg_mul,Int.mul_add]
      lia
theorem gb_zero (n : Int) : gb n 0 = 1 := by
  cases n with
  | ofNat m => show ((bin m 0 : Nat) : Int) = 1; rw [bin_zero]; rfl
  | negSucc m => show (-1) ^ 0 * ((bin (m + 0) 0 : Nat) : Int) = 1; rw [bin_zero]; rfl
theorem chos_gb (n : Int) : ∀ k,chos n k = gb n k
  | 0 => (gb_zero n).symm
  | k + 1 => by
    show (chos n k * (n - k)).fdiv ((k : Int) + 1) = _
    rw [chos_gb n k,← gb_drop,Int.mul_fdiv_cancel_left _ (by lia)]
theorem gb_period {p : Int} {q : Nat} {K : Nat} (h0 : ∀ k,k < K → (gb q k - gb 0 k) % p = 0) : ∀ (k : Nat),k < K → ∀ n : Int,(gb (n + q) k - gb n k) % p = 0
  | 0,_,n => by rw [gb_zero,gb_zero]; rfl
  | k + 1,hk,n => by
    have ih := gb_period h0 k (by lia)
    have step : ∀ n : Int,(gb (n + 1 + q) (k + 1) - gb (n + 1) (k + 1)) = (gb (n + q) (k + 1) - gb n (k + 1)) + (gb (n + q) k - gb n k) := by
      intro n
      rw [show n + 1 + (q : Int) = (n + q) + 1 by lia,gb_pascal,gb_pascal]
      lia
    have up : ∀ m : Nat,(gb ((m : Int) + q) (k + 1) - gb m (k + 1)) % p = 0 := by
      intro m
      induction m with
      | zero =>
        have := h0 (k + 1) hk
        rw [show ((0 : Nat) : Int) + (q : Int) = q by lia]
        exact this
      | succ m im =>
        have := step m
        rw [show ((m + 1 : Nat) : Int) = (m : Int) + 1 by lia,this]
        rw [Int.add_emod,im,ih]; simp
    have down : ∀ m : Nat,(gb (-(m : Int) + q) (k + 1) - gb (-(m : Int)) (k + 1)) % p = 0 := by
      intro m
      induction m with
      | zero => exact up 0
      | succ m im =>
        have := step (-((m + 1 : Nat) : Int))
        rw [show -((m + 1 : Nat) : Int) + 1 = -(m : Int) by lia] at this
        rw [this,Int.add_emod,ih] at im
        simpa using im
    rcases Int.le_total 0 n with h | h
    · have := up n.toNat
      rwa [Int.toNat_of_nonneg h] at this
    · have := down (-n).toNat
      rwa [Int.toNat_of_nonneg (by lia),Int.neg_neg] at this
noncomputable def okD (p : Nat) : List Nat → Int → Nat → Bool
  | [],e,k => (e == -1) || decide (k = 0)
  | f :: fs,e,k => decide (k % p ≤ f) && okD p fs e (k / p)
noncomputable def okN (p : Nat) : Nat → Nat → Nat → Bool
  | 0,_,k => decide (k = 0)
  | t + 1,r,k => decide (k % p ≤ r % p) && okN p t (r / p) (k / p)
theorem okD_0 (p : Nat) (e : Int) : ∀ fs,okD p fs e 0 = true
  | [] => by simp [okD]
  | f :: fs => by simp [okD,okD_0 p e fs]
theorem okN_0 {p : Nat} (hp : 2 ≤ p) : ∀ t k,k < p ^ t → okN p t 0 k = decide (k = 0)
  | 0,k,h => by simp [okN]
  | t + 1,k,h => by
    have lt : k / p < p ^ t := by
      rw [Nat.div_lt_iff_lt_mul (by lia)]
      rwa [Nat.pow_succ] at h
    unfold okN
    rw [Nat.zero_mod,Nat.zero_div,okN_0 hp t _ lt]
    have e := Nat.div_add_mod k p
    rw [Bool.eq_iff_iff]
    simp only [Bool.and_eq_true,decide_eq_true_eq]
    constructor
    · rintro ⟨a,b⟩
      rw [b] at e
      lia
    · rintro rfl
      simp
theorem okN_top {p : Nat} (hp : 2 ≤ p) : ∀ t k,k < p ^ t → okN p t (p ^ t - 1) k = true
  | 0,k,h => by
    have : k = 0 := by simp at h; lia
    simp [okN,this]
  | t + 1,k,h => by
    have lt : k / p < p ^ t := by
      rw [Nat.div_lt_iff_lt_mul (by lia)]
      rwa [Nat.pow_succ] at h
    have pp : 0 < p ^ t := Nat.pow_pos (by lia)
    have e : p ^ (t + 1) - 1 = (p - 1) + p * (p ^ t - 1) := by
      rw [Nat.pow_succ,Nat.mul_sub,Nat.mul_one,Nat.mul_comm]
      have : p ≤ p * p ^ t := Nat.le_mul_of_pos_right _ pp
      lia
    unfold okN
    rw [e,Nat.add_mul_mod_self_left,Nat.add_mul_div_left _ _ (by lia),Nat.mod_eq_of_lt (by lia : p - 1 < p),Nat.div_eq_of_lt (by lia : p - 1 < p),Nat.zero_add,okN_top hp t _ lt]
    have := Nat.mod_lt k (show 0 < p by lia)
    simp; lia
theorem emod_step {p q f : Int} {P : Int} (hp : 0 < p) (hP : 0 < P) (h0 : 0 ≤ f) (h1 : f < p) : (p * q + f) % (p * P) = p * (q % P) + f := by
  have e : p * q + f = (p * (q % P) + f) + p * P * (q / P) := by
    have := Int.mul_ediv_add_emod q P
    calc p * q + f = p * (P * (q / P) + q % P) + f := by rw [this]
      _ = _ := by rw [Int.mul_add,Int.mul_assoc]; lia
  rw [e,Int.add_mul_emod_self_left]
  have a := Int.emod_nonneg q (by lia : P ≠ 0)
  have b := Int.emod_lt_of_pos q hP
  have c : 0 ≤ p * (q % P) := Int.mul_nonneg (by lia) a
  have d : p * (q % P) + p ≤ p * P := by
    have : p * (q % P + 1) ≤ p * P := Int.mul_le_mul_of_nonneg_left (by lia) (by lia)
    rwa [Int.mul_add,Int.mul_one] at this
  exact Int.emod_eq_of_lt (by lia) (by lia)
theorem okD_okN {p : Nat} (hp : 2 ≤ p) {n : Int} {fs : List Nat} {e : Int} (D : Digs p n fs e) : ∀ t k,k < p ^ t → okD p fs e k = okN p t (n % ((p ^ t : Nat) : Int)).toNat k := by
  induction D with
  | zero =>
    intro t k h
    rw [Int.zero_emod]
    show ((0 : Int) == -1 || decide (k = 0)) = okN p t 0 k
    rw [okN_0 hp t k h]
    rfl
  | neg =>
    intro t k h
    have pp : 0 < p ^ t := Nat.pow_pos (by lia)
    have : ((-1 : Int) % ((p ^ t : Nat) : Int)).toNat = p ^ t - 1 := by
      have : (-1 : Int) % ((p ^ t : Nat) : Int) = ((p ^ t : Nat) : Int) - 1 := by
        have e : (-1 : Int) = (((p ^ t : Nat) : Int) - 1) + ((p ^ t : Nat) : Int) * (-1) := by lia
        rw [e,Int.add_mul_emod_self_left]
        exact Int.emod_eq_of_lt (by lia) (by lia)
      rw [this]; lia
    rw [this,okN_top hp t k h]
    rfl
  | @step n f fs e _ _ hf _ _ ih =>
    intro t k h
    have p0 : (0 : Int) < p := by lia
    have f0 := Int.fmod_nonneg_of_pos n p0
    have f1 := Int.fmod_lt_of_pos n p0
    have en := Int.mul_fdiv_add_fmod n p
    rw [hf] at f0 f1 en
    cases t with
    | zero =>
      have : k = 0 := by simp at h; lia
      subst this
      rw [okD_0]
      simp [okN]
    | succ t =>
      have lt : k / p < p ^ t := by
        rw [Nat.div_lt_iff_lt_mul (by lia)]
        rwa [Nat.pow_succ] at h
      have pp : 0 < p ^ t := Nat.pow_pos (by lia)
      have em : n % ((p ^ (t + 1) : Nat) : Int) = p * (n.fdiv p % ((p ^ t : Nat) : Int)) + f := by
        have := emod_step (q := n.fdiv p) (P := ((p ^ t : Nat) : Int)) p0 (by lia) f0 f1
        rw [en] at this
        rw [← this,Nat.pow_succ,Nat.mul_comm]
        push_cast
        rfl
      have q0 := Int.emod_nonneg (n.fdiv p) (by lia : ((p ^ t : Nat) : Int) ≠ 0)
      obtain ⟨x,hx⟩ : ∃ x : Nat,n.fdiv p % ((p ^ t : Nat) : Int) = x := ⟨(n.fdiv p % ((p ^ t : Nat) : Int)).toNat,by lia⟩
      have ih' := ih t (k / p) lt
      rw [hx] at em ih'
      have er : (n % ((p ^ (t + 1) : Nat) : Int)).toNat = f + p * x := by
        rw [em]
        have : ((p : Int) * x + f) = ((f + p * x : Nat) : Int) := by push_cast; lia
        rw [this]; rfl
      unfold okD okN
      rw [er,Nat.add_mul_mod_self_left,Nat.add_mul_div_left _ _ (by lia),Nat.mod_eq_of_lt (by lia : f < p),Nat.div_eq_of_lt (by lia : f < p),Nat.zero_add,ih']
      rfl
noncomputable def nxR (p : Nat) : List Nat → List Nat
  | a :: b :: l => ((a + b) % p) :: nxR p (b :: l)
  | _ => []
noncomputable def rwM (p : Nat) : Nat → List Nat
  | 0 => 1 % p :: List.replicate 24 0
  | r + 1 => 1 % p :: nxR p (rwM p r)
theorem nxR_get (p : Nat) : ∀ (l : List Nat) (k a b : Nat),l[k]? = some a → l[k + 1]? = some b → (nxR p l)[k]? = some ((a + b) % p)
  | [],k,a,b,h,_ => by simp at h
  | [x],k,a,b,_,h => by simp at h
  | x :: y :: l,0,a,b,h1,h2 => by
    simp at h1 h2
    subst h1 h2
    rfl
  | x :: y :: l,k + 1,a,b,h1,h2 => by
    have := nxR_get p (y :: l) k a b (by simpa using h1) (by simpa using h2)
    show (((x + y) % p) :: nxR p (y :: l))[k + 1]? = _
    simpa using this
theorem rwM_get (p : Nat) : ∀ r k,k < 25 → (rwM p r)[k]? = some (bin r k % p)
  | 0,0,_ => rfl
  | 0,k + 1,h => by
    show (List.replicate 24 0)[k]? = some (0 % p)
    rw [List.getElem?_replicate,if_pos (by lia),Nat.zero_mod]
  | r + 1,0,_ => by show some (1 % p) = some (bin (r + 1) 0 % p); rfl
  | r + 1,k + 1,h => by
    have a := rwM_get p r k (by lia)
    have b := rwM_get p r (k + 1) h
    show (nxR p (rwM p r))[k]? = _
    rw [nxR_get p _ k _ _ a b]
    show _ = some ((bin r k + bin r (k + 1)) % p)
    rw [Nat.add_mod (bin r k)]
noncomputable def chkR (p t : Nat) : Nat → List Nat → Bool
  | 0,_ => true
  | n + 1,l => (List.range 25).all (fun k => okN p t (p ^ t - (n + 1)) k == (match l[k]? with | some x => x != 0 | none => false)) && chkR p t n (1 % p :: nxR p l)
theorem chkR_ok (p t : Nat) : ∀ n,n ≤ p ^ t → chkR p t n (rwM p (p ^ t - n)) = true → ∀ r,p ^ t - n ≤ r → r < p ^ t → ∀ k < 25,okN p t r k = (bin r k % p != 0)
  | 0,_,_,r,h1,h2,_,_ => by lia
  | n + 1,hn,h,r,h1,h2,k,hk => by
    unfold chkR at h
    rw [Bool.and_eq_true] at h
    by_cases e : r = p ^ t - (n + 1)
    · subst e
      have := List.all_eq_true.1 h.1 k (by simpa using hk)
      rw [rwM_get p _ k hk] at this
      exact eq_of_beq this
    · refine chkR_ok p t n (by lia) ?_ r (by lia) h2 k hk
      have : p ^ t - n = p ^ t - (n + 1) + 1 := by lia
      rw [this]
      exact h.2
noncomputable def tOf : Nat → Nat
  | 2 => 5
  | 3 => 3
  | _ => 2
theorem chk_all : ∀ p ∈ [2,3,5,7],chkR p (tOf p) (p ^ tOf p) (rwM p 0) = true ∧ 25 ≤ p ^ tOf p ∧ rwM p (p ^ tOf p) = rwM p 0 := by decide +kernel
theorem lucas {p : Nat} (hp : p ∈ [2,3,5,7]) {n : Int} {fs : List Nat} {e : Int} (D : Digs p n fs e) {k : Nat} (hk : k < 25) : okD p fs e k = ((chos n k).fmod p != 0) := by
  obtain ⟨h1,h2,h3⟩ := chk_all p hp
  have p2 : 2 ≤ p := by simp at hp; lia
  generalize ht : tOf p = t at h1 h2 h3
  have pp : 0 < p ^ t := Nat.pow_pos (by lia)
  rw [okD_okN p2 D t k (by lia)]
  have rl : (n % ((p ^ t : Nat) : Int)).toNat < p ^ t := by
    have := Int.emod_lt_of_pos n (by lia : (0 : Int) < ((p ^ t : Nat) : Int))
    have := Int.emod_nonneg n (by lia : ((p ^ t : Nat) : Int) ≠ 0)
    lia
  rw [chkR_ok p t (p ^ t) (Nat.le_refl _) (by rw [Nat.sub_self]; exact h1) _ (by lia) rl k hk]
  have h0 : ∀ k,k < 25 → (gb ((p ^ t : Nat) : Int) k - gb 0 k) % (p : Int) = 0 := by
    intro k hk
    have a := rwM_get p (p ^ t) k hk
    have b := rwM_get p 0 k hk
    rw [h3,b] at a
    have a : bin 0 k % p = bin (p ^ t) k % p := Option.some.inj a
    show (((bin (p ^ t) k : Nat) : Int) - ((bin 0 k : Nat) : Int)) % (p : Int) = 0
    rw [Int.emod_eq_emod_iff_emod_sub_eq_zero.symm]
    exact_mod_cast a.symm
  have per := gb_period h0 k hk
  have perm : ∀ (m : Nat) (x : Int),(gb (x + ((p ^ t : Nat) : Int) * m) k - gb x k) % (p : Int) = 0 := by
    intro m
    induction m with
    | zero => intro x; simp
    | succ m ih =>
      intro x
      have a := ih x
      have b := per (x + ((p ^ t : Nat) : Int) * m)
      have : x + ((p ^ t : Nat) : Int) * ((m + 1 : Nat) : Int) = (x + ((p ^ t : Nat) : Int) * m) + ((p ^ t : Nat) : Int) := by
        push_cast; rw [Int.mul_add,Int.mul_one]; lia
      rw [this]
      have : gb (x + ((p ^ t : Nat) : Int) * m + ((p ^ t : Nat) : Int)) k - gb x k = (gb (x + ((p ^ t : Nat) : Int) * m + ((p ^ t : Nat) : Int)) k - gb (x + ((p ^ t : Nat) : Int) * m) k) + (gb (x + ((p ^ t : Nat) : Int) * m) k - gb x k) := by lia
      rw [this,Int.add_emod,a,b]; simp
  have key : gb n k % (p : Int) = ((bin (n % ((p ^ t : Nat) : Int)).toNat k : Nat) : Int) % (p : Int) := by
    have er : (((n % ((p ^ t : Nat) : Int)).toNat : Nat) : Int) = n % ((p ^ t : Nat) : Int) := Int.toNat_of_nonneg (Int.emod_nonneg n (by lia))
    show gb n k % (p : Int) = gb (((n % ((p ^ t : Nat) : Int)).toNat : Nat) : Int) k % (p : Int)
    rw [er]
    have en := Int.mul_ediv_add_emod n ((p ^ t : Nat) : Int)
    rcases Int.le_total 0 (n / ((p ^ t : Nat) : Int)) with h | h
    · have := perm (n / ((p ^ t : Nat) : Int)).toNat (n % ((p ^ t : Nat) : Int))
      rw [Int.toNat_of_nonneg h,show n % ((p ^ t : Nat) : Int) + ((p ^ t : Nat) : Int) * (n / ((p ^ t : Nat) : Int)) = n by lia] at this
      exact Int.emod_eq_emod_iff_emod_sub_eq_zero.2 this
    · have := perm (-(n / ((p ^ t : Nat) : Int))).toNat n
      rw [Int.toNat_of_nonneg (by lia),Int.mul_neg,show n + -(((p ^ t : Nat) : Int) * (n / ((p ^ t : Nat) : Int))) = n % ((p ^ t : Nat) : Int) by lia] at this
      exact (Int.emod_eq_emod_iff_emod_sub_eq_zero.2 this).symm
  rw [chos_gb,Int.fmod_eq_emod_of_nonneg _ (by lia),key]
  rw [Bool.eq_iff_iff,bne_iff_ne,bne_iff_ne]
  constructor
  · intro h q
    exact h (by exact_mod_cast q)
  · intro h q
    exact h (by exact_mod_cast q)
theorem takesL_snoc : ∀ (a : List (Nat × Nat × Bool)) (b : List Nat) (x : Nat × Nat × Bool) (y : Nat),a.length = b.length → takesL (a ++ [x]) (b ++ [y]) = (takesL a b && okI x y)
  | [],[],x,y,_ => by simp [takesL]
  | u :: a,v :: b,x,y,h => by
    show (okI u v && takesL (a ++ [x]) (b ++ [y])) = ((okI u v && takesL a b) && okI x y)
    rw [takesL_snoc a b x y (by simpa using h),Bool.and_assoc]
theorem wordL_low (k p : Nat) : ∀ m,wordL k p (m + 1) = wordL (k / p) p m ++ [48 + k % p]
  | 0 => by simp [wordL]
  | m + 1 => by
    show (48 + k / p ^ (m + 1) % p) :: wordL k p (m + 1) = ((48 + k / p / p ^ m % p) :: wordL (k / p) p m) ++ [48 + k % p]
    rw [wordL_low k p m,Nat.div_div_eq_div_mul,Nat.pow_succ,Nat.mul_comm (p ^ m)]
    rfl
theorem wordL_drop (k p L : Nat) : ∀ j,(wordL k p (j + L)).drop j = wordL k p L
  | 0 => by simp
  | j + 1 => by
    rw [show j + 1 + L = (j + L) + 1 by lia]
    show (_ :: wordL k p (j + L)).drop (j + 1) = _
    rw [List.drop_succ_cons,wordL_drop k p L j]
theorem tk_okI : ∀ p ∈ [2,3,5,7],∀ d < 2,∀ f < p,∀ c < p,okI (tkOf p d f).item (48 + c) = decide (c ≤ f) := by decide
theorem rep_takes {p : Nat} (hp : 2 ≤ p) : ∀ r k,k < p ^ r → takesL ((List.replicate r (Tk.s 0)).map Tk.item) (wordL k p r) = decide (k = 0)
  | 0,k,h => by
    have : k = 0 := by simp at h; lia
    simp [this,takesL]
  | r + 1,k,h => by
    have lt : k / p < p ^ r := by
      rw [Nat.div_lt_iff_lt_mul (by lia)]
      rwa [Nat.pow_succ] at h
    rw [List.replicate_succ',List.map_append,wordL_low]
    show takesL (_ ++ [(48,48,false)]) _ = _
    rw [takesL_snoc _ _ _ _ (by simp [wordL_len]),rep_takes hp r _ lt]
    have e := Nat.div_add_mod k p
    have : okI (48,48,false) (48 + k % p) = decide (k % p = 0) := by
      unfold okI
      rw [Bool.eq_iff_iff]
      simp
      lia
    rw [this,Bool.eq_iff_iff]
    simp only [Bool.and_eq_true,decide_eq_true_eq]
    constructor
    · rintro ⟨a,b⟩
      rw [a] at e
      lia
    · rintro rfl
      simp
theorem figs_takes {p d : Nat} (hp : p ∈ [2,3,5,7]) (hd : d < 2) (e : Int) : ∀ (fs : List Nat) (r k : Nat),(∀ f ∈ fs,f < p) → (e = -1 → r = 0) → (e ≠ -1 → k < p ^ (r + fs.length)) →
    takesL ((List.replicate r (Tk.s 0) ++ fs.reverse.map (tkOf p d)).map Tk.item) (wordL k p (r + fs.length)) = okD p fs e k
  | [],r,k,_,h1,h2 => by
    have p2 : 2 ≤ p := by simp at hp; lia
    by_cases q : e = -1
    · rw [h1 q,q]
      rfl
    · have : (e == -1) = false := by simpa using q
      simp only [List.reverse_nil,List.map_nil,List.append_nil,List.length_nil,Nat.add_zero] at h2 ⊢
      rw [rep_takes p2 r k (h2 q)]
      unfold okD
      rw [this,Bool.false_or]
  | f :: fs,r,k,hf,h1,h2 => by
    have p2 : 2 ≤ p := by simp at hp; lia
    have h0 : (List.replicate r (Tk.s 0) ++ (f :: fs).reverse.map (tkOf p d)).map Tk.item = (List.replicate r (Tk.s 0) ++ fs.reverse.map (tkOf p d)).map Tk.item ++ [(tkOf p d f).item] := by simp
    rw [h0,List.length_cons,← Nat.add_assoc,wordL_low]
    rw [takesL_snoc _ _ _ _ (by simp [wordL_len]),figs_takes hp hd e fs r (k / p) (fun x hx => hf x (.tail _ hx)) h1 (fun q => by
      have := h2 q
      rw [Nat.div_lt_iff_lt_mul (by lia)]
      rwa [List.length_cons,← Nat.add_assoc,Nat.pow_succ] at this),tk_okI p hp d hd f (hf f (.head _)) _ (Nat.mod_lt _ (by lia))]
    rw [Bool.and_comm]
    rfl
theorem k_takes {p d : Nat} (hp : p ∈ [2,3,5,7]) (hd : d < 2) {n : Int} {fs : List Nat} {e : Int} (D : Digs p n fs e) (hf : ∀ f ∈ fs,f < p) : ∀ kn < 25,
    takesL ((tksOf p d 5 fs e).map Tk.item) ((wordS kn p (max 5 ((tksOf p d 5 fs e).map Tk.item).length)).cps.toList.drop (max 5 ((tksOf p d 5 fs e).map Tk.item).length - ((tksOf p d 5 fs e).map Tk.item).length)) = ((chos n kn).fmod p != 0) := by
  intro k hk
  have p2 : 2 ≤ p := by simp at hp; lia
  rw [← lucas hp D hk]
  have L := tks_len p d 5 fs e
  show takesL _ ((wordL k p _).toArray.toList.drop _) = _
  rw [List.length_map,L]
  have big : k < p ^ 5 := Nat.lt_of_lt_of_le (Nat.lt_trans hk (by decide : 25 < 2 ^ 5)) (Nat.pow_le_pow_left p2 5)
  by_cases q : e = -1
  · rw [if_pos q]
    unfold tksOf
    rw [if_pos q]
    have : max 5 fs.length = (max 5 fs.length - fs.length) + fs.length := by lia
    rw [show (wordL k p (max 5 fs.length)).toArray.toList = wordL k p (max 5 fs.length) from rfl]
    conv => lhs; rw [this]
    rw [Nat.add_sub_cancel,wordL_drop]
    have := figs_takes hp hd e fs 0 k hf (fun _ => rfl) (fun h => absurd q h)
    rw [Nat.zero_add] at this
    exact this
  · rw [if_neg q]
    unfold tksOf
    rw [if_neg q]
    have e1 : max 5 (max 5 fs.length) = (5 - fs.length) + fs.length := by lia
    have e2 : max 5 (max 5 fs.length) - max 5 fs.length = 0 := by lia
    rw [e2,e1,List.drop_zero]
    refine figs_takes hp hd e fs (5 - fs.length) k hf (fun h => absurd h q) fun _ => Nat.lt_of_lt_of_le big (Nat.pow_le_pow_right (by lia) (by lia))
theorem frS_eq {A B : Cf} (h : kOf A = kOf B ∧ frG A = frG B ∧ frL A = frL B ∧ frPos A = frPos B) (c : Code) (rest : List Frame) : frS A c rest = frS B c rest := by
  unfold frS
  rw [h.1,h.2.1,h.2.2.1,h.2.2.2]
theorem k5 {w : World} {s : Shared} {A : Cf} {it Li hi ep p d r t0 t1 t2 : Nat} {star : Bool} {b0 b1 b2 ch : Int} {vs : Array Value} {its : List (Nat × Nat × Bool)} {warm : Bool} {c1 c2 : Nat} (hA : IsS8 w A) (ai : 296 ≤ it)
    (K : KState w it Li hi ep p 295 r t0 t1 t2 star d b0 b1 b2 vs its 1 25 0 ch s) (Tb : Tab s warm c1 c2) (h74 : s.heap.get? 274 = some cel0) (h75 : s.heap.get? 275 = some cel0) (h76 : s.heap.get? 276 = some cel0) (pp : Pos) :
    ∃ s' it' pp',MSt w it' p d 0 s' ∧ Ext U9 s s' ∧ ∀ Z,Good w Z s' ⟨den (lG w it'),lG w it',pp',frS (m9D w) (lFn w) (lSt w)⟩ → Good w Z s ⟨den (lF w it),lF w it,pp,frS A (lFn w) (lSt w)⟩ := by
  obtain ⟨inv,⟨N,tc,kv,hoa,hd,hfr⟩,⟨tp,hpr⟩,hst1,him,hit,hli,hoc,hits,hsh⟩ := K
  have eA := s8D_eq hA
  rw [frS_eq eA]
  refine gv fun GG hGG => ?_
  have UL : Und (lSt w) (lSw w) := ⟨lSt_sw w,lSt_h w⟩
  have hUn := UL.cons (kOf (s8D w)) (frG (s8D w)) (frL (s8D w)) (lFn w) (frPos (s8D w))
  rw [lSw_eq] at hUn
  have nN : with295 N = N := by unfold with295; rw [← hoa]
  have H := m9_end w it s.heap.objs.size s.toks s.gens.size tc N ch kv (fun _ => ⟨0,0,0,0,0⟩) pp
  unfold M9End at H
  have lit : it < s.heap.objs.size := Heap.lt_size hit
  have O : OwnN (l9 w it tc N ch kv ++ [(271,Cel (.int p tp)),(272,Cel (.bool star)),(273,Cel (.ref Li))]) s.heap := by
    refine ⟨?_,?_,by lia⟩
    · unfold l9
      rw [nN]
      simp only [List.cons_append,List.nil_append,List.forall_mem_cons]
      exact ⟨⟨by lia,hfr⟩,⟨by lia,h74⟩,⟨by lia,h75⟩,⟨by lia,h76⟩,⟨by lia,hit⟩,⟨by lia,hpr⟩,⟨by lia,hst1⟩,⟨by lia,him⟩,fun _ h => nomatch h⟩
    · show [269,274,275,276,it,271,272,273].Nodup
      simp only [List.nodup_cons,List.mem_cons,List.not_mem_nil,or_false,not_or,List.nodup_nil,and_true,not_false_eq_true]; lia
  refine segFE (f := m9 w it s.heap.objs.size s.toks s.gens.size tc N ch kv pp) (l1' := l9' w s.heap.objs.size s.toks tc N ch kv (fun _ => ⟨0,0,0,0,0⟩)) rfl inv O hUn.w ⟨hUn.h,lHd w⟩ (by decide) H (fun _ h => nomatch h) fun s1 I1 O1 _ X1 _ _ _ G1 => ?_
  have E1 : Ext U9 s s1 := O.ext X1
  have T1 : Tab s1 warm c1 c2 := X1.keep _ _ Tb fun h => by
    obtain ⟨z,hz,e⟩ := h
    have := (O.get z (List.mem_append.2 (.inl hz))).1
    lia
  refine hGG (yE3 s1 (s.heap.objs.size + 14) _ ⟨⟨tp,N9 N ch tc kv s.heap.objs.size s.toks,star,Li,s.heap.objs.size + 6,fun _ => s.toks + 12,s.heap.objs.size + 7,fun _ => 0,s.heap.objs.size + 8,fun _ => 0,Z9 s.heap.objs.size s.toks (s.heap.objs.size + 5 - 300),fun _ => ⟨0,0,0,0,0⟩,warm,c1,c2,hd,rfl,rfl,I1,T1,?_⟩,E1,G1⟩)
  unfold mRest
  rw [soD_r,show (Z9 s.heap.objs.size s.toks (s.heap.objs.size + 5 - 300)).aN + 300 = s.heap.objs.size + 5 by show s.heap.objs.size + 5 - 300 + 300 = _; lia,show s.heap.objs.size + 5 - 300 + 300 = s.heap.objs.size + 5 by lia]
  have O1' : OwnN ((l9' w s.heap.objs.size s.toks tc N ch kv (fun _ => ⟨0,0,0,0,0⟩) ++ [(271,Cel (.int p tp)),(272,Cel (.bool star)),(273,Cel (.ref Li))]) ++ []) s1.heap := by
    rw [List.append_nil]; exact O1
  exact OwnN.pick (l' := [(269,frM w (shm 0) (N9 N ch tc kv s.heap.objs.size s.toks)),(271,Cel (.int p tp)),(s.heap.objs.size + 14,Rt1 ((0 : Nat) : Int) (8 - ((0 : Nat) : Int))),(272,Cel (.bool star)),(273,Cel (.ref Li)),(274,Cel (.ref (s.heap.objs.size + 6))),(s.heap.objs.size + 6,Lo (rowV 0 fun _ => s.toks + 12).toArray 0),(275,Cel (.ref (s.heap.objs.size + 7))),(s.heap.objs.size + 7,Lo (wdsL (wdF p) (fun _ => 0) 0).toArray 0),(276,Cel (.ref (s.heap.objs.size + 8))),(s.heap.objs.size + 8,Lo (levV p (fun _ => 0) 0).toArray 0),(s.heap.objs.size + 3,soS (Z9 s.heap.objs.size s.toks 0)),(s.heap.objs.size + 2,soDr w.params (s.heap.objs.size + 5) s.toks),(s.heap.objs.size + 5,soN (fun _ => ⟨0,0,0,0,0⟩) 0)])
    [0,11,10,12,13,1,7,2,8,3,9,4,5,6] O1' rfl (by decide)
noncomputable def lkp (a : Nat) : List Nat → List (Option Obj) → Option Obj
  | i :: l,o :: m => match Nat.beq i a with
    | true => o
    | false => lkp a l m
  | _,_ => none
noncomputable def oO (P : Params) (a : Nat) : Option Obj := match Nat.beq a 85 || Nat.beq a 219 with
  | true => none
  | false => lkp a olds (oldObjs P)
theorem kt_all (P : Params) : (List.range 268).map (fun a => (kt0 P).get a) = (List.range 268).map (oO P) := by kernel_rfl
theorem lkp_some {f : Nat → Option Obj} {a : Nat} {o : Obj} : ∀ {l : List Nat} {m : List (Option Obj)},l.map f = m → lkp a l m = some o → f a = some o
  | [],_,rfl,h => nomatch h
  | i :: l,m,e,h => by
    subst e
    have h : (match Nat.beq i a with | true => f i | false => lkp a l (l.map f)) = some o := h
    cases q : Nat.beq i a with
    | true =>
      rw [q] at h
      rw [← Nat.eq_of_beq_eq_true q]
      exact h
    | false =>
      rw [q] at h
      exact lkp_some rfl h
theorem kt_some {P : Params} {f : Nat → Option Obj} (hf : olds.map f = oldObjs P) {a : Nat} {o : Obj} (ha : a < 268) (h : (kt0 P).get a = some o) : f a = some o := by
  have e := congrArg (fun l => l[a]?) (kt_all P)
  simp only [List.getElem?_map,List.getElem?_range ha,Option.map_some,Option.some.injEq] at e
  rw [h] at e
  unfold oO at e
  split at e
  · cases e
  · exact lkp_some hf e.symm
noncomputable def lK (w : World) : Result → Sem Fin := match lSt w with
  | .ret k _ _ _ _ _ _ :: _ => k
  | _ => fun _ => .unsupported "no frame"
noncomputable def lGd (w : World) : Bool := match lSt w with
  | .ret _ _ g _ _ _ _ :: _ => g
  | _ => false
noncomputable def lLv (w : World) : List Value := match lSt w with
  | .ret _ _ _ l _ _ _ :: _ => l
  | _ => []
noncomputable def lPs (w : World) : Pos := match lSt w with
  | .ret _ _ _ _ _ p _ :: _ => p
  | _ => default
theorem lSt_eq (w : World) : lSt w = [.ret (lK w) none (lGd w) (lLv w) (.builtin "claim.caller" {}) (lPs w) []] := by kernel_rfl
theorem lK_true (w : World) : lK w (.ok (.ret (.bool true))) = .pure (.done (.ret (.bool true))) := by kernel_rfl
theorem good_end {w : World} {Q : Result → Shared → Prop} {s : Shared} {c : Code} {p : Pos} (hc : leftWithCleanup s.gens = false) (h : Q (.ok (.ret (.bool true))) s) : Good w Q s ⟨.pure (.done (.ret (.bool true))),c,p,[]⟩ := by
  refine ⟨1,.ok (.ret (.bool true)),s,?_,h⟩
  show (match (Md w).step s ⟨leafOf (.ok (.ret (.bool true))),c,p,[]⟩ with | .go s' t' => (Md w).runN 0 s' t' | .halt o s' => .halted o s') = _
  rw [PySem.step_leaf_nil]
  unfold finish
  rw [hc]
  rfl
theorem o85_is (P : Params) : o85 P = tableObj #[] := by kernel_rfl
theorem o219_is (P : Params) : o219 P = tableObj #[] := by kernel_rfl
noncomputable def setEs (I : Nat → Inf) (ks : List Nat) : List (Int × Value) := ks.map fun (k : Nat) => ((k : Int),.int (k : Int) (I k).t)
noncomputable def SetO (led : Bool) (I : Nat → Inf) (ks : List Nat) (ep mask mv : Nat) : Obj := ⟨.type "set",none,.set (setEs I ks).toArray ep ⟨mask,ks.toArray,#[],0,led,mv,true⟩,#[]⟩
noncomputable def ctO (led : Bool) (i a : Nat) (I : Nat → Inf) (ks : List Nat) (ep mask mv k : Nat) (b : Bool) : OE := ⟨PySem.code "set.__contains__",[.r a,.i (k : Int)],[(i,a,SetO led I ks ep mask mv)],fun _ => [],fun _ => [],fun _ _ _ => .bool b,1,none⟩
theorem ctO_ok {w : World} {led : Bool} {i a : Nat} {I : Nat → Inf} {ks : List Nat} {ep mask mv k : Nat} {b : Bool} (h1 : ks.all (· < 32) = true) (h2 : k < 32) (h3 : ks.contains k = b) (h4 : ks.length ≤ 8) (h5 : (SetTable.mk mask ks.toArray #[] 0 true mv true).fits ks.length = true) : OEk w (ctO led i a I ks ep mask mv k b) :=
  oe_of (b := Builtin.«frozenset.__contains__») rfl entry_set_contains fun A E s pos hp hn _ => by
    refine xE2 (args2 hp) fun p q hxx => xA2 hxx fun q2 e1 e2 => ?_; clear hxx; obtain rfl := q2; obtain rfl := strip_r e1; obtain ⟨t,rfl⟩ := strip_i e2
    have ho : s.heap.get? a = some (SetO led I ks ep mask mv) := hn _ (.head _)
    have lt : ∀ j ∈ ks,j < 32 := fun j hj => by simpa using List.all_eq_true.1 h1 j hj
    have hS : s.heap.SetOf (intKind PySem.Challenge.pw_ik0207_01 w) a (fun x => ks.any fun (j : Nat) => (j : Int) == x) ks.length := by
      refine ⟨_,_,_,_,ho,⟨rfl,rfl,rfl⟩,rfl,?_,?_,?_,?_,?_⟩
      · intro e he
        have he : e ∈ setEs I ks := by simpa using he
        obtain ⟨j,hj,rfl⟩ := List.mem_map.1 he
        exact ⟨⟨(j : Int),by simp [intKind,Value.isInt],(hashSmall j (lt j hj)).symm⟩,rfl⟩
      · intro x
        constructor
        · intro hx
          obtain ⟨j,hj,e⟩ := List.any_eq_true.1 hx
          refine ⟨((j : Int),.int (j : Int) (I j).t),by simpa [setEs] using ⟨j,hj,rfl,rfl⟩,?_⟩
          simpa [intKind,Value.isInt] using e
        · rintro ⟨e,he,hx⟩
          have he : e ∈ setEs I ks := by simpa using he
          obtain ⟨j,hj,rfl⟩ := List.mem_map.1 he
          exact List.any_eq_true.2 ⟨j,hj,by simpa [intKind,Value.isInt] using hx⟩
      · show (setEs I ks).toArray.size < 4096
        simp [setEs]; lia
      · show SetTable.fits _ (setEs I ks).toArray.size = true
        simpa [setEs] using (show (SetTable.mk mask ks.toArray #[] 0 led mv true).fits ks.length = true from h5)
      · simp [setEs]
    have hb : (ks.any fun (j : Nat) => (j : Int) == (k : Int)) = b := by
      rw [← h3,Bool.eq_iff_iff,List.any_eq_true,List.contains_iff_mem]
      constructor
      · rintro ⟨j,hj,e⟩
        have : j = k := by have := eq_of_beq e; lia
        rwa [← this]
      · intro hj
        exact ⟨k,hj,by simp⟩
    unfold Builtin.«frozenset.__contains__» Builtin.Frozenset.oneOther
    simp only [List.isEmpty_nil,bind_assoc]
    unfold Builtin.Frozenset.addrOf Builtin.Frozenset.withSetAsKey setContains
    refine wpAny_bind (wpAny_pure ?_)
    try dsimp only
    refine wpAny_bind (wpAny_pure ?_)
    try dsimp only
    refine wpAny_bind (wpAny_tryCatch ?_)
    refine wpAny_holding ?_
    refine wpAny_bind ((intKind PySem.Challenge.pw_ik0207_01 w).pyHash (k := (k : Int)) (by simp [intKind,Value.isInt]) ?_)
    refine wpAny_bind (wpAny_setFind_of (knd := intKind PySem.Challenge.pw_ik0207_01 w) (k := (k : Int)) (s := { s with toks := s.toks + 1 }) (by simp [intKind,Value.isInt]) rfl hS fun r hr => ?_)
    refine wpAny_pure ?_
    show wpAny _ _ (ret (Value.bool r.isSome)) _ _ _
    rw [hr,hb]
    exact wpAny_pure ⟨_,rfl,rfl,rfl⟩
noncomputable def plE (I : Nat → Inf) (tk : Nat) (l : List (Nat × Nat × Nat)) : List DictEntry := l.map fun x => ⟨(x.1 : Int),.int (x.1 : Int) (I x.1).t,.int (x.2.1 : Int) (tk + x.2.2)⟩
noncomputable def dlO (i a : Nat) (I : Nat → Inf) (tk : Nat) (l : List (Nat × Nat × Nat)) (x : Nat × Nat × Nat) (n : Nat) : OE :=
  ⟨PySem.code "dict.__delitem__",[.r a,.i (x.1 : Int)],[(i,a,Dc (plE I tk (l ++ [x])) n)],fun _ => [(i,a,Dc (plE I tk l) (n + 1))],fun _ => [],fun _ _ _ => .none,1,none⟩
theorem dlO_ok {w : World} {i a : Nat} {I : Nat → Inf} {tk : Nat} {l : List (Nat × Nat × Nat)} {x : Nat × Nat × Nat} {n : Nat} (h1 : (l ++ [x]).all (·.1 < 32) = true) (h2 : l.all (·.1 != x.1) = true) (h3 : l.length ≤ 8) : OEk w (dlO i a I tk l x n) :=
  oe_of (b := Builtin.«dict.__delitem__») rfl (entryFor_of_tree (by kernel_rfl)) fun A E s pos hp hn _ => by
    refine xE2 (args2 hp) fun p q hxx => xA2 hxx fun q2 e1 e2 => ?_; clear hxx; obtain rfl := q2; obtain rfl := strip_r e1; obtain ⟨t,rfl⟩ := strip_i e2
    have ho : s.heap.get? a = some (Dc (plE I tk (l ++ [x])) n) := hn _ (.head _)
    have ks : IntKeys (plE I tk (l ++ [x])).toArray := fun e he => by
      have he : e ∈ plE I tk (l ++ [x]) := by simpa using he
      obtain ⟨y,hy,rfl⟩ := List.mem_map.1 he
      have : y.1 < 32 := by simpa using List.all_eq_true.1 h1 y hy
      exact ⟨_,_,rfl,(hashSmall _ this).symm⟩
    have fi : ((plE I tk (l ++ [x])).toArray.findIdx? fun e => Value.isInt (x.1 : Int) e.key) = some l.length := by
      rw [List.findIdx?_toArray]
      unfold plE
      rw [List.map_append,List.findIdx?_append]
      have : (List.findIdx? (fun e : DictEntry => Value.isInt (x.1 : Int) e.key) (l.map fun x => ⟨(x.1 : Int),.int (x.1 : Int) (I x.1).t,.int (x.2.1 : Int) (tk + x.2.2)⟩)) = none := by
        rw [List.findIdx?_eq_none_iff]
        intro e he
        obtain ⟨y,hy,rfl⟩ := List.mem_map.1 he
        have := List.all_eq_true.1 h2 y hy
        have : y.1 ≠ x.1 := by simpa using this
        show ((y.1 : Int) == (x.1 : Int)) = false
        rw [beq_eq_false_iff_ne]
        lia
      rw [this]
      simp [List.findIdx?_cons,Value.isInt]
    unfold Builtin.«dict.__delitem__»
    refine wpAny_bind ?_
    unfold Builtin.Dict.dictSlotArgs
    refine wpAny_bind (wpAny_notOrdered_dict ⟨_,ho,rfl⟩ ?_)
    show wpAny _ _ (pure (Value.ref a,Value.int (x.1 : Int) t)) _ _ s
    refine wpAny_pure ?_
    show wpAny _ _ (Builtin.Dict.takeOut a (.int (x.1 : Int) t) >>= _) _ _ s
    refine wpAny_bind ?_
    unfold Builtin.Dict.takeOut
    try with_reducible refine wpAny_holding ?_
    refine wpAny_bind (wpAny_pyHash_int ?_)
    refine wpAny_bind (wpAny_dictFind_int (s := { s with toks := s.toks + 1 }) ho rfl ks ?_)
    rw [fi]
    refine wpAny_bind (wpAny_dictEntries (s := { s with toks := s.toks + 1 }) ho rfl ?_)
    have he' : (plE I tk (l ++ [x])).toArray[l.length]? = some ⟨(x.1 : Int),.int (x.1 : Int) (I x.1).t,.int (x.2.1 : Int) (tk + x.2.2)⟩ := by
      simp [plE]
    rw [he']
    refine wpAny_bind (wpAny_updateDictKeys (hz := by simp [plE]; show _ ≤ 2 ^ 24; lia) (s := { s with toks := s.toks + 1 }) ho rfl (wpAny_pure ?_))
    refine wpAny_bind (wpAny_letGo (wpAny_pure ⟨.none,rfl,rfl,?_⟩))
    have e := update_const ho (Obj.mapDictKeys (·.eraseIdxIfInBounds l.length))
    have e2 : Obj.mapDictKeys (·.eraseIdxIfInBounds l.length) (Dc (plE I tk (l ++ [x])) n) = Dc (plE I tk l) (n + 1) := by
      show (⟨.type "dict",none,.dict ((plE I tk (l ++ [x])).toArray.eraseIdxIfInBounds l.length) (n + 1),#[]⟩ : Obj) = _
      have : (plE I tk (l ++ [x])).toArray.eraseIdxIfInBounds l.length = (plE I tk l).toArray := by
        unfold Array.eraseIdxIfInBounds
        rw [dif_pos (by simp [plE])]
        simp only [plE,List.map_append,List.map_cons,List.map_nil,List.eraseIdx_toArray]
        rw [List.eraseIdx_append_of_length_le (by simp)]
        simp
      rw [this]
      rfl
    rw [e2] at e
    show _ = ({ s with heap := s.heap.update a fun _ => Dc (plE I tk l) (n + 1),toks := s.toks + 1 } : Shared)
    rw [← e]
noncomputable def nzO (i a : Nat) (vs : List Value) (n : Nat) (j b : Nat) (r : Bool) : OE := ⟨PySem.code "list.__ne__",[.r a,.r b],[(i,a,Lo vs.toArray n),(j,b,Lo #[] 0)],fun _ => [],fun _ => [],fun _ _ _ => .bool r,0,none⟩
theorem nzO_ok {w : World} {i a n j b : Nat} {vs : List Value} {r : Bool} (h : (!vs.isEmpty) = r) : OEk w (nzO i a vs n j b r) :=
  oe_meets (b := Builtin.«list.__ne__») rfl (by decide +kernel) (entryFor_of_tree (by kernel_rfl)) fun s pos hp hn _ => by
    refine xE2 (args2 hp) fun p q hxx => xA2 hxx fun q2 h1 h2 => ?_; clear hxx; obtain rfl := q2; obtain rfl := strip_r h1; obtain rfl := strip_r h2
    match vs,h with
    | [],h =>
      refine ⟨_,PySem.SeqAt.list_neAt a b #[] #[] n 0 none none #[] #[] rfl (fun _ => true),fun A R r' => ⟨hn _ (.head _),hn _ (.tail _ (.head _)),(fun j h => absurd h (by simp)),?_⟩⟩
      subst h
      exact r'
    | v :: vs,h =>
      refine ⟨_,PySem.SeqAt.list_ne_lengthsAt a b (v :: vs).toArray #[] n 0 none none #[] #[] (by simp),fun A R r' => ⟨hn _ (.head _),hn _ (.tail _ (.head _)),?_⟩⟩
      subst h
      exact r'
noncomputable def eqL (i a : Nat) (vs : List Value) (e1 j b : Nat) (ws : List Value) (e2 : Nat) : OE := ⟨PySem.code "list.__eq__",[.r a,.r b],[(i,a,Lo vs.toArray e1),(j,b,Lo ws.toArray e2)],fun _ => [],fun _ => [],fun _ _ _ => .bool true,0,none⟩
theorem eqL_ok {w : World} {i a e1 j b e2 : Nat} {vs ws : List Value} (hs : vs.map strip0 = ws.map strip0) (h : ∀ v ∈ vs,∃ x t,v = .int x t) : OEk w (eqL i a vs e1 j b ws e2) :=
  oe_meets (b := Builtin.«list.__eq__») rfl (by decide +kernel) (entryFor_of_tree (by kernel_rfl)) fun s pos hp hn _ => by
    refine xE2 (args2 hp) fun p q hxx => xA2 hxx fun q2 h1 h2 => ?_; clear hxx; obtain rfl := q2; obtain rfl := strip_r h1; obtain rfl := strip_r h2
    have hl : vs.length = ws.length := by simpa using congrArg List.length hs
    refine ⟨_,PySem.SeqAt.list_eqAt a b vs.toArray ws.toArray e1 e2 none none #[] #[] (by simpa using hl) (fun _ => true),fun A R r => ⟨hn _ (.head _),hn _ (.tail _ (.head _)),fun k k1 k2 => ?_,?_⟩⟩
    · have k1' : k < vs.length := by simpa using k1
      have k2' : k < ws.length := by simpa using k2
      obtain ⟨x,t,e⟩ := h _ (List.getElem_mem k1')
      have e2 : strip0 vs[k] = strip0 ws[k] := by
        have := congrArg (fun l => l[k]?) hs
        simpa [k1',k2'] using this
      rw [e] at e2
      obtain ⟨u,e'⟩ := strip_i e2.symm
      have f1 : vs.toArray[k] = .int x t := by simpa using e
      have f2 : ws.toArray[k] = .int x u := by simpa using e'
      rw [f1,f2]
      have := PySem.SeqAt.EqAt.int_int (A := A.in1) (s := s) x t x u
      rw [show (x == x) = true by simp] at this
      exact this
    · have : ((List.range vs.toArray.size).all fun _ => true) = true := by simp
      rw [this]
      exact r
noncomputable def eqT (x y : Nat) (pos : List Value) : Sem Fin := match pos with
  | [a,b,.int i _,.int c _] => (PySem.W.Fast.tw17359229931016689406 [.ref x,.ref y] ((PySem.W.Fast.tw9423741818375054981 .Eq (.ref x) (.ref y)).bind PySem.W.Fast.tw3387353159717490800)).bind fun r => match r with
    | true => PySem.W.Fast.tw12377390311714414960 (.builtin "list.__eq__.loop" ⟨[a,b,rawInt (i + 1),rawInt c],[]⟩)
    | false => (PySem.W.Fast.tw10557518346328741659 a).bind fun xs => (PySem.W.Fast.tw10557518346328741659 b).bind fun ys => match xs[i.toNat]?,ys[i.toNat]? with
      | some _,some _ => PySem.W.Fast.tw6905046200447255374 (.bool false)
      | _,_ => .rule "list.compare.shrunk" fun _ => PySem.W.Fast.tw6905046200447255374 (.bool (xs.size == ys.size))
  | _ => .unsupported "args"
theorem eq_tree {l b x y n m : Nat} {i : Int} {t u : Nat} {xs ys : Array Value} (hne : x ≠ y) (hx : xs[i.toNat]? = some (.ref x)) (hy : ys[i.toNat]? = some (.ref y)) :
    ∃ k,Builtin.«list.__eq__.loop» ⟨[.ref l,.ref b,.int i t,.int 2 u],[]⟩ = .load l none k ∧ ∃ k2,k (Lo xs n) = .load b none k2 ∧ k2 (Lo ys m) = eqT x y [.ref l,.ref b,.int i t,.int 2 u] := by
  unfold Builtin.«list.__eq__.loop»
  refine ⟨_,rfl,_,rfl,?_⟩
  unfold eqT
  rw [← PySem.W.Fast.te17359229931016689406,← PySem.W.Fast.te9423741818375054981,← PySem.W.Fast.te3387353159717490800,← PySem.W.Fast.te12377390311714414960,← PySem.W.Fast.te10557518346328741659,← PySem.W.Fast.te6905046200447255374]
  have hq : eqBool (.ref x) (.ref y) = holding [Value.ref x,Value.ref y] ((richCompare CmpOp.Eq (Value.ref x) (Value.ref y)).bind truthOfDropped) := by
    unfold eqBool
    have : ¬ ((Value.ref x == Value.ref y) = true) := fun e => hne (by have := eq_of_beq e; injection this)
    rw [if_neg this]
    rfl
  show (match (xs[i.toNat]?,ys[i.toNat]?) with
    | (some x,some y) => _
    | _ => _) = _
  rw [hx,hy]
  show (eqBool (.ref x) (.ref y)).bind _ = _
  rw [hq]
  congr 1
  funext r
  cases r with
  | true => rfl
  | false =>
    show (Builtin.List.listItems (Value.ref l)).bind _ = (Builtin.List.listItems (Value.ref l)).bind _
    congr 1
    funext xs
    show (Builtin.List.listItems (Value.ref b)).bind _ = (Builtin.List.listItems (Value.ref b)).bind _
    congr 1
    funext ys
    cases xs[i.toNat]? <;> cases ys[i.toNat]? <;> rfl
noncomputable def eqO (i1 l i2 b x y i : Nat) (xs ys : List Value) (n m : Nat) : OE := ⟨PySem.code "list.__eq__.loop",[.r l,.r b,.i (i : Int),.i 2],[(i1,l,Lo xs.toArray n),(i2,b,Lo ys.toArray m)],fun _ => [],fun _ => [],fun _ _ _ => .none,0,some (eqT x y)⟩
theorem eqO_ok {w : World} {i1 l i2 b x y i n m : Nat} {xs ys : List Value} (hne : x ≠ y) (hx : xs[i]? = some (.ref x)) (hy : ys[i]? = some (.ref y)) : OEk w (eqO i1 l i2 b x y i xs ys n m) := by
  refine ⟨(fun h => nomatch h),fun T hT s id pos p st hid hp hn R G => ?_⟩
  cases hT
  have : id = "list.__eq__.loop" := PySem.code_inj _ _ hid
  subst this
  refine xE4 (args4 hp) fun p1 p2 p3 p4 hxx => xA4 hxx fun q4 h1 h2 h3 h4 => ?_; clear hxx; obtain rfl := q4; obtain rfl := strip_r h1; obtain rfl := strip_r h2; obtain ⟨t,rfl⟩ := strip_i h3; obtain ⟨u,rfl⟩ := strip_i h4
  have ho1 : s.heap.get? l = some (Lo xs.toArray n) := hn _ (.head _)
  have ho2 : s.heap.get? b = some (Lo ys.toArray m) := hn _ (.tail _ (.head _))
  refine xE1 (eq_tree (l := l) (b := b) (n := n) (m := m) (i := (i : Int)) (t := t) (u := u) (xs := xs.toArray) (ys := ys.toArray) hne (by simpa using hx) (by simpa using hy)) fun k hxx => xA1 hxx fun e1 hxx => xE1 hxx fun k2 hxx => xA1 hxx fun e2 e3 => ?_; clear hxx; clear hxx; clear hxx
  have e : den (.builtin "list.__eq__.loop" ⟨[.ref l,.ref b,.int i t,.int 2 u],[]⟩) = .load l none k := by
    rw [den_builtin (b := Builtin.«list.__eq__.loop») (entryFor_of_tree (by kernel_rfl))]
    exact e1
  rw [e]
  refine Good.back (s' := s) (t' := ⟨k (Lo xs.toArray n),_,p,st⟩) (PySem.step_load (Md w) s _ p st none k ho1) ?_
  rw [e2]
  refine Good.back (s' := s) (t' := ⟨k2 (Lo ys.toArray m),_,p,st⟩) (PySem.step_load (Md w) s _ p st none k2 ho2) ?_
  rw [e3]
  exact G
theorem list_iadd_tuple (l : Addr) (items : Array Value) (n : Nat) (b : Addr) (items2 : Array Value) (n2 : Nat) (hs0 : ¬(!items.isEmpty && Builtin.List.listTooLong (items.size + items2.size)) = true) (hs1 : items.size ≤ sizeLine) (hs2 : items.size + items2.size ≤ sizeLine + 1) :
    Meets (Builtin.«list.__iadd__» ⟨[.ref l,.ref b],[]⟩) (fun _ R s => s.heap.get? l = some { cls := .type "list",dict := none,data := .seq items n,slots := #[] } ∧ s.heap.get? b = some { cls := .type "tuple",dict := none,data := .seq items2 n2,slots := #[] } ∧ R (.ok (.ret (Value.ref l))) { s with heap := s.heap.update l (Obj.mapSeq fun x => x ++ items2),toks := s.toks }) :=
  .of_wp fun prog w A R s h => by
    obtain ⟨hp,g,d,tk,os⟩ := s; obtain ⟨hl,hb,h⟩ := h
    have f1 := AutoSeq1.sub_list_list; have f2 := AutoSeq1.sub_tuple_tuple; have f3 := AutoSeq1.sub_tuple_list; have f4 := AutoSeq1.sub_list_tuple
    have hz' : (items ++ items2).size ≤ sizeLine + 1 := by rw [Array.size_append]; exact hs2
    wp_walk using (wpAny_updateSeq hl rfl (hz := hs1) (_hz' := hz')),AutoSeq1.wpAny_loadPart' hl,AutoSeq1.wpAny_loadPart' hb
    exact ⟨_,rfl,h⟩
noncomputable def Sq (tup : Bool) (vs : Array Value) (n : Nat) : Obj := match tup with
  | true => ⟨.type "tuple",none,.seq vs n,#[]⟩
  | false => Lo vs n
noncomputable def coO (tup : Bool) (i j a b : Nat) (ws : Array Value) (n2 : Nat) : OE := ⟨PySem.code "list.__iadd__",[.r a,.r b],[(i,a,Lo #[] 0),(j,b,Sq tup ws n2)],fun _ => [(i,a,Lo ws (epA ws))],fun _ => [],fun _ _ _ => .ref a,0,none⟩
theorem coO_ok {w : World} {tup : Bool} {i j a b : Nat} {ws : Array Value} {n2 : Nat} (h : ws.size ≤ sizeLine) : OEk w (coO tup i j a b ws n2) := by
  cases tup with
  | false => exact colO_ok h
  | true =>
    refine oe_meets (b := Builtin.«list.__iadd__») rfl (by decide +kernel) (entryFor_of_tree (by kernel_rfl)) fun s pos hp hn _ => ?_
    refine xE2 (args2 hp) fun p0 p1 hx => xA2 hx fun q2 h0 h1 => ?_; clear hx; obtain rfl := q2
    obtain rfl := strip_r h0
    obtain rfl := strip_r h1
    refine ⟨_,list_iadd_tuple a #[] 0 b ws n2 (by simp) (by exact Nat.zero_le _) (by simp; lia),fun A R r => ⟨hn _ (.head _),hn _ (.tail _ (.head _)),?_⟩⟩
    have e2 : Obj.mapSeq (fun z => z ++ ws) (Lo #[] 0) = Lo ws (epA ws) := by
      show Lo (#[] ++ ws) (if ((#[] : Array Value) ++ ws).size == 0 then 0 else 0 + 1) = _
      rw [Array.empty_append]
      unfold epA
      cases h : ws.size with
      | zero => rfl
      | succ n => rfl
    have e := update_const (hn (i,a,Lo #[] 0) (.head _)) (Obj.mapSeq fun z => z ++ ws)
    rw [e2] at e
    have r' : R (.ok (.ret (.ref a))) { s with heap := s.heap.update a (fun _ => Lo ws (epA ws)),toks := s.toks } := r
    have e' : s.heap.update a (Obj.mapSeq fun z => z ++ ws) = s.heap.update a (fun _ => Lo ws (epA ws)) := e
    rw [e']
    exact r'
inductive TQ
  | ct (ks : List Nat) (ep mask mv k : Nat)
  | gi (k : Nat)
  | gg (k : Nat)
  | dl (l : List (Nat × Nat × Nat)) (x : Nat × Nat × Nat) (n : Nat)
  | nz (o : Nat) (vs : List (Nat × Nat)) (n o2 : Nat)
  | el (o : Nat) (vs : List Nat) (n o2 : Nat) (ws : List (Nat × Nat)) (n2 : Nat)
  | eo (o o2 x y i : Nat) (xs ys : List Nat) (n m : Nat)
  | ia (tup : Bool) (o o2 : Nat) (vs : List Nat) (n2 : Nat)
noncomputable def nums (tk : Nat) (l : List (Nat × Nat)) : List Value := l.map fun x => .int (x.1 : Int) (tk + x.2)
noncomputable def nodes (I : Nat → Inf) (l : List Nat) : List Value := l.map fun (x : Nat) => .int (x : Int) (I x).t
noncomputable def refs (sz : Nat) (l : List Nat) : List Value := l.map fun (x : Nat) => .ref (sz + x)
noncomputable def TQ.oe (led : Bool) (sz tk aN : Nat) (I : Nat → Inf) : TQ → OE
  | .ct ks ep mask mv k => ctO led 35 (sz + 12) I ks ep mask mv k (ks.contains k)
  | .gi k => dgO "dict.__getitem__" 4 (aN + 300) (nodE I 8) 8 (k : Int) (.ref (I k).a)
  | .gg k => dgO "dict.get" 4 (aN + 300) (nodE I 8) 8 (k : Int) (.ref (I k).a)
  | .dl l x n => dlO 36 (sz + 13) I tk l x n
  | .nz o vs n o2 => nzO (23 + o) (sz + o) (nums tk vs) n (23 + o2) (sz + o2) (!vs.isEmpty)
  | .el o vs n o2 ws n2 => eqL (23 + o) (sz + o) (nodes I vs) n (23 + o2) (sz + o2) (nums tk ws) n2
  | .eo o o2 x y i xs ys n m => eqO (23 + o) (sz + o) (23 + o2) (sz + o2) (sz + x) (sz + y) i (refs sz xs) (refs sz ys) n m
  | .ia tup o o2 vs n2 => coO tup (23 + o) (23 + o2) (sz + o) (sz + o2) (nodes I vs).toArray n2
noncomputable def TQ.ok : TQ → Bool
  | .ct ks ep mask mv k => ks.all (· < 32) && decide (k < 32) && decide (ks.length ≤ 8) && (SetTable.mk mask ks.toArray #[] 0 true mv true).fits ks.length
  | .gi k => decide (k < 8)
  | .gg k => decide (k < 8)
  | .dl l x n => (l ++ [x]).all (·.1 < 32) && l.all (·.1 != x.1) && decide (l.length ≤ 8)
  | .nz .. => true
  | .el o vs n o2 ws n2 => vs == ws.map (·.1)
  | .eo o o2 x y i xs ys n m => x != y && xs[i]? == some x && ys[i]? == some y
  | .ia tup o o2 vs n2 => decide (vs.length ≤ 100)
theorem nodE_keys (I : Nat → Inf) : sKeys (nodE I 8) :=
  ⟨⟨0,_,rfl,rfl,by decide⟩,⟨1,_,rfl,rfl,by decide⟩,⟨2,_,rfl,rfl,by decide⟩,⟨3,_,rfl,rfl,by decide⟩,⟨4,_,rfl,rfl,by decide⟩,⟨5,_,rfl,rfl,by decide⟩,⟨6,_,rfl,rfl,by decide⟩,⟨7,_,rfl,rfl,by decide⟩,trivial⟩
theorem nodE_find (I : Nat → Inf) {k : Nat} (h : k < 8) : findBy Value.isInt (nodE I 8).toArray (k : Int) = some (.ref (I k).a) := by
  have e : k = 0 ∨ k = 1 ∨ k = 2 ∨ k = 3 ∨ k = 4 ∨ k = 5 ∨ k = 6 ∨ k = 7 := by lia
  rcases e with rfl | rfl | rfl | rfl | rfl | rfl | rfl | rfl <;> rfl
theorem TQ.good {w : World} {led : Bool} {sz tk aN : Nat} {I : Nat → Inf} {q : TQ} (h : q.ok = true) : OEk w (q.oe led sz tk aN I) := by
  cases q with
  | ct ks ep mask mv k =>
    simp only [TQ.ok,Bool.and_eq_true,decide_eq_true_eq] at h
    exact ctO_ok h.1.1.1 h.1.1.2 rfl h.1.2 h.2
  | gi k => exact dgItem_ok (nodE_keys I) (nodE_find I (of_decide_eq_true h))
  | gg k => exact dgGet_ok (nodE_keys I) (nodE_find I (of_decide_eq_true h))
  | dl l x n =>
    simp only [TQ.ok,Bool.and_eq_true,decide_eq_true_eq] at h
    exact dlO_ok h.1.1 h.1.2 h.2
  | nz o vs n o2 => exact nzO_ok (by cases vs <;> rfl)
  | el o vs n o2 ws n2 =>
    have h : vs = ws.map (·.1) := eq_of_beq h
    subst h
    refine eqL_ok ?_ ?_
    · simp [nodes,nums,strip0,Function.comp_def]
    · intro v hv
      obtain ⟨x,_,rfl⟩ := List.mem_map.1 hv
      exact ⟨_,_,rfl⟩
  | eo o o2 x y i xs ys n m =>
    simp only [TQ.ok,Bool.and_eq_true,bne_iff_ne,beq_iff_eq] at h
    refine eqO_ok (by lia) ?_ ?_
    · simp [refs,h.1.2]
    · simp [refs,h.2]
  | ia tup o o2 vs n2 =>
    have h : vs.length ≤ 100 := of_decide_eq_true h
    exact coO_ok (by simp [nodes]; show _ ≤ 2 ^ 24; lia)
noncomputable def asO (led : Bool) (sz tk aN : Nat) (I : Nat → Inf) : List (Nat × TQ) → List (Nat × OE)
  | [] => []
  | x :: l => (x.1,x.2.oe led sz tk aN I) :: asO led sz tk aN I l
noncomputable def okL : List (Nat × TQ) → Bool
  | [] => true
  | x :: l => x.2.ok && okL l
theorem asO_good {w : World} {led : Bool} {sz tk aN : Nat} {I : Nat → Inf} : ∀ {l : List (Nat × TQ)},okL l = true → ∀ y ∈ asO led sz tk aN I l,OEk w y.2
  | [],_,_,h => nomatch h
  | x :: l,h,y,hy => by
    unfold okL at h
    rw [Bool.and_eq_true] at h
    rcases List.mem_cons.1 hy with rfl | hy
    · exact TQ.good h.1
    · exact asO_good h.2 y hy
noncomputable def gr0 (k : List Nat) : List Nat := 0 :: 0 :: k
noncomputable def gr1 (k : List Nat) : List Nat := gr0 (0 :: k)
noncomputable def gr2 (k : List Nat) : List Nat := gr0 (gr0 k)
noncomputable def gr3 (k : List Nat) : List Nat := 3 :: gr1 k
noncomputable def gr4 (k : List Nat) : List Nat := 34 :: 34 :: k
noncomputable def gr5 (k : List Nat) : List Nat := 7 :: 7 :: k
noncomputable def gr6 (k : List Nat) : List Nat := 3 :: 0 :: k
noncomputable def gr7 (k : List Nat) : List Nat := 35 :: 35 :: k
noncomputable def gr8 (k : List Nat) : List Nat := 5 :: 5 :: k
noncomputable def gr9 (k : List Nat) : List Nat := gr2 (gr2 k)
noncomputable def gr10 (k : List Nat) : List Nat := gr0 (gr1 k)
noncomputable def gr11 (k : List Nat) : List Nat := 33 :: 33 :: k
noncomputable def gr12 (k : List Nat) : List Nat := gr6 (4 :: k)
noncomputable def gr13 (k : List Nat) : List Nat := gr3 (3 :: k)
noncomputable def gr14 (k : List Nat) : List Nat := gr3 (gr13 k)
noncomputable def gr15 (k : List Nat) : List Nat := gr14 (gr12 k)
noncomputable def gr16 (k : List Nat) : List Nat := gr9 (gr1 k)
noncomputable def gr17 (k : List Nat) : List Nat := 37 :: 37 :: k
noncomputable def gr18 (k : List Nat) : List Nat := 36 :: 36 :: k
noncomputable def gr19 (k : List Nat) : List Nat := gr5 (gr5 (7 :: k))
noncomputable def gr20 (k : List Nat) : List Nat := 29 :: 29 :: k
noncomputable def gr21 (k : List Nat) : List Nat := gr4 (gr4 k)
noncomputable def gr22 (k : List Nat) : List Nat := gr7 (gr7 k)
noncomputable def gr23 (k : List Nat) : List Nat := gr8 (gr8 k)
noncomputable def gr24 (k : List Nat) : List Nat := 33 :: gr21 k
noncomputable def gr25 (k : List Nat) : List Nat := 28 :: 28 :: k
noncomputable def gr26 (k : List Nat) : List Nat := 33 :: gr22 k
noncomputable def gr27 (k : List Nat) : List Nat := 38 :: 38 :: k
noncomputable def gr28 (k : List Nat) : List Nat := 22 :: 0 :: k
noncomputable def gr29 (k : List Nat) : List Nat := gr19 (183 :: k)
noncomputable def gr30 (k : List Nat) : List Nat := 117 :: 117 :: k
noncomputable def gr31 (k : List Nat) : List Nat := gr20 (gr20 k)
noncomputable def gr32 (k : List Nat) : List Nat := 81 :: 81 :: k
noncomputable def gr33 (k : List Nat) : List Nat := gr11 (gr11 k)
noncomputable def gr34 (k : List Nat) : List Nat := gr18 (36 :: k)
noncomputable def gr35 (k : List Nat) : List Nat := gr17 (gr17 k)
noncomputable def gr36 (k : List Nat) : List Nat := gr24 (34 :: k)
noncomputable def gr37 (k : List Nat) : List Nat := gr33 (gr34 k)
noncomputable def gr38 (k : List Nat) : List Nat := gr36 (gr26 (35 :: k))
noncomputable def gr39 (k : List Nat) : List Nat := 215 :: 215 :: k
noncomputable def gr40 (k : List Nat) : List Nat := 18 :: 0 :: k
noncomputable def gr41 (k : List Nat) : List Nat := 20 :: 0 :: k
noncomputable def gr42 (k : List Nat) : List Nat := 96 :: 96 :: k
noncomputable def gr43 (k : List Nat) : List Nat := 227 :: 227 :: k
noncomputable def gr44 (k : List Nat) : List Nat := 203 :: 203 :: k
noncomputable def gr45 (k : List Nat) : List Nat := 209 :: 209 :: k
noncomputable def gr46 (k : List Nat) : List Nat := 221 :: 221 :: k
noncomputable def gr47 (k : List Nat) : List Nat := gr28 (22 :: k)
noncomputable def gr48 (k : List Nat) : List Nat := 16 :: 0 :: k
noncomputable def gr49 (k : List Nat) : List Nat := 98 :: 98 :: k
noncomputable def gr50 (k : List Nat) : List Nat := 234 :: 234 :: k
noncomputable def gr51 (k : List Nat) : List Nat := 14 :: 0 :: k
noncomputable def gr52 (k : List Nat) : List Nat := gr40 (18 :: k)
noncomputable def gr53 (k : List Nat) : List Nat := gr41 (20 :: k)
noncomputable def gr54 (k : List Nat) : List Nat := gr11 (gr35 k)
noncomputable def gr55 (k : List Nat) : List Nat := gr48 (16 :: k)
noncomputable def gr56 (k : List Nat) : List Nat := 185 :: 185 :: k
noncomputable def gr57 (k : List Nat) : List Nat := 22 :: gr1 k
noncomputable def gr58 (k : List Nat) : List Nat := 22 :: gr10 (gr47 k)
noncomputable def gr59 (k : List Nat) : List Nat := 191 :: 191 :: k
noncomputable def gr60 (k : List Nat) : List Nat := 39 :: 39 :: k
noncomputable def gr61 (k : List Nat) : List Nat := 12 :: 0 :: k
noncomputable def gr62 (k : List Nat) : List Nat := 197 :: 197 :: k
noncomputable def gr63 (k : List Nat) : List Nat := gr51 (14 :: k)
noncomputable def gr64 (k : List Nat) : List Nat := gr15 (gr31 k)
noncomputable def gr65 (k : List Nat) : List Nat := 180 :: 180 :: k
noncomputable def gr66 (k : List Nat) : List Nat := 239 :: 239 :: k
noncomputable def gr67 (k : List Nat) : List Nat := 245 :: 245 :: k
noncomputable def gr68 (k : List Nat) : List Nat := gr25 (gr25 k)
noncomputable def gr69 (k : List Nat) : List Nat := gr18 (gr18 k)
noncomputable def gr70 (k : List Nat) : List Nat := gr27 (gr27 k)
noncomputable def gr71 (k : List Nat) : List Nat := 18 :: gr1 k
noncomputable def gr72 (k : List Nat) : List Nat := 18 :: gr10 (gr52 k)
noncomputable def gr73 (k : List Nat) : List Nat := 20 :: gr1 k
noncomputable def gr74 (k : List Nat) : List Nat := 20 :: gr10 (gr53 k)
noncomputable def gr75 (k : List Nat) : List Nat := 33 :: gr69 k
noncomputable def gr76 (k : List Nat) : List Nat := gr15 (gr0 k)
noncomputable def gr77 (k : List Nat) : List Nat := gr19 (201 :: k)
noncomputable def gr78 (k : List Nat) : List Nat := gr19 (237 :: k)
noncomputable def gr79 (k : List Nat) : List Nat := 119 :: 119 :: k
noncomputable def gr80 (k : List Nat) : List Nat := 141 :: 141 :: k
noncomputable def gr81 (k : List Nat) : List Nat := 10 :: 0 :: k
noncomputable def gr82 (k : List Nat) : List Nat := gr61 (12 :: k)
noncomputable def gr83 (k : List Nat) : List Nat := 16 :: gr1 k
noncomputable def gr84 (k : List Nat) : List Nat := 16 :: gr10 (gr55 k)
noncomputable def gr85 (k : List Nat) : List Nat := gr32 (gr32 k)
noncomputable def gr86 (k : List Nat) : List Nat := gr30 (117 :: k)
noncomputable def gr87 (k : List Nat) : List Nat := gr3 (gr6 (gr6 (gr3 (gr12 (4 :: 4 :: k)))))
noncomputable def gr88 (k : List Nat) : List Nat := 198 :: 198 :: k
noncomputable def gr89 (k : List Nat) : List Nat := 14 :: gr1 k
noncomputable def gr90 (k : List Nat) : List Nat := 14 :: gr10 (gr63 k)
noncomputable def gr91 (k : List Nat) : List Nat := 41 :: 41 :: k
noncomputable def gr92 (k : List Nat) : List Nat := gr39 (gr39 k)
noncomputable def gr93 (k : List Nat) : List Nat := gr14 (gr2 (3 :: 4 :: gr1 k))
noncomputable def gr94 (k : List Nat) : List Nat := gr57 (22 :: gr16 (gr58 k))
noncomputable def gr95 (k : List Nat) : List Nat := gr43 (gr43 k)
noncomputable def gr96 (k : List Nat) : List Nat := gr37 (gr54 (gr38 k))
noncomputable def gr97 (k : List Nat) : List Nat := gr44 (gr44 k)
noncomputable def gr98 (k : List Nat) : List Nat := gr45 (gr45 k)
noncomputable def gr99 (k : List Nat) : List Nat := gr46 (gr46 k)
noncomputable def gr100 (k : List Nat) : List Nat := 1 :: gr93 k
noncomputable def gr101 (k : List Nat) : List Nat := gr81 (10 :: k)
noncomputable def gr102 (k : List Nat) : List Nat := 12 :: gr1 k
noncomputable def gr103 (k : List Nat) : List Nat := 12 :: gr10 (gr82 k)
noncomputable def gr104 (k : List Nat) : List Nat := 8 :: 0 :: k
noncomputable def gr105 (k : List Nat) : List Nat := gr71 (18 :: gr16 (gr72 k))
noncomputable def gr106 (k : List Nat) : List Nat := gr73 (20 :: gr16 (gr74 k))
noncomputable def gr107 (k : List Nat) : List Nat := gr42 (96 :: k)
noncomputable def gr108 (k : List Nat) : List Nat := 235 :: 235 :: k
noncomputable def gr109 (k : List Nat) : List Nat := gr83 (16 :: gr16 (gr84 k))
noncomputable def gr110 (k : List Nat) : List Nat := 1 :: gr85 k
noncomputable def gr111 (k : List Nat) : List Nat := 233 :: 233 :: k
noncomputable def gr112 (k : List Nat) : List Nat := 107 :: 107 :: k
noncomputable def gr113 (k : List Nat) : List Nat := 118 :: 118 :: k
noncomputable def gr114 (k : List Nat) : List Nat := 122 :: 122 :: k
noncomputable def gr115 (k : List Nat) : List Nat := 43 :: 43 :: k
noncomputable def gr116 (k : List Nat) : List Nat := gr56 (gr56 k)
noncomputable def gr117 (k : List Nat) : List Nat := gr8 (gr68 (gr25 k))
noncomputable def gr118 (k : List Nat) : List Nat := 30 :: 30 :: 30 :: k
noncomputable def gr119 (k : List Nat) : List Nat := gr104 (8 :: k)
noncomputable def gr120 (k : List Nat) : List Nat := 10 :: gr1 k
noncomputable def gr121 (k : List Nat) : List Nat := 10 :: gr10 (gr101 k)
noncomputable def gr122 (k : List Nat) : List Nat := gr89 (14 :: gr16 (gr90 k))
noncomputable def gr123 (k : List Nat) : List Nat := gr8 (gr70 (38 :: k))
noncomputable def gr124 (k : List Nat) : List Nat := 9 :: gr60 k
noncomputable def gr125 (k : List Nat) : List Nat := 9 :: gr49 k
noncomputable def gr126 (k : List Nat) : List Nat := 131 :: 131 :: k
noncomputable def gr127 (k : List Nat) : List Nat := gr62 (gr62 k)
noncomputable def gr128 (k : List Nat) : List Nat := gr59 (gr59 k)
noncomputable def gr129 (k : List Nat) : List Nat := 199 :: 199 :: k
noncomputable def gr130 (k : List Nat) : List Nat := gr50 (gr50 k)
noncomputable def gr131 (k : List Nat) : List Nat := 251 :: 251 :: k
noncomputable def gr132 (k : List Nat) : List Nat := 257 :: 257 :: k
noncomputable def gr133 (k : List Nat) : List Nat := 263 :: 263 :: k
noncomputable def gr134 (k : List Nat) : List Nat := 269 :: 269 :: k
noncomputable def gr135 (k : List Nat) : List Nat := 275 :: 275 :: k
noncomputable def gr136 (k : List Nat) : List Nat := 281 :: 281 :: k
noncomputable def gr137 (k : List Nat) : List Nat := 143 :: 143 :: k
noncomputable def gr138 (k : List Nat) : List Nat := gr65 (gr65 k)
noncomputable def gr139 (k : List Nat) : List Nat := 183 :: 183 :: k
noncomputable def gr140 (k : List Nat) : List Nat := 181 :: 181 :: k
noncomputable def gr141 (k : List Nat) : List Nat := gr66 (gr66 k)
noncomputable def gr142 (k : List Nat) : List Nat := gr67 (gr67 k)
noncomputable def gr143 (k : List Nat) : List Nat := gr30 (gr30 k)
noncomputable def gr144 (k : List Nat) : List Nat := 205 :: 205 :: k
noncomputable def gr145 (k : List Nat) : List Nat := gr80 (141 :: k)
noncomputable def gr146 (k : List Nat) : List Nat := gr117 (gr118 k)
noncomputable def gr147 (k : List Nat) : List Nat := gr123 (gr37 k)
noncomputable def gr148 (k : List Nat) : List Nat := gr75 (gr75 k)
noncomputable def gr149 (k : List Nat) : List Nat := gr26 (gr0 (gr11 (gr23 k)))
noncomputable def gr150 (k : List Nat) : List Nat := gr22 (gr0 (33 :: gr4 (34 :: gr54 (gr35 (gr24 (gr24 (gr38 k)))))))
noncomputable def gr151 (k : List Nat) : List Nat := 40 :: 40 :: gr60 (gr124 k)
noncomputable def gr152 (k : List Nat) : List Nat := gr11 (gr21 (gr21 (34 :: gr17 (37 :: gr26 (gr22 (35 :: k))))))
noncomputable def gr153 (k : List Nat) : List Nat := gr42 (gr42 k)
noncomputable def gr154 (k : List Nat) : List Nat := gr15 (gr87 k)
noncomputable def gr155 (k : List Nat) : List Nat := 252 :: 252 :: k
noncomputable def gr156 (k : List Nat) : List Nat := gr102 (12 :: gr16 (gr103 k))
noncomputable def gr157 (k : List Nat) : List Nat := 104 :: 104 :: k
noncomputable def gr158 (k : List Nat) : List Nat := gr143 (gr23 (gr86 k))
noncomputable def gr159 (k : List Nat) : List Nat := 8 :: gr1 k
noncomputable def gr160 (k : List Nat) : List Nat := 8 :: gr10 (gr119 k)
noncomputable def gr161 (k : List Nat) : List Nat := gr68 (gr146 k)
noncomputable def gr162 (k : List Nat) : List Nat := gr148 (gr149 k)
noncomputable def gr163 (k : List Nat) : List Nat := 45 :: 45 :: k
noncomputable def gr164 (k : List Nat) : List Nat := gr152 (gr38 k)
noncomputable def gr165 (k : List Nat) : List Nat := 33 :: 888888 :: k
noncomputable def gr166 (k : List Nat) : List Nat := gr70 (gr147 k)
noncomputable def gr167 (k : List Nat) : List Nat := gr125 (gr153 (gr23 (gr107 k)))
noncomputable def gr168 (k : List Nat) : List Nat := gr49 (gr49 k)
noncomputable def gr169 (k : List Nat) : List Nat := 211 :: 211 :: k
noncomputable def gr170 (k : List Nat) : List Nat := 288 :: 288 :: k
noncomputable def gr171 (k : List Nat) : List Nat := 71 :: 71 :: k
noncomputable def gr172 (k : List Nat) : List Nat := 203 :: gr144 k
noncomputable def gr173 (k : List Nat) : List Nat := 217 :: 217 :: k
noncomputable def gr174 (k : List Nat) : List Nat := 223 :: 223 :: k
noncomputable def gr175 (k : List Nat) : List Nat := 229 :: 229 :: k
noncomputable def gr176 (k : List Nat) : List Nat := 142 :: 142 :: k
noncomputable def gr177 (k : List Nat) : List Nat := gr57 (gr28 (gr47 (gr9 (gr58 k))))
noncomputable def gr178 (k : List Nat) : List Nat := 11 :: gr91 k
noncomputable def gr179 (k : List Nat) : List Nat := 11 :: gr79 k
noncomputable def gr180 (k : List Nat) : List Nat := gr88 (gr88 k)
noncomputable def gr181 (k : List Nat) : List Nat := gr92 (215 :: k)
noncomputable def gr182 (k : List Nat) : List Nat := gr95 (227 :: k)
noncomputable def gr183 (k : List Nat) : List Nat := gr120 (10 :: gr16 (gr121 k))
noncomputable def gr184 (k : List Nat) : List Nat := gr37 (gr162 k)
noncomputable def gr185 (k : List Nat) : List Nat := gr64 (29 :: k)
noncomputable def gr186 (k : List Nat) : List Nat := 86 :: 86 :: k
noncomputable def gr187 (k : List Nat) : List Nat := 90 :: 90 :: k
noncomputable def gr188 (k : List Nat) : List Nat := 97 :: 97 :: k
noncomputable def gr189 (k : List Nat) : List Nat := gr168 (gr167 k)
noncomputable def gr190 (k : List Nat) : List Nat := 111 :: 111 :: k
noncomputable def gr191 (k : List Nat) : List Nat := gr97 (gr97 k)
noncomputable def gr192 (k : List Nat) : List Nat := gr172 (6 :: 205 :: k)
noncomputable def gr193 (k : List Nat) : List Nat := gr98 (gr98 k)
noncomputable def gr194 (k : List Nat) : List Nat := 209 :: gr169 (6 :: 211 :: k)
noncomputable def gr195 (k : List Nat) : List Nat := gr173 (6 :: 217 :: k)
noncomputable def gr196 (k : List Nat) : List Nat := gr99 (gr99 k)
noncomputable def gr197 (k : List Nat) : List Nat := 221 :: gr174 (6 :: 223 :: k)
noncomputable def gr198 (k : List Nat) : List Nat := gr175 (6 :: 229 :: k)
noncomputable def gr199 (k : List Nat) : List Nat := gr71 (gr40 (gr52 (gr9 (gr72 k))))
noncomputable def gr200 (k : List Nat) : List Nat := gr73 (gr41 (gr53 (gr9 (gr74 k))))
noncomputable def gr201 (k : List Nat) : List Nat := 193 :: 193 :: k
noncomputable def gr202 (k : List Nat) : List Nat := 42 :: 42 :: gr91 (gr178 k)
noncomputable def gr203 (k : List Nat) : List Nat := 144 :: 144 :: k
noncomputable def gr204 (k : List Nat) : List Nat := 146 :: 146 :: k
noncomputable def gr205 (k : List Nat) : List Nat := gr191 (gr192 k)
noncomputable def gr206 (k : List Nat) : List Nat := gr193 (gr194 k)
noncomputable def gr207 (k : List Nat) : List Nat := gr92 (gr181 (gr195 k))
noncomputable def gr208 (k : List Nat) : List Nat := gr196 (gr197 k)
noncomputable def gr209 (k : List Nat) : List Nat := 226 :: 226 :: k
noncomputable def gr210 (k : List Nat) : List Nat := gr95 (gr182 (gr198 k))
noncomputable def gr211 (k : List Nat) : List Nat := 128 :: 128 :: k
noncomputable def gr212 (k : List Nat) : List Nat := 162 :: 162 :: k
noncomputable def gr213 (k : List Nat) : List Nat := gr159 (8 :: gr16 (gr160 k))
noncomputable def gr214 (k : List Nat) : List Nat := gr185 (gr110 (gr0 (gr100 k)))
noncomputable def gr215 (k : List Nat) : List Nat := 83 :: 83 :: k
noncomputable def gr216 (k : List Nat) : List Nat := gr15 (29 :: k)
noncomputable def gr217 (k : List Nat) : List Nat := gr64 (gr31 (29 :: k))
noncomputable def gr218 (k : List Nat) : List Nat := gr85 (1 :: gr13 (gr2 (gr0 (3 :: gr12 (gr2 (gr110 (81 :: k)))))))
noncomputable def gr219 (k : List Nat) : List Nat := gr83 (gr48 (gr55 (gr9 (gr84 k))))
noncomputable def gr220 (k : List Nat) : List Nat := 204 :: 204 :: k
noncomputable def gr221 (k : List Nat) : List Nat := 66 :: 66 :: k
noncomputable def gr222 (k : List Nat) : List Nat := gr151 (gr96 k)
noncomputable def gr223 (k : List Nat) : List Nat := 152 :: 152 :: k
noncomputable def gr224 (k : List Nat) : List Nat := 214 :: 214 :: k
noncomputable def gr225 (k : List Nat) : List Nat := gr111 (gr111 k)
noncomputable def gr226 (k : List Nat) : List Nat := 253 :: 253 :: k
noncomputable def gr227 (k : List Nat) : List Nat := 53 :: 53 :: k
noncomputable def gr228 (k : List Nat) : List Nat := gr89 (gr51 (gr63 (gr9 (gr90 k))))
noncomputable def gr229 (k : List Nat) : List Nat := gr94 (gr177 k)
noncomputable def gr230 (k : List Nat) : List Nat := 165 :: 165 :: k
noncomputable def gr231 (k : List Nat) : List Nat := 187 :: 187 :: k
noncomputable def gr232 (k : List Nat) : List Nat := 191 :: gr201 k
noncomputable def gr233 (k : List Nat) : List Nat := 181 :: gr50 k
noncomputable def gr234 (k : List Nat) : List Nat := 236 :: 236 :: 236 :: k
noncomputable def gr235 (k : List Nat) : List Nat := 135 :: 135 :: k
noncomputable def gr236 (k : List Nat) : List Nat := 241 :: 241 :: k
noncomputable def gr237 (k : List Nat) : List Nat := 247 :: 247 :: k
noncomputable def gr238 (k : List Nat) : List Nat := 61 :: 61 :: k
noncomputable def gr239 (k : List Nat) : List Nat := 106 :: gr112 k
noncomputable def gr240 (k : List Nat) : List Nat := 116 :: gr113 k
noncomputable def gr241 (k : List Nat) : List Nat := gr179 (gr158 k)
noncomputable def gr242 (k : List Nat) : List Nat := gr79 (gr79 k)
noncomputable def gr243 (k : List Nat) : List Nat := 149 :: 149 :: k
noncomputable def gr244 (k : List Nat) : List Nat := gr116 (185 :: k)
noncomputable def gr245 (k : List Nat) : List Nat := 190 :: 190 :: k
noncomputable def gr246 (k : List Nat) : List Nat := gr127 (gr127 k)
noncomputable def gr247 (k : List Nat) : List Nat := gr131 (gr131 k)
noncomputable def gr248 (k : List Nat) : List Nat := gr132 (gr132 k)
noncomputable def gr249 (k : List Nat) : List Nat := gr133 (gr133 k)
noncomputable def gr250 (k : List Nat) : List Nat := gr134 (gr134 k)
noncomputable def gr251 (k : List Nat) : List Nat := gr135 (gr135 k)
noncomputable def gr252 (k : List Nat) : List Nat := gr136 (gr136 k)
noncomputable def gr253 (k : List Nat) : List Nat := 1 :: 1 :: k
noncomputable def gr254 (k : List Nat) : List Nat := 63 :: 63 :: k
noncomputable def gr255 (k : List Nat) : List Nat := 85 :: 85 :: k
noncomputable def gr256 (k : List Nat) : List Nat := 106 :: 106 :: k
noncomputable def gr257 (k : List Nat) : List Nat := 179 :: 179 :: k
noncomputable def gr258 (k : List Nat) : List Nat := gr138 (gr138 k)
noncomputable def gr259 (k : List Nat) : List Nat := 180 :: gr139 (gr0 k)
noncomputable def gr260 (k : List Nat) : List Nat := 184 :: 184 :: k
noncomputable def gr261 (k : List Nat) : List Nat := gr231 (6 :: 187 :: gr29 k)
noncomputable def gr262 (k : List Nat) : List Nat := gr140 (gr140 k)
noncomputable def gr263 (k : List Nat) : List Nat := gr128 (gr128 k)
noncomputable def gr264 (k : List Nat) : List Nat := gr232 (6 :: 193 :: gr29 k)
noncomputable def gr265 (k : List Nat) : List Nat := 197 :: gr129 (6 :: 199 :: gr29 k)
noncomputable def gr266 (k : List Nat) : List Nat := gr233 (gr234 k)
noncomputable def gr267 (k : List Nat) : List Nat := gr108 (gr108 (gr130 k))
noncomputable def gr268 (k : List Nat) : List Nat := 155 :: 155 :: k
noncomputable def gr269 (k : List Nat) : List Nat := gr141 (gr141 k)
noncomputable def gr270 (k : List Nat) : List Nat := 239 :: gr236 (6 :: 241 :: k)
noncomputable def gr271 (k : List Nat) : List Nat := gr142 (gr142 k)
noncomputable def gr272 (k : List Nat) : List Nat := 245 :: gr237 (6 :: 247 :: k)
noncomputable def gr273 (k : List Nat) : List Nat := gr102 (gr61 (gr82 (gr9 (gr103 k))))
noncomputable def gr274 (k : List Nat) : List Nat := 202 :: 202 :: k
noncomputable def gr275 (k : List Nat) : List Nat := 208 :: 208 :: k
noncomputable def gr276 (k : List Nat) : List Nat := 220 :: 220 :: k
noncomputable def gr277 (k : List Nat) : List Nat := gr80 (gr80 k)
noncomputable def gr278 (k : List Nat) : List Nat := gr105 (gr199 k)
noncomputable def gr279 (k : List Nat) : List Nat := gr106 (gr200 k)
noncomputable def gr280 (k : List Nat) : List Nat := 158 :: 158 :: k
noncomputable def gr281 (k : List Nat) : List Nat := gr116 (gr244 (gr261 k))
noncomputable def gr282 (k : List Nat) : List Nat := gr262 (gr258 (gr259 k))
noncomputable def gr283 (k : List Nat) : List Nat := gr263 (gr264 k)
noncomputable def gr284 (k : List Nat) : List Nat := gr246 (gr265 k)
noncomputable def gr285 (k : List Nat) : List Nat := gr205 (gr29 k)
noncomputable def gr286 (k : List Nat) : List Nat := gr29 (gr206 k)
noncomputable def gr287 (k : List Nat) : List Nat := gr29 (gr207 k)
noncomputable def gr288 (k : List Nat) : List Nat := gr29 (gr208 k)
noncomputable def gr289 (k : List Nat) : List Nat := gr29 (gr210 k)
noncomputable def gr290 (k : List Nat) : List Nat := 13 :: gr115 k
noncomputable def gr291 (k : List Nat) : List Nat := 13 :: gr137 k
noncomputable def gr292 (k : List Nat) : List Nat := 47 :: 47 :: k
noncomputable def gr293 (k : List Nat) : List Nat := gr269 (gr270 k)
noncomputable def gr294 (k : List Nat) : List Nat := gr271 (gr272 k)
noncomputable def gr295 (k : List Nat) : List Nat := 289 :: 289 :: k
noncomputable def gr296 (k : List Nat) : List Nat := 44 :: 44 :: gr115 k
noncomputable def gr297 (k : List Nat) : List Nat := gr157 (0 :: k)
noncomputable def gr298 (k : List Nat) : List Nat := gr242 (gr241 k)
noncomputable def gr299 (k : List Nat) : List Nat := gr114 (gr114 k)
noncomputable def gr300 (k : List Nat) : List Nat := 130 :: 130 :: k
noncomputable def gr301 (k : List Nat) : List Nat := gr203 (144 :: k)
noncomputable def gr302 (k : List Nat) : List Nat := 164 :: 164 :: k
noncomputable def gr303 (k : List Nat) : List Nat := 26 :: 26 :: k
noncomputable def gr304 (k : List Nat) : List Nat := gr166 (gr166 k)
noncomputable def gr305 (k : List Nat) : List Nat := 85 :: gr186 k
noncomputable def gr306 (k : List Nat) : List Nat := 95 :: gr188 k
noncomputable def gr307 (k : List Nat) : List Nat := gr120 (gr81 (gr101 (gr9 (gr121 k))))
noncomputable def gr308 (k : List Nat) : List Nat := gr109 (gr219 k)
noncomputable def gr309 (k : List Nat) : List Nat := 125 :: 125 :: k
noncomputable def gr310 (k : List Nat) : List Nat := 134 :: 134 :: k
noncomputable def gr311 (k : List Nat) : List Nat := 145 :: 145 :: k
noncomputable def gr312 (k : List Nat) : List Nat := 170 :: 170 :: k
noncomputable def gr313 (k : List Nat) : List Nat := 173 :: 173 :: k
noncomputable def gr314 (k : List Nat) : List Nat := 192 :: 192 :: k
noncomputable def gr315 (k : List Nat) : List Nat := 55 :: 55 :: k
noncomputable def gr316 (k : List Nat) : List Nat := 130 :: gr126 k
noncomputable def gr317 (k : List Nat) : List Nat := 140 :: gr176 k
noncomputable def gr318 (k : List Nat) : List Nat := gr277 (gr23 (gr145 k))
noncomputable def gr319 (k : List Nat) : List Nat := 49 :: 49 :: k
noncomputable def gr320 (k : List Nat) : List Nat := 51 :: 51 :: k
noncomputable def gr321 (k : List Nat) : List Nat := 67 :: 67 :: k
noncomputable def gr322 (k : List Nat) : List Nat := 196 :: 196 :: k
noncomputable def gr323 (k : List Nat) : List Nat := gr296 (gr290 k)
noncomputable def gr324 (k : List Nat) : List Nat := gr202 (gr96 k)
noncomputable def gr325 (k : List Nat) : List Nat := 72 :: 72 :: k
noncomputable def gr326 (k : List Nat) : List Nat := gr122 (gr228 k)
noncomputable def gr327 (k : List Nat) : List Nat := 172 :: 172 :: k
noncomputable def gr328 (k : List Nat) : List Nat := 169 :: 169 :: k
noncomputable def gr329 (k : List Nat) : List Nat := 238 :: 238 :: k
noncomputable def gr330 (k : List Nat) : List Nat := 244 :: 244 :: k
noncomputable def gr331 (k : List Nat) : List Nat := 199 :: gr155 k
noncomputable def gr332 (k : List Nat) : List Nat := gr155 (gr155 k)
noncomputable def gr333 (k : List Nat) : List Nat := 235 :: gr170 k
noncomputable def gr334 (k : List Nat) : List Nat := gr151 (gr184 k)
noncomputable def gr335 (k : List Nat) : List Nat := 54 :: 54 :: k
noncomputable def gr336 (k : List Nat) : List Nat := 96 :: gr64 (96 :: gr31 k)
noncomputable def gr337 (k : List Nat) : List Nat := gr239 (gr297 (gr157 (gr23 k)))
noncomputable def gr338 (k : List Nat) : List Nat := gr112 (gr112 k)
noncomputable def gr339 (k : List Nat) : List Nat := gr240 (gr86 (gr23 (117 :: 5 :: gr86 k)))
noncomputable def gr340 (k : List Nat) : List Nat := gr86 (gr0 (117 :: k))
noncomputable def gr341 (k : List Nat) : List Nat := 117 :: gr154 (gr113 (gr113 k))
noncomputable def gr342 (k : List Nat) : List Nat := gr114 (gr158 k)
noncomputable def gr343 (k : List Nat) : List Nat := 117 :: gr64 (117 :: gr31 k)
noncomputable def gr344 (k : List Nat) : List Nat := gr211 (0 :: k)
noncomputable def gr345 (k : List Nat) : List Nat := 168 :: 168 :: k
noncomputable def gr346 (k : List Nat) : List Nat := 166 :: 166 :: k
noncomputable def gr347 (k : List Nat) : List Nat := gr180 (gr180 k)
noncomputable def gr348 (k : List Nat) : List Nat := 201 :: gr0 k
noncomputable def gr349 (k : List Nat) : List Nat := gr225 (gr225 k)
noncomputable def gr350 (k : List Nat) : List Nat := gr332 (gr331 k)
noncomputable def gr351 (k : List Nat) : List Nat := 254 :: 254 :: 254 :: k
noncomputable def gr352 (k : List Nat) : List Nat := 259 :: 259 :: k
noncomputable def gr353 (k : List Nat) : List Nat := 265 :: 265 :: k
noncomputable def gr354 (k : List Nat) : List Nat := 271 :: 271 :: k
noncomputable def gr355 (k : List Nat) : List Nat := 277 :: 277 :: k
noncomputable def gr356 (k : List Nat) : List Nat := 283 :: 283 :: k
noncomputable def gr357 (k : List Nat) : List Nat := gr170 (gr170 (gr333 k))
noncomputable def gr358 (k : List Nat) : List Nat := 290 :: 290 :: 290 :: k
noncomputable def gr359 (k : List Nat) : List Nat := 2 :: 2 :: k
noncomputable def gr360 (k : List Nat) : List Nat := 26 :: gr15 k
noncomputable def gr361 (k : List Nat) : List Nat := 27 :: 27 :: k
noncomputable def gr362 (k : List Nat) : List Nat := gr213 (9 :: 9 :: k)
noncomputable def gr363 (k : List Nat) : List Nat := gr183 (11 :: 11 :: k)
noncomputable def gr364 (k : List Nat) : List Nat := gr122 (15 :: 15 :: 15 :: k)
noncomputable def gr365 (k : List Nat) : List Nat := gr94 (23 :: 23 :: 23 :: k)
noncomputable def gr366 (k : List Nat) : List Nat := 46 :: 46 :: gr163 k
noncomputable def gr367 (k : List Nat) : List Nat := 48 :: 48 :: k
noncomputable def gr368 (k : List Nat) : List Nat := gr105 (19 :: 19 :: 19 :: k)
noncomputable def gr369 (k : List Nat) : List Nat := gr156 (13 :: 13 :: k)
noncomputable def gr370 (k : List Nat) : List Nat := 62 :: 62 :: k
noncomputable def gr371 (k : List Nat) : List Nat := gr106 (21 :: 21 :: 21 :: k)
noncomputable def gr372 (k : List Nat) : List Nat := 64 :: 64 :: k
noncomputable def gr373 (k : List Nat) : List Nat := 69 :: 69 :: k
noncomputable def gr374 (k : List Nat) : List Nat := gr109 (17 :: 17 :: 17 :: k)
noncomputable def gr375 (k : List Nat) : List Nat := gr325 (gr171 k)
noncomputable def gr376 (k : List Nat) : List Nat := 74 :: 74 :: k
noncomputable def gr377 (k : List Nat) : List Nat := 75 :: 75 :: k
noncomputable def gr378 (k : List Nat) : List Nat := 77 :: 77 :: k
noncomputable def gr379 (k : List Nat) : List Nat := 78 :: 78 :: k
noncomputable def gr380 (k : List Nat) : List Nat := 82 :: gr15 k
noncomputable def gr381 (k : List Nat) : List Nat := gr215 (0 :: k)
noncomputable def gr382 (k : List Nat) : List Nat := 83 :: gr76 (83 :: k)
noncomputable def gr383 (k : List Nat) : List Nat := gr215 (83 :: k)
noncomputable def gr384 (k : List Nat) : List Nat := gr159 (gr104 (gr119 (gr9 (gr160 k))))
noncomputable def gr385 (k : List Nat) : List Nat := gr187 (gr187 k)
noncomputable def gr386 (k : List Nat) : List Nat := 96 :: gr15 k
noncomputable def gr387 (k : List Nat) : List Nat := gr336 (gr189 k)
noncomputable def gr388 (k : List Nat) : List Nat := 103 :: gr15 k
noncomputable def gr389 (k : List Nat) : List Nat := 104 :: gr76 (104 :: k)
noncomputable def gr390 (k : List Nat) : List Nat := gr157 (104 :: k)
noncomputable def gr391 (k : List Nat) : List Nat := gr190 (gr190 k)
noncomputable def gr392 (k : List Nat) : List Nat := 117 :: gr15 k
noncomputable def gr393 (k : List Nat) : List Nat := gr209 (gr209 k)
noncomputable def gr394 (k : List Nat) : List Nat := 236 :: gr267 (gr266 k)
noncomputable def gr395 (k : List Nat) : List Nat := 81 :: 235 :: k
noncomputable def gr396 (k : List Nat) : List Nat := gr291 (gr318 k)
noncomputable def gr397 (k : List Nat) : List Nat := gr137 (gr137 k)
noncomputable def gr398 (k : List Nat) : List Nat := gr230 (165 :: k)
noncomputable def gr399 (k : List Nat) : List Nat := 198 :: 201 :: gr348 k
noncomputable def gr400 (k : List Nat) : List Nat := gr129 (gr129 k)
noncomputable def gr401 (k : List Nat) : List Nat := 233 :: gr108 (6 :: 235 :: gr77 k)
noncomputable def gr402 (k : List Nat) : List Nat := gr350 (gr351 k)
noncomputable def gr403 (k : List Nat) : List Nat := 234 :: 237 :: 237 :: gr0 k
noncomputable def gr404 (k : List Nat) : List Nat := gr247 (gr247 k)
noncomputable def gr405 (k : List Nat) : List Nat := 251 :: gr226 (6 :: 253 :: gr78 k)
noncomputable def gr406 (k : List Nat) : List Nat := gr248 (gr248 k)
noncomputable def gr407 (k : List Nat) : List Nat := 257 :: gr352 (6 :: 259 :: gr78 k)
noncomputable def gr408 (k : List Nat) : List Nat := gr249 (gr249 k)
noncomputable def gr409 (k : List Nat) : List Nat := 263 :: gr353 (6 :: 265 :: gr78 k)
noncomputable def gr410 (k : List Nat) : List Nat := gr250 (gr250 k)
noncomputable def gr411 (k : List Nat) : List Nat := 269 :: gr354 (6 :: 271 :: gr78 k)
noncomputable def gr412 (k : List Nat) : List Nat := gr251 (gr251 k)
noncomputable def gr413 (k : List Nat) : List Nat := 275 :: gr355 (6 :: 277 :: gr78 k)
noncomputable def gr414 (k : List Nat) : List Nat := gr252 (gr252 k)
noncomputable def gr415 (k : List Nat) : List Nat := 281 :: gr356 (6 :: 283 :: gr78 k)
noncomputable def gr416 (k : List Nat) : List Nat := gr357 (gr358 k)
noncomputable def gr417 (k : List Nat) : List Nat := gr164 (gr222 k)
noncomputable def gr418 (k : List Nat) : List Nat := gr156 (gr273 k)
noncomputable def gr419 (k : List Nat) : List Nat := gr229 (117 :: gr94 k)
noncomputable def gr420 (k : List Nat) : List Nat := gr204 (gr204 k)
noncomputable def gr421 (k : List Nat) : List Nat := 161 :: 161 :: k
noncomputable def gr422 (k : List Nat) : List Nat := gr224 (gr224 k)
noncomputable def gr423 (k : List Nat) : List Nat := 210 :: 210 :: k
noncomputable def gr424 (k : List Nat) : List Nat := 216 :: 216 :: k
noncomputable def gr425 (k : List Nat) : List Nat := 222 :: 222 :: k
noncomputable def gr426 (k : List Nat) : List Nat := 68 :: 68 :: k
noncomputable def gr427 (k : List Nat) : List Nat := gr345 (168 :: k)
noncomputable def gr428 (k : List Nat) : List Nat := 167 :: 167 :: k
noncomputable def gr429 (k : List Nat) : List Nat := gr205 (gr77 k)
noncomputable def gr430 (k : List Nat) : List Nat := gr400 (gr347 (gr399 k))
noncomputable def gr431 (k : List Nat) : List Nat := gr206 (gr77 k)
noncomputable def gr432 (k : List Nat) : List Nat := gr207 (gr77 k)
noncomputable def gr433 (k : List Nat) : List Nat := gr208 (gr77 k)
noncomputable def gr434 (k : List Nat) : List Nat := gr210 (gr77 k)
noncomputable def gr435 (k : List Nat) : List Nat := gr401 (gr349 k)
noncomputable def gr436 (k : List Nat) : List Nat := gr77 (gr293 k)
noncomputable def gr437 (k : List Nat) : List Nat := gr77 (gr294 k)
noncomputable def gr438 (k : List Nat) : List Nat := gr212 (162 :: k)
noncomputable def gr439 (k : List Nat) : List Nat := gr293 (gr78 k)
noncomputable def gr440 (k : List Nat) : List Nat := gr267 (gr130 (gr403 k))
noncomputable def gr441 (k : List Nat) : List Nat := gr294 (gr78 k)
noncomputable def gr442 (k : List Nat) : List Nat := gr404 (gr405 k)
noncomputable def gr443 (k : List Nat) : List Nat := gr406 (gr407 k)
noncomputable def gr444 (k : List Nat) : List Nat := gr408 (gr409 k)
noncomputable def gr445 (k : List Nat) : List Nat := gr410 (gr411 k)
noncomputable def gr446 (k : List Nat) : List Nat := gr412 (gr413 k)
noncomputable def gr447 (k : List Nat) : List Nat := gr415 (gr414 k)
noncomputable def gr448 (k : List Nat) : List Nat := 290 :: gr295 (gr295 (gr416 k))
noncomputable def gr449 (k : List Nat) : List Nat := 59 :: 59 :: k
noncomputable def gr450 (k : List Nat) : List Nat := 70 :: 70 :: k
noncomputable def gr451 (k : List Nat) : List Nat := gr279 (117 :: gr106 k)
noncomputable def gr452 (k : List Nat) : List Nat := 138 :: 138 :: k
noncomputable def gr453 (k : List Nat) : List Nat := 171 :: 171 :: k
noncomputable def gr454 (k : List Nat) : List Nat := 178 :: 178 :: k
noncomputable def gr455 (k : List Nat) : List Nat := gr257 (gr257 k)
noncomputable def gr456 (k : List Nat) : List Nat := gr260 (gr260 k)
noncomputable def gr457 (k : List Nat) : List Nat := 186 :: 186 :: k
noncomputable def gr458 (k : List Nat) : List Nat := gr281 (gr281 k)
noncomputable def gr459 (k : List Nat) : List Nat := gr245 (gr245 k)
noncomputable def gr460 (k : List Nat) : List Nat := gr284 (199 :: gr180 k)
noncomputable def gr461 (k : List Nat) : List Nat := gr274 (gr274 k)
noncomputable def gr462 (k : List Nat) : List Nat := gr285 (gr285 k)
noncomputable def gr463 (k : List Nat) : List Nat := gr220 (gr220 k)
noncomputable def gr464 (k : List Nat) : List Nat := gr275 (gr275 k)
noncomputable def gr465 (k : List Nat) : List Nat := gr286 (gr286 k)
noncomputable def gr466 (k : List Nat) : List Nat := gr287 (gr287 k)
noncomputable def gr467 (k : List Nat) : List Nat := gr276 (gr276 k)
noncomputable def gr468 (k : List Nat) : List Nat := gr288 (gr288 k)
noncomputable def gr469 (k : List Nat) : List Nat := gr289 (gr289 k)
noncomputable def gr470 (k : List Nat) : List Nat := gr130 (gr266 k)
noncomputable def gr471 (k : List Nat) : List Nat := 58 :: 58 :: k
noncomputable def gr472 (k : List Nat) : List Nat := 127 :: gr15 k
noncomputable def gr473 (k : List Nat) : List Nat := 128 :: gr76 (128 :: k)
noncomputable def gr474 (k : List Nat) : List Nat := gr211 (128 :: k)
noncomputable def gr475 (k : List Nat) : List Nat := gr316 (gr344 (gr211 (gr23 k)))
noncomputable def gr476 (k : List Nat) : List Nat := gr126 (gr126 k)
noncomputable def gr477 (k : List Nat) : List Nat := gr235 (gr235 k)
noncomputable def gr478 (k : List Nat) : List Nat := 141 :: gr15 k
noncomputable def gr479 (k : List Nat) : List Nat := gr317 (gr145 (gr23 (141 :: 5 :: gr145 k)))
noncomputable def gr480 (k : List Nat) : List Nat := gr145 (gr0 (141 :: k))
noncomputable def gr481 (k : List Nat) : List Nat := 141 :: gr154 (gr176 (gr176 k))
noncomputable def gr482 (k : List Nat) : List Nat := gr212 (gr212 k)
noncomputable def gr483 (k : List Nat) : List Nat := gr366 (15 :: gr163 k)
noncomputable def gr484 (k : List Nat) : List Nat := 159 :: 159 :: k
noncomputable def gr485 (k : List Nat) : List Nat := 189 :: 189 :: k
noncomputable def gr486 (k : List Nat) : List Nat := 232 :: 232 :: k
noncomputable def gr487 (k : List Nat) : List Nat := 246 :: 246 :: k
noncomputable def gr488 (k : List Nat) : List Nat := 156 :: 156 :: k
noncomputable def gr489 (k : List Nat) : List Nat := 163 :: 163 :: k
noncomputable def gr490 (k : List Nat) : List Nat := 177 :: 177 :: k
noncomputable def gr491 (k : List Nat) : List Nat := gr139 (183 :: k)
noncomputable def gr492 (k : List Nat) : List Nat := 194 :: 194 :: k
noncomputable def gr493 (k : List Nat) : List Nat := 206 :: 206 :: k
noncomputable def gr494 (k : List Nat) : List Nat := 219 :: 219 :: k
noncomputable def gr495 (k : List Nat) : List Nat := 225 :: 225 :: k
noncomputable def gr496 (k : List Nat) : List Nat := gr202 (gr184 k)
noncomputable def gr497 (k : List Nat) : List Nat := 52 :: 52 :: k
noncomputable def gr498 (k : List Nat) : List Nat := gr335 (gr227 k)
noncomputable def gr499 (k : List Nat) : List Nat := gr164 (gr324 k)
noncomputable def gr500 (k : List Nat) : List Nat := 13 :: gr238 k
noncomputable def gr501 (k : List Nat) : List Nat := gr171 (gr96 (gr375 k))
noncomputable def gr502 (k : List Nat) : List Nat := gr417 (gr222 k)
noncomputable def gr503 (k : List Nat) : List Nat := gr338 (gr337 k)
noncomputable def gr504 (k : List Nat) : List Nat := gr278 (117 :: gr105 k)
noncomputable def gr505 (k : List Nat) : List Nat := gr341 (gr339 k)
noncomputable def gr506 (k : List Nat) : List Nat := gr126 (131 :: k)
noncomputable def gr507 (k : List Nat) : List Nat := 133 :: gr310 k
noncomputable def gr508 (k : List Nat) : List Nat := 143 :: gr311 k
noncomputable def gr509 (k : List Nat) : List Nat := 157 :: 157 :: k
noncomputable def gr510 (k : List Nat) : List Nat := gr312 (170 :: k)
noncomputable def gr511 (k : List Nat) : List Nat := gr283 (193 :: gr314 (gr314 k))
noncomputable def gr512 (k : List Nat) : List Nat := gr284 (gr460 k)
noncomputable def gr513 (k : List Nat) : List Nat := 228 :: 228 :: k
noncomputable def gr514 (k : List Nat) : List Nat := gr321 (gr221 (15 :: gr221 k))
noncomputable def gr515 (k : List Nat) : List Nat := 141 :: gr64 (141 :: gr31 k)
noncomputable def gr516 (k : List Nat) : List Nat := 154 :: 154 :: k
noncomputable def gr517 (k : List Nat) : List Nat := gr397 (gr396 k)
noncomputable def gr518 (k : List Nat) : List Nat := 151 :: 151 :: k
noncomputable def gr519 (k : List Nat) : List Nat := 176 :: 176 :: k
noncomputable def gr520 (k : List Nat) : List Nat := gr139 (gr139 k)
noncomputable def gr521 (k : List Nat) : List Nat := 254 :: gr226 (gr226 (gr402 k))
noncomputable def gr522 (k : List Nat) : List Nat := gr220 (204 :: k)
noncomputable def gr523 (k : List Nat) : List Nat := 212 :: 212 :: k
noncomputable def gr524 (k : List Nat) : List Nat := 250 :: 250 :: k
noncomputable def gr525 (k : List Nat) : List Nat := 256 :: 256 :: k
noncomputable def gr526 (k : List Nat) : List Nat := 262 :: 262 :: k
noncomputable def gr527 (k : List Nat) : List Nat := 268 :: 268 :: k
noncomputable def gr528 (k : List Nat) : List Nat := 274 :: 274 :: k
noncomputable def gr529 (k : List Nat) : List Nat := 280 :: 280 :: k
noncomputable def hP2c0 (k : List Nat) : List Nat := gr359 (gr359 (2 :: 25 :: gr100 (gr303 (0 :: gr360 (gr360 (gr23 (gr8 (gr361 (gr361 (gr117 (gr146 (gr213 (30 :: gr213 (gr31 (gr161 (gr183 (gr161 (gr156 (gr161 (gr122 (gr161 (gr109 (gr161 (gr105 (gr161 (gr106 (gr161 (gr94 (gr68 (gr8 (gr25 (28 :: 32 :: gr118 (26 :: gr87 (26 :: gr93 (gr11 (0 :: 33 :: gr15 (gr33 (gr11 (gr0 (gr69 (gr18 (gr33 (33 :: gr23 (gr123 (gr147 (gr11 (gr34 (gr162 k))))))))))))))))))))))))))))))))))))))))))))))))
noncomputable def hP2c1 (k : List Nat) : List Nat := gr362 (gr124 (gr60 (gr60 (39 :: gr150 (gr334 (gr363 (gr178 (gr91 (gr91 (41 :: gr150 (gr496 (gr364 (gr115 (gr115 (gr115 (43 :: gr150 (gr296 (15 :: gr115 (gr184 (gr365 (gr163 (gr163 (gr163 (45 :: gr150 (gr366 (23 :: gr163 (48 :: 777777 :: 47 :: gr11 (gr303 (gr253 (888888 :: 47 :: gr367 (48 :: gr319 (gr0 (gr367 (gr319 (gr164 (gr296 (15 :: gr115 (51 :: 777777 :: 50 :: gr165 (50 :: gr320 (51 :: gr497 (gr0 k)))))))))))))))))))))))))))))))))))))))))
noncomputable def hP2c2 (k : List Nat) : List Nat := gr320 (gr497 (gr164 (gr202 (gr37 (gr148 (gr18 (gr149 (gr368 (gr227 (gr227 (gr227 (53 :: gr150 (gr498 (19 :: gr227 (gr96 (gr498 (19 :: gr227 (56 :: 777777 :: 55 :: gr165 (55 :: 56 :: 56 :: 56 :: 57 :: 57 :: gr0 (56 :: 56 :: 57 :: 57 :: gr499 (gr202 (59 :: 777777 :: 58 :: gr165 (58 :: gr449 (59 :: 60 :: 60 :: gr0 (gr449 (60 :: 60 :: gr164 (gr334 (gr369 (gr500 (gr238 (gr238 (61 :: gr150 (gr370 k)))))))))))))))))))))))))))))))))
noncomputable def hP2c3 (k : List Nat) : List Nat := gr238 (gr500 (gr96 (gr370 (gr238 (gr500 (gr184 (gr371 (gr254 (gr254 (gr254 (63 :: gr150 (gr372 (gr254 (21 :: gr254 (gr96 (gr372 (gr254 (21 :: gr254 (66 :: 777777 :: 65 :: gr165 (65 :: gr221 (66 :: gr321 (gr0 (gr221 (gr321 (gr164 (gr370 (gr238 (gr500 (gr96 (gr370 (gr238 (gr500 (69 :: 777777 :: 68 :: gr165 (68 :: gr373 (69 :: gr450 (gr0 (gr373 (gr450 (gr417 (gr334 (gr374 (gr171 (gr171 (gr171 (71 :: gr150 k)))))))))))))))))))))))))))))))))))))))))))))
noncomputable def hP2c4 (k : List Nat) : List Nat := gr375 (17 :: gr501 (17 :: gr501 (17 :: gr501 (17 :: gr171 (74 :: 777777 :: 73 :: gr165 (73 :: gr376 (74 :: gr377 (gr0 (gr376 (gr377 (gr502 (gr222 (gr151 (77 :: 777777 :: 76 :: gr165 (76 :: gr378 (77 :: gr379 (gr0 (gr378 (gr379 (gr152 (gr36 (gr304 (gr304 (gr304 (gr166 (gr70 (gr8 (gr27 (38 :: 80 :: gr303 (26 :: gr253 (gr100 (82 :: 82 :: 0 :: gr380 (gr380 (82 :: gr76 (82 :: gr214 (gr381 (gr382 k)))))))))))))))))))))))))))))))))))))
noncomputable def hP2c5 (k : List Nat) : List Nat := gr216 (84 :: gr255 (gr255 (gr383 (gr15 (gr383 (gr255 (gr305 (gr186 (86 :: gr305 (gr381 (gr215 (gr23 (gr384 (gr186 (gr186 (gr305 (88 :: 83 :: gr217 (gr382 (gr255 (85 :: gr87 (83 :: 89 :: gr385 (gr385 (gr187 (gr218 (90 :: 94 :: 93 :: 0 :: 93 :: gr0 (gr153 (0 :: gr386 (gr386 (gr107 (95 :: 95 :: gr306 (gr188 (97 :: gr306 (gr107 (gr23 (96 :: 5 :: gr107 (gr213 (gr107 (gr0 (96 :: gr384 (96 :: k))))))))))))))))))))))))))))))))))))))))
noncomputable def hP2c6 (k : List Nat) : List Nat := gr362 (gr125 (gr49 (98 :: gr167 (gr183 (gr307 (96 :: gr183 (gr387 (gr418 (96 :: gr156 (gr387 (gr326 (96 :: gr122 (gr189 (gr308 (96 :: gr109 (gr387 (gr278 (96 :: gr105 (gr189 (gr279 (96 :: gr106 (gr189 (gr229 (96 :: gr94 (gr168 (gr125 (100 :: 96 :: gr154 (gr188 (gr188 (gr306 (102 :: gr100 (103 :: 103 :: 0 :: gr388 (gr388 (103 :: gr76 (103 :: gr214 (gr297 (gr389 (gr216 (105 :: gr256 (gr256 (gr390 (gr15 k))))))))))))))))))))))))))))))))))))))))))
noncomputable def hP2c7 (k : List Nat) : List Nat := gr390 (gr256 (gr239 (gr112 (107 :: gr337 (gr307 (gr503 (gr273 (gr503 (gr219 (gr338 (gr239 (109 :: 104 :: gr217 (gr389 (gr256 (106 :: gr87 (104 :: 110 :: gr391 (gr391 (gr190 (gr218 (111 :: 115 :: 114 :: 0 :: 114 :: gr0 (gr143 (0 :: gr392 (gr392 (gr86 (116 :: 116 :: gr240 (gr113 (118 :: gr339 (gr183 (gr340 (gr307 (117 :: gr363 (gr179 (gr79 (119 :: gr241 (gr326 (117 :: gr122 (gr298 (gr504 (gr298 (gr419 (gr242 k)))))))))))))))))))))))))))))))))))))))))
noncomputable def hP2c8 (k : List Nat) : List Nat := gr179 (121 :: gr505 (gr156 (gr340 (gr273 (117 :: gr369 (13 :: gr299 (122 :: 13 :: gr342 (gr326 (117 :: gr122 (gr343 (gr299 (13 :: gr342 (gr451 (gr299 (13 :: gr342 (gr419 (gr299 (13 :: gr114 (124 :: gr505 (gr109 (gr340 (gr219 (117 :: gr374 (gr309 (gr309 (125 :: 17 :: gr309 (gr158 (gr504 (gr343 (gr309 (gr309 (17 :: gr309 (gr158 (gr451 (gr343 (gr309 (gr309 (17 :: gr309 (gr158 (gr419 (gr309 (gr309 (17 :: gr309 k)))))))))))))))))))))))))))))))))))))))))))
noncomputable def hP2c9 (k : List Nat) : List Nat := 127 :: gr341 (gr240 (129 :: gr100 (gr300 (0 :: 130 :: gr15 (130 :: gr15 (130 :: gr76 (130 :: gr214 (gr126 (0 :: 131 :: gr76 (131 :: gr216 (132 :: 133 :: 133 :: 133 :: 133 :: gr506 (gr15 (gr506 (133 :: 133 :: gr507 (gr310 (134 :: gr507 (gr126 (0 :: gr126 (gr23 (gr228 (gr310 (gr310 (gr507 (gr126 (0 :: gr126 (gr23 (gr199 (gr310 (gr310 (gr507 (gr126 (0 :: gr126 (gr23 (gr200 (gr310 (gr310 (gr507 (136 :: k))))))))))))))))))))))))))))))))))))))
noncomputable def hP2c10 (k : List Nat) : List Nat := 131 :: gr217 (131 :: gr76 (131 :: 133 :: 133 :: 133 :: gr87 (131 :: 137 :: gr452 (gr452 (gr452 (gr452 (gr452 (gr218 (138 :: 142 :: 141 :: 0 :: 141 :: gr0 (gr203 (gr203 (0 :: 144 :: gr15 (144 :: gr15 (gr301 (gr137 (gr508 (gr311 (145 :: gr508 (gr301 (gr23 (144 :: 5 :: gr301 (gr122 (gr301 (gr0 (144 :: gr228 (144 :: gr364 (gr420 (146 :: 15 :: gr204 (gr203 (gr203 (gr23 (gr301 (gr229 (144 :: gr94 (gr420 k)))))))))))))))))))))))))))))))))))
noncomputable def hP2c11 (k : List Nat) : List Nat := 15 :: gr204 (148 :: 144 :: gr154 (gr311 (gr311 (gr508 (gr301 (gr23 (144 :: 5 :: gr301 (gr105 (gr301 (gr0 (144 :: gr199 (144 :: gr368 (gr243 (gr243 (149 :: 19 :: gr243 (gr203 (gr203 (gr23 (gr301 (gr229 (144 :: gr94 (gr243 (gr243 (19 :: gr243 (151 :: 144 :: gr154 (gr311 (gr311 (gr508 (gr301 (gr23 (144 :: 5 :: gr301 (gr106 (gr301 (gr0 (144 :: gr200 (144 :: gr371 (gr223 (gr223 (152 :: 21 :: gr223 (gr203 k))))))))))))))))))))))))))))))))))))))))
noncomputable def hP2c12 (k : List Nat) : List Nat := gr203 (gr23 (gr301 (gr229 (144 :: gr94 (144 :: gr64 (144 :: gr31 (gr223 (gr223 (21 :: gr223 (154 :: 144 :: gr154 (gr311 (gr311 (gr508 (156 :: gr100 (gr509 (0 :: 157 :: gr15 (157 :: gr15 (157 :: gr76 (157 :: gr214 (gr280 (0 :: 158 :: gr76 (158 :: gr216 (159 :: 160 :: 160 :: 160 :: 160 :: gr280 (158 :: gr15 (gr280 (158 :: 160 :: 160 :: 160 :: gr421 (gr421 (161 :: 160 :: gr421 (gr280 (0 :: gr280 (gr23 k)))))))))))))))))))))))))))))))
noncomputable def hP2c13 (k : List Nat) : List Nat := gr177 (gr421 (gr421 (160 :: gr421 (163 :: 158 :: gr217 (158 :: gr76 (158 :: 160 :: 160 :: 160 :: gr87 (158 :: 164 :: gr230 (gr230 (gr230 (gr230 (gr230 (gr218 (165 :: 169 :: 168 :: 0 :: 168 :: gr0 (gr453 (gr453 (0 :: 171 :: gr15 (171 :: gr15 (gr453 (171 :: gr510 (gr327 (gr327 (172 :: 170 :: gr327 (gr453 (171 :: gr23 (171 :: 5 :: gr453 (171 :: gr94 (gr453 (171 :: gr0 (171 :: gr177 (171 :: gr365 (gr313 k)))))))))))))))))))))))))))))))
noncomputable def hP2c14 (k : List Nat) : List Nat := gr313 (173 :: 23 :: gr313 (175 :: 171 :: gr154 (gr327 (gr327 (170 :: gr327 (177 :: gr100 (gr454 (0 :: 178 :: gr15 (178 :: gr15 (178 :: gr76 (178 :: gr185 (gr0 (gr455 (gr455 (gr257 (gr258 (gr65 (gr259 (gr456 (gr456 (gr260 (gr116 (gr116 (gr56 (185 :: gr261 (187 :: gr457 (gr457 (gr458 (gr458 (gr458 (gr281 (gr244 (189 :: gr231 (187 :: gr282 (gr459 (gr459 (gr245 (gr263 (gr59 (gr264 (gr511 (gr511 (gr283 (gr511 k))))))))))))))))))))))))))))))))))))))))))))
noncomputable def hP2c15 (k : List Nat) : List Nat := gr283 (gr283 (gr283 (gr128 (191 :: 195 :: gr201 (193 :: gr282 (gr322 (gr322 (gr322 (gr322 (gr322 (gr246 (gr62 (gr265 (gr284 (gr512 (gr512 (gr460 (gr284 (gr127 (197 :: 201 :: gr129 (199 :: gr282 (gr461 (gr461 (gr274 (gr191 (gr44 (gr192 (gr29 (gr462 (gr462 (gr462 (gr285 (205 :: gr463 (gr97 (203 :: 207 :: gr144 (205 :: gr282 (gr464 (gr464 (gr275 (gr193 (gr45 (gr194 (gr465 (gr465 (gr465 (gr286 (gr29 (gr98 (209 :: k)))))))))))))))))))))))))))))))))))))))))))))))))
noncomputable def hP2c16 (k : List Nat) : List Nat := 213 :: gr169 (211 :: gr282 (gr422 (gr422 (gr224 (gr92 (gr92 (gr39 (215 :: gr195 (gr466 (gr466 (gr466 (gr287 (gr29 (gr181 (219 :: gr173 (217 :: gr282 (gr467 (gr467 (gr276 (gr196 (gr46 (gr197 (gr468 (gr468 (gr468 (gr288 (gr29 (gr99 (221 :: 225 :: gr174 (223 :: gr282 (gr393 (gr393 (gr209 (gr95 (gr95 (gr43 (227 :: gr198 (gr469 (gr469 (gr469 (gr289 (gr29 (gr182 (231 :: gr175 (229 :: gr262 (gr138 (180 :: 233 :: k)))))))))))))))))))))))))))))))))))))))))))))))
noncomputable def hP2c17 (k : List Nat) : List Nat := gr253 (gr253 (gr140 (181 :: gr130 (gr50 (gr266 (186 :: 237 :: gr457 (gr394 (192 :: 238 :: gr314 (gr394 (198 :: 239 :: gr88 (gr394 (204 :: 240 :: gr220 (gr394 (210 :: 241 :: gr423 (gr470 (216 :: 242 :: gr424 (gr470 (222 :: 243 :: gr425 (gr470 (228 :: 244 :: gr513 (gr130 (gr233 (246 :: gr234 (gr395 (gr32 (235 :: gr395 (90 :: 186 :: gr187 (111 :: 192 :: gr190 (138 :: 198 :: gr452 (165 :: 204 :: gr230 (gr395 (gr395 k))))))))))))))))))))))))))))))))
noncomputable def hP2 : List Nat := hP2c0 (hP2c1 (hP2c2 (hP2c3 (hP2c4 (hP2c5 (hP2c6 (hP2c7 (hP2c8 (hP2c9 (hP2c10 (hP2c11 (hP2c12 (hP2c13 (hP2c14 (hP2c15 (hP2c16 (hP2c17 [])))))))))))))))))
noncomputable def hP3c0 (k : List Nat) : List Nat := gr359 (gr359 (2 :: 25 :: gr100 (gr303 (0 :: gr360 (gr360 (gr23 (gr8 (gr361 (gr361 (gr117 (gr146 (gr213 (30 :: gr213 (gr31 (gr161 (gr183 (gr161 (gr156 (gr161 (gr122 (gr161 (gr109 (gr161 (gr105 (gr161 (gr106 (gr161 (gr94 (gr68 (gr8 (gr25 (28 :: 32 :: gr118 (26 :: gr87 (26 :: gr93 (gr11 (0 :: 33 :: gr15 (gr33 (gr11 (gr0 (gr69 (gr18 (gr33 (33 :: gr23 (gr123 (gr147 (gr11 (gr34 (gr162 k))))))))))))))))))))))))))))))))))))))))))))))))
noncomputable def hP3c1 (k : List Nat) : List Nat := gr362 (gr124 (gr60 (gr60 (39 :: gr150 (gr334 (gr363 (gr178 (gr91 (gr91 (41 :: gr150 (gr496 (gr369 (gr290 (gr115 (gr115 (43 :: gr150 (gr323 (gr184 (gr368 (gr163 (gr163 (gr163 (45 :: gr150 (gr366 (19 :: gr163 (48 :: 777777 :: 47 :: gr11 (gr303 (gr253 (888888 :: 47 :: gr367 (48 :: gr319 (gr0 (gr367 (gr319 (gr164 (gr323 (51 :: 777777 :: 50 :: gr165 (50 :: gr320 (51 :: gr497 (gr0 (gr320 (gr497 (gr164 (gr202 k)))))))))))))))))))))))))))))))))))))))))))
noncomputable def hP3c2 (k : List Nat) : List Nat := gr37 (gr148 (gr18 (gr149 (gr374 (gr227 (gr227 (gr227 (53 :: gr150 (gr498 (17 :: gr227 (gr96 (gr498 (17 :: gr227 (gr184 (gr365 (gr315 (gr315 (gr315 (55 :: gr150 (56 :: 56 :: gr315 (23 :: gr315 (58 :: 777777 :: 57 :: gr165 (57 :: gr471 (58 :: gr449 (gr0 (gr471 (gr449 (gr164 (gr498 (17 :: gr227 (61 :: 777777 :: 60 :: gr165 (60 :: gr238 (61 :: gr370 (gr0 (gr238 (gr370 (gr499 (gr324 (gr202 (64 :: 777777 :: k))))))))))))))))))))))))))))))))))))))))
noncomputable def hP3c3 (k : List Nat) : List Nat := 63 :: gr165 (63 :: gr372 (64 :: 65 :: 65 :: gr0 (gr372 (65 :: 65 :: gr417 (gr334 (gr364 (gr221 (gr221 (gr221 (66 :: gr150 (gr514 (gr96 (gr514 (gr96 (gr514 (gr184 (gr371 (gr426 (gr426 (gr426 (68 :: gr150 (gr373 (gr426 (21 :: gr426 (gr96 (gr373 (gr426 (21 :: gr426 (71 :: 777777 :: 70 :: gr165 (70 :: gr171 (71 :: gr325 (gr0 (gr171 (gr325 (gr164 (gr514 (gr96 (gr514 (74 :: 777777 :: 73 :: gr165 (73 :: k))))))))))))))))))))))))))))))))))))))))
noncomputable def hP3c4 (k : List Nat) : List Nat := gr376 (74 :: gr377 (gr0 (gr376 (gr377 (gr502 (gr222 (gr222 (gr151 (77 :: 777777 :: 76 :: gr165 (76 :: gr378 (77 :: gr379 (gr0 (gr378 (gr379 (gr152 (gr36 (gr304 (gr304 (gr304 (gr166 (gr70 (gr8 (gr27 (38 :: 80 :: gr303 (26 :: gr253 (gr100 (82 :: 82 :: 0 :: gr380 (gr380 (82 :: gr76 (82 :: gr214 (gr381 (gr382 (gr216 (84 :: gr255 (gr255 (gr383 (gr15 (gr383 (gr255 (gr305 (gr186 (86 :: gr305 (gr381 k)))))))))))))))))))))))))))))))))))))))))))
noncomputable def hP3c5 (k : List Nat) : List Nat := gr215 (gr23 (gr384 (gr186 (gr186 (gr305 (88 :: 83 :: gr217 (gr382 (gr255 (85 :: gr87 (83 :: 89 :: gr385 (gr385 (gr187 (gr218 (90 :: 94 :: 93 :: 0 :: 93 :: gr0 (gr153 (0 :: gr386 (gr386 (gr107 (95 :: 95 :: gr306 (gr188 (97 :: gr306 (gr107 (gr23 (96 :: 5 :: gr107 (gr213 (gr107 (gr0 (96 :: gr384 (96 :: gr362 (gr125 (gr49 (98 :: gr167 (gr183 (gr307 (96 :: gr183 (gr387 (gr418 (96 :: gr156 k))))))))))))))))))))))))))))))))))))))
noncomputable def hP3c6 (k : List Nat) : List Nat := gr189 (gr326 (96 :: gr122 (gr387 (gr308 (96 :: gr109 (gr189 (gr278 (96 :: gr105 (gr189 (gr279 (96 :: gr106 (gr189 (gr229 (96 :: gr94 (gr168 (gr125 (100 :: 96 :: gr154 (gr188 (gr188 (gr306 (102 :: gr100 (103 :: 103 :: 0 :: gr388 (gr388 (103 :: gr76 (103 :: gr214 (gr297 (gr389 (gr216 (105 :: gr256 (gr256 (gr390 (gr15 (gr390 (gr256 (gr239 (gr112 (107 :: gr337 (gr307 (gr503 (gr228 (gr338 (gr239 (109 :: 104 :: k)))))))))))))))))))))))))))))))))))))))))))
noncomputable def hP3c7 (k : List Nat) : List Nat := gr217 (gr389 (gr256 (106 :: gr87 (104 :: 110 :: gr391 (gr391 (gr190 (gr218 (111 :: 115 :: 114 :: 0 :: 114 :: gr0 (gr143 (0 :: gr392 (gr392 (gr86 (116 :: 116 :: gr240 (gr113 (118 :: gr339 (gr183 (gr340 (gr307 (117 :: gr363 (gr179 (gr79 (119 :: gr241 (gr418 (117 :: gr156 (gr343 (gr298 (gr308 (117 :: gr109 (gr298 (gr504 (gr298 (gr419 (gr242 (gr179 (121 :: gr505 (gr122 (gr340 (gr228 (117 :: gr364 (gr299 (122 :: k)))))))))))))))))))))))))))))))))))))))))
noncomputable def hP3c8 (k : List Nat) : List Nat := 15 :: gr342 (gr308 (117 :: gr109 (gr343 (gr299 (15 :: gr342 (gr504 (gr299 (15 :: gr342 (gr451 (gr343 (gr299 (15 :: gr342 (gr419 (gr299 (15 :: gr114 (124 :: gr341 (gr240 (126 :: gr100 (127 :: 127 :: 0 :: gr472 (gr472 (127 :: gr76 (127 :: gr214 (gr344 (gr473 (gr216 (129 :: gr300 (gr300 (gr474 (gr15 (gr474 (gr300 (gr316 (gr506 (gr475 (gr273 (gr476 (gr475 (gr219 (gr476 (gr475 (gr200 (gr476 (gr316 (133 :: 128 :: k))))))))))))))))))))))))))))))))))))))))))))
noncomputable def hP3c9 (k : List Nat) : List Nat := gr217 (gr473 (gr300 (130 :: gr87 (128 :: 134 :: gr477 (gr477 (gr235 (gr218 (135 :: 139 :: 138 :: 0 :: 138 :: gr0 (gr277 (0 :: gr478 (gr478 (gr145 (140 :: 140 :: gr317 (gr176 (142 :: gr479 (gr156 (gr480 (gr273 (141 :: gr369 (gr291 (gr137 (143 :: gr396 (gr278 (141 :: gr105 (gr397 (gr291 (145 :: gr481 (gr479 (gr109 (gr480 (gr219 (141 :: gr374 (gr420 (146 :: 17 :: gr204 (gr318 (gr278 (141 :: gr105 (gr515 (gr420 k)))))))))))))))))))))))))))))))))))))))
noncomputable def hP3c10 (k : List Nat) : List Nat := 17 :: gr204 (gr318 (gr229 (141 :: gr94 (gr420 (17 :: gr204 (148 :: gr481 (gr479 (gr106 (gr480 (gr200 (141 :: gr371 (gr243 (gr243 (149 :: 21 :: gr243 (gr318 (gr229 (141 :: gr94 (gr515 (gr243 (gr243 (21 :: gr243 (151 :: gr481 (gr317 (153 :: gr100 (gr516 (0 :: 154 :: gr15 (154 :: gr15 (154 :: gr76 (154 :: gr214 (gr268 (0 :: 155 :: gr76 (155 :: gr216 (156 :: gr509 (gr509 (gr268 (155 :: gr15 (gr268 (155 :: k))))))))))))))))))))))))))))))))))))))
noncomputable def hP3c11 (k : List Nat) : List Nat := gr509 (157 :: gr280 (gr280 (158 :: 157 :: gr280 (gr268 (0 :: gr268 (gr23 (gr199 (gr280 (gr280 (157 :: gr280 (gr268 (0 :: gr268 (gr23 (gr177 (gr280 (gr280 (157 :: gr280 (160 :: 155 :: gr217 (155 :: gr76 (155 :: gr509 (157 :: gr87 (155 :: 161 :: gr482 (gr482 (gr212 (gr218 (162 :: 166 :: 165 :: 0 :: 165 :: gr0 (gr345 (gr345 (0 :: 168 :: gr15 (168 :: gr15 (gr427 (gr428 (167 :: gr328 (gr328 (169 :: 167 :: k)))))))))))))))))))))))))))))))))))
noncomputable def hP3c12 (k : List Nat) : List Nat := gr328 (gr427 (gr23 (168 :: 5 :: gr427 (gr105 (gr427 (gr0 (168 :: gr199 (168 :: gr368 (gr312 (gr510 (19 :: gr312 (172 :: 168 :: gr154 (gr328 (gr328 (167 :: gr328 (gr427 (gr23 (168 :: 5 :: gr427 (gr94 (gr427 (gr0 (168 :: gr177 (168 :: gr365 (gr313 (gr313 (173 :: 23 :: gr313 (175 :: 168 :: gr154 (gr328 (gr328 (167 :: gr328 (177 :: gr100 (gr454 (0 :: 178 :: gr15 (178 :: gr15 (178 :: gr76 (178 :: gr185 k))))))))))))))))))))))))))))))))))))
noncomputable def hP3c13 (k : List Nat) : List Nat := gr0 (gr455 (gr455 (gr257 (gr258 (gr65 (gr259 (gr456 (gr456 (gr260 (gr116 (gr116 (gr56 (185 :: gr261 (187 :: gr457 (gr457 (gr458 (gr458 (gr458 (gr281 (gr244 (189 :: gr231 (187 :: gr282 (gr459 (gr459 (gr245 (gr263 (gr59 (gr264 (gr511 (gr283 (gr511 (gr283 (gr283 (gr283 (gr283 (gr128 (191 :: 195 :: gr201 (193 :: gr282 (gr322 (gr322 (gr322 (gr322 (gr322 (gr246 (gr62 (gr265 (gr512 (gr512 (gr512 (gr284 (gr127 (197 :: k))))))))))))))))))))))))))))))))))))))))))))))))))))
noncomputable def hP3c14 (k : List Nat) : List Nat := 201 :: gr129 (199 :: gr282 (gr461 (gr461 (gr274 (gr191 (gr44 (gr192 (gr29 (gr462 (gr462 (gr285 (205 :: gr463 (gr462 (205 :: gr463 (gr97 (203 :: 207 :: gr144 (205 :: gr282 (gr464 (gr464 (gr275 (gr193 (gr45 (gr194 (gr465 (gr465 (gr465 (gr286 (gr29 (gr98 (209 :: 213 :: gr169 (211 :: gr282 (gr422 (gr422 (gr224 (gr92 (gr92 (gr39 (215 :: gr195 (gr466 (gr466 (gr466 (gr287 (gr29 (gr181 (219 :: gr173 (217 :: gr282 k))))))))))))))))))))))))))))))))))))))))))))))
noncomputable def hP3c15 (k : List Nat) : List Nat := gr467 (gr467 (gr276 (gr196 (gr46 (gr197 (gr468 (gr468 (gr468 (gr288 (gr29 (gr99 (221 :: 225 :: gr174 (223 :: gr282 (gr393 (gr393 (gr209 (gr95 (gr95 (gr43 (227 :: gr198 (gr469 (gr469 (gr469 (gr289 (gr29 (gr182 (231 :: gr175 (229 :: gr262 (gr138 (180 :: 233 :: gr253 (gr253 (gr140 (181 :: gr130 (gr50 (gr266 (186 :: 237 :: gr457 (gr394 (192 :: 238 :: gr314 (gr394 (198 :: 239 :: gr88 (gr394 (204 :: 240 :: gr220 k))))))))))))))))))))))))))))))))))))))))))
noncomputable def hP3c16 (k : List Nat) : List Nat := gr394 (210 :: 241 :: gr423 (gr470 (216 :: 242 :: gr424 (gr470 (222 :: 243 :: gr425 (gr470 (228 :: 244 :: gr513 (gr130 (gr233 (246 :: gr234 (gr395 (gr32 (235 :: gr395 (90 :: 186 :: gr187 (111 :: 192 :: gr190 (135 :: 198 :: gr235 (162 :: 204 :: gr212 (gr395 (gr395 k)))))))))))))))))))
noncomputable def hP3 : List Nat := hP3c0 (hP3c1 (hP3c2 (hP3c3 (hP3c4 (hP3c5 (hP3c6 (hP3c7 (hP3c8 (hP3c9 (hP3c10 (hP3c11 (hP3c12 (hP3c13 (hP3c14 (hP3c15 (hP3c16 []))))))))))))))))
noncomputable def hP5c0 (k : List Nat) : List Nat := gr359 (gr359 (2 :: 25 :: gr100 (gr303 (0 :: gr360 (gr360 (gr23 (gr8 (gr361 (gr361 (gr117 (gr146 (gr213 (30 :: gr213 (gr31 (gr161 (gr183 (gr161 (gr156 (gr161 (gr122 (gr161 (gr109 (gr161 (gr105 (gr161 (gr106 (gr161 (gr94 (gr68 (gr8 (gr25 (28 :: 32 :: gr118 (26 :: gr87 (26 :: gr93 (gr11 (0 :: 33 :: gr15 (gr33 (gr11 (gr0 (gr69 (gr18 (gr33 (33 :: gr23 (gr123 (gr147 (gr11 (gr34 (gr162 k))))))))))))))))))))))))))))))))))))))))))))))))
noncomputable def hP5c1 (k : List Nat) : List Nat := gr362 (gr124 (gr60 (gr60 (39 :: gr150 (gr334 (gr363 (gr178 (gr91 (gr91 (41 :: gr150 (gr496 (gr369 (gr290 (gr115 (gr115 (43 :: gr150 (gr323 (gr184 (gr364 (gr163 (gr163 (gr163 (45 :: gr150 (gr483 (gr37 (gr148 (gr18 (gr149 (gr374 (gr292 (gr292 (gr292 (47 :: gr150 (gr367 (gr292 (17 :: gr292 (50 :: 777777 :: 49 :: gr11 (gr303 (gr253 (888888 :: 49 :: 50 :: 50 :: 50 :: gr320 (gr0 (50 :: 50 :: gr320 (gr164 k)))))))))))))))))))))))))))))))))))))))))))
noncomputable def hP5c2 (k : List Nat) : List Nat := gr483 (53 :: 777777 :: 52 :: gr165 (52 :: gr227 (53 :: gr335 (gr0 (gr227 (gr335 (gr164 (gr323 (gr96 (gr323 (gr184 (gr365 (gr315 (gr315 (gr315 (55 :: gr150 (56 :: 56 :: gr315 (23 :: gr315 (58 :: 777777 :: 57 :: gr165 (57 :: gr471 (58 :: gr449 (gr0 (gr471 (gr449 (gr164 (gr323 (61 :: 777777 :: 60 :: gr165 (60 :: gr238 (61 :: gr370 (gr0 (gr238 (gr370 (gr499 (gr324 (gr496 (gr371 (gr254 (gr254 (gr254 (63 :: k))))))))))))))))))))))))))))))))))))))))
noncomputable def hP5c3 (k : List Nat) : List Nat := gr150 (gr372 (gr254 (21 :: gr254 (gr96 (gr372 (gr254 (21 :: gr254 (66 :: 777777 :: 65 :: gr165 (65 :: gr221 (66 :: gr321 (gr0 (gr221 (gr321 (gr499 (gr202 (69 :: 777777 :: 68 :: gr165 (68 :: gr373 (69 :: gr450 (gr0 (gr373 (gr450 (gr502 (gr222 (gr334 (gr368 (gr171 (gr171 (gr171 (71 :: gr150 (gr375 (19 :: gr501 (19 :: gr501 (19 :: gr171 (74 :: 777777 :: 73 :: gr165 (73 :: gr376 (74 :: gr377 (gr0 (gr376 k))))))))))))))))))))))))))))))))))))))
noncomputable def hP5c4 (k : List Nat) : List Nat := gr377 (gr502 (gr151 (77 :: 777777 :: 76 :: gr165 (76 :: gr378 (77 :: gr379 (gr0 (gr378 (gr379 (gr152 (gr36 (gr304 (gr304 (gr304 (gr166 (gr70 (gr8 (gr27 (38 :: 80 :: gr303 (26 :: gr253 (gr100 (82 :: 82 :: 0 :: gr380 (gr380 (82 :: gr76 (82 :: gr214 (gr381 (gr382 (gr216 (84 :: gr255 (gr255 (gr383 (gr15 (gr383 (gr255 (gr305 (gr186 (86 :: gr305 (gr381 (gr215 (gr23 (gr384 (gr186 (gr186 (gr305 (88 :: k))))))))))))))))))))))))))))))))))))))))))))
noncomputable def hP5c5 (k : List Nat) : List Nat := 83 :: gr217 (gr382 (gr255 (85 :: gr87 (83 :: 89 :: gr385 (gr385 (gr187 (gr218 (90 :: 94 :: 93 :: 0 :: 93 :: gr0 (gr153 (0 :: gr386 (gr386 (gr107 (95 :: 95 :: gr306 (gr188 (97 :: gr306 (gr107 (gr23 (96 :: 5 :: gr107 (gr213 (gr107 (gr0 (96 :: gr384 (96 :: gr362 (gr125 (gr49 (98 :: gr167 (gr183 (gr307 (96 :: gr183 (gr387 (gr418 (96 :: gr156 (gr189 (gr326 (96 :: gr122 (gr189 (gr308 (96 :: k))))))))))))))))))))))))))))))))))))))
noncomputable def hP5c6 (k : List Nat) : List Nat := gr109 (gr189 (gr278 (96 :: gr105 (gr387 (gr279 (96 :: gr106 (gr189 (gr229 (96 :: gr94 (gr168 (gr125 (100 :: 96 :: gr154 (gr188 (gr188 (gr306 (102 :: gr100 (103 :: 103 :: 0 :: gr388 (gr388 (103 :: gr76 (103 :: gr214 (gr297 (gr389 (gr216 (105 :: gr256 (gr256 (gr390 (gr15 (gr390 (gr256 (gr239 (gr112 (107 :: gr337 (gr307 (gr503 (gr199 (gr338 (gr239 (109 :: 104 :: gr217 (gr389 (gr256 (106 :: gr87 (104 :: 110 :: k))))))))))))))))))))))))))))))))))))))))))
noncomputable def hP5c7 (k : List Nat) : List Nat := gr391 (gr391 (gr190 (gr218 (111 :: 115 :: 114 :: 0 :: 114 :: gr0 (gr143 (0 :: gr392 (gr392 (gr86 (116 :: 116 :: gr240 (gr113 (118 :: gr339 (gr183 (gr340 (gr307 (117 :: gr363 (gr179 (gr79 (119 :: gr241 (gr418 (117 :: gr156 (gr343 (gr298 (gr326 (117 :: gr122 (gr298 (gr308 (117 :: gr109 (gr298 (gr451 (gr298 (gr419 (gr242 (gr179 (121 :: gr505 (gr105 (gr340 (gr199 (117 :: gr368 (gr299 (122 :: 19 :: gr342 (gr451 k)))))))))))))))))))))))))))))))))))))))))
noncomputable def hP5c8 (k : List Nat) : List Nat := gr343 (gr299 (19 :: gr342 (gr419 (gr299 (19 :: gr114 (124 :: gr341 (gr240 (126 :: gr100 (127 :: 127 :: 0 :: gr472 (gr472 (127 :: gr76 (127 :: gr214 (gr344 (gr473 (gr216 (129 :: gr300 (gr300 (gr474 (gr15 (gr474 (gr300 (gr316 (gr506 (gr475 (gr273 (gr476 (gr475 (gr200 (gr476 (gr316 (133 :: 128 :: gr217 (gr473 (gr300 (130 :: gr87 (128 :: 134 :: gr477 (gr477 (gr235 (gr218 (135 :: 139 :: 138 :: 0 :: 138 :: gr0 k)))))))))))))))))))))))))))))))))))))))
noncomputable def hP5c9 (k : List Nat) : List Nat := gr277 (0 :: gr478 (gr478 (gr145 (140 :: 140 :: gr317 (gr176 (142 :: gr479 (gr156 (gr480 (gr273 (141 :: gr369 (gr291 (gr137 (143 :: gr396 (gr326 (141 :: gr122 (gr515 (gr517 (gr308 (141 :: gr109 (gr517 (gr229 (141 :: gr94 (gr397 (gr291 (145 :: gr481 (gr479 (gr106 (gr480 (gr200 (141 :: gr371 (gr420 (146 :: 21 :: gr204 (gr318 (gr229 (141 :: gr94 (gr515 (gr420 (21 :: gr204 (148 :: gr481 (gr317 (150 :: gr100 (gr518 k))))))))))))))))))))))))))))))))))))))))))
noncomputable def hP5c10 (k : List Nat) : List Nat := 0 :: 151 :: gr15 (151 :: gr15 (151 :: gr76 (151 :: gr214 (gr223 (0 :: 152 :: gr76 (152 :: gr216 (153 :: gr516 (gr516 (gr223 (152 :: gr15 (gr223 (152 :: gr516 (154 :: gr268 (gr268 (155 :: 154 :: gr268 (gr223 (0 :: gr223 (gr23 (gr228 (gr268 (gr268 (154 :: gr268 (gr223 (0 :: gr223 (gr23 (gr177 (gr268 (gr268 (154 :: gr268 (157 :: 152 :: gr217 (152 :: gr76 (152 :: gr516 (154 :: gr87 (152 :: 158 :: gr484 k))))))))))))))))))))))))))))))))))
noncomputable def hP5c11 (k : List Nat) : List Nat := gr484 (gr484 (gr484 (gr484 (gr218 (159 :: 163 :: 162 :: 0 :: 162 :: gr0 (gr230 (gr230 (0 :: 165 :: gr15 (165 :: gr15 (gr398 (gr302 (164 :: gr346 (gr346 (166 :: 164 :: gr346 (gr398 (gr23 (165 :: 5 :: gr398 (gr122 (gr398 (gr0 (165 :: gr228 (165 :: gr364 (gr428 (gr428 (167 :: 15 :: gr428 (gr230 (gr230 (gr23 (gr398 (gr308 (165 :: gr109 (165 :: gr64 (165 :: gr31 (gr428 (gr428 (15 :: gr428 (169 :: 165 :: k)))))))))))))))))))))))))))))))))))))
noncomputable def hP5c12 (k : List Nat) : List Nat := gr154 (gr346 (gr346 (164 :: gr346 (gr398 (gr23 (165 :: 5 :: gr398 (gr94 (gr398 (gr0 (165 :: gr177 (165 :: gr365 (gr312 (gr510 (23 :: gr312 (172 :: 165 :: gr154 (gr346 (gr346 (164 :: gr346 (174 :: gr100 (175 :: 175 :: 0 :: 175 :: gr15 (175 :: gr15 (175 :: gr76 (175 :: gr214 (gr519 (0 :: 176 :: gr76 (176 :: gr216 (177 :: gr454 (gr454 (gr519 (176 :: gr15 (gr519 (176 :: gr454 (178 :: gr455 (179 :: 178 :: k))))))))))))))))))))))))))))))))))
noncomputable def hP5c13 (k : List Nat) : List Nat := gr257 (gr519 (0 :: gr519 (gr23 (gr219 (gr455 (178 :: gr257 (181 :: 176 :: gr217 (176 :: gr76 (176 :: gr454 (178 :: gr87 (176 :: 182 :: gr520 (gr520 (gr139 (gr218 (183 :: 187 :: 186 :: 0 :: 186 :: gr0 (gr485 (gr485 (0 :: 189 :: gr15 (189 :: gr15 (gr485 (189 :: 188 :: 188 :: 188 :: gr459 (190 :: 188 :: gr245 (gr485 (189 :: gr23 (189 :: 5 :: gr485 (189 :: gr109 (gr485 (189 :: gr0 (189 :: gr219 (189 :: k))))))))))))))))))))))))))))))
noncomputable def hP5c14 (k : List Nat) : List Nat := gr374 (gr128 (191 :: 17 :: gr59 (193 :: 189 :: gr154 (gr459 (188 :: gr245 (195 :: gr100 (gr322 (0 :: 196 :: gr15 (196 :: gr15 (196 :: gr76 (196 :: gr185 (gr0 (gr246 (gr62 (gr347 (gr88 (gr399 (gr461 (gr461 (gr274 (gr191 (gr44 (gr192 (gr77 (205 :: gr463 (gr429 (gr429 (gr429 (gr429 (gr429 (gr429 (gr429 (gr97 (203 :: 207 :: gr144 (205 :: gr430 (gr464 (gr464 (gr275 (gr193 (gr45 (gr194 (gr77 (gr431 (211 :: k))))))))))))))))))))))))))))))))))))))))))))
noncomputable def hP5c15 (k : List Nat) : List Nat := gr423 (gr423 (gr431 (gr431 (gr431 (gr431 (211 :: gr423 (gr423 (gr431 (gr431 (gr98 (209 :: 213 :: gr169 (211 :: gr430 (gr422 (gr422 (gr224 (gr92 (gr92 (gr39 (215 :: gr195 (gr77 (gr432 (gr432 (217 :: gr424 (gr424 (gr432 (gr432 (gr432 (gr432 (217 :: gr424 (gr424 (gr432 (gr181 (219 :: gr173 (217 :: gr430 (gr467 (gr467 (gr276 (gr196 (gr46 (gr197 (gr77 (gr433 (gr433 (gr433 (223 :: gr425 (gr425 (gr433 (gr433 (gr433 k)))))))))))))))))))))))))))))))))))))))))))))))))
noncomputable def hP5c16 (k : List Nat) : List Nat := gr433 (223 :: gr425 (gr425 (gr99 (221 :: 225 :: gr174 (223 :: gr430 (gr393 (gr393 (gr209 (gr95 (gr95 (gr43 (227 :: gr198 (gr77 (gr434 (gr434 (gr434 (gr434 (229 :: gr513 (gr513 (gr434 (gr434 (gr434 (gr182 (231 :: gr175 (229 :: gr430 (gr486 (gr486 (gr486 (gr486 (gr486 (gr349 (gr111 (gr435 (gr435 (gr435 (gr435 (gr435 (gr435 (gr435 (gr401 (gr225 (233 :: 237 :: gr108 (235 :: gr430 (gr329 (gr329 (gr329 (gr329 (gr329 k))))))))))))))))))))))))))))))))))))))))))))))))
noncomputable def hP5c17 (k : List Nat) : List Nat := gr269 (gr66 (gr270 (gr436 (gr436 (gr436 (gr436 (gr436 (gr436 (gr436 (gr77 (gr141 (239 :: 243 :: gr236 (241 :: gr430 (gr330 (gr330 (gr330 (gr330 (gr330 (gr271 (gr67 (gr272 (gr437 (gr437 (gr437 (gr437 (gr437 (gr437 (gr437 (gr77 (gr142 (245 :: 249 :: gr237 (247 :: gr400 (gr180 (198 :: 251 :: gr253 (gr253 (gr129 (gr331 (gr402 (204 :: 255 :: gr220 (gr521 (210 :: 256 :: gr423 (gr521 (216 :: 257 :: gr424 (gr521 (222 :: k)))))))))))))))))))))))))))))))))))))))))))))
noncomputable def hP5c18 (k : List Nat) : List Nat := 258 :: gr425 (gr521 (228 :: 259 :: gr513 (gr521 (234 :: 260 :: gr50 (gr402 (240 :: 261 :: 240 :: 240 :: gr402 (246 :: 262 :: gr487 (gr350 (264 :: gr351 (81 :: 253 :: gr32 (253 :: 81 :: 253 :: 90 :: 204 :: gr187 (111 :: 210 :: gr190 (135 :: 216 :: gr235 (159 :: 222 :: gr484 (183 :: 228 :: gr139 (81 :: 253 :: 81 :: 253 :: k))))))))))))))))
noncomputable def hP5 : List Nat := hP5c0 (hP5c1 (hP5c2 (hP5c3 (hP5c4 (hP5c5 (hP5c6 (hP5c7 (hP5c8 (hP5c9 (hP5c10 (hP5c11 (hP5c12 (hP5c13 (hP5c14 (hP5c15 (hP5c16 (hP5c17 (hP5c18 []))))))))))))))))))
noncomputable def hP7c0 (k : List Nat) : List Nat := gr359 (gr359 (2 :: 25 :: gr100 (gr303 (0 :: gr360 (gr360 (gr23 (gr8 (gr361 (gr361 (gr117 (gr146 (gr213 (30 :: gr213 (gr31 (gr161 (gr183 (gr161 (gr156 (gr161 (gr122 (gr161 (gr109 (gr161 (gr105 (gr161 (gr106 (gr161 (gr94 (gr68 (gr8 (gr25 (28 :: 32 :: gr118 (26 :: gr87 (26 :: gr93 (gr11 (0 :: 33 :: gr15 (gr33 (gr11 (gr0 (gr69 (gr18 (gr33 (33 :: gr23 (gr123 (gr147 (gr11 (gr34 (gr162 k))))))))))))))))))))))))))))))))))))))))))))))))
noncomputable def hP7c1 (k : List Nat) : List Nat := gr362 (gr124 (gr60 (gr60 (39 :: gr150 (gr334 (gr363 (gr178 (gr91 (gr91 (41 :: gr150 (gr496 (gr369 (gr290 (gr115 (gr115 (43 :: gr150 (gr323 (gr184 (gr364 (gr163 (gr163 (gr163 (45 :: gr150 (gr483 (gr37 (gr148 (gr18 (gr149 (gr374 (gr292 (gr292 (gr292 (47 :: gr150 (gr367 (gr292 (17 :: gr292 (gr184 (gr368 (gr319 (gr319 (gr319 (49 :: gr150 (50 :: 50 :: gr319 (19 :: gr319 (gr184 (gr371 (gr320 (gr320 (gr320 k)))))))))))))))))))))))))))))))))))))))))))))))))
noncomputable def hP7c2 (k : List Nat) : List Nat := 51 :: gr150 (gr497 (gr320 (21 :: gr320 (54 :: 777777 :: 53 :: gr11 (gr303 (gr253 (888888 :: 53 :: gr335 (54 :: gr315 (gr0 (gr335 (gr315 (gr164 (50 :: 50 :: gr319 (19 :: gr319 (57 :: 777777 :: 56 :: gr165 (56 :: 57 :: 57 :: 57 :: gr471 (gr0 (57 :: 57 :: gr471 (gr164 (gr367 (gr292 (17 :: gr292 (gr96 (gr367 (gr292 (17 :: gr292 (60 :: 777777 :: 59 :: gr165 (59 :: 60 :: 60 :: 60 :: gr238 (gr0 (60 :: k))))))))))))))))))))))))))))))
noncomputable def hP7c3 (k : List Nat) : List Nat := 60 :: gr238 (gr164 (gr483 (gr96 (gr483 (gr96 (gr483 (63 :: 777777 :: 62 :: gr165 (62 :: gr254 (63 :: gr372 (gr0 (gr254 (gr372 (gr164 (gr323 (gr96 (gr323 (gr96 (gr323 (gr96 (gr323 (66 :: 777777 :: 65 :: gr165 (65 :: gr221 (66 :: gr321 (gr0 (gr221 (gr321 (gr499 (gr324 (gr324 (gr324 (gr202 (69 :: 777777 :: 68 :: gr165 (68 :: gr373 (69 :: gr450 (gr0 (gr373 (gr450 (gr502 (gr222 (gr222 (gr222 (gr334 (gr365 k)))))))))))))))))))))))))))))))))))))))))))
noncomputable def hP7c4 (k : List Nat) : List Nat := gr171 (gr171 (gr171 (71 :: gr150 (gr375 (23 :: gr171 (74 :: 777777 :: 73 :: gr165 (73 :: gr376 (74 :: gr377 (gr0 (gr376 (gr377 (gr164 (gr151 (77 :: 777777 :: 76 :: gr165 (76 :: gr378 (77 :: gr379 (gr0 (gr378 (gr379 (gr152 (gr36 (gr304 (gr304 (gr304 (gr166 (gr70 (gr8 (gr27 (38 :: 80 :: gr303 (26 :: gr253 (gr100 (82 :: 82 :: 0 :: gr380 (gr380 (82 :: gr76 (82 :: gr214 (gr381 (gr382 (gr216 (84 :: k)))))))))))))))))))))))))))))))))))))))
noncomputable def hP7c5 (k : List Nat) : List Nat := gr255 (gr255 (gr383 (gr15 (gr383 (gr255 (gr305 (gr186 (86 :: gr305 (gr381 (gr215 (gr23 (gr384 (gr186 (gr186 (gr305 (88 :: 83 :: gr217 (gr382 (gr255 (85 :: gr87 (83 :: 89 :: gr385 (gr385 (gr187 (gr218 (90 :: 94 :: 93 :: 0 :: 93 :: gr0 (gr153 (0 :: gr386 (gr386 (gr107 (95 :: 95 :: gr306 (gr188 (97 :: gr306 (gr107 (gr23 (96 :: 5 :: gr107 (gr213 (gr107 (gr0 (96 :: gr384 (96 :: gr362 (gr125 k))))))))))))))))))))))))))))))))))))))))
noncomputable def hP7c6 (k : List Nat) : List Nat := gr49 (98 :: gr167 (gr183 (gr307 (96 :: gr183 (gr387 (gr418 (96 :: gr156 (gr189 (gr326 (96 :: gr122 (gr189 (gr308 (96 :: gr109 (gr189 (gr278 (96 :: gr105 (gr189 (gr279 (96 :: gr106 (gr189 (gr229 (96 :: gr94 (gr336 (gr168 (gr125 (100 :: 96 :: gr154 (gr188 (gr188 (gr306 (102 :: gr100 (103 :: 103 :: 0 :: gr388 (gr388 (103 :: gr76 (103 :: gr214 (gr297 (gr389 (gr216 (105 :: gr256 (gr256 (gr390 (gr15 (gr390 k))))))))))))))))))))))))))))))))))))))))))
noncomputable def hP7c7 (k : List Nat) : List Nat := gr256 (gr239 (gr112 (107 :: gr337 (gr307 (gr503 (gr177 (gr338 (gr239 (109 :: 104 :: gr217 (gr389 (gr256 (106 :: gr87 (104 :: 110 :: gr391 (gr391 (gr190 (gr218 (111 :: 115 :: 114 :: 0 :: 114 :: gr0 (gr143 (0 :: gr392 (gr392 (gr86 (116 :: 116 :: gr240 (gr113 (118 :: gr339 (gr183 (gr340 (gr307 (117 :: gr363 (gr179 (gr79 (119 :: gr241 (gr418 (117 :: gr156 (gr343 (gr298 (gr326 (117 :: gr122 (gr298 (gr308 (117 :: k))))))))))))))))))))))))))))))))))))))))
noncomputable def hP7c8 (k : List Nat) : List Nat := gr109 (gr298 (gr504 (gr298 (gr451 (gr242 (gr179 (121 :: gr505 (gr94 (gr340 (gr177 (117 :: gr365 (gr299 (122 :: 23 :: gr114 (124 :: gr341 (gr240 (126 :: gr100 (127 :: 127 :: 0 :: gr472 (gr472 (127 :: gr76 (127 :: gr214 (gr344 (gr473 (gr216 (129 :: gr300 (gr300 (gr474 (gr15 (gr474 (gr300 (gr316 (gr506 (gr475 (gr273 (gr476 (gr316 (133 :: 128 :: gr217 (gr473 (gr300 (130 :: gr87 (128 :: 134 :: gr477 (gr477 (gr235 k))))))))))))))))))))))))))))))))))))))))))
noncomputable def hP7c9 (k : List Nat) : List Nat := gr218 (135 :: 139 :: 138 :: 0 :: 138 :: gr0 (gr277 (0 :: gr478 (gr478 (gr145 (140 :: 140 :: gr317 (gr176 (142 :: gr479 (gr156 (gr480 (gr273 (141 :: gr369 (gr291 (gr137 (143 :: gr396 (gr326 (141 :: gr122 (gr515 (gr517 (gr308 (141 :: gr109 (gr517 (gr278 (141 :: gr105 (gr517 (gr279 (141 :: gr106 (gr397 (gr291 (145 :: gr481 (gr317 (147 :: gr100 (148 :: 148 :: 0 :: 148 :: gr15 (148 :: gr15 (148 :: gr76 (148 :: k))))))))))))))))))))))))))))))))))))
noncomputable def hP7c10 (k : List Nat) : List Nat := gr214 (gr243 (0 :: 149 :: gr76 (149 :: gr216 (150 :: gr518 (gr518 (gr243 (149 :: gr15 (gr243 (149 :: gr518 (151 :: gr223 (gr223 (152 :: 151 :: gr223 (gr243 (0 :: gr243 (gr23 (gr228 (gr223 (gr223 (151 :: gr223 (154 :: 149 :: gr217 (149 :: gr76 (149 :: gr518 (151 :: gr87 (149 :: 155 :: gr488 (gr488 (gr488 (gr488 (gr488 (gr218 (156 :: 160 :: 159 :: 0 :: 159 :: gr0 (gr482 (0 :: 162 :: gr15 (162 :: gr15 k)))))))))))))))))))))))))))))))))
noncomputable def hP7c11 (k : List Nat) : List Nat := gr438 (gr421 (161 :: gr489 (gr489 (163 :: 161 :: gr489 (gr438 (gr23 (162 :: 5 :: gr438 (gr122 (gr438 (gr0 (162 :: gr228 (162 :: gr364 (gr302 (gr302 (164 :: 15 :: gr302 (gr482 (gr23 (gr438 (gr308 (162 :: gr109 (162 :: gr64 (162 :: gr31 (gr302 (gr302 (15 :: gr302 (gr482 (gr23 (gr438 (gr278 (162 :: gr105 (gr302 (gr302 (15 :: gr302 (gr482 (gr23 (gr438 (gr279 (162 :: gr106 (gr302 (gr302 (15 :: gr302 (166 :: k))))))))))))))))))))))))))))))))))))))))))
noncomputable def hP7c12 (k : List Nat) : List Nat := 162 :: gr154 (gr489 (gr489 (161 :: gr489 (168 :: gr100 (gr328 (0 :: 169 :: gr15 (169 :: gr15 (169 :: gr76 (169 :: gr214 (gr312 (0 :: 170 :: gr76 (170 :: gr216 (171 :: gr327 (gr327 (gr510 (gr15 (gr510 (gr327 (172 :: gr313 (gr313 (173 :: 172 :: gr313 (gr312 (0 :: gr312 (gr23 (gr219 (gr313 (gr313 (172 :: gr313 (175 :: 170 :: gr217 (170 :: gr76 (170 :: gr327 (172 :: gr87 (170 :: 176 :: gr490 (gr490 (gr490 k)))))))))))))))))))))))))))))))))))
noncomputable def hP7c13 (k : List Nat) : List Nat := gr490 (gr490 (gr218 (177 :: 181 :: 180 :: 0 :: 180 :: gr0 (gr520 (0 :: 183 :: gr15 (183 :: gr15 (gr491 (182 :: 182 :: 182 :: gr456 (184 :: 182 :: gr260 (gr491 (gr23 (183 :: 5 :: gr491 (gr109 (gr491 (gr0 (183 :: gr219 (183 :: gr374 (gr244 (17 :: gr56 (gr520 (gr23 (gr491 (gr278 (183 :: gr105 (183 :: gr64 (183 :: gr31 (gr116 (17 :: gr56 (gr520 (gr23 (gr491 (gr279 (183 :: gr106 (gr116 (17 :: gr56 k)))))))))))))))))))))))))))))))))))
noncomputable def hP7c14 (k : List Nat) : List Nat := 187 :: 183 :: gr154 (gr456 (182 :: gr260 (189 :: gr100 (gr245 (0 :: 190 :: gr15 (190 :: gr15 (190 :: gr76 (190 :: gr214 (gr59 (0 :: 191 :: gr76 (191 :: gr216 (192 :: gr201 (gr201 (gr59 (191 :: gr15 (gr59 (gr232 (193 :: gr492 (gr492 (194 :: 193 :: gr492 (gr59 (0 :: gr59 (gr23 (gr199 (gr492 (gr492 (193 :: gr492 (196 :: 191 :: gr217 (191 :: gr76 (gr232 (193 :: gr87 (191 :: 197 :: gr347 (gr88 (gr218 k))))))))))))))))))))))))))))))))))
noncomputable def hP7c15 (k : List Nat) : List Nat := 198 :: 202 :: 201 :: 0 :: gr348 (gr463 (0 :: 204 :: gr15 (204 :: gr15 (gr522 (gr44 (gr172 (gr144 (205 :: gr172 (gr522 (gr23 (204 :: 5 :: gr522 (gr105 (gr522 (gr0 (204 :: gr199 (204 :: gr368 (gr493 (gr493 (206 :: 19 :: gr493 (gr463 (gr23 (gr522 (gr279 (204 :: gr106 (204 :: gr64 (204 :: gr31 (gr493 (gr493 (19 :: gr493 (208 :: 204 :: gr154 (gr144 (gr144 (gr172 (210 :: gr100 (gr169 (0 :: 211 :: gr15 k))))))))))))))))))))))))))))))))))))
noncomputable def hP7c16 (k : List Nat) : List Nat := 211 :: gr15 (211 :: gr76 (211 :: gr214 (gr523 (0 :: 212 :: gr76 (212 :: gr216 (213 :: gr422 (gr523 (212 :: gr15 (gr523 (212 :: gr224 (214 :: gr181 (214 :: gr39 (gr523 (0 :: gr523 (gr23 (gr200 (gr92 (214 :: gr39 (217 :: 212 :: gr217 (212 :: gr76 (212 :: gr224 (214 :: gr87 (212 :: 218 :: gr494 (gr494 (gr494 (gr494 (gr494 (gr218 (219 :: 223 :: 222 :: 0 :: 222 :: gr0 (gr495 (gr495 (0 :: 225 :: gr15 k))))))))))))))))))))))))))))))))
noncomputable def hP7c17 (k : List Nat) : List Nat := 225 :: gr15 (gr495 (225 :: 224 :: 224 :: 224 :: gr393 (226 :: 224 :: gr209 (gr495 (225 :: gr23 (225 :: 5 :: gr495 (225 :: gr106 (gr495 (225 :: gr0 (225 :: gr200 (225 :: gr371 (gr182 (21 :: gr43 (229 :: 225 :: gr154 (gr393 (224 :: gr209 (231 :: gr100 (gr486 (0 :: 232 :: gr15 (232 :: gr15 (232 :: gr76 (232 :: gr185 (gr0 (gr349 (gr111 (gr130 (gr130 (gr50 (gr403 (gr329 (gr329 (gr329 (gr329 (gr329 (gr269 k)))))))))))))))))))))))))))))))))))
noncomputable def hP7c18 (k : List Nat) : List Nat := gr66 (gr270 (gr78 (241 :: 240 :: 240 :: 240 :: 240 :: gr439 (gr439 (gr439 (gr439 (gr439 (gr439 (gr439 (gr141 (239 :: 243 :: gr236 (241 :: gr440 (gr330 (gr330 (gr330 (gr330 (gr330 (gr271 (gr67 (gr272 (gr78 (gr441 (247 :: gr487 (gr487 (gr441 (gr441 (gr441 (gr441 (gr441 (gr441 (247 :: gr487 (gr487 (gr142 (245 :: 249 :: gr237 (247 :: gr440 (gr524 (gr524 (gr524 (gr524 (gr524 (gr404 (gr131 (gr405 (gr442 (gr442 (253 :: k))))))))))))))))))))))))))))))))))))))))))))))
noncomputable def hP7c19 (k : List Nat) : List Nat := gr332 (gr442 (gr442 (gr442 (gr442 (gr442 (gr247 (251 :: 255 :: gr226 (253 :: gr440 (gr525 (gr525 (gr525 (gr525 (gr525 (gr406 (gr132 (gr407 (gr443 (gr443 (gr443 (259 :: 258 :: 258 :: 258 :: 258 :: gr443 (gr443 (gr443 (gr443 (gr248 (257 :: 261 :: gr352 (259 :: gr440 (gr526 (gr526 (gr526 (gr526 (gr526 (gr408 (gr133 (gr409 (gr444 (gr444 (gr444 (gr444 (265 :: 264 :: 264 :: 264 :: 264 :: gr444 (gr444 (gr444 (gr249 (263 :: k)))))))))))))))))))))))))))))))))))))))))))
noncomputable def hP7c20 (k : List Nat) : List Nat := 267 :: gr353 (265 :: gr440 (gr527 (gr527 (gr527 (gr527 (gr527 (gr410 (gr134 (gr411 (gr445 (gr445 (gr445 (gr445 (gr445 (271 :: 270 :: 270 :: 270 :: 270 :: gr445 (gr445 (gr250 (269 :: 273 :: gr354 (271 :: gr440 (gr528 (gr528 (gr528 (gr528 (gr528 (gr412 (gr135 (gr413 (gr446 (gr446 (gr446 (gr446 (gr446 (gr446 (277 :: 276 :: 276 :: 276 :: 276 :: gr446 (gr251 (275 :: 279 :: gr355 (277 :: gr440 (gr529 (gr529 (gr529 (gr529 k)))))))))))))))))))))))))))))))))))))))))
noncomputable def hP7c21 (k : List Nat) : List Nat := gr529 (gr414 (gr136 (gr447 (gr447 (gr447 (gr447 (gr447 (gr447 (gr447 (gr415 (gr252 (281 :: 285 :: gr356 (283 :: gr267 (234 :: 287 :: gr253 (gr253 (gr108 (gr333 (gr416 (240 :: 291 :: 240 :: 240 :: gr448 (246 :: 292 :: gr487 (gr448 (252 :: 293 :: gr155 (gr448 (258 :: 294 :: 258 :: 258 :: gr448 (264 :: 295 :: 264 :: 264 :: gr448 (270 :: 296 :: 270 :: 270 :: gr448 (276 :: 297 :: 276 :: 276 :: gr448 (282 :: 298 :: 282 :: k))))))))))))))))))))))))))))
noncomputable def hP7c22 (k : List Nat) : List Nat := 282 :: gr357 (300 :: gr358 (81 :: 289 :: gr32 (289 :: 81 :: 289 :: 90 :: 240 :: gr187 (111 :: 246 :: gr190 (135 :: 252 :: gr235 (156 :: 258 :: gr488 (177 :: 264 :: gr490 (198 :: 270 :: gr88 (219 :: 276 :: gr494 (81 :: 289 :: 81 :: 289 :: k))))))))))
noncomputable def hP7 : List Nat := hP7c0 (hP7c1 (hP7c2 (hP7c3 (hP7c4 (hP7c5 (hP7c6 (hP7c7 (hP7c8 (hP7c9 (hP7c10 (hP7c11 (hP7c12 (hP7c13 (hP7c14 (hP7c15 (hP7c16 (hP7c17 (hP7c18 (hP7c19 (hP7c20 (hP7c21 (hP7c22 []))))))))))))))))))))))
noncomputable def ga0 (k : List Nat) : List Nat := 0 :: 1 :: k
noncomputable def ga1 (k : List Nat) : List Nat := ga0 (ga0 k)
noncomputable def ga2 (k : List Nat) : List Nat := 0 :: ga0 k
noncomputable def ga3 (k : List Nat) : List Nat := ga1 (ga1 k)
noncomputable def ga4 (k : List Nat) : List Nat := 0 :: ga2 k
noncomputable def ga5 (k : List Nat) : List Nat := 1 :: 1 :: k
noncomputable def ga6 (k : List Nat) : List Nat := ga3 (ga3 k)
noncomputable def ga7 (k : List Nat) : List Nat := ga2 (ga2 k)
noncomputable def ga8 (k : List Nat) : List Nat := ga4 (1 :: k)
noncomputable def ga9 (k : List Nat) : List Nat := ga6 (1 :: k)
noncomputable def ga10 (k : List Nat) : List Nat := 0 :: 0 :: k
noncomputable def ga11 (k : List Nat) : List Nat := ga0 (ga5 k)
noncomputable def ga12 (k : List Nat) : List Nat := ga8 (ga7 k)
noncomputable def ga13 (k : List Nat) : List Nat := ga10 (ga4 k)
noncomputable def ga14 (k : List Nat) : List Nat := ga9 (ga9 k)
noncomputable def ga15 (k : List Nat) : List Nat := ga4 (ga13 k)
noncomputable def ga16 (k : List Nat) : List Nat := ga12 (ga7 k)
noncomputable def ga17 (k : List Nat) : List Nat := ga8 (ga2 k)
noncomputable def ga18 (k : List Nat) : List Nat := ga11 (ga11 k)
noncomputable def ga19 (k : List Nat) : List Nat := ga1 (ga5 k)
noncomputable def ga20 (k : List Nat) : List Nat := ga15 (ga16 k)
noncomputable def ga21 (k : List Nat) : List Nat := 0 :: ga12 k
noncomputable def ga22 (k : List Nat) : List Nat := ga4 (ga4 (ga4 k))
noncomputable def ga23 (k : List Nat) : List Nat := ga6 (ga6 k)
noncomputable def ga24 (k : List Nat) : List Nat := ga6 (ga0 (ga13 (0 :: ga19 (ga18 (ga18 k)))))
noncomputable def ga25 (k : List Nat) : List Nat := ga10 (ga10 (ga10 (0 :: ga4 (ga20 (ga7 (ga7 k))))))
noncomputable def ga26 (k : List Nat) : List Nat := 0 :: ga17 k
noncomputable def ga27 (k : List Nat) : List Nat := ga5 (ga14 (ga14 (ga14 (ga9 (ga23 (ga11 (ga5 k)))))))
noncomputable def aP2c0 (k : List Nat) : List Nat := ga24 (ga1 (ga11 (ga19 (ga3 (ga5 (ga3 (ga1 (ga25 (ga4 (0 :: ga8 (ga4 (ga12 (ga2 (ga21 (ga2 (0 :: ga16 (ga4 (0 :: ga8 (ga4 (ga17 (ga26 (ga21 (ga15 (ga17 (ga27 (1 :: k))))))))))))))))))))))))))
noncomputable def aP2 : List Nat := aP2c0 []
noncomputable def aP3c0 (k : List Nat) : List Nat := ga24 (ga19 (ga3 (ga5 (ga1 (ga11 (ga3 (ga1 (ga25 (ga22 (ga16 (0 :: ga16 (ga2 (ga4 (0 :: ga8 (ga4 (ga17 (ga21 (ga21 (ga22 (ga8 (ga26 (ga27 (1 :: k)))))))))))))))))))))))
noncomputable def aP3 : List Nat := aP3c0 []
noncomputable def aP5c0 (k : List Nat) : List Nat := ga24 (ga19 (ga1 (ga11 (ga3 (ga19 (ga3 (ga25 (ga22 (ga16 (ga2 (ga21 (ga2 (ga22 (ga12 (ga2 (ga21 (ga22 (ga17 (ga26 (ga15 (ga17 (ga27 (ga5 k)))))))))))))))))))))))
noncomputable def aP5 : List Nat := aP5c0 []
noncomputable def aP7c0 (k : List Nat) : List Nat := ga24 (ga18 (ga23 (ga5 (ga25 (ga22 (ga16 (ga2 (ga26 (ga20 (ga2 (ga20 (ga15 (ga12 (ga2 (ga15 (ga12 (ga15 (ga17 (ga27 (ga5 (ga5 k)))))))))))))))))))))
noncomputable def aP7 : List Nat := aP7c0 []
noncomputable def qP2 : List (Nat × TQ) := [(57,.ct [] 0 7 0 0),(58,.ct [] 0 7 0 0),(61,.gi 0),(82,.ct [0] 1 7 0 1),(85,.gi 1),(106,.ct [0,1] 2 7 0 3),(109,.gi 3),(130,.ct [0,1,3] 3 7 0 7),(133,.gi 7),(155,.dl [(0,0,45),(1,1,58),(3,2,71)] (7,3,84) 4),(164,.dl [(0,0,45),(1,1,58)] (3,2,71) 5),(172,.ct [0,1,3,7] 4 7 0 5),(175,.gi 5),(196,.ct [0,1,3,5,7] 6 31 1 7),(205,.dl [(0,0,45),(1,1,58)] (5,2,107) 7),(213,.ct [0,1,3,5,7] 6 31 1 7),(222,.dl [(0,0,45)] (1,1,58) 8),(230,.ct [0,1,3,5,7] 6 31 1 2),(233,.gi 2),(254,.ct [0,1,2,3,5,7] 7 31 1 3),(262,.ct [0,1,2,3,5,7] 7 31 1 6),(265,.gi 6),(286,.ct [0,1,2,3,5,6,7] 8 31 1 7),(295,.dl [(0,0,45),(2,1,144)] (6,2,164) 11),(303,.ct [0,1,2,3,5,6,7] 8 31 1 7),(312,.dl [(0,0,45)] (2,1,144) 12),(320,.ct [0,1,2,3,5,6,7] 8 31 1 3),(328,.ct [0,1,2,3,5,6,7] 8 31 1 4),(331,.gi 4),(352,.ct [0,1,2,3,4,5,6,7] 9 31 1 5),(360,.ct [0,1,2,3,4,5,6,7] 9 31 1 6),(368,.ct [0,1,2,3,4,5,6,7] 9 31 1 7),(377,.dl [(0,0,45)] (4,1,208) 14),(385,.ct [0,1,2,3,4,5,6,7] 9 31 1 5),(393,.ct [0,1,2,3,4,5,6,7] 9 31 1 6),(401,.ct [0,1,2,3,4,5,6,7] 9 31 1 7),(410,.dl [] (0,0,45) 15),(416,.ct [0,1,2,3,4,5,6,7] 9 31 1 1),(418,.ct [0,1,2,3,4,5,6,7] 9 31 1 2),(420,.ct [0,1,2,3,4,5,6,7] 9 31 1 3),(422,.ct [0,1,2,3,4,5,6,7] 9 31 1 4),(424,.ct [0,1,2,3,4,5,6,7] 9 31 1 5),(426,.ct [0,1,2,3,4,5,6,7] 9 31 1 6),(428,.ct [0,1,2,3,4,5,6,7] 9 31 1 7),(445,.ia false 60 5 [0] 1),(450,.gi 0),(464,.ia true 65 61 [0] 0),(472,.ia false 70 66 [0] 2),(477,.gg 0),(490,.gi 1),(505,.gi 2),(520,.gi 3),(533,.gi 4),(548,.gi 5),(561,.gi 6),(574,.gi 7),(606,.ia false 81 5 [1,2,4] 5),(611,.gi 1),(616,.gi 2),(621,.gi 4),(635,.ia true 86 82 [1,2,4] 0),(645,.ia false 91 87 [1,2,4] 2),(650,.gg 1),(663,.gi 3),(676,.gi 5),(689,.gi 7),(706,.gg 2),(719,.gi 3),(734,.gi 6),(747,.gi 7),(764,.gg 4),(777,.gi 5),(792,.gi 6),(807,.gi 7),(839,.ia false 108 5 [3,5,6] 9),(844,.gi 3),(849,.gi 5),(854,.gi 6),(868,.ia true 113 109 [3,5,6] 0),(878,.ia false 118 114 [3,5,6] 2),(883,.gg 3),(896,.gi 7),(913,.gg 5),(926,.gi 7),(943,.gg 6),(956,.gi 7),(990,.ia false 135 5 [7] 11),(995,.gi 7),(1009,.ia true 140 136 [7] 0),(1017,.ia false 145 141 [7] 2),(1022,.gg 7),(1312,.nz 162 [(0,704)] 1 213),(1315,.nz 168 [(1,726),(2,728),(4,732)] 3 214),(1318,.nz 174 [(3,750),(5,754),(6,756)] 3 215),(1321,.nz 180 [(7,778)] 1 216),(1324,.nz 186 [] 0 217),(1326,.nz 192 [] 0 218),(1328,.nz 198 [] 0 219),(1330,.nz 204 [] 0 220),(1333,.eo 57 211 66 162 0 [66,87,114,141] [162,168,174,180] 4 4),(1334,.el 66 [0] 2 162 [(0,704)] 1),(1335,.eo 57 211 87 168 1 [66,87,114,141] [162,168,174,180] 4 4),(1336,.el 87 [1,2,4] 2 168 [(1,726),(2,728),(4,732)] 3),(1337,.eo 57 211 114 174 2 [66,87,114,141] [162,168,174,180] 4 4),(1338,.el 114 [3,5,6] 2 174 [(3,750),(5,754),(6,756)] 3),(1339,.eo 57 211 141 180 3 [66,87,114,141] [162,168,174,180] 4 4),(1340,.el 141 [7] 2 180 [(7,778)] 1)]
theorem qP2_ok : okL qP2 = true := by decide +kernel
noncomputable def qP3 : List (Nat × TQ) := [(57,.ct [] 0 7 0 0),(58,.ct [] 0 7 0 0),(61,.gi 0),(82,.ct [0] 1 7 0 1),(85,.gi 1),(106,.ct [0,1] 2 7 0 2),(109,.gi 2),(130,.ct [0,1,2] 3 7 0 5),(133,.gi 5),(155,.dl [(0,0,45),(1,1,58),(2,2,71)] (5,3,84) 4),(164,.dl [(0,0,45),(1,1,58)] (2,2,71) 5),(172,.ct [0,1,2,5] 4 7 0 4),(175,.gi 4),(196,.ct [0,1,2,4,5] 6 31 1 5),(204,.ct [0,1,2,4,5] 6 31 1 7),(207,.gi 7),(229,.dl [(0,0,45),(1,1,58),(4,2,107)] (7,3,127) 8),(238,.dl [(0,0,45),(1,1,58)] (4,2,107) 9),(246,.ct [0,1,2,4,5,7] 7 31 1 5),(254,.ct [0,1,2,4,5,7] 7 31 1 7),(263,.dl [(0,0,45)] (1,1,58) 10),(271,.ct [0,1,2,4,5,7] 7 31 1 2),(279,.ct [0,1,2,4,5,7] 7 31 1 3),(282,.gi 3),(303,.ct [0,1,2,3,4,5,7] 8 31 1 4),(311,.ct [0,1,2,3,4,5,7] 8 31 1 5),(319,.ct [0,1,2,3,4,5,7] 8 31 1 6),(322,.gi 6),(343,.ct [0,1,2,3,4,5,6,7] 9 31 1 7),(352,.dl [(0,0,45),(3,1,176)] (6,2,203) 13),(360,.ct [0,1,2,3,4,5,6,7] 9 31 1 7),(369,.dl [(0,0,45)] (3,1,176) 14),(377,.ct [0,1,2,3,4,5,6,7] 9 31 1 4),(385,.ct [0,1,2,3,4,5,6,7] 9 31 1 5),(393,.ct [0,1,2,3,4,5,6,7] 9 31 1 6),(401,.ct [0,1,2,3,4,5,6,7] 9 31 1 7),(410,.dl [] (0,0,45) 15),(416,.ct [0,1,2,3,4,5,6,7] 9 31 1 1),(418,.ct [0,1,2,3,4,5,6,7] 9 31 1 2),(420,.ct [0,1,2,3,4,5,6,7] 9 31 1 3),(422,.ct [0,1,2,3,4,5,6,7] 9 31 1 4),(424,.ct [0,1,2,3,4,5,6,7] 9 31 1 5),(426,.ct [0,1,2,3,4,5,6,7] 9 31 1 6),(428,.ct [0,1,2,3,4,5,6,7] 9 31 1 7),(445,.ia false 60 5 [0] 1),(450,.gi 0),(464,.ia true 65 61 [0] 0),(472,.ia false 70 66 [0] 2),(477,.gg 0),(490,.gi 1),(505,.gi 2),(518,.gi 3),(533,.gi 4),(546,.gi 5),(559,.gi 6),(572,.gi 7),(604,.ia false 81 5 [1,3] 4),(609,.gi 1),(614,.gi 3),(628,.ia true 86 82 [1,3] 0),(637,.ia false 91 87 [1,3] 2),(642,.gg 1),(655,.gi 2),(670,.gi 4),(683,.gi 5),(696,.gi 7),(713,.gg 3),(726,.gi 4),(741,.gi 5),(754,.gi 6),(769,.gi 7),(801,.ia false 105 5 [2,4,6] 8),(806,.gi 2),(811,.gi 4),(816,.gi 6),(830,.ia true 110 106 [2,4,6] 0),(840,.ia false 115 111 [2,4,6] 2),(845,.gg 2),(858,.gi 5),(875,.gg 4),(888,.gi 5),(903,.gi 7),(920,.gg 6),(933,.gi 7),(967,.ia false 132 5 [5,7] 11),(972,.gi 5),(977,.gi 7),(991,.ia true 137 133 [5,7] 0),(1000,.ia false 142 138 [5,7] 2),(1005,.gg 5),(1022,.gg 7),(1312,.nz 162 [(0,704)] 1 213),(1315,.nz 168 [(1,726),(3,730)] 2 214),(1318,.nz 174 [(2,748),(4,752),(6,756)] 3 215),(1321,.nz 180 [(5,774),(7,778)] 2 216),(1324,.nz 186 [] 0 217),(1326,.nz 192 [] 0 218),(1328,.nz 198 [] 0 219),(1330,.nz 204 [] 0 220),(1333,.eo 57 211 66 162 0 [66,87,111,138] [162,168,174,180] 4 4),(1334,.el 66 [0] 2 162 [(0,704)] 1),(1335,.eo 57 211 87 168 1 [66,87,111,138] [162,168,174,180] 4 4),(1336,.el 87 [1,3] 2 168 [(1,726),(3,730)] 2),(1337,.eo 57 211 111 174 2 [66,87,111,138] [162,168,174,180] 4 4),(1338,.el 111 [2,4,6] 2 174 [(2,748),(4,752),(6,756)] 3),(1339,.eo 57 211 138 180 3 [66,87,111,138] [162,168,174,180] 4 4),(1340,.el 138 [5,7] 2 180 [(5,774),(7,778)] 2)]
theorem qP3_ok : okL qP3 = true := by decide +kernel
noncomputable def qP5 : List (Nat × TQ) := [(57,.ct [] 0 7 0 0),(58,.ct [] 0 7 0 0),(61,.gi 0),(82,.ct [0] 1 7 0 1),(85,.gi 1),(106,.ct [0,1] 2 7 0 2),(109,.gi 2),(130,.ct [0,1,2] 3 7 0 3),(133,.gi 3),(154,.ct [0,1,2,3] 4 7 0 4),(157,.gi 4),(179,.dl [(0,0,45),(1,1,58),(2,2,71),(3,3,84)] (4,4,97) 5),(188,.dl [(0,0,45),(1,1,58),(2,2,71)] (3,3,84) 6),(196,.ct [0,1,2,3,4] 6 31 1 4),(204,.ct [0,1,2,3,4] 6 31 1 7),(207,.gi 7),(229,.dl [(0,0,45),(1,1,58),(2,2,71)] (7,3,127) 8),(238,.dl [(0,0,45),(1,1,58)] (2,2,71) 9),(246,.ct [0,1,2,3,4,7] 7 31 1 3),(254,.ct [0,1,2,3,4,7] 7 31 1 4),(262,.ct [0,1,2,3,4,7] 7 31 1 6),(265,.gi 6),(286,.ct [0,1,2,3,4,6,7] 8 31 1 7),(295,.dl [(0,0,45),(1,1,58)] (6,2,164) 11),(303,.ct [0,1,2,3,4,6,7] 8 31 1 7),(312,.dl [(0,0,45)] (1,1,58) 12),(320,.ct [0,1,2,3,4,6,7] 8 31 1 2),(328,.ct [0,1,2,3,4,6,7] 8 31 1 3),(336,.ct [0,1,2,3,4,6,7] 8 31 1 4),(344,.ct [0,1,2,3,4,6,7] 8 31 1 5),(347,.gi 5),(368,.ct [0,1,2,3,4,5,6,7] 9 31 1 6),(376,.ct [0,1,2,3,4,5,6,7] 9 31 1 7),(385,.dl [(0,0,45)] (5,1,222) 14),(393,.ct [0,1,2,3,4,5,6,7] 9 31 1 6),(401,.ct [0,1,2,3,4,5,6,7] 9 31 1 7),(410,.dl [] (0,0,45) 15),(416,.ct [0,1,2,3,4,5,6,7] 9 31 1 1),(418,.ct [0,1,2,3,4,5,6,7] 9 31 1 2),(420,.ct [0,1,2,3,4,5,6,7] 9 31 1 3),(422,.ct [0,1,2,3,4,5,6,7] 9 31 1 4),(424,.ct [0,1,2,3,4,5,6,7] 9 31 1 5),(426,.ct [0,1,2,3,4,5,6,7] 9 31 1 6),(428,.ct [0,1,2,3,4,5,6,7] 9 31 1 7),(445,.ia false 60 5 [0] 1),(450,.gi 0),(464,.ia true 65 61 [0] 0),(472,.ia false 70 66 [0] 2),(477,.gg 0),(490,.gi 1),(505,.gi 2),(518,.gi 3),(531,.gi 4),(544,.gi 5),(559,.gi 6),(572,.gi 7),(604,.ia false 81 5 [1,5] 4),(609,.gi 1),(614,.gi 5),(628,.ia true 86 82 [1,5] 0),(637,.ia false 91 87 [1,5] 2),(642,.gg 1),(655,.gi 2),(670,.gi 3),(683,.gi 4),(696,.gi 6),(709,.gi 7),(726,.gg 5),(739,.gi 6),(754,.gi 7),(786,.ia false 105 5 [2,6] 7),(791,.gi 2),(796,.gi 6),(810,.ia true 110 106 [2,6] 0),(819,.ia false 115 111 [2,6] 2),(824,.gg 2),(837,.gi 3),(852,.gi 4),(865,.gi 7),(882,.gg 6),(895,.gi 7),(929,.ia false 129 5 [3,7] 10),(934,.gi 3),(939,.gi 7),(953,.ia true 134 130 [3,7] 0),(962,.ia false 139 135 [3,7] 2),(967,.gg 3),(980,.gi 4),(999,.gg 7),(1031,.ia false 153 5 [4] 12),(1036,.gi 4),(1050,.ia true 158 154 [4] 0),(1058,.ia false 163 159 [4] 2),(1063,.gg 4),(1353,.nz 180 [(0,732)] 1 231),(1356,.nz 186 [(1,754),(5,762)] 2 232),(1359,.nz 192 [(2,776),(6,784)] 2 233),(1362,.nz 198 [(3,798),(7,806)] 2 234),(1365,.nz 204 [(4,820)] 1 235),(1368,.nz 210 [] 0 236),(1370,.nz 216 [] 0 237),(1372,.nz 222 [] 0 238),(1375,.eo 57 229 66 180 0 [66,87,111,135,159] [180,186,192,198,204] 5 5),(1376,.el 66 [0] 2 180 [(0,732)] 1),(1377,.eo 57 229 87 186 1 [66,87,111,135,159] [180,186,192,198,204] 5 5),(1378,.el 87 [1,5] 2 186 [(1,754),(5,762)] 2),(1379,.eo 57 229 111 192 2 [66,87,111,135,159] [180,186,192,198,204] 5 5),(1380,.el 111 [2,6] 2 192 [(2,776),(6,784)] 2),(1381,.eo 57 229 135 198 3 [66,87,111,135,159] [180,186,192,198,204] 5 5),(1382,.el 135 [3,7] 2 198 [(3,798),(7,806)] 2),(1383,.eo 57 229 159 204 4 [66,87,111,135,159] [180,186,192,198,204] 5 5),(1384,.el 159 [4] 2 204 [(4,820)] 1)]
theorem qP5_ok : okL qP5 = true := by decide +kernel
noncomputable def qP7 : List (Nat × TQ) := [(57,.ct [] 0 7 0 0),(58,.ct [] 0 7 0 0),(61,.gi 0),(82,.ct [0] 1 7 0 1),(85,.gi 1),(106,.ct [0,1] 2 7 0 2),(109,.gi 2),(130,.ct [0,1,2] 3 7 0 3),(133,.gi 3),(154,.ct [0,1,2,3] 4 7 0 4),(157,.gi 4),(178,.ct [0,1,2,3,4] 6 31 1 5),(181,.gi 5),(202,.ct [0,1,2,3,4,5] 7 31 1 6),(205,.gi 6),(227,.dl [(0,0,45),(1,1,58),(2,2,71),(3,3,84),(4,4,97),(5,5,110)] (6,6,123) 7),(236,.dl [(0,0,45),(1,1,58),(2,2,71),(3,3,84),(4,4,97)] (5,5,110) 8),(244,.ct [0,1,2,3,4,5,6] 8 31 1 6),(253,.dl [(0,0,45),(1,1,58),(2,2,71),(3,3,84)] (4,4,97) 9),(261,.ct [0,1,2,3,4,5,6] 8 31 1 5),(269,.ct [0,1,2,3,4,5,6] 8 31 1 6),(278,.dl [(0,0,45),(1,1,58),(2,2,71)] (3,3,84) 10),(286,.ct [0,1,2,3,4,5,6] 8 31 1 4),(294,.ct [0,1,2,3,4,5,6] 8 31 1 5),(302,.ct [0,1,2,3,4,5,6] 8 31 1 6),(311,.dl [(0,0,45),(1,1,58)] (2,2,71) 11),(319,.ct [0,1,2,3,4,5,6] 8 31 1 3),(327,.ct [0,1,2,3,4,5,6] 8 31 1 4),(335,.ct [0,1,2,3,4,5,6] 8 31 1 5),(343,.ct [0,1,2,3,4,5,6] 8 31 1 6),(352,.dl [(0,0,45)] (1,1,58) 12),(360,.ct [0,1,2,3,4,5,6] 8 31 1 2),(368,.ct [0,1,2,3,4,5,6] 8 31 1 3),(376,.ct [0,1,2,3,4,5,6] 8 31 1 4),(384,.ct [0,1,2,3,4,5,6] 8 31 1 5),(392,.ct [0,1,2,3,4,5,6] 8 31 1 6),(400,.ct [0,1,2,3,4,5,6] 8 31 1 7),(403,.gi 7),(425,.dl [(0,0,45)] (7,1,271) 14),(434,.dl [] (0,0,45) 15),(440,.ct [0,1,2,3,4,5,6,7] 9 31 1 1),(442,.ct [0,1,2,3,4,5,6,7] 9 31 1 2),(444,.ct [0,1,2,3,4,5,6,7] 9 31 1 3),(446,.ct [0,1,2,3,4,5,6,7] 9 31 1 4),(448,.ct [0,1,2,3,4,5,6,7] 9 31 1 5),(450,.ct [0,1,2,3,4,5,6,7] 9 31 1 6),(452,.ct [0,1,2,3,4,5,6,7] 9 31 1 7),(469,.ia false 60 5 [0] 1),(474,.gi 0),(488,.ia true 65 61 [0] 0),(496,.ia false 70 66 [0] 2),(501,.gg 0),(514,.gi 1),(529,.gi 2),(542,.gi 3),(555,.gi 4),(568,.gi 5),(581,.gi 6),(594,.gi 7),(628,.ia false 81 5 [1,7] 4),(633,.gi 1),(638,.gi 7),(652,.ia true 86 82 [1,7] 0),(661,.ia false 91 87 [1,7] 2),(666,.gg 1),(679,.gi 2),(694,.gi 3),(707,.gi 4),(720,.gi 5),(733,.gi 6),(750,.gg 7),(782,.ia false 105 5 [2] 6),(787,.gi 2),(801,.ia true 110 106 [2] 0),(809,.ia false 115 111 [2] 2),(814,.gg 2),(827,.gi 3),(842,.gi 4),(855,.gi 5),(868,.gi 6),(900,.ia false 126 5 [3] 8),(905,.gi 3),(919,.ia true 131 127 [3] 0),(927,.ia false 136 132 [3] 2),(932,.gg 3),(945,.gi 4),(960,.gi 5),(973,.gi 6),(1005,.ia false 147 5 [4] 10),(1010,.gi 4),(1024,.ia true 152 148 [4] 0),(1032,.ia false 157 153 [4] 2),(1037,.gg 4),(1050,.gi 5),(1065,.gi 6),(1097,.ia false 168 5 [5] 12),(1102,.gi 5),(1116,.ia true 173 169 [5] 0),(1124,.ia false 178 174 [5] 2),(1129,.gg 5),(1142,.gi 6),(1176,.ia false 189 5 [6] 14),(1181,.gi 6),(1195,.ia true 194 190 [6] 0),(1203,.ia false 199 195 [6] 2),(1208,.gg 6),(1498,.nz 216 [(0,836)] 1 267),(1501,.nz 222 [(1,858),(7,870)] 2 268),(1504,.nz 228 [(2,880)] 1 269),(1507,.nz 234 [(3,902)] 1 270),(1510,.nz 240 [(4,924)] 1 271),(1513,.nz 246 [(5,946)] 1 272),(1516,.nz 252 [(6,968)] 1 273),(1519,.nz 258 [] 0 274),(1522,.eo 57 265 66 216 0 [66,87,111,132,153,174,195] [216,222,228,234,240,246,252] 7 7),(1523,.el 66 [0] 2 216 [(0,836)] 1),(1524,.eo 57 265 87 222 1 [66,87,111,132,153,174,195] [216,222,228,234,240,246,252] 7 7),(1525,.el 87 [1,7] 2 222 [(1,858),(7,870)] 2),(1526,.eo 57 265 111 228 2 [66,87,111,132,153,174,195] [216,222,228,234,240,246,252] 7 7),(1527,.el 111 [2] 2 228 [(2,880)] 1),(1528,.eo 57 265 132 234 3 [66,87,111,132,153,174,195] [216,222,228,234,240,246,252] 7 7),(1529,.el 132 [3] 2 234 [(3,902)] 1),(1530,.eo 57 265 153 240 4 [66,87,111,132,153,174,195] [216,222,228,234,240,246,252] 7 7),(1531,.el 153 [4] 2 240 [(4,924)] 1),(1532,.eo 57 265 174 246 5 [66,87,111,132,153,174,195] [216,222,228,234,240,246,252] 7 7),(1533,.el 174 [5] 2 246 [(5,946)] 1),(1534,.eo 57 265 195 252 6 [66,87,111,132,153,174,195] [216,222,228,234,240,246,252] 7 7),(1535,.el 195 [6] 2 252 [(6,968)] 1)]
theorem qP7_ok : okL qP7 = true := by decide +kernel
noncomputable abbrev rowSet : String := "set-order"
noncomputable def withAS (N : NmM) (aS : Nat) : NmM := { N with aS := aS }
section
variable (w : World) (it aV sz tk gz : Nat) (Z : SoT) (I : Nat → Inf) (tv : Nat → Nat) (N : NmM) (pp : Pos)
noncomputable def lE (p : Nat) : List (Nat × Obj) := [(269,frM w 3 (withAS N Z.aS)),(it,Rt1 8 0),(Z.aS,soS Z),(Z.aD,soD w.params Z),(Z.aN + 300,soN I 8),(276,Cel (.ref aV)),(aV,Lo (levV p tv 8).toArray 8)] ++ infL p 8 I
noncomputable def mE9 (p : Nat) (h a : List Nat) (q : List (Nat × TQ)) : Cf := st0 (den (lG w it)) (lG w it) pp (frS (m9D w) (lFn w) (lSt w)) [(lFn w,frPos (m9D w)),callerC] [none,none,none] (lE w it aV Z I tv N p) sz tk gz [] h a (asO (!(w.params.followText rowSet)) sz tk Z.aN I q)
noncomputable def PEnd (p n : Nat) (h a : List Nat) (q : List (Nat × TQ)) : Prop := EndR w 0 n (mE9 w it aV sz tk gz Z I tv N pp p h a q) [] (.b true) (lSt w) [] []
theorem p2_end : PEnd w it aV sz tk gz Z I tv N pp 2 17874 hP2 aP2 qP2 := by unfold PEnd EndR; kernel_rfl
theorem p3_end : PEnd w it aV sz tk gz Z I tv N pp 3 17874 hP3 aP3 qP3 := by unfold PEnd EndR; kernel_rfl
theorem p5_end : PEnd w it aV sz tk gz Z I tv N pp 5 18514 hP5 aP5 qP5 := by unfold PEnd EndR; kernel_rfl
theorem p7_end : PEnd w it aV sz tk gz Z I tv N pp 7 20550 hP7 aP7 qP7 := by unfold PEnd EndR; kernel_rfl
end
theorem p_end {p : Nat} (hp : p ∈ [2,3,5,7]) : ∃ n h a q,okL q = true ∧ ∀ w it aV sz tk gz Z I tv N pp,PEnd w it aV sz tk gz Z I tv N pp p n h a q := by
  have hp : p = 2 ∨ p = 3 ∨ p = 5 ∨ p = 7 := by simpa using hp
  rcases hp with rfl | rfl | rfl | rfl
  · exact ⟨_,_,_,_,qP2_ok,p2_end⟩
  · exact ⟨_,_,_,_,qP3_ok,p3_end⟩
  · exact ⟨_,_,_,_,qP5_ok,p5_end⟩
  · exact ⟨_,_,_,_,qP7_ok,p7_end⟩
theorem law_end {w : World} {s : Shared} {it p d : Nat} (hp : p ∈ [2,3,5,7]) (M : MSt w it p d 8 s) (pp : Pos) :
    ∃ s' warm c1 c2,Ext (fun b => 269 ≤ b) s s' ∧ Tab s' warm c1 c2 ∧ ∀ Z,Good w Z s' ⟨lK w (.ok (.ret (.bool true))),.builtin "claim.caller" {},lPs w,[]⟩ → Good w Z s ⟨den (lG w it),lG w it,pp,frS (m9D w) (lFn w) (lSt w)⟩ := by
  refine xE15 M fun tp N b0 Li0 aR tr aW tw aV tv Z I warm c1 c2 hx => xA5 hx fun hNd hNo hNs Iv Tb O => ?_; clear hx; clear M
  refine xE4 (p_end hp) fun n h a q hx => xA1 hx fun hq PE => ?_; clear hx
  have H := PE w it aV s.heap.objs.size s.toks s.gens.size Z I tv N pp
  unfold PEnd at H
  have H : EndR w 0 n (mE9 w it aV s.heap.objs.size s.toks s.gens.size Z I tv N pp p h a q) [] (.b true) [.ret (lK w) none (lGd w) (lLv w) (.builtin "claim.caller" {}) (lPs w) []] [] [] := by rw [← lSt_eq]; exact H
  have nN : withAS N Z.aS = N := by
    unfold withAS
    rw [← hNs]
  have UL : Und (lSt w) (lSw w) := ⟨lSt_sw w,lSt_h w⟩
  have hUn := UL.cons (kOf (m9D w)) (frG (m9D w)) (frL (m9D w)) (lFn w) (frPos (m9D w))
  rw [lSw_eq] at hUn
  have OL : OwnN (lE w it aV Z I tv N p) s.heap := by
    unfold lE
    rw [nN]
    exact OwnN.pick (l := [(269,frM w (shm 8) N),(271,Cel (.int p tp)),(it,Rt1 (8 : Nat) (8 - (8 : Nat))),(272,Cel (.bool b0)),(273,Cel (.ref Li0)),(274,Cel (.ref aR)),(aR,Lo (rowV 8 tr).toArray 0),(275,Cel (.ref aW)),(aW,Lo (wdsL (wdF p) tw 8).toArray 8),(276,Cel (.ref aV)),(aV,Lo (levV p tv 8).toArray 8),(Z.aS,soS Z),(Z.aD,soD w.params Z),(Z.aN + 300,soN I 8)])
      (l' := [(269,frM w 3 N),(it,Rt1 8 0),(Z.aS,soS Z),(Z.aD,soD w.params Z),(Z.aN + 300,soN I 8),(276,Cel (.ref aV)),(aV,Lo (levV p tv 8).toArray 8)]) [0,2,11,12,13,9,10] O rfl (by decide)
  refine segRE (I := Iv) (OW := own_nodup OL.get8 OL.nd) (p := pp) hUn.w (hd := [none,none,none]) ⟨hUn.h,lHd w⟩ (ch := []) (fun a vs e => (chNil e).elim) H (asO_good hq) fun s' v hv X _ _ G => ?_
  obtain rfl := strip_b hv
  have X' : Ext (fun b => 269 ≤ b) s s' := X.mono fun b hb => by
    rcases hb with hb | ⟨vs,e⟩
    · obtain ⟨z,hz,rfl⟩ := List.mem_map.1 (upd_mem hb)
      exact (OL.get z hz).1
    · exact (chNil e).elim
  exact ⟨s',warm,c1,c2,X',X'.keep _ _ Tb (by lia),G⟩
noncomputable def U0 (b : Nat) : Prop := b = 85 ∨ b = 219 ∨ 269 ≤ b
theorem Ext.u {u : Nat → Prop} {s s' : Shared} (X : Ext u s s') (h : ∀ b,u b → U0 b) : Ext U0 s s' := X.mono h
theorem Ext.tu {s s' s'' : Shared} (X : Ext U0 s s') (Y : Ext U0 s' s'') : Ext U0 s s'' := (X.trans Y).mono fun _ h => h.elim id id
theorem bare_of_clean {y : GenState} (h : cleanG y) : y.bare = true := by
  cases y with
  | suspended a b c d e f =>
    have h : f = false := h
    subst h
    rfl
  | _ => rfl
theorem law_call : CallM topHook.obs topHook.val := by
  intro w s₀ hY hg ns vs tk hl hv htk
  obtain ⟨hold,hsz,htoks⟩ : olds.map s₀.heap.get? = oldObjs w.params ∧ s₀.heap.objs.size = 268 ∧ s₀.toks = 811 := by
    have h1 := congrArg Prod.fst hY
    have h2 := congrArg (fun x => x.2.1) hY
    have h3 := congrArg (fun x => x.2.2) hY
    exact ⟨h1,h2,h3⟩
  rw [hsz]
  generalize hs : ({ s₀ with heap := s₀.heap.push { cls := .type "list",data := .seq vs.toArray },toks := tk } : Shared) = s
  have hheap : s.heap = s₀.heap.push { cls := .type "list",data := .seq vs.toArray } := by rw [← hs]
  have hgens : s.gens = #[] := by rw [← hs]; exact hg
  have hos : s.os = s₀.os := by rw [← hs]
  have keep0 : ∀ b o,s₀.heap.get? b = some o → s.heap.get? b = some o := fun b o e => by rw [hheap]; exact Heap.get?_push_of_some _ e
  have size0 : s.heap.objs.size = 269 := by rw [hheap,Heap.size_push,hsz]
  have h68 : s.heap.get? 268 = some (Lo vs.toArray 0) := by
    have := Heap.get?_push_size s₀.heap (o := { cls := .type "list",data := .seq vs.toArray }) rfl
    rw [hsz] at this
    rw [hheap]; exact this
  have I0 : Inv w s := ⟨fun a o ha e => keep0 a o (kt_some hold ha e),by lia,fun g st e => by rw [hgens] at e; simp at e⟩
  have old85 : s₀.heap.get? 85 = some (tableObj #[]) := by
    have := congrArg (fun l => l[17]?) hold
    have : some (s₀.heap.get? 85) = some (some (o85 w.params)) := this
    rw [o85_is] at this
    exact Option.some.inj this
  have old219 : s₀.heap.get? 219 = some (tableObj #[]) := by
    have := congrArg (fun l => l[48]?) hold
    have : some (s₀.heap.get? 219) = some (some (o219 w.params)) := this
    rw [o219_is] at this
    exact Option.some.inj this
  have old89 : s₀.heap.get? 89 = some (o89 w.params) := by
    have := congrArg (fun l => l[18]?) hold
    exact Option.some.inj this
  have old223 : s₀.heap.get? 223 = some (o223 w.params) := by
    have := congrArg (fun l => l[49]?) hold
    exact Option.some.inj this
  refine xE7 (h1 size0 I0 h68 (by simpa using hv) hl) fun s1 k0 ta tb A B pp1 hx => xA6 hx fun X1 g69 g70 gc g84 z1 G1 => ?_; clear hx
  have I1 := X1.inv I0 fun _ h => h.elim
  refine xE10 (h2 I1 z1 g69 g70 g84 pp1) fun s2 r k1 t0 t1 t2 b0 b1 b2 pp2 hx => xA8 hx fun hr hb X2 q69 q70 q84 q95 z2 G2 => ?_; clear hx
  have I2 := X2.inv I1 fun b h => .inl (by lia)
  have gc2 : ∀ a : Nat,271 ≤ a → a ≤ 276 → s2.heap.get? a = some cel0 := fun a h1 h2 => X2.keep _ _ (gc a h1 h2) (by lia)
  refine xE7 (h3 I2 z2 q69 q70 (gc2 271 (by lia) (by lia)) q84 pp2) fun s3 i d k2 td tp pp3 hx => xA6 hx fun hi hd X3 r69 r71 z3 G3 => ?_; clear hx
  have I3 := X3.inv I2 fun b h => .inl (by lia)
  have gc3 : ∀ a : Nat,272 ≤ a → a ≤ 276 → s3.heap.get? a = some cel0 := fun a h1 h2 => X3.keep _ _ (gc2 a (by lia) h2) (by lia)
  have r95 := X3.keep _ _ q95 (by lia)
  have t3 : s3.heap.get? 219 = some (tableObj #[]) := X3.keep _ _ (X2.keep _ _ (X1.same (keep0 _ _ old219)) (by lia)) (by lia)
  refine xE5 (h4 I3 z3 hr hb r69 r95 t3 pp3) fun s4 k3 tn tvs pp4 hx => xA3 hx fun X4 u69 u219 G4 => ?_; clear hx
  have I4 := X4.inv I3 fun b h => by lia
  have gc4 : ∀ a : Nat,272 ≤ a → a ≤ 276 → s4.heap.get? a = some cel0 := fun a h1 h2 => X4.keep _ _ (gc3 a h1 h2) (by lia)
  have u71 := X4.keep _ _ r71 (by lia)
  have u95 := X4.keep _ _ r95 (by lia)
  have Tb4 : Tab s4 false 0 0 := X4.keep _ _ (X3.keep _ _ (X2.keep _ _ (X1.same (keep0 _ _ old85)) (by lia)) (by lia)) (by lia)
  have hp : prm i ∈ [2,3,5,7] := by
    have e : i = 0 ∨ i = 1 ∨ i = 2 ∨ i = 3 := by lia
    rcases e with rfl | rfl | rfl | rfl <;> decide
  have p27 : 2 ≤ prm i ∧ prm i ≤ 7 := by
    have : prm i = 2 ∨ prm i = 3 ∨ prm i = 5 ∨ prm i = 7 := by simpa using hp
    lia
  have hus : (usB r b0.toNat.toUInt8 b1.toNat.toUInt8 b2.toNat.toUInt8).size ≤ 3 := by
    match r,hr with
    | 0,_ => exact (by decide : 0 ≤ 3)
    | 1,_ => exact (by decide : 1 ≤ 3)
    | 2,_ => exact (by decide : 2 ≤ 3)
    | 3,_ => exact (by decide : 3 ≤ 3)
  have hn := fb_small hus
  have e26 : (2 ^ 26 : Int) = 67108864 := by decide
  have e25 : (2 ^ 25 : Nat) = 33554432 := by decide
  refine xE2 (digs_ex p27 26 (fbV (usB r b0.toNat.toUInt8 b1.toNat.toUInt8 b2.toNat.toUInt8)) (by lia) (by lia)) fun fs e hx => xA3 hx fun D hfl hff he => ?_; clear hx
  refine xE11 (h5 I4 u69 u71 (gc4 272 (by lia) (by lia)) (gc4 273 (by lia) (by lia)) u95 Tb4 D hp hd hff hfl pp4) fun s5 A5 it Li hi5 lvs ep warm' c1' c2' pp5 hx => xA10 hx fun is8 ai al hhi ne K5 T5 X5 U5 H5 G5 => ?_; clear hx
  have gc5 : ∀ a : Nat,274 ≤ a → a ≤ 276 → s5.heap.get? a = some cel0 := fun a h1 h2 => X5.keep _ _ (gc4 a (by lia) h2) (by lia)
  have hlen : ((tksOf (prm i) d 5 fs e).map Tk.item).length ≤ 30 := by
    rw [List.length_map,tks_len]
    split <;> lia
  have hst : decide (e = -1) = false → 5 ≤ ((tksOf (prm i) d 5 fs e).map Tk.item).length := fun h => by
    rw [List.length_map,tks_len,if_neg (of_decide_eq_false h)]
    lia
  refine xE3 (k_loop U5 H5 (by lia) (by lia) hhi ne (by lia) (by lia) hr hb hp hlen hst (k_takes hp hd D hff) 25 (kn := 0) (by lia) K5 pp5) fun s6 sh6 pp6 hx => xA4 hx fun _ hsh6 K6 X6 G6 => ?_; clear hx
  obtain rfl := hsh6 (by decide)
  have T6 : Tab s6 warm' c1' c2' := X6.keep _ _ T5 (by lia)
  have gc6 : ∀ a : Nat,274 ≤ a → a ≤ 276 → s6.heap.get? a = some cel0 := fun a h1 h2 => X6.keep _ _ (gc5 a h1 h2) (by lia)
  refine xE3 (k5 is8 ai K6 T6 (gc6 274 (by lia) (by lia)) (gc6 275 (by lia) (by lia)) (gc6 276 (by lia) (by lia)) pp6) fun s7 it7 pp7 hx => xA2 hx fun M7 X7 G7 => ?_; clear hx
  have UL : Und (lSt w) (lSw w) := ⟨lSt_sw w,lSt_h w⟩
  have hUn := UL.cons (kOf (m9D w)) (frG (m9D w)) (frL (m9D w)) (lFn w) (frPos (m9D w))
  rw [lSw_eq] at hUn
  refine xE2 (m_loop (rest := frS (m9D w) (lFn w) (lSt w)) (q := frPos (m9D w)) hUn ⟨hUn.h,lSt_h w,trivial⟩ hp hd 8 0 s7 rfl M7 pp7) fun s8 pp8 hx => xA2 hx fun M8 X8 G8 => ?_; clear hx
  refine xE4 (law_end hp M8 pp8) fun s9 warm9 c19 c29 hx => xA2 hx fun X9 T9 G9 => ?_; clear hx
  have u9 : ∀ b,U9 b → U0 b := fun b h => by rcases h with h | h <;> unfold U0 <;> lia
  have XA : Ext U0 s s9 := ((((((((X1.u fun _ h => h.elim).tu (X2.u fun b h => by unfold U0; lia)).tu (X3.u fun b h => by unfold U0; lia)).tu (X4.u fun b h => by unfold U0; lia)).tu (X5.u fun b h => by unfold U0; lia)).tu (X6.u fun b h => by unfold U0; lia)).tu (X7.u u9)).tu (X8.u u9)).tu (X9.u fun b h => by unfold U0; lia)
  have t9 : s9.heap.get? 219 = some (tableObj tvs) := X9.keep _ _ (X8.keep _ _ (X7.keep _ _ (X6.keep _ _ (X5.keep _ _ u219 (by lia)) (by lia)) (by unfold U9; lia)) (by unfold U9; lia)) (by lia)
  have bare : ∀ y ∈ s9.gens,y.bare = true := fun y hy => by
    obtain ⟨j,hj,rfl⟩ := Array.mem_iff_getElem.1 hy
    exact bare_of_clean (X9.gens j _ (Array.getElem?_eq_getElem hj))
  have hclean := leftWithCleanup_false_of_bare bare
  refine G1 _ (G2 _ (G3 _ (G4 _ (G5 _ (G6 _ (G7 _ (G8 _ (G9 _ ?_))))))))
  rw [lK_true]
  refine good_end hclean ⟨rfl,⟨fun b o eb => ?_,fun b o eb => ?_⟩,XA.os.trans hos,bare,hclean⟩
  · have eb' : s.heap.get? b = some o := by rw [hheap]; exact eb
    by_cases h85 : b = 85
    · subst h85
      have : s.heap.get? 85 = some (tableObj #[]) := keep0 _ _ old85
      rw [this] at eb'
      cases eb'
      refine .inr (.inl ⟨⟨89,_,_,Heap.get?_push_of_some _ old89,rfl,rfl,rfl⟩,rfl,#[],tabV warm9 c19 c29,rfl,?_⟩)
      rw [T9,Array.empty_append]
      rfl
    · by_cases h219 : b = 219
      · subst h219
        have : s.heap.get? 219 = some (tableObj #[]) := keep0 _ _ old219
        rw [this] at eb'
        cases eb'
        refine .inr (.inl ⟨⟨223,_,_,Heap.get?_push_of_some _ old223,rfl,rfl,rfl⟩,rfl,#[],tvs,rfl,?_⟩)
        rw [t9,Array.empty_append]
        rfl
      · have lt : @LT.lt Nat _ b 269 := by
          have := Heap.lt_size eb'
          rw [size0] at this
          exact this
        exact .inl (XA.keep _ _ eb' (by
          intro h
          rcases h with h | h | h
          · exact h85 h
          · exact h219 h
          · exact absurd lt (Nat.not_lt.mpr h)))
  · have eb' : s.heap.get? b = some o := by rw [hheap]; exact eb
    by_cases h85 : b = 85
    · subst h85; exact ⟨_,T9⟩
    · by_cases h219 : b = 219
      · subst h219; exact ⟨_,t9⟩
      · have lt : @LT.lt Nat _ b 269 := by
          have := Heap.lt_size eb'
          rw [size0] at this
          exact this
        exact ⟨_,XA.keep _ _ eb' (by
          intro h
          rcases h with h | h | h
          · exact h85 h
          · exact h219 h
          · exact absurd lt (Nat.not_lt.mpr h))⟩
noncomputable def pickR (ks : List Bool) : List Stmt → List Stmt := @List.rec Bool (fun _ => List Stmt → List Stmt) (fun _ => []) (fun b _ ih l => @List.rec Stmt (fun _ => List Stmt) [] (fun s r _ => @Bool.rec (fun _ => List Stmt) (ih r) (s :: ih r) b) l) ks
noncomputable def viewOf (p : Program) (l : List Bool) : Program := { p with main := { p.main with body := pickR l p.main.body } }
noncomputable abbrev lsv : List PySem.Str := [PySem.Str.ofString "_twin_re_1",PySem.Str.ofString "_special_chars_map",PySem.Str.ofString "_NodeInfo"]
noncomputable abbrev lvv : List (PySem.Str × WData) := []
noncomputable def qv : Program := viewOf PySem.Challenge.pw_ik0207_01 [true,true,false,true,false,true,false,true,false,true,true,false,true,true,false,true,true,false,true,true,true,true,true,false,true,true,true,true,true,true,true,true]
noncomputable def xtv : Shared → Bool := fun s => xlAt qv lvv s && recOk (RowW.records (OpenRow.toRowW rr)) s
noncomputable abbrev leftW (w : World) : Prop := (openEnds treeTable PySem.Challenge.pw_ik0207_01 w 5934).map (fun s => (openSeen qv lsv (importedModules PySem.Challenge.pw_ik0207_01.main.body) xtv true s,topHook.obs s)) = some (openGood qv lsv,topHook.val w)
noncomputable def fenF (p : Program) (w : World) (N : Nat) : Option Shared := (Fast.tw10274390034422433532 Fast.tw14364793385576792824 (opening p) w N (Fast.tw1435165496053646825 (opening p)).1 (Fast.tw1435165496053646825 (opening p)).2).bind (Fast.tw14289696077712309145 p)
noncomputable def endF (p : Program) (w : World) (N : Nat) (s₀ : Shared) : Option Shared :=
  match s₀.heap.isNs mainGlobals && s₀.gens.size == 0 with
  | true => (Fast.tw14082659384304107361 Fast.tw14364793385576792824 p w s₀.heap.objs.size (s₀.heap.nsMap mainGlobals "__annotations__") N s₀ (topStub p)).bind fun s₁ => match staticsOk (importedModules p.main.body) s₀.heap s₁.heap && namesBound p s₁.heap && gensDone s₁ && laidKept s₀.heap s₁.heap with
      | true => some s₁
      | false => none
  | false => none
theorem ends_eq (p : Program) (w : World) (N : Nat) : openEnds treeTable p w N = (fenF p w N).bind (endF p w N) := by
  unfold fenF endF
  rw [← Fast.te10274390034422433532,← Fast.te14364793385576792824,← Fast.te1435165496053646825,← Fast.te14289696077712309145,← Fast.te14082659384304107361]
  rfl
noncomputable abbrev leftF (w : World) : Prop := ((fenF PySem.Challenge.pw_ik0207_01 w 5934).bind (endF PySem.Challenge.pw_ik0207_01 w 5934)).map (fun s => (Fast.tw4187177175401517315 qv lsv (importedModules PySem.Challenge.pw_ik0207_01.main.body) xtv true s,topHook.obs s)) = some (openGood qv lsv,topHook.val w)
theorem left_of {w : World} (h : leftF w) : leftW w := by
  show (openEnds treeTable PySem.Challenge.pw_ik0207_01 w 5934).map _ = _
  rw [ends_eq,Fast.te4187177175401517315]
  exact h
theorem left_ff (w : World) : leftF ((w.withFollow "special-get-raises" false).withFollow "comprehension-iter-twice" false) := by kernel_rfl
theorem left_ft (w : World) : leftF ((w.withFollow "special-get-raises" true).withFollow "comprehension-iter-twice" false) := by kernel_rfl
theorem left_tf (w : World) : leftF ((w.withFollow "special-get-raises" false).withFollow "comprehension-iter-twice" true) := by kernel_rfl
theorem left_tt (w : World) : leftF ((w.withFollow "special-get-raises" true).withFollow "comprehension-iter-twice" true) := by kernel_rfl
theorem left_v : LeftO PySem.Challenge.pw_ik0207_01 qv lsv xtv topHook.obs topHook.val 5934 := by
  intro w
  refine left_of ?_
  refine byRow2 "comprehension-iter-twice" (P := leftF) ?_ ?_ w
  · exact fun w => byRow2 "special-get-raises" (P := fun v => leftF (v.withFollow "comprehension-iter-twice" false)) left_ff left_ft w
  · exact fun w => byRow2 "special-get-raises" (P := fun v => leftF (v.withFollow "comprehension-iter-twice" true)) left_tf left_tt w
theorem said_l : OpenLaw.wellSaid PySem.Challenge.rw_ik0207_01 = true := by
  rw [Fast.te9446332074065402090]; kernel_rfl
theorem main : PySem.Challenge.rw_ik0207_01.Holds := by
  refine holds_law said_l fun said => ?_
  refine PySem.W.holds_open (q := qv) (loose := lsv) (Xt := xtv) (XP := XL qv lvv) (Yf := Hook.obs topHook) (Ya := Hook.val topHook) (YP := Hook.says topHook) (N := 5934) left_v (Hook.of topHook) (Hook.keeps topHook) (fun s e => xl_of s (Bool.and_eq_true_iff.mp e).1) XL.keeps (by rfl) (by rfl) (by rfl) (fun s e => recFacts_of (Bool.and_eq_true_iff.mp e).2) (by rfl) (by first | assumption | decide +kernel) (by decide +kernel) ⟨rfl,rfl,rfl,rfl,rfl,by decide +kernel⟩ ?hw ?hc
  case hw => w_witness2
  exact law_call
end Mine
set_option maxHeartbeats 0 in
theorem PySem.Challenge.cw_ik0207_01_holds : PySem.Challenge.rw_ik0207_01.Holds := by
  exact Mine.main
